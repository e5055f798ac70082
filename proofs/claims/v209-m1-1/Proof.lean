import JvmDerived
import JvmDerived.Pilot.@@N@@Statement
import JvmDerived.Pilot.@@N@@Code
set_option linter.unusedVariables false
set_option linter.unusedSimpArgs false
namespace Jvm.Pilot.@@N@@
open Jvm Jvm.ClassFile Sem Op Lib Jvm.Free Jvm.Stand Jvm.LawKit Jvm.RoadKit Bundle Jvm.Pilot.@@N@@.Jvm.D
section Own
variable {p : Program} {l : Launch} {e : Env} {R : Room} {s : State} {m : MethodId} {args : Array Value} {below : List Frame} {meth : Method} {c : Code} {T : State} {locs : List Loc} {cells slots : Nat} {Z : State} {a0 : Array Value} {h h' : Heap}
/-- the walk's goal: from S the method comes back with what Q says -/
def own_G (p : Program) (e : Env) (s : State) (below : List Frame) (Q : Option Value → Heap → List Loc → Prop) (kc ks : Nat) (S : State) : Prop :=
  ∃ s₂ o, Steps p.tables e below S s₂ ∧ s₂.status = .running ∧ Ended s₂ below o ∧ ∃ v L, o = .returned v ∧ Q v s₂.heap L ∧ FrameEnd s o s₂ L kc ks
theorem own_go {Q : Option Value → Heap → List Loc → Prop} {kc ks : Nat} {S S' : State} (k : ∀ t, Steps p.tables e below S' t → Steps p.tables e below S t) (g : own_G p e s below Q kc ks S') : own_G p e s below Q kc ks S := by
  obtain ⟨s2, o, h1, h2⟩ := g
  exact ⟨s2, o, k _ h1, h2⟩
theorem own_retI {Q : Option Value → Heap → List Loc → Prop} {kc ks : Nat} (X : Stand p l e R s m args below meth c T locs cells slots) (hx : p.tables.exec = Jvm.exec) (hlk : meth.locks = false) (hret : meth.sig.returnType = some .int) {pc : Nat} {Ls : Array Slot} {z : Int32} {rest : List Value} (hd : decode c.code pc = .ok (.ireturn, 1)) (hc : cells ≤ kc) (hs : slots ≤ ks) (hQ : Q (some (.int z)) T.heap locs) :
    own_G p e s below Q kc ks (T.setTop (mkF m pc Ls (.int z :: rest))) := by
  obtain ⟨fs, hr, hrun, hended, hW, hsame⟩ := X.leave (v := some (.int z)) (fun h => by rw [hret] at h; cases h) hlk
  exact ⟨_, _, retOut X hx hret rfl (Or.inl ⟨rfl, Or.inl rfl, z, rfl⟩) hd hr, hrun, hended, _, _, rfl, hQ, ⟨_, rfl⟩, hW, hsame.mono hc hs⟩
theorem own_retN {Q : Option Value → Heap → List Loc → Prop} {kc ks : Nat} (X : Stand p l e R s m args below meth c T locs cells slots) (hx : p.tables.exec = Jvm.exec) (hlk : meth.locks = false) {t : FieldType} (hret : meth.sig.returnType = some t) (ht : t = .boolean ∨ t = .byte ∨ t = .char ∨ t = .short) {pc : Nat} {Ls : Array Slot} {z : Int32} {rest : List Value} (hd : decode c.code pc = .ok (.ireturn, 1)) (hc : cells ≤ kc) (hs : slots ≤ ks) (hQ : Q (some (.int (nar t z))) T.heap locs) :
    own_G p e s below Q kc ks (T.setTop (mkF m pc Ls (.int z :: rest))) := by
  obtain ⟨fs, hr, hrun, hended, hW, hsame⟩ := X.leave (v := some (.int (nar t z))) (fun h => by rw [hret] at h; cases h) hlk
  exact ⟨_, _, retN X hx hret ht hd hr, hrun, hended, _, _, rfl, hQ, ⟨_, rfl⟩, hW, hsame.mono hc hs⟩
theorem own_retA {Q : Option Value → Heap → List Loc → Prop} {kc ks : Nat} (X : Stand p l e R s m args below meth c T locs cells slots) (hx : p.tables.exec = Jvm.exec) (hlk : meth.locks = false) {t : FieldType} (hret : meth.sig.returnType = some t) (ht : t.isReference = true) {pc : Nat} {Ls : Array Slot} {w : Value} (hv : w.isRef = true) {rest : List Value} (hd : decode c.code pc = .ok (.areturn, 1)) (hc : cells ≤ kc) (hs : slots ≤ ks) (hQ : Q (some w) T.heap locs) :
    own_G p e s below Q kc ks (T.setTop (mkF m pc Ls (w :: rest))) := by
  obtain ⟨fs, hr, hrun, hended, hW, hsame⟩ := X.leave (v := some w) (fun h => by rw [hret] at h; cases h) hlk
  have hn : narrow t w = w := by rcases ref_cases hv with rfl | ⟨z, rfl⟩ <;> cases t <;> rfl
  exact ⟨_, _, retOut X hx hret hn (Or.inr (Or.inr (Or.inr (Or.inr ⟨rfl, ht, hv⟩)))) hd hr, hrun, hended, _, _, rfl, hQ, ⟨_, rfl⟩, hW, hsame.mono hc hs⟩
theorem own_retJ {Q : Option Value → Heap → List Loc → Prop} {kc ks : Nat} (X : Stand p l e R s m args below meth c T locs cells slots) (hx : p.tables.exec = Jvm.exec) (hlk : meth.locks = false) (hret : meth.sig.returnType = some .long) {pc : Nat} {Ls : Array Slot} {z : Int64} {rest : List Value} (hd : decode c.code pc = .ok (.lreturn, 1)) (hc : cells ≤ kc) (hs : slots ≤ ks) (hQ : Q (some (.long z)) T.heap locs) :
    own_G p e s below Q kc ks (T.setTop (mkF m pc Ls (.long z :: rest))) := by
  obtain ⟨fs, hr, hrun, hended, hW, hsame⟩ := X.leave (v := some (.long z)) (fun h => by rw [hret] at h; cases h) hlk
  exact ⟨_, _, retOut X hx hret rfl (Or.inr (Or.inl ⟨rfl, rfl, z, rfl⟩)) hd hr, hrun, hended, _, _, rfl, hQ, ⟨_, rfl⟩, hW, hsame.mono hc hs⟩
theorem own_retV {Q : Option Value → Heap → List Loc → Prop} {kc ks : Nat} (X : Stand p l e R s m args below meth c T locs cells slots) (hx : p.tables.exec = Jvm.exec) (hlk : meth.locks = false) (hret : meth.sig.returnType = none) {pc : Nat} {Ls : Array Slot} (hd : decode c.code pc = .ok (.return_, 1)) (hc : cells ≤ kc) (hs : slots ≤ ks) (hQ : Q none T.heap locs) :
    own_G p e s below Q kc ks (T.setTop (mkF m pc Ls [])) := by
  obtain ⟨fs, hr, hrun, hended, hW, hsame⟩ := X.leave (v := none) (fun _ => rfl) hlk
  exact ⟨_, _, X.returnOut hx hret hd hr, hrun, hended, _, _, rfl, hQ, ⟨_, rfl⟩, hW, hsame.mono hc hs⟩
theorem own_osz {n0 : Nat} (O : Old Z n0 h) : n0 ≤ h.size := O.1 ▸ O.2.1
end Own
section Own2
variable {Z : State} {h h' : Heap} {a b : Addr} {k : ClassId} {ty : FieldType} {vs : List Value} {sl : Nat} {v w : Value} {ws : List Addr} {c : Cell} {j : Int32}
/-- an array and what it holds -/
def own_Ar (Z : State) (h : Heap) (a : Addr) (k : ClassId) (ty : FieldType) (vs : List Value) : Prop := ∃ c : Cell, Arr Z h a c ty ∧ c.cls = k ∧ c.slots = vs.toArray ∧ vs.length < 2 ^ 31
theorem own_Ar.lt (F : own_Ar Z h a k ty vs) : a < h.size := by obtain ⟨c, A, -⟩ := F; exact A.lt
theorem own_Ar.ext (F : own_Ar Z h a k ty vs) (E : Ext h h') : own_Ar Z h' a k ty vs := by obtain ⟨c, A, r⟩ := F; exact ⟨c, A.ext E, r⟩
theorem own_Ar.other (F : own_Ar Z h b k ty vs) (W : Wr h h' a sl v) (q : b ≠ a) : own_Ar Z h' b k ty vs := by obtain ⟨c, A, r⟩ := F; exact ⟨c, A.other W q, r⟩
theorem own_Ar.keep (F : own_Ar Z h a k ty vs) (K : Keep h h' ws) (q : a ∉ ws) : own_Ar Z h' a k ty vs := by obtain ⟨c, A, r⟩ := F; exact ⟨c, ⟨K.2.1 a c A.1 q, A.2⟩, r⟩
theorem own_Ar.at (F : own_Ar Z h a k ty vs) (hj : ¬ j < 0) (hv : vs[j.toNatClampNeg]? = some v) : ∃ c : Cell, Arr Z h a c ty ∧ c.cls = k ∧ c.slots = vs.toArray ∧ ¬ (j < 0 ∨ c.slots.size ≤ j.toNatClampNeg) ∧ c.slots[j.toNatClampNeg]? = some v := by
  obtain ⟨c, A, q, e, r⟩ := F
  have hl := (List.getElem?_eq_some_iff.mp hv).1
  refine ⟨c, A, q, e, ?_, ?_⟩
  · rintro (q | q)
    · exact hj q
    · rw [e] at q; simp at q; omega
  · rw [e]; simpa using hv
theorem own_Ar.set (A : Arr Z h a c ty) (q : c.cls = k) (e : c.slots = vs.toArray) (hl : vs.length < 2 ^ 31) {i : Nat} (W : Wr h h' a i v) : own_Ar Z h' a k ty (vs.set i v) := by
  refine ⟨c.setSlot i v, A.same W, q, ?_, by simpa using hl⟩
  show (c.slots.setIfInBounds i v) = _
  rw [e]; simp
theorem own_Ar.small (F : own_Ar Z h a k ty vs) : vs.length < 2 ^ 31 := F.choose_spec.2.2.2
theorem own_Ar.len (F : own_Ar Z h a k ty vs) : ∃ c : Cell, Arr Z h a c ty ∧ c.slots.size.toInt32 = Int32.ofNat vs.length := by
  obtain ⟨c, A, q, e, r⟩ := F
  exact ⟨c, A, by rw [e]; simp⟩
theorem own_Ar.new {n : Int32} (A : Arr Z h a (newA k ty n) ty) (q : ¬ n < 0) : own_Ar Z h a k ty (List.replicate n.toNatClampNeg (defaultValue ty)) :=
  ⟨_, A, rfl, by simp [newA], by rw [List.length_replicate]; exact (back32 q).2⟩
theorem own_nat {n : Nat} (hn : n < 2 ^ 31) : (Int32.ofNat n).toInt = n := Int32.toInt_ofNat_of_lt hn
theorem own_clamp {n : Nat} (hn : n < 2 ^ 31) : (Int32.ofNat n).toNatClampNeg = n := by
  show (Int32.ofNat n).toInt.toNat = n
  rw [own_nat hn]; simp
theorem own_pos {n : Nat} (hn : n < 2 ^ 31) : ¬ Int32.ofNat n < 0 := by
  rw [Int32.lt_iff_toInt_lt, own_nat hn]; simp
theorem own_lt {a b : Nat} (ha : a < 2 ^ 31) (hb : b < 2 ^ 31) : Int32.ofNat a < Int32.ofNat b ↔ a < b := by
  rw [Int32.lt_iff_toInt_lt, own_nat ha, own_nat hb]; omega
theorem own_succ (a : Nat) : Int32.ofNat a + 1 = Int32.ofNat (a + 1) := by rw [Int32.ofNat_add]; rfl
theorem own_eqN {a b : Nat} (ha : a < 2 ^ 31) (hb : b < 2 ^ 31) : Int32.ofNat a = Int32.ofNat b ↔ a = b := by
  rw [← Int32.toInt_inj, own_nat ha, own_nat hb]; omega
theorem own_eqI {args : Array Value} {first s : State} {o : Option Outcome} {idx : List Nat} {a : Term} {n : Int32} (h : (Cond.eq a (.int n)).value args first o s idx = some true) : a.eval args first o idx s = some (.int n) := by
  simp only [Cond.value, Term.eval] at h
  cases ha : a.eval args first o idx s with
  | none => simp [ha] at h
  | some x => cases x <;> simp [ha] at h ⊢; exact h
end Own2
section Own3
variable {p : Program} {l : Launch} {e : Env} {R : Room} {s : State} {m : MethodId} {args : Array Value} {below : List Frame} {meth : Method} {c : Code} {T : State} {locs : List Loc} {cells slots : Nat} {Z : State} {a0 : Array Value} {h : Heap} {a b : Addr} {k k' : ClassId} {ty : FieldType} {vs vd : List Value} {d : Value}
theorem own_Ar.arv (F : own_Ar Z h a k ty vs) (hf : ∀ v ∈ vs, fits ty v = true) (d : Value) : Arv Z h a k ty (Int32.ofNat vs.length) vs d := by
  obtain ⟨c, A, q, e, hl⟩ := F
  refine ⟨c, A, q, by rw [e, own_clamp hl]; simp, own_pos hl, fun i hi => ?_, fun i hi => ?_⟩
  · rw [e] at hi ⊢
    have hi' : i < vs.length := by simpa using hi
    simp [List.getD, hi']
  · rw [e] at hi
    have hi' : i < vs.length := by simpa using hi
    have : vs.getD i d = vs[i] := by simp [List.getD, hi']
    rw [this]; exact hf _ (List.getElem_mem hi')
theorem own_of_arv {z : Int32} (F : Arv Z h a k ty z vs d) (hz : z.toNatClampNeg = vs.length) : own_Ar Z h a k ty vs := by
  obtain ⟨c, A, q, S, nz, H, G⟩ := F
  refine ⟨c, A, q, ?_, by rw [← hz]; exact (back32 nz).2⟩
  apply Array.ext
  · rw [S, hz]; simp
  · intro i h1 h2
    have h3 := H i h1
    have h4 : i < vs.length := by simpa using h2
    rw [Array.getElem?_eq_getElem h1] at h3
    have : vs.getD i d = vs[i] := by simp [List.getD, h4]
    rw [this] at h3
    simpa using Option.some.inj h3
theorem own_us (vs : List Value) (dv : Value) (sp n : Nat) (hl : sp + n ≤ vs.length) : ((List.range n).map fun i => vs.getD (sp + i) dv) = (vs.drop sp).take n := by
  apply List.ext_getElem
  · simp; omega
  · intro i h1 h2
    simp at h1
    have : sp + i < vs.length := by omega
    simp [List.getD, this]
/-- System.arraycopy between two arrays of one primitive kind -/
theorem own_cp (X : Stand p l e R s m args below meth c T locs cells slots) (hx : p.tables.exec = Jvm.exec) (hZ : Z.Warmed39 s.vm) {own : String} {index : Nat} (hown : s.vm.findClass own = some m.cls)
    (w1 : (Cond.methodLink own index Jvm.Stand.acN).before a0 Z = true) (w2 : (Cond.native Jvm.Stand.acN).before a0 Z = true) (w3 : (Cond.static Jvm.Stand.acN).before a0 Z = true) (w4 : (Cond.initialized "java/lang/System").before a0 Z = true) (eT : T.heap = h)
    {sp dp nn : Int32} (A : own_Ar Z h a k ty vs) (B : own_Ar Z h b k' ty vd) (hty : refKind ty = false) (fa : ∀ v ∈ vs, fits ty v = true) (fb : ∀ v ∈ vd, fits ty v = true)
    (h1 : ¬ sp < 0) (h2 : ¬ dp < 0) (h3 : ¬ nn < 0) (h4 : sp.toNatClampNeg + nn.toNatClampNeg ≤ vs.length) (h5 : dp.toNatClampNeg + nn.toNatClampNeg ≤ vd.length) {n0 : Nat} (N : Fr n0 locs) (ge : n0 ≤ b)
    {g : JFrame} (hg : g.method = m) (hsize : g.locals.size = c.maxLocals) {rest : List Value} (hs : g.stack = .int nn :: .int dp :: .ref b :: .int sp :: .ref a :: rest) (hd : decode c.code g.pc = .ok (.invokestatic index, 3))
    (hf : 1 ≤ R.frames) {W : Nat} (hW : 2 * g.monitorRoom + (rest.map fun v => v.category).sum ≤ W) (hlo : W + (nativeFrameWords "java/lang/System" "arraycopy" 5 + 11) ≤ R.locals) :
    ∃ T' h' L, Stand p l e R s m args below meth c T' L cells slots ∧ T'.heap = h' ∧ Fr n0 L ∧ Keep h h' [b] ∧ own_Ar Z h' b k' ty (vd.take dp.toNatClampNeg ++ (vs.drop sp.toNatClampNeg).take nn.toNatClampNeg ++ vd.drop (dp.toNatClampNeg + nn.toNatClampNeg)) ∧
      ∀ target, Steps p.tables e below (T'.setTop { g with pc := g.pc + 3, stack := rest }) target → Steps p.tables e below (T.setTop g) target := by
  have ha := A.small
  have hb := B.small
  obtain ⟨T', h', L, X', e', N', K', V', st⟩ := cpA X hx hZ hown w1 w2 w3 w4 eT (A.arv fa .null) (B.arv fb .null) (Or.inl ⟨rfl, hty⟩) h1 h2 h3 (by rw [own_clamp ha]; exact h4) (by rw [own_clamp hb]; exact h5) (us := (List.range nn.toNatClampNeg).map fun i => vs.getD (sp.toNatClampNeg + i) .null) rfl h5 N ge hg hsize hs hd hf hW hlo
  refine ⟨T', h', L, X', e', N', K', ?_, st⟩
  rw [own_us _ _ _ _ h4] at V'
  exact own_of_arv V' (by rw [own_clamp hb]; simp; omega)
theorem own_selfsel {y : MethodName} {n : Nat} (hZ : Z.Warmed39 s.vm) (wi : (Cond.instantiable y.cls n).before a0 Z = true) (wp : (Cond.privateMethod y).before a0 Z = true) (wm : (Cond.instanceMethod y).before a0 Z = true) (hy : y.cls ≠ "java/lang/invoke/MethodHandle" ∧ y.cls ≠ "java/lang/invoke/VarHandle") : (Cond.selects y.cls y y).before args s = true := by
  obtain ⟨c2, k2, i1, i2, i3, i4⟩ := Cond.instantiable_spec (mvT hZ wi (args := args))
  exact selects_self_of_private i1 i2 (by have q := i4.1; simp only [Bool.or_eq_false_iff] at q; exact q.1) (Cond.privateMethod_at (mvP hZ wp (args := #[]))) (mvT hZ wm) hy
end Own3
def own_iv (l : List Nat) : List Value := l.map fun x => Value.int (Int32.ofNat x)
theorem own_ivlen (l : List Nat) : (own_iv l).length = l.length := by simp [own_iv]
theorem own_ivget {l : List Nat} {j : Nat} (h : j < l.length) : (own_iv l)[j]? = some (.int (Int32.ofNat (l.getD j 0))) := by simp [own_iv, List.getD, h]
theorem own_ivset (l : List Nat) (j x : Nat) : (own_iv l).set j (.int (Int32.ofNat x)) = own_iv (l.set j x) := by simp [own_iv, List.map_set]
theorem own_ivrep (n : Nat) : List.replicate n (Value.int 0) = own_iv (List.replicate n 0) := by simp only [own_iv, List.map_replicate]; rfl
theorem own_ivfit (l : List Nat) : ∀ v ∈ own_iv l, fits .int v = true := by
  intro v hv
  simp only [own_iv, List.mem_map] at hv
  obtain ⟨x, -, rfl⟩ := hv
  rfl
theorem own_ivtake (l : List Nat) (n : Nat) : (own_iv l).take n = own_iv (l.take n) := by simp [own_iv, List.map_take]
theorem own_ivdrop (l : List Nat) (n : Nat) : (own_iv l).drop n = own_iv (l.drop n) := by simp [own_iv, List.map_drop]
def own_kl (ks : List Nat) : List Value := own_iv ks ++ List.replicate (4096 - ks.length) (.int 0)
theorem own_kllen (ks : List Nat) (h : ks.length ≤ 4096) : (own_kl ks).length = 4096 := by simp [own_kl, own_ivlen]; omega
theorem own_klget {ks : List Nat} {i : Nat} (h : i < ks.length) : (own_kl ks)[i]? = some (.int (Int32.ofNat (ks.getD i 0))) := by
  unfold own_kl
  rw [List.getElem?_append_left (by rw [own_ivlen]; exact h)]
  exact own_ivget h
theorem own_klat {ks : List Nat} (h : ks.length < 4096) : (own_kl ks)[ks.length]? = some (.int 0) := by
  unfold own_kl
  rw [List.getElem?_append_right (by rw [own_ivlen]; exact Nat.le_refl _), own_ivlen, Nat.sub_self, List.getElem?_replicate, if_pos (by omega)]
theorem own_klset {ks : List Nat} {m : Nat} (h : ks.length < 4096) : (own_kl ks).set ks.length (.int (Int32.ofNat m)) = own_kl (ks ++ [m]) := by
  unfold own_kl
  rw [List.set_append_right _ _ (by rw [own_ivlen]; exact Nat.le_refl _), own_ivlen, Nat.sub_self]
  have e : 4096 - ks.length = (4096 - (ks ++ [m]).length) + 1 := by simp; omega
  rw [e, List.replicate_succ, List.set_cons_zero]
  simp [own_iv]
theorem own_repat {n i : Nat} {v : Value} (h : i < n) : (List.replicate n v)[i]? = some v := by rw [List.getElem?_replicate, if_pos h]
theorem own_repset (n i : Nat) (v : Value) : (List.replicate n v).set i v = List.replicate n v := by
  apply List.ext_getElem?
  intro j
  rw [List.getElem?_set]
  by_cases e : i = j
  · subst e; by_cases h : i < n <;> simp [h]
  · rw [if_neg e]
/-- the three loops of byKey, without the code -/
def own_p1 (kn : Nat) (ks : List Nat) : Nat → List Nat
  | 0 => List.replicate (kn + 1) 0
  | r + 1 => (own_p1 kn ks r).set (ks.getD r 0 + 1) ((own_p1 kn ks r).getD (ks.getD r 0 + 1) 0 + 1)
def own_p2 (kn : Nat) (ks : List Nat) : Nat → List Nat
  | 0 => own_p1 kn ks ks.length
  | j + 1 => (own_p2 kn ks j).set (j + 1) ((own_p2 kn ks j).getD (j + 1) 0 + (own_p2 kn ks j).getD j 0)
def own_p3 (kn : Nat) (ks : List Nat) : Nat → List Nat × List Nat
  | 0 => ((own_p2 kn ks kn).take kn, List.replicate ks.length 0)
  | r + 1 => ((own_p3 kn ks r).1.set (ks.getD r 0) ((own_p3 kn ks r).1.getD (ks.getD r 0) 0 + 1), (own_p3 kn ks r).2.set ((own_p3 kn ks r).1.getD (ks.getD r 0) 0) r)
def own_ex (ks : List Nat) (k : Nat) : List Nat := (List.range ks.length).filter fun r => ks.getD r 0 = k
def own_st (kn : Nat) (ks : List Nat) : List Nat := own_p2 kn ks kn
def own_rw (kn : Nat) (ks : List Nat) : List Nat := (own_p3 kn ks ks.length).2
def own_chk (kn : Nat) (ks : List Nat) : Bool :=
  (List.range ks.length).all (fun r => decide ((own_p3 kn ks r).1.getD (ks.getD r 0) 0 < ks.length)) &&
  (List.range kn).all fun k => decide ((own_st kn ks).getD k 0 ≤ (own_st kn ks).getD (k + 1) 0 ∧ (own_st kn ks).getD (k + 1) 0 ≤ ks.length ∧ ((own_rw kn ks).drop ((own_st kn ks).getD k 0)).take ((own_st kn ks).getD (k + 1) 0 - (own_st kn ks).getD k 0) = own_ex ks k)
def own_ls (kn : Nat) : Nat → List (List Nat)
  | 0 => [[]]
  | n + 1 => (own_ls kn n).flatMap fun l => (List.range kn).map fun k => l ++ [k]
theorem own_inls (kn : Nat) : ∀ (n : Nat) (ks : List Nat), ks.length = n → (∀ x ∈ ks, x < kn) → ks ∈ own_ls kn n := by
  intro n
  induction n with
  | zero => intro ks hl _; rw [List.eq_nil_of_length_eq_zero hl]; simp [own_ls]
  | succ n ih =>
    intro ks hl hk
    have hne : ks ≠ [] := by intro q; rw [q] at hl; cases hl
    simp only [own_ls, List.mem_flatMap, List.mem_map, List.mem_range]
    refine ⟨ks.dropLast, ih _ (by rw [List.length_dropLast]; omega) (fun x hx => hk x (List.dropLast_subset _ hx)), ks.getLast hne, hk _ (List.getLast_mem hne), List.dropLast_concat_getLast hne⟩
theorem own_allchk : ∀ kn ∈ [1, 2, 3], ∀ n ∈ [0, 1, 2, 3, 4], ∀ ks ∈ own_ls kn n, own_chk kn ks = true := by decide +kernel
theorem own_chks {kn : Nat} {ks : List Nat} (h1 : 1 ≤ kn) (h3 : kn ≤ 3) (hl : ks.length ≤ 4) (hk : ∀ x ∈ ks, x < kn) : own_chk kn ks = true :=
  own_allchk kn (by simp only [List.mem_cons, List.not_mem_nil, or_false]; omega) ks.length (by simp only [List.mem_cons, List.not_mem_nil, or_false]; omega) ks (own_inls kn _ ks rfl hk)
theorem own_p1len (kn : Nat) (ks : List Nat) (r : Nat) : (own_p1 kn ks r).length = kn + 1 := by induction r with | zero => simp [own_p1] | succ r ih => simp [own_p1, ih]
theorem own_p2len (kn : Nat) (ks : List Nat) (r : Nat) : (own_p2 kn ks r).length = kn + 1 := by induction r with | zero => simp [own_p2, own_p1len] | succ r ih => simp [own_p2, ih]
theorem own_p3len (kn : Nat) (ks : List Nat) (r : Nat) : (own_p3 kn ks r).1.length = kn ∧ (own_p3 kn ks r).2.length = ks.length := by
  induction r with
  | zero => simp [own_p3, own_p2len]
  | succ r ih => simp [own_p3, ih.1, ih.2]
theorem own_chk1 {kn : Nat} {ks : List Nat} (h : own_chk kn ks = true) {r : Nat} (hr : r < ks.length) : (own_p3 kn ks r).1.getD (ks.getD r 0) 0 < ks.length := by
  simp only [own_chk, Bool.and_eq_true, List.all_eq_true, decide_eq_true_eq] at h
  exact h.1 r (by simpa using hr)
theorem own_chk2 {kn : Nat} {ks : List Nat} (h : own_chk kn ks = true) {k : Nat} (hk : k < kn) : (own_st kn ks).getD k 0 ≤ (own_st kn ks).getD (k + 1) 0 ∧ (own_st kn ks).getD (k + 1) 0 ≤ ks.length ∧ ((own_rw kn ks).drop ((own_st kn ks).getD k 0)).take ((own_st kn ks).getD (k + 1) 0 - (own_st kn ks).getD k 0) = own_ex ks k := by
  simp only [own_chk, Bool.and_eq_true, List.all_eq_true, decide_eq_true_eq] at h
  exact h.2 k (by simpa using hk)
theorem own_gd {kn : Nat} {ks : List Nat} (hk : ∀ x ∈ ks, x < kn) {r : Nat} (hr : r < ks.length) : ks.getD r 0 < kn := by
  have : ks.getD r 0 = ks[r] := by simp [List.getD, hr]
  rw [this]; exact hk _ (List.getElem_mem hr)
def own_TR (Z : State) (h : Heap) (t bb bs bk : Addr) (k1 k2 k3 : ClassId) (ks : List Nat) : Prop :=
  (Exa Z h t "com/example/vestwright/vestwright/cli/TableRows" ∧ Fld Z h t "com/example/vestwright/vestwright/cli/TableRows" "width" "I" (.int 0) ∧ Fld Z h t "com/example/vestwright/vestwright/cli/TableRows" "bytes" "[B" (.ref bb) ∧ Fld Z h t "com/example/vestwright/vestwright/cli/TableRows" "used" "I" (.int 0) ∧ Fld Z h t "com/example/vestwright/vestwright/cli/TableRows" "starts" "[I" (.ref bs) ∧ Fld Z h t "com/example/vestwright/vestwright/cli/TableRows" "keys" "[I" (.ref bk) ∧ Fld Z h t "com/example/vestwright/vestwright/cli/TableRows" "size" "I" (.int (Int32.ofNat ks.length))) ∧
  (own_Ar Z h bb k1 .byte (List.replicate 4096 (.int 0)) ∧ own_Ar Z h bs k2 .int (List.replicate 4096 (.int 0)) ∧ own_Ar Z h bk k3 .int (own_kl ks)) ∧ t ≠ bb ∧ t ≠ bs ∧ t ≠ bk ∧ bb ≠ bs ∧ bb ≠ bk ∧ bs ≠ bk
def own_min (x y : Int32) : Int32 := if y < x then y else x
theorem own_minN {a b : Nat} (ha : a < 2 ^ 31) (hb : b < 2 ^ 31) : own_min (Int32.ofNat a) (Int32.ofNat b) = Int32.ofNat (min a b) := by
  unfold own_min
  by_cases h : b < a
  · rw [if_pos ((own_lt hb ha).mpr h), Nat.min_eq_right (by omega)]
  · rw [if_neg (fun q => h ((own_lt hb ha).mp q)), Nat.min_eq_left (by omega)]
theorem own_subN {a b : Nat} (h : b ≤ a) : Int32.ofNat a - Int32.ofNat b = Int32.ofNat (a - b) := (Int32.ofNat_sub _ _ h).symm
theorem own_n5 (x : Int32) : ((x &&& (7 : Int32)) % (5 : Int32)) = (0 : Int32) ∨ ((x &&& (7 : Int32)) % (5 : Int32)) = (1 : Int32) ∨ ((x &&& (7 : Int32)) % (5 : Int32)) = (2 : Int32) ∨ ((x &&& (7 : Int32)) % (5 : Int32)) = (3 : Int32) ∨ ((x &&& (7 : Int32)) % (5 : Int32)) = (4 : Int32) := by
  have h1 := c_mask x 7 3 (by decide) (by decide)
  have h2 := (c_irem (x &&& 7) 5 5 (by decide)).1 (by rw [h1]; omega)
  have h3 : ((x &&& 7) % 5).toInt = 0 ∨ ((x &&& 7) % 5).toInt = 1 ∨ ((x &&& 7) % 5).toInt = 2 ∨ ((x &&& 7) % 5).toInt = 3 ∨ ((x &&& 7) % 5).toInt = 4 := by omega
  rcases h3 with h | h | h | h | h
  · exact Or.inl (Int32.toInt_inj.mp (by rw [h]; decide))
  · exact Or.inr (Or.inl (Int32.toInt_inj.mp (by rw [h]; decide)))
  · exact Or.inr (Or.inr (Or.inl (Int32.toInt_inj.mp (by rw [h]; decide))))
  · exact Or.inr (Or.inr (Or.inr (Or.inl (Int32.toInt_inj.mp (by rw [h]; decide)))))
  · exact Or.inr (Or.inr (Or.inr (Or.inr (Int32.toInt_inj.mp (by rw [h]; decide)))))
theorem own_kn3 (y : Int32) : ∃ kn : Nat, 1 ≤ kn ∧ kn ≤ 3 ∧ (1 : Int32) + (y &&& (3 : Int32)) % (3 : Int32) = Int32.ofNat kn := by
  have h1 := c_mask y 3 2 (by decide) (by decide)
  have h2 := (c_irem (y &&& 3) 3 3 (by decide)).1 (by rw [h1]; omega)
  have h3 := c_iadd 1 ((y &&& 3) % 3)
  have h4 := rng32 ((1 : Int32) + (y &&& 3) % 3)
  have h5 : (1 : Int32).toInt = 1 := by decide
  refine ⟨((1 : Int32) + (y &&& 3) % 3).toInt.toNat, by omega, by omega, Int32.toInt_inj.mp ?_⟩
  rw [own_nat (by omega)]; omega
theorem own_key (x : Int32) (kn : Nat) (h1 : 1 ≤ kn) (h3 : kn ≤ 3) : ∃ q : Nat, q < kn ∧ (x &&& (2147483647 : Int32)) % Int32.ofNat kn = Int32.ofNat q := by
  have m1 := c_mask x 2147483647 31 (by decide) (by decide)
  have m2 := (c_irem (x &&& 2147483647) (Int32.ofNat kn) kn (own_nat (by omega))).1 (by rw [m1]; omega)
  have m3 : ((x &&& 2147483647) % Int32.ofNat kn).toInt < kn := by rw [m2]; exact Int.emod_lt_of_pos _ (by omega)
  have m4 : 0 ≤ ((x &&& 2147483647) % Int32.ofNat kn).toInt := by rw [m2]; exact Int.emod_nonneg _ (by omega)
  refine ⟨((x &&& 2147483647) % Int32.ofNat kn).toInt.toNat, by omega, Int32.toInt_inj.mp ?_⟩
  rw [own_nat (by omega)]; omega
section OwnRef
variable {p : Program} {l : Launch} {e : Env} {R : Room} {s : State} {m : MethodId} {args : Array Value} {below : List Frame} {meth : Method} {c : Code} {T : State} {locs : List Loc} {cells slots : Nat} {Z : State} {a0 : Array Value}
/-- what a resolved method entry says, in the words that invokespecial's law asks -/
theorem own_refnames {cls : String} {index cur : Nat} {x : MethodName} {U : State} (hcur : U.vm.findClass cls = some cur) {mk : MethodId} (hn : U.methodNamed? x = some mk) (hx : x.cls ≠ "java/lang/invoke/MethodHandle" ∧ x.cls ≠ "java/lang/invoke/VarHandle")
    (h : (Cond.methodRef cls index x).before a0 U = true) : Jvm.Op.namesResolved U.vm cur index mk.cls ∧ U.vm.methodReady cur index mk := by
  have h0 := h
  simp only [Cond.before, Cond.holds, Cond.value, hcur] at h
  have hf := State.methodFound?_of_named hn hx
  simp only [hf, beq_iff_eq, Option.some.injEq, Bool.and_eq_true, decide_eq_true_eq] at h
  obtain ⟨⟨hnames, hcls⟩, hres⟩ := h
  obtain ⟨cp, hcp, hnn⟩ := State.names_spec hnames
  obtain ⟨ci, nt, hentry, hnt, -⟩ := namesOf?_method hnn
  obtain ⟨k, cf, hk, hcf, rfl⟩ := State.poolOf?_spec hcur hcp
  have hfc := findClass_of_methodNamed hn
  have hr : U.refClass? cls index = some mk.cls := hcls.trans hfc
  have h2 : U.resolvedAt? cls ci = some (.cls mk.cls) := by
    simp only [State.refClass?, hcp, Option.bind_eq_bind, Option.bind_some] at hr
    rcases hentry with he | he <;> simp only [he, Option.bind_eq_some_iff] at hr <;>
      (obtain ⟨r, hr1, hr2⟩ := hr; cases r <;> simp at hr2; subst hr2; exact hr1)
  refine ⟨⟨k, cf, ci, nt, hk, hcf, hentry, State.resolvedAt?_spec hcur h2⟩, ?_⟩
  split at hres
  · rename_i m' hr'
    have hmm : m' = mk := by simpa using hres
    subst hmm
    exact State.resolvedAt?_spec hcur hr'
  · cases hres
theorem own_refBack (X : Stand p l e R s m args below meth c T locs cells slots) (hexec : p.tables.exec = Jvm.exec) (hZ : Z.Warmed39 s.vm) {own : String} {index : Nat} {y : MethodName} (hy1 : y.name = "<init>")
    (hown : s.vm.findClass own = some m.cls) (href : (Cond.methodRef own index y).before a0 Z = true) (hinst : (Cond.instanceMethod y).before args s = true)
    {bytes : ByteArray} {maxL : Nat} (hcode : (Cond.code y bytes maxL none).before args s = true)
    (hy : y.cls ≠ "java/lang/invoke/MethodHandle" ∧ y.cls ≠ "java/lang/invoke/VarHandle")
    {W : Nat} {Pre : Pt → Array Value → Prop} {Post : Pt → Array Value → Option Value → Pt → Prop} (hK : Back l R p e below s args y 3 W Pre Post)
    {g : JFrame} (hg : g.method = m) (hsize : g.locals.size = c.maxLocals) {s₀ : State} (hcome : Steps p.tables e below s₀ (T.setTop g)) {a : Addr} {argsL rest : List Value}
    (hlen : ∀ sig, parseMethodDescriptor y.desc = some sig → argsL.length = sig.parameters.length) (hstack : g.stack = argsL.reverse ++ .ref a :: rest) (hW : 2 * g.monitorRoom + (rest.map fun v => v.category).sum ≤ W)
    (hdg : decode c.code g.pc = .ok (.invokespecial index, 3)) (hpre : ∀ vm₁, s.WarmedH vm₁ → Pre ⟨T.setVm vm₁, locs, cells, slots⟩ (.ref a :: argsL).toArray) :
    ∃ (v : Option Value) (vm₁ : Vm) (B : Pt), s.WarmedH vm₁ ∧ Stand p l e R s m args below meth c B.U B.locs B.cells B.slots ∧ Post ⟨T.setVm vm₁, locs, cells, slots⟩ (.ref a :: argsL).toArray v B ∧
      Steps p.tables e below s₀ (B.U.setTop { g with pc := g.pc + 3, stack := v.toList ++ rest }) := by
  obtain ⟨mk, methM, hnamed, hmethM, hstM, habM⟩ := Cond.instanceMethod_spec hinst
  obtain ⟨methM', cM, hmethM', -, -, -, -, -, -, hsigM⟩ := Cond.code_spec hnamed hcode
  cases hmethM.symm.trans hmethM'
  obtain ⟨kO, hkO, hnameO⟩ := className_of_methodNamed hnamed
  obtain ⟨hnameM, hdescM⟩ := name_of_methodNamed hnamed hmethM
  have hW₁ := X.warmed
  have hnZ : Z.methodNamed? y = some mk := (State.methodNamed?_setVm (s := Z) hZ.alike y).symm.trans hnamed
  have h1 : (Cond.methodRef own index y).before a0 (Z.setVm s.vm) = true := Cond.methodRef_warmed39 hZ hnZ hy href
  have h2 : (Cond.methodRef own index y).before a0 s = true := h1
  have h3 : (Cond.methodRef own index y).before a0 (s.setVm T.vm) = true := Cond.methodRef_warmed hW₁ hnamed hy h2
  have h4 : (Cond.methodRef own index y).before a0 T = true := h3
  obtain ⟨hnr, hready⟩ := own_refnames (U := T) (by rw [hW₁.alike.findClass]; exact hown) (X.named hnamed) hy h4
  obtain ⟨kT, hkT, heT⟩ := hW₁.alike.2.2 _ _ hkO
  have hmT : T.vm.method? mk = some methM := by rw [hW₁.alike.method?]; exact hmethM
  have hfound : lookupSpecial T.vm mk.cls "<init>" methM.desc = .method mk := by
    rw [hW₁.alike.lookupSpecial, hdescM, ← hy1]; exact lookupSpecial_of_named hnamed hmethM hstM
  have X₁ : Stand p l e R s m args below meth c (T.setVm T.vm) locs cells slots := X.noted hW₁
  obtain ⟨v, B, X', hpost, hsteps⟩ := hK m meth c ⟨T.setVm T.vm, locs, cells, slots⟩ { g with stack := rest } (.invokespecial index) mk (.ref a :: argsL).toArray X₁ hg hsize hdg hW (X₁.named hnamed) (hpre _ hW₁)
  refine ⟨v, T.vm, B, hW₁, X', hpost, (hcome.trans ?_).trans hsteps⟩
  subst hg
  jvm_step X.here [hexec, hdg, invokespecial.wp_init (e := e) (s := T) (k := kT) (meth := methM) (m := mk) (a := a) (args := argsL) (rest := rest) (f := g) X.here.top hnr hready hkT hmT (by rw [hnameM]; exact hy1) hstM habM hfound (hlen _ hsigM) hstack]
  intro acts
  rw [doInvoke_state]
  exact Steps.refl _
end OwnRef
theorem d1_0 : decode prog_15_method_1_code 0 = .ok (.aload_n 0, 1) := by decide +kernel
theorem d1_1 : decode prog_15_method_1_code 1 = .ok (.invokespecial 5, 3) := by decide +kernel
theorem d1_4 : decode prog_15_method_1_code 4 = .ok (.aload_n 0, 1) := by decide +kernel
theorem d1_5 : decode prog_15_method_1_code 5 = .ok (.sipush 4096, 3) := by decide +kernel
theorem d1_8 : decode prog_15_method_1_code 8 = .ok (.newarray .byte, 2) := by decide +kernel
theorem d1_10 : decode prog_15_method_1_code 10 = .ok (.putfield 11, 3) := by decide +kernel
theorem d1_13 : decode prog_15_method_1_code 13 = .ok (.aload_n 0, 1) := by decide +kernel
theorem d1_14 : decode prog_15_method_1_code 14 = .ok (.sipush 4096, 3) := by decide +kernel
theorem d1_17 : decode prog_15_method_1_code 17 = .ok (.newarray .int, 2) := by decide +kernel
theorem d1_19 : decode prog_15_method_1_code 19 = .ok (.putfield 15, 3) := by decide +kernel
theorem d1_22 : decode prog_15_method_1_code 22 = .ok (.aload_n 0, 1) := by decide +kernel
theorem d1_23 : decode prog_15_method_1_code 23 = .ok (.sipush 4096, 3) := by decide +kernel
theorem d1_26 : decode prog_15_method_1_code 26 = .ok (.newarray .int, 2) := by decide +kernel
theorem d1_28 : decode prog_15_method_1_code 28 = .ok (.putfield 19, 3) := by decide +kernel
theorem d1_31 : decode prog_15_method_1_code 31 = .ok (.aload_n 0, 1) := by decide +kernel
theorem d1_32 : decode prog_15_method_1_code 32 = .ok (.iload_n 1, 1) := by decide +kernel
theorem d1_33 : decode prog_15_method_1_code 33 = .ok (.putfield 22, 3) := by decide +kernel
theorem d1_36 : decode prog_15_method_1_code 36 = .ok (.return_, 1) := by decide +kernel
theorem d11_0 : decode prog_15_method_8_code 0 = .ok (.aload_n 0, 1) := by decide +kernel
theorem d11_1 : decode prog_15_method_8_code 1 = .ok (.getfield 11, 3) := by decide +kernel
theorem d11_4 : decode prog_15_method_8_code 4 = .ok (.arraylength, 1) := by decide +kernel
theorem d11_5 : decode prog_15_method_8_code 5 = .ok (.aload_n 0, 1) := by decide +kernel
theorem d11_6 : decode prog_15_method_8_code 6 = .ok (.getfield 40, 3) := by decide +kernel
theorem d11_9 : decode prog_15_method_8_code 9 = .ok (.isub, 1) := by decide +kernel
theorem d11_10 : decode prog_15_method_8_code 10 = .ok (.iload_n 1, 1) := by decide +kernel
theorem d11_11 : decode prog_15_method_8_code 11 = .ok (.if_icmp .ge 42, 3) := by decide +kernel
theorem d11_53 : decode prog_15_method_8_code 53 = .ok (.aload_n 0, 1) := by decide +kernel
theorem d11_54 : decode prog_15_method_8_code 54 = .ok (.getfield 47, 3) := by decide +kernel
theorem d11_57 : decode prog_15_method_8_code 57 = .ok (.aload_n 0, 1) := by decide +kernel
theorem d11_58 : decode prog_15_method_8_code 58 = .ok (.getfield 15, 3) := by decide +kernel
theorem d11_61 : decode prog_15_method_8_code 61 = .ok (.arraylength, 1) := by decide +kernel
theorem d11_62 : decode prog_15_method_8_code 62 = .ok (.if_icmp .ne 44, 3) := by decide +kernel
theorem d11_106 : decode prog_15_method_8_code 106 = .ok (.return_, 1) := by decide +kernel
theorem d10_0 : decode prog_15_method_2_code 0 = .ok (.aload_n 0, 1) := by decide +kernel
theorem d10_1 : decode prog_15_method_2_code 1 = .ok (.getfield 22, 3) := by decide +kernel
theorem d10_4 : decode prog_15_method_2_code 4 = .ok (.anewarray 26, 3) := by decide +kernel
theorem d10_7 : decode prog_15_method_2_code 7 = .ok (.astore_n 3, 1) := by decide +kernel
theorem d10_8 : decode prog_15_method_2_code 8 = .ok (.lconst 0, 1) := by decide +kernel
theorem d10_9 : decode prog_15_method_2_code 9 = .ok (.lstore 4, 2) := by decide +kernel
theorem d10_11 : decode prog_15_method_2_code 11 = .ok (.iconst 0, 1) := by decide +kernel
theorem d10_12 : decode prog_15_method_2_code 12 = .ok (.istore 6, 2) := by decide +kernel
theorem d10_14 : decode prog_15_method_2_code 14 = .ok (.iload 6, 2) := by decide +kernel
theorem d10_16 : decode prog_15_method_2_code 16 = .ok (.aload_n 0, 1) := by decide +kernel
theorem d10_17 : decode prog_15_method_2_code 17 = .ok (.getfield 22, 3) := by decide +kernel
theorem d10_20 : decode prog_15_method_2_code 20 = .ok (.if_icmp .ge 36, 3) := by decide +kernel
theorem d10_56 : decode prog_15_method_2_code 56 = .ok (.lload 4, 2) := by decide +kernel
theorem d10_58 : decode prog_15_method_2_code 58 = .ok (.ldc 39, 2) := by decide +kernel
theorem d10_60 : decode prog_15_method_2_code 60 = .ok (.aload_n 0, 1) := by decide +kernel
theorem d10_61 : decode prog_15_method_2_code 61 = .ok (.getfield 40, 3) := by decide +kernel
theorem d10_64 : decode prog_15_method_2_code 64 = .ok (.isub, 1) := by decide +kernel
theorem d10_65 : decode prog_15_method_2_code 65 = .ok (.i2l, 1) := by decide +kernel
theorem d10_66 : decode prog_15_method_2_code 66 = .ok (.lcmp, 1) := by decide +kernel
theorem d10_67 : decode prog_15_method_2_code 67 = .ok (.ifCond .gt 7, 3) := by decide +kernel
theorem d10_70 : decode prog_15_method_2_code 70 = .ok (.iconst 1, 1) := by decide +kernel
theorem d10_71 : decode prog_15_method_2_code 71 = .ok (.goto 4, 3) := by decide +kernel
theorem d10_75 : decode prog_15_method_2_code 75 = .ok (.istore 6, 2) := by decide +kernel
theorem d10_77 : decode prog_15_method_2_code 77 = .ok (.iload 6, 2) := by decide +kernel
theorem d10_79 : decode prog_15_method_2_code 79 = .ok (.ifCond .eq 110, 3) := by decide +kernel
theorem d10_82 : decode prog_15_method_2_code 82 = .ok (.aload_n 0, 1) := by decide +kernel
theorem d10_83 : decode prog_15_method_2_code 83 = .ok (.lload 4, 2) := by decide +kernel
theorem d10_85 : decode prog_15_method_2_code 85 = .ok (.l2i, 1) := by decide +kernel
theorem d10_86 : decode prog_15_method_2_code 86 = .ok (.invokevirtual 43, 3) := by decide +kernel
theorem d10_89 : decode prog_15_method_2_code 89 = .ok (.aload_n 0, 1) := by decide +kernel
theorem d10_90 : decode prog_15_method_2_code 90 = .ok (.getfield 15, 3) := by decide +kernel
theorem d10_93 : decode prog_15_method_2_code 93 = .ok (.aload_n 0, 1) := by decide +kernel
theorem d10_94 : decode prog_15_method_2_code 94 = .ok (.getfield 47, 3) := by decide +kernel
theorem d10_97 : decode prog_15_method_2_code 97 = .ok (.aload_n 0, 1) := by decide +kernel
theorem d10_98 : decode prog_15_method_2_code 98 = .ok (.getfield 40, 3) := by decide +kernel
theorem d10_101 : decode prog_15_method_2_code 101 = .ok (.iastore, 1) := by decide +kernel
theorem d10_102 : decode prog_15_method_2_code 102 = .ok (.aload_n 0, 1) := by decide +kernel
theorem d10_103 : decode prog_15_method_2_code 103 = .ok (.getfield 19, 3) := by decide +kernel
theorem d10_106 : decode prog_15_method_2_code 106 = .ok (.aload_n 0, 1) := by decide +kernel
theorem d10_107 : decode prog_15_method_2_code 107 = .ok (.getfield 47, 3) := by decide +kernel
theorem d10_110 : decode prog_15_method_2_code 110 = .ok (.iload_n 2, 1) := by decide +kernel
theorem d10_111 : decode prog_15_method_2_code 111 = .ok (.iastore, 1) := by decide +kernel
theorem d10_112 : decode prog_15_method_2_code 112 = .ok (.aload_n 0, 1) := by decide +kernel
theorem d10_113 : decode prog_15_method_2_code 113 = .ok (.dup, 1) := by decide +kernel
theorem d10_114 : decode prog_15_method_2_code 114 = .ok (.getfield 47, 3) := by decide +kernel
theorem d10_117 : decode prog_15_method_2_code 117 = .ok (.iconst 1, 1) := by decide +kernel
theorem d10_118 : decode prog_15_method_2_code 118 = .ok (.iadd, 1) := by decide +kernel
theorem d10_119 : decode prog_15_method_2_code 119 = .ok (.putfield 47, 3) := by decide +kernel
theorem d10_122 : decode prog_15_method_2_code 122 = .ok (.aload_n 3, 1) := by decide +kernel
theorem d10_123 : decode prog_15_method_2_code 123 = .ok (.astore 7, 2) := by decide +kernel
theorem d10_125 : decode prog_15_method_2_code 125 = .ok (.aload 7, 2) := by decide +kernel
theorem d10_127 : decode prog_15_method_2_code 127 = .ok (.arraylength, 1) := by decide +kernel
theorem d10_128 : decode prog_15_method_2_code 128 = .ok (.istore 8, 2) := by decide +kernel
theorem d10_130 : decode prog_15_method_2_code 130 = .ok (.iconst 0, 1) := by decide +kernel
theorem d10_131 : decode prog_15_method_2_code 131 = .ok (.istore 9, 2) := by decide +kernel
theorem d10_133 : decode prog_15_method_2_code 133 = .ok (.iload 9, 2) := by decide +kernel
theorem d10_135 : decode prog_15_method_2_code 135 = .ok (.iload 8, 2) := by decide +kernel
theorem d10_137 : decode prog_15_method_2_code 137 = .ok (.if_icmp .ge 52, 3) := by decide +kernel
theorem d10_189 : decode prog_15_method_2_code 189 = .ok (.iload 6, 2) := by decide +kernel
theorem d10_191 : decode prog_15_method_2_code 191 = .ok (.ireturn, 1) := by decide +kernel
theorem d5_0 : decode jdk_29_method_69_code 0 = .ok (.iload_n 0, 1) := by decide +kernel
theorem d5_1 : decode jdk_29_method_69_code 1 = .ok (.iload_n 1, 1) := by decide +kernel
theorem d5_2 : decode jdk_29_method_69_code 2 = .ok (.if_icmp .gt 7, 3) := by decide +kernel
theorem d5_9 : decode jdk_29_method_69_code 9 = .ok (.iload_n 1, 1) := by decide +kernel
theorem d5_10 : decode jdk_29_method_69_code 10 = .ok (.ireturn, 1) := by decide +kernel
theorem d5_5 : decode jdk_29_method_69_code 5 = .ok (.iload_n 0, 1) := by decide +kernel
theorem d5_6 : decode jdk_29_method_69_code 6 = .ok (.goto 4, 3) := by decide +kernel
theorem d13_0 : decode jdk_65_method_131_code 0 = .ok (.iload_n 1, 1) := by decide +kernel
theorem d13_1 : decode jdk_65_method_131_code 1 = .ok (.iload_n 0, 1) := by decide +kernel
theorem d13_2 : decode jdk_65_method_131_code 2 = .ok (.if_icmp .ge 35, 3) := by decide +kernel
theorem d13_37 : decode jdk_65_method_131_code 37 = .ok (.return_, 1) := by decide +kernel
theorem d4_0 : decode jdk_65_method_123_code 0 = .ok (.iload_n 1, 1) := by decide +kernel
theorem d4_1 : decode jdk_65_method_123_code 1 = .ok (.aload_n 0, 1) := by decide +kernel
theorem d4_2 : decode jdk_65_method_123_code 2 = .ok (.arraylength, 1) := by decide +kernel
theorem d4_3 : decode jdk_65_method_123_code 3 = .ok (.if_icmp .ne 11, 3) := by decide +kernel
theorem d4_14 : decode jdk_65_method_123_code 14 = .ok (.iload_n 1, 1) := by decide +kernel
theorem d4_15 : decode jdk_65_method_123_code 15 = .ok (.newarray .int, 2) := by decide +kernel
theorem d4_17 : decode jdk_65_method_123_code 17 = .ok (.astore_n 2, 1) := by decide +kernel
theorem d4_18 : decode jdk_65_method_123_code 18 = .ok (.aload_n 0, 1) := by decide +kernel
theorem d4_19 : decode jdk_65_method_123_code 19 = .ok (.iconst 0, 1) := by decide +kernel
theorem d4_20 : decode jdk_65_method_123_code 20 = .ok (.aload_n 2, 1) := by decide +kernel
theorem d4_21 : decode jdk_65_method_123_code 21 = .ok (.iconst 0, 1) := by decide +kernel
theorem d4_22 : decode jdk_65_method_123_code 22 = .ok (.aload_n 0, 1) := by decide +kernel
theorem d4_23 : decode jdk_65_method_123_code 23 = .ok (.arraylength, 1) := by decide +kernel
theorem d4_24 : decode jdk_65_method_123_code 24 = .ok (.iload_n 1, 1) := by decide +kernel
theorem d4_25 : decode jdk_65_method_123_code 25 = .ok (.invokestatic 304, 3) := by decide +kernel
theorem d4_28 : decode jdk_65_method_123_code 28 = .ok (.invokestatic 150, 3) := by decide +kernel
theorem d4_31 : decode jdk_65_method_123_code 31 = .ok (.aload_n 2, 1) := by decide +kernel
theorem d4_32 : decode jdk_65_method_123_code 32 = .ok (.areturn, 1) := by decide +kernel
theorem d12_0 : decode jdk_65_method_137_code 0 = .ok (.iload_n 1, 1) := by decide +kernel
theorem d12_1 : decode jdk_65_method_137_code 1 = .ok (.iload_n 2, 1) := by decide +kernel
theorem d12_2 : decode jdk_65_method_137_code 2 = .ok (.invokestatic 343, 3) := by decide +kernel
theorem d12_5 : decode jdk_65_method_137_code 5 = .ok (.iload_n 2, 1) := by decide +kernel
theorem d12_6 : decode jdk_65_method_137_code 6 = .ok (.iload_n 1, 1) := by decide +kernel
theorem d12_7 : decode jdk_65_method_137_code 7 = .ok (.isub, 1) := by decide +kernel
theorem d12_8 : decode jdk_65_method_137_code 8 = .ok (.istore_n 3, 1) := by decide +kernel
theorem d12_9 : decode jdk_65_method_137_code 9 = .ok (.iload_n 3, 1) := by decide +kernel
theorem d12_10 : decode jdk_65_method_137_code 10 = .ok (.newarray .int, 2) := by decide +kernel
theorem d12_12 : decode jdk_65_method_137_code 12 = .ok (.astore 4, 2) := by decide +kernel
theorem d12_14 : decode jdk_65_method_137_code 14 = .ok (.aload_n 0, 1) := by decide +kernel
theorem d12_15 : decode jdk_65_method_137_code 15 = .ok (.iload_n 1, 1) := by decide +kernel
theorem d12_16 : decode jdk_65_method_137_code 16 = .ok (.aload 4, 2) := by decide +kernel
theorem d12_18 : decode jdk_65_method_137_code 18 = .ok (.iconst 0, 1) := by decide +kernel
theorem d12_19 : decode jdk_65_method_137_code 19 = .ok (.aload_n 0, 1) := by decide +kernel
theorem d12_20 : decode jdk_65_method_137_code 20 = .ok (.arraylength, 1) := by decide +kernel
theorem d12_21 : decode jdk_65_method_137_code 21 = .ok (.iload_n 1, 1) := by decide +kernel
theorem d12_22 : decode jdk_65_method_137_code 22 = .ok (.isub, 1) := by decide +kernel
theorem d12_23 : decode jdk_65_method_137_code 23 = .ok (.iload_n 3, 1) := by decide +kernel
theorem d12_24 : decode jdk_65_method_137_code 24 = .ok (.invokestatic 304, 3) := by decide +kernel
theorem d12_27 : decode jdk_65_method_137_code 27 = .ok (.invokestatic 150, 3) := by decide +kernel
theorem d12_30 : decode jdk_65_method_137_code 30 = .ok (.aload 4, 2) := by decide +kernel
theorem d12_32 : decode jdk_65_method_137_code 32 = .ok (.areturn, 1) := by decide +kernel
theorem d8_0 : decode jdk_65_method_136_code 0 = .ok (.iload_n 1, 1) := by decide +kernel
theorem d8_1 : decode jdk_65_method_136_code 1 = .ok (.ifCond .ne 9, 3) := by decide +kernel
theorem d8_4 : decode jdk_65_method_136_code 4 = .ok (.iload_n 2, 1) := by decide +kernel
theorem d8_5 : decode jdk_65_method_136_code 5 = .ok (.aload_n 0, 1) := by decide +kernel
theorem d8_6 : decode jdk_65_method_136_code 6 = .ok (.arraylength, 1) := by decide +kernel
theorem d8_7 : decode jdk_65_method_136_code 7 = .ok (.if_icmp .eq 10, 3) := by decide +kernel
theorem d8_17 : decode jdk_65_method_136_code 17 = .ok (.aload_n 0, 1) := by decide +kernel
theorem d8_18 : decode jdk_65_method_136_code 18 = .ok (.invokevirtual 316, 3) := by decide +kernel
theorem d8_21 : decode jdk_65_method_136_code 21 = .ok (.checkcast 317, 3) := by decide +kernel
theorem d8_24 : decode jdk_65_method_136_code 24 = .ok (.areturn, 1) := by decide +kernel
theorem d8_10 : decode jdk_65_method_136_code 10 = .ok (.aload_n 0, 1) := by decide +kernel
theorem d8_11 : decode jdk_65_method_136_code 11 = .ok (.iload_n 1, 1) := by decide +kernel
theorem d8_12 : decode jdk_65_method_136_code 12 = .ok (.iload_n 2, 1) := by decide +kernel
theorem d8_13 : decode jdk_65_method_136_code 13 = .ok (.invokestatic 351, 3) := by decide +kernel
theorem d8_16 : decode jdk_65_method_136_code 16 = .ok (.areturn, 1) := by decide +kernel
theorem d6_0 : decode prog_16_method_1_code 0 = .ok (.aload_n 0, 1) := by decide +kernel
theorem d6_1 : decode prog_16_method_1_code 1 = .ok (.invokespecial 1, 3) := by decide +kernel
theorem d6_4 : decode prog_16_method_1_code 4 = .ok (.aload_n 0, 1) := by decide +kernel
theorem d6_5 : decode prog_16_method_1_code 5 = .ok (.aload_n 1, 1) := by decide +kernel
theorem d6_6 : decode prog_16_method_1_code 6 = .ok (.putfield 7, 3) := by decide +kernel
theorem d6_9 : decode prog_16_method_1_code 9 = .ok (.aload_n 0, 1) := by decide +kernel
theorem d6_10 : decode prog_16_method_1_code 10 = .ok (.aload_n 2, 1) := by decide +kernel
theorem d6_11 : decode prog_16_method_1_code 11 = .ok (.putfield 13, 3) := by decide +kernel
theorem d6_14 : decode prog_16_method_1_code 14 = .ok (.return_, 1) := by decide +kernel
theorem d7_0 : decode prog_16_method_2_code 0 = .ok (.aload_n 0, 1) := by decide +kernel
theorem d7_1 : decode prog_16_method_2_code 1 = .ok (.getfield 13, 3) := by decide +kernel
theorem d7_4 : decode prog_16_method_2_code 4 = .ok (.aload_n 0, 1) := by decide +kernel
theorem d7_5 : decode prog_16_method_2_code 5 = .ok (.getfield 7, 3) := by decide +kernel
theorem d7_8 : decode prog_16_method_2_code 8 = .ok (.iload_n 1, 1) := by decide +kernel
theorem d7_9 : decode prog_16_method_2_code 9 = .ok (.iaload, 1) := by decide +kernel
theorem d7_10 : decode prog_16_method_2_code 10 = .ok (.aload_n 0, 1) := by decide +kernel
theorem d7_11 : decode prog_16_method_2_code 11 = .ok (.getfield 7, 3) := by decide +kernel
theorem d7_14 : decode prog_16_method_2_code 14 = .ok (.iload_n 1, 1) := by decide +kernel
theorem d7_15 : decode prog_16_method_2_code 15 = .ok (.iconst 1, 1) := by decide +kernel
theorem d7_16 : decode prog_16_method_2_code 16 = .ok (.iadd, 1) := by decide +kernel
theorem d7_17 : decode prog_16_method_2_code 17 = .ok (.iaload, 1) := by decide +kernel
theorem d7_18 : decode prog_16_method_2_code 18 = .ok (.invokestatic 16, 3) := by decide +kernel
theorem d7_21 : decode prog_16_method_2_code 21 = .ok (.areturn, 1) := by decide +kernel
theorem d3_77 : decode prog_15_method_6_code 77 = .ok (.iload 5, 2) := by decide +kernel
theorem d3_79 : decode prog_15_method_6_code 79 = .ok (.aload_n 0, 1) := by decide +kernel
theorem d3_80 : decode prog_15_method_6_code 80 = .ok (.getfield 47, 3) := by decide +kernel
theorem d3_83 : decode prog_15_method_6_code 83 = .ok (.if_icmp .ge 28, 3) := by decide +kernel
theorem d3_111 : decode prog_15_method_6_code 111 = .ok (.new 68, 3) := by decide +kernel
theorem d3_114 : decode prog_15_method_6_code 114 = .ok (.dup, 1) := by decide +kernel
theorem d3_115 : decode prog_15_method_6_code 115 = .ok (.aload_n 2, 1) := by decide +kernel
theorem d3_116 : decode prog_15_method_6_code 116 = .ok (.aload 4, 2) := by decide +kernel
theorem d3_118 : decode prog_15_method_6_code 118 = .ok (.invokespecial 70, 3) := by decide +kernel
theorem d3_121 : decode prog_15_method_6_code 121 = .ok (.areturn, 1) := by decide +kernel
theorem d3_86 : decode prog_15_method_6_code 86 = .ok (.aload 4, 2) := by decide +kernel
theorem d3_88 : decode prog_15_method_6_code 88 = .ok (.aload_n 3, 1) := by decide +kernel
theorem d3_89 : decode prog_15_method_6_code 89 = .ok (.aload_n 0, 1) := by decide +kernel
theorem d3_90 : decode prog_15_method_6_code 90 = .ok (.getfield 19, 3) := by decide +kernel
theorem d3_93 : decode prog_15_method_6_code 93 = .ok (.iload 5, 2) := by decide +kernel
theorem d3_95 : decode prog_15_method_6_code 95 = .ok (.iaload, 1) := by decide +kernel
theorem d3_96 : decode prog_15_method_6_code 96 = .ok (.dup2, 1) := by decide +kernel
theorem d3_97 : decode prog_15_method_6_code 97 = .ok (.iaload, 1) := by decide +kernel
theorem d3_98 : decode prog_15_method_6_code 98 = .ok (.dup_x2, 1) := by decide +kernel
theorem d3_99 : decode prog_15_method_6_code 99 = .ok (.iconst 1, 1) := by decide +kernel
theorem d3_100 : decode prog_15_method_6_code 100 = .ok (.iadd, 1) := by decide +kernel
theorem d3_101 : decode prog_15_method_6_code 101 = .ok (.iastore, 1) := by decide +kernel
theorem d3_102 : decode prog_15_method_6_code 102 = .ok (.iload 5, 2) := by decide +kernel
theorem d3_104 : decode prog_15_method_6_code 104 = .ok (.iastore, 1) := by decide +kernel
theorem d3_105 : decode prog_15_method_6_code 105 = .ok (.iinc 5 1, 3) := by decide +kernel
theorem d3_108 : decode prog_15_method_6_code 108 = .ok (.goto (-31), 3) := by decide +kernel
theorem d3_38 : decode prog_15_method_6_code 38 = .ok (.iload_n 3, 1) := by decide +kernel
theorem d3_39 : decode prog_15_method_6_code 39 = .ok (.iload_n 1, 1) := by decide +kernel
theorem d3_40 : decode prog_15_method_6_code 40 = .ok (.if_icmp .ge 20, 3) := by decide +kernel
theorem d3_60 : decode prog_15_method_6_code 60 = .ok (.aload_n 2, 1) := by decide +kernel
theorem d3_61 : decode prog_15_method_6_code 61 = .ok (.iload_n 1, 1) := by decide +kernel
theorem d3_62 : decode prog_15_method_6_code 62 = .ok (.invokestatic 62, 3) := by decide +kernel
theorem d3_65 : decode prog_15_method_6_code 65 = .ok (.astore_n 3, 1) := by decide +kernel
theorem d3_66 : decode prog_15_method_6_code 66 = .ok (.aload_n 0, 1) := by decide +kernel
theorem d3_67 : decode prog_15_method_6_code 67 = .ok (.getfield 47, 3) := by decide +kernel
theorem d3_70 : decode prog_15_method_6_code 70 = .ok (.newarray .int, 2) := by decide +kernel
theorem d3_72 : decode prog_15_method_6_code 72 = .ok (.astore 4, 2) := by decide +kernel
theorem d3_74 : decode prog_15_method_6_code 74 = .ok (.iconst 0, 1) := by decide +kernel
theorem d3_75 : decode prog_15_method_6_code 75 = .ok (.istore 5, 2) := by decide +kernel
theorem d3_43 : decode prog_15_method_6_code 43 = .ok (.aload_n 2, 1) := by decide +kernel
theorem d3_44 : decode prog_15_method_6_code 44 = .ok (.iload_n 3, 1) := by decide +kernel
theorem d3_45 : decode prog_15_method_6_code 45 = .ok (.iconst 1, 1) := by decide +kernel
theorem d3_46 : decode prog_15_method_6_code 46 = .ok (.iadd, 1) := by decide +kernel
theorem d3_47 : decode prog_15_method_6_code 47 = .ok (.dup2, 1) := by decide +kernel
theorem d3_48 : decode prog_15_method_6_code 48 = .ok (.iaload, 1) := by decide +kernel
theorem d3_49 : decode prog_15_method_6_code 49 = .ok (.aload_n 2, 1) := by decide +kernel
theorem d3_50 : decode prog_15_method_6_code 50 = .ok (.iload_n 3, 1) := by decide +kernel
theorem d3_51 : decode prog_15_method_6_code 51 = .ok (.iaload, 1) := by decide +kernel
theorem d3_52 : decode prog_15_method_6_code 52 = .ok (.iadd, 1) := by decide +kernel
theorem d3_53 : decode prog_15_method_6_code 53 = .ok (.iastore, 1) := by decide +kernel
theorem d3_54 : decode prog_15_method_6_code 54 = .ok (.iinc 3 1, 3) := by decide +kernel
theorem d3_57 : decode prog_15_method_6_code 57 = .ok (.goto (-19), 3) := by decide +kernel
theorem d3_8 : decode prog_15_method_6_code 8 = .ok (.iload_n 3, 1) := by decide +kernel
theorem d3_9 : decode prog_15_method_6_code 9 = .ok (.aload_n 0, 1) := by decide +kernel
theorem d3_10 : decode prog_15_method_6_code 10 = .ok (.getfield 47, 3) := by decide +kernel
theorem d3_13 : decode prog_15_method_6_code 13 = .ok (.if_icmp .ge 23, 3) := by decide +kernel
theorem d3_36 : decode prog_15_method_6_code 36 = .ok (.iconst 0, 1) := by decide +kernel
theorem d3_37 : decode prog_15_method_6_code 37 = .ok (.istore_n 3, 1) := by decide +kernel
theorem d3_16 : decode prog_15_method_6_code 16 = .ok (.aload_n 2, 1) := by decide +kernel
theorem d3_17 : decode prog_15_method_6_code 17 = .ok (.aload_n 0, 1) := by decide +kernel
theorem d3_18 : decode prog_15_method_6_code 18 = .ok (.getfield 19, 3) := by decide +kernel
theorem d3_21 : decode prog_15_method_6_code 21 = .ok (.iload_n 3, 1) := by decide +kernel
theorem d3_22 : decode prog_15_method_6_code 22 = .ok (.iaload, 1) := by decide +kernel
theorem d3_23 : decode prog_15_method_6_code 23 = .ok (.iconst 1, 1) := by decide +kernel
theorem d3_24 : decode prog_15_method_6_code 24 = .ok (.iadd, 1) := by decide +kernel
theorem d3_25 : decode prog_15_method_6_code 25 = .ok (.dup2, 1) := by decide +kernel
theorem d3_26 : decode prog_15_method_6_code 26 = .ok (.iaload, 1) := by decide +kernel
theorem d3_27 : decode prog_15_method_6_code 27 = .ok (.iconst 1, 1) := by decide +kernel
theorem d3_28 : decode prog_15_method_6_code 28 = .ok (.iadd, 1) := by decide +kernel
theorem d3_29 : decode prog_15_method_6_code 29 = .ok (.iastore, 1) := by decide +kernel
theorem d3_30 : decode prog_15_method_6_code 30 = .ok (.iinc 3 1, 3) := by decide +kernel
theorem d3_33 : decode prog_15_method_6_code 33 = .ok (.goto (-25), 3) := by decide +kernel
theorem d3_0 : decode prog_15_method_6_code 0 = .ok (.iload_n 1, 1) := by decide +kernel
theorem d3_1 : decode prog_15_method_6_code 1 = .ok (.iconst 1, 1) := by decide +kernel
theorem d3_2 : decode prog_15_method_6_code 2 = .ok (.iadd, 1) := by decide +kernel
theorem d3_3 : decode prog_15_method_6_code 3 = .ok (.newarray .int, 2) := by decide +kernel
theorem d3_5 : decode prog_15_method_6_code 5 = .ok (.astore_n 2, 1) := by decide +kernel
theorem d3_6 : decode prog_15_method_6_code 6 = .ok (.iconst 0, 1) := by decide +kernel
theorem d3_7 : decode prog_15_method_6_code 7 = .ok (.istore_n 3, 1) := by decide +kernel
theorem d9_0 : decode method_3_code 0 = .ok (.iconst 4, 1) := by decide +kernel
theorem d9_1 : decode method_3_code 1 = .ok (.newarray .int, 2) := by decide +kernel
theorem d9_3 : decode method_3_code 3 = .ok (.astore 4, 2) := by decide +kernel
theorem d9_5 : decode method_3_code 5 = .ok (.iconst 0, 1) := by decide +kernel
theorem d9_6 : decode method_3_code 6 = .ok (.istore 5, 2) := by decide +kernel
theorem d9_8 : decode method_3_code 8 = .ok (.iload_n 2, 1) := by decide +kernel
theorem d9_9 : decode method_3_code 9 = .ok (.ifCond .le 19, 3) := by decide +kernel
theorem d9_28 : decode method_3_code 28 = .ok (.iload_n 2, 1) := by decide +kernel
theorem d9_29 : decode method_3_code 29 = .ok (.iconst 1, 1) := by decide +kernel
theorem d9_30 : decode method_3_code 30 = .ok (.if_icmp .le 19, 3) := by decide +kernel
theorem d9_49 : decode method_3_code 49 = .ok (.iload_n 2, 1) := by decide +kernel
theorem d9_50 : decode method_3_code 50 = .ok (.iconst 2, 1) := by decide +kernel
theorem d9_51 : decode method_3_code 51 = .ok (.if_icmp .le 19, 3) := by decide +kernel
theorem d9_70 : decode method_3_code 70 = .ok (.iload_n 2, 1) := by decide +kernel
theorem d9_71 : decode method_3_code 71 = .ok (.iconst 3, 1) := by decide +kernel
theorem d9_72 : decode method_3_code 72 = .ok (.if_icmp .le 19, 3) := by decide +kernel
theorem d9_91 : decode method_3_code 91 = .ok (.aload_n 0, 1) := by decide +kernel
theorem d9_92 : decode method_3_code 92 = .ok (.ifnull 10, 3) := by decide +kernel
theorem d9_95 : decode method_3_code 95 = .ok (.aload_n 0, 1) := by decide +kernel
theorem d9_96 : decode method_3_code 96 = .ok (.arraylength, 1) := by decide +kernel
theorem d9_97 : decode method_3_code 97 = .ok (.iload 5, 2) := by decide +kernel
theorem d9_99 : decode method_3_code 99 = .ok (.if_icmp .eq 5, 3) := by decide +kernel
theorem d9_104 : decode method_3_code 104 = .ok (.iload 5, 2) := by decide +kernel
theorem d9_106 : decode method_3_code 106 = .ok (.iconst 1, 1) := by decide +kernel
theorem d9_107 : decode method_3_code 107 = .ok (.if_icmp .lt 13, 3) := by decide +kernel
theorem d9_120 : decode method_3_code 120 = .ok (.iload 5, 2) := by decide +kernel
theorem d9_122 : decode method_3_code 122 = .ok (.iconst 2, 1) := by decide +kernel
theorem d9_123 : decode method_3_code 123 = .ok (.if_icmp .lt 13, 3) := by decide +kernel
theorem d9_136 : decode method_3_code 136 = .ok (.iload 5, 2) := by decide +kernel
theorem d9_138 : decode method_3_code 138 = .ok (.iconst 3, 1) := by decide +kernel
theorem d9_139 : decode method_3_code 139 = .ok (.if_icmp .lt 13, 3) := by decide +kernel
theorem d9_152 : decode method_3_code 152 = .ok (.iload 5, 2) := by decide +kernel
theorem d9_154 : decode method_3_code 154 = .ok (.iconst 4, 1) := by decide +kernel
theorem d9_155 : decode method_3_code 155 = .ok (.if_icmp .lt 13, 3) := by decide +kernel
theorem d9_168 : decode method_3_code 168 = .ok (.iconst 1, 1) := by decide +kernel
theorem d9_169 : decode method_3_code 169 = .ok (.goto 4, 3) := by decide +kernel
theorem d9_173 : decode method_3_code 173 = .ok (.ireturn, 1) := by decide +kernel
theorem d9_12 : decode method_3_code 12 = .ok (.aload_n 1, 1) := by decide +kernel
theorem d9_13 : decode method_3_code 13 = .ok (.iconst 0, 1) := by decide +kernel
theorem d9_14 : decode method_3_code 14 = .ok (.iaload, 1) := by decide +kernel
theorem d9_15 : decode method_3_code 15 = .ok (.iload_n 3, 1) := by decide +kernel
theorem d9_16 : decode method_3_code 16 = .ok (.if_icmp .ne 12, 3) := by decide +kernel
theorem d9_19 : decode method_3_code 19 = .ok (.aload 4, 2) := by decide +kernel
theorem d9_21 : decode method_3_code 21 = .ok (.iload 5, 2) := by decide +kernel
theorem d9_23 : decode method_3_code 23 = .ok (.iconst 0, 1) := by decide +kernel
theorem d9_24 : decode method_3_code 24 = .ok (.iastore, 1) := by decide +kernel
theorem d9_25 : decode method_3_code 25 = .ok (.iinc 5 1, 3) := by decide +kernel
theorem d9_110 : decode method_3_code 110 = .ok (.aload_n 0, 1) := by decide +kernel
theorem d9_111 : decode method_3_code 111 = .ok (.iconst 0, 1) := by decide +kernel
theorem d9_112 : decode method_3_code 112 = .ok (.iaload, 1) := by decide +kernel
theorem d9_113 : decode method_3_code 113 = .ok (.aload 4, 2) := by decide +kernel
theorem d9_115 : decode method_3_code 115 = .ok (.iconst 0, 1) := by decide +kernel
theorem d9_116 : decode method_3_code 116 = .ok (.iaload, 1) := by decide +kernel
theorem d9_117 : decode method_3_code 117 = .ok (.if_icmp .ne 55, 3) := by decide +kernel
theorem d9_33 : decode method_3_code 33 = .ok (.aload_n 1, 1) := by decide +kernel
theorem d9_34 : decode method_3_code 34 = .ok (.iconst 1, 1) := by decide +kernel
theorem d9_35 : decode method_3_code 35 = .ok (.iaload, 1) := by decide +kernel
theorem d9_36 : decode method_3_code 36 = .ok (.iload_n 3, 1) := by decide +kernel
theorem d9_37 : decode method_3_code 37 = .ok (.if_icmp .ne 12, 3) := by decide +kernel
theorem d9_40 : decode method_3_code 40 = .ok (.aload 4, 2) := by decide +kernel
theorem d9_42 : decode method_3_code 42 = .ok (.iload 5, 2) := by decide +kernel
theorem d9_44 : decode method_3_code 44 = .ok (.iconst 1, 1) := by decide +kernel
theorem d9_45 : decode method_3_code 45 = .ok (.iastore, 1) := by decide +kernel
theorem d9_46 : decode method_3_code 46 = .ok (.iinc 5 1, 3) := by decide +kernel
theorem d9_126 : decode method_3_code 126 = .ok (.aload_n 0, 1) := by decide +kernel
theorem d9_127 : decode method_3_code 127 = .ok (.iconst 1, 1) := by decide +kernel
theorem d9_128 : decode method_3_code 128 = .ok (.iaload, 1) := by decide +kernel
theorem d9_129 : decode method_3_code 129 = .ok (.aload 4, 2) := by decide +kernel
theorem d9_131 : decode method_3_code 131 = .ok (.iconst 1, 1) := by decide +kernel
theorem d9_132 : decode method_3_code 132 = .ok (.iaload, 1) := by decide +kernel
theorem d9_133 : decode method_3_code 133 = .ok (.if_icmp .ne 39, 3) := by decide +kernel
theorem d9_54 : decode method_3_code 54 = .ok (.aload_n 1, 1) := by decide +kernel
theorem d9_55 : decode method_3_code 55 = .ok (.iconst 2, 1) := by decide +kernel
theorem d9_56 : decode method_3_code 56 = .ok (.iaload, 1) := by decide +kernel
theorem d9_57 : decode method_3_code 57 = .ok (.iload_n 3, 1) := by decide +kernel
theorem d9_58 : decode method_3_code 58 = .ok (.if_icmp .ne 12, 3) := by decide +kernel
theorem d9_61 : decode method_3_code 61 = .ok (.aload 4, 2) := by decide +kernel
theorem d9_63 : decode method_3_code 63 = .ok (.iload 5, 2) := by decide +kernel
theorem d9_65 : decode method_3_code 65 = .ok (.iconst 2, 1) := by decide +kernel
theorem d9_66 : decode method_3_code 66 = .ok (.iastore, 1) := by decide +kernel
theorem d9_67 : decode method_3_code 67 = .ok (.iinc 5 1, 3) := by decide +kernel
theorem d9_142 : decode method_3_code 142 = .ok (.aload_n 0, 1) := by decide +kernel
theorem d9_143 : decode method_3_code 143 = .ok (.iconst 2, 1) := by decide +kernel
theorem d9_144 : decode method_3_code 144 = .ok (.iaload, 1) := by decide +kernel
theorem d9_145 : decode method_3_code 145 = .ok (.aload 4, 2) := by decide +kernel
theorem d9_147 : decode method_3_code 147 = .ok (.iconst 2, 1) := by decide +kernel
theorem d9_148 : decode method_3_code 148 = .ok (.iaload, 1) := by decide +kernel
theorem d9_149 : decode method_3_code 149 = .ok (.if_icmp .ne 23, 3) := by decide +kernel
theorem d9_75 : decode method_3_code 75 = .ok (.aload_n 1, 1) := by decide +kernel
theorem d9_76 : decode method_3_code 76 = .ok (.iconst 3, 1) := by decide +kernel
theorem d9_77 : decode method_3_code 77 = .ok (.iaload, 1) := by decide +kernel
theorem d9_78 : decode method_3_code 78 = .ok (.iload_n 3, 1) := by decide +kernel
theorem d9_79 : decode method_3_code 79 = .ok (.if_icmp .ne 12, 3) := by decide +kernel
theorem d9_82 : decode method_3_code 82 = .ok (.aload 4, 2) := by decide +kernel
theorem d9_84 : decode method_3_code 84 = .ok (.iload 5, 2) := by decide +kernel
theorem d9_86 : decode method_3_code 86 = .ok (.iconst 3, 1) := by decide +kernel
theorem d9_87 : decode method_3_code 87 = .ok (.iastore, 1) := by decide +kernel
theorem d9_88 : decode method_3_code 88 = .ok (.iinc 5 1, 3) := by decide +kernel
theorem d9_158 : decode method_3_code 158 = .ok (.aload_n 0, 1) := by decide +kernel
theorem d9_159 : decode method_3_code 159 = .ok (.iconst 3, 1) := by decide +kernel
theorem d9_160 : decode method_3_code 160 = .ok (.iaload, 1) := by decide +kernel
theorem d9_161 : decode method_3_code 161 = .ok (.aload 4, 2) := by decide +kernel
theorem d9_163 : decode method_3_code 163 = .ok (.iconst 3, 1) := by decide +kernel
theorem d9_164 : decode method_3_code 164 = .ok (.iaload, 1) := by decide +kernel
theorem d9_165 : decode method_3_code 165 = .ok (.if_icmp .ne 7, 3) := by decide +kernel
theorem pd_0 : parseMethodDescriptor "(I)V" = some ⟨[.int], none⟩ := by decide +kernel
theorem pd_1 : parseMethodDescriptor "(II)I" = some ⟨[.int, .int], some .int⟩ := by decide +kernel
theorem pd_2 : parseMethodDescriptor "(II)V" = some ⟨[.int, .int], none⟩ := by decide +kernel
theorem pd_3 : parseMethodDescriptor "([III)[I" = some ⟨[(.array .int), .int, .int], some (.array .int)⟩ := by decide +kernel
theorem pd_4 : parseMethodDescriptor "([I[I)V" = some ⟨[(.array .int), (.array .int)], none⟩ := by decide +kernel
theorem pd_5 : parseMethodDescriptor "([II)[I" = some ⟨[(.array .int), .int], some (.array .int)⟩ := by decide +kernel
theorem pd_6 : parseMethodDescriptor "(I)Lcom/example/vestwright/vestwright/cli/TableRows$ByKey;" = some ⟨[.int], some (.object "com/example/vestwright/vestwright/cli/TableRows$ByKey")⟩ := by decide +kernel
theorem pd_7 : parseMethodDescriptor "(I)[I" = some ⟨[.int], some (.array .int)⟩ := by decide +kernel
theorem pd_8 : parseMethodDescriptor "([I[III)Z" = some ⟨[(.array .int), (.array .int), .int, .int], some .boolean⟩ := by decide +kernel
theorem pd_9 : parseMethodDescriptor "([Ljava/lang/String;I)Z" = some ⟨[(.array (.object "java/lang/String")), .int], some .boolean⟩ := by decide +kernel
theorem pn_rm1 : plainName "com/example/vestwright/vestwright/cli/TableRows" = true := by first | (simp [plainName, overriddenIn]; done) | decide +kernel
theorem ef_rm1 (m : MethodId) (a : Addr) : entryFrame m #[(.ref a), (.int (0 : Int32))] 2 = mkF m 0 #[.val (.ref a), .val (.int (0 : Int32))] [] := by first | (simp [entryFrame, mkF, argsToLocals, Value.category]; done) | rfl
def Q_rm1 (Z : State) (h0 : Heap) (n0 : Nat) (a : Addr) (v : Option Value) (h : Heap) (L : List Loc) : Prop := v = none ∧ Fr n0 L ∧ Keep h0 h [a] ∧ ∃ (bb bs bk : Addr) (k1 k2 k3 : ClassId), own_TR Z h a bb bs bk k1 k2 k3 [] ∧ h0.size ≤ bb ∧ h0.size ≤ bs ∧ h0.size ≤ bk
set_option maxRecDepth 65536 in
set_option maxHeartbeats 40000000 in
theorem rm1 (l : Launch) (Z : State) (a0 : Array Value) (hw : ∀ d ∈ tables_1, d.before a0 Z = true) (ws : List Jvm.Cond) (h0 : Heap) (n0 : Nat) (O0 : Old Z n0 h0) (a : Addr) (Ea : Exa Z h0 a "com/example/vestwright/vestwright/cli/TableRows") (D_width : Fld Z h0 a "com/example/vestwright/vestwright/cli/TableRows" "width" "I" (.int (0 : Int32))) (D_bytes : Fld Z h0 a "com/example/vestwright/vestwright/cli/TableRows" "bytes" "[B" .null) (D_used : Fld Z h0 a "com/example/vestwright/vestwright/cli/TableRows" "used" "I" (.int (0 : Int32))) (D_starts : Fld Z h0 a "com/example/vestwright/vestwright/cli/TableRows" "starts" "[I" .null) (D_keys : Fld Z h0 a "com/example/vestwright/vestwright/cli/TableRows" "keys" "[I" .null) (D_size : Fld Z h0 a "com/example/vestwright/vestwright/cli/TableRows" "size" "I" (.int (0 : Int32))) (ga : n0 ≤ a) :
    MetFree l (⟨"com/example/vestwright/vestwright/cli/TableRows", "<init>", "(I)V"⟩ : MethodName) (head1 (Jvm.Cond.code (⟨"com/example/vestwright/vestwright/cli/TableRows", "<init>", "(I)V"⟩ : MethodName) prog_15_method_1_code 2 none :: ws) ({ frames := 1, cells := 3, slots := 12288, locals := 12 } : Room)) (fun aq U => aq = #[(.ref a), (.int (0 : Int32))] ∧ Z.Warmed39 U.vm ∧ U.heap = h0) (fun _ _ _ _ _ => True) (fun _ U o U' => ∃ v L, o = .returned v ∧ Q_rm1 Z h0 n0 a v U'.heap L ∧ FrameEnd U o U' L ({ frames := 1, cells := 3, slots := 12288, locals := 12 } : Room).cells ({ frames := 1, cells := 3, slots := 12288, locals := 12 } : Room).slots) := by
  refine MetFree.of_bodySF (plainFor_of_name pn_rm1) hisR ?_
  intro p e s m args below meth c s₁ Bd hml0 hP hK
  obtain ⟨rfl, hZ, hh⟩ := hP
  have hx := Bd.exec
  have hby := Bd.bytes
  have hml : c.maxLocals = 2 := hml0
  have hown : s.vm.findClass "com/example/vestwright/vestwright/cli/TableRows" = some m.cls := findClass_of_methodNamed Bd.named
  have hnm := (name_of_methodNamed Bd.named Bd.method).1
  have hlk := Bd.notSynchronized
  have hret := Bd.returns
  have X0 : Stand p l e ({ frames := 1, cells := 3, slots := 12288, locals := 12 } : Room) s m #[(.ref a), (.int (0 : Int32))] below meth c s₁ [] 0 0 := Stand.of_body Bd
  have e0 : s₁.heap = h0 := by rw [← hh, Bd.state]; rfl
  have N0 := Fr.nil n0
  have K0 := Keep.refl h0 [a]
  refine own_go (S' := (s₁.setTop (mkF m 0 #[.val (.ref a), .val (.int (0 : Int32))] []))) (fun tq kq => castTop (ef_rm1 m a) kq) ?_
  show own_G p e s below (Q_rm1 Z h0 n0 a) _ _ _
  refine own_go (S' := (s₁.setTop (mkF m 1 #[.val (.ref a), .val (.int (0 : Int32))] [(.ref a)]))) (fun tq kq => XS.aloadN X0.here hx rfl (hb hby d1_0) rfl rfl kq) ?_
  obtain ⟨T101, X101, e101, st101⟩ := initO X0 hx hZ hown (hw _ (List.mem_of_getElem? (i := 8) rfl)) (hw _ (List.mem_of_getElem? (i := 9) rfl)) (hw _ (List.mem_of_getElem? (i := 10) rfl)) e0 (g := (mkF m 1 #[.val (.ref a), .val (.int (0 : Int32))] [(.ref a)])) rfl (by rw [hml]; rfl) rfl (hb hby d1_1) (by decide) (W := 0) (by show 2 * 0 + _ ≤ _; exact Nat.le_of_eq rfl) (by decide)
  refine own_go (S' := (T101.setTop (mkF m 8 #[.val (.ref a), .val (.int (0 : Int32))] [(.int (4096 : Int32)), (.ref a)]))) (fun tq kq => st101 tq (XS.aloadN X101.here hx rfl (hb hby d1_4) rfl rfl (XS.sipush X101.here hx rfl (hb hby d1_5) kq))) ?_
  obtain ⟨T102, h102, k102, X102, e102, E102, A102, st102⟩ := newP X101 hx hZ (hw _ (List.mem_of_getElem? (i := 11) rfl)) e101 (g := (mkF m 8 #[.val (.ref a), .val (.int (0 : Int32))] [(.int (4096 : Int32)), (.ref a)])) rfl (hb hby d1_8) rfl (by decide) (cap := 4096) (by decide) (by decide) (by decide) (by decide)
  obtain ⟨b102, g102⟩ : ∃ z, z = h0.size := ⟨_, rfl⟩
  rw [← g102] at A102 st102
  have ne_a_b102 : a ≠ b102 := Nat.ne_of_lt (Nat.lt_of_lt_of_le Ea.lt (Nat.le_of_eq g102.symm))
  have ge_b102 : n0 ≤ b102 := Nat.le_trans (own_osz O0) (Nat.le_of_eq g102.symm)
  have gk_b102 : h0.size ≤ b102 := Nat.le_trans K0.1 (Nat.le_of_eq g102.symm)
  have V102 : own_Ar Z h102 b102 k102 .byte (List.replicate 4096 (.int (0 : Int32))) := own_Ar.new A102 (by decide)
  have O102 := O0.ext E102
  have K102 := K0.ext E102
  refine own_go (S' := (T102.setTop (mkF m 10 #[.val (.ref a), .val (.int (0 : Int32))] [(.ref b102), (.ref a)]))) (fun tq kq => st102 tq kq) ?_
  have f103 := (D_bytes.ext E102)
  have f104 := (Ea.ext E102)
  obtain ⟨T105, h105, X105, e105, W105, st105⟩ := putF X102 hx hZ hown (host := "") (Or.inl (hw _ (List.mem_of_getElem? (i := 12) rfl))) Via.refl e102 f103 f104 (Or.inl (hw _ (List.mem_of_getElem? (i := 13) rfl))) (hw _ (List.mem_of_getElem? (i := 3) rfl)) (ty := (.array .byte)) (by decide) rfl rfl (g := (mkF m 10 #[.val (.ref a), .val (.int (0 : Int32))] [(.ref b102), (.ref a)])) rfl rfl (hb hby d1_10)
  have N105 := Fr.snoc X105 N0 ga
  have O105 := O102.wr W105 ga
  have K105 := K102.wr W105 (Or.inl (List.mem_of_getElem? (i := 0) rfl))
  have F105 := f103.same W105
  refine own_go (S' := (T105.setTop (mkF m 17 #[.val (.ref a), .val (.int (0 : Int32))] [(.int (4096 : Int32)), (.ref a)]))) (fun tq kq => st105 tq (XS.aloadN X105.here hx rfl (hb hby d1_13) rfl rfl (XS.sipush X105.here hx rfl (hb hby d1_14) kq))) ?_
  obtain ⟨T106, h106, k106, X106, e106, E106, A106, st106⟩ := newP X105 hx hZ (hw _ (List.mem_of_getElem? (i := 0) rfl)) e105 (g := (mkF m 17 #[.val (.ref a), .val (.int (0 : Int32))] [(.int (4096 : Int32)), (.ref a)])) rfl (hb hby d1_17) rfl (by decide) (cap := 4096) (by decide) (by decide) (by decide) (by decide)
  obtain ⟨b106, g106⟩ : ∃ z, z = h105.size := ⟨_, rfl⟩
  rw [← g106] at A106 st106
  have f107 := (f104.wr W105)
  have ne_a_b106 : a ≠ b106 := Nat.ne_of_lt (Nat.lt_of_lt_of_le f107.lt (Nat.le_of_eq g106.symm))
  have f108 := (V102.other W105 (Ne.symm ne_a_b102))
  have ne_b102_b106 : b102 ≠ b106 := Nat.ne_of_lt (Nat.lt_of_lt_of_le f108.lt (Nat.le_of_eq g106.symm))
  have ge_b106 : n0 ≤ b106 := Nat.le_trans (own_osz O105) (Nat.le_of_eq g106.symm)
  have gk_b106 : h0.size ≤ b106 := Nat.le_trans K105.1 (Nat.le_of_eq g106.symm)
  have V106 : own_Ar Z h106 b106 k106 .int (List.replicate 4096 (.int (0 : Int32))) := own_Ar.new A106 (by decide)
  have O106 := O105.ext E106
  have K106 := K105.ext E106
  refine own_go (S' := (T106.setTop (mkF m 19 #[.val (.ref a), .val (.int (0 : Int32))] [(.ref b106), (.ref a)]))) (fun tq kq => st106 tq kq) ?_
  have f109 := (((D_starts.ext E102).other W105 (Or.inr (slot_ne (Or.inl (hw _ (List.mem_of_getElem? (i := 15) rfl))) (Or.inl (hw _ (List.mem_of_getElem? (i := 13) rfl))) (by decide) (t := (.array .int)) (t' := (.array .byte)) (by decide) (by decide)))).ext E106)
  have f110 := (f107.ext E106)
  obtain ⟨T111, h111, X111, e111, W111, st111⟩ := putF X106 hx hZ hown (host := "") (Or.inl (hw _ (List.mem_of_getElem? (i := 14) rfl))) Via.refl e106 f109 f110 (Or.inl (hw _ (List.mem_of_getElem? (i := 15) rfl))) (hw _ (List.mem_of_getElem? (i := 3) rfl)) (ty := (.array .int)) (by decide) rfl rfl (g := (mkF m 19 #[.val (.ref a), .val (.int (0 : Int32))] [(.ref b106), (.ref a)])) rfl rfl (hb hby d1_19)
  have N111 := Fr.snoc X111 N105 ga
  have O111 := O106.wr W111 ga
  have K111 := K106.wr W111 (Or.inl (List.mem_of_getElem? (i := 0) rfl))
  have F111 := f109.same W111
  refine own_go (S' := (T111.setTop (mkF m 26 #[.val (.ref a), .val (.int (0 : Int32))] [(.int (4096 : Int32)), (.ref a)]))) (fun tq kq => st111 tq (XS.aloadN X111.here hx rfl (hb hby d1_22) rfl rfl (XS.sipush X111.here hx rfl (hb hby d1_23) kq))) ?_
  obtain ⟨T112, h112, k112, X112, e112, E112, A112, st112⟩ := newP X111 hx hZ (hw _ (List.mem_of_getElem? (i := 0) rfl)) e111 (g := (mkF m 26 #[.val (.ref a), .val (.int (0 : Int32))] [(.int (4096 : Int32)), (.ref a)])) rfl (hb hby d1_26) rfl (by decide) (cap := 4096) (by decide) (by decide) (by decide) (by decide)
  obtain ⟨b112, g112⟩ : ∃ z, z = h111.size := ⟨_, rfl⟩
  rw [← g112] at A112 st112
  have f113 := (f110.wr W111)
  have ne_a_b112 : a ≠ b112 := Nat.ne_of_lt (Nat.lt_of_lt_of_le f113.lt (Nat.le_of_eq g112.symm))
  have f114 := ((f108.ext E106).other W111 (Ne.symm ne_a_b102))
  have ne_b102_b112 : b102 ≠ b112 := Nat.ne_of_lt (Nat.lt_of_lt_of_le f114.lt (Nat.le_of_eq g112.symm))
  have f115 := (V106.other W111 (Ne.symm ne_a_b106))
  have ne_b106_b112 : b106 ≠ b112 := Nat.ne_of_lt (Nat.lt_of_lt_of_le f115.lt (Nat.le_of_eq g112.symm))
  have ge_b112 : n0 ≤ b112 := Nat.le_trans (own_osz O111) (Nat.le_of_eq g112.symm)
  have gk_b112 : h0.size ≤ b112 := Nat.le_trans K111.1 (Nat.le_of_eq g112.symm)
  have V112 : own_Ar Z h112 b112 k112 .int (List.replicate 4096 (.int (0 : Int32))) := own_Ar.new A112 (by decide)
  have O112 := O111.ext E112
  have K112 := K111.ext E112
  refine own_go (S' := (T112.setTop (mkF m 28 #[.val (.ref a), .val (.int (0 : Int32))] [(.ref b112), (.ref a)]))) (fun tq kq => st112 tq kq) ?_
  have f116 := (((((D_keys.ext E102).other W105 (Or.inr (slot_ne (Or.inl (hw _ (List.mem_of_getElem? (i := 17) rfl))) (Or.inl (hw _ (List.mem_of_getElem? (i := 13) rfl))) (by decide) (t := (.array .int)) (t' := (.array .byte)) (by decide) (by decide)))).ext E106).other W111 (Or.inr (slot_ne (Or.inl (hw _ (List.mem_of_getElem? (i := 17) rfl))) (Or.inl (hw _ (List.mem_of_getElem? (i := 15) rfl))) (by decide) (t := (.array .int)) (t' := (.array .int)) (by decide) (by decide)))).ext E112)
  have f117 := (f113.ext E112)
  obtain ⟨T118, h118, X118, e118, W118, st118⟩ := putF X112 hx hZ hown (host := "") (Or.inl (hw _ (List.mem_of_getElem? (i := 16) rfl))) Via.refl e112 f116 f117 (Or.inl (hw _ (List.mem_of_getElem? (i := 17) rfl))) (hw _ (List.mem_of_getElem? (i := 3) rfl)) (ty := (.array .int)) (by decide) rfl rfl (g := (mkF m 28 #[.val (.ref a), .val (.int (0 : Int32))] [(.ref b112), (.ref a)])) rfl rfl (hb hby d1_28)
  have N118 := Fr.snoc X118 N111 ga
  have O118 := O112.wr W118 ga
  have K118 := K112.wr W118 (Or.inl (List.mem_of_getElem? (i := 0) rfl))
  have F118 := f116.same W118
  refine own_go (S' := (T118.setTop (mkF m 33 #[.val (.ref a), .val (.int (0 : Int32))] [(.int (0 : Int32)), (.ref a)]))) (fun tq kq => st118 tq (XS.aloadN X118.here hx rfl (hb hby d1_31) rfl rfl (XS.iloadN X118.here hx rfl (hb hby d1_32) rfl kq))) ?_
  have f119 := ((((((D_width.ext E102).other W105 (Or.inr (slot_ne (Or.inr (hw _ (List.mem_of_getElem? (i := 19) rfl))) (Or.inl (hw _ (List.mem_of_getElem? (i := 13) rfl))) (by decide) (t := .int) (t' := (.array .byte)) (by decide) (by decide)))).ext E106).other W111 (Or.inr (slot_ne (Or.inr (hw _ (List.mem_of_getElem? (i := 19) rfl))) (Or.inl (hw _ (List.mem_of_getElem? (i := 15) rfl))) (by decide) (t := .int) (t' := (.array .int)) (by decide) (by decide)))).ext E112).other W118 (Or.inr (slot_ne (Or.inr (hw _ (List.mem_of_getElem? (i := 19) rfl))) (Or.inl (hw _ (List.mem_of_getElem? (i := 17) rfl))) (by decide) (t := .int) (t' := (.array .int)) (by decide) (by decide))))
  have f120 := (f117.wr W118)
  obtain ⟨T121, h121, X121, e121, W121, st121⟩ := putF X118 hx hZ hown (host := "") (Or.inl (hw _ (List.mem_of_getElem? (i := 18) rfl))) Via.refl e118 f119 f120 (Or.inr ⟨(hw _ (List.mem_of_getElem? (i := 19) rfl)), rfl, hnm⟩) (hw _ (List.mem_of_getElem? (i := 3) rfl)) (ty := .int) (by decide) rfl rfl (g := (mkF m 33 #[.val (.ref a), .val (.int (0 : Int32))] [(.int (0 : Int32)), (.ref a)])) rfl rfl (hb hby d1_33)
  have N121 := Fr.snoc X121 N118 ga
  have O121 := O118.wr W121 ga
  have K121 := K118.wr W121 (Or.inl (List.mem_of_getElem? (i := 0) rfl))
  have F121 := f119.same W121
  refine own_go (S' := (T121.setTop (mkF m 36 #[.val (.ref a), .val (.int (0 : Int32))] []))) (fun tq kq => st121 tq kq) ?_
  refine own_retV X121 hx hlk hret (hb hby d1_36) (by decide) (by decide) ?_
  have f122 := (f120.wr W121)
  have f123 := (((((F105.ext E106).other W111 (Or.inr (slot_ne (Or.inl (hw _ (List.mem_of_getElem? (i := 13) rfl))) (Or.inl (hw _ (List.mem_of_getElem? (i := 15) rfl))) (by decide) (t := (.array .byte)) (t' := (.array .int)) (by decide) (by decide)))).ext E112).other W118 (Or.inr (slot_ne (Or.inl (hw _ (List.mem_of_getElem? (i := 13) rfl))) (Or.inl (hw _ (List.mem_of_getElem? (i := 17) rfl))) (by decide) (t := (.array .byte)) (t' := (.array .int)) (by decide) (by decide)))).other W121 (Or.inr (slot_ne (Or.inl (hw _ (List.mem_of_getElem? (i := 13) rfl))) (Or.inr (hw _ (List.mem_of_getElem? (i := 19) rfl))) (by decide) (t := (.array .byte)) (t' := .int) (by decide) (by decide))))
  have f124 := (((((((D_used.ext E102).other W105 (Or.inr (slot_ne (Or.inl (hw _ (List.mem_of_getElem? (i := 82) rfl))) (Or.inl (hw _ (List.mem_of_getElem? (i := 13) rfl))) (by decide) (t := .int) (t' := (.array .byte)) (by decide) (by decide)))).ext E106).other W111 (Or.inr (slot_ne (Or.inl (hw _ (List.mem_of_getElem? (i := 82) rfl))) (Or.inl (hw _ (List.mem_of_getElem? (i := 15) rfl))) (by decide) (t := .int) (t' := (.array .int)) (by decide) (by decide)))).ext E112).other W118 (Or.inr (slot_ne (Or.inl (hw _ (List.mem_of_getElem? (i := 82) rfl))) (Or.inl (hw _ (List.mem_of_getElem? (i := 17) rfl))) (by decide) (t := .int) (t' := (.array .int)) (by decide) (by decide)))).other W121 (Or.inr (slot_ne (Or.inl (hw _ (List.mem_of_getElem? (i := 82) rfl))) (Or.inr (hw _ (List.mem_of_getElem? (i := 19) rfl))) (by decide) (t := .int) (t' := .int) (by decide) (by decide))))
  have f125 := (((F111.ext E112).other W118 (Or.inr (slot_ne (Or.inl (hw _ (List.mem_of_getElem? (i := 15) rfl))) (Or.inl (hw _ (List.mem_of_getElem? (i := 17) rfl))) (by decide) (t := (.array .int)) (t' := (.array .int)) (by decide) (by decide)))).other W121 (Or.inr (slot_ne (Or.inl (hw _ (List.mem_of_getElem? (i := 15) rfl))) (Or.inr (hw _ (List.mem_of_getElem? (i := 19) rfl))) (by decide) (t := (.array .int)) (t' := .int) (by decide) (by decide))))
  have f126 := (F118.other W121 (Or.inr (slot_ne (Or.inl (hw _ (List.mem_of_getElem? (i := 17) rfl))) (Or.inr (hw _ (List.mem_of_getElem? (i := 19) rfl))) (by decide) (t := (.array .int)) (t' := .int) (by decide) (by decide))))
  have f127 := (((((((D_size.ext E102).other W105 (Or.inr (slot_ne (Or.inl (hw _ (List.mem_of_getElem? (i := 28) rfl))) (Or.inl (hw _ (List.mem_of_getElem? (i := 13) rfl))) (by decide) (t := .int) (t' := (.array .byte)) (by decide) (by decide)))).ext E106).other W111 (Or.inr (slot_ne (Or.inl (hw _ (List.mem_of_getElem? (i := 28) rfl))) (Or.inl (hw _ (List.mem_of_getElem? (i := 15) rfl))) (by decide) (t := .int) (t' := (.array .int)) (by decide) (by decide)))).ext E112).other W118 (Or.inr (slot_ne (Or.inl (hw _ (List.mem_of_getElem? (i := 28) rfl))) (Or.inl (hw _ (List.mem_of_getElem? (i := 17) rfl))) (by decide) (t := .int) (t' := (.array .int)) (by decide) (by decide)))).other W121 (Or.inr (slot_ne (Or.inl (hw _ (List.mem_of_getElem? (i := 28) rfl))) (Or.inr (hw _ (List.mem_of_getElem? (i := 19) rfl))) (by decide) (t := .int) (t' := .int) (by decide) (by decide))))
  have f128 := (((f114.ext E112).other W118 (Ne.symm ne_a_b102)).other W121 (Ne.symm ne_a_b102))
  have f129 := (((f115.ext E112).other W118 (Ne.symm ne_a_b106)).other W121 (Ne.symm ne_a_b106))
  have f130 := ((V112.other W118 (Ne.symm ne_a_b112)).other W121 (Ne.symm ne_a_b112))
  rw [e121]
  exact ⟨rfl, N121, K121, b102, b106, b112, _, _, _, ⟨⟨f122, F121, f123, f124, f125, f126, f127⟩, ⟨f128, f129, f130⟩, ne_a_b102, ne_a_b106, ne_a_b112, ne_b102_b106, ne_b102_b112, ne_b106_b112⟩, gk_b102, gk_b106, gk_b112⟩
theorem pn_rm11 : plainName "com/example/vestwright/vestwright/cli/TableRows" = true := by first | (simp [plainName, overriddenIn]; done) | decide +kernel
theorem ef_rm11 (m : MethodId) (t : Addr) (bb : Addr) (bs : Addr) (bk : Addr) (k1 : ClassId) (k2 : ClassId) (k3 : ClassId) (ks : List Nat) (nd : Int32) : entryFrame m #[(.ref t), (.int nd)] 3 = mkF m 0 #[.val (.ref t), .val (.int nd), .unset] [] := by first | (simp [entryFrame, mkF, argsToLocals, Value.category]; done) | rfl
def Q_rm11 (Z : State) (h0 : Heap) (n0 : Nat) (t : Addr) (bb : Addr) (bs : Addr) (bk : Addr) (k1 : ClassId) (k2 : ClassId) (k3 : ClassId) (ks : List Nat) (nd : Int32) (v : Option Value) (h : Heap) (L : List Loc) : Prop := v = none ∧ Fr n0 L ∧ h = h0
set_option maxRecDepth 65536 in
set_option maxHeartbeats 40000000 in
theorem rm11 (l : Launch) (Z : State) (a0 : Array Value) (hw : ∀ d ∈ tables_1, d.before a0 Z = true) (ws : List Jvm.Cond) (h0 : Heap) (n0 : Nat) (O0 : Old Z n0 h0) (t : Addr) (bb : Addr) (bs : Addr) (bk : Addr) (k1 : ClassId) (k2 : ClassId) (k3 : ClassId) (ks : List Nat) (nd : Int32) (TRh : own_TR Z h0 t bb bs bk k1 k2 k3 ks) (hl : ks.length < 4) (hnd : nd = (0 : Int32)) :
    MetFree l (⟨"com/example/vestwright/vestwright/cli/TableRows", "ensureRoom", "(I)V"⟩ : MethodName) (head1 (Jvm.Cond.code (⟨"com/example/vestwright/vestwright/cli/TableRows", "ensureRoom", "(I)V"⟩ : MethodName) prog_15_method_8_code 3 none :: ws) ({ frames := 0, cells := 0, slots := 0, locals := 0 } : Room)) (fun aq U => aq = #[(.ref t), (.int nd)] ∧ Z.Warmed39 U.vm ∧ U.heap = h0) (fun _ _ _ _ _ => True) (fun _ U o U' => ∃ v L, o = .returned v ∧ Q_rm11 Z h0 n0 t bb bs bk k1 k2 k3 ks nd v U'.heap L ∧ FrameEnd U o U' L ({ frames := 0, cells := 0, slots := 0, locals := 0 } : Room).cells ({ frames := 0, cells := 0, slots := 0, locals := 0 } : Room).slots) := by
  refine MetFree.of_bodySF (plainFor_of_name pn_rm11) hisR ?_
  intro p e s m args below meth c s₁ Bd hml0 hP hK
  obtain ⟨rfl, hZ, hh⟩ := hP
  have hx := Bd.exec
  have hby := Bd.bytes
  have hml : c.maxLocals = 3 := hml0
  have hown : s.vm.findClass "com/example/vestwright/vestwright/cli/TableRows" = some m.cls := findClass_of_methodNamed Bd.named
  have hnm := (name_of_methodNamed Bd.named Bd.method).1
  have hlk := Bd.notSynchronized
  have hret := Bd.returns
  have X0 : Stand p l e ({ frames := 0, cells := 0, slots := 0, locals := 0 } : Room) s m #[(.ref t), (.int nd)] below meth c s₁ [] 0 0 := Stand.of_body Bd
  have e0 : s₁.heap = h0 := by rw [← hh, Bd.state]; rfl
  have N0 := Fr.nil n0
  have K0 := Keep.refl h0 []
  refine own_go (S' := (s₁.setTop (mkF m 0 #[.val (.ref t), .val (.int nd), .unset] []))) (fun tq kq => castTop (ef_rm11 m t bb bs bk k1 k2 k3 ks nd) kq) ?_
  show own_G p e s below (Q_rm11 Z h0 n0 t bb bs bk k1 k2 k3 ks nd) _ _ _
  obtain ⟨⟨Et, Fw, Fb, Fu, Fs, Fk, Fz⟩, ⟨Vb, Vs, Vk⟩, nq1, nq2, nq3, nq4, nq5, nq6⟩ := TRh
  have hne : ¬ (Int32.ofNat ks.length = (4096 : Int32)) := fun q => by
    have q2 := (own_eqN (by omega) (by decide) : Int32.ofNat ks.length = Int32.ofNat 4096 ↔ _).mp q
    omega
  refine own_go (S' := (s₁.setTop (mkF m 1 #[.val (.ref t), .val (.int nd), .unset] [(.ref t)]))) (fun tq kq => XS.aloadN X0.here hx rfl (hb hby d11_0) rfl rfl kq) ?_
  obtain ⟨T101, X101, e101, st101⟩ := getF X0 hx hZ hown (host := "") (Or.inl (hw _ (List.mem_of_getElem? (i := 12) rfl))) Via.refl e0 Fb (g := (mkF m 1 #[.val (.ref t), .val (.int nd), .unset] [(.ref t)])) rfl rfl (hb hby d11_1)
  refine own_go (S' := (T101.setTop (mkF m 4 #[.val (.ref t), .val (.int nd), .unset] [(.ref bb)]))) (fun tq kq => st101 tq kq) ?_
  obtain ⟨cl102, Ar102, ln102⟩ := Vb.len
  have lq102 : cl102.slots.size.toInt32 = (4096 : Int32) := ln102.trans (by rw [List.length_replicate]; rfl)
  refine own_go (S' := (T101.setTop (mkF m 6 #[.val (.ref t), .val (.int nd), .unset] [(.ref t), (.int (4096 : Int32))]))) (fun tq kq => X101.arraylength hx (by rw [e101]; exact Ar102.1) (State.isArrayOf_alike hZ.alike Ar102.2.1) (g := (mkF m 4 #[.val (.ref t), .val (.int nd), .unset] [(.ref bb)])) rfl rfl (hb hby d11_4) tq (by rw [lq102]; exact (XS.aloadN X101.here hx rfl (hb hby d11_5) rfl rfl kq))) ?_
  obtain ⟨T103, X103, e103, st103⟩ := getF X101 hx hZ hown (host := "") (Or.inl (hw _ (List.mem_of_getElem? (i := 81) rfl))) Via.refl e101 Fu (g := (mkF m 6 #[.val (.ref t), .val (.int nd), .unset] [(.ref t), (.int (4096 : Int32))])) rfl rfl (hb hby d11_6)
  refine own_go (S' := (T103.setTop (mkF m 54 #[.val (.ref t), .val (.int nd), .unset] [(.ref t)]))) (fun tq kq => st103 tq (XS.isub X103.here hx rfl (hb hby d11_9) rfl (XS.iloadN X103.here hx rfl (hb hby d11_10) rfl (XS.icmpYes X103.here hx rfl (pc0 := 11) (pc' := 53) rfl (hb hby d11_11) rfl (flt (by rw [hnd]; decide)).2.1 (by decide) (by decide) (XS.aloadN X103.here hx rfl (hb hby d11_53) rfl rfl kq))))) ?_
  obtain ⟨T104, X104, e104, st104⟩ := getF X103 hx hZ hown (host := "") (Or.inl (hw _ (List.mem_of_getElem? (i := 27) rfl))) Via.refl e103 Fz (g := (mkF m 54 #[.val (.ref t), .val (.int nd), .unset] [(.ref t)])) rfl rfl (hb hby d11_54)
  refine own_go (S' := (T104.setTop (mkF m 58 #[.val (.ref t), .val (.int nd), .unset] [(.ref t), (.int (Int32.ofNat ks.length))]))) (fun tq kq => st104 tq (XS.aloadN X104.here hx rfl (hb hby d11_57) rfl rfl kq)) ?_
  obtain ⟨T105, X105, e105, st105⟩ := getF X104 hx hZ hown (host := "") (Or.inl (hw _ (List.mem_of_getElem? (i := 14) rfl))) Via.refl e104 Fs (g := (mkF m 58 #[.val (.ref t), .val (.int nd), .unset] [(.ref t), (.int (Int32.ofNat ks.length))])) rfl rfl (hb hby d11_58)
  refine own_go (S' := (T105.setTop (mkF m 61 #[.val (.ref t), .val (.int nd), .unset] [(.ref bs), (.int (Int32.ofNat ks.length))]))) (fun tq kq => st105 tq kq) ?_
  obtain ⟨cl106, Ar106, ln106⟩ := Vs.len
  have lq106 : cl106.slots.size.toInt32 = (4096 : Int32) := ln106.trans (by rw [List.length_replicate]; rfl)
  refine own_go (S' := (T105.setTop (mkF m 106 #[.val (.ref t), .val (.int nd), .unset] []))) (fun tq kq => X105.arraylength hx (by rw [e105]; exact Ar106.1) (State.isArrayOf_alike hZ.alike Ar106.2.1) (g := (mkF m 61 #[.val (.ref t), .val (.int nd), .unset] [(.ref bs), (.int (Int32.ofNat ks.length))])) rfl rfl (hb hby d11_61) tq (by rw [lq106]; exact (XS.icmpYes X105.here hx rfl (pc0 := 62) (pc' := 106) rfl (hb hby d11_62) rfl (feq hne).2 (by decide) (by decide) kq))) ?_
  refine own_retV X105 hx hlk hret (hb hby d11_106) (by decide) (by decide) ?_
  exact ⟨rfl, N0, e105⟩
theorem pn_rm10 : plainName "com/example/vestwright/vestwright/cli/TableRows" = true := by first | (simp [plainName, overriddenIn]; done) | decide +kernel
theorem ef_rm10 (m : MethodId) (t : Addr) (bb : Addr) (bs : Addr) (bk : Addr) (k1 : ClassId) (k2 : ClassId) (k3 : ClassId) (ks : List Nat) (cells : Addr) (key : Nat) : entryFrame m #[(.ref t), (.ref cells), (.int (Int32.ofNat key))] 11 = mkF m 0 #[.val (.ref t), .val (.ref cells), .val (.int (Int32.ofNat key)), .unset, .unset, .unset, .unset, .unset, .unset, .unset, .unset] [] := by first | (simp [entryFrame, mkF, argsToLocals, Value.category]; done) | rfl
def Q_rm10 (Z : State) (h0 : Heap) (n0 : Nat) (t : Addr) (bb : Addr) (bs : Addr) (bk : Addr) (k1 : ClassId) (k2 : ClassId) (k3 : ClassId) (ks : List Nat) (cells : Addr) (key : Nat) (v : Option Value) (h : Heap) (L : List Loc) : Prop := v = some (.int 1) ∧ Fr n0 L ∧ Keep h0 h [t, bs, bk] ∧ own_TR Z h t bb bs bk k1 k2 k3 (ks ++ [key])
set_option maxRecDepth 65536 in
set_option maxHeartbeats 40000000 in
theorem rm10 (l : Launch) (Z : State) (a0 : Array Value) (hw : ∀ d ∈ tables_1, d.before a0 Z = true) (ws : List Jvm.Cond) (h0 : Heap) (n0 : Nat) (O0 : Old Z n0 h0) (t : Addr) (bb : Addr) (bs : Addr) (bk : Addr) (k1 : ClassId) (k2 : ClassId) (k3 : ClassId) (ks : List Nat) (cells : Addr) (key : Nat) (TRh : own_TR Z h0 t bb bs bk k1 k2 k3 ks) (hl : ks.length < 4) (gt : n0 ≤ t) (gs : n0 ≤ bs) (gb : n0 ≤ bk) :
    MetFree l (⟨"com/example/vestwright/vestwright/cli/TableRows", "add", "([Ljava/lang/String;I)Z"⟩ : MethodName) (head1 (Jvm.Cond.code (⟨"com/example/vestwright/vestwright/cli/TableRows", "add", "([Ljava/lang/String;I)Z"⟩ : MethodName) prog_15_method_2_code 11 (some .boolean) :: ws) ({ frames := 1, cells := 1, slots := 0, locals := 14 } : Room)) (fun aq U => aq = #[(.ref t), (.ref cells), (.int (Int32.ofNat key))] ∧ Z.Warmed39 U.vm ∧ U.heap = h0) (fun _ _ _ _ _ => True) (fun _ U o U' => ∃ v L, o = .returned v ∧ Q_rm10 Z h0 n0 t bb bs bk k1 k2 k3 ks cells key v U'.heap L ∧ FrameEnd U o U' L ({ frames := 1, cells := 1, slots := 0, locals := 14 } : Room).cells ({ frames := 1, cells := 1, slots := 0, locals := 14 } : Room).slots) := by
  refine MetFree.of_bodySF (plainFor_of_name pn_rm10) hisR ?_
  intro p e s m args below meth c s₁ Bd hml0 hP hK
  obtain ⟨rfl, hZ, hh⟩ := hP
  have hx := Bd.exec
  have hby := Bd.bytes
  have hml : c.maxLocals = 11 := hml0
  have hown : s.vm.findClass "com/example/vestwright/vestwright/cli/TableRows" = some m.cls := findClass_of_methodNamed Bd.named
  have hnm := (name_of_methodNamed Bd.named Bd.method).1
  have hlk := Bd.notSynchronized
  have hret := Bd.returns
  have X0 : Stand p l e ({ frames := 1, cells := 1, slots := 0, locals := 14 } : Room) s m #[(.ref t), (.ref cells), (.int (Int32.ofNat key))] below meth c s₁ [] 0 0 := Stand.of_body Bd
  have e0 : s₁.heap = h0 := by rw [← hh, Bd.state]; rfl
  have N0 := Fr.nil n0
  have K0 := Keep.refl h0 [t, bs, bk]
  refine own_go (S' := (s₁.setTop (mkF m 0 #[.val (.ref t), .val (.ref cells), .val (.int (Int32.ofNat key)), .unset, .unset, .unset, .unset, .unset, .unset, .unset, .unset] []))) (fun tq kq => castTop (ef_rm10 m t bb bs bk k1 k2 k3 ks cells key) kq) ?_
  show own_G p e s below (Q_rm10 Z h0 n0 t bb bs bk k1 k2 k3 ks cells key) _ _ _
  obtain ⟨⟨Et, Fw, Fb, Fu, Fs, Fk, Fz⟩, ⟨Vb, Vs, Vk⟩, nq1, nq2, nq3, nq4, nq5, nq6⟩ := TRh
  refine own_go (S' := (s₁.setTop (mkF m 1 #[.val (.ref t), .val (.ref cells), .val (.int (Int32.ofNat key)), .unset, .unset, .unset, .unset, .unset, .unset, .unset, .unset] [(.ref t)]))) (fun tq kq => XS.aloadN X0.here hx rfl (hb hby d10_0) rfl rfl kq) ?_
  obtain ⟨T101, X101, e101, st101⟩ := getF X0 hx hZ hown (host := "") (Or.inl (hw _ (List.mem_of_getElem? (i := 18) rfl))) Via.refl e0 Fw (g := (mkF m 1 #[.val (.ref t), .val (.ref cells), .val (.int (Int32.ofNat key)), .unset, .unset, .unset, .unset, .unset, .unset, .unset, .unset] [(.ref t)])) rfl rfl (hb hby d10_1)
  refine own_go (S' := (T101.setTop (mkF m 4 #[.val (.ref t), .val (.ref cells), .val (.int (Int32.ofNat key)), .unset, .unset, .unset, .unset, .unset, .unset, .unset, .unset] [(.int (0 : Int32))]))) (fun tq kq => st101 tq kq) ?_
  obtain ⟨T102, h102, k102, X102, e102, E102, A102, -, -, st102⟩ := newRA X101 hx hZ hown (C := "[B") (ty := .byte) (by decide +kernel) (hw _ (List.mem_of_getElem? (i := 78) rfl)) (hw _ (List.mem_of_getElem? (i := 79) rfl)) e101 (g := (mkF m 4 #[.val (.ref t), .val (.ref cells), .val (.int (Int32.ofNat key)), .unset, .unset, .unset, .unset, .unset, .unset, .unset, .unset] [(.int (0 : Int32))])) rfl (hb hby d10_4) rfl (by decide) (cap := 0) (by decide) (by decide) (by decide) (by decide) (ad := "[[B") (by decide +kernel)
  obtain ⟨b102, g102⟩ : ∃ z, z = h0.size := ⟨_, rfl⟩
  rw [← g102] at A102 st102
  have ne_bb_b102 : bb ≠ b102 := Nat.ne_of_lt (Nat.lt_of_lt_of_le Vb.lt (Nat.le_of_eq g102.symm))
  have ne_bk_b102 : bk ≠ b102 := Nat.ne_of_lt (Nat.lt_of_lt_of_le Vk.lt (Nat.le_of_eq g102.symm))
  have ne_bs_b102 : bs ≠ b102 := Nat.ne_of_lt (Nat.lt_of_lt_of_le Vs.lt (Nat.le_of_eq g102.symm))
  have ne_t_b102 : t ≠ b102 := Nat.ne_of_lt (Nat.lt_of_lt_of_le Et.lt (Nat.le_of_eq g102.symm))
  have ge_b102 : n0 ≤ b102 := Nat.le_trans (own_osz O0) (Nat.le_of_eq g102.symm)
  have gk_b102 : h0.size ≤ b102 := Nat.le_trans K0.1 (Nat.le_of_eq g102.symm)
  have V102 : own_Ar Z h102 b102 k102 (.array .byte) [] := own_Ar.new A102 (by decide)
  have O102 := O0.ext E102
  have K102 := K0.ext E102
  refine own_go (S' := (T102.setTop (mkF m 17 #[.val (.ref t), .val (.ref cells), .val (.int (Int32.ofNat key)), .val (.ref b102), .val (.long (0 : Int64)), .second, .val (.int (0 : Int32)), .unset, .unset, .unset, .unset] [(.ref t), (.int (0 : Int32))]))) (fun tq kq => st102 tq (XS.astoreN X102.here hx rfl (hb hby d10_7) rfl rfl (l' := #[.val (.ref t), .val (.ref cells), .val (.int (Int32.ofNat key)), .val (.ref b102), .unset, .unset, .unset, .unset, .unset, .unset, .unset]) rfl (XS.lconst X102.here hx rfl (hb hby d10_8) (XS.lstore X102.here hx rfl (hb hby d10_9) rfl (l' := #[.val (.ref t), .val (.ref cells), .val (.int (Int32.ofNat key)), .val (.ref b102), .val (.long (0 : Int64)), .second, .unset, .unset, .unset, .unset, .unset]) rfl (XS.iconst X102.here hx rfl (hb hby d10_11) (XS.istore X102.here hx rfl (hb hby d10_12) rfl (l' := #[.val (.ref t), .val (.ref cells), .val (.int (Int32.ofNat key)), .val (.ref b102), .val (.long (0 : Int64)), .second, .val (.int (0 : Int32)), .unset, .unset, .unset, .unset]) rfl (XS.iload X102.here hx rfl (hb hby d10_14) rfl (XS.aloadN X102.here hx rfl (hb hby d10_16) rfl rfl kq)))))))) ?_
  have f103 := (Fw.ext E102)
  obtain ⟨T104, X104, e104, st104⟩ := getF X102 hx hZ hown (host := "") (Or.inl (hw _ (List.mem_of_getElem? (i := 18) rfl))) Via.refl e102 f103 (g := (mkF m 17 #[.val (.ref t), .val (.ref cells), .val (.int (Int32.ofNat key)), .val (.ref b102), .val (.long (0 : Int64)), .second, .val (.int (0 : Int32)), .unset, .unset, .unset, .unset] [(.ref t), (.int (0 : Int32))])) rfl rfl (hb hby d10_17)
  refine own_go (S' := (T104.setTop (mkF m 61 #[.val (.ref t), .val (.ref cells), .val (.int (Int32.ofNat key)), .val (.ref b102), .val (.long (0 : Int64)), .second, .val (.int (0 : Int32)), .unset, .unset, .unset, .unset] [(.ref t), (.int (2147483639 : Int32)), (.long (0 : Int64))]))) (fun tq kq => st104 tq (XS.icmpYes X104.here hx rfl (pc0 := 20) (pc' := 56) rfl (hb hby d10_20) rfl (flt (by decide : ¬ ((0 : Int32) < (0 : Int32)))).2.1 (by decide) (by decide) (XS.lload X104.here hx rfl (hb hby d10_56) rfl (X104.ldcInt hx hown (mvT hZ (hw _ (List.mem_of_getElem? (i := 80) rfl))) (g := (mkF m 58 #[.val (.ref t), .val (.ref cells), .val (.int (Int32.ofNat key)), .val (.ref b102), .val (.long (0 : Int64)), .second, .val (.int (0 : Int32)), .unset, .unset, .unset, .unset] [(.long (0 : Int64))])) rfl (hb hby d10_58) tq (XS.aloadN X104.here hx rfl (hb hby d10_60) rfl rfl kq))))) ?_
  have f105 := (Fu.ext E102)
  obtain ⟨T106, X106, e106, st106⟩ := getF X104 hx hZ hown (host := "") (Or.inl (hw _ (List.mem_of_getElem? (i := 81) rfl))) Via.refl e104 f105 (g := (mkF m 61 #[.val (.ref t), .val (.ref cells), .val (.int (Int32.ofNat key)), .val (.ref b102), .val (.long (0 : Int64)), .second, .val (.int (0 : Int32)), .unset, .unset, .unset, .unset] [(.ref t), (.int (2147483639 : Int32)), (.long (0 : Int64))])) rfl rfl (hb hby d10_61)
  refine own_go (S' := (T106.setTop (mkF m 82 #[.val (.ref t), .val (.ref cells), .val (.int (Int32.ofNat key)), .val (.ref b102), .val (.long (0 : Int64)), .second, .val (.int (1 : Int32)), .unset, .unset, .unset, .unset] []))) (fun tq kq => st106 tq (XS.isub X106.here hx rfl (hb hby d10_64) rfl (XS.i2l X106.here hx rfl (hb hby d10_65) rfl (XS.lcmp X106.here hx rfl (hb hby d10_66) rfl (XS.ifNo X106.here hx rfl (hb hby d10_67) rfl ((if0 _ _).trans (flt (by decide)).2.2.1) (XS.iconst X106.here hx rfl (hb hby d10_70) (XS.goto X106.here hx rfl (pc0 := 71) (pc' := 75) rfl (hb hby d10_71) (by decide) (by decide) (XS.istore X106.here hx rfl (hb hby d10_75) rfl (l' := #[.val (.ref t), .val (.ref cells), .val (.int (Int32.ofNat key)), .val (.ref b102), .val (.long (0 : Int64)), .second, .val (.int (1 : Int32)), .unset, .unset, .unset, .unset]) rfl (XS.iload X106.here hx rfl (hb hby d10_77) rfl (XS.ifNo X106.here hx rfl (hb hby d10_79) rfl ((if0 _ _).trans (feq (by decide : ¬ ((1 : Int32) = (0 : Int32)))).1) kq)))))))))) ?_
  refine own_go (S' := (T106.setTop (mkF m 86 #[.val (.ref t), .val (.ref cells), .val (.int (Int32.ofNat key)), .val (.ref b102), .val (.long (0 : Int64)), .second, .val (.int (1 : Int32)), .unset, .unset, .unset, .unset] [(.int ((0 : Int64).toInt32)), (.ref t)]))) (fun tq kq => XS.aloadN X106.here hx rfl (hb hby d10_82) rfl rfl (XS.lload X106.here hx rfl (hb hby d10_83) rfl (XS.l2i X106.here hx rfl (hb hby d10_85) rfl kq))) ?_
  have f107 := (Et.ext E102)
  have f108 := (Fb.ext E102)
  have f109 := (Fs.ext E102)
  have f110 := (Fk.ext E102)
  have f111 := (Fz.ext E102)
  have f112 := (Vb.ext E102)
  have f113 := (Vs.ext E102)
  have f114 := (Vk.ext E102)
  obtain ⟨cq115, q115, q115'⟩ := f107.cell
  obtain ⟨_, _, ⟨T115, L115, k115, n115⟩, -, X115, ⟨Lc115, hQ115, l115, y115, z115⟩, st115⟩ := X106.privateBack hx (y := (⟨"com/example/vestwright/vestwright/cli/TableRows", "ensureRoom", "(I)V"⟩ : MethodName)) hown (mvT hZ (hw _ (List.mem_of_getElem? (i := 83) rfl))) (mvT hZ (hw _ (List.mem_of_getElem? (i := 84) rfl))) (own_selfsel hZ (hw _ (List.mem_of_getElem? (i := 3) rfl)) (hw _ (List.mem_of_getElem? (i := 85) rfl)) (hw _ (List.mem_of_getElem? (i := 84) rfl)) (by decide)) (Cond.privateMethod_at (mvP hZ (hw _ (List.mem_of_getElem? (i := 85) rfl)) (args := #[]))) (mvT hZ (hw _ (List.mem_of_getElem? (i := 86) rfl))) (by decide) (backOf (W := 0) (rm11 l Z a0 hw [] h102 n0 O102 t bb bs bk k1 k2 k3 ks ((0 : Int64).toInt32) ⟨⟨f107, f103, f108, f105, f109, f110, f111⟩, ⟨f112, f113, f114⟩, nq1, nq2, nq3, nq4, nq5, nq6⟩ hl rfl) hZ (hw _ (List.mem_of_getElem? (i := 86) rfl)) (hw _ (List.mem_of_getElem? (i := 4) rfl)) (by decide) (by decide)) (g := (mkF m 86 #[.val (.ref t), .val (.ref cells), .val (.int (Int32.ofNat key)), .val (.ref b102), .val (.long (0 : Int64)), .second, .val (.int (1 : Int32)), .unset, .unset, .unset, .unset] [(.int ((0 : Int64).toInt32)), (.ref t)])) rfl (by rw [hml]; rfl) (Steps.refl _) (a := t) (by rw [e106]; exact q115) q115' (argsL := [(.int ((0 : Int64).toInt32))]) (rest := []) (lenOf pd_0 rfl) rfl (by show 2 * 0 + _ ≤ _; exact Nat.le_of_eq rfl) (hb hby d10_86) (fun _ _ => ⟨rfl, e106, (by decide : 1 + 0 ≤ _), (by decide : 0 + 0 ≤ _)⟩)
  dsimp only [Pt.U, Pt.locs, Pt.cells, Pt.slots] at X115 l115 y115 z115 st115 hQ115
  subst l115 y115 z115
  obtain ⟨rfl, N115, eh115⟩ := hQ115
  have Nf115 := Fr.app N0 N115
  refine own_go (S' := (T115.setTop (mkF m 90 #[.val (.ref t), .val (.ref cells), .val (.int (Int32.ofNat key)), .val (.ref b102), .val (.long (0 : Int64)), .second, .val (.int (1 : Int32)), .unset, .unset, .unset, .unset] [(.ref t)]))) (fun tq kq => st115.trans (XS.aloadN X115.here hx rfl (hb hby d10_89) rfl rfl kq)) ?_
  obtain ⟨T116, X116, e116, st116⟩ := getF X115 hx hZ hown (host := "") (Or.inl (hw _ (List.mem_of_getElem? (i := 14) rfl))) Via.refl eh115 f109 (g := (mkF m 90 #[.val (.ref t), .val (.ref cells), .val (.int (Int32.ofNat key)), .val (.ref b102), .val (.long (0 : Int64)), .second, .val (.int (1 : Int32)), .unset, .unset, .unset, .unset] [(.ref t)])) rfl rfl (hb hby d10_90)
  refine own_go (S' := (T116.setTop (mkF m 94 #[.val (.ref t), .val (.ref cells), .val (.int (Int32.ofNat key)), .val (.ref b102), .val (.long (0 : Int64)), .second, .val (.int (1 : Int32)), .unset, .unset, .unset, .unset] [(.ref t), (.ref bs)]))) (fun tq kq => st116 tq (XS.aloadN X116.here hx rfl (hb hby d10_93) rfl rfl kq)) ?_
  obtain ⟨T117, X117, e117, st117⟩ := getF X116 hx hZ hown (host := "") (Or.inl (hw _ (List.mem_of_getElem? (i := 27) rfl))) Via.refl e116 f111 (g := (mkF m 94 #[.val (.ref t), .val (.ref cells), .val (.int (Int32.ofNat key)), .val (.ref b102), .val (.long (0 : Int64)), .second, .val (.int (1 : Int32)), .unset, .unset, .unset, .unset] [(.ref t), (.ref bs)])) rfl rfl (hb hby d10_94)
  refine own_go (S' := (T117.setTop (mkF m 98 #[.val (.ref t), .val (.ref cells), .val (.int (Int32.ofNat key)), .val (.ref b102), .val (.long (0 : Int64)), .second, .val (.int (1 : Int32)), .unset, .unset, .unset, .unset] [(.ref t), (.int (Int32.ofNat ks.length)), (.ref bs)]))) (fun tq kq => st117 tq (XS.aloadN X117.here hx rfl (hb hby d10_97) rfl rfl kq)) ?_
  obtain ⟨T118, X118, e118, st118⟩ := getF X117 hx hZ hown (host := "") (Or.inl (hw _ (List.mem_of_getElem? (i := 81) rfl))) Via.refl e117 f105 (g := (mkF m 98 #[.val (.ref t), .val (.ref cells), .val (.int (Int32.ofNat key)), .val (.ref b102), .val (.long (0 : Int64)), .second, .val (.int (1 : Int32)), .unset, .unset, .unset, .unset] [(.ref t), (.int (Int32.ofNat ks.length)), (.ref bs)])) rfl rfl (hb hby d10_98)
  refine own_go (S' := (T118.setTop (mkF m 101 #[.val (.ref t), .val (.ref cells), .val (.int (Int32.ofNat key)), .val (.ref b102), .val (.long (0 : Int64)), .second, .val (.int (1 : Int32)), .unset, .unset, .unset, .unset] [(.int (0 : Int32)), (.int (Int32.ofNat ks.length)), (.ref bs)]))) (fun tq kq => st118 tq kq) ?_
  obtain ⟨cl119, Ar119, qa119, sa119, hin119, -⟩ := f113.at (j := (Int32.ofNat ks.length)) (own_pos (by omega)) (by rw [own_clamp (by omega)]; exact own_repat (by omega))
  obtain ⟨T119, h119, X119, e119, W119, st119⟩ := stI X118 hx hZ e118 Ar119 (j := (Int32.ofNat ks.length)) hin119 (g := (mkF m 101 #[.val (.ref t), .val (.ref cells), .val (.int (Int32.ofNat key)), .val (.ref b102), .val (.long (0 : Int64)), .second, .val (.int (1 : Int32)), .unset, .unset, .unset, .unset] [(.int (0 : Int32)), (.int (Int32.ofNat ks.length)), (.ref bs)])) rfl rfl (hb hby d10_101)
  have N119 := Fr.snoc X119 Nf115 gs
  have O119 := O102.wr W119 gs
  have K119 := K102.wr W119 (Or.inl (List.mem_of_getElem? (i := 1) rfl))
  have V119 : own_Ar Z h119 bs k2 .int (List.replicate 4096 (.int (0 : Int32))) := (own_repset _ _ _ ▸ (own_Ar.set Ar119 qa119 sa119 f113.small W119))
  refine own_go (S' := (T119.setTop (mkF m 103 #[.val (.ref t), .val (.ref cells), .val (.int (Int32.ofNat key)), .val (.ref b102), .val (.long (0 : Int64)), .second, .val (.int (1 : Int32)), .unset, .unset, .unset, .unset] [(.ref t)]))) (fun tq kq => st119 tq (XS.aloadN X119.here hx rfl (hb hby d10_102) rfl rfl kq)) ?_
  have f120 := (f110.other W119 (Or.inl nq2))
  obtain ⟨T121, X121, e121, st121⟩ := getF X119 hx hZ hown (host := "") (Or.inl (hw _ (List.mem_of_getElem? (i := 16) rfl))) Via.refl e119 f120 (g := (mkF m 103 #[.val (.ref t), .val (.ref cells), .val (.int (Int32.ofNat key)), .val (.ref b102), .val (.long (0 : Int64)), .second, .val (.int (1 : Int32)), .unset, .unset, .unset, .unset] [(.ref t)])) rfl rfl (hb hby d10_103)
  refine own_go (S' := (T121.setTop (mkF m 107 #[.val (.ref t), .val (.ref cells), .val (.int (Int32.ofNat key)), .val (.ref b102), .val (.long (0 : Int64)), .second, .val (.int (1 : Int32)), .unset, .unset, .unset, .unset] [(.ref t), (.ref bk)]))) (fun tq kq => st121 tq (XS.aloadN X121.here hx rfl (hb hby d10_106) rfl rfl kq)) ?_
  have f122 := (f111.other W119 (Or.inl nq2))
  obtain ⟨T123, X123, e123, st123⟩ := getF X121 hx hZ hown (host := "") (Or.inl (hw _ (List.mem_of_getElem? (i := 27) rfl))) Via.refl e121 f122 (g := (mkF m 107 #[.val (.ref t), .val (.ref cells), .val (.int (Int32.ofNat key)), .val (.ref b102), .val (.long (0 : Int64)), .second, .val (.int (1 : Int32)), .unset, .unset, .unset, .unset] [(.ref t), (.ref bk)])) rfl rfl (hb hby d10_107)
  refine own_go (S' := (T123.setTop (mkF m 111 #[.val (.ref t), .val (.ref cells), .val (.int (Int32.ofNat key)), .val (.ref b102), .val (.long (0 : Int64)), .second, .val (.int (1 : Int32)), .unset, .unset, .unset, .unset] [(.int (Int32.ofNat key)), (.int (Int32.ofNat ks.length)), (.ref bk)]))) (fun tq kq => st123 tq (XS.iloadN X123.here hx rfl (hb hby d10_110) rfl kq)) ?_
  have f124 := (f114.other W119 (Ne.symm nq6))
  obtain ⟨cl125, Ar125, qa125, sa125, hin125, -⟩ := f124.at (j := (Int32.ofNat ks.length)) (own_pos (by omega)) (by rw [own_clamp (by omega)]; exact own_klat (by omega))
  obtain ⟨T125, h125, X125, e125, W125, st125⟩ := stI X123 hx hZ e123 Ar125 (j := (Int32.ofNat ks.length)) hin125 (g := (mkF m 111 #[.val (.ref t), .val (.ref cells), .val (.int (Int32.ofNat key)), .val (.ref b102), .val (.long (0 : Int64)), .second, .val (.int (1 : Int32)), .unset, .unset, .unset, .unset] [(.int (Int32.ofNat key)), (.int (Int32.ofNat ks.length)), (.ref bk)])) rfl rfl (hb hby d10_111)
  have N125 := Fr.snoc X125 N119 gb
  have O125 := O119.wr W125 gb
  have K125 := K119.wr W125 (Or.inl (List.mem_of_getElem? (i := 2) rfl))
  have V125 : own_Ar Z h125 bk k3 .int (own_kl (ks ++ [key])) := (own_klset (by omega : ks.length < 4096) ▸ own_clamp (by omega : ks.length < 2 ^ 31) ▸ (own_Ar.set Ar125 qa125 sa125 f124.small W125))
  refine own_go (S' := (T125.setTop (mkF m 114 #[.val (.ref t), .val (.ref cells), .val (.int (Int32.ofNat key)), .val (.ref b102), .val (.long (0 : Int64)), .second, .val (.int (1 : Int32)), .unset, .unset, .unset, .unset] [(.ref t), (.ref t)]))) (fun tq kq => st125 tq (XS.aloadN X125.here hx rfl (hb hby d10_112) rfl rfl (XS.dup X125.here hx rfl (hb hby d10_113) rfl rfl kq))) ?_
  have f126 := (f122.other W125 (Or.inl nq3))
  obtain ⟨T127, X127, e127, st127⟩ := getF X125 hx hZ hown (host := "") (Or.inl (hw _ (List.mem_of_getElem? (i := 27) rfl))) Via.refl e125 f126 (g := (mkF m 114 #[.val (.ref t), .val (.ref cells), .val (.int (Int32.ofNat key)), .val (.ref b102), .val (.long (0 : Int64)), .second, .val (.int (1 : Int32)), .unset, .unset, .unset, .unset] [(.ref t), (.ref t)])) rfl rfl (hb hby d10_114)
  refine own_go (S' := (T127.setTop (mkF m 119 #[.val (.ref t), .val (.ref cells), .val (.int (Int32.ofNat key)), .val (.ref b102), .val (.long (0 : Int64)), .second, .val (.int (1 : Int32)), .unset, .unset, .unset, .unset] [(.int ((Int32.ofNat ks.length) + (1 : Int32))), (.ref t)]))) (fun tq kq => st127 tq (XS.iconst X127.here hx rfl (hb hby d10_117) (XS.iadd X127.here hx rfl (hb hby d10_118) rfl kq))) ?_
  have f128 := ((f107.wr W119).wr W125)
  obtain ⟨T129, h129, X129, e129, W129, st129⟩ := putF X127 hx hZ hown (host := "") (Or.inl (hw _ (List.mem_of_getElem? (i := 27) rfl))) Via.refl e127 f126 f128 (Or.inl (hw _ (List.mem_of_getElem? (i := 28) rfl))) (hw _ (List.mem_of_getElem? (i := 3) rfl)) (ty := .int) (by decide) rfl rfl (g := (mkF m 119 #[.val (.ref t), .val (.ref cells), .val (.int (Int32.ofNat key)), .val (.ref b102), .val (.long (0 : Int64)), .second, .val (.int (1 : Int32)), .unset, .unset, .unset, .unset] [(.int ((Int32.ofNat ks.length) + (1 : Int32))), (.ref t)])) rfl rfl (hb hby d10_119)
  have N129 := Fr.snoc X129 N125 gt
  have O129 := O125.wr W129 gt
  have K129 := K125.wr W129 (Or.inl (List.mem_of_getElem? (i := 0) rfl))
  have F129 := f126.same W129
  refine own_go (S' := (T129.setTop (mkF m 127 #[.val (.ref t), .val (.ref cells), .val (.int (Int32.ofNat key)), .val (.ref b102), .val (.long (0 : Int64)), .second, .val (.int (1 : Int32)), .val (.ref b102), .unset, .unset, .unset] [(.ref b102)]))) (fun tq kq => st129 tq (XS.aloadN X129.here hx rfl (hb hby d10_122) rfl rfl (XS.astore X129.here hx rfl (hb hby d10_123) rfl rfl (l' := #[.val (.ref t), .val (.ref cells), .val (.int (Int32.ofNat key)), .val (.ref b102), .val (.long (0 : Int64)), .second, .val (.int (1 : Int32)), .val (.ref b102), .unset, .unset, .unset]) rfl (XS.aload X129.here hx rfl (hb hby d10_125) rfl rfl kq)))) ?_
  have f130 := (((V102.other W119 (Ne.symm ne_bs_b102)).other W125 (Ne.symm ne_bk_b102)).other W129 (Ne.symm ne_t_b102))
  obtain ⟨cl131, Ar131, ln131⟩ := f130.len
  have lq131 : cl131.slots.size.toInt32 = (0 : Int32) := ln131.trans rfl
  refine own_go (S' := (T129.setTop (mkF m 191 #[.val (.ref t), .val (.ref cells), .val (.int (Int32.ofNat key)), .val (.ref b102), .val (.long (0 : Int64)), .second, .val (.int (1 : Int32)), .val (.ref b102), .val (.int (0 : Int32)), .val (.int (0 : Int32)), .unset] [(.int (1 : Int32))]))) (fun tq kq => X129.arraylength hx (by rw [e129]; exact Ar131.1) (State.isArrayOf_alike hZ.alike Ar131.2.1) (g := (mkF m 127 #[.val (.ref t), .val (.ref cells), .val (.int (Int32.ofNat key)), .val (.ref b102), .val (.long (0 : Int64)), .second, .val (.int (1 : Int32)), .val (.ref b102), .unset, .unset, .unset] [(.ref b102)])) rfl rfl (hb hby d10_127) tq (by rw [lq131]; exact (XS.istore X129.here hx rfl (hb hby d10_128) rfl (l' := #[.val (.ref t), .val (.ref cells), .val (.int (Int32.ofNat key)), .val (.ref b102), .val (.long (0 : Int64)), .second, .val (.int (1 : Int32)), .val (.ref b102), .val (.int (0 : Int32)), .unset, .unset]) rfl (XS.iconst X129.here hx rfl (hb hby d10_130) (XS.istore X129.here hx rfl (hb hby d10_131) rfl (l' := #[.val (.ref t), .val (.ref cells), .val (.int (Int32.ofNat key)), .val (.ref b102), .val (.long (0 : Int64)), .second, .val (.int (1 : Int32)), .val (.ref b102), .val (.int (0 : Int32)), .val (.int (0 : Int32)), .unset]) rfl (XS.iload X129.here hx rfl (hb hby d10_133) rfl (XS.iload X129.here hx rfl (hb hby d10_135) rfl (XS.icmpYes X129.here hx rfl (pc0 := 137) (pc' := 189) rfl (hb hby d10_137) rfl (flt (by decide : ¬ ((0 : Int32) < (0 : Int32)))).2.1 (by decide) (by decide) (XS.iload X129.here hx rfl (hb hby d10_189) rfl kq))))))))) ?_
  refine own_retN X129 hx hlk hret (by simp) (hb hby d10_191) (by decide) (by decide) ?_
  have Fzz : Fld Z h129 t "com/example/vestwright/vestwright/cli/TableRows" "size" "I" (.int (Int32.ofNat (ks ++ [key]).length)) := by
    rw [List.length_append, List.length_singleton, ← own_succ]; exact F129
  have f132 := (f128.wr W129)
  have f133 := (((f103.other W119 (Or.inl nq2)).other W125 (Or.inl nq3)).other W129 (Or.inr (slot_ne (Or.inr (hw _ (List.mem_of_getElem? (i := 19) rfl))) (Or.inl (hw _ (List.mem_of_getElem? (i := 28) rfl))) (by decide) (t := .int) (t' := .int) (by decide) (by decide))))
  have f134 := (((f108.other W119 (Or.inl nq2)).other W125 (Or.inl nq3)).other W129 (Or.inr (slot_ne (Or.inl (hw _ (List.mem_of_getElem? (i := 13) rfl))) (Or.inl (hw _ (List.mem_of_getElem? (i := 28) rfl))) (by decide) (t := (.array .byte)) (t' := .int) (by decide) (by decide))))
  have f135 := (((f105.other W119 (Or.inl nq2)).other W125 (Or.inl nq3)).other W129 (Or.inr (slot_ne (Or.inl (hw _ (List.mem_of_getElem? (i := 82) rfl))) (Or.inl (hw _ (List.mem_of_getElem? (i := 28) rfl))) (by decide) (t := .int) (t' := .int) (by decide) (by decide))))
  have f136 := (((f109.other W119 (Or.inl nq2)).other W125 (Or.inl nq3)).other W129 (Or.inr (slot_ne (Or.inl (hw _ (List.mem_of_getElem? (i := 15) rfl))) (Or.inl (hw _ (List.mem_of_getElem? (i := 28) rfl))) (by decide) (t := (.array .int)) (t' := .int) (by decide) (by decide))))
  have f137 := ((f120.other W125 (Or.inl nq3)).other W129 (Or.inr (slot_ne (Or.inl (hw _ (List.mem_of_getElem? (i := 17) rfl))) (Or.inl (hw _ (List.mem_of_getElem? (i := 28) rfl))) (by decide) (t := (.array .int)) (t' := .int) (by decide) (by decide))))
  have f138 := (((f112.other W119 nq4).other W125 nq5).other W129 (Ne.symm nq1))
  have f139 := ((V119.other W125 nq6).other W129 (Ne.symm nq2))
  have f140 := (V125.other W129 (Ne.symm nq3))
  rw [e129]
  exact ⟨rfl, N129, K129, ⟨⟨f132, f133, f134, f135, f136, f137, Fzz⟩, ⟨f138, f139, f140⟩, nq1, nq2, nq3, nq4, nq5, nq6⟩⟩
theorem ef_rm5 (m : MethodId) (x : Int32) (y : Int32) : entryFrame m #[(.int x), (.int y)] 2 = mkF m 0 #[.val (.int x), .val (.int y)] [] := by first | (simp [entryFrame, mkF, argsToLocals, Value.category]; done) | rfl
def Q_rm5 (Z : State) (h0 : Heap) (n0 : Nat) (x : Int32) (y : Int32) (v : Option Value) (h : Heap) (L : List Loc) : Prop := v = some (.int (own_min x y)) ∧ Fr n0 L ∧ h = h0
set_option maxRecDepth 65536 in
set_option maxHeartbeats 40000000 in
theorem rm5 (l : Launch) (Z : State) (a0 : Array Value) (hw : ∀ d ∈ tables_1, d.before a0 Z = true) (ws : List Jvm.Cond) (h0 : Heap) (n0 : Nat) (O0 : Old Z n0 h0) (x : Int32) (y : Int32)  :
    MetFree l (⟨"java/lang/Math", "min", "(II)I"⟩ : MethodName) (head1 (Jvm.Cond.code (⟨"java/lang/Math", "min", "(II)I"⟩ : MethodName) jdk_29_method_69_code 2 (some .int) :: ws) ({ frames := 0, cells := 0, slots := 0, locals := 0 } : Room)) (fun aq U => aq = #[(.int x), (.int y)] ∧ Z.Warmed39 U.vm ∧ U.heap = h0) (fun _ _ _ _ _ => True) (fun _ U o U' => ∃ v L, o = .returned v ∧ Q_rm5 Z h0 n0 x y v U'.heap L ∧ FrameEnd U o U' L ({ frames := 0, cells := 0, slots := 0, locals := 0 } : Room).cells ({ frames := 0, cells := 0, slots := 0, locals := 0 } : Room).slots) := by
  refine MetFree.of_bodySF (Jvm.Free.JP.mathPlain rfl (by decide +kernel)) hisR ?_
  intro p e s m args below meth c s₁ Bd hml0 hP hK
  obtain ⟨rfl, hZ, hh⟩ := hP
  have hx := Bd.exec
  have hby := Bd.bytes
  have hml : c.maxLocals = 2 := hml0
  have hown : s.vm.findClass "java/lang/Math" = some m.cls := findClass_of_methodNamed Bd.named
  have hnm := (name_of_methodNamed Bd.named Bd.method).1
  have hlk := Bd.notSynchronized
  have hret := Bd.returns
  have X0 : Stand p l e ({ frames := 0, cells := 0, slots := 0, locals := 0 } : Room) s m #[(.int x), (.int y)] below meth c s₁ [] 0 0 := Stand.of_body Bd
  have e0 : s₁.heap = h0 := by rw [← hh, Bd.state]; rfl
  have N0 := Fr.nil n0
  have K0 := Keep.refl h0 []
  refine own_go (S' := (s₁.setTop (mkF m 0 #[.val (.int x), .val (.int y)] []))) (fun tq kq => castTop (ef_rm5 m x y) kq) ?_
  show own_G p e s below (Q_rm5 Z h0 n0 x y) _ _ _
  refine own_go (S' := (s₁.setTop (mkF m 2 #[.val (.int x), .val (.int y)] [(.int y), (.int x)]))) (fun tq kq => XS.iloadN X0.here hx rfl (hb hby d5_0) rfl (XS.iloadN X0.here hx rfl (hb hby d5_1) rfl kq)) ?_
  by_cases hc101 : y < x
  · refine own_go (S' := (s₁.setTop (mkF m 10 #[.val (.int x), .val (.int y)] [(.int y)]))) (fun tq kq => XS.icmpYes X0.here hx rfl (pc0 := 2) (pc' := 9) rfl (hb hby d5_2) rfl (tlt hc101).2.2.1 (by decide) (by decide) (XS.iloadN X0.here hx rfl (hb hby d5_9) rfl kq)) ?_
    refine own_retI X0 hx hlk hret (hb hby d5_10) (by decide) (by decide) ?_
    exact ⟨by simp only [own_min, if_pos hc101], N0, e0⟩
  · refine own_go (S' := (s₁.setTop (mkF m 10 #[.val (.int x), .val (.int y)] [(.int x)]))) (fun tq kq => XS.icmpNo X0.here hx rfl (hb hby d5_2) rfl (flt hc101).2.2.1 (XS.iloadN X0.here hx rfl (hb hby d5_5) rfl (XS.goto X0.here hx rfl (pc0 := 6) (pc' := 10) rfl (hb hby d5_6) (by decide) (by decide) kq))) ?_
    refine own_retI X0 hx hlk hret (hb hby d5_10) (by decide) (by decide) ?_
    exact ⟨by simp only [own_min, if_neg hc101], N0, e0⟩
theorem pn_rm13 : plainName "java/util/Arrays" = true := by first | (simp [plainName, overriddenIn]; done) | decide +kernel
theorem ef_rm13 (m : MethodId) (x : Int32) (y : Int32) : entryFrame m #[(.int x), (.int y)] 2 = mkF m 0 #[.val (.int x), .val (.int y)] [] := by first | (simp [entryFrame, mkF, argsToLocals, Value.category]; done) | rfl
def Q_rm13 (Z : State) (h0 : Heap) (n0 : Nat) (x : Int32) (y : Int32) (v : Option Value) (h : Heap) (L : List Loc) : Prop := v = none ∧ Fr n0 L ∧ h = h0
set_option maxRecDepth 65536 in
set_option maxHeartbeats 40000000 in
theorem rm13 (l : Launch) (Z : State) (a0 : Array Value) (hw : ∀ d ∈ tables_1, d.before a0 Z = true) (ws : List Jvm.Cond) (h0 : Heap) (n0 : Nat) (O0 : Old Z n0 h0) (x : Int32) (y : Int32) (hxy : ¬ (y < x)) :
    MetFree l (⟨"java/util/Arrays", "checkLength", "(II)V"⟩ : MethodName) (head1 (Jvm.Cond.code (⟨"java/util/Arrays", "checkLength", "(II)V"⟩ : MethodName) jdk_65_method_131_code 2 none :: ws) ({ frames := 0, cells := 0, slots := 0, locals := 0 } : Room)) (fun aq U => aq = #[(.int x), (.int y)] ∧ Z.Warmed39 U.vm ∧ U.heap = h0) (fun _ _ _ _ _ => True) (fun _ U o U' => ∃ v L, o = .returned v ∧ Q_rm13 Z h0 n0 x y v U'.heap L ∧ FrameEnd U o U' L ({ frames := 0, cells := 0, slots := 0, locals := 0 } : Room).cells ({ frames := 0, cells := 0, slots := 0, locals := 0 } : Room).slots) := by
  refine MetFree.of_bodySF (plainFor_of_name pn_rm13) hisR ?_
  intro p e s m args below meth c s₁ Bd hml0 hP hK
  obtain ⟨rfl, hZ, hh⟩ := hP
  have hx := Bd.exec
  have hby := Bd.bytes
  have hml : c.maxLocals = 2 := hml0
  have hown : s.vm.findClass "java/util/Arrays" = some m.cls := findClass_of_methodNamed Bd.named
  have hnm := (name_of_methodNamed Bd.named Bd.method).1
  have hlk := Bd.notSynchronized
  have hret := Bd.returns
  have X0 : Stand p l e ({ frames := 0, cells := 0, slots := 0, locals := 0 } : Room) s m #[(.int x), (.int y)] below meth c s₁ [] 0 0 := Stand.of_body Bd
  have e0 : s₁.heap = h0 := by rw [← hh, Bd.state]; rfl
  have N0 := Fr.nil n0
  have K0 := Keep.refl h0 []
  refine own_go (S' := (s₁.setTop (mkF m 0 #[.val (.int x), .val (.int y)] []))) (fun tq kq => castTop (ef_rm13 m x y) kq) ?_
  show own_G p e s below (Q_rm13 Z h0 n0 x y) _ _ _
  refine own_go (S' := (s₁.setTop (mkF m 37 #[.val (.int x), .val (.int y)] []))) (fun tq kq => XS.iloadN X0.here hx rfl (hb hby d13_0) rfl (XS.iloadN X0.here hx rfl (hb hby d13_1) rfl (XS.icmpYes X0.here hx rfl (pc0 := 2) (pc' := 37) rfl (hb hby d13_2) rfl (flt hxy).2.1 (by decide) (by decide) kq))) ?_
  refine own_retV X0 hx hlk hret (hb hby d13_37) (by decide) (by decide) ?_
  exact ⟨rfl, N0, e0⟩
theorem pn_rm4 : plainName "java/util/Arrays" = true := by first | (simp [plainName, overriddenIn]; done) | decide +kernel
theorem ef_rm4 (m : MethodId) (a : Addr) (ka : ClassId) (ll : List Nat) (mm : Nat) : entryFrame m #[(.ref a), (.int (Int32.ofNat (mm)))] 3 = mkF m 0 #[.val (.ref a), .val (.int (Int32.ofNat (mm))), .unset] [] := by first | (simp [entryFrame, mkF, argsToLocals, Value.category]; done) | rfl
def Q_rm4 (Z : State) (h0 : Heap) (n0 : Nat) (a : Addr) (ka : ClassId) (ll : List Nat) (mm : Nat) (v : Option Value) (h : Heap) (L : List Loc) : Prop := ∃ (b : Addr) (kb : ClassId), v = some (.ref b) ∧ Fr n0 L ∧ Keep h0 h [] ∧ h0.size ≤ b ∧ own_Ar Z h b kb .int (own_iv (ll.take mm))
set_option maxRecDepth 65536 in
set_option maxHeartbeats 40000000 in
theorem rm4 (l : Launch) (Z : State) (a0 : Array Value) (hw : ∀ d ∈ tables_1, d.before a0 Z = true) (ws : List Jvm.Cond) (h0 : Heap) (n0 : Nat) (O0 : Old Z n0 h0) (a : Addr) (ka : ClassId) (ll : List Nat) (mm : Nat) (Va : own_Ar Z h0 a ka .int (own_iv ll)) (hm : mm < ll.length) (hl : ll.length ≤ 4) :
    MetFree l (⟨"java/util/Arrays", "copyOf", "([II)[I"⟩ : MethodName) (head1 (Jvm.Cond.code (⟨"java/util/Arrays", "copyOf", "([II)[I"⟩ : MethodName) jdk_65_method_123_code 3 (some (.array .int)) :: ws) ({ frames := 1, cells := 1, slots := 4, locals := 18 } : Room)) (fun aq U => aq = #[(.ref a), (.int (Int32.ofNat (mm)))] ∧ Z.Warmed39 U.vm ∧ U.heap = h0) (fun _ _ _ _ _ => True) (fun _ U o U' => ∃ v L, o = .returned v ∧ Q_rm4 Z h0 n0 a ka ll mm v U'.heap L ∧ FrameEnd U o U' L ({ frames := 1, cells := 1, slots := 4, locals := 18 } : Room).cells ({ frames := 1, cells := 1, slots := 4, locals := 18 } : Room).slots) := by
  refine MetFree.of_bodySF (plainFor_of_name pn_rm4) hisR ?_
  intro p e s m args below meth c s₁ Bd hml0 hP hK
  obtain ⟨rfl, hZ, hh⟩ := hP
  have hx := Bd.exec
  have hby := Bd.bytes
  have hml : c.maxLocals = 3 := hml0
  have hown : s.vm.findClass "java/util/Arrays" = some m.cls := findClass_of_methodNamed Bd.named
  have hnm := (name_of_methodNamed Bd.named Bd.method).1
  have hlk := Bd.notSynchronized
  have hret := Bd.returns
  have X0 : Stand p l e ({ frames := 1, cells := 1, slots := 4, locals := 18 } : Room) s m #[(.ref a), (.int (Int32.ofNat (mm)))] below meth c s₁ [] 0 0 := Stand.of_body Bd
  have e0 : s₁.heap = h0 := by rw [← hh, Bd.state]; rfl
  have N0 := Fr.nil n0
  have K0 := Keep.refl h0 []
  refine own_go (S' := (s₁.setTop (mkF m 0 #[.val (.ref a), .val (.int (Int32.ofNat (mm))), .unset] []))) (fun tq kq => castTop (ef_rm4 m a ka ll mm) kq) ?_
  show own_G p e s below (Q_rm4 Z h0 n0 a ka ll mm) _ _ _
  refine own_go (S' := (s₁.setTop (mkF m 2 #[.val (.ref a), .val (.int (Int32.ofNat (mm))), .unset] [(.ref a), (.int (Int32.ofNat (mm)))]))) (fun tq kq => XS.iloadN X0.here hx rfl (hb hby d4_0) rfl (XS.aloadN X0.here hx rfl (hb hby d4_1) rfl rfl kq)) ?_
  obtain ⟨cl101, Ar101, ln101⟩ := Va.len
  have lq101 : cl101.slots.size.toInt32 = (Int32.ofNat (ll.length)) := ln101.trans (by rw [own_ivlen])
  refine own_go (S' := (s₁.setTop (mkF m 15 #[.val (.ref a), .val (.int (Int32.ofNat (mm))), .unset] [(.int (Int32.ofNat (mm)))]))) (fun tq kq => X0.arraylength hx (by rw [e0]; exact Ar101.1) (State.isArrayOf_alike hZ.alike Ar101.2.1) (g := (mkF m 2 #[.val (.ref a), .val (.int (Int32.ofNat (mm))), .unset] [(.ref a), (.int (Int32.ofNat (mm)))])) rfl rfl (hb hby d4_2) tq (by rw [lq101]; exact (XS.icmpYes X0.here hx rfl (pc0 := 3) (pc' := 14) rfl (hb hby d4_3) rfl (feq (fun q => absurd ((own_eqN (by omega) (by omega)).mp q) (by omega))).2 (by decide) (by decide) (XS.iloadN X0.here hx rfl (hb hby d4_14) rfl kq)))) ?_
  obtain ⟨T102, h102, k102, X102, e102, E102, A102, st102⟩ := newP X0 hx hZ (hw _ (List.mem_of_getElem? (i := 0) rfl)) e0 (g := (mkF m 15 #[.val (.ref a), .val (.int (Int32.ofNat (mm))), .unset] [(.int (Int32.ofNat (mm)))])) rfl (hb hby d4_15) rfl (own_pos (by omega)) (cap := 4) (by rw [own_clamp (by omega)]; omega) (by decide) (by decide) (by decide)
  obtain ⟨b102, g102⟩ : ∃ z, z = h0.size := ⟨_, rfl⟩
  rw [← g102] at A102 st102
  have ne_a_b102 : a ≠ b102 := Nat.ne_of_lt (Nat.lt_of_lt_of_le Va.lt (Nat.le_of_eq g102.symm))
  have ge_b102 : n0 ≤ b102 := Nat.le_trans (own_osz O0) (Nat.le_of_eq g102.symm)
  have gk_b102 : h0.size ≤ b102 := Nat.le_trans K0.1 (Nat.le_of_eq g102.symm)
  have V102 : own_Ar Z h102 b102 k102 .int (List.replicate (Int32.ofNat (mm)).toNatClampNeg (.int (0 : Int32))) := own_Ar.new A102 (own_pos (by omega))
  have O102 := O0.ext E102
  have K102 := K0.ext E102
  refine own_go (S' := (T102.setTop (mkF m 23 #[.val (.ref a), .val (.int (Int32.ofNat (mm))), .val (.ref b102)] [(.ref a), (.int (0 : Int32)), (.ref b102), (.int (0 : Int32)), (.ref a)]))) (fun tq kq => st102 tq (XS.astoreN X102.here hx rfl (hb hby d4_17) rfl rfl (l' := #[.val (.ref a), .val (.int (Int32.ofNat (mm))), .val (.ref b102)]) rfl (XS.aloadN X102.here hx rfl (hb hby d4_18) rfl rfl (XS.iconst X102.here hx rfl (hb hby d4_19) (XS.aloadN X102.here hx rfl (hb hby d4_20) rfl rfl (XS.iconst X102.here hx rfl (hb hby d4_21) (XS.aloadN X102.here hx rfl (hb hby d4_22) rfl rfl kq))))))) ?_
  have f103 := (Va.ext E102)
  obtain ⟨cl104, Ar104, ln104⟩ := f103.len
  have lq104 : cl104.slots.size.toInt32 = (Int32.ofNat (ll.length)) := ln104.trans (by rw [own_ivlen])
  refine own_go (S' := (T102.setTop (mkF m 25 #[.val (.ref a), .val (.int (Int32.ofNat (mm))), .val (.ref b102)] [(.int (Int32.ofNat (mm))), (.int (Int32.ofNat (ll.length))), (.int (0 : Int32)), (.ref b102), (.int (0 : Int32)), (.ref a)]))) (fun tq kq => X102.arraylength hx (by rw [e102]; exact Ar104.1) (State.isArrayOf_alike hZ.alike Ar104.2.1) (g := (mkF m 23 #[.val (.ref a), .val (.int (Int32.ofNat (mm))), .val (.ref b102)] [(.ref a), (.int (0 : Int32)), (.ref b102), (.int (0 : Int32)), (.ref a)])) rfl rfl (hb hby d4_23) tq (by rw [lq104]; exact (XS.iloadN X102.here hx rfl (hb hby d4_24) rfl kq))) ?_
  obtain ⟨_, _, ⟨T105, L105, k105, n105⟩, -, X105, ⟨Lc105, hQ105, l105, y105, z105⟩, st105⟩ := Jvm.LawKit.callS X102 hx (y := (⟨"java/lang/Math", "min", "(II)I"⟩ : MethodName)) hown (mvT hZ (hw _ (List.mem_of_getElem? (i := 33) rfl))) (mvT hZ (hw _ (List.mem_of_getElem? (i := 34) rfl))) (mvT hZ (hw _ (List.mem_of_getElem? (i := 35) rfl))) (mvT hZ (hw _ (List.mem_of_getElem? (i := 36) rfl))) (by decide) (backOf (W := 4) (rm5 l Z a0 hw [] h102 n0 O102 (Int32.ofNat (ll.length)) (Int32.ofNat (mm))) hZ (hw _ (List.mem_of_getElem? (i := 36) rfl)) (hw _ (List.mem_of_getElem? (i := 35) rfl)) (by decide) (by decide)) (g := (mkF m 25 #[.val (.ref a), .val (.int (Int32.ofNat (mm))), .val (.ref b102)] [(.int (Int32.ofNat (mm))), (.int (Int32.ofNat (ll.length))), (.int (0 : Int32)), (.ref b102), (.int (0 : Int32)), (.ref a)])) rfl (by rw [hml]; rfl) (argsL := [(.int (Int32.ofNat (ll.length))), (.int (Int32.ofNat (mm)))]) (rest := [(.int (0 : Int32)), (.ref b102), (.int (0 : Int32)), (.ref a)]) (lenOf pd_1 rfl) rfl (by show 2 * 0 + _ ≤ _; exact Nat.le_of_eq rfl) (hb hby d4_25) (fun _ _ => ⟨rfl, e102, (by decide : 1 + 0 ≤ _), (by decide : 4 + 0 ≤ _)⟩)
  dsimp only [Pt.U, Pt.locs, Pt.cells, Pt.slots] at X105 l105 y105 z105 st105 hQ105
  subst l105 y105 z105
  obtain ⟨rfl, N105, eh105⟩ := hQ105
  have Nf105 := Fr.app N0 N105
  refine own_go (S' := (T105.setTop (mkF m 28 #[.val (.ref a), .val (.int (Int32.ofNat (mm))), .val (.ref b102)] [(.int (own_min (Int32.ofNat (ll.length)) (Int32.ofNat (mm)))), (.int (0 : Int32)), (.ref b102), (.int (0 : Int32)), (.ref a)]))) (fun tq kq => st105 tq kq) ?_
  have emn : own_min (Int32.ofNat ll.length) (Int32.ofNat mm) = Int32.ofNat mm := by rw [own_minN (by omega) (by omega), Nat.min_eq_right (by omega)]
  obtain ⟨T106, h106, L106, X106, e106, N106, K106, U106, st106⟩ := own_cp X105 hx hZ hown (hw _ (List.mem_of_getElem? (i := 37) rfl)) (hw _ (List.mem_of_getElem? (i := 40) rfl)) (hw _ (List.mem_of_getElem? (i := 38) rfl)) (hw _ (List.mem_of_getElem? (i := 39) rfl)) eh105 (sp := (0 : Int32)) (dp := (0 : Int32)) (nn := (own_min (Int32.ofNat (ll.length)) (Int32.ofNat (mm)))) f103 V102 rfl (own_ivfit ll) (by intro v hv; rw [own_ivrep] at hv; exact own_ivfit _ v hv) (by decide) (by decide) (by rw [emn]; exact own_pos (by omega)) (by rw [emn, own_clamp (by omega), own_ivlen]; show 0 + mm ≤ _; omega) (by rw [emn, own_clamp (by omega), List.length_replicate]; show 0 + mm ≤ _; omega) Nf105 ge_b102 (g := (mkF m 28 #[.val (.ref a), .val (.int (Int32.ofNat (mm))), .val (.ref b102)] [(.int (own_min (Int32.ofNat (ll.length)) (Int32.ofNat (mm)))), (.int (0 : Int32)), (.ref b102), (.int (0 : Int32)), (.ref a)])) rfl (by rw [hml]; rfl) rfl (hb hby d4_28) (by decide) (W := 0) (by show 2 * 0 + _ ≤ _; exact Nat.le_of_eq rfl) (by decide)
  have V106 : own_Ar Z h106 b102 k102 .int (own_iv (ll.take mm)) := (by rw [emn, own_clamp (by omega)] at U106; simpa [own_ivtake] using U106)
  have O106 := O102.keep K106 (allS ge_b102 all0)
  have KK106 := K102.trans K106 (allS (Or.inr gk_b102) all0)
  refine own_go (S' := (T106.setTop (mkF m 32 #[.val (.ref a), .val (.int (Int32.ofNat (mm))), .val (.ref b102)] [(.ref b102)]))) (fun tq kq => st106 tq (XS.aloadN X106.here hx rfl (hb hby d4_31) rfl rfl kq)) ?_
  refine own_retA X106 hx hlk hret rfl rfl (hb hby d4_32) (by decide) (by decide) ?_
  rw [e106]
  exact ⟨b102, _, rfl, N106, KK106, gk_b102, V106⟩
theorem pn_rm12 : plainName "java/util/Arrays" = true := by first | (simp [plainName, overriddenIn]; done) | decide +kernel
theorem ef_rm12 (m : MethodId) (a : Addr) (ka : ClassId) (ll : List Nat) (ff : Nat) (tt : Nat) : entryFrame m #[(.ref a), (.int (Int32.ofNat (ff))), (.int (Int32.ofNat (tt)))] 5 = mkF m 0 #[.val (.ref a), .val (.int (Int32.ofNat (ff))), .val (.int (Int32.ofNat (tt))), .unset, .unset] [] := by first | (simp [entryFrame, mkF, argsToLocals, Value.category]; done) | rfl
def Q_rm12 (Z : State) (h0 : Heap) (n0 : Nat) (a : Addr) (ka : ClassId) (ll : List Nat) (ff : Nat) (tt : Nat) (v : Option Value) (h : Heap) (L : List Loc) : Prop := ∃ (b : Addr) (kb : ClassId), v = some (.ref b) ∧ Fr n0 L ∧ Keep h0 h [] ∧ h0.size ≤ b ∧ own_Ar Z h b kb .int (own_iv ((ll.drop ff).take (tt - ff)))
set_option maxRecDepth 65536 in
set_option maxHeartbeats 40000000 in
theorem rm12 (l : Launch) (Z : State) (a0 : Array Value) (hw : ∀ d ∈ tables_1, d.before a0 Z = true) (ws : List Jvm.Cond) (h0 : Heap) (n0 : Nat) (O0 : Old Z n0 h0) (a : Addr) (ka : ClassId) (ll : List Nat) (ff : Nat) (tt : Nat) (Va : own_Ar Z h0 a ka .int (own_iv ll)) (hft : ff ≤ tt) (htl : tt ≤ ll.length) (hl : ll.length ≤ 4) :
    MetFree l (⟨"java/util/Arrays", "copyOfRangeInt", "([III)[I"⟩ : MethodName) (head1 (Jvm.Cond.code (⟨"java/util/Arrays", "copyOfRangeInt", "([III)[I"⟩ : MethodName) jdk_65_method_137_code 5 (some (.array .int)) :: ws) ({ frames := 1, cells := 1, slots := 4, locals := 18 } : Room)) (fun aq U => aq = #[(.ref a), (.int (Int32.ofNat (ff))), (.int (Int32.ofNat (tt)))] ∧ Z.Warmed39 U.vm ∧ U.heap = h0) (fun _ _ _ _ _ => True) (fun _ U o U' => ∃ v L, o = .returned v ∧ Q_rm12 Z h0 n0 a ka ll ff tt v U'.heap L ∧ FrameEnd U o U' L ({ frames := 1, cells := 1, slots := 4, locals := 18 } : Room).cells ({ frames := 1, cells := 1, slots := 4, locals := 18 } : Room).slots) := by
  refine MetFree.of_bodySF (plainFor_of_name pn_rm12) hisR ?_
  intro p e s m args below meth c s₁ Bd hml0 hP hK
  obtain ⟨rfl, hZ, hh⟩ := hP
  have hx := Bd.exec
  have hby := Bd.bytes
  have hml : c.maxLocals = 5 := hml0
  have hown : s.vm.findClass "java/util/Arrays" = some m.cls := findClass_of_methodNamed Bd.named
  have hnm := (name_of_methodNamed Bd.named Bd.method).1
  have hlk := Bd.notSynchronized
  have hret := Bd.returns
  have X0 : Stand p l e ({ frames := 1, cells := 1, slots := 4, locals := 18 } : Room) s m #[(.ref a), (.int (Int32.ofNat (ff))), (.int (Int32.ofNat (tt)))] below meth c s₁ [] 0 0 := Stand.of_body Bd
  have e0 : s₁.heap = h0 := by rw [← hh, Bd.state]; rfl
  have N0 := Fr.nil n0
  have K0 := Keep.refl h0 []
  refine own_go (S' := (s₁.setTop (mkF m 0 #[.val (.ref a), .val (.int (Int32.ofNat (ff))), .val (.int (Int32.ofNat (tt))), .unset, .unset] []))) (fun tq kq => castTop (ef_rm12 m a ka ll ff tt) kq) ?_
  show own_G p e s below (Q_rm12 Z h0 n0 a ka ll ff tt) _ _ _
  refine own_go (S' := (s₁.setTop (mkF m 2 #[.val (.ref a), .val (.int (Int32.ofNat (ff))), .val (.int (Int32.ofNat (tt))), .unset, .unset] [(.int (Int32.ofNat (tt))), (.int (Int32.ofNat (ff)))]))) (fun tq kq => XS.iloadN X0.here hx rfl (hb hby d12_0) rfl (XS.iloadN X0.here hx rfl (hb hby d12_1) rfl kq)) ?_
  obtain ⟨_, _, ⟨T101, L101, k101, n101⟩, -, X101, ⟨Lc101, hQ101, l101, y101, z101⟩, st101⟩ := Jvm.LawKit.callS X0 hx (y := (⟨"java/util/Arrays", "checkLength", "(II)V"⟩ : MethodName)) hown (mvT hZ (hw _ (List.mem_of_getElem? (i := 90) rfl))) (mvT hZ (hw _ (List.mem_of_getElem? (i := 91) rfl))) (mvT hZ (hw _ (List.mem_of_getElem? (i := 31) rfl))) (mvT hZ (hw _ (List.mem_of_getElem? (i := 92) rfl))) (by decide) (backOf (W := 0) (rm13 l Z a0 hw [] h0 n0 O0 (Int32.ofNat (ff)) (Int32.ofNat (tt)) (by rw [own_lt (by omega) (by omega)]; omega)) hZ (hw _ (List.mem_of_getElem? (i := 92) rfl)) (hw _ (List.mem_of_getElem? (i := 31) rfl)) (by decide) (by decide)) (g := (mkF m 2 #[.val (.ref a), .val (.int (Int32.ofNat (ff))), .val (.int (Int32.ofNat (tt))), .unset, .unset] [(.int (Int32.ofNat (tt))), (.int (Int32.ofNat (ff)))])) rfl (by rw [hml]; rfl) (argsL := [(.int (Int32.ofNat (ff))), (.int (Int32.ofNat (tt)))]) (rest := []) (lenOf pd_2 rfl) rfl (by show 2 * 0 + _ ≤ _; exact Nat.le_of_eq rfl) (hb hby d12_2) (fun _ _ => ⟨rfl, e0, (by decide : 0 + 0 ≤ _), (by decide : 0 + 0 ≤ _)⟩)
  dsimp only [Pt.U, Pt.locs, Pt.cells, Pt.slots] at X101 l101 y101 z101 st101 hQ101
  subst l101 y101 z101
  obtain ⟨rfl, N101, eh101⟩ := hQ101
  have Nf101 := Fr.app N0 N101
  refine own_go (S' := (T101.setTop (mkF m 8 #[.val (.ref a), .val (.int (Int32.ofNat (ff))), .val (.int (Int32.ofNat (tt))), .unset, .unset] [(.int ((Int32.ofNat (tt)) - (Int32.ofNat (ff))))]))) (fun tq kq => st101 tq (XS.iloadN X101.here hx rfl (hb hby d12_5) rfl (XS.iloadN X101.here hx rfl (hb hby d12_6) rfl (XS.isub X101.here hx rfl (hb hby d12_7) rfl kq)))) ?_
  rw [own_subN (by omega : ff ≤ tt)]
  refine own_go (S' := (T101.setTop (mkF m 10 #[.val (.ref a), .val (.int (Int32.ofNat (ff))), .val (.int (Int32.ofNat (tt))), .val (.int (Int32.ofNat (tt - ff))), .unset] [(.int (Int32.ofNat (tt - ff)))]))) (fun tq kq => XS.istoreN X101.here hx rfl (hb hby d12_8) rfl (l' := #[.val (.ref a), .val (.int (Int32.ofNat (ff))), .val (.int (Int32.ofNat (tt))), .val (.int (Int32.ofNat (tt - ff))), .unset]) rfl (XS.iloadN X101.here hx rfl (hb hby d12_9) rfl kq)) ?_
  obtain ⟨T102, h102, k102, X102, e102, E102, A102, st102⟩ := newP X101 hx hZ (hw _ (List.mem_of_getElem? (i := 0) rfl)) eh101 (g := (mkF m 10 #[.val (.ref a), .val (.int (Int32.ofNat (ff))), .val (.int (Int32.ofNat (tt))), .val (.int (Int32.ofNat (tt - ff))), .unset] [(.int (Int32.ofNat (tt - ff)))])) rfl (hb hby d12_10) rfl (own_pos (by omega)) (cap := 4) (by rw [own_clamp (by omega)]; omega) (by decide) (by decide) (by decide)
  obtain ⟨b102, g102⟩ : ∃ z, z = h0.size := ⟨_, rfl⟩
  rw [← g102] at A102 st102
  have ne_a_b102 : a ≠ b102 := Nat.ne_of_lt (Nat.lt_of_lt_of_le Va.lt (Nat.le_of_eq g102.symm))
  have ge_b102 : n0 ≤ b102 := Nat.le_trans (own_osz O0) (Nat.le_of_eq g102.symm)
  have gk_b102 : h0.size ≤ b102 := Nat.le_trans K0.1 (Nat.le_of_eq g102.symm)
  have V102 : own_Ar Z h102 b102 k102 .int (List.replicate (Int32.ofNat (tt - ff)).toNatClampNeg (.int (0 : Int32))) := own_Ar.new A102 (own_pos (by omega))
  have O102 := O0.ext E102
  have K102 := K0.ext E102
  refine own_go (S' := (T102.setTop (mkF m 20 #[.val (.ref a), .val (.int (Int32.ofNat (ff))), .val (.int (Int32.ofNat (tt))), .val (.int (Int32.ofNat (tt - ff))), .val (.ref b102)] [(.ref a), (.int (0 : Int32)), (.ref b102), (.int (Int32.ofNat (ff))), (.ref a)]))) (fun tq kq => st102 tq (XS.astore X102.here hx rfl (hb hby d12_12) rfl rfl (l' := #[.val (.ref a), .val (.int (Int32.ofNat (ff))), .val (.int (Int32.ofNat (tt))), .val (.int (Int32.ofNat (tt - ff))), .val (.ref b102)]) rfl (XS.aloadN X102.here hx rfl (hb hby d12_14) rfl rfl (XS.iloadN X102.here hx rfl (hb hby d12_15) rfl (XS.aload X102.here hx rfl (hb hby d12_16) rfl rfl (XS.iconst X102.here hx rfl (hb hby d12_18) (XS.aloadN X102.here hx rfl (hb hby d12_19) rfl rfl kq))))))) ?_
  have f103 := (Va.ext E102)
  obtain ⟨cl104, Ar104, ln104⟩ := f103.len
  have lq104 : cl104.slots.size.toInt32 = (Int32.ofNat (ll.length)) := ln104.trans (by rw [own_ivlen])
  refine own_go (S' := (T102.setTop (mkF m 23 #[.val (.ref a), .val (.int (Int32.ofNat (ff))), .val (.int (Int32.ofNat (tt))), .val (.int (Int32.ofNat (tt - ff))), .val (.ref b102)] [(.int ((Int32.ofNat (ll.length)) - (Int32.ofNat (ff)))), (.int (0 : Int32)), (.ref b102), (.int (Int32.ofNat (ff))), (.ref a)]))) (fun tq kq => X102.arraylength hx (by rw [e102]; exact Ar104.1) (State.isArrayOf_alike hZ.alike Ar104.2.1) (g := (mkF m 20 #[.val (.ref a), .val (.int (Int32.ofNat (ff))), .val (.int (Int32.ofNat (tt))), .val (.int (Int32.ofNat (tt - ff))), .val (.ref b102)] [(.ref a), (.int (0 : Int32)), (.ref b102), (.int (Int32.ofNat (ff))), (.ref a)])) rfl rfl (hb hby d12_20) tq (by rw [lq104]; exact (XS.iloadN X102.here hx rfl (hb hby d12_21) rfl (XS.isub X102.here hx rfl (hb hby d12_22) rfl kq)))) ?_
  rw [own_subN (by omega : ff ≤ ll.length)]
  refine own_go (S' := (T102.setTop (mkF m 24 #[.val (.ref a), .val (.int (Int32.ofNat (ff))), .val (.int (Int32.ofNat (tt))), .val (.int (Int32.ofNat (tt - ff))), .val (.ref b102)] [(.int (Int32.ofNat (tt - ff))), (.int (Int32.ofNat (ll.length - ff))), (.int (0 : Int32)), (.ref b102), (.int (Int32.ofNat (ff))), (.ref a)]))) (fun tq kq => XS.iloadN X102.here hx rfl (hb hby d12_23) rfl kq) ?_
  obtain ⟨_, _, ⟨T105, L105, k105, n105⟩, -, X105, ⟨Lc105, hQ105, l105, y105, z105⟩, st105⟩ := Jvm.LawKit.callS X102 hx (y := (⟨"java/lang/Math", "min", "(II)I"⟩ : MethodName)) hown (mvT hZ (hw _ (List.mem_of_getElem? (i := 33) rfl))) (mvT hZ (hw _ (List.mem_of_getElem? (i := 34) rfl))) (mvT hZ (hw _ (List.mem_of_getElem? (i := 35) rfl))) (mvT hZ (hw _ (List.mem_of_getElem? (i := 36) rfl))) (by decide) (backOf (W := 4) (rm5 l Z a0 hw [] h102 n0 O102 (Int32.ofNat (ll.length - ff)) (Int32.ofNat (tt - ff))) hZ (hw _ (List.mem_of_getElem? (i := 36) rfl)) (hw _ (List.mem_of_getElem? (i := 35) rfl)) (by decide) (by decide)) (g := (mkF m 24 #[.val (.ref a), .val (.int (Int32.ofNat (ff))), .val (.int (Int32.ofNat (tt))), .val (.int (Int32.ofNat (tt - ff))), .val (.ref b102)] [(.int (Int32.ofNat (tt - ff))), (.int (Int32.ofNat (ll.length - ff))), (.int (0 : Int32)), (.ref b102), (.int (Int32.ofNat (ff))), (.ref a)])) rfl (by rw [hml]; rfl) (argsL := [(.int (Int32.ofNat (ll.length - ff))), (.int (Int32.ofNat (tt - ff)))]) (rest := [(.int (0 : Int32)), (.ref b102), (.int (Int32.ofNat (ff))), (.ref a)]) (lenOf pd_1 rfl) rfl (by show 2 * 0 + _ ≤ _; exact Nat.le_of_eq rfl) (hb hby d12_24) (fun _ _ => ⟨rfl, e102, (by decide : 1 + 0 ≤ _), (by decide : 4 + 0 ≤ _)⟩)
  dsimp only [Pt.U, Pt.locs, Pt.cells, Pt.slots] at X105 l105 y105 z105 st105 hQ105
  subst l105 y105 z105
  obtain ⟨rfl, N105, eh105⟩ := hQ105
  have Nf105 := Fr.app Nf101 N105
  refine own_go (S' := (T105.setTop (mkF m 27 #[.val (.ref a), .val (.int (Int32.ofNat (ff))), .val (.int (Int32.ofNat (tt))), .val (.int (Int32.ofNat (tt - ff))), .val (.ref b102)] [(.int (own_min (Int32.ofNat (ll.length - ff)) (Int32.ofNat (tt - ff)))), (.int (0 : Int32)), (.ref b102), (.int (Int32.ofNat (ff))), (.ref a)]))) (fun tq kq => st105 tq kq) ?_
  have emn : own_min (Int32.ofNat (ll.length - ff)) (Int32.ofNat (tt - ff)) = Int32.ofNat (tt - ff) := by rw [own_minN (by omega) (by omega), Nat.min_eq_right (by omega)]
  obtain ⟨T106, h106, L106, X106, e106, N106, K106, U106, st106⟩ := own_cp X105 hx hZ hown (hw _ (List.mem_of_getElem? (i := 37) rfl)) (hw _ (List.mem_of_getElem? (i := 40) rfl)) (hw _ (List.mem_of_getElem? (i := 38) rfl)) (hw _ (List.mem_of_getElem? (i := 39) rfl)) eh105 (sp := (Int32.ofNat (ff))) (dp := (0 : Int32)) (nn := (own_min (Int32.ofNat (ll.length - ff)) (Int32.ofNat (tt - ff)))) f103 V102 rfl (own_ivfit ll) (by intro v hv; rw [own_ivrep] at hv; exact own_ivfit _ v hv) (own_pos (by omega)) (by decide) (by rw [emn]; exact own_pos (by omega)) (by rw [emn, own_clamp (by omega), own_clamp (by omega), own_ivlen]; omega) (by rw [emn, own_clamp (by omega), List.length_replicate]; show 0 + (tt - ff) ≤ _; omega) Nf105 ge_b102 (g := (mkF m 27 #[.val (.ref a), .val (.int (Int32.ofNat (ff))), .val (.int (Int32.ofNat (tt))), .val (.int (Int32.ofNat (tt - ff))), .val (.ref b102)] [(.int (own_min (Int32.ofNat (ll.length - ff)) (Int32.ofNat (tt - ff)))), (.int (0 : Int32)), (.ref b102), (.int (Int32.ofNat (ff))), (.ref a)])) rfl (by rw [hml]; rfl) rfl (hb hby d12_27) (by decide) (W := 0) (by show 2 * 0 + _ ≤ _; exact Nat.le_of_eq rfl) (by decide)
  have V106 : own_Ar Z h106 b102 k102 .int (own_iv ((ll.drop ff).take (tt - ff))) := (by rw [emn, own_clamp (by omega), own_clamp (by omega)] at U106; simpa [own_ivtake, own_ivdrop] using U106)
  have O106 := O102.keep K106 (allS ge_b102 all0)
  have KK106 := K102.trans K106 (allS (Or.inr gk_b102) all0)
  refine own_go (S' := (T106.setTop (mkF m 32 #[.val (.ref a), .val (.int (Int32.ofNat (ff))), .val (.int (Int32.ofNat (tt))), .val (.int (Int32.ofNat (tt - ff))), .val (.ref b102)] [(.ref b102)]))) (fun tq kq => st106 tq (XS.aload X106.here hx rfl (hb hby d12_30) rfl rfl kq)) ?_
  refine own_retA X106 hx hlk hret rfl rfl (hb hby d12_32) (by decide) (by decide) ?_
  rw [e106]
  exact ⟨b102, _, rfl, N106, KK106, gk_b102, V106⟩
theorem pn_rm8 : plainName "java/util/Arrays" = true := by first | (simp [plainName, overriddenIn]; done) | decide +kernel
theorem ef_rm8 (m : MethodId) (a : Addr) (ka : ClassId) (ll : List Nat) (ff : Nat) (tt : Nat) : entryFrame m #[(.ref a), (.int (Int32.ofNat (ff))), (.int (Int32.ofNat (tt)))] 3 = mkF m 0 #[.val (.ref a), .val (.int (Int32.ofNat (ff))), .val (.int (Int32.ofNat (tt)))] [] := by first | (simp [entryFrame, mkF, argsToLocals, Value.category]; done) | rfl
def Q_rm8 (Z : State) (h0 : Heap) (n0 : Nat) (a : Addr) (ka : ClassId) (ll : List Nat) (ff : Nat) (tt : Nat) (v : Option Value) (h : Heap) (L : List Loc) : Prop := ∃ (b : Addr) (kb : ClassId), v = some (.ref b) ∧ Fr n0 L ∧ Keep h0 h [] ∧ h0.size ≤ b ∧ own_Ar Z h b kb .int (own_iv ((ll.drop ff).take (tt - ff)))
set_option maxRecDepth 65536 in
set_option maxHeartbeats 40000000 in
theorem rm8 (l : Launch) (Z : State) (a0 : Array Value) (hw : ∀ d ∈ tables_1, d.before a0 Z = true) (ws : List Jvm.Cond) (h0 : Heap) (n0 : Nat) (O0 : Old Z n0 h0) (a : Addr) (ka : ClassId) (ll : List Nat) (ff : Nat) (tt : Nat) (Va : own_Ar Z h0 a ka .int (own_iv ll)) (Ea : Exa Z h0 a "[I") (hft : ff ≤ tt) (htl : tt ≤ ll.length) (hl : ll.length ≤ 4) :
    MetFree l (⟨"java/util/Arrays", "copyOfRange", "([III)[I"⟩ : MethodName) (head1 (Jvm.Cond.code (⟨"java/util/Arrays", "copyOfRange", "([III)[I"⟩ : MethodName) jdk_65_method_136_code 3 (some (.array .int)) :: ws) ({ frames := 2, cells := 1, slots := 4, locals := 34 } : Room)) (fun aq U => aq = #[(.ref a), (.int (Int32.ofNat (ff))), (.int (Int32.ofNat (tt)))] ∧ Z.Warmed39 U.vm ∧ U.heap = h0) (fun _ _ _ _ _ => True) (fun _ U o U' => ∃ v L, o = .returned v ∧ Q_rm8 Z h0 n0 a ka ll ff tt v U'.heap L ∧ FrameEnd U o U' L ({ frames := 2, cells := 1, slots := 4, locals := 34 } : Room).cells ({ frames := 2, cells := 1, slots := 4, locals := 34 } : Room).slots) := by
  refine MetFree.of_bodySF (plainFor_of_name pn_rm8) hisR ?_
  intro p e s m args below meth c s₁ Bd hml0 hP hK
  obtain ⟨rfl, hZ, hh⟩ := hP
  have hx := Bd.exec
  have hby := Bd.bytes
  have hml : c.maxLocals = 3 := hml0
  have hown : s.vm.findClass "java/util/Arrays" = some m.cls := findClass_of_methodNamed Bd.named
  have hnm := (name_of_methodNamed Bd.named Bd.method).1
  have hlk := Bd.notSynchronized
  have hret := Bd.returns
  have X0 : Stand p l e ({ frames := 2, cells := 1, slots := 4, locals := 34 } : Room) s m #[(.ref a), (.int (Int32.ofNat (ff))), (.int (Int32.ofNat (tt)))] below meth c s₁ [] 0 0 := Stand.of_body Bd
  have e0 : s₁.heap = h0 := by rw [← hh, Bd.state]; rfl
  have N0 := Fr.nil n0
  have K0 := Keep.refl h0 []
  refine own_go (S' := (s₁.setTop (mkF m 0 #[.val (.ref a), .val (.int (Int32.ofNat (ff))), .val (.int (Int32.ofNat (tt)))] []))) (fun tq kq => castTop (ef_rm8 m a ka ll ff tt) kq) ?_
  show own_G p e s below (Q_rm8 Z h0 n0 a ka ll ff tt) _ _ _
  refine own_go (S' := (s₁.setTop (mkF m 1 #[.val (.ref a), .val (.int (Int32.ofNat (ff))), .val (.int (Int32.ofNat (tt)))] [(.int (Int32.ofNat (ff)))]))) (fun tq kq => XS.iloadN X0.here hx rfl (hb hby d8_0) rfl kq) ?_
  by_cases hc101 : (Int32.ofNat (ff)) = (0 : Int32)
  · refine own_go (S' := (s₁.setTop (mkF m 6 #[.val (.ref a), .val (.int (Int32.ofNat (ff))), .val (.int (Int32.ofNat (tt)))] [(.ref a), (.int (Int32.ofNat (tt)))]))) (fun tq kq => XS.ifNo X0.here hx rfl (hb hby d8_1) rfl ((if0 _ _).trans (teq hc101).2) (XS.iloadN X0.here hx rfl (hb hby d8_4) rfl (XS.aloadN X0.here hx rfl (hb hby d8_5) rfl rfl kq))) ?_
    obtain ⟨cl102, Ar102, ln102⟩ := Va.len
    have lq102 : cl102.slots.size.toInt32 = (Int32.ofNat (ll.length)) := ln102.trans (by rw [own_ivlen])
    refine own_go (S' := (s₁.setTop (mkF m 7 #[.val (.ref a), .val (.int (Int32.ofNat (ff))), .val (.int (Int32.ofNat (tt)))] [(.int (Int32.ofNat (ll.length))), (.int (Int32.ofNat (tt)))]))) (fun tq kq => X0.arraylength hx (by rw [e0]; exact Ar102.1) (State.isArrayOf_alike hZ.alike Ar102.2.1) (g := (mkF m 6 #[.val (.ref a), .val (.int (Int32.ofNat (ff))), .val (.int (Int32.ofNat (tt)))] [(.ref a), (.int (Int32.ofNat (tt)))])) rfl rfl (hb hby d8_6) tq (by rw [lq102]; exact kq)) ?_
    by_cases hc103 : (Int32.ofNat (tt)) = (Int32.ofNat (ll.length))
    · refine own_go (S' := (s₁.setTop (mkF m 18 #[.val (.ref a), .val (.int (Int32.ofNat (ff))), .val (.int (Int32.ofNat (tt)))] [(.ref a)]))) (fun tq kq => XS.icmpYes X0.here hx rfl (pc0 := 7) (pc' := 17) rfl (hb hby d8_7) rfl (teq hc103).1 (by decide) (by decide) (XS.aloadN X0.here hx rfl (hb hby d8_17) rfl rfl kq)) ?_
      obtain ⟨T104, h104, X104, e104, E104, A104, Ex104, st104⟩ := cloneH X0 hx hZ hown (hw _ (List.mem_of_getElem? (i := 60) rfl)) (hw _ (List.mem_of_getElem? (i := 61) rfl)) (hw _ (List.mem_of_getElem? (i := 65) rfl)) (hw _ (List.mem_of_getElem? (i := 63) rfl)) (hw _ (List.mem_of_getElem? (i := 64) rfl)) (hw _ (List.mem_of_getElem? (i := 66) rfl)) e0 (Arv.arh (Va.arv (own_ivfit ll) .null)) Ea (g := (mkF m 18 #[.val (.ref a), .val (.int (Int32.ofNat (ff))), .val (.int (Int32.ofNat (tt)))] [(.ref a)])) rfl (by rw [hml]; rfl) rfl (hb hby d8_18) (by decide) (W := 0) (cap := 4) (by show 2 * 0 + _ ≤ _; exact Nat.le_of_eq rfl) (by decide) (by rw [own_clamp (by rw [own_ivlen]; omega), own_ivlen]; omega) (by decide) (by decide)
      obtain ⟨b104, g104⟩ : ∃ z, z = h0.size := ⟨_, rfl⟩
      rw [← g104] at A104 Ex104 st104
      have ne_a_b104 : a ≠ b104 := Nat.ne_of_lt (Nat.lt_of_lt_of_le Va.lt (Nat.le_of_eq g104.symm))
      have ge_b104 : n0 ≤ b104 := Nat.le_trans (own_osz O0) (Nat.le_of_eq g104.symm)
      have gk_b104 : h0.size ≤ b104 := Nat.le_trans K0.1 (Nat.le_of_eq g104.symm)
      have V104 : own_Ar Z h104 b104 ka .int (own_iv ll) := own_of_arv (show Arv Z h104 b104 ka .int (Int32.ofNat (own_iv ll).length) (own_iv ll) .null from A104) (by rw [own_clamp (by rw [own_ivlen]; omega)])
      have O104 := O0.ext E104
      have K104 := K0.ext E104
      refine own_go (S' := (T104.setTop (mkF m 21 #[.val (.ref a), .val (.int (Int32.ofNat (ff))), .val (.int (Int32.ofNat (tt)))] [(.ref b104)]))) (fun tq kq => st104 tq kq) ?_
      obtain ⟨T105, X105, e105, st105⟩ := castY X104 hx hZ hown (hw _ (List.mem_of_getElem? (i := 67) rfl)) e104 (Ins.self Ex104) (g := (mkF m 21 #[.val (.ref a), .val (.int (Int32.ofNat (ff))), .val (.int (Int32.ofNat (tt)))] [(.ref b104)])) rfl rfl (hb hby d8_21)
      refine own_go (S' := (T105.setTop (mkF m 24 #[.val (.ref a), .val (.int (Int32.ofNat (ff))), .val (.int (Int32.ofNat (tt)))] [(.ref b104)]))) (fun tq kq => st105 tq kq) ?_
      refine own_retA X105 hx hlk hret rfl rfl (hb hby d8_24) (by decide) (by decide) ?_
      rw [e105]
      have q1 : ff = 0 := (own_eqN (by omega) (by decide) : Int32.ofNat ff = Int32.ofNat 0 ↔ _).mp hc101
      have q2 : tt = ll.length := (own_eqN (by omega) (by omega)).mp hc103
      have q3 : ((ll.drop ff).take (tt - ff)) = ll := by subst q1 q2; simp
      rw [Q_rm8, q3]
      exact ⟨b104, _, rfl, N0, K104, gk_b104, V104⟩
    · refine own_go (S' := (s₁.setTop (mkF m 13 #[.val (.ref a), .val (.int (Int32.ofNat (ff))), .val (.int (Int32.ofNat (tt)))] [(.int (Int32.ofNat (tt))), (.int (Int32.ofNat (ff))), (.ref a)]))) (fun tq kq => XS.icmpNo X0.here hx rfl (hb hby d8_7) rfl (feq hc103).1 (XS.aloadN X0.here hx rfl (hb hby d8_10) rfl rfl (XS.iloadN X0.here hx rfl (hb hby d8_11) rfl (XS.iloadN X0.here hx rfl (hb hby d8_12) rfl kq)))) ?_
      obtain ⟨_, _, ⟨T106, L106, k106, n106⟩, -, X106, ⟨Lc106, hQ106, l106, y106, z106⟩, st106⟩ := Jvm.LawKit.callS X0 hx (y := (⟨"java/util/Arrays", "copyOfRangeInt", "([III)[I"⟩ : MethodName)) hown (mvT hZ (hw _ (List.mem_of_getElem? (i := 87) rfl))) (mvT hZ (hw _ (List.mem_of_getElem? (i := 88) rfl))) (mvT hZ (hw _ (List.mem_of_getElem? (i := 31) rfl))) (mvT hZ (hw _ (List.mem_of_getElem? (i := 89) rfl))) (by decide) (backOf (W := 0) (rm12 l Z a0 hw [] h0 n0 O0 a ka ll ff tt Va hft htl hl) hZ (hw _ (List.mem_of_getElem? (i := 89) rfl)) (hw _ (List.mem_of_getElem? (i := 31) rfl)) (by decide) (by decide)) (g := (mkF m 13 #[.val (.ref a), .val (.int (Int32.ofNat (ff))), .val (.int (Int32.ofNat (tt)))] [(.int (Int32.ofNat (tt))), (.int (Int32.ofNat (ff))), (.ref a)])) rfl (by rw [hml]; rfl) (argsL := [(.ref a), (.int (Int32.ofNat (ff))), (.int (Int32.ofNat (tt)))]) (rest := []) (lenOf pd_3 rfl) rfl (by show 2 * 0 + _ ≤ _; exact Nat.le_of_eq rfl) (hb hby d8_13) (fun _ _ => ⟨rfl, e0, (by decide : 0 + 1 ≤ _), (by decide : 0 + 4 ≤ _)⟩)
      dsimp only [Pt.U, Pt.locs, Pt.cells, Pt.slots] at X106 l106 y106 z106 st106 hQ106
      subst l106 y106 z106
      obtain ⟨b106, kb106, rfl, N106, K106, gb106, V106⟩ := hQ106
      have Nf106 := Fr.app N0 N106
      have O106 := O0.keep K106 all0
      have KK106 := K0.trans K106 all0
      have ne_a_b106 : a ≠ b106 := Nat.ne_of_lt (Nat.lt_of_lt_of_le Va.lt gb106)
      have ge_b106 : n0 ≤ b106 := Nat.le_trans (own_osz O0) gb106
      have gk_b106 : h0.size ≤ b106 := Nat.le_trans K0.1 gb106
      refine own_go (S' := (T106.setTop (mkF m 16 #[.val (.ref a), .val (.int (Int32.ofNat (ff))), .val (.int (Int32.ofNat (tt)))] [(.ref b106)]))) (fun tq kq => st106 tq kq) ?_
      refine own_retA X106 hx hlk hret rfl rfl (hb hby d8_16) (by decide) (by decide) ?_
      exact ⟨b106, _, rfl, Nf106, KK106, gk_b106, V106⟩
  · refine own_go (S' := (s₁.setTop (mkF m 13 #[.val (.ref a), .val (.int (Int32.ofNat (ff))), .val (.int (Int32.ofNat (tt)))] [(.int (Int32.ofNat (tt))), (.int (Int32.ofNat (ff))), (.ref a)]))) (fun tq kq => XS.ifYes X0.here hx rfl (pc0 := 1) (pc' := 10) rfl (hb hby d8_1) rfl ((if0 _ _).trans (feq hc101).2) (by decide) (by decide) (XS.aloadN X0.here hx rfl (hb hby d8_10) rfl rfl (XS.iloadN X0.here hx rfl (hb hby d8_11) rfl (XS.iloadN X0.here hx rfl (hb hby d8_12) rfl kq)))) ?_
    obtain ⟨_, _, ⟨T107, L107, k107, n107⟩, -, X107, ⟨Lc107, hQ107, l107, y107, z107⟩, st107⟩ := Jvm.LawKit.callS X0 hx (y := (⟨"java/util/Arrays", "copyOfRangeInt", "([III)[I"⟩ : MethodName)) hown (mvT hZ (hw _ (List.mem_of_getElem? (i := 87) rfl))) (mvT hZ (hw _ (List.mem_of_getElem? (i := 88) rfl))) (mvT hZ (hw _ (List.mem_of_getElem? (i := 31) rfl))) (mvT hZ (hw _ (List.mem_of_getElem? (i := 89) rfl))) (by decide) (backOf (W := 0) (rm12 l Z a0 hw [] h0 n0 O0 a ka ll ff tt Va hft htl hl) hZ (hw _ (List.mem_of_getElem? (i := 89) rfl)) (hw _ (List.mem_of_getElem? (i := 31) rfl)) (by decide) (by decide)) (g := (mkF m 13 #[.val (.ref a), .val (.int (Int32.ofNat (ff))), .val (.int (Int32.ofNat (tt)))] [(.int (Int32.ofNat (tt))), (.int (Int32.ofNat (ff))), (.ref a)])) rfl (by rw [hml]; rfl) (argsL := [(.ref a), (.int (Int32.ofNat (ff))), (.int (Int32.ofNat (tt)))]) (rest := []) (lenOf pd_3 rfl) rfl (by show 2 * 0 + _ ≤ _; exact Nat.le_of_eq rfl) (hb hby d8_13) (fun _ _ => ⟨rfl, e0, (by decide : 0 + 1 ≤ _), (by decide : 0 + 4 ≤ _)⟩)
    dsimp only [Pt.U, Pt.locs, Pt.cells, Pt.slots] at X107 l107 y107 z107 st107 hQ107
    subst l107 y107 z107
    obtain ⟨b107, kb107, rfl, N107, K107, gb107, V107⟩ := hQ107
    have Nf107 := Fr.app N0 N107
    have O107 := O0.keep K107 all0
    have KK107 := K0.trans K107 all0
    have ne_a_b107 : a ≠ b107 := Nat.ne_of_lt (Nat.lt_of_lt_of_le Va.lt gb107)
    have ge_b107 : n0 ≤ b107 := Nat.le_trans (own_osz O0) gb107
    have gk_b107 : h0.size ≤ b107 := Nat.le_trans K0.1 gb107
    refine own_go (S' := (T107.setTop (mkF m 16 #[.val (.ref a), .val (.int (Int32.ofNat (ff))), .val (.int (Int32.ofNat (tt)))] [(.ref b107)]))) (fun tq kq => st107 tq kq) ?_
    refine own_retA X107 hx hlk hret rfl rfl (hb hby d8_16) (by decide) (by decide) ?_
    exact ⟨b107, _, rfl, Nf107, KK107, gk_b107, V107⟩
theorem pn_rm6 : plainName "com/example/vestwright/vestwright/cli/TableRows$ByKey" = true := by first | (simp [plainName, overriddenIn]; done) | decide +kernel
theorem ef_rm6 (m : MethodId) (a : Addr) (ss : Addr) (rr : Addr) : entryFrame m #[(.ref a), (.ref ss), (.ref rr)] 3 = mkF m 0 #[.val (.ref a), .val (.ref ss), .val (.ref rr)] [] := by first | (simp [entryFrame, mkF, argsToLocals, Value.category]; done) | rfl
def Q_rm6 (Z : State) (h0 : Heap) (n0 : Nat) (a : Addr) (ss : Addr) (rr : Addr) (v : Option Value) (h : Heap) (L : List Loc) : Prop := v = none ∧ Fr n0 L ∧ Keep h0 h [a] ∧ Fld Z h a "com/example/vestwright/vestwright/cli/TableRows$ByKey" "starts" "[I" (.ref ss) ∧ Fld Z h a "com/example/vestwright/vestwright/cli/TableRows$ByKey" "rows" "[I" (.ref rr)
set_option maxRecDepth 65536 in
set_option maxHeartbeats 40000000 in
theorem rm6 (l : Launch) (Z : State) (a0 : Array Value) (hw : ∀ d ∈ tables_1, d.before a0 Z = true) (ws : List Jvm.Cond) (h0 : Heap) (n0 : Nat) (O0 : Old Z n0 h0) (a : Addr) (ss : Addr) (rr : Addr) (Ea : Exa Z h0 a "com/example/vestwright/vestwright/cli/TableRows$ByKey") (D_starts : Fld Z h0 a "com/example/vestwright/vestwright/cli/TableRows$ByKey" "starts" "[I" .null) (D_rows : Fld Z h0 a "com/example/vestwright/vestwright/cli/TableRows$ByKey" "rows" "[I" .null) (ga : n0 ≤ a) :
    MetFree l (⟨"com/example/vestwright/vestwright/cli/TableRows$ByKey", "<init>", "([I[I)V"⟩ : MethodName) (head1 (Jvm.Cond.code (⟨"com/example/vestwright/vestwright/cli/TableRows$ByKey", "<init>", "([I[I)V"⟩ : MethodName) prog_16_method_1_code 3 none :: ws) ({ frames := 1, cells := 0, slots := 0, locals := 12 } : Room)) (fun aq U => aq = #[(.ref a), (.ref ss), (.ref rr)] ∧ Z.Warmed39 U.vm ∧ U.heap = h0) (fun _ _ _ _ _ => True) (fun _ U o U' => ∃ v L, o = .returned v ∧ Q_rm6 Z h0 n0 a ss rr v U'.heap L ∧ FrameEnd U o U' L ({ frames := 1, cells := 0, slots := 0, locals := 12 } : Room).cells ({ frames := 1, cells := 0, slots := 0, locals := 12 } : Room).slots) := by
  refine MetFree.of_bodySF (plainFor_of_name pn_rm6) hisR ?_
  intro p e s m args below meth c s₁ Bd hml0 hP hK
  obtain ⟨rfl, hZ, hh⟩ := hP
  have hx := Bd.exec
  have hby := Bd.bytes
  have hml : c.maxLocals = 3 := hml0
  have hown : s.vm.findClass "com/example/vestwright/vestwright/cli/TableRows$ByKey" = some m.cls := findClass_of_methodNamed Bd.named
  have hnm := (name_of_methodNamed Bd.named Bd.method).1
  have hlk := Bd.notSynchronized
  have hret := Bd.returns
  have X0 : Stand p l e ({ frames := 1, cells := 0, slots := 0, locals := 12 } : Room) s m #[(.ref a), (.ref ss), (.ref rr)] below meth c s₁ [] 0 0 := Stand.of_body Bd
  have e0 : s₁.heap = h0 := by rw [← hh, Bd.state]; rfl
  have N0 := Fr.nil n0
  have K0 := Keep.refl h0 [a]
  refine own_go (S' := (s₁.setTop (mkF m 0 #[.val (.ref a), .val (.ref ss), .val (.ref rr)] []))) (fun tq kq => castTop (ef_rm6 m a ss rr) kq) ?_
  show own_G p e s below (Q_rm6 Z h0 n0 a ss rr) _ _ _
  refine own_go (S' := (s₁.setTop (mkF m 1 #[.val (.ref a), .val (.ref ss), .val (.ref rr)] [(.ref a)]))) (fun tq kq => XS.aloadN X0.here hx rfl (hb hby d6_0) rfl rfl kq) ?_
  obtain ⟨T101, X101, e101, st101⟩ := initO X0 hx hZ hown (hw _ (List.mem_of_getElem? (i := 47) rfl)) (hw _ (List.mem_of_getElem? (i := 9) rfl)) (hw _ (List.mem_of_getElem? (i := 10) rfl)) e0 (g := (mkF m 1 #[.val (.ref a), .val (.ref ss), .val (.ref rr)] [(.ref a)])) rfl (by rw [hml]; rfl) rfl (hb hby d6_1) (by decide) (W := 0) (by show 2 * 0 + _ ≤ _; exact Nat.le_of_eq rfl) (by decide)
  refine own_go (S' := (T101.setTop (mkF m 6 #[.val (.ref a), .val (.ref ss), .val (.ref rr)] [(.ref ss), (.ref a)]))) (fun tq kq => st101 tq (XS.aloadN X101.here hx rfl (hb hby d6_4) rfl rfl (XS.aloadN X101.here hx rfl (hb hby d6_5) rfl rfl kq))) ?_
  obtain ⟨T102, h102, X102, e102, W102, st102⟩ := putF X101 hx hZ hown (host := "") (Or.inl (hw _ (List.mem_of_getElem? (i := 48) rfl))) Via.refl e101 D_starts Ea (Or.inr ⟨(hw _ (List.mem_of_getElem? (i := 49) rfl)), rfl, hnm⟩) (hw _ (List.mem_of_getElem? (i := 42) rfl)) (ty := (.array .int)) (by decide) rfl rfl (g := (mkF m 6 #[.val (.ref a), .val (.ref ss), .val (.ref rr)] [(.ref ss), (.ref a)])) rfl rfl (hb hby d6_6)
  have N102 := Fr.snoc X102 N0 ga
  have O102 := O0.wr W102 ga
  have K102 := K0.wr W102 (Or.inl (List.mem_of_getElem? (i := 0) rfl))
  have F102 := D_starts.same W102
  refine own_go (S' := (T102.setTop (mkF m 11 #[.val (.ref a), .val (.ref ss), .val (.ref rr)] [(.ref rr), (.ref a)]))) (fun tq kq => st102 tq (XS.aloadN X102.here hx rfl (hb hby d6_9) rfl rfl (XS.aloadN X102.here hx rfl (hb hby d6_10) rfl rfl kq))) ?_
  have f103 := (D_rows.other W102 (Or.inr (slot_ne (Or.inr (hw _ (List.mem_of_getElem? (i := 51) rfl))) (Or.inr (hw _ (List.mem_of_getElem? (i := 49) rfl))) (by decide) (t := (.array .int)) (t' := (.array .int)) (by decide) (by decide))))
  have f104 := (Ea.wr W102)
  obtain ⟨T105, h105, X105, e105, W105, st105⟩ := putF X102 hx hZ hown (host := "") (Or.inl (hw _ (List.mem_of_getElem? (i := 50) rfl))) Via.refl e102 f103 f104 (Or.inr ⟨(hw _ (List.mem_of_getElem? (i := 51) rfl)), rfl, hnm⟩) (hw _ (List.mem_of_getElem? (i := 42) rfl)) (ty := (.array .int)) (by decide) rfl rfl (g := (mkF m 11 #[.val (.ref a), .val (.ref ss), .val (.ref rr)] [(.ref rr), (.ref a)])) rfl rfl (hb hby d6_11)
  have N105 := Fr.snoc X105 N102 ga
  have O105 := O102.wr W105 ga
  have K105 := K102.wr W105 (Or.inl (List.mem_of_getElem? (i := 0) rfl))
  have F105 := f103.same W105
  refine own_go (S' := (T105.setTop (mkF m 14 #[.val (.ref a), .val (.ref ss), .val (.ref rr)] []))) (fun tq kq => st105 tq kq) ?_
  refine own_retV X105 hx hlk hret (hb hby d6_14) (by decide) (by decide) ?_
  have f106 := (F102.other W105 (Or.inr (slot_ne (Or.inr (hw _ (List.mem_of_getElem? (i := 49) rfl))) (Or.inr (hw _ (List.mem_of_getElem? (i := 51) rfl))) (by decide) (t := (.array .int)) (t' := (.array .int)) (by decide) (by decide))))
  rw [e105]
  exact ⟨rfl, N105, K105, f106, F105⟩
theorem pn_rm7 : plainName "com/example/vestwright/vestwright/cli/TableRows$ByKey" = true := by first | (simp [plainName, overriddenIn]; done) | decide +kernel
theorem ef_rm7 (m : MethodId) (a : Addr) (kk : Nat) (ss : Addr) (rr : Addr) (kss : ClassId) (krr : ClassId) (sl : List Nat) (rl : List Nat) : entryFrame m #[(.ref a), (.int (Int32.ofNat (kk)))] 2 = mkF m 0 #[.val (.ref a), .val (.int (Int32.ofNat (kk)))] [] := by first | (simp [entryFrame, mkF, argsToLocals, Value.category]; done) | rfl
def Q_rm7 (Z : State) (h0 : Heap) (n0 : Nat) (a : Addr) (kk : Nat) (ss : Addr) (rr : Addr) (kss : ClassId) (krr : ClassId) (sl : List Nat) (rl : List Nat) (v : Option Value) (h : Heap) (L : List Loc) : Prop := ∃ (b : Addr) (kb : ClassId), v = some (.ref b) ∧ Fr n0 L ∧ Keep h0 h [] ∧ h0.size ≤ b ∧ own_Ar Z h b kb .int (own_iv ((rl.drop (sl.getD (kk) 0)).take (sl.getD (kk + 1) 0 - sl.getD (kk) 0)))
set_option maxRecDepth 65536 in
set_option maxHeartbeats 40000000 in
theorem rm7 (l : Launch) (Z : State) (a0 : Array Value) (hw : ∀ d ∈ tables_1, d.before a0 Z = true) (ws : List Jvm.Cond) (h0 : Heap) (n0 : Nat) (O0 : Old Z n0 h0) (a : Addr) (kk : Nat) (ss : Addr) (rr : Addr) (kss : ClassId) (krr : ClassId) (sl : List Nat) (rl : List Nat) (Fs : Fld Z h0 a "com/example/vestwright/vestwright/cli/TableRows$ByKey" "starts" "[I" (.ref ss)) (Fr_ : Fld Z h0 a "com/example/vestwright/vestwright/cli/TableRows$ByKey" "rows" "[I" (.ref rr)) (Vs : own_Ar Z h0 ss kss .int (own_iv sl)) (Vr : own_Ar Z h0 rr krr .int (own_iv rl)) (Er : Exa Z h0 rr "[I") (hk : kk + 1 < sl.length) (hsl : sl.length ≤ 4) (h12 : sl.getD (kk) 0 ≤ sl.getD (kk + 1) 0) (h2l : sl.getD (kk + 1) 0 ≤ rl.length) (hrl : rl.length ≤ 4) :
    MetFree l (⟨"com/example/vestwright/vestwright/cli/TableRows$ByKey", "rows", "(I)[I"⟩ : MethodName) (head1 (Jvm.Cond.code (⟨"com/example/vestwright/vestwright/cli/TableRows$ByKey", "rows", "(I)[I"⟩ : MethodName) prog_16_method_2_code 2 (some (.array .int)) :: ws) ({ frames := 3, cells := 1, slots := 4, locals := 48 } : Room)) (fun aq U => aq = #[(.ref a), (.int (Int32.ofNat (kk)))] ∧ Z.Warmed39 U.vm ∧ U.heap = h0) (fun _ _ _ _ _ => True) (fun _ U o U' => ∃ v L, o = .returned v ∧ Q_rm7 Z h0 n0 a kk ss rr kss krr sl rl v U'.heap L ∧ FrameEnd U o U' L ({ frames := 3, cells := 1, slots := 4, locals := 48 } : Room).cells ({ frames := 3, cells := 1, slots := 4, locals := 48 } : Room).slots) := by
  refine MetFree.of_bodySF (plainFor_of_name pn_rm7) hisR ?_
  intro p e s m args below meth c s₁ Bd hml0 hP hK
  obtain ⟨rfl, hZ, hh⟩ := hP
  have hx := Bd.exec
  have hby := Bd.bytes
  have hml : c.maxLocals = 2 := hml0
  have hown : s.vm.findClass "com/example/vestwright/vestwright/cli/TableRows$ByKey" = some m.cls := findClass_of_methodNamed Bd.named
  have hnm := (name_of_methodNamed Bd.named Bd.method).1
  have hlk := Bd.notSynchronized
  have hret := Bd.returns
  have X0 : Stand p l e ({ frames := 3, cells := 1, slots := 4, locals := 48 } : Room) s m #[(.ref a), (.int (Int32.ofNat (kk)))] below meth c s₁ [] 0 0 := Stand.of_body Bd
  have e0 : s₁.heap = h0 := by rw [← hh, Bd.state]; rfl
  have N0 := Fr.nil n0
  have K0 := Keep.refl h0 []
  refine own_go (S' := (s₁.setTop (mkF m 0 #[.val (.ref a), .val (.int (Int32.ofNat (kk)))] []))) (fun tq kq => castTop (ef_rm7 m a kk ss rr kss krr sl rl) kq) ?_
  show own_G p e s below (Q_rm7 Z h0 n0 a kk ss rr kss krr sl rl) _ _ _
  refine own_go (S' := (s₁.setTop (mkF m 1 #[.val (.ref a), .val (.int (Int32.ofNat (kk)))] [(.ref a)]))) (fun tq kq => XS.aloadN X0.here hx rfl (hb hby d7_0) rfl rfl kq) ?_
  obtain ⟨T101, X101, e101, st101⟩ := getF X0 hx hZ hown (host := "") (Or.inl (hw _ (List.mem_of_getElem? (i := 50) rfl))) Via.refl e0 Fr_ (g := (mkF m 1 #[.val (.ref a), .val (.int (Int32.ofNat (kk)))] [(.ref a)])) rfl rfl (hb hby d7_1)
  refine own_go (S' := (T101.setTop (mkF m 5 #[.val (.ref a), .val (.int (Int32.ofNat (kk)))] [(.ref a), (.ref rr)]))) (fun tq kq => st101 tq (XS.aloadN X101.here hx rfl (hb hby d7_4) rfl rfl kq)) ?_
  obtain ⟨T102, X102, e102, st102⟩ := getF X101 hx hZ hown (host := "") (Or.inl (hw _ (List.mem_of_getElem? (i := 48) rfl))) Via.refl e101 Fs (g := (mkF m 5 #[.val (.ref a), .val (.int (Int32.ofNat (kk)))] [(.ref a), (.ref rr)])) rfl rfl (hb hby d7_5)
  refine own_go (S' := (T102.setTop (mkF m 9 #[.val (.ref a), .val (.int (Int32.ofNat (kk)))] [(.int (Int32.ofNat (kk))), (.ref ss), (.ref rr)]))) (fun tq kq => st102 tq (XS.iloadN X102.here hx rfl (hb hby d7_8) rfl kq)) ?_
  obtain ⟨cl103, Ar103, -, -, hin103, hat103⟩ := Vs.at (j := (Int32.ofNat (kk))) (v := (.int (Int32.ofNat (sl.getD (kk) 0)))) (own_pos (by omega)) (by rw [own_clamp (by omega)]; exact own_ivget (by omega))
  refine own_go (S' := (T102.setTop (mkF m 11 #[.val (.ref a), .val (.int (Int32.ofNat (kk)))] [(.ref a), (.int (Int32.ofNat (sl.getD (kk) 0))), (.ref rr)]))) (fun tq kq => X102.iaload hx (j := (Int32.ofNat (kk))) (v := (.int (Int32.ofNat (sl.getD (kk) 0)))) (by rw [e102]; exact Ar103.1) (State.isArrayOf_alike hZ.alike Ar103.2.1) Ar103.2.2 hin103 hat103 (g := (mkF m 9 #[.val (.ref a), .val (.int (Int32.ofNat (kk)))] [(.int (Int32.ofNat (kk))), (.ref ss), (.ref rr)])) rfl rfl (hb hby d7_9) tq (XS.aloadN X102.here hx rfl (hb hby d7_10) rfl rfl kq)) ?_
  obtain ⟨T104, X104, e104, st104⟩ := getF X102 hx hZ hown (host := "") (Or.inl (hw _ (List.mem_of_getElem? (i := 48) rfl))) Via.refl e102 Fs (g := (mkF m 11 #[.val (.ref a), .val (.int (Int32.ofNat (kk)))] [(.ref a), (.int (Int32.ofNat (sl.getD (kk) 0))), (.ref rr)])) rfl rfl (hb hby d7_11)
  refine own_go (S' := (T104.setTop (mkF m 17 #[.val (.ref a), .val (.int (Int32.ofNat (kk)))] [(.int ((Int32.ofNat (kk)) + (1 : Int32))), (.ref ss), (.int (Int32.ofNat (sl.getD (kk) 0))), (.ref rr)]))) (fun tq kq => st104 tq (XS.iloadN X104.here hx rfl (hb hby d7_14) rfl (XS.iconst X104.here hx rfl (hb hby d7_15) (XS.iadd X104.here hx rfl (hb hby d7_16) rfl kq)))) ?_
  rw [own_succ kk]
  obtain ⟨cl105, Ar105, -, -, hin105, hat105⟩ := Vs.at (j := (Int32.ofNat (kk + 1))) (v := (.int (Int32.ofNat (sl.getD (kk + 1) 0)))) (own_pos (by omega)) (by rw [own_clamp (by omega)]; exact own_ivget (by omega))
  refine own_go (S' := (T104.setTop (mkF m 18 #[.val (.ref a), .val (.int (Int32.ofNat (kk)))] [(.int (Int32.ofNat (sl.getD (kk + 1) 0))), (.int (Int32.ofNat (sl.getD (kk) 0))), (.ref rr)]))) (fun tq kq => X104.iaload hx (j := (Int32.ofNat (kk + 1))) (v := (.int (Int32.ofNat (sl.getD (kk + 1) 0)))) (by rw [e104]; exact Ar105.1) (State.isArrayOf_alike hZ.alike Ar105.2.1) Ar105.2.2 hin105 hat105 (g := (mkF m 17 #[.val (.ref a), .val (.int (Int32.ofNat (kk)))] [(.int (Int32.ofNat (kk + 1))), (.ref ss), (.int (Int32.ofNat (sl.getD (kk) 0))), (.ref rr)])) rfl rfl (hb hby d7_17) tq kq) ?_
  obtain ⟨_, _, ⟨T106, L106, k106, n106⟩, -, X106, ⟨Lc106, hQ106, l106, y106, z106⟩, st106⟩ := Jvm.LawKit.callS X104 hx (y := (⟨"java/util/Arrays", "copyOfRange", "([III)[I"⟩ : MethodName)) hown (mvT hZ (hw _ (List.mem_of_getElem? (i := 57) rfl))) (mvT hZ (hw _ (List.mem_of_getElem? (i := 58) rfl))) (mvT hZ (hw _ (List.mem_of_getElem? (i := 31) rfl))) (mvT hZ (hw _ (List.mem_of_getElem? (i := 59) rfl))) (by decide) (backOf (W := 0) (rm8 l Z a0 hw [] h0 n0 O0 rr krr rl (sl.getD (kk) 0) (sl.getD (kk + 1) 0) Vr Er h12 h2l hrl) hZ (hw _ (List.mem_of_getElem? (i := 59) rfl)) (hw _ (List.mem_of_getElem? (i := 31) rfl)) (by decide) (by decide)) (g := (mkF m 18 #[.val (.ref a), .val (.int (Int32.ofNat (kk)))] [(.int (Int32.ofNat (sl.getD (kk + 1) 0))), (.int (Int32.ofNat (sl.getD (kk) 0))), (.ref rr)])) rfl (by rw [hml]; rfl) (argsL := [(.ref rr), (.int (Int32.ofNat (sl.getD (kk) 0))), (.int (Int32.ofNat (sl.getD (kk + 1) 0)))]) (rest := []) (lenOf pd_3 rfl) rfl (by show 2 * 0 + _ ≤ _; exact Nat.le_of_eq rfl) (hb hby d7_18) (fun _ _ => ⟨rfl, e104, (by decide : 0 + 1 ≤ _), (by decide : 0 + 4 ≤ _)⟩)
  dsimp only [Pt.U, Pt.locs, Pt.cells, Pt.slots] at X106 l106 y106 z106 st106 hQ106
  subst l106 y106 z106
  obtain ⟨b106, kb106, rfl, N106, K106, gb106, V106⟩ := hQ106
  have Nf106 := Fr.app N0 N106
  have O106 := O0.keep K106 all0
  have KK106 := K0.trans K106 all0
  have ne_a_b106 : a ≠ b106 := Nat.ne_of_lt (Nat.lt_of_lt_of_le Fs.lt gb106)
  have ne_rr_b106 : rr ≠ b106 := Nat.ne_of_lt (Nat.lt_of_lt_of_le Vr.lt gb106)
  have ne_ss_b106 : ss ≠ b106 := Nat.ne_of_lt (Nat.lt_of_lt_of_le Vs.lt gb106)
  have ge_b106 : n0 ≤ b106 := Nat.le_trans (own_osz O0) gb106
  have gk_b106 : h0.size ≤ b106 := Nat.le_trans K0.1 gb106
  refine own_go (S' := (T106.setTop (mkF m 21 #[.val (.ref a), .val (.int (Int32.ofNat (kk)))] [(.ref b106)]))) (fun tq kq => st106 tq kq) ?_
  refine own_retA X106 hx hlk hret rfl rfl (hb hby d7_21) (by decide) (by decide) ?_
  exact ⟨b106, _, rfl, Nf106, KK106, gk_b106, V106⟩
set_option maxRecDepth 65536 in
set_option maxHeartbeats 40000000 in
theorem loop77 {p : Program} {l : Launch} {e : Env} {s : State} {m : MethodId} {args : Array Value} {below : List Frame} {meth : Method} {c : Code} {Z : State} {a0 : Array Value} {h0 : Heap} {n0 : Nat} (hlk : meth.locks = false) (hret : meth.sig.returnType = some (.object "com/example/vestwright/vestwright/cli/TableRows$ByKey")) (hx : p.tables.exec = Jvm.exec) (hZ : Z.Warmed39 s.vm) (hw : ∀ d ∈ tables_1, d.before a0 Z = true) (hby : c.code = prog_15_method_6_code) (hml : c.maxLocals = 6) (hown : s.vm.findClass "com/example/vestwright/vestwright/cli/TableRows" = some m.cls) (hnm : meth.name = "byKey") (t : Addr) (bb : Addr) (bs : Addr) (bk : Addr) (k1 : ClassId) (k2 : ClassId) (k3 : ClassId) (ks : List Nat) (kn : Nat) (hk1 : 1 ≤ kn) (hk3 : kn ≤ 3) (hl : ks.length ≤ 4) (hks : ∀ x ∈ ks, x < kn) (hck : own_chk kn ks = true) (ss : Addr) (nx : Addr) (rr : Addr) (kss : ClassId) (knx : ClassId) (krr : ClassId) (gnx : n0 ≤ nx) (gknx : h0.size ≤ nx) (grr : n0 ≤ rr) (gkrr : h0.size ≤ rr) (gkss : h0.size ≤ ss) (nq7 : nx ≠ rr) (nq8 : nx ≠ ss) (nq9 : rr ≠ ss) (nx_t : t ≠ nx) (nx_bb : bb ≠ nx) (nx_bs : bs ≠ nx) (nx_bk : bk ≠ nx) (rr_t : t ≠ rr) (rr_bb : bb ≠ rr) (rr_bs : bs ≠ rr) (rr_bk : bk ≠ rr) :
    ∀ (kt : Nat) (i : Nat), i + kt = ks.length → ∀ {Tp : State} {locs : List Loc} {hp : Heap} (Xp : Stand p l e ({ frames := 3, cells := 5, slots := 20, locals := 60 } : Room) s m args below meth c Tp locs 3 12) (ep : Tp.heap = hp) (Np : Fr n0 locs) (Op : Old Z n0 hp) (Kp : Keep h0 hp []) (TRh : own_TR Z hp t bb bs bk k1 k2 k3 ks) (Vss : own_Ar Z hp ss kss .int (own_iv (own_st kn ks))) (Vnx : own_Ar Z hp nx knx .int (own_iv (own_p3 kn ks i).1)) (Vrr : own_Ar Z hp rr krr .int (own_iv (own_p3 kn ks i).2)) (Err : Exa Z hp rr "[I"), own_G p e s below (fun v h L => ∃ (g ss rr : Addr) (kss krr : ClassId), v = some (.ref g) ∧ Fr n0 L ∧ Keep h0 h [] ∧ h0.size ≤ g ∧ h0.size ≤ ss ∧ h0.size ≤ rr ∧ Exa Z h g "com/example/vestwright/vestwright/cli/TableRows$ByKey" ∧ Fld Z h g "com/example/vestwright/vestwright/cli/TableRows$ByKey" "starts" "[I" (.ref ss) ∧ Fld Z h g "com/example/vestwright/vestwright/cli/TableRows$ByKey" "rows" "[I" (.ref rr) ∧ own_Ar Z h ss kss .int (own_iv (own_st kn ks)) ∧ own_Ar Z h rr krr .int (own_iv (own_rw kn ks)) ∧ Exa Z h rr "[I") ({ frames := 3, cells := 5, slots := 20, locals := 60 } : Room).cells ({ frames := 3, cells := 5, slots := 20, locals := 60 } : Room).slots (Tp.setTop (mkF m 77 #[.val (.ref t), .val (.int (Int32.ofNat (kn))), .val (.ref ss), .val (.ref nx), .val (.ref rr), .val (.int (Int32.ofNat i))] [])) := by
  intro kt
  induction kt with
  | zero =>
    intro i  hi Tp locs hp Xp ep Np Op Kp TRh Vss Vnx Vrr Err
    obtain ⟨⟨Et, Fw, Fb, Fu, Fs, Fk, Fz⟩, ⟨Vb, Vs, Vk⟩, nq1, nq2, nq3, nq4, nq5, nq6⟩ := TRh
    have hp1 := own_p1len kn ks
    have hp2 := own_p2len kn ks
    have hp3 := own_p3len kn ks
    have hnl : ¬ (Int32.ofNat i < Int32.ofNat ks.length) := by rw [own_lt (by omega) (by omega)]; omega
    refine own_go (S' := (Tp.setTop (mkF m 80 #[.val (.ref t), .val (.int (Int32.ofNat (kn))), .val (.ref ss), .val (.ref nx), .val (.ref rr), .val (.int (Int32.ofNat i))] [(.ref t), (.int (Int32.ofNat i))]))) (fun tq kq => XS.iload Xp.here hx rfl (hb hby d3_77) rfl (XS.aloadN Xp.here hx rfl (hb hby d3_79) rfl rfl kq)) ?_
    obtain ⟨T101, X101, e101, st101⟩ := getF Xp hx hZ hown (host := "") (Or.inl (hw _ (List.mem_of_getElem? (i := 27) rfl))) Via.refl ep Fz (g := (mkF m 80 #[.val (.ref t), .val (.int (Int32.ofNat (kn))), .val (.ref ss), .val (.ref nx), .val (.ref rr), .val (.int (Int32.ofNat i))] [(.ref t), (.int (Int32.ofNat i))])) rfl rfl (hb hby d3_80)
    refine own_go (S' := (T101.setTop (mkF m 111 #[.val (.ref t), .val (.int (Int32.ofNat (kn))), .val (.ref ss), .val (.ref nx), .val (.ref rr), .val (.int (Int32.ofNat i))] []))) (fun tq kq => st101 tq (XS.icmpYes X101.here hx rfl (pc0 := 83) (pc' := 111) rfl (hb hby d3_83) rfl (flt hnl).2.1 (by decide) (by decide) kq)) ?_
    obtain ⟨T102, h102, X102, e102, E102, A102, D102, -, st102⟩ := newO X101 hx hZ hown (hw _ (List.mem_of_getElem? (i := 41) rfl)) (hw _ (List.mem_of_getElem? (i := 42) rfl)) (hw _ (List.mem_of_getElem? (i := 43) rfl)) e101 (g := (mkF m 111 #[.val (.ref t), .val (.int (Int32.ofNat (kn))), .val (.ref ss), .val (.ref nx), .val (.ref rr), .val (.int (Int32.ofNat i))] [])) rfl (hb hby d3_111) (by decide) (by decide)
    obtain ⟨b102, g102⟩ : ∃ z, z = hp.size := ⟨_, rfl⟩
    rw [← g102] at A102 D102 st102
    have ne_bb_b102 : bb ≠ b102 := Nat.ne_of_lt (Nat.lt_of_lt_of_le Vb.lt (Nat.le_of_eq g102.symm))
    have ne_bk_b102 : bk ≠ b102 := Nat.ne_of_lt (Nat.lt_of_lt_of_le Vk.lt (Nat.le_of_eq g102.symm))
    have ne_bs_b102 : bs ≠ b102 := Nat.ne_of_lt (Nat.lt_of_lt_of_le Vs.lt (Nat.le_of_eq g102.symm))
    have ne_nx_b102 : nx ≠ b102 := Nat.ne_of_lt (Nat.lt_of_lt_of_le Vnx.lt (Nat.le_of_eq g102.symm))
    have ne_rr_b102 : rr ≠ b102 := Nat.ne_of_lt (Nat.lt_of_lt_of_le Vrr.lt (Nat.le_of_eq g102.symm))
    have ne_ss_b102 : ss ≠ b102 := Nat.ne_of_lt (Nat.lt_of_lt_of_le Vss.lt (Nat.le_of_eq g102.symm))
    have ne_t_b102 : t ≠ b102 := Nat.ne_of_lt (Nat.lt_of_lt_of_le Et.lt (Nat.le_of_eq g102.symm))
    have ge_b102 : n0 ≤ b102 := Nat.le_trans (own_osz Op) (Nat.le_of_eq g102.symm)
    have gk_b102 : h0.size ≤ b102 := Nat.le_trans Kp.1 (Nat.le_of_eq g102.symm)
    have O102 := Op.ext E102
    have K102 := Kp.ext E102
    have F_starts_b102 : Fld Z h102 b102 "com/example/vestwright/vestwright/cli/TableRows$ByKey" "starts" "[I" .null := D102 (Or.inr (hw _ (List.mem_of_getElem? (i := 49) rfl))) (ty := (.array .int)) (by decide)
    have F_rows_b102 : Fld Z h102 b102 "com/example/vestwright/vestwright/cli/TableRows$ByKey" "rows" "[I" .null := D102 (Or.inr (hw _ (List.mem_of_getElem? (i := 51) rfl))) (ty := (.array .int)) (by decide)
    refine own_go (S' := (T102.setTop (mkF m 118 #[.val (.ref t), .val (.int (Int32.ofNat (kn))), .val (.ref ss), .val (.ref nx), .val (.ref rr), .val (.int (Int32.ofNat i))] [(.ref rr), (.ref ss), (.ref b102), (.ref b102)]))) (fun tq kq => st102 tq (XS.dup X102.here hx rfl (hb hby d3_114) rfl rfl (XS.aloadN X102.here hx rfl (hb hby d3_115) rfl rfl (XS.aload X102.here hx rfl (hb hby d3_116) rfl rfl kq)))) ?_
    obtain ⟨_, _, ⟨T103, L103, k103, n103⟩, -, X103, ⟨Lc103, hQ103, l103, y103, z103⟩, st103⟩ := own_refBack X102 hx hZ (y := (⟨"com/example/vestwright/vestwright/cli/TableRows$ByKey", "<init>", "([I[I)V"⟩ : MethodName)) rfl hown (hw _ (List.mem_of_getElem? (i := 44) rfl)) (mvT hZ (hw _ (List.mem_of_getElem? (i := 45) rfl))) (mvT hZ (hw _ (List.mem_of_getElem? (i := 46) rfl))) (by decide) (backOf (W := 1) (rm6 l Z a0 hw [] h102 n0 O102 b102 ss rr A102 F_starts_b102 F_rows_b102 ge_b102) hZ (hw _ (List.mem_of_getElem? (i := 46) rfl)) (hw _ (List.mem_of_getElem? (i := 43) rfl)) (by decide) (by decide)) (g := (mkF m 118 #[.val (.ref t), .val (.int (Int32.ofNat (kn))), .val (.ref ss), .val (.ref nx), .val (.ref rr), .val (.int (Int32.ofNat i))] [(.ref rr), (.ref ss), (.ref b102), (.ref b102)])) rfl (by rw [hml]; rfl) (Steps.refl _) (a := b102) (argsL := [(.ref ss), (.ref rr)]) (rest := [(.ref b102)]) (lenOf pd_4 rfl) rfl (by show 2 * 0 + _ ≤ _; exact Nat.le_of_eq rfl) (hb hby d3_118) (fun _ _ => ⟨rfl, e102, (by decide : 4 + 0 ≤ _), (by decide : 14 + 0 ≤ _)⟩)
    dsimp only [Pt.U, Pt.locs, Pt.cells, Pt.slots] at X103 l103 y103 z103 st103 hQ103
    subst l103 y103 z103
    obtain ⟨rfl, N103, K103, F1103, F2103⟩ := hQ103
    have Nf103 := Fr.app Np N103
    have O103 := O102.keep K103 (allS ge_b102 all0)
    have KK103 := K102.trans K103 (allS (Or.inr gk_b102) all0)
    refine own_go (S' := (T103.setTop (mkF m 121 #[.val (.ref t), .val (.int (Int32.ofNat (kn))), .val (.ref ss), .val (.ref nx), .val (.ref rr), .val (.int (Int32.ofNat i))] [(.ref b102)]))) (fun tq kq => st103.trans kq) ?_
    refine own_retA X103 hx hlk hret rfl rfl (hb hby d3_121) (by decide) (by decide) ?_
    have f104 := (A102.keep K103)
    have f105 := ((Vss.ext E102).keep K103 (ninS ne_ss_b102 nin0))
    have f106 := ((Vrr.ext E102).keep K103 (ninS ne_rr_b102 nin0))
    have f107 := ((Err.ext E102).keep K103)
    have hi2 : i = ks.length := by omega
    subst hi2
    exact ⟨b102, ss, rr, kss, krr, rfl, Nf103, KK103, gk_b102, gkss, gkrr, f104, F1103, F2103, f105, f106, f107⟩
  | succ kt ih =>
    intro i  hi Tp locs hp Xp ep Np Op Kp TRh Vss Vnx Vrr Err
    obtain ⟨⟨Et, Fw, Fb, Fu, Fs, Fk, Fz⟩, ⟨Vb, Vs, Vk⟩, nq1, nq2, nq3, nq4, nq5, nq6⟩ := TRh
    have hp1 := own_p1len kn ks
    have hp2 := own_p2len kn ks
    have hp3 := own_p3len kn ks
    have hlt : Int32.ofNat i < Int32.ofNat ks.length := by rw [own_lt (by omega) (by omega)]; omega
    have hgd := own_gd hks (show i < ks.length by omega)
    refine own_go (S' := (Tp.setTop (mkF m 80 #[.val (.ref t), .val (.int (Int32.ofNat (kn))), .val (.ref ss), .val (.ref nx), .val (.ref rr), .val (.int (Int32.ofNat i))] [(.ref t), (.int (Int32.ofNat i))]))) (fun tq kq => XS.iload Xp.here hx rfl (hb hby d3_77) rfl (XS.aloadN Xp.here hx rfl (hb hby d3_79) rfl rfl kq)) ?_
    obtain ⟨T101, X101, e101, st101⟩ := getF Xp hx hZ hown (host := "") (Or.inl (hw _ (List.mem_of_getElem? (i := 27) rfl))) Via.refl ep Fz (g := (mkF m 80 #[.val (.ref t), .val (.int (Int32.ofNat (kn))), .val (.ref ss), .val (.ref nx), .val (.ref rr), .val (.int (Int32.ofNat i))] [(.ref t), (.int (Int32.ofNat i))])) rfl rfl (hb hby d3_80)
    refine own_go (S' := (T101.setTop (mkF m 90 #[.val (.ref t), .val (.int (Int32.ofNat (kn))), .val (.ref ss), .val (.ref nx), .val (.ref rr), .val (.int (Int32.ofNat i))] [(.ref t), (.ref nx), (.ref rr)]))) (fun tq kq => st101 tq (XS.icmpNo X101.here hx rfl (hb hby d3_83) rfl (tlt hlt).2.1 (XS.aload X101.here hx rfl (hb hby d3_86) rfl rfl (XS.aloadN X101.here hx rfl (hb hby d3_88) rfl rfl (XS.aloadN X101.here hx rfl (hb hby d3_89) rfl rfl kq))))) ?_
    obtain ⟨T102, X102, e102, st102⟩ := getF X101 hx hZ hown (host := "") (Or.inl (hw _ (List.mem_of_getElem? (i := 16) rfl))) Via.refl e101 Fk (g := (mkF m 90 #[.val (.ref t), .val (.int (Int32.ofNat (kn))), .val (.ref ss), .val (.ref nx), .val (.ref rr), .val (.int (Int32.ofNat i))] [(.ref t), (.ref nx), (.ref rr)])) rfl rfl (hb hby d3_90)
    refine own_go (S' := (T102.setTop (mkF m 95 #[.val (.ref t), .val (.int (Int32.ofNat (kn))), .val (.ref ss), .val (.ref nx), .val (.ref rr), .val (.int (Int32.ofNat i))] [(.int (Int32.ofNat i)), (.ref bk), (.ref nx), (.ref rr)]))) (fun tq kq => st102 tq (XS.iload X102.here hx rfl (hb hby d3_93) rfl kq)) ?_
    obtain ⟨cl103, Ar103, -, -, hin103, hat103⟩ := Vk.at (j := (Int32.ofNat i)) (v := (.int (Int32.ofNat (ks.getD i 0)))) (own_pos (by omega)) (by rw [own_clamp (by omega)]; exact own_klget (by omega))
    refine own_go (S' := (T102.setTop (mkF m 97 #[.val (.ref t), .val (.int (Int32.ofNat (kn))), .val (.ref ss), .val (.ref nx), .val (.ref rr), .val (.int (Int32.ofNat i))] [(.int (Int32.ofNat (ks.getD i 0))), (.ref nx), (.int (Int32.ofNat (ks.getD i 0))), (.ref nx), (.ref rr)]))) (fun tq kq => X102.iaload hx (j := (Int32.ofNat i)) (v := (.int (Int32.ofNat (ks.getD i 0)))) (by rw [e102]; exact Ar103.1) (State.isArrayOf_alike hZ.alike Ar103.2.1) Ar103.2.2 hin103 hat103 (g := (mkF m 95 #[.val (.ref t), .val (.int (Int32.ofNat (kn))), .val (.ref ss), .val (.ref nx), .val (.ref rr), .val (.int (Int32.ofNat i))] [(.int (Int32.ofNat i)), (.ref bk), (.ref nx), (.ref rr)])) rfl rfl (hb hby d3_95) tq (Jvm.Free.XT.dup2 X102.here hx rfl (hb hby d3_96) rfl rfl rfl kq)) ?_
    obtain ⟨cl104, Ar104, -, -, hin104, hat104⟩ := Vnx.at (j := (Int32.ofNat (ks.getD i 0))) (v := (.int (Int32.ofNat ((own_p3 kn ks i).1.getD (ks.getD i 0) 0)))) (own_pos (by omega)) (by rw [own_clamp (by omega)]; exact own_ivget (by rw [(hp3 i).1]; omega))
    refine own_go (S' := (T102.setTop (mkF m 99 #[.val (.ref t), .val (.int (Int32.ofNat (kn))), .val (.ref ss), .val (.ref nx), .val (.ref rr), .val (.int (Int32.ofNat i))] [(.int (Int32.ofNat ((own_p3 kn ks i).1.getD (ks.getD i 0) 0))), (.int (Int32.ofNat (ks.getD i 0))), (.ref nx), (.int (Int32.ofNat ((own_p3 kn ks i).1.getD (ks.getD i 0) 0))), (.ref rr)]))) (fun tq kq => X102.iaload hx (j := (Int32.ofNat (ks.getD i 0))) (v := (.int (Int32.ofNat ((own_p3 kn ks i).1.getD (ks.getD i 0) 0)))) (by rw [e102]; exact Ar104.1) (State.isArrayOf_alike hZ.alike Ar104.2.1) Ar104.2.2 hin104 hat104 (g := (mkF m 97 #[.val (.ref t), .val (.int (Int32.ofNat (kn))), .val (.ref ss), .val (.ref nx), .val (.ref rr), .val (.int (Int32.ofNat i))] [(.int (Int32.ofNat (ks.getD i 0))), (.ref nx), (.int (Int32.ofNat (ks.getD i 0))), (.ref nx), (.ref rr)])) rfl rfl (hb hby d3_97) tq (by jvm_step X102.here [X102.here.top, hx, (hb hby d3_98), Value.category]; exact kq)) ?_
    refine own_go (S' := (T102.setTop (mkF m 101 #[.val (.ref t), .val (.int (Int32.ofNat (kn))), .val (.ref ss), .val (.ref nx), .val (.ref rr), .val (.int (Int32.ofNat i))] [(.int ((Int32.ofNat ((own_p3 kn ks i).1.getD (ks.getD i 0) 0)) + (1 : Int32))), (.int (Int32.ofNat (ks.getD i 0))), (.ref nx), (.int (Int32.ofNat ((own_p3 kn ks i).1.getD (ks.getD i 0) 0))), (.ref rr)]))) (fun tq kq => XS.iconst X102.here hx rfl (hb hby d3_99) (XS.iadd X102.here hx rfl (hb hby d3_100) rfl kq)) ?_
    rw [own_succ ((own_p3 kn ks i).1.getD (ks.getD i 0) 0)]
    obtain ⟨cl105, Ar105, qa105, sa105, hin105, -⟩ := Vnx.at (j := (Int32.ofNat (ks.getD i 0))) (own_pos (by omega)) (by rw [own_clamp (by omega)]; exact own_ivget (by rw [(hp3 i).1]; omega))
    obtain ⟨T105, h105, X105, e105, W105, st105⟩ := stI X102 hx hZ e102 Ar105 (j := (Int32.ofNat (ks.getD i 0))) hin105 (g := (mkF m 101 #[.val (.ref t), .val (.int (Int32.ofNat (kn))), .val (.ref ss), .val (.ref nx), .val (.ref rr), .val (.int (Int32.ofNat i))] [(.int (Int32.ofNat ((own_p3 kn ks i).1.getD (ks.getD i 0) 0 + 1))), (.int (Int32.ofNat (ks.getD i 0))), (.ref nx), (.int (Int32.ofNat ((own_p3 kn ks i).1.getD (ks.getD i 0) 0))), (.ref rr)])) rfl rfl (hb hby d3_101)
    have N105 := Fr.snoc X105 Np gnx
    have O105 := Op.wr W105 gnx
    have K105 := Kp.wr W105 (Or.inr gknx)
    have V105 : own_Ar Z h105 nx knx .int (own_iv (own_p3 kn ks (i + 1)).1) := (by have q := (own_Ar.set Ar105 qa105 sa105 Vnx.small W105); rw [own_clamp (by omega), own_ivset] at q; exact q)
    refine own_go (S' := (T105.setTop (mkF m 104 #[.val (.ref t), .val (.int (Int32.ofNat (kn))), .val (.ref ss), .val (.ref nx), .val (.ref rr), .val (.int (Int32.ofNat i))] [(.int (Int32.ofNat i)), (.int (Int32.ofNat ((own_p3 kn ks i).1.getD (ks.getD i 0) 0))), (.ref rr)]))) (fun tq kq => st105 tq (XS.iload X105.here hx rfl (hb hby d3_102) rfl kq)) ?_
    have hix := own_chk1 hck (show i < ks.length by omega)
    have f106 := (Vrr.other W105 (Ne.symm nq7))
    obtain ⟨cl107, Ar107, qa107, sa107, hin107, -⟩ := f106.at (j := (Int32.ofNat ((own_p3 kn ks i).1.getD (ks.getD i 0) 0))) (own_pos (by omega)) (by rw [own_clamp (by omega)]; exact own_ivget (by rw [(hp3 i).2]; omega))
    obtain ⟨T107, h107, X107, e107, W107, st107⟩ := stI X105 hx hZ e105 Ar107 (j := (Int32.ofNat ((own_p3 kn ks i).1.getD (ks.getD i 0) 0))) hin107 (g := (mkF m 104 #[.val (.ref t), .val (.int (Int32.ofNat (kn))), .val (.ref ss), .val (.ref nx), .val (.ref rr), .val (.int (Int32.ofNat i))] [(.int (Int32.ofNat i)), (.int (Int32.ofNat ((own_p3 kn ks i).1.getD (ks.getD i 0) 0))), (.ref rr)])) rfl rfl (hb hby d3_104)
    have N107 := Fr.snoc X107 N105 grr
    have O107 := O105.wr W107 grr
    have K107 := K105.wr W107 (Or.inr gkrr)
    have V107 : own_Ar Z h107 rr krr .int (own_iv (own_p3 kn ks (i + 1)).2) := (by have q := (own_Ar.set Ar107 qa107 sa107 f106.small W107); rw [own_clamp (by omega), own_ivset] at q; exact q)
    refine own_go (S' := (T107.setTop (mkF m 77 #[.val (.ref t), .val (.int (Int32.ofNat (kn))), .val (.ref ss), .val (.ref nx), .val (.ref rr), .val (.int ((Int32.ofNat i) + (1 : Int32)))] []))) (fun tq kq => st107 tq (XS.iinc X107.here hx rfl (hb hby d3_105) rfl (l' := #[.val (.ref t), .val (.int (Int32.ofNat (kn))), .val (.ref ss), .val (.ref nx), .val (.ref rr), .val (.int ((Int32.ofNat i) + (1 : Int32)))]) rfl (XS.goto X107.here hx rfl (pc0 := 108) (pc' := 77) rfl (hb hby d3_108) (by decide) (by decide) kq))) ?_
    rw [own_succ i]
    have f108 := ((Et.wr W105).wr W107)
    have f109 := ((Fw.other W105 (Or.inl nx_t)).other W107 (Or.inl rr_t))
    have f110 := ((Fb.other W105 (Or.inl nx_t)).other W107 (Or.inl rr_t))
    have f111 := ((Fu.other W105 (Or.inl nx_t)).other W107 (Or.inl rr_t))
    have f112 := ((Fs.other W105 (Or.inl nx_t)).other W107 (Or.inl rr_t))
    have f113 := ((Fk.other W105 (Or.inl nx_t)).other W107 (Or.inl rr_t))
    have f114 := ((Fz.other W105 (Or.inl nx_t)).other W107 (Or.inl rr_t))
    have f115 := ((Vb.other W105 nx_bb).other W107 rr_bb)
    have f116 := ((Vs.other W105 nx_bs).other W107 rr_bs)
    have f117 := ((Vk.other W105 nx_bk).other W107 rr_bk)
    have f118 := ((Vss.other W105 (Ne.symm nq8)).other W107 (Ne.symm nq9))
    have f119 := (V105.other W107 nq7)
    have f120 := ((Err.wr W105).wr W107)
    exact ih (i + 1) (by omega) X107 e107 N107 O107 K107 ⟨⟨f108, f109, f110, f111, f112, f113, f114⟩, ⟨f115, f116, f117⟩, nq1, nq2, nq3, nq4, nq5, nq6⟩ f118 f119 V107 f120
set_option maxRecDepth 65536 in
set_option maxHeartbeats 40000000 in
theorem loop38 {p : Program} {l : Launch} {e : Env} {s : State} {m : MethodId} {args : Array Value} {below : List Frame} {meth : Method} {c : Code} {Z : State} {a0 : Array Value} {h0 : Heap} {n0 : Nat} (hlk : meth.locks = false) (hret : meth.sig.returnType = some (.object "com/example/vestwright/vestwright/cli/TableRows$ByKey")) (hx : p.tables.exec = Jvm.exec) (hZ : Z.Warmed39 s.vm) (hw : ∀ d ∈ tables_1, d.before a0 Z = true) (hby : c.code = prog_15_method_6_code) (hml : c.maxLocals = 6) (hown : s.vm.findClass "com/example/vestwright/vestwright/cli/TableRows" = some m.cls) (hnm : meth.name = "byKey") (t : Addr) (bb : Addr) (bs : Addr) (bk : Addr) (k1 : ClassId) (k2 : ClassId) (k3 : ClassId) (ks : List Nat) (kn : Nat) (hk1 : 1 ≤ kn) (hk3 : kn ≤ 3) (hl : ks.length ≤ 4) (hks : ∀ x ∈ ks, x < kn) (hck : own_chk kn ks = true) (ss : Addr) (kss : ClassId) (gss : n0 ≤ ss) (gkss : h0.size ≤ ss) (ss_t : t ≠ ss) (ss_bb : bb ≠ ss) (ss_bs : bs ≠ ss) (ss_bk : bk ≠ ss) :
    ∀ (kt : Nat) (i : Nat), i + kt = kn → ∀ {Tp : State} {locs : List Loc} {hp : Heap} (Xp : Stand p l e ({ frames := 3, cells := 5, slots := 20, locals := 60 } : Room) s m args below meth c Tp locs 1 4) (ep : Tp.heap = hp) (Np : Fr n0 locs) (Op : Old Z n0 hp) (Kp : Keep h0 hp []) (TRh : own_TR Z hp t bb bs bk k1 k2 k3 ks) (Vss : own_Ar Z hp ss kss .int (own_iv (own_p2 kn ks i))), own_G p e s below (fun v h L => ∃ (g ss rr : Addr) (kss krr : ClassId), v = some (.ref g) ∧ Fr n0 L ∧ Keep h0 h [] ∧ h0.size ≤ g ∧ h0.size ≤ ss ∧ h0.size ≤ rr ∧ Exa Z h g "com/example/vestwright/vestwright/cli/TableRows$ByKey" ∧ Fld Z h g "com/example/vestwright/vestwright/cli/TableRows$ByKey" "starts" "[I" (.ref ss) ∧ Fld Z h g "com/example/vestwright/vestwright/cli/TableRows$ByKey" "rows" "[I" (.ref rr) ∧ own_Ar Z h ss kss .int (own_iv (own_st kn ks)) ∧ own_Ar Z h rr krr .int (own_iv (own_rw kn ks)) ∧ Exa Z h rr "[I") ({ frames := 3, cells := 5, slots := 20, locals := 60 } : Room).cells ({ frames := 3, cells := 5, slots := 20, locals := 60 } : Room).slots (Tp.setTop (mkF m 38 #[.val (.ref t), .val (.int (Int32.ofNat (kn))), .val (.ref ss), .val (.int (Int32.ofNat i)), .unset, .unset] [])) := by
  intro kt
  induction kt with
  | zero =>
    intro i  hi Tp locs hp Xp ep Np Op Kp TRh Vss
    obtain ⟨⟨Et, Fw, Fb, Fu, Fs, Fk, Fz⟩, ⟨Vb, Vs, Vk⟩, nq1, nq2, nq3, nq4, nq5, nq6⟩ := TRh
    have hp1 := own_p1len kn ks
    have hp2 := own_p2len kn ks
    have hp3 := own_p3len kn ks
    have hnl : ¬ (Int32.ofNat i < Int32.ofNat kn) := by rw [own_lt (by omega) (by omega)]; omega
    refine own_go (S' := (Tp.setTop (mkF m 60 #[.val (.ref t), .val (.int (Int32.ofNat (kn))), .val (.ref ss), .val (.int (Int32.ofNat i)), .unset, .unset] []))) (fun tq kq => XS.iloadN Xp.here hx rfl (hb hby d3_38) rfl (XS.iloadN Xp.here hx rfl (hb hby d3_39) rfl (XS.icmpYes Xp.here hx rfl (pc0 := 40) (pc' := 60) rfl (hb hby d3_40) rfl (flt hnl).2.1 (by decide) (by decide) kq))) ?_
    obtain rfl : kn = i := by omega
    refine own_go (S' := (Tp.setTop (mkF m 62 #[.val (.ref t), .val (.int (Int32.ofNat (kn))), .val (.ref ss), .val (.int (Int32.ofNat (kn))), .unset, .unset] [(.int (Int32.ofNat (kn))), (.ref ss)]))) (fun tq kq => XS.aloadN Xp.here hx rfl (hb hby d3_60) rfl rfl (XS.iloadN Xp.here hx rfl (hb hby d3_61) rfl kq)) ?_
    obtain ⟨_, _, ⟨T101, L101, k101, n101⟩, -, X101, ⟨Lc101, hQ101, l101, y101, z101⟩, st101⟩ := Jvm.LawKit.callS Xp hx (y := (⟨"java/util/Arrays", "copyOf", "([II)[I"⟩ : MethodName)) hown (mvT hZ (hw _ (List.mem_of_getElem? (i := 29) rfl))) (mvT hZ (hw _ (List.mem_of_getElem? (i := 30) rfl))) (mvT hZ (hw _ (List.mem_of_getElem? (i := 31) rfl))) (mvT hZ (hw _ (List.mem_of_getElem? (i := 32) rfl))) (by decide) (backOf (W := 0) (rm4 l Z a0 hw [] hp n0 Op ss kss (own_p2 kn ks kn) kn Vss (by rw [hp2 kn]; omega) (by rw [hp2 kn]; omega)) hZ (hw _ (List.mem_of_getElem? (i := 32) rfl)) (hw _ (List.mem_of_getElem? (i := 31) rfl)) (by decide) (by decide)) (g := (mkF m 62 #[.val (.ref t), .val (.int (Int32.ofNat (kn))), .val (.ref ss), .val (.int (Int32.ofNat (kn))), .unset, .unset] [(.int (Int32.ofNat (kn))), (.ref ss)])) rfl (by rw [hml]; rfl) (argsL := [(.ref ss), (.int (Int32.ofNat (kn)))]) (rest := []) (lenOf pd_5 rfl) rfl (by show 2 * 0 + _ ≤ _; exact Nat.le_of_eq rfl) (hb hby d3_62) (fun _ _ => ⟨rfl, ep, (by decide : 1 + 1 ≤ _), (by decide : 4 + 4 ≤ _)⟩)
    dsimp only [Pt.U, Pt.locs, Pt.cells, Pt.slots] at X101 l101 y101 z101 st101 hQ101
    subst l101 y101 z101
    obtain ⟨b101, kb101, rfl, N101, K101, gb101, V101⟩ := hQ101
    have Nf101 := Fr.app Np N101
    have O101 := Op.keep K101 all0
    have KK101 := Kp.trans K101 all0
    have ne_bb_b101 : bb ≠ b101 := Nat.ne_of_lt (Nat.lt_of_lt_of_le Vb.lt gb101)
    have ne_bk_b101 : bk ≠ b101 := Nat.ne_of_lt (Nat.lt_of_lt_of_le Vk.lt gb101)
    have ne_bs_b101 : bs ≠ b101 := Nat.ne_of_lt (Nat.lt_of_lt_of_le Vs.lt gb101)
    have ne_ss_b101 : ss ≠ b101 := Nat.ne_of_lt (Nat.lt_of_lt_of_le Vss.lt gb101)
    have ne_t_b101 : t ≠ b101 := Nat.ne_of_lt (Nat.lt_of_lt_of_le Et.lt gb101)
    have ge_b101 : n0 ≤ b101 := Nat.le_trans (own_osz Op) gb101
    have gk_b101 : h0.size ≤ b101 := Nat.le_trans Kp.1 gb101
    refine own_go (S' := (T101.setTop (mkF m 67 #[.val (.ref t), .val (.int (Int32.ofNat (kn))), .val (.ref ss), .val (.ref b101), .unset, .unset] [(.ref t)]))) (fun tq kq => st101 tq (XS.astoreN X101.here hx rfl (hb hby d3_65) rfl rfl (l' := #[.val (.ref t), .val (.int (Int32.ofNat (kn))), .val (.ref ss), .val (.ref b101), .unset, .unset]) rfl (XS.aloadN X101.here hx rfl (hb hby d3_66) rfl rfl kq))) ?_
    have f102 := (Fz.keep K101 nin0)
    obtain ⟨T103, X103, e103, st103⟩ := getF X101 hx hZ hown (host := "") (Or.inl (hw _ (List.mem_of_getElem? (i := 27) rfl))) Via.refl rfl f102 (g := (mkF m 67 #[.val (.ref t), .val (.int (Int32.ofNat (kn))), .val (.ref ss), .val (.ref b101), .unset, .unset] [(.ref t)])) rfl rfl (hb hby d3_67)
    refine own_go (S' := (T103.setTop (mkF m 70 #[.val (.ref t), .val (.int (Int32.ofNat (kn))), .val (.ref ss), .val (.ref b101), .unset, .unset] [(.int (Int32.ofNat ks.length))]))) (fun tq kq => st103 tq kq) ?_
    obtain ⟨T104, h104, k104, X104, e104, E104, A104, Ex104, st104⟩ := newPE X103 hx hZ (hw _ (List.mem_of_getElem? (i := 0) rfl)) e103 (g := (mkF m 70 #[.val (.ref t), .val (.int (Int32.ofNat (kn))), .val (.ref ss), .val (.ref b101), .unset, .unset] [(.int (Int32.ofNat ks.length))])) rfl (hb hby d3_70) rfl (own_pos (by omega)) (cap := 4) (by rw [own_clamp (by omega)]; omega) (by decide) (by decide) (by decide) (ad := "[I") (by decide +kernel)
    obtain ⟨b104, g104⟩ : ∃ z, z = T101.heap.size := ⟨_, rfl⟩
    rw [← g104] at A104 Ex104 st104
    have ne_b101_b104 : b101 ≠ b104 := Nat.ne_of_lt (Nat.lt_of_lt_of_le V101.lt (Nat.le_of_eq g104.symm))
    have f105 := (Vb.keep K101 nin0)
    have ne_bb_b104 : bb ≠ b104 := Nat.ne_of_lt (Nat.lt_of_lt_of_le f105.lt (Nat.le_of_eq g104.symm))
    have f106 := (Vk.keep K101 nin0)
    have ne_bk_b104 : bk ≠ b104 := Nat.ne_of_lt (Nat.lt_of_lt_of_le f106.lt (Nat.le_of_eq g104.symm))
    have f107 := (Vs.keep K101 nin0)
    have ne_bs_b104 : bs ≠ b104 := Nat.ne_of_lt (Nat.lt_of_lt_of_le f107.lt (Nat.le_of_eq g104.symm))
    have f108 := (Vss.keep K101 nin0)
    have ne_ss_b104 : ss ≠ b104 := Nat.ne_of_lt (Nat.lt_of_lt_of_le f108.lt (Nat.le_of_eq g104.symm))
    have f109 := (Et.keep K101)
    have ne_t_b104 : t ≠ b104 := Nat.ne_of_lt (Nat.lt_of_lt_of_le f109.lt (Nat.le_of_eq g104.symm))
    have ge_b104 : n0 ≤ b104 := Nat.le_trans (own_osz O101) (Nat.le_of_eq g104.symm)
    have gk_b104 : h0.size ≤ b104 := Nat.le_trans KK101.1 (Nat.le_of_eq g104.symm)
    have V104 : own_Ar Z h104 b104 k104 .int (own_iv (own_p3 kn ks 0).2) := by
      have q := own_Ar.new A104 (own_pos (by omega))
      rw [own_clamp (by omega)] at q
      exact own_ivrep ks.length ▸ q
    have O104 := O101.ext E104
    have K104 := KK101.ext E104
    refine own_go (S' := (T104.setTop (mkF m 77 #[.val (.ref t), .val (.int (Int32.ofNat (kn))), .val (.ref ss), .val (.ref b101), .val (.ref b104), .val (.int (0 : Int32))] []))) (fun tq kq => st104 tq (XS.astore X104.here hx rfl (hb hby d3_72) rfl rfl (l' := #[.val (.ref t), .val (.int (Int32.ofNat (kn))), .val (.ref ss), .val (.ref b101), .val (.ref b104), .unset]) rfl (XS.iconst X104.here hx rfl (hb hby d3_74) (XS.istore X104.here hx rfl (hb hby d3_75) rfl (l' := #[.val (.ref t), .val (.int (Int32.ofNat (kn))), .val (.ref ss), .val (.ref b101), .val (.ref b104), .val (.int (0 : Int32))]) rfl kq)))) ?_
    have f110 := (f109.ext E104)
    have f111 := ((Fw.keep K101 nin0).ext E104)
    have f112 := ((Fb.keep K101 nin0).ext E104)
    have f113 := ((Fu.keep K101 nin0).ext E104)
    have f114 := ((Fs.keep K101 nin0).ext E104)
    have f115 := ((Fk.keep K101 nin0).ext E104)
    have f116 := (f102.ext E104)
    have f117 := (f105.ext E104)
    have f118 := (f107.ext E104)
    have f119 := (f106.ext E104)
    have f120 := (f108.ext E104)
    have f121 := (V101.ext E104)
    exact loop77 hlk hret hx hZ hw hby hml hown hnm t bb bs bk k1 k2 k3 ks kn hk1 hk3 hl hks hck ss b101 b104 kss kb101 k104 ge_b101 gk_b101 ge_b104 gk_b104 gkss ne_b101_b104 (Ne.symm ne_ss_b101) (Ne.symm ne_ss_b104) ne_t_b101 ne_bb_b101 ne_bs_b101 ne_bk_b101 ne_t_b104 ne_bb_b104 ne_bs_b104 ne_bk_b104 (ks.length) (0)  (by omega) X104 e104 Nf101 O104 K104 ⟨⟨f110, f111, f112, f113, f114, f115, f116⟩, ⟨f117, f118, f119⟩, nq1, nq2, nq3, nq4, nq5, nq6⟩ f120 f121 V104 Ex104
  | succ kt ih =>
    intro i  hi Tp locs hp Xp ep Np Op Kp TRh Vss
    obtain ⟨⟨Et, Fw, Fb, Fu, Fs, Fk, Fz⟩, ⟨Vb, Vs, Vk⟩, nq1, nq2, nq3, nq4, nq5, nq6⟩ := TRh
    have hp1 := own_p1len kn ks
    have hp2 := own_p2len kn ks
    have hp3 := own_p3len kn ks
    have hlt : Int32.ofNat i < Int32.ofNat kn := by rw [own_lt (by omega) (by omega)]; omega
    refine own_go (S' := (Tp.setTop (mkF m 47 #[.val (.ref t), .val (.int (Int32.ofNat (kn))), .val (.ref ss), .val (.int (Int32.ofNat i)), .unset, .unset] [(.int ((Int32.ofNat i) + (1 : Int32))), (.ref ss)]))) (fun tq kq => XS.iloadN Xp.here hx rfl (hb hby d3_38) rfl (XS.iloadN Xp.here hx rfl (hb hby d3_39) rfl (XS.icmpNo Xp.here hx rfl (hb hby d3_40) rfl (tlt hlt).2.1 (XS.aloadN Xp.here hx rfl (hb hby d3_43) rfl rfl (XS.iloadN Xp.here hx rfl (hb hby d3_44) rfl (XS.iconst Xp.here hx rfl (hb hby d3_45) (XS.iadd Xp.here hx rfl (hb hby d3_46) rfl kq))))))) ?_
    rw [own_succ i]
    refine own_go (S' := (Tp.setTop (mkF m 48 #[.val (.ref t), .val (.int (Int32.ofNat (kn))), .val (.ref ss), .val (.int (Int32.ofNat i)), .unset, .unset] [(.int (Int32.ofNat (i + 1))), (.ref ss), (.int (Int32.ofNat (i + 1))), (.ref ss)]))) (fun tq kq => Jvm.Free.XT.dup2 Xp.here hx rfl (hb hby d3_47) rfl rfl rfl kq) ?_
    obtain ⟨cl101, Ar101, -, -, hin101, hat101⟩ := Vss.at (j := (Int32.ofNat (i + 1))) (v := (.int (Int32.ofNat ((own_p2 kn ks i).getD (i + 1) 0)))) (own_pos (by omega)) (by rw [own_clamp (by omega)]; exact own_ivget (by rw [hp2 i]; omega))
    refine own_go (S' := (Tp.setTop (mkF m 51 #[.val (.ref t), .val (.int (Int32.ofNat (kn))), .val (.ref ss), .val (.int (Int32.ofNat i)), .unset, .unset] [(.int (Int32.ofNat i)), (.ref ss), (.int (Int32.ofNat ((own_p2 kn ks i).getD (i + 1) 0))), (.int (Int32.ofNat (i + 1))), (.ref ss)]))) (fun tq kq => Xp.iaload hx (j := (Int32.ofNat (i + 1))) (v := (.int (Int32.ofNat ((own_p2 kn ks i).getD (i + 1) 0)))) (by rw [ep]; exact Ar101.1) (State.isArrayOf_alike hZ.alike Ar101.2.1) Ar101.2.2 hin101 hat101 (g := (mkF m 48 #[.val (.ref t), .val (.int (Int32.ofNat (kn))), .val (.ref ss), .val (.int (Int32.ofNat i)), .unset, .unset] [(.int (Int32.ofNat (i + 1))), (.ref ss), (.int (Int32.ofNat (i + 1))), (.ref ss)])) rfl rfl (hb hby d3_48) tq (XS.aloadN Xp.here hx rfl (hb hby d3_49) rfl rfl (XS.iloadN Xp.here hx rfl (hb hby d3_50) rfl kq))) ?_
    obtain ⟨cl102, Ar102, -, -, hin102, hat102⟩ := Vss.at (j := (Int32.ofNat i)) (v := (.int (Int32.ofNat ((own_p2 kn ks i).getD (i) 0)))) (own_pos (by omega)) (by rw [own_clamp (by omega)]; exact own_ivget (by rw [hp2 i]; omega))
    refine own_go (S' := (Tp.setTop (mkF m 53 #[.val (.ref t), .val (.int (Int32.ofNat (kn))), .val (.ref ss), .val (.int (Int32.ofNat i)), .unset, .unset] [(.int ((Int32.ofNat ((own_p2 kn ks i).getD (i + 1) 0)) + (Int32.ofNat ((own_p2 kn ks i).getD (i) 0)))), (.int (Int32.ofNat (i + 1))), (.ref ss)]))) (fun tq kq => Xp.iaload hx (j := (Int32.ofNat i)) (v := (.int (Int32.ofNat ((own_p2 kn ks i).getD (i) 0)))) (by rw [ep]; exact Ar102.1) (State.isArrayOf_alike hZ.alike Ar102.2.1) Ar102.2.2 hin102 hat102 (g := (mkF m 51 #[.val (.ref t), .val (.int (Int32.ofNat (kn))), .val (.ref ss), .val (.int (Int32.ofNat i)), .unset, .unset] [(.int (Int32.ofNat i)), (.ref ss), (.int (Int32.ofNat ((own_p2 kn ks i).getD (i + 1) 0))), (.int (Int32.ofNat (i + 1))), (.ref ss)])) rfl rfl (hb hby d3_51) tq (XS.iadd Xp.here hx rfl (hb hby d3_52) rfl kq)) ?_
    rw [← Int32.ofNat_add]
    obtain ⟨cl103, Ar103, qa103, sa103, hin103, -⟩ := Vss.at (j := (Int32.ofNat (i + 1))) (own_pos (by omega)) (by rw [own_clamp (by omega)]; exact own_ivget (by rw [hp2 i]; omega))
    obtain ⟨T103, h103, X103, e103, W103, st103⟩ := stI Xp hx hZ ep Ar103 (j := (Int32.ofNat (i + 1))) hin103 (g := (mkF m 53 #[.val (.ref t), .val (.int (Int32.ofNat (kn))), .val (.ref ss), .val (.int (Int32.ofNat i)), .unset, .unset] [(.int (Int32.ofNat ((own_p2 kn ks i).getD (i + 1) 0 + (own_p2 kn ks i).getD (i) 0))), (.int (Int32.ofNat (i + 1))), (.ref ss)])) rfl rfl (hb hby d3_53)
    have N103 := Fr.snoc X103 Np gss
    have O103 := Op.wr W103 gss
    have K103 := Kp.wr W103 (Or.inr gkss)
    have V103 : own_Ar Z h103 ss kss .int (own_iv (own_p2 kn ks (i + 1))) := (by have q := (own_Ar.set Ar103 qa103 sa103 Vss.small W103); rw [own_clamp (by omega), own_ivset] at q; exact q)
    refine own_go (S' := (T103.setTop (mkF m 38 #[.val (.ref t), .val (.int (Int32.ofNat (kn))), .val (.ref ss), .val (.int ((Int32.ofNat i) + (1 : Int32))), .unset, .unset] []))) (fun tq kq => st103 tq (XS.iinc X103.here hx rfl (hb hby d3_54) rfl (l' := #[.val (.ref t), .val (.int (Int32.ofNat (kn))), .val (.ref ss), .val (.int ((Int32.ofNat i) + (1 : Int32))), .unset, .unset]) rfl (XS.goto X103.here hx rfl (pc0 := 57) (pc' := 38) rfl (hb hby d3_57) (by decide) (by decide) kq))) ?_
    rw [own_succ i]
    have f104 := (Et.wr W103)
    have f105 := (Fw.other W103 (Or.inl ss_t))
    have f106 := (Fb.other W103 (Or.inl ss_t))
    have f107 := (Fu.other W103 (Or.inl ss_t))
    have f108 := (Fs.other W103 (Or.inl ss_t))
    have f109 := (Fk.other W103 (Or.inl ss_t))
    have f110 := (Fz.other W103 (Or.inl ss_t))
    have f111 := (Vb.other W103 ss_bb)
    have f112 := (Vs.other W103 ss_bs)
    have f113 := (Vk.other W103 ss_bk)
    exact ih (i + 1) (by omega) X103 e103 N103 O103 K103 ⟨⟨f104, f105, f106, f107, f108, f109, f110⟩, ⟨f111, f112, f113⟩, nq1, nq2, nq3, nq4, nq5, nq6⟩ V103
set_option maxRecDepth 65536 in
set_option maxHeartbeats 40000000 in
theorem loop8 {p : Program} {l : Launch} {e : Env} {s : State} {m : MethodId} {args : Array Value} {below : List Frame} {meth : Method} {c : Code} {Z : State} {a0 : Array Value} {h0 : Heap} {n0 : Nat} (hlk : meth.locks = false) (hret : meth.sig.returnType = some (.object "com/example/vestwright/vestwright/cli/TableRows$ByKey")) (hx : p.tables.exec = Jvm.exec) (hZ : Z.Warmed39 s.vm) (hw : ∀ d ∈ tables_1, d.before a0 Z = true) (hby : c.code = prog_15_method_6_code) (hml : c.maxLocals = 6) (hown : s.vm.findClass "com/example/vestwright/vestwright/cli/TableRows" = some m.cls) (hnm : meth.name = "byKey") (t : Addr) (bb : Addr) (bs : Addr) (bk : Addr) (k1 : ClassId) (k2 : ClassId) (k3 : ClassId) (ks : List Nat) (kn : Nat) (hk1 : 1 ≤ kn) (hk3 : kn ≤ 3) (hl : ks.length ≤ 4) (hks : ∀ x ∈ ks, x < kn) (hck : own_chk kn ks = true) (ss : Addr) (kss : ClassId) (gss : n0 ≤ ss) (gkss : h0.size ≤ ss) (ss_t : t ≠ ss) (ss_bb : bb ≠ ss) (ss_bs : bs ≠ ss) (ss_bk : bk ≠ ss) :
    ∀ (kt : Nat) (i : Nat), i + kt = ks.length → ∀ {Tp : State} {locs : List Loc} {hp : Heap} (Xp : Stand p l e ({ frames := 3, cells := 5, slots := 20, locals := 60 } : Room) s m args below meth c Tp locs 1 4) (ep : Tp.heap = hp) (Np : Fr n0 locs) (Op : Old Z n0 hp) (Kp : Keep h0 hp []) (TRh : own_TR Z hp t bb bs bk k1 k2 k3 ks) (Vss : own_Ar Z hp ss kss .int (own_iv (own_p1 kn ks i))), own_G p e s below (fun v h L => ∃ (g ss rr : Addr) (kss krr : ClassId), v = some (.ref g) ∧ Fr n0 L ∧ Keep h0 h [] ∧ h0.size ≤ g ∧ h0.size ≤ ss ∧ h0.size ≤ rr ∧ Exa Z h g "com/example/vestwright/vestwright/cli/TableRows$ByKey" ∧ Fld Z h g "com/example/vestwright/vestwright/cli/TableRows$ByKey" "starts" "[I" (.ref ss) ∧ Fld Z h g "com/example/vestwright/vestwright/cli/TableRows$ByKey" "rows" "[I" (.ref rr) ∧ own_Ar Z h ss kss .int (own_iv (own_st kn ks)) ∧ own_Ar Z h rr krr .int (own_iv (own_rw kn ks)) ∧ Exa Z h rr "[I") ({ frames := 3, cells := 5, slots := 20, locals := 60 } : Room).cells ({ frames := 3, cells := 5, slots := 20, locals := 60 } : Room).slots (Tp.setTop (mkF m 8 #[.val (.ref t), .val (.int (Int32.ofNat (kn))), .val (.ref ss), .val (.int (Int32.ofNat i)), .unset, .unset] [])) := by
  intro kt
  induction kt with
  | zero =>
    intro i  hi Tp locs hp Xp ep Np Op Kp TRh Vss
    obtain ⟨⟨Et, Fw, Fb, Fu, Fs, Fk, Fz⟩, ⟨Vb, Vs, Vk⟩, nq1, nq2, nq3, nq4, nq5, nq6⟩ := TRh
    have hp1 := own_p1len kn ks
    have hp2 := own_p2len kn ks
    have hp3 := own_p3len kn ks
    have hnl : ¬ (Int32.ofNat i < Int32.ofNat ks.length) := by rw [own_lt (by omega) (by omega)]; omega
    refine own_go (S' := (Tp.setTop (mkF m 10 #[.val (.ref t), .val (.int (Int32.ofNat (kn))), .val (.ref ss), .val (.int (Int32.ofNat i)), .unset, .unset] [(.ref t), (.int (Int32.ofNat i))]))) (fun tq kq => XS.iloadN Xp.here hx rfl (hb hby d3_8) rfl (XS.aloadN Xp.here hx rfl (hb hby d3_9) rfl rfl kq)) ?_
    obtain ⟨T101, X101, e101, st101⟩ := getF Xp hx hZ hown (host := "") (Or.inl (hw _ (List.mem_of_getElem? (i := 27) rfl))) Via.refl ep Fz (g := (mkF m 10 #[.val (.ref t), .val (.int (Int32.ofNat (kn))), .val (.ref ss), .val (.int (Int32.ofNat i)), .unset, .unset] [(.ref t), (.int (Int32.ofNat i))])) rfl rfl (hb hby d3_10)
    refine own_go (S' := (T101.setTop (mkF m 38 #[.val (.ref t), .val (.int (Int32.ofNat (kn))), .val (.ref ss), .val (.int (0 : Int32)), .unset, .unset] []))) (fun tq kq => st101 tq (XS.icmpYes X101.here hx rfl (pc0 := 13) (pc' := 36) rfl (hb hby d3_13) rfl (flt hnl).2.1 (by decide) (by decide) (XS.iconst X101.here hx rfl (hb hby d3_36) (XS.istoreN X101.here hx rfl (hb hby d3_37) rfl (l' := #[.val (.ref t), .val (.int (Int32.ofNat (kn))), .val (.ref ss), .val (.int (0 : Int32)), .unset, .unset]) rfl kq)))) ?_
    have hi2 : i = ks.length := by omega
    subst hi2
    exact loop38 hlk hret hx hZ hw hby hml hown hnm t bb bs bk k1 k2 k3 ks kn hk1 hk3 hl hks hck ss kss gss gkss ss_t ss_bb ss_bs ss_bk (kn) (0)  (by omega) X101 e101 Np Op Kp ⟨⟨Et, Fw, Fb, Fu, Fs, Fk, Fz⟩, ⟨Vb, Vs, Vk⟩, nq1, nq2, nq3, nq4, nq5, nq6⟩ Vss
  | succ kt ih =>
    intro i  hi Tp locs hp Xp ep Np Op Kp TRh Vss
    obtain ⟨⟨Et, Fw, Fb, Fu, Fs, Fk, Fz⟩, ⟨Vb, Vs, Vk⟩, nq1, nq2, nq3, nq4, nq5, nq6⟩ := TRh
    have hp1 := own_p1len kn ks
    have hp2 := own_p2len kn ks
    have hp3 := own_p3len kn ks
    have hlt : Int32.ofNat i < Int32.ofNat ks.length := by rw [own_lt (by omega) (by omega)]; omega
    have hgd := own_gd hks (show i < ks.length by omega)
    refine own_go (S' := (Tp.setTop (mkF m 10 #[.val (.ref t), .val (.int (Int32.ofNat (kn))), .val (.ref ss), .val (.int (Int32.ofNat i)), .unset, .unset] [(.ref t), (.int (Int32.ofNat i))]))) (fun tq kq => XS.iloadN Xp.here hx rfl (hb hby d3_8) rfl (XS.aloadN Xp.here hx rfl (hb hby d3_9) rfl rfl kq)) ?_
    obtain ⟨T101, X101, e101, st101⟩ := getF Xp hx hZ hown (host := "") (Or.inl (hw _ (List.mem_of_getElem? (i := 27) rfl))) Via.refl ep Fz (g := (mkF m 10 #[.val (.ref t), .val (.int (Int32.ofNat (kn))), .val (.ref ss), .val (.int (Int32.ofNat i)), .unset, .unset] [(.ref t), (.int (Int32.ofNat i))])) rfl rfl (hb hby d3_10)
    refine own_go (S' := (T101.setTop (mkF m 18 #[.val (.ref t), .val (.int (Int32.ofNat (kn))), .val (.ref ss), .val (.int (Int32.ofNat i)), .unset, .unset] [(.ref t), (.ref ss)]))) (fun tq kq => st101 tq (XS.icmpNo X101.here hx rfl (hb hby d3_13) rfl (tlt hlt).2.1 (XS.aloadN X101.here hx rfl (hb hby d3_16) rfl rfl (XS.aloadN X101.here hx rfl (hb hby d3_17) rfl rfl kq)))) ?_
    obtain ⟨T102, X102, e102, st102⟩ := getF X101 hx hZ hown (host := "") (Or.inl (hw _ (List.mem_of_getElem? (i := 16) rfl))) Via.refl e101 Fk (g := (mkF m 18 #[.val (.ref t), .val (.int (Int32.ofNat (kn))), .val (.ref ss), .val (.int (Int32.ofNat i)), .unset, .unset] [(.ref t), (.ref ss)])) rfl rfl (hb hby d3_18)
    refine own_go (S' := (T102.setTop (mkF m 22 #[.val (.ref t), .val (.int (Int32.ofNat (kn))), .val (.ref ss), .val (.int (Int32.ofNat i)), .unset, .unset] [(.int (Int32.ofNat i)), (.ref bk), (.ref ss)]))) (fun tq kq => st102 tq (XS.iloadN X102.here hx rfl (hb hby d3_21) rfl kq)) ?_
    obtain ⟨cl103, Ar103, -, -, hin103, hat103⟩ := Vk.at (j := (Int32.ofNat i)) (v := (.int (Int32.ofNat (ks.getD i 0)))) (own_pos (by omega)) (by rw [own_clamp (by omega)]; exact own_klget (by omega))
    refine own_go (S' := (T102.setTop (mkF m 25 #[.val (.ref t), .val (.int (Int32.ofNat (kn))), .val (.ref ss), .val (.int (Int32.ofNat i)), .unset, .unset] [(.int ((Int32.ofNat (ks.getD i 0)) + (1 : Int32))), (.ref ss)]))) (fun tq kq => X102.iaload hx (j := (Int32.ofNat i)) (v := (.int (Int32.ofNat (ks.getD i 0)))) (by rw [e102]; exact Ar103.1) (State.isArrayOf_alike hZ.alike Ar103.2.1) Ar103.2.2 hin103 hat103 (g := (mkF m 22 #[.val (.ref t), .val (.int (Int32.ofNat (kn))), .val (.ref ss), .val (.int (Int32.ofNat i)), .unset, .unset] [(.int (Int32.ofNat i)), (.ref bk), (.ref ss)])) rfl rfl (hb hby d3_22) tq (XS.iconst X102.here hx rfl (hb hby d3_23) (XS.iadd X102.here hx rfl (hb hby d3_24) rfl kq))) ?_
    rw [own_succ (ks.getD i 0)]
    refine own_go (S' := (T102.setTop (mkF m 26 #[.val (.ref t), .val (.int (Int32.ofNat (kn))), .val (.ref ss), .val (.int (Int32.ofNat i)), .unset, .unset] [(.int (Int32.ofNat (ks.getD i 0 + 1))), (.ref ss), (.int (Int32.ofNat (ks.getD i 0 + 1))), (.ref ss)]))) (fun tq kq => Jvm.Free.XT.dup2 X102.here hx rfl (hb hby d3_25) rfl rfl rfl kq) ?_
    obtain ⟨cl104, Ar104, -, -, hin104, hat104⟩ := Vss.at (j := (Int32.ofNat (ks.getD i 0 + 1))) (v := (.int (Int32.ofNat ((own_p1 kn ks i).getD (ks.getD i 0 + 1) 0)))) (own_pos (by omega)) (by rw [own_clamp (by omega)]; exact own_ivget (by rw [hp1 i]; omega))
    refine own_go (S' := (T102.setTop (mkF m 29 #[.val (.ref t), .val (.int (Int32.ofNat (kn))), .val (.ref ss), .val (.int (Int32.ofNat i)), .unset, .unset] [(.int ((Int32.ofNat ((own_p1 kn ks i).getD (ks.getD i 0 + 1) 0)) + (1 : Int32))), (.int (Int32.ofNat (ks.getD i 0 + 1))), (.ref ss)]))) (fun tq kq => X102.iaload hx (j := (Int32.ofNat (ks.getD i 0 + 1))) (v := (.int (Int32.ofNat ((own_p1 kn ks i).getD (ks.getD i 0 + 1) 0)))) (by rw [e102]; exact Ar104.1) (State.isArrayOf_alike hZ.alike Ar104.2.1) Ar104.2.2 hin104 hat104 (g := (mkF m 26 #[.val (.ref t), .val (.int (Int32.ofNat (kn))), .val (.ref ss), .val (.int (Int32.ofNat i)), .unset, .unset] [(.int (Int32.ofNat (ks.getD i 0 + 1))), (.ref ss), (.int (Int32.ofNat (ks.getD i 0 + 1))), (.ref ss)])) rfl rfl (hb hby d3_26) tq (XS.iconst X102.here hx rfl (hb hby d3_27) (XS.iadd X102.here hx rfl (hb hby d3_28) rfl kq))) ?_
    rw [own_succ ((own_p1 kn ks i).getD (ks.getD i 0 + 1) 0)]
    obtain ⟨cl105, Ar105, qa105, sa105, hin105, -⟩ := Vss.at (j := (Int32.ofNat (ks.getD i 0 + 1))) (own_pos (by omega)) (by rw [own_clamp (by omega)]; exact own_ivget (by rw [hp1 i]; omega))
    obtain ⟨T105, h105, X105, e105, W105, st105⟩ := stI X102 hx hZ e102 Ar105 (j := (Int32.ofNat (ks.getD i 0 + 1))) hin105 (g := (mkF m 29 #[.val (.ref t), .val (.int (Int32.ofNat (kn))), .val (.ref ss), .val (.int (Int32.ofNat i)), .unset, .unset] [(.int (Int32.ofNat ((own_p1 kn ks i).getD (ks.getD i 0 + 1) 0 + 1))), (.int (Int32.ofNat (ks.getD i 0 + 1))), (.ref ss)])) rfl rfl (hb hby d3_29)
    have N105 := Fr.snoc X105 Np gss
    have O105 := Op.wr W105 gss
    have K105 := Kp.wr W105 (Or.inr gkss)
    have V105 : own_Ar Z h105 ss kss .int (own_iv (own_p1 kn ks (i + 1))) := (by have q := (own_Ar.set Ar105 qa105 sa105 Vss.small W105); rw [own_clamp (by omega), own_ivset] at q; exact q)
    refine own_go (S' := (T105.setTop (mkF m 8 #[.val (.ref t), .val (.int (Int32.ofNat (kn))), .val (.ref ss), .val (.int ((Int32.ofNat i) + (1 : Int32))), .unset, .unset] []))) (fun tq kq => st105 tq (XS.iinc X105.here hx rfl (hb hby d3_30) rfl (l' := #[.val (.ref t), .val (.int (Int32.ofNat (kn))), .val (.ref ss), .val (.int ((Int32.ofNat i) + (1 : Int32))), .unset, .unset]) rfl (XS.goto X105.here hx rfl (pc0 := 33) (pc' := 8) rfl (hb hby d3_33) (by decide) (by decide) kq))) ?_
    rw [own_succ i]
    have f106 := (Et.wr W105)
    have f107 := (Fw.other W105 (Or.inl ss_t))
    have f108 := (Fb.other W105 (Or.inl ss_t))
    have f109 := (Fu.other W105 (Or.inl ss_t))
    have f110 := (Fs.other W105 (Or.inl ss_t))
    have f111 := (Fk.other W105 (Or.inl ss_t))
    have f112 := (Fz.other W105 (Or.inl ss_t))
    have f113 := (Vb.other W105 ss_bb)
    have f114 := (Vs.other W105 ss_bs)
    have f115 := (Vk.other W105 ss_bk)
    exact ih (i + 1) (by omega) X105 e105 N105 O105 K105 ⟨⟨f106, f107, f108, f109, f110, f111, f112⟩, ⟨f113, f114, f115⟩, nq1, nq2, nq3, nq4, nq5, nq6⟩ V105
theorem pn_rm3 : plainName "com/example/vestwright/vestwright/cli/TableRows" = true := by first | (simp [plainName, overriddenIn]; done) | decide +kernel
theorem ef_rm3 (m : MethodId) (t : Addr) (bb : Addr) (bs : Addr) (bk : Addr) (k1 : ClassId) (k2 : ClassId) (k3 : ClassId) (ks : List Nat) (kn : Nat) : entryFrame m #[(.ref t), (.int (Int32.ofNat (kn)))] 6 = mkF m 0 #[.val (.ref t), .val (.int (Int32.ofNat (kn))), .unset, .unset, .unset, .unset] [] := by first | (simp [entryFrame, mkF, argsToLocals, Value.category]; done) | rfl
def Q_rm3 (Z : State) (h0 : Heap) (n0 : Nat) (t : Addr) (bb : Addr) (bs : Addr) (bk : Addr) (k1 : ClassId) (k2 : ClassId) (k3 : ClassId) (ks : List Nat) (kn : Nat) (v : Option Value) (h : Heap) (L : List Loc) : Prop := ∃ (g ss rr : Addr) (kss krr : ClassId), v = some (.ref g) ∧ Fr n0 L ∧ Keep h0 h [] ∧ h0.size ≤ g ∧ h0.size ≤ ss ∧ h0.size ≤ rr ∧ Exa Z h g "com/example/vestwright/vestwright/cli/TableRows$ByKey" ∧ Fld Z h g "com/example/vestwright/vestwright/cli/TableRows$ByKey" "starts" "[I" (.ref ss) ∧ Fld Z h g "com/example/vestwright/vestwright/cli/TableRows$ByKey" "rows" "[I" (.ref rr) ∧ own_Ar Z h ss kss .int (own_iv (own_st kn ks)) ∧ own_Ar Z h rr krr .int (own_iv (own_rw kn ks)) ∧ Exa Z h rr "[I"
set_option maxRecDepth 65536 in
set_option maxHeartbeats 40000000 in
theorem rm3 (l : Launch) (Z : State) (a0 : Array Value) (hw : ∀ d ∈ tables_1, d.before a0 Z = true) (ws : List Jvm.Cond) (h0 : Heap) (n0 : Nat) (O0 : Old Z n0 h0) (t : Addr) (bb : Addr) (bs : Addr) (bk : Addr) (k1 : ClassId) (k2 : ClassId) (k3 : ClassId) (ks : List Nat) (kn : Nat) (TRh : own_TR Z h0 t bb bs bk k1 k2 k3 ks) (hk1 : 1 ≤ kn) (hk3 : kn ≤ 3) (hl : ks.length ≤ 4) (hks : ∀ x ∈ ks, x < kn) (hck : own_chk kn ks = true) :
    MetFree l (⟨"com/example/vestwright/vestwright/cli/TableRows", "byKey", "(I)Lcom/example/vestwright/vestwright/cli/TableRows$ByKey;"⟩ : MethodName) (head1 (Jvm.Cond.code (⟨"com/example/vestwright/vestwright/cli/TableRows", "byKey", "(I)Lcom/example/vestwright/vestwright/cli/TableRows$ByKey;"⟩ : MethodName) prog_15_method_6_code 6 (some (.object "com/example/vestwright/vestwright/cli/TableRows$ByKey")) :: ws) ({ frames := 3, cells := 5, slots := 20, locals := 60 } : Room)) (fun aq U => aq = #[(.ref t), (.int (Int32.ofNat (kn)))] ∧ Z.Warmed39 U.vm ∧ U.heap = h0) (fun _ _ _ _ _ => True) (fun _ U o U' => ∃ v L, o = .returned v ∧ Q_rm3 Z h0 n0 t bb bs bk k1 k2 k3 ks kn v U'.heap L ∧ FrameEnd U o U' L ({ frames := 3, cells := 5, slots := 20, locals := 60 } : Room).cells ({ frames := 3, cells := 5, slots := 20, locals := 60 } : Room).slots) := by
  refine MetFree.of_bodySF (plainFor_of_name pn_rm3) hisR ?_
  intro p e s m args below meth c s₁ Bd hml0 hP hK
  obtain ⟨rfl, hZ, hh⟩ := hP
  have hx := Bd.exec
  have hby := Bd.bytes
  have hml : c.maxLocals = 6 := hml0
  have hown : s.vm.findClass "com/example/vestwright/vestwright/cli/TableRows" = some m.cls := findClass_of_methodNamed Bd.named
  have hnm := (name_of_methodNamed Bd.named Bd.method).1
  have hlk := Bd.notSynchronized
  have hret := Bd.returns
  have X0 : Stand p l e ({ frames := 3, cells := 5, slots := 20, locals := 60 } : Room) s m #[(.ref t), (.int (Int32.ofNat (kn)))] below meth c s₁ [] 0 0 := Stand.of_body Bd
  have e0 : s₁.heap = h0 := by rw [← hh, Bd.state]; rfl
  have N0 := Fr.nil n0
  have K0 := Keep.refl h0 []
  refine own_go (S' := (s₁.setTop (mkF m 0 #[.val (.ref t), .val (.int (Int32.ofNat (kn))), .unset, .unset, .unset, .unset] []))) (fun tq kq => castTop (ef_rm3 m t bb bs bk k1 k2 k3 ks kn) kq) ?_
  show own_G p e s below (Q_rm3 Z h0 n0 t bb bs bk k1 k2 k3 ks kn) _ _ _
  obtain ⟨⟨Et, Fw, Fb, Fu, Fs, Fk, Fz⟩, ⟨Vb, Vs, Vk⟩, nq1, nq2, nq3, nq4, nq5, nq6⟩ := TRh
  refine own_go (S' := (s₁.setTop (mkF m 3 #[.val (.ref t), .val (.int (Int32.ofNat (kn))), .unset, .unset, .unset, .unset] [(.int ((Int32.ofNat (kn)) + (1 : Int32)))]))) (fun tq kq => XS.iloadN X0.here hx rfl (hb hby d3_0) rfl (XS.iconst X0.here hx rfl (hb hby d3_1) (XS.iadd X0.here hx rfl (hb hby d3_2) rfl kq))) ?_
  rw [own_succ kn]
  obtain ⟨T101, h101, k101, X101, e101, E101, A101, st101⟩ := newP X0 hx hZ (hw _ (List.mem_of_getElem? (i := 0) rfl)) e0 (g := (mkF m 3 #[.val (.ref t), .val (.int (Int32.ofNat (kn))), .unset, .unset, .unset, .unset] [(.int (Int32.ofNat (kn + 1)))])) rfl (hb hby d3_3) rfl (own_pos (by omega)) (cap := 4) (by rw [own_clamp (by omega)]; omega) (by decide) (by decide) (by decide)
  obtain ⟨b101, g101⟩ : ∃ z, z = h0.size := ⟨_, rfl⟩
  rw [← g101] at A101 st101
  have ne_bb_b101 : bb ≠ b101 := Nat.ne_of_lt (Nat.lt_of_lt_of_le Vb.lt (Nat.le_of_eq g101.symm))
  have ne_bk_b101 : bk ≠ b101 := Nat.ne_of_lt (Nat.lt_of_lt_of_le Vk.lt (Nat.le_of_eq g101.symm))
  have ne_bs_b101 : bs ≠ b101 := Nat.ne_of_lt (Nat.lt_of_lt_of_le Vs.lt (Nat.le_of_eq g101.symm))
  have ne_t_b101 : t ≠ b101 := Nat.ne_of_lt (Nat.lt_of_lt_of_le Et.lt (Nat.le_of_eq g101.symm))
  have ge_b101 : n0 ≤ b101 := Nat.le_trans (own_osz O0) (Nat.le_of_eq g101.symm)
  have gk_b101 : h0.size ≤ b101 := Nat.le_trans K0.1 (Nat.le_of_eq g101.symm)
  have V101 : own_Ar Z h101 b101 k101 .int (List.replicate (Int32.ofNat (kn + 1)).toNatClampNeg (.int (0 : Int32))) := own_Ar.new A101 (own_pos (by omega))
  have O101 := O0.ext E101
  have K101 := K0.ext E101
  refine own_go (S' := (T101.setTop (mkF m 5 #[.val (.ref t), .val (.int (Int32.ofNat (kn))), .unset, .unset, .unset, .unset] [(.ref b101)]))) (fun tq kq => st101 tq kq) ?_
  have V102 : own_Ar Z h101 b101 k101 .int (own_iv (own_p1 kn ks 0)) := by
    have q := V101
    rw [own_clamp (by omega)] at q
    exact own_ivrep (kn + 1) ▸ q
  refine own_go (S' := (T101.setTop (mkF m 8 #[.val (.ref t), .val (.int (Int32.ofNat (kn))), .val (.ref b101), .val (.int (0 : Int32)), .unset, .unset] []))) (fun tq kq => XS.astoreN X101.here hx rfl (hb hby d3_5) rfl rfl (l' := #[.val (.ref t), .val (.int (Int32.ofNat (kn))), .val (.ref b101), .unset, .unset, .unset]) rfl (XS.iconst X101.here hx rfl (hb hby d3_6) (XS.istoreN X101.here hx rfl (hb hby d3_7) rfl (l' := #[.val (.ref t), .val (.int (Int32.ofNat (kn))), .val (.ref b101), .val (.int (0 : Int32)), .unset, .unset]) rfl kq))) ?_
  have f103 := (Et.ext E101)
  have f104 := (Fw.ext E101)
  have f105 := (Fb.ext E101)
  have f106 := (Fu.ext E101)
  have f107 := (Fs.ext E101)
  have f108 := (Fk.ext E101)
  have f109 := (Fz.ext E101)
  have f110 := (Vb.ext E101)
  have f111 := (Vs.ext E101)
  have f112 := (Vk.ext E101)
  exact loop8 hlk hret hx hZ hw hby hml hown hnm t bb bs bk k1 k2 k3 ks kn hk1 hk3 hl hks hck b101 k101 ge_b101 gk_b101 ne_t_b101 ne_bb_b101 ne_bs_b101 ne_bk_b101 (ks.length) (0)  (by omega) X101 e101 N0 O101 K101 ⟨⟨f103, f104, f105, f106, f107, f108, f109⟩, ⟨f110, f111, f112⟩, nq1, nq2, nq3, nq4, nq5, nq6⟩ V102
theorem pn_rm9_0 : plainName "com/example/vestwright/vestwright/cli/TableRowsByKeyPinLaw" = true := by first | (simp [plainName, overriddenIn]; done) | decide +kernel
theorem ef_rm9_0 (m : MethodId) (a : Addr) (b : Addr) (kk : Nat) (ka : ClassId) (kb : ClassId) (q0 : Nat) (q1 : Nat) (q2 : Nat) (q3 : Nat) : entryFrame m #[(.ref a), (.ref b), (.int (0 : Int32)), (.int (Int32.ofNat kk))] 6 = mkF m 0 #[.val (.ref a), .val (.ref b), .val (.int (0 : Int32)), .val (.int (Int32.ofNat kk)), .unset, .unset] [] := by first | (simp [entryFrame, mkF, argsToLocals, Value.category]; done) | rfl
def Q_rm9_0 (Z : State) (h0 : Heap) (n0 : Nat) (a : Addr) (b : Addr) (kk : Nat) (ka : ClassId) (kb : ClassId) (q0 : Nat) (q1 : Nat) (q2 : Nat) (q3 : Nat) (v : Option Value) (h : Heap) (L : List Loc) : Prop := v = some (.int 1) ∧ Fr n0 L ∧ Keep h0 h []
set_option maxRecDepth 65536 in
set_option maxHeartbeats 40000000 in
theorem rm9_0 (l : Launch) (Z : State) (a0 : Array Value) (hw : ∀ d ∈ tables_1, d.before a0 Z = true) (ws : List Jvm.Cond) (h0 : Heap) (n0 : Nat) (O0 : Old Z n0 h0) (a : Addr) (b : Addr) (kk : Nat) (ka : ClassId) (kb : ClassId) (q0 : Nat) (q1 : Nat) (q2 : Nat) (q3 : Nat) (Va : own_Ar Z h0 a ka .int (own_iv (own_ex [] kk))) (Vb : own_Ar Z h0 b kb .int (own_iv [q0, q1, q2, q3])) (hq : q0 < 3 ∧ q1 < 3 ∧ q2 < 3 ∧ q3 < 3 ∧ kk < 3) :
    MetFree l (⟨"com/example/vestwright/vestwright/cli/TableRowsByKeyPinLaw", "same", "([I[III)Z"⟩ : MethodName) (head1 (Jvm.Cond.code (⟨"com/example/vestwright/vestwright/cli/TableRowsByKeyPinLaw", "same", "([I[III)Z"⟩ : MethodName) method_3_code 6 (some .boolean) :: ws) ({ frames := 0, cells := 1, slots := 4, locals := 0 } : Room)) (fun aq U => aq = #[(.ref a), (.ref b), (.int (0 : Int32)), (.int (Int32.ofNat kk))] ∧ Z.Warmed39 U.vm ∧ U.heap = h0) (fun _ _ _ _ _ => True) (fun _ U o U' => ∃ v L, o = .returned v ∧ Q_rm9_0 Z h0 n0 a b kk ka kb q0 q1 q2 q3 v U'.heap L ∧ FrameEnd U o U' L ({ frames := 0, cells := 1, slots := 4, locals := 0 } : Room).cells ({ frames := 0, cells := 1, slots := 4, locals := 0 } : Room).slots) := by
  refine MetFree.of_bodySF (plainFor_of_name pn_rm9_0) hisR ?_
  intro p e s m args below meth c s₁ Bd hml0 hP hK
  obtain ⟨rfl, hZ, hh⟩ := hP
  have hx := Bd.exec
  have hby := Bd.bytes
  have hml : c.maxLocals = 6 := hml0
  have hown : s.vm.findClass "com/example/vestwright/vestwright/cli/TableRowsByKeyPinLaw" = some m.cls := findClass_of_methodNamed Bd.named
  have hnm := (name_of_methodNamed Bd.named Bd.method).1
  have hlk := Bd.notSynchronized
  have hret := Bd.returns
  have X0 : Stand p l e ({ frames := 0, cells := 1, slots := 4, locals := 0 } : Room) s m #[(.ref a), (.ref b), (.int (0 : Int32)), (.int (Int32.ofNat kk))] below meth c s₁ [] 0 0 := Stand.of_body Bd
  have e0 : s₁.heap = h0 := by rw [← hh, Bd.state]; rfl
  have N0 := Fr.nil n0
  have K0 := Keep.refl h0 []
  refine own_go (S' := (s₁.setTop (mkF m 0 #[.val (.ref a), .val (.ref b), .val (.int (0 : Int32)), .val (.int (Int32.ofNat kk)), .unset, .unset] []))) (fun tq kq => castTop (ef_rm9_0 m a b kk ka kb q0 q1 q2 q3) kq) ?_
  show own_G p e s below (Q_rm9_0 Z h0 n0 a b kk ka kb q0 q1 q2 q3) _ _ _
  refine own_go (S' := (s₁.setTop (mkF m 1 #[.val (.ref a), .val (.ref b), .val (.int (0 : Int32)), .val (.int (Int32.ofNat kk)), .unset, .unset] [(.int (4 : Int32))]))) (fun tq kq => XS.iconst X0.here hx rfl (hb hby d9_0) kq) ?_
  obtain ⟨T101, h101, k101, X101, e101, E101, A101, st101⟩ := newP X0 hx hZ (hw _ (List.mem_of_getElem? (i := 0) rfl)) e0 (g := (mkF m 1 #[.val (.ref a), .val (.ref b), .val (.int (0 : Int32)), .val (.int (Int32.ofNat kk)), .unset, .unset] [(.int (4 : Int32))])) rfl (hb hby d9_1) rfl (by decide) (cap := 4) (by decide) (by decide) (by decide) (by decide)
  obtain ⟨b101, g101⟩ : ∃ z, z = h0.size := ⟨_, rfl⟩
  rw [← g101] at A101 st101
  have ne_a_b101 : a ≠ b101 := Nat.ne_of_lt (Nat.lt_of_lt_of_le Va.lt (Nat.le_of_eq g101.symm))
  have ne_b_b101 : b ≠ b101 := Nat.ne_of_lt (Nat.lt_of_lt_of_le Vb.lt (Nat.le_of_eq g101.symm))
  have ge_b101 : n0 ≤ b101 := Nat.le_trans (own_osz O0) (Nat.le_of_eq g101.symm)
  have gk_b101 : h0.size ≤ b101 := Nat.le_trans K0.1 (Nat.le_of_eq g101.symm)
  have V101 : own_Ar Z h101 b101 k101 .int [(.int (0 : Int32)), (.int (0 : Int32)), (.int (0 : Int32)), (.int (0 : Int32))] := own_Ar.new A101 (by decide)
  have O101 := O0.ext E101
  have K101 := K0.ext E101
  refine own_go (S' := (T101.setTop (mkF m 50 #[.val (.ref a), .val (.ref b), .val (.int (0 : Int32)), .val (.int (Int32.ofNat kk)), .val (.ref b101), .val (.int (0 : Int32))] [(.int (0 : Int32))]))) (fun tq kq => st101 tq (XS.astore X101.here hx rfl (hb hby d9_3) rfl rfl (l' := #[.val (.ref a), .val (.ref b), .val (.int (0 : Int32)), .val (.int (Int32.ofNat kk)), .val (.ref b101), .unset]) rfl (XS.iconst X101.here hx rfl (hb hby d9_5) (XS.istore X101.here hx rfl (hb hby d9_6) rfl (l' := #[.val (.ref a), .val (.ref b), .val (.int (0 : Int32)), .val (.int (Int32.ofNat kk)), .val (.ref b101), .val (.int (0 : Int32))]) rfl (XS.iloadN X101.here hx rfl (hb hby d9_8) rfl (XS.ifYes X101.here hx rfl (pc0 := 9) (pc' := 28) rfl (hb hby d9_9) rfl ((if0 _ _).trans (flt (by decide : ¬ ((0 : Int32) < (0 : Int32)))).2.2.2) (by decide) (by decide) (XS.iloadN X101.here hx rfl (hb hby d9_28) rfl (XS.iconst X101.here hx rfl (hb hby d9_29) (XS.icmpYes X101.here hx rfl (pc0 := 30) (pc' := 49) rfl (hb hby d9_30) rfl (flt (by decide : ¬ ((1 : Int32) < (0 : Int32)))).2.2.2 (by decide) (by decide) (XS.iloadN X101.here hx rfl (hb hby d9_49) rfl kq)))))))))) ?_
  refine own_go (S' := (T101.setTop (mkF m 91 #[.val (.ref a), .val (.ref b), .val (.int (0 : Int32)), .val (.int (Int32.ofNat kk)), .val (.ref b101), .val (.int (0 : Int32))] []))) (fun tq kq => XS.iconst X101.here hx rfl (hb hby d9_50) (XS.icmpYes X101.here hx rfl (pc0 := 51) (pc' := 70) rfl (hb hby d9_51) rfl (flt (by decide : ¬ ((2 : Int32) < (0 : Int32)))).2.2.2 (by decide) (by decide) (XS.iloadN X101.here hx rfl (hb hby d9_70) rfl (XS.iconst X101.here hx rfl (hb hby d9_71) (XS.icmpYes X101.here hx rfl (pc0 := 72) (pc' := 91) rfl (hb hby d9_72) rfl (flt (by decide : ¬ ((3 : Int32) < (0 : Int32)))).2.2.2 (by decide) (by decide) kq))))) ?_
  have ex102 : own_ex [] kk = [] := by
    simp only [own_ex, List.length_cons, List.length_nil]
    simp [List.range_succ, List.filter_append, List.getD, List.range_zero]
  rw [ex102] at Va
  refine own_go (S' := (T101.setTop (mkF m 96 #[.val (.ref a), .val (.ref b), .val (.int (0 : Int32)), .val (.int (Int32.ofNat kk)), .val (.ref b101), .val (.int (0 : Int32))] [(.ref a)]))) (fun tq kq => XS.aloadN X101.here hx rfl (hb hby d9_91) rfl rfl (XS.ifnullNo X101.here hx rfl (hb hby d9_92) rfl (XS.aloadN X101.here hx rfl (hb hby d9_95) rfl rfl kq))) ?_
  have f103 := (Va.ext E101)
  obtain ⟨cl104, Ar104, ln104⟩ := f103.len
  have lq104 : cl104.slots.size.toInt32 = (0 : Int32) := ln104.trans rfl
  refine own_go (S' := (T101.setTop (mkF m 138 #[.val (.ref a), .val (.ref b), .val (.int (0 : Int32)), .val (.int (Int32.ofNat kk)), .val (.ref b101), .val (.int (0 : Int32))] [(.int (0 : Int32))]))) (fun tq kq => X101.arraylength hx (by rw [e101]; exact Ar104.1) (State.isArrayOf_alike hZ.alike Ar104.2.1) (g := (mkF m 96 #[.val (.ref a), .val (.ref b), .val (.int (0 : Int32)), .val (.int (Int32.ofNat kk)), .val (.ref b101), .val (.int (0 : Int32))] [(.ref a)])) rfl rfl (hb hby d9_96) tq (by rw [lq104]; exact (XS.iload X101.here hx rfl (hb hby d9_97) rfl (XS.icmpYes X101.here hx rfl (pc0 := 99) (pc' := 104) rfl (hb hby d9_99) rfl (teq (by decide : (0 : Int32) = (0 : Int32))).1 (by decide) (by decide) (XS.iload X101.here hx rfl (hb hby d9_104) rfl (XS.iconst X101.here hx rfl (hb hby d9_106) (XS.icmpYes X101.here hx rfl (pc0 := 107) (pc' := 120) rfl (hb hby d9_107) rfl (tlt (by decide : (0 : Int32) < (1 : Int32))).1 (by decide) (by decide) (XS.iload X101.here hx rfl (hb hby d9_120) rfl (XS.iconst X101.here hx rfl (hb hby d9_122) (XS.icmpYes X101.here hx rfl (pc0 := 123) (pc' := 136) rfl (hb hby d9_123) rfl (tlt (by decide : (0 : Int32) < (2 : Int32))).1 (by decide) (by decide) (XS.iload X101.here hx rfl (hb hby d9_136) rfl kq))))))))))) ?_
  refine own_go (S' := (T101.setTop (mkF m 173 #[.val (.ref a), .val (.ref b), .val (.int (0 : Int32)), .val (.int (Int32.ofNat kk)), .val (.ref b101), .val (.int (0 : Int32))] [(.int (1 : Int32))]))) (fun tq kq => XS.iconst X101.here hx rfl (hb hby d9_138) (XS.icmpYes X101.here hx rfl (pc0 := 139) (pc' := 152) rfl (hb hby d9_139) rfl (tlt (by decide : (0 : Int32) < (3 : Int32))).1 (by decide) (by decide) (XS.iload X101.here hx rfl (hb hby d9_152) rfl (XS.iconst X101.here hx rfl (hb hby d9_154) (XS.icmpYes X101.here hx rfl (pc0 := 155) (pc' := 168) rfl (hb hby d9_155) rfl (tlt (by decide : (0 : Int32) < (4 : Int32))).1 (by decide) (by decide) (XS.iconst X101.here hx rfl (hb hby d9_168) (XS.goto X101.here hx rfl (pc0 := 169) (pc' := 173) rfl (hb hby d9_169) (by decide) (by decide) kq))))))) ?_
  refine own_retN X101 hx hlk hret (by simp) (hb hby d9_173) (by decide) (by decide) ?_
  rw [e101]
  exact ⟨rfl, N0, K101⟩
theorem pn_rm9_1 : plainName "com/example/vestwright/vestwright/cli/TableRowsByKeyPinLaw" = true := by first | (simp [plainName, overriddenIn]; done) | decide +kernel
theorem ef_rm9_1 (m : MethodId) (a : Addr) (b : Addr) (kk : Nat) (ka : ClassId) (kb : ClassId) (q0 : Nat) (q1 : Nat) (q2 : Nat) (q3 : Nat) : entryFrame m #[(.ref a), (.ref b), (.int (1 : Int32)), (.int (Int32.ofNat kk))] 6 = mkF m 0 #[.val (.ref a), .val (.ref b), .val (.int (1 : Int32)), .val (.int (Int32.ofNat kk)), .unset, .unset] [] := by first | (simp [entryFrame, mkF, argsToLocals, Value.category]; done) | rfl
def Q_rm9_1 (Z : State) (h0 : Heap) (n0 : Nat) (a : Addr) (b : Addr) (kk : Nat) (ka : ClassId) (kb : ClassId) (q0 : Nat) (q1 : Nat) (q2 : Nat) (q3 : Nat) (v : Option Value) (h : Heap) (L : List Loc) : Prop := v = some (.int 1) ∧ Fr n0 L ∧ Keep h0 h []
set_option maxRecDepth 65536 in
set_option maxHeartbeats 40000000 in
theorem rm9_1 (l : Launch) (Z : State) (a0 : Array Value) (hw : ∀ d ∈ tables_1, d.before a0 Z = true) (ws : List Jvm.Cond) (h0 : Heap) (n0 : Nat) (O0 : Old Z n0 h0) (a : Addr) (b : Addr) (kk : Nat) (ka : ClassId) (kb : ClassId) (q0 : Nat) (q1 : Nat) (q2 : Nat) (q3 : Nat) (Va : own_Ar Z h0 a ka .int (own_iv (own_ex [q0] kk))) (Vb : own_Ar Z h0 b kb .int (own_iv [q0, q1, q2, q3])) (hq : q0 < 3 ∧ q1 < 3 ∧ q2 < 3 ∧ q3 < 3 ∧ kk < 3) :
    MetFree l (⟨"com/example/vestwright/vestwright/cli/TableRowsByKeyPinLaw", "same", "([I[III)Z"⟩ : MethodName) (head1 (Jvm.Cond.code (⟨"com/example/vestwright/vestwright/cli/TableRowsByKeyPinLaw", "same", "([I[III)Z"⟩ : MethodName) method_3_code 6 (some .boolean) :: ws) ({ frames := 0, cells := 1, slots := 4, locals := 0 } : Room)) (fun aq U => aq = #[(.ref a), (.ref b), (.int (1 : Int32)), (.int (Int32.ofNat kk))] ∧ Z.Warmed39 U.vm ∧ U.heap = h0) (fun _ _ _ _ _ => True) (fun _ U o U' => ∃ v L, o = .returned v ∧ Q_rm9_1 Z h0 n0 a b kk ka kb q0 q1 q2 q3 v U'.heap L ∧ FrameEnd U o U' L ({ frames := 0, cells := 1, slots := 4, locals := 0 } : Room).cells ({ frames := 0, cells := 1, slots := 4, locals := 0 } : Room).slots) := by
  refine MetFree.of_bodySF (plainFor_of_name pn_rm9_1) hisR ?_
  intro p e s m args below meth c s₁ Bd hml0 hP hK
  obtain ⟨rfl, hZ, hh⟩ := hP
  have hx := Bd.exec
  have hby := Bd.bytes
  have hml : c.maxLocals = 6 := hml0
  have hown : s.vm.findClass "com/example/vestwright/vestwright/cli/TableRowsByKeyPinLaw" = some m.cls := findClass_of_methodNamed Bd.named
  have hnm := (name_of_methodNamed Bd.named Bd.method).1
  have hlk := Bd.notSynchronized
  have hret := Bd.returns
  have X0 : Stand p l e ({ frames := 0, cells := 1, slots := 4, locals := 0 } : Room) s m #[(.ref a), (.ref b), (.int (1 : Int32)), (.int (Int32.ofNat kk))] below meth c s₁ [] 0 0 := Stand.of_body Bd
  have e0 : s₁.heap = h0 := by rw [← hh, Bd.state]; rfl
  have N0 := Fr.nil n0
  have K0 := Keep.refl h0 []
  refine own_go (S' := (s₁.setTop (mkF m 0 #[.val (.ref a), .val (.ref b), .val (.int (1 : Int32)), .val (.int (Int32.ofNat kk)), .unset, .unset] []))) (fun tq kq => castTop (ef_rm9_1 m a b kk ka kb q0 q1 q2 q3) kq) ?_
  show own_G p e s below (Q_rm9_1 Z h0 n0 a b kk ka kb q0 q1 q2 q3) _ _ _
  refine own_go (S' := (s₁.setTop (mkF m 1 #[.val (.ref a), .val (.ref b), .val (.int (1 : Int32)), .val (.int (Int32.ofNat kk)), .unset, .unset] [(.int (4 : Int32))]))) (fun tq kq => XS.iconst X0.here hx rfl (hb hby d9_0) kq) ?_
  obtain ⟨T101, h101, k101, X101, e101, E101, A101, st101⟩ := newP X0 hx hZ (hw _ (List.mem_of_getElem? (i := 0) rfl)) e0 (g := (mkF m 1 #[.val (.ref a), .val (.ref b), .val (.int (1 : Int32)), .val (.int (Int32.ofNat kk)), .unset, .unset] [(.int (4 : Int32))])) rfl (hb hby d9_1) rfl (by decide) (cap := 4) (by decide) (by decide) (by decide) (by decide)
  obtain ⟨b101, g101⟩ : ∃ z, z = h0.size := ⟨_, rfl⟩
  rw [← g101] at A101 st101
  have ne_a_b101 : a ≠ b101 := Nat.ne_of_lt (Nat.lt_of_lt_of_le Va.lt (Nat.le_of_eq g101.symm))
  have ne_b_b101 : b ≠ b101 := Nat.ne_of_lt (Nat.lt_of_lt_of_le Vb.lt (Nat.le_of_eq g101.symm))
  have ge_b101 : n0 ≤ b101 := Nat.le_trans (own_osz O0) (Nat.le_of_eq g101.symm)
  have gk_b101 : h0.size ≤ b101 := Nat.le_trans K0.1 (Nat.le_of_eq g101.symm)
  have V101 : own_Ar Z h101 b101 k101 .int [(.int (0 : Int32)), (.int (0 : Int32)), (.int (0 : Int32)), (.int (0 : Int32))] := own_Ar.new A101 (by decide)
  have O101 := O0.ext E101
  have K101 := K0.ext E101
  refine own_go (S' := (T101.setTop (mkF m 14 #[.val (.ref a), .val (.ref b), .val (.int (1 : Int32)), .val (.int (Int32.ofNat kk)), .val (.ref b101), .val (.int (0 : Int32))] [(.int (0 : Int32)), (.ref b)]))) (fun tq kq => st101 tq (XS.astore X101.here hx rfl (hb hby d9_3) rfl rfl (l' := #[.val (.ref a), .val (.ref b), .val (.int (1 : Int32)), .val (.int (Int32.ofNat kk)), .val (.ref b101), .unset]) rfl (XS.iconst X101.here hx rfl (hb hby d9_5) (XS.istore X101.here hx rfl (hb hby d9_6) rfl (l' := #[.val (.ref a), .val (.ref b), .val (.int (1 : Int32)), .val (.int (Int32.ofNat kk)), .val (.ref b101), .val (.int (0 : Int32))]) rfl (XS.iloadN X101.here hx rfl (hb hby d9_8) rfl (XS.ifNo X101.here hx rfl (hb hby d9_9) rfl ((if0 _ _).trans (tlt (by decide : (0 : Int32) < (1 : Int32))).2.2.2) (XS.aloadN X101.here hx rfl (hb hby d9_12) rfl rfl (XS.iconst X101.here hx rfl (hb hby d9_13) kq)))))))) ?_
  have f102 := (Vb.ext E101)
  obtain ⟨cl103, Ar103, -, -, hin103, hat103⟩ := f102.at (j := (0 : Int32)) (v := (.int (Int32.ofNat q0))) (by decide) rfl
  refine own_go (S' := (T101.setTop (mkF m 16 #[.val (.ref a), .val (.ref b), .val (.int (1 : Int32)), .val (.int (Int32.ofNat kk)), .val (.ref b101), .val (.int (0 : Int32))] [(.int (Int32.ofNat kk)), (.int (Int32.ofNat q0))]))) (fun tq kq => X101.iaload hx (j := (0 : Int32)) (v := (.int (Int32.ofNat q0))) (by rw [e101]; exact Ar103.1) (State.isArrayOf_alike hZ.alike Ar103.2.1) Ar103.2.2 hin103 hat103 (g := (mkF m 14 #[.val (.ref a), .val (.ref b), .val (.int (1 : Int32)), .val (.int (Int32.ofNat kk)), .val (.ref b101), .val (.int (0 : Int32))] [(.int (0 : Int32)), (.ref b)])) rfl rfl (hb hby d9_14) tq (XS.iloadN X101.here hx rfl (hb hby d9_15) rfl kq)) ?_
  by_cases hc104 : (Int32.ofNat q0) = (Int32.ofNat kk)
  · refine own_go (S' := (T101.setTop (mkF m 24 #[.val (.ref a), .val (.ref b), .val (.int (1 : Int32)), .val (.int (Int32.ofNat kk)), .val (.ref b101), .val (.int (0 : Int32))] [(.int (0 : Int32)), (.int (0 : Int32)), (.ref b101)]))) (fun tq kq => XS.icmpNo X101.here hx rfl (hb hby d9_16) rfl (teq hc104).2 (XS.aload X101.here hx rfl (hb hby d9_19) rfl rfl (XS.iload X101.here hx rfl (hb hby d9_21) rfl (XS.iconst X101.here hx rfl (hb hby d9_23) kq)))) ?_
    obtain ⟨cl105, Ar105, qa105, sa105, hin105, -⟩ := V101.at (j := (0 : Int32)) (by decide) rfl
    obtain ⟨T105, h105, X105, e105, W105, st105⟩ := stI X101 hx hZ e101 Ar105 (j := (0 : Int32)) hin105 (g := (mkF m 24 #[.val (.ref a), .val (.ref b), .val (.int (1 : Int32)), .val (.int (Int32.ofNat kk)), .val (.ref b101), .val (.int (0 : Int32))] [(.int (0 : Int32)), (.int (0 : Int32)), (.ref b101)])) rfl rfl (hb hby d9_24)
    have N105 := Fr.snoc X105 N0 ge_b101
    have O105 := O101.wr W105 ge_b101
    have K105 := K101.wr W105 (Or.inr gk_b101)
    have V105 : own_Ar Z h105 b101 k101 .int [(.int (0 : Int32)), (.int (0 : Int32)), (.int (0 : Int32)), (.int (0 : Int32))] := own_Ar.set Ar105 qa105 sa105 V101.small W105
    refine own_go (S' := (T105.setTop (mkF m 72 #[.val (.ref a), .val (.ref b), .val (.int (1 : Int32)), .val (.int (Int32.ofNat kk)), .val (.ref b101), .val (.int (1 : Int32))] [(.int (3 : Int32)), (.int (1 : Int32))]))) (fun tq kq => st105 tq (XS.iinc X105.here hx rfl (hb hby d9_25) rfl (l' := #[.val (.ref a), .val (.ref b), .val (.int (1 : Int32)), .val (.int (Int32.ofNat kk)), .val (.ref b101), .val (.int (1 : Int32))]) rfl (XS.iloadN X105.here hx rfl (hb hby d9_28) rfl (XS.iconst X105.here hx rfl (hb hby d9_29) (XS.icmpYes X105.here hx rfl (pc0 := 30) (pc' := 49) rfl (hb hby d9_30) rfl (flt (by decide : ¬ ((1 : Int32) < (1 : Int32)))).2.2.2 (by decide) (by decide) (XS.iloadN X105.here hx rfl (hb hby d9_49) rfl (XS.iconst X105.here hx rfl (hb hby d9_50) (XS.icmpYes X105.here hx rfl (pc0 := 51) (pc' := 70) rfl (hb hby d9_51) rfl (flt (by decide : ¬ ((2 : Int32) < (1 : Int32)))).2.2.2 (by decide) (by decide) (XS.iloadN X105.here hx rfl (hb hby d9_70) rfl (XS.iconst X105.here hx rfl (hb hby d9_71) kq)))))))))) ?_
    refine own_go (S' := (T105.setTop (mkF m 91 #[.val (.ref a), .val (.ref b), .val (.int (1 : Int32)), .val (.int (Int32.ofNat kk)), .val (.ref b101), .val (.int (1 : Int32))] []))) (fun tq kq => XS.icmpYes X105.here hx rfl (pc0 := 72) (pc' := 91) rfl (hb hby d9_72) rfl (flt (by decide : ¬ ((3 : Int32) < (1 : Int32)))).2.2.2 (by decide) (by decide) kq) ?_
    have hq107 : q0 = kk := (own_eqN (by omega) (by omega)).mp hc104
    have ex106 : own_ex [q0] kk = [0] := by
      simp only [own_ex, List.length_cons, List.length_nil]
      simp [List.range_succ, List.filter_append, List.getD, hq107]
    rw [ex106] at Va
    refine own_go (S' := (T105.setTop (mkF m 96 #[.val (.ref a), .val (.ref b), .val (.int (1 : Int32)), .val (.int (Int32.ofNat kk)), .val (.ref b101), .val (.int (1 : Int32))] [(.ref a)]))) (fun tq kq => XS.aloadN X105.here hx rfl (hb hby d9_91) rfl rfl (XS.ifnullNo X105.here hx rfl (hb hby d9_92) rfl (XS.aloadN X105.here hx rfl (hb hby d9_95) rfl rfl kq))) ?_
    have f108 := ((Va.ext E101).other W105 ne_a_b101)
    obtain ⟨cl109, Ar109, ln109⟩ := f108.len
    have lq109 : cl109.slots.size.toInt32 = (1 : Int32) := ln109.trans rfl
    refine own_go (S' := (T105.setTop (mkF m 112 #[.val (.ref a), .val (.ref b), .val (.int (1 : Int32)), .val (.int (Int32.ofNat kk)), .val (.ref b101), .val (.int (1 : Int32))] [(.int (0 : Int32)), (.ref a)]))) (fun tq kq => X105.arraylength hx (by rw [e105]; exact Ar109.1) (State.isArrayOf_alike hZ.alike Ar109.2.1) (g := (mkF m 96 #[.val (.ref a), .val (.ref b), .val (.int (1 : Int32)), .val (.int (Int32.ofNat kk)), .val (.ref b101), .val (.int (1 : Int32))] [(.ref a)])) rfl rfl (hb hby d9_96) tq (by rw [lq109]; exact (XS.iload X105.here hx rfl (hb hby d9_97) rfl (XS.icmpYes X105.here hx rfl (pc0 := 99) (pc' := 104) rfl (hb hby d9_99) rfl (teq (by decide : (1 : Int32) = (1 : Int32))).1 (by decide) (by decide) (XS.iload X105.here hx rfl (hb hby d9_104) rfl (XS.iconst X105.here hx rfl (hb hby d9_106) (XS.icmpNo X105.here hx rfl (hb hby d9_107) rfl (flt (by decide : ¬ ((1 : Int32) < (1 : Int32)))).1 (XS.aloadN X105.here hx rfl (hb hby d9_110) rfl rfl (XS.iconst X105.here hx rfl (hb hby d9_111) kq))))))))) ?_
    obtain ⟨cl110, Ar110, -, -, hin110, hat110⟩ := f108.at (j := (0 : Int32)) (v := (.int (0 : Int32))) (by decide) rfl
    refine own_go (S' := (T105.setTop (mkF m 116 #[.val (.ref a), .val (.ref b), .val (.int (1 : Int32)), .val (.int (Int32.ofNat kk)), .val (.ref b101), .val (.int (1 : Int32))] [(.int (0 : Int32)), (.ref b101), (.int (0 : Int32))]))) (fun tq kq => X105.iaload hx (j := (0 : Int32)) (v := (.int (0 : Int32))) (by rw [e105]; exact Ar110.1) (State.isArrayOf_alike hZ.alike Ar110.2.1) Ar110.2.2 hin110 hat110 (g := (mkF m 112 #[.val (.ref a), .val (.ref b), .val (.int (1 : Int32)), .val (.int (Int32.ofNat kk)), .val (.ref b101), .val (.int (1 : Int32))] [(.int (0 : Int32)), (.ref a)])) rfl rfl (hb hby d9_112) tq (XS.aload X105.here hx rfl (hb hby d9_113) rfl rfl (XS.iconst X105.here hx rfl (hb hby d9_115) kq))) ?_
    obtain ⟨cl111, Ar111, -, -, hin111, hat111⟩ := V105.at (j := (0 : Int32)) (v := (.int (0 : Int32))) (by decide) rfl
    refine own_go (S' := (T105.setTop (mkF m 155 #[.val (.ref a), .val (.ref b), .val (.int (1 : Int32)), .val (.int (Int32.ofNat kk)), .val (.ref b101), .val (.int (1 : Int32))] [(.int (4 : Int32)), (.int (1 : Int32))]))) (fun tq kq => X105.iaload hx (j := (0 : Int32)) (v := (.int (0 : Int32))) (by rw [e105]; exact Ar111.1) (State.isArrayOf_alike hZ.alike Ar111.2.1) Ar111.2.2 hin111 hat111 (g := (mkF m 116 #[.val (.ref a), .val (.ref b), .val (.int (1 : Int32)), .val (.int (Int32.ofNat kk)), .val (.ref b101), .val (.int (1 : Int32))] [(.int (0 : Int32)), (.ref b101), (.int (0 : Int32))])) rfl rfl (hb hby d9_116) tq (XS.icmpNo X105.here hx rfl (hb hby d9_117) rfl (teq (by decide : (0 : Int32) = (0 : Int32))).2 (XS.iload X105.here hx rfl (hb hby d9_120) rfl (XS.iconst X105.here hx rfl (hb hby d9_122) (XS.icmpYes X105.here hx rfl (pc0 := 123) (pc' := 136) rfl (hb hby d9_123) rfl (tlt (by decide : (1 : Int32) < (2 : Int32))).1 (by decide) (by decide) (XS.iload X105.here hx rfl (hb hby d9_136) rfl (XS.iconst X105.here hx rfl (hb hby d9_138) (XS.icmpYes X105.here hx rfl (pc0 := 139) (pc' := 152) rfl (hb hby d9_139) rfl (tlt (by decide : (1 : Int32) < (3 : Int32))).1 (by decide) (by decide) (XS.iload X105.here hx rfl (hb hby d9_152) rfl (XS.iconst X105.here hx rfl (hb hby d9_154) kq)))))))))) ?_
    refine own_go (S' := (T105.setTop (mkF m 173 #[.val (.ref a), .val (.ref b), .val (.int (1 : Int32)), .val (.int (Int32.ofNat kk)), .val (.ref b101), .val (.int (1 : Int32))] [(.int (1 : Int32))]))) (fun tq kq => XS.icmpYes X105.here hx rfl (pc0 := 155) (pc' := 168) rfl (hb hby d9_155) rfl (tlt (by decide : (1 : Int32) < (4 : Int32))).1 (by decide) (by decide) (XS.iconst X105.here hx rfl (hb hby d9_168) (XS.goto X105.here hx rfl (pc0 := 169) (pc' := 173) rfl (hb hby d9_169) (by decide) (by decide) kq))) ?_
    refine own_retN X105 hx hlk hret (by simp) (hb hby d9_173) (by decide) (by decide) ?_
    rw [e105]
    exact ⟨rfl, N105, K105⟩
  · refine own_go (S' := (T101.setTop (mkF m 91 #[.val (.ref a), .val (.ref b), .val (.int (1 : Int32)), .val (.int (Int32.ofNat kk)), .val (.ref b101), .val (.int (0 : Int32))] []))) (fun tq kq => XS.icmpYes X101.here hx rfl (pc0 := 16) (pc' := 28) rfl (hb hby d9_16) rfl (feq hc104).2 (by decide) (by decide) (XS.iloadN X101.here hx rfl (hb hby d9_28) rfl (XS.iconst X101.here hx rfl (hb hby d9_29) (XS.icmpYes X101.here hx rfl (pc0 := 30) (pc' := 49) rfl (hb hby d9_30) rfl (flt (by decide : ¬ ((1 : Int32) < (1 : Int32)))).2.2.2 (by decide) (by decide) (XS.iloadN X101.here hx rfl (hb hby d9_49) rfl (XS.iconst X101.here hx rfl (hb hby d9_50) (XS.icmpYes X101.here hx rfl (pc0 := 51) (pc' := 70) rfl (hb hby d9_51) rfl (flt (by decide : ¬ ((2 : Int32) < (1 : Int32)))).2.2.2 (by decide) (by decide) (XS.iloadN X101.here hx rfl (hb hby d9_70) rfl (XS.iconst X101.here hx rfl (hb hby d9_71) (XS.icmpYes X101.here hx rfl (pc0 := 72) (pc' := 91) rfl (hb hby d9_72) rfl (flt (by decide : ¬ ((3 : Int32) < (1 : Int32)))).2.2.2 (by decide) (by decide) kq)))))))))) ?_
    have hq113 : ¬ (q0 = kk) := fun z => hc104 (congrArg Int32.ofNat z)
    have ex112 : own_ex [q0] kk = [] := by
      simp only [own_ex, List.length_cons, List.length_nil]
      simp [List.range_succ, List.filter_append, List.getD, hq113]
    rw [ex112] at Va
    refine own_go (S' := (T101.setTop (mkF m 96 #[.val (.ref a), .val (.ref b), .val (.int (1 : Int32)), .val (.int (Int32.ofNat kk)), .val (.ref b101), .val (.int (0 : Int32))] [(.ref a)]))) (fun tq kq => XS.aloadN X101.here hx rfl (hb hby d9_91) rfl rfl (XS.ifnullNo X101.here hx rfl (hb hby d9_92) rfl (XS.aloadN X101.here hx rfl (hb hby d9_95) rfl rfl kq))) ?_
    have f114 := (Va.ext E101)
    obtain ⟨cl115, Ar115, ln115⟩ := f114.len
    have lq115 : cl115.slots.size.toInt32 = (0 : Int32) := ln115.trans rfl
    refine own_go (S' := (T101.setTop (mkF m 138 #[.val (.ref a), .val (.ref b), .val (.int (1 : Int32)), .val (.int (Int32.ofNat kk)), .val (.ref b101), .val (.int (0 : Int32))] [(.int (0 : Int32))]))) (fun tq kq => X101.arraylength hx (by rw [e101]; exact Ar115.1) (State.isArrayOf_alike hZ.alike Ar115.2.1) (g := (mkF m 96 #[.val (.ref a), .val (.ref b), .val (.int (1 : Int32)), .val (.int (Int32.ofNat kk)), .val (.ref b101), .val (.int (0 : Int32))] [(.ref a)])) rfl rfl (hb hby d9_96) tq (by rw [lq115]; exact (XS.iload X101.here hx rfl (hb hby d9_97) rfl (XS.icmpYes X101.here hx rfl (pc0 := 99) (pc' := 104) rfl (hb hby d9_99) rfl (teq (by decide : (0 : Int32) = (0 : Int32))).1 (by decide) (by decide) (XS.iload X101.here hx rfl (hb hby d9_104) rfl (XS.iconst X101.here hx rfl (hb hby d9_106) (XS.icmpYes X101.here hx rfl (pc0 := 107) (pc' := 120) rfl (hb hby d9_107) rfl (tlt (by decide : (0 : Int32) < (1 : Int32))).1 (by decide) (by decide) (XS.iload X101.here hx rfl (hb hby d9_120) rfl (XS.iconst X101.here hx rfl (hb hby d9_122) (XS.icmpYes X101.here hx rfl (pc0 := 123) (pc' := 136) rfl (hb hby d9_123) rfl (tlt (by decide : (0 : Int32) < (2 : Int32))).1 (by decide) (by decide) (XS.iload X101.here hx rfl (hb hby d9_136) rfl kq))))))))))) ?_
    refine own_go (S' := (T101.setTop (mkF m 173 #[.val (.ref a), .val (.ref b), .val (.int (1 : Int32)), .val (.int (Int32.ofNat kk)), .val (.ref b101), .val (.int (0 : Int32))] [(.int (1 : Int32))]))) (fun tq kq => XS.iconst X101.here hx rfl (hb hby d9_138) (XS.icmpYes X101.here hx rfl (pc0 := 139) (pc' := 152) rfl (hb hby d9_139) rfl (tlt (by decide : (0 : Int32) < (3 : Int32))).1 (by decide) (by decide) (XS.iload X101.here hx rfl (hb hby d9_152) rfl (XS.iconst X101.here hx rfl (hb hby d9_154) (XS.icmpYes X101.here hx rfl (pc0 := 155) (pc' := 168) rfl (hb hby d9_155) rfl (tlt (by decide : (0 : Int32) < (4 : Int32))).1 (by decide) (by decide) (XS.iconst X101.here hx rfl (hb hby d9_168) (XS.goto X101.here hx rfl (pc0 := 169) (pc' := 173) rfl (hb hby d9_169) (by decide) (by decide) kq))))))) ?_
    refine own_retN X101 hx hlk hret (by simp) (hb hby d9_173) (by decide) (by decide) ?_
    rw [e101]
    exact ⟨rfl, N0, K101⟩
theorem pn_rm9_2 : plainName "com/example/vestwright/vestwright/cli/TableRowsByKeyPinLaw" = true := by first | (simp [plainName, overriddenIn]; done) | decide +kernel
theorem ef_rm9_2 (m : MethodId) (a : Addr) (b : Addr) (kk : Nat) (ka : ClassId) (kb : ClassId) (q0 : Nat) (q1 : Nat) (q2 : Nat) (q3 : Nat) : entryFrame m #[(.ref a), (.ref b), (.int (2 : Int32)), (.int (Int32.ofNat kk))] 6 = mkF m 0 #[.val (.ref a), .val (.ref b), .val (.int (2 : Int32)), .val (.int (Int32.ofNat kk)), .unset, .unset] [] := by first | (simp [entryFrame, mkF, argsToLocals, Value.category]; done) | rfl
def Q_rm9_2 (Z : State) (h0 : Heap) (n0 : Nat) (a : Addr) (b : Addr) (kk : Nat) (ka : ClassId) (kb : ClassId) (q0 : Nat) (q1 : Nat) (q2 : Nat) (q3 : Nat) (v : Option Value) (h : Heap) (L : List Loc) : Prop := v = some (.int 1) ∧ Fr n0 L ∧ Keep h0 h []
set_option maxRecDepth 65536 in
set_option maxHeartbeats 40000000 in
theorem rm9_2 (l : Launch) (Z : State) (a0 : Array Value) (hw : ∀ d ∈ tables_1, d.before a0 Z = true) (ws : List Jvm.Cond) (h0 : Heap) (n0 : Nat) (O0 : Old Z n0 h0) (a : Addr) (b : Addr) (kk : Nat) (ka : ClassId) (kb : ClassId) (q0 : Nat) (q1 : Nat) (q2 : Nat) (q3 : Nat) (Va : own_Ar Z h0 a ka .int (own_iv (own_ex [q0, q1] kk))) (Vb : own_Ar Z h0 b kb .int (own_iv [q0, q1, q2, q3])) (hq : q0 < 3 ∧ q1 < 3 ∧ q2 < 3 ∧ q3 < 3 ∧ kk < 3) :
    MetFree l (⟨"com/example/vestwright/vestwright/cli/TableRowsByKeyPinLaw", "same", "([I[III)Z"⟩ : MethodName) (head1 (Jvm.Cond.code (⟨"com/example/vestwright/vestwright/cli/TableRowsByKeyPinLaw", "same", "([I[III)Z"⟩ : MethodName) method_3_code 6 (some .boolean) :: ws) ({ frames := 0, cells := 1, slots := 4, locals := 0 } : Room)) (fun aq U => aq = #[(.ref a), (.ref b), (.int (2 : Int32)), (.int (Int32.ofNat kk))] ∧ Z.Warmed39 U.vm ∧ U.heap = h0) (fun _ _ _ _ _ => True) (fun _ U o U' => ∃ v L, o = .returned v ∧ Q_rm9_2 Z h0 n0 a b kk ka kb q0 q1 q2 q3 v U'.heap L ∧ FrameEnd U o U' L ({ frames := 0, cells := 1, slots := 4, locals := 0 } : Room).cells ({ frames := 0, cells := 1, slots := 4, locals := 0 } : Room).slots) := by
  refine MetFree.of_bodySF (plainFor_of_name pn_rm9_2) hisR ?_
  intro p e s m args below meth c s₁ Bd hml0 hP hK
  obtain ⟨rfl, hZ, hh⟩ := hP
  have hx := Bd.exec
  have hby := Bd.bytes
  have hml : c.maxLocals = 6 := hml0
  have hown : s.vm.findClass "com/example/vestwright/vestwright/cli/TableRowsByKeyPinLaw" = some m.cls := findClass_of_methodNamed Bd.named
  have hnm := (name_of_methodNamed Bd.named Bd.method).1
  have hlk := Bd.notSynchronized
  have hret := Bd.returns
  have X0 : Stand p l e ({ frames := 0, cells := 1, slots := 4, locals := 0 } : Room) s m #[(.ref a), (.ref b), (.int (2 : Int32)), (.int (Int32.ofNat kk))] below meth c s₁ [] 0 0 := Stand.of_body Bd
  have e0 : s₁.heap = h0 := by rw [← hh, Bd.state]; rfl
  have N0 := Fr.nil n0
  have K0 := Keep.refl h0 []
  refine own_go (S' := (s₁.setTop (mkF m 0 #[.val (.ref a), .val (.ref b), .val (.int (2 : Int32)), .val (.int (Int32.ofNat kk)), .unset, .unset] []))) (fun tq kq => castTop (ef_rm9_2 m a b kk ka kb q0 q1 q2 q3) kq) ?_
  show own_G p e s below (Q_rm9_2 Z h0 n0 a b kk ka kb q0 q1 q2 q3) _ _ _
  refine own_go (S' := (s₁.setTop (mkF m 1 #[.val (.ref a), .val (.ref b), .val (.int (2 : Int32)), .val (.int (Int32.ofNat kk)), .unset, .unset] [(.int (4 : Int32))]))) (fun tq kq => XS.iconst X0.here hx rfl (hb hby d9_0) kq) ?_
  obtain ⟨T101, h101, k101, X101, e101, E101, A101, st101⟩ := newP X0 hx hZ (hw _ (List.mem_of_getElem? (i := 0) rfl)) e0 (g := (mkF m 1 #[.val (.ref a), .val (.ref b), .val (.int (2 : Int32)), .val (.int (Int32.ofNat kk)), .unset, .unset] [(.int (4 : Int32))])) rfl (hb hby d9_1) rfl (by decide) (cap := 4) (by decide) (by decide) (by decide) (by decide)
  obtain ⟨b101, g101⟩ : ∃ z, z = h0.size := ⟨_, rfl⟩
  rw [← g101] at A101 st101
  have ne_a_b101 : a ≠ b101 := Nat.ne_of_lt (Nat.lt_of_lt_of_le Va.lt (Nat.le_of_eq g101.symm))
  have ne_b_b101 : b ≠ b101 := Nat.ne_of_lt (Nat.lt_of_lt_of_le Vb.lt (Nat.le_of_eq g101.symm))
  have ge_b101 : n0 ≤ b101 := Nat.le_trans (own_osz O0) (Nat.le_of_eq g101.symm)
  have gk_b101 : h0.size ≤ b101 := Nat.le_trans K0.1 (Nat.le_of_eq g101.symm)
  have V101 : own_Ar Z h101 b101 k101 .int [(.int (0 : Int32)), (.int (0 : Int32)), (.int (0 : Int32)), (.int (0 : Int32))] := own_Ar.new A101 (by decide)
  have O101 := O0.ext E101
  have K101 := K0.ext E101
  refine own_go (S' := (T101.setTop (mkF m 14 #[.val (.ref a), .val (.ref b), .val (.int (2 : Int32)), .val (.int (Int32.ofNat kk)), .val (.ref b101), .val (.int (0 : Int32))] [(.int (0 : Int32)), (.ref b)]))) (fun tq kq => st101 tq (XS.astore X101.here hx rfl (hb hby d9_3) rfl rfl (l' := #[.val (.ref a), .val (.ref b), .val (.int (2 : Int32)), .val (.int (Int32.ofNat kk)), .val (.ref b101), .unset]) rfl (XS.iconst X101.here hx rfl (hb hby d9_5) (XS.istore X101.here hx rfl (hb hby d9_6) rfl (l' := #[.val (.ref a), .val (.ref b), .val (.int (2 : Int32)), .val (.int (Int32.ofNat kk)), .val (.ref b101), .val (.int (0 : Int32))]) rfl (XS.iloadN X101.here hx rfl (hb hby d9_8) rfl (XS.ifNo X101.here hx rfl (hb hby d9_9) rfl ((if0 _ _).trans (tlt (by decide : (0 : Int32) < (2 : Int32))).2.2.2) (XS.aloadN X101.here hx rfl (hb hby d9_12) rfl rfl (XS.iconst X101.here hx rfl (hb hby d9_13) kq)))))))) ?_
  have f102 := (Vb.ext E101)
  obtain ⟨cl103, Ar103, -, -, hin103, hat103⟩ := f102.at (j := (0 : Int32)) (v := (.int (Int32.ofNat q0))) (by decide) rfl
  refine own_go (S' := (T101.setTop (mkF m 16 #[.val (.ref a), .val (.ref b), .val (.int (2 : Int32)), .val (.int (Int32.ofNat kk)), .val (.ref b101), .val (.int (0 : Int32))] [(.int (Int32.ofNat kk)), (.int (Int32.ofNat q0))]))) (fun tq kq => X101.iaload hx (j := (0 : Int32)) (v := (.int (Int32.ofNat q0))) (by rw [e101]; exact Ar103.1) (State.isArrayOf_alike hZ.alike Ar103.2.1) Ar103.2.2 hin103 hat103 (g := (mkF m 14 #[.val (.ref a), .val (.ref b), .val (.int (2 : Int32)), .val (.int (Int32.ofNat kk)), .val (.ref b101), .val (.int (0 : Int32))] [(.int (0 : Int32)), (.ref b)])) rfl rfl (hb hby d9_14) tq (XS.iloadN X101.here hx rfl (hb hby d9_15) rfl kq)) ?_
  by_cases hc104 : (Int32.ofNat q0) = (Int32.ofNat kk)
  · refine own_go (S' := (T101.setTop (mkF m 24 #[.val (.ref a), .val (.ref b), .val (.int (2 : Int32)), .val (.int (Int32.ofNat kk)), .val (.ref b101), .val (.int (0 : Int32))] [(.int (0 : Int32)), (.int (0 : Int32)), (.ref b101)]))) (fun tq kq => XS.icmpNo X101.here hx rfl (hb hby d9_16) rfl (teq hc104).2 (XS.aload X101.here hx rfl (hb hby d9_19) rfl rfl (XS.iload X101.here hx rfl (hb hby d9_21) rfl (XS.iconst X101.here hx rfl (hb hby d9_23) kq)))) ?_
    obtain ⟨cl105, Ar105, qa105, sa105, hin105, -⟩ := V101.at (j := (0 : Int32)) (by decide) rfl
    obtain ⟨T105, h105, X105, e105, W105, st105⟩ := stI X101 hx hZ e101 Ar105 (j := (0 : Int32)) hin105 (g := (mkF m 24 #[.val (.ref a), .val (.ref b), .val (.int (2 : Int32)), .val (.int (Int32.ofNat kk)), .val (.ref b101), .val (.int (0 : Int32))] [(.int (0 : Int32)), (.int (0 : Int32)), (.ref b101)])) rfl rfl (hb hby d9_24)
    have N105 := Fr.snoc X105 N0 ge_b101
    have O105 := O101.wr W105 ge_b101
    have K105 := K101.wr W105 (Or.inr gk_b101)
    have V105 : own_Ar Z h105 b101 k101 .int [(.int (0 : Int32)), (.int (0 : Int32)), (.int (0 : Int32)), (.int (0 : Int32))] := own_Ar.set Ar105 qa105 sa105 V101.small W105
    refine own_go (S' := (T105.setTop (mkF m 35 #[.val (.ref a), .val (.ref b), .val (.int (2 : Int32)), .val (.int (Int32.ofNat kk)), .val (.ref b101), .val (.int (1 : Int32))] [(.int (1 : Int32)), (.ref b)]))) (fun tq kq => st105 tq (XS.iinc X105.here hx rfl (hb hby d9_25) rfl (l' := #[.val (.ref a), .val (.ref b), .val (.int (2 : Int32)), .val (.int (Int32.ofNat kk)), .val (.ref b101), .val (.int (1 : Int32))]) rfl (XS.iloadN X105.here hx rfl (hb hby d9_28) rfl (XS.iconst X105.here hx rfl (hb hby d9_29) (XS.icmpNo X105.here hx rfl (hb hby d9_30) rfl (tlt (by decide : (1 : Int32) < (2 : Int32))).2.2.2 (XS.aloadN X105.here hx rfl (hb hby d9_33) rfl rfl (XS.iconst X105.here hx rfl (hb hby d9_34) kq))))))) ?_
    have f106 := (f102.other W105 ne_b_b101)
    obtain ⟨cl107, Ar107, -, -, hin107, hat107⟩ := f106.at (j := (1 : Int32)) (v := (.int (Int32.ofNat q1))) (by decide) rfl
    refine own_go (S' := (T105.setTop (mkF m 37 #[.val (.ref a), .val (.ref b), .val (.int (2 : Int32)), .val (.int (Int32.ofNat kk)), .val (.ref b101), .val (.int (1 : Int32))] [(.int (Int32.ofNat kk)), (.int (Int32.ofNat q1))]))) (fun tq kq => X105.iaload hx (j := (1 : Int32)) (v := (.int (Int32.ofNat q1))) (by rw [e105]; exact Ar107.1) (State.isArrayOf_alike hZ.alike Ar107.2.1) Ar107.2.2 hin107 hat107 (g := (mkF m 35 #[.val (.ref a), .val (.ref b), .val (.int (2 : Int32)), .val (.int (Int32.ofNat kk)), .val (.ref b101), .val (.int (1 : Int32))] [(.int (1 : Int32)), (.ref b)])) rfl rfl (hb hby d9_35) tq (XS.iloadN X105.here hx rfl (hb hby d9_36) rfl kq)) ?_
    by_cases hc108 : (Int32.ofNat q1) = (Int32.ofNat kk)
    · refine own_go (S' := (T105.setTop (mkF m 45 #[.val (.ref a), .val (.ref b), .val (.int (2 : Int32)), .val (.int (Int32.ofNat kk)), .val (.ref b101), .val (.int (1 : Int32))] [(.int (1 : Int32)), (.int (1 : Int32)), (.ref b101)]))) (fun tq kq => XS.icmpNo X105.here hx rfl (hb hby d9_37) rfl (teq hc108).2 (XS.aload X105.here hx rfl (hb hby d9_40) rfl rfl (XS.iload X105.here hx rfl (hb hby d9_42) rfl (XS.iconst X105.here hx rfl (hb hby d9_44) kq)))) ?_
      obtain ⟨cl109, Ar109, qa109, sa109, hin109, -⟩ := V105.at (j := (1 : Int32)) (by decide) rfl
      obtain ⟨T109, h109, X109, e109, W109, st109⟩ := stI X105 hx hZ e105 Ar109 (j := (1 : Int32)) hin109 (g := (mkF m 45 #[.val (.ref a), .val (.ref b), .val (.int (2 : Int32)), .val (.int (Int32.ofNat kk)), .val (.ref b101), .val (.int (1 : Int32))] [(.int (1 : Int32)), (.int (1 : Int32)), (.ref b101)])) rfl rfl (hb hby d9_45)
      have N109 := Fr.snoc X109 N105 ge_b101
      have O109 := O105.wr W109 ge_b101
      have K109 := K105.wr W109 (Or.inr gk_b101)
      have V109 : own_Ar Z h109 b101 k101 .int [(.int (0 : Int32)), (.int (1 : Int32)), (.int (0 : Int32)), (.int (0 : Int32))] := own_Ar.set Ar109 qa109 sa109 V105.small W109
      refine own_go (S' := (T109.setTop (mkF m 91 #[.val (.ref a), .val (.ref b), .val (.int (2 : Int32)), .val (.int (Int32.ofNat kk)), .val (.ref b101), .val (.int (2 : Int32))] []))) (fun tq kq => st109 tq (XS.iinc X109.here hx rfl (hb hby d9_46) rfl (l' := #[.val (.ref a), .val (.ref b), .val (.int (2 : Int32)), .val (.int (Int32.ofNat kk)), .val (.ref b101), .val (.int (2 : Int32))]) rfl (XS.iloadN X109.here hx rfl (hb hby d9_49) rfl (XS.iconst X109.here hx rfl (hb hby d9_50) (XS.icmpYes X109.here hx rfl (pc0 := 51) (pc' := 70) rfl (hb hby d9_51) rfl (flt (by decide : ¬ ((2 : Int32) < (2 : Int32)))).2.2.2 (by decide) (by decide) (XS.iloadN X109.here hx rfl (hb hby d9_70) rfl (XS.iconst X109.here hx rfl (hb hby d9_71) (XS.icmpYes X109.here hx rfl (pc0 := 72) (pc' := 91) rfl (hb hby d9_72) rfl (flt (by decide : ¬ ((3 : Int32) < (2 : Int32)))).2.2.2 (by decide) (by decide) kq)))))))) ?_
      have hq111 : q0 = kk := (own_eqN (by omega) (by omega)).mp hc104
      have hq112 : q1 = kk := (own_eqN (by omega) (by omega)).mp hc108
      have ex110 : own_ex [q0, q1] kk = [0, 1] := by
        simp only [own_ex, List.length_cons, List.length_nil]
        simp [List.range_succ, List.filter_append, List.getD, hq111, hq112]
      rw [ex110] at Va
      refine own_go (S' := (T109.setTop (mkF m 96 #[.val (.ref a), .val (.ref b), .val (.int (2 : Int32)), .val (.int (Int32.ofNat kk)), .val (.ref b101), .val (.int (2 : Int32))] [(.ref a)]))) (fun tq kq => XS.aloadN X109.here hx rfl (hb hby d9_91) rfl rfl (XS.ifnullNo X109.here hx rfl (hb hby d9_92) rfl (XS.aloadN X109.here hx rfl (hb hby d9_95) rfl rfl kq))) ?_
      have f113 := (((Va.ext E101).other W105 ne_a_b101).other W109 ne_a_b101)
      obtain ⟨cl114, Ar114, ln114⟩ := f113.len
      have lq114 : cl114.slots.size.toInt32 = (2 : Int32) := ln114.trans rfl
      refine own_go (S' := (T109.setTop (mkF m 112 #[.val (.ref a), .val (.ref b), .val (.int (2 : Int32)), .val (.int (Int32.ofNat kk)), .val (.ref b101), .val (.int (2 : Int32))] [(.int (0 : Int32)), (.ref a)]))) (fun tq kq => X109.arraylength hx (by rw [e109]; exact Ar114.1) (State.isArrayOf_alike hZ.alike Ar114.2.1) (g := (mkF m 96 #[.val (.ref a), .val (.ref b), .val (.int (2 : Int32)), .val (.int (Int32.ofNat kk)), .val (.ref b101), .val (.int (2 : Int32))] [(.ref a)])) rfl rfl (hb hby d9_96) tq (by rw [lq114]; exact (XS.iload X109.here hx rfl (hb hby d9_97) rfl (XS.icmpYes X109.here hx rfl (pc0 := 99) (pc' := 104) rfl (hb hby d9_99) rfl (teq (by decide : (2 : Int32) = (2 : Int32))).1 (by decide) (by decide) (XS.iload X109.here hx rfl (hb hby d9_104) rfl (XS.iconst X109.here hx rfl (hb hby d9_106) (XS.icmpNo X109.here hx rfl (hb hby d9_107) rfl (flt (by decide : ¬ ((2 : Int32) < (1 : Int32)))).1 (XS.aloadN X109.here hx rfl (hb hby d9_110) rfl rfl (XS.iconst X109.here hx rfl (hb hby d9_111) kq))))))))) ?_
      obtain ⟨cl115, Ar115, -, -, hin115, hat115⟩ := f113.at (j := (0 : Int32)) (v := (.int (0 : Int32))) (by decide) rfl
      refine own_go (S' := (T109.setTop (mkF m 116 #[.val (.ref a), .val (.ref b), .val (.int (2 : Int32)), .val (.int (Int32.ofNat kk)), .val (.ref b101), .val (.int (2 : Int32))] [(.int (0 : Int32)), (.ref b101), (.int (0 : Int32))]))) (fun tq kq => X109.iaload hx (j := (0 : Int32)) (v := (.int (0 : Int32))) (by rw [e109]; exact Ar115.1) (State.isArrayOf_alike hZ.alike Ar115.2.1) Ar115.2.2 hin115 hat115 (g := (mkF m 112 #[.val (.ref a), .val (.ref b), .val (.int (2 : Int32)), .val (.int (Int32.ofNat kk)), .val (.ref b101), .val (.int (2 : Int32))] [(.int (0 : Int32)), (.ref a)])) rfl rfl (hb hby d9_112) tq (XS.aload X109.here hx rfl (hb hby d9_113) rfl rfl (XS.iconst X109.here hx rfl (hb hby d9_115) kq))) ?_
      obtain ⟨cl116, Ar116, -, -, hin116, hat116⟩ := V109.at (j := (0 : Int32)) (v := (.int (0 : Int32))) (by decide) rfl
      refine own_go (S' := (T109.setTop (mkF m 128 #[.val (.ref a), .val (.ref b), .val (.int (2 : Int32)), .val (.int (Int32.ofNat kk)), .val (.ref b101), .val (.int (2 : Int32))] [(.int (1 : Int32)), (.ref a)]))) (fun tq kq => X109.iaload hx (j := (0 : Int32)) (v := (.int (0 : Int32))) (by rw [e109]; exact Ar116.1) (State.isArrayOf_alike hZ.alike Ar116.2.1) Ar116.2.2 hin116 hat116 (g := (mkF m 116 #[.val (.ref a), .val (.ref b), .val (.int (2 : Int32)), .val (.int (Int32.ofNat kk)), .val (.ref b101), .val (.int (2 : Int32))] [(.int (0 : Int32)), (.ref b101), (.int (0 : Int32))])) rfl rfl (hb hby d9_116) tq (XS.icmpNo X109.here hx rfl (hb hby d9_117) rfl (teq (by decide : (0 : Int32) = (0 : Int32))).2 (XS.iload X109.here hx rfl (hb hby d9_120) rfl (XS.iconst X109.here hx rfl (hb hby d9_122) (XS.icmpNo X109.here hx rfl (hb hby d9_123) rfl (flt (by decide : ¬ ((2 : Int32) < (2 : Int32)))).1 (XS.aloadN X109.here hx rfl (hb hby d9_126) rfl rfl (XS.iconst X109.here hx rfl (hb hby d9_127) kq))))))) ?_
      obtain ⟨cl117, Ar117, -, -, hin117, hat117⟩ := f113.at (j := (1 : Int32)) (v := (.int (1 : Int32))) (by decide) rfl
      refine own_go (S' := (T109.setTop (mkF m 132 #[.val (.ref a), .val (.ref b), .val (.int (2 : Int32)), .val (.int (Int32.ofNat kk)), .val (.ref b101), .val (.int (2 : Int32))] [(.int (1 : Int32)), (.ref b101), (.int (1 : Int32))]))) (fun tq kq => X109.iaload hx (j := (1 : Int32)) (v := (.int (1 : Int32))) (by rw [e109]; exact Ar117.1) (State.isArrayOf_alike hZ.alike Ar117.2.1) Ar117.2.2 hin117 hat117 (g := (mkF m 128 #[.val (.ref a), .val (.ref b), .val (.int (2 : Int32)), .val (.int (Int32.ofNat kk)), .val (.ref b101), .val (.int (2 : Int32))] [(.int (1 : Int32)), (.ref a)])) rfl rfl (hb hby d9_128) tq (XS.aload X109.here hx rfl (hb hby d9_129) rfl rfl (XS.iconst X109.here hx rfl (hb hby d9_131) kq))) ?_
      obtain ⟨cl118, Ar118, -, -, hin118, hat118⟩ := V109.at (j := (1 : Int32)) (v := (.int (1 : Int32))) (by decide) rfl
      refine own_go (S' := (T109.setTop (mkF m 173 #[.val (.ref a), .val (.ref b), .val (.int (2 : Int32)), .val (.int (Int32.ofNat kk)), .val (.ref b101), .val (.int (2 : Int32))] [(.int (1 : Int32))]))) (fun tq kq => X109.iaload hx (j := (1 : Int32)) (v := (.int (1 : Int32))) (by rw [e109]; exact Ar118.1) (State.isArrayOf_alike hZ.alike Ar118.2.1) Ar118.2.2 hin118 hat118 (g := (mkF m 132 #[.val (.ref a), .val (.ref b), .val (.int (2 : Int32)), .val (.int (Int32.ofNat kk)), .val (.ref b101), .val (.int (2 : Int32))] [(.int (1 : Int32)), (.ref b101), (.int (1 : Int32))])) rfl rfl (hb hby d9_132) tq (XS.icmpNo X109.here hx rfl (hb hby d9_133) rfl (teq (by decide : (1 : Int32) = (1 : Int32))).2 (XS.iload X109.here hx rfl (hb hby d9_136) rfl (XS.iconst X109.here hx rfl (hb hby d9_138) (XS.icmpYes X109.here hx rfl (pc0 := 139) (pc' := 152) rfl (hb hby d9_139) rfl (tlt (by decide : (2 : Int32) < (3 : Int32))).1 (by decide) (by decide) (XS.iload X109.here hx rfl (hb hby d9_152) rfl (XS.iconst X109.here hx rfl (hb hby d9_154) (XS.icmpYes X109.here hx rfl (pc0 := 155) (pc' := 168) rfl (hb hby d9_155) rfl (tlt (by decide : (2 : Int32) < (4 : Int32))).1 (by decide) (by decide) (XS.iconst X109.here hx rfl (hb hby d9_168) (XS.goto X109.here hx rfl (pc0 := 169) (pc' := 173) rfl (hb hby d9_169) (by decide) (by decide) kq)))))))))) ?_
      refine own_retN X109 hx hlk hret (by simp) (hb hby d9_173) (by decide) (by decide) ?_
      rw [e109]
      exact ⟨rfl, N109, K109⟩
    · refine own_go (S' := (T105.setTop (mkF m 91 #[.val (.ref a), .val (.ref b), .val (.int (2 : Int32)), .val (.int (Int32.ofNat kk)), .val (.ref b101), .val (.int (1 : Int32))] []))) (fun tq kq => XS.icmpYes X105.here hx rfl (pc0 := 37) (pc' := 49) rfl (hb hby d9_37) rfl (feq hc108).2 (by decide) (by decide) (XS.iloadN X105.here hx rfl (hb hby d9_49) rfl (XS.iconst X105.here hx rfl (hb hby d9_50) (XS.icmpYes X105.here hx rfl (pc0 := 51) (pc' := 70) rfl (hb hby d9_51) rfl (flt (by decide : ¬ ((2 : Int32) < (2 : Int32)))).2.2.2 (by decide) (by decide) (XS.iloadN X105.here hx rfl (hb hby d9_70) rfl (XS.iconst X105.here hx rfl (hb hby d9_71) (XS.icmpYes X105.here hx rfl (pc0 := 72) (pc' := 91) rfl (hb hby d9_72) rfl (flt (by decide : ¬ ((3 : Int32) < (2 : Int32)))).2.2.2 (by decide) (by decide) kq))))))) ?_
      have hq120 : q0 = kk := (own_eqN (by omega) (by omega)).mp hc104
      have hq121 : ¬ (q1 = kk) := fun z => hc108 (congrArg Int32.ofNat z)
      have ex119 : own_ex [q0, q1] kk = [0] := by
        simp only [own_ex, List.length_cons, List.length_nil]
        simp [List.range_succ, List.filter_append, List.getD, hq120, hq121]
      rw [ex119] at Va
      refine own_go (S' := (T105.setTop (mkF m 96 #[.val (.ref a), .val (.ref b), .val (.int (2 : Int32)), .val (.int (Int32.ofNat kk)), .val (.ref b101), .val (.int (1 : Int32))] [(.ref a)]))) (fun tq kq => XS.aloadN X105.here hx rfl (hb hby d9_91) rfl rfl (XS.ifnullNo X105.here hx rfl (hb hby d9_92) rfl (XS.aloadN X105.here hx rfl (hb hby d9_95) rfl rfl kq))) ?_
      have f122 := ((Va.ext E101).other W105 ne_a_b101)
      obtain ⟨cl123, Ar123, ln123⟩ := f122.len
      have lq123 : cl123.slots.size.toInt32 = (1 : Int32) := ln123.trans rfl
      refine own_go (S' := (T105.setTop (mkF m 112 #[.val (.ref a), .val (.ref b), .val (.int (2 : Int32)), .val (.int (Int32.ofNat kk)), .val (.ref b101), .val (.int (1 : Int32))] [(.int (0 : Int32)), (.ref a)]))) (fun tq kq => X105.arraylength hx (by rw [e105]; exact Ar123.1) (State.isArrayOf_alike hZ.alike Ar123.2.1) (g := (mkF m 96 #[.val (.ref a), .val (.ref b), .val (.int (2 : Int32)), .val (.int (Int32.ofNat kk)), .val (.ref b101), .val (.int (1 : Int32))] [(.ref a)])) rfl rfl (hb hby d9_96) tq (by rw [lq123]; exact (XS.iload X105.here hx rfl (hb hby d9_97) rfl (XS.icmpYes X105.here hx rfl (pc0 := 99) (pc' := 104) rfl (hb hby d9_99) rfl (teq (by decide : (1 : Int32) = (1 : Int32))).1 (by decide) (by decide) (XS.iload X105.here hx rfl (hb hby d9_104) rfl (XS.iconst X105.here hx rfl (hb hby d9_106) (XS.icmpNo X105.here hx rfl (hb hby d9_107) rfl (flt (by decide : ¬ ((1 : Int32) < (1 : Int32)))).1 (XS.aloadN X105.here hx rfl (hb hby d9_110) rfl rfl (XS.iconst X105.here hx rfl (hb hby d9_111) kq))))))))) ?_
      obtain ⟨cl124, Ar124, -, -, hin124, hat124⟩ := f122.at (j := (0 : Int32)) (v := (.int (0 : Int32))) (by decide) rfl
      refine own_go (S' := (T105.setTop (mkF m 116 #[.val (.ref a), .val (.ref b), .val (.int (2 : Int32)), .val (.int (Int32.ofNat kk)), .val (.ref b101), .val (.int (1 : Int32))] [(.int (0 : Int32)), (.ref b101), (.int (0 : Int32))]))) (fun tq kq => X105.iaload hx (j := (0 : Int32)) (v := (.int (0 : Int32))) (by rw [e105]; exact Ar124.1) (State.isArrayOf_alike hZ.alike Ar124.2.1) Ar124.2.2 hin124 hat124 (g := (mkF m 112 #[.val (.ref a), .val (.ref b), .val (.int (2 : Int32)), .val (.int (Int32.ofNat kk)), .val (.ref b101), .val (.int (1 : Int32))] [(.int (0 : Int32)), (.ref a)])) rfl rfl (hb hby d9_112) tq (XS.aload X105.here hx rfl (hb hby d9_113) rfl rfl (XS.iconst X105.here hx rfl (hb hby d9_115) kq))) ?_
      obtain ⟨cl125, Ar125, -, -, hin125, hat125⟩ := V105.at (j := (0 : Int32)) (v := (.int (0 : Int32))) (by decide) rfl
      refine own_go (S' := (T105.setTop (mkF m 155 #[.val (.ref a), .val (.ref b), .val (.int (2 : Int32)), .val (.int (Int32.ofNat kk)), .val (.ref b101), .val (.int (1 : Int32))] [(.int (4 : Int32)), (.int (1 : Int32))]))) (fun tq kq => X105.iaload hx (j := (0 : Int32)) (v := (.int (0 : Int32))) (by rw [e105]; exact Ar125.1) (State.isArrayOf_alike hZ.alike Ar125.2.1) Ar125.2.2 hin125 hat125 (g := (mkF m 116 #[.val (.ref a), .val (.ref b), .val (.int (2 : Int32)), .val (.int (Int32.ofNat kk)), .val (.ref b101), .val (.int (1 : Int32))] [(.int (0 : Int32)), (.ref b101), (.int (0 : Int32))])) rfl rfl (hb hby d9_116) tq (XS.icmpNo X105.here hx rfl (hb hby d9_117) rfl (teq (by decide : (0 : Int32) = (0 : Int32))).2 (XS.iload X105.here hx rfl (hb hby d9_120) rfl (XS.iconst X105.here hx rfl (hb hby d9_122) (XS.icmpYes X105.here hx rfl (pc0 := 123) (pc' := 136) rfl (hb hby d9_123) rfl (tlt (by decide : (1 : Int32) < (2 : Int32))).1 (by decide) (by decide) (XS.iload X105.here hx rfl (hb hby d9_136) rfl (XS.iconst X105.here hx rfl (hb hby d9_138) (XS.icmpYes X105.here hx rfl (pc0 := 139) (pc' := 152) rfl (hb hby d9_139) rfl (tlt (by decide : (1 : Int32) < (3 : Int32))).1 (by decide) (by decide) (XS.iload X105.here hx rfl (hb hby d9_152) rfl (XS.iconst X105.here hx rfl (hb hby d9_154) kq)))))))))) ?_
      refine own_go (S' := (T105.setTop (mkF m 173 #[.val (.ref a), .val (.ref b), .val (.int (2 : Int32)), .val (.int (Int32.ofNat kk)), .val (.ref b101), .val (.int (1 : Int32))] [(.int (1 : Int32))]))) (fun tq kq => XS.icmpYes X105.here hx rfl (pc0 := 155) (pc' := 168) rfl (hb hby d9_155) rfl (tlt (by decide : (1 : Int32) < (4 : Int32))).1 (by decide) (by decide) (XS.iconst X105.here hx rfl (hb hby d9_168) (XS.goto X105.here hx rfl (pc0 := 169) (pc' := 173) rfl (hb hby d9_169) (by decide) (by decide) kq))) ?_
      refine own_retN X105 hx hlk hret (by simp) (hb hby d9_173) (by decide) (by decide) ?_
      rw [e105]
      exact ⟨rfl, N105, K105⟩
  · refine own_go (S' := (T101.setTop (mkF m 35 #[.val (.ref a), .val (.ref b), .val (.int (2 : Int32)), .val (.int (Int32.ofNat kk)), .val (.ref b101), .val (.int (0 : Int32))] [(.int (1 : Int32)), (.ref b)]))) (fun tq kq => XS.icmpYes X101.here hx rfl (pc0 := 16) (pc' := 28) rfl (hb hby d9_16) rfl (feq hc104).2 (by decide) (by decide) (XS.iloadN X101.here hx rfl (hb hby d9_28) rfl (XS.iconst X101.here hx rfl (hb hby d9_29) (XS.icmpNo X101.here hx rfl (hb hby d9_30) rfl (tlt (by decide : (1 : Int32) < (2 : Int32))).2.2.2 (XS.aloadN X101.here hx rfl (hb hby d9_33) rfl rfl (XS.iconst X101.here hx rfl (hb hby d9_34) kq)))))) ?_
    obtain ⟨cl126, Ar126, -, -, hin126, hat126⟩ := f102.at (j := (1 : Int32)) (v := (.int (Int32.ofNat q1))) (by decide) rfl
    refine own_go (S' := (T101.setTop (mkF m 37 #[.val (.ref a), .val (.ref b), .val (.int (2 : Int32)), .val (.int (Int32.ofNat kk)), .val (.ref b101), .val (.int (0 : Int32))] [(.int (Int32.ofNat kk)), (.int (Int32.ofNat q1))]))) (fun tq kq => X101.iaload hx (j := (1 : Int32)) (v := (.int (Int32.ofNat q1))) (by rw [e101]; exact Ar126.1) (State.isArrayOf_alike hZ.alike Ar126.2.1) Ar126.2.2 hin126 hat126 (g := (mkF m 35 #[.val (.ref a), .val (.ref b), .val (.int (2 : Int32)), .val (.int (Int32.ofNat kk)), .val (.ref b101), .val (.int (0 : Int32))] [(.int (1 : Int32)), (.ref b)])) rfl rfl (hb hby d9_35) tq (XS.iloadN X101.here hx rfl (hb hby d9_36) rfl kq)) ?_
    by_cases hc127 : (Int32.ofNat q1) = (Int32.ofNat kk)
    · refine own_go (S' := (T101.setTop (mkF m 45 #[.val (.ref a), .val (.ref b), .val (.int (2 : Int32)), .val (.int (Int32.ofNat kk)), .val (.ref b101), .val (.int (0 : Int32))] [(.int (1 : Int32)), (.int (0 : Int32)), (.ref b101)]))) (fun tq kq => XS.icmpNo X101.here hx rfl (hb hby d9_37) rfl (teq hc127).2 (XS.aload X101.here hx rfl (hb hby d9_40) rfl rfl (XS.iload X101.here hx rfl (hb hby d9_42) rfl (XS.iconst X101.here hx rfl (hb hby d9_44) kq)))) ?_
      obtain ⟨cl128, Ar128, qa128, sa128, hin128, -⟩ := V101.at (j := (0 : Int32)) (by decide) rfl
      obtain ⟨T128, h128, X128, e128, W128, st128⟩ := stI X101 hx hZ e101 Ar128 (j := (0 : Int32)) hin128 (g := (mkF m 45 #[.val (.ref a), .val (.ref b), .val (.int (2 : Int32)), .val (.int (Int32.ofNat kk)), .val (.ref b101), .val (.int (0 : Int32))] [(.int (1 : Int32)), (.int (0 : Int32)), (.ref b101)])) rfl rfl (hb hby d9_45)
      have N128 := Fr.snoc X128 N0 ge_b101
      have O128 := O101.wr W128 ge_b101
      have K128 := K101.wr W128 (Or.inr gk_b101)
      have V128 : own_Ar Z h128 b101 k101 .int [(.int (1 : Int32)), (.int (0 : Int32)), (.int (0 : Int32)), (.int (0 : Int32))] := own_Ar.set Ar128 qa128 sa128 V101.small W128
      refine own_go (S' := (T128.setTop (mkF m 91 #[.val (.ref a), .val (.ref b), .val (.int (2 : Int32)), .val (.int (Int32.ofNat kk)), .val (.ref b101), .val (.int (1 : Int32))] []))) (fun tq kq => st128 tq (XS.iinc X128.here hx rfl (hb hby d9_46) rfl (l' := #[.val (.ref a), .val (.ref b), .val (.int (2 : Int32)), .val (.int (Int32.ofNat kk)), .val (.ref b101), .val (.int (1 : Int32))]) rfl (XS.iloadN X128.here hx rfl (hb hby d9_49) rfl (XS.iconst X128.here hx rfl (hb hby d9_50) (XS.icmpYes X128.here hx rfl (pc0 := 51) (pc' := 70) rfl (hb hby d9_51) rfl (flt (by decide : ¬ ((2 : Int32) < (2 : Int32)))).2.2.2 (by decide) (by decide) (XS.iloadN X128.here hx rfl (hb hby d9_70) rfl (XS.iconst X128.here hx rfl (hb hby d9_71) (XS.icmpYes X128.here hx rfl (pc0 := 72) (pc' := 91) rfl (hb hby d9_72) rfl (flt (by decide : ¬ ((3 : Int32) < (2 : Int32)))).2.2.2 (by decide) (by decide) kq)))))))) ?_
      have hq130 : ¬ (q0 = kk) := fun z => hc104 (congrArg Int32.ofNat z)
      have hq131 : q1 = kk := (own_eqN (by omega) (by omega)).mp hc127
      have ex129 : own_ex [q0, q1] kk = [1] := by
        simp only [own_ex, List.length_cons, List.length_nil]
        simp [List.range_succ, List.filter_append, List.getD, hq130, hq131]
      rw [ex129] at Va
      refine own_go (S' := (T128.setTop (mkF m 96 #[.val (.ref a), .val (.ref b), .val (.int (2 : Int32)), .val (.int (Int32.ofNat kk)), .val (.ref b101), .val (.int (1 : Int32))] [(.ref a)]))) (fun tq kq => XS.aloadN X128.here hx rfl (hb hby d9_91) rfl rfl (XS.ifnullNo X128.here hx rfl (hb hby d9_92) rfl (XS.aloadN X128.here hx rfl (hb hby d9_95) rfl rfl kq))) ?_
      have f132 := ((Va.ext E101).other W128 ne_a_b101)
      obtain ⟨cl133, Ar133, ln133⟩ := f132.len
      have lq133 : cl133.slots.size.toInt32 = (1 : Int32) := ln133.trans rfl
      refine own_go (S' := (T128.setTop (mkF m 112 #[.val (.ref a), .val (.ref b), .val (.int (2 : Int32)), .val (.int (Int32.ofNat kk)), .val (.ref b101), .val (.int (1 : Int32))] [(.int (0 : Int32)), (.ref a)]))) (fun tq kq => X128.arraylength hx (by rw [e128]; exact Ar133.1) (State.isArrayOf_alike hZ.alike Ar133.2.1) (g := (mkF m 96 #[.val (.ref a), .val (.ref b), .val (.int (2 : Int32)), .val (.int (Int32.ofNat kk)), .val (.ref b101), .val (.int (1 : Int32))] [(.ref a)])) rfl rfl (hb hby d9_96) tq (by rw [lq133]; exact (XS.iload X128.here hx rfl (hb hby d9_97) rfl (XS.icmpYes X128.here hx rfl (pc0 := 99) (pc' := 104) rfl (hb hby d9_99) rfl (teq (by decide : (1 : Int32) = (1 : Int32))).1 (by decide) (by decide) (XS.iload X128.here hx rfl (hb hby d9_104) rfl (XS.iconst X128.here hx rfl (hb hby d9_106) (XS.icmpNo X128.here hx rfl (hb hby d9_107) rfl (flt (by decide : ¬ ((1 : Int32) < (1 : Int32)))).1 (XS.aloadN X128.here hx rfl (hb hby d9_110) rfl rfl (XS.iconst X128.here hx rfl (hb hby d9_111) kq))))))))) ?_
      obtain ⟨cl134, Ar134, -, -, hin134, hat134⟩ := f132.at (j := (0 : Int32)) (v := (.int (1 : Int32))) (by decide) rfl
      refine own_go (S' := (T128.setTop (mkF m 116 #[.val (.ref a), .val (.ref b), .val (.int (2 : Int32)), .val (.int (Int32.ofNat kk)), .val (.ref b101), .val (.int (1 : Int32))] [(.int (0 : Int32)), (.ref b101), (.int (1 : Int32))]))) (fun tq kq => X128.iaload hx (j := (0 : Int32)) (v := (.int (1 : Int32))) (by rw [e128]; exact Ar134.1) (State.isArrayOf_alike hZ.alike Ar134.2.1) Ar134.2.2 hin134 hat134 (g := (mkF m 112 #[.val (.ref a), .val (.ref b), .val (.int (2 : Int32)), .val (.int (Int32.ofNat kk)), .val (.ref b101), .val (.int (1 : Int32))] [(.int (0 : Int32)), (.ref a)])) rfl rfl (hb hby d9_112) tq (XS.aload X128.here hx rfl (hb hby d9_113) rfl rfl (XS.iconst X128.here hx rfl (hb hby d9_115) kq))) ?_
      obtain ⟨cl135, Ar135, -, -, hin135, hat135⟩ := V128.at (j := (0 : Int32)) (v := (.int (1 : Int32))) (by decide) rfl
      refine own_go (S' := (T128.setTop (mkF m 155 #[.val (.ref a), .val (.ref b), .val (.int (2 : Int32)), .val (.int (Int32.ofNat kk)), .val (.ref b101), .val (.int (1 : Int32))] [(.int (4 : Int32)), (.int (1 : Int32))]))) (fun tq kq => X128.iaload hx (j := (0 : Int32)) (v := (.int (1 : Int32))) (by rw [e128]; exact Ar135.1) (State.isArrayOf_alike hZ.alike Ar135.2.1) Ar135.2.2 hin135 hat135 (g := (mkF m 116 #[.val (.ref a), .val (.ref b), .val (.int (2 : Int32)), .val (.int (Int32.ofNat kk)), .val (.ref b101), .val (.int (1 : Int32))] [(.int (0 : Int32)), (.ref b101), (.int (1 : Int32))])) rfl rfl (hb hby d9_116) tq (XS.icmpNo X128.here hx rfl (hb hby d9_117) rfl (teq (by decide : (1 : Int32) = (1 : Int32))).2 (XS.iload X128.here hx rfl (hb hby d9_120) rfl (XS.iconst X128.here hx rfl (hb hby d9_122) (XS.icmpYes X128.here hx rfl (pc0 := 123) (pc' := 136) rfl (hb hby d9_123) rfl (tlt (by decide : (1 : Int32) < (2 : Int32))).1 (by decide) (by decide) (XS.iload X128.here hx rfl (hb hby d9_136) rfl (XS.iconst X128.here hx rfl (hb hby d9_138) (XS.icmpYes X128.here hx rfl (pc0 := 139) (pc' := 152) rfl (hb hby d9_139) rfl (tlt (by decide : (1 : Int32) < (3 : Int32))).1 (by decide) (by decide) (XS.iload X128.here hx rfl (hb hby d9_152) rfl (XS.iconst X128.here hx rfl (hb hby d9_154) kq)))))))))) ?_
      refine own_go (S' := (T128.setTop (mkF m 173 #[.val (.ref a), .val (.ref b), .val (.int (2 : Int32)), .val (.int (Int32.ofNat kk)), .val (.ref b101), .val (.int (1 : Int32))] [(.int (1 : Int32))]))) (fun tq kq => XS.icmpYes X128.here hx rfl (pc0 := 155) (pc' := 168) rfl (hb hby d9_155) rfl (tlt (by decide : (1 : Int32) < (4 : Int32))).1 (by decide) (by decide) (XS.iconst X128.here hx rfl (hb hby d9_168) (XS.goto X128.here hx rfl (pc0 := 169) (pc' := 173) rfl (hb hby d9_169) (by decide) (by decide) kq))) ?_
      refine own_retN X128 hx hlk hret (by simp) (hb hby d9_173) (by decide) (by decide) ?_
      rw [e128]
      exact ⟨rfl, N128, K128⟩
    · refine own_go (S' := (T101.setTop (mkF m 91 #[.val (.ref a), .val (.ref b), .val (.int (2 : Int32)), .val (.int (Int32.ofNat kk)), .val (.ref b101), .val (.int (0 : Int32))] []))) (fun tq kq => XS.icmpYes X101.here hx rfl (pc0 := 37) (pc' := 49) rfl (hb hby d9_37) rfl (feq hc127).2 (by decide) (by decide) (XS.iloadN X101.here hx rfl (hb hby d9_49) rfl (XS.iconst X101.here hx rfl (hb hby d9_50) (XS.icmpYes X101.here hx rfl (pc0 := 51) (pc' := 70) rfl (hb hby d9_51) rfl (flt (by decide : ¬ ((2 : Int32) < (2 : Int32)))).2.2.2 (by decide) (by decide) (XS.iloadN X101.here hx rfl (hb hby d9_70) rfl (XS.iconst X101.here hx rfl (hb hby d9_71) (XS.icmpYes X101.here hx rfl (pc0 := 72) (pc' := 91) rfl (hb hby d9_72) rfl (flt (by decide : ¬ ((3 : Int32) < (2 : Int32)))).2.2.2 (by decide) (by decide) kq))))))) ?_
      have hq137 : ¬ (q0 = kk) := fun z => hc104 (congrArg Int32.ofNat z)
      have hq138 : ¬ (q1 = kk) := fun z => hc127 (congrArg Int32.ofNat z)
      have ex136 : own_ex [q0, q1] kk = [] := by
        simp only [own_ex, List.length_cons, List.length_nil]
        simp [List.range_succ, List.filter_append, List.getD, hq137, hq138]
      rw [ex136] at Va
      refine own_go (S' := (T101.setTop (mkF m 96 #[.val (.ref a), .val (.ref b), .val (.int (2 : Int32)), .val (.int (Int32.ofNat kk)), .val (.ref b101), .val (.int (0 : Int32))] [(.ref a)]))) (fun tq kq => XS.aloadN X101.here hx rfl (hb hby d9_91) rfl rfl (XS.ifnullNo X101.here hx rfl (hb hby d9_92) rfl (XS.aloadN X101.here hx rfl (hb hby d9_95) rfl rfl kq))) ?_
      have f139 := (Va.ext E101)
      obtain ⟨cl140, Ar140, ln140⟩ := f139.len
      have lq140 : cl140.slots.size.toInt32 = (0 : Int32) := ln140.trans rfl
      refine own_go (S' := (T101.setTop (mkF m 138 #[.val (.ref a), .val (.ref b), .val (.int (2 : Int32)), .val (.int (Int32.ofNat kk)), .val (.ref b101), .val (.int (0 : Int32))] [(.int (0 : Int32))]))) (fun tq kq => X101.arraylength hx (by rw [e101]; exact Ar140.1) (State.isArrayOf_alike hZ.alike Ar140.2.1) (g := (mkF m 96 #[.val (.ref a), .val (.ref b), .val (.int (2 : Int32)), .val (.int (Int32.ofNat kk)), .val (.ref b101), .val (.int (0 : Int32))] [(.ref a)])) rfl rfl (hb hby d9_96) tq (by rw [lq140]; exact (XS.iload X101.here hx rfl (hb hby d9_97) rfl (XS.icmpYes X101.here hx rfl (pc0 := 99) (pc' := 104) rfl (hb hby d9_99) rfl (teq (by decide : (0 : Int32) = (0 : Int32))).1 (by decide) (by decide) (XS.iload X101.here hx rfl (hb hby d9_104) rfl (XS.iconst X101.here hx rfl (hb hby d9_106) (XS.icmpYes X101.here hx rfl (pc0 := 107) (pc' := 120) rfl (hb hby d9_107) rfl (tlt (by decide : (0 : Int32) < (1 : Int32))).1 (by decide) (by decide) (XS.iload X101.here hx rfl (hb hby d9_120) rfl (XS.iconst X101.here hx rfl (hb hby d9_122) (XS.icmpYes X101.here hx rfl (pc0 := 123) (pc' := 136) rfl (hb hby d9_123) rfl (tlt (by decide : (0 : Int32) < (2 : Int32))).1 (by decide) (by decide) (XS.iload X101.here hx rfl (hb hby d9_136) rfl kq))))))))))) ?_
      refine own_go (S' := (T101.setTop (mkF m 173 #[.val (.ref a), .val (.ref b), .val (.int (2 : Int32)), .val (.int (Int32.ofNat kk)), .val (.ref b101), .val (.int (0 : Int32))] [(.int (1 : Int32))]))) (fun tq kq => XS.iconst X101.here hx rfl (hb hby d9_138) (XS.icmpYes X101.here hx rfl (pc0 := 139) (pc' := 152) rfl (hb hby d9_139) rfl (tlt (by decide : (0 : Int32) < (3 : Int32))).1 (by decide) (by decide) (XS.iload X101.here hx rfl (hb hby d9_152) rfl (XS.iconst X101.here hx rfl (hb hby d9_154) (XS.icmpYes X101.here hx rfl (pc0 := 155) (pc' := 168) rfl (hb hby d9_155) rfl (tlt (by decide : (0 : Int32) < (4 : Int32))).1 (by decide) (by decide) (XS.iconst X101.here hx rfl (hb hby d9_168) (XS.goto X101.here hx rfl (pc0 := 169) (pc' := 173) rfl (hb hby d9_169) (by decide) (by decide) kq))))))) ?_
      refine own_retN X101 hx hlk hret (by simp) (hb hby d9_173) (by decide) (by decide) ?_
      rw [e101]
      exact ⟨rfl, N0, K101⟩
theorem pn_rm9_3 : plainName "com/example/vestwright/vestwright/cli/TableRowsByKeyPinLaw" = true := by first | (simp [plainName, overriddenIn]; done) | decide +kernel
theorem ef_rm9_3 (m : MethodId) (a : Addr) (b : Addr) (kk : Nat) (ka : ClassId) (kb : ClassId) (q0 : Nat) (q1 : Nat) (q2 : Nat) (q3 : Nat) : entryFrame m #[(.ref a), (.ref b), (.int (3 : Int32)), (.int (Int32.ofNat kk))] 6 = mkF m 0 #[.val (.ref a), .val (.ref b), .val (.int (3 : Int32)), .val (.int (Int32.ofNat kk)), .unset, .unset] [] := by first | (simp [entryFrame, mkF, argsToLocals, Value.category]; done) | rfl
def Q_rm9_3 (Z : State) (h0 : Heap) (n0 : Nat) (a : Addr) (b : Addr) (kk : Nat) (ka : ClassId) (kb : ClassId) (q0 : Nat) (q1 : Nat) (q2 : Nat) (q3 : Nat) (v : Option Value) (h : Heap) (L : List Loc) : Prop := v = some (.int 1) ∧ Fr n0 L ∧ Keep h0 h []
set_option maxRecDepth 65536 in
set_option maxHeartbeats 40000000 in
theorem rm9_3 (l : Launch) (Z : State) (a0 : Array Value) (hw : ∀ d ∈ tables_1, d.before a0 Z = true) (ws : List Jvm.Cond) (h0 : Heap) (n0 : Nat) (O0 : Old Z n0 h0) (a : Addr) (b : Addr) (kk : Nat) (ka : ClassId) (kb : ClassId) (q0 : Nat) (q1 : Nat) (q2 : Nat) (q3 : Nat) (Va : own_Ar Z h0 a ka .int (own_iv (own_ex [q0, q1, q2] kk))) (Vb : own_Ar Z h0 b kb .int (own_iv [q0, q1, q2, q3])) (hq : q0 < 3 ∧ q1 < 3 ∧ q2 < 3 ∧ q3 < 3 ∧ kk < 3) :
    MetFree l (⟨"com/example/vestwright/vestwright/cli/TableRowsByKeyPinLaw", "same", "([I[III)Z"⟩ : MethodName) (head1 (Jvm.Cond.code (⟨"com/example/vestwright/vestwright/cli/TableRowsByKeyPinLaw", "same", "([I[III)Z"⟩ : MethodName) method_3_code 6 (some .boolean) :: ws) ({ frames := 0, cells := 1, slots := 4, locals := 0 } : Room)) (fun aq U => aq = #[(.ref a), (.ref b), (.int (3 : Int32)), (.int (Int32.ofNat kk))] ∧ Z.Warmed39 U.vm ∧ U.heap = h0) (fun _ _ _ _ _ => True) (fun _ U o U' => ∃ v L, o = .returned v ∧ Q_rm9_3 Z h0 n0 a b kk ka kb q0 q1 q2 q3 v U'.heap L ∧ FrameEnd U o U' L ({ frames := 0, cells := 1, slots := 4, locals := 0 } : Room).cells ({ frames := 0, cells := 1, slots := 4, locals := 0 } : Room).slots) := by
  refine MetFree.of_bodySF (plainFor_of_name pn_rm9_3) hisR ?_
  intro p e s m args below meth c s₁ Bd hml0 hP hK
  obtain ⟨rfl, hZ, hh⟩ := hP
  have hx := Bd.exec
  have hby := Bd.bytes
  have hml : c.maxLocals = 6 := hml0
  have hown : s.vm.findClass "com/example/vestwright/vestwright/cli/TableRowsByKeyPinLaw" = some m.cls := findClass_of_methodNamed Bd.named
  have hnm := (name_of_methodNamed Bd.named Bd.method).1
  have hlk := Bd.notSynchronized
  have hret := Bd.returns
  have X0 : Stand p l e ({ frames := 0, cells := 1, slots := 4, locals := 0 } : Room) s m #[(.ref a), (.ref b), (.int (3 : Int32)), (.int (Int32.ofNat kk))] below meth c s₁ [] 0 0 := Stand.of_body Bd
  have e0 : s₁.heap = h0 := by rw [← hh, Bd.state]; rfl
  have N0 := Fr.nil n0
  have K0 := Keep.refl h0 []
  refine own_go (S' := (s₁.setTop (mkF m 0 #[.val (.ref a), .val (.ref b), .val (.int (3 : Int32)), .val (.int (Int32.ofNat kk)), .unset, .unset] []))) (fun tq kq => castTop (ef_rm9_3 m a b kk ka kb q0 q1 q2 q3) kq) ?_
  show own_G p e s below (Q_rm9_3 Z h0 n0 a b kk ka kb q0 q1 q2 q3) _ _ _
  refine own_go (S' := (s₁.setTop (mkF m 1 #[.val (.ref a), .val (.ref b), .val (.int (3 : Int32)), .val (.int (Int32.ofNat kk)), .unset, .unset] [(.int (4 : Int32))]))) (fun tq kq => XS.iconst X0.here hx rfl (hb hby d9_0) kq) ?_
  obtain ⟨T101, h101, k101, X101, e101, E101, A101, st101⟩ := newP X0 hx hZ (hw _ (List.mem_of_getElem? (i := 0) rfl)) e0 (g := (mkF m 1 #[.val (.ref a), .val (.ref b), .val (.int (3 : Int32)), .val (.int (Int32.ofNat kk)), .unset, .unset] [(.int (4 : Int32))])) rfl (hb hby d9_1) rfl (by decide) (cap := 4) (by decide) (by decide) (by decide) (by decide)
  obtain ⟨b101, g101⟩ : ∃ z, z = h0.size := ⟨_, rfl⟩
  rw [← g101] at A101 st101
  have ne_a_b101 : a ≠ b101 := Nat.ne_of_lt (Nat.lt_of_lt_of_le Va.lt (Nat.le_of_eq g101.symm))
  have ne_b_b101 : b ≠ b101 := Nat.ne_of_lt (Nat.lt_of_lt_of_le Vb.lt (Nat.le_of_eq g101.symm))
  have ge_b101 : n0 ≤ b101 := Nat.le_trans (own_osz O0) (Nat.le_of_eq g101.symm)
  have gk_b101 : h0.size ≤ b101 := Nat.le_trans K0.1 (Nat.le_of_eq g101.symm)
  have V101 : own_Ar Z h101 b101 k101 .int [(.int (0 : Int32)), (.int (0 : Int32)), (.int (0 : Int32)), (.int (0 : Int32))] := own_Ar.new A101 (by decide)
  have O101 := O0.ext E101
  have K101 := K0.ext E101
  refine own_go (S' := (T101.setTop (mkF m 14 #[.val (.ref a), .val (.ref b), .val (.int (3 : Int32)), .val (.int (Int32.ofNat kk)), .val (.ref b101), .val (.int (0 : Int32))] [(.int (0 : Int32)), (.ref b)]))) (fun tq kq => st101 tq (XS.astore X101.here hx rfl (hb hby d9_3) rfl rfl (l' := #[.val (.ref a), .val (.ref b), .val (.int (3 : Int32)), .val (.int (Int32.ofNat kk)), .val (.ref b101), .unset]) rfl (XS.iconst X101.here hx rfl (hb hby d9_5) (XS.istore X101.here hx rfl (hb hby d9_6) rfl (l' := #[.val (.ref a), .val (.ref b), .val (.int (3 : Int32)), .val (.int (Int32.ofNat kk)), .val (.ref b101), .val (.int (0 : Int32))]) rfl (XS.iloadN X101.here hx rfl (hb hby d9_8) rfl (XS.ifNo X101.here hx rfl (hb hby d9_9) rfl ((if0 _ _).trans (tlt (by decide : (0 : Int32) < (3 : Int32))).2.2.2) (XS.aloadN X101.here hx rfl (hb hby d9_12) rfl rfl (XS.iconst X101.here hx rfl (hb hby d9_13) kq)))))))) ?_
  have f102 := (Vb.ext E101)
  obtain ⟨cl103, Ar103, -, -, hin103, hat103⟩ := f102.at (j := (0 : Int32)) (v := (.int (Int32.ofNat q0))) (by decide) rfl
  refine own_go (S' := (T101.setTop (mkF m 16 #[.val (.ref a), .val (.ref b), .val (.int (3 : Int32)), .val (.int (Int32.ofNat kk)), .val (.ref b101), .val (.int (0 : Int32))] [(.int (Int32.ofNat kk)), (.int (Int32.ofNat q0))]))) (fun tq kq => X101.iaload hx (j := (0 : Int32)) (v := (.int (Int32.ofNat q0))) (by rw [e101]; exact Ar103.1) (State.isArrayOf_alike hZ.alike Ar103.2.1) Ar103.2.2 hin103 hat103 (g := (mkF m 14 #[.val (.ref a), .val (.ref b), .val (.int (3 : Int32)), .val (.int (Int32.ofNat kk)), .val (.ref b101), .val (.int (0 : Int32))] [(.int (0 : Int32)), (.ref b)])) rfl rfl (hb hby d9_14) tq (XS.iloadN X101.here hx rfl (hb hby d9_15) rfl kq)) ?_
  by_cases hc104 : (Int32.ofNat q0) = (Int32.ofNat kk)
  · refine own_go (S' := (T101.setTop (mkF m 24 #[.val (.ref a), .val (.ref b), .val (.int (3 : Int32)), .val (.int (Int32.ofNat kk)), .val (.ref b101), .val (.int (0 : Int32))] [(.int (0 : Int32)), (.int (0 : Int32)), (.ref b101)]))) (fun tq kq => XS.icmpNo X101.here hx rfl (hb hby d9_16) rfl (teq hc104).2 (XS.aload X101.here hx rfl (hb hby d9_19) rfl rfl (XS.iload X101.here hx rfl (hb hby d9_21) rfl (XS.iconst X101.here hx rfl (hb hby d9_23) kq)))) ?_
    obtain ⟨cl105, Ar105, qa105, sa105, hin105, -⟩ := V101.at (j := (0 : Int32)) (by decide) rfl
    obtain ⟨T105, h105, X105, e105, W105, st105⟩ := stI X101 hx hZ e101 Ar105 (j := (0 : Int32)) hin105 (g := (mkF m 24 #[.val (.ref a), .val (.ref b), .val (.int (3 : Int32)), .val (.int (Int32.ofNat kk)), .val (.ref b101), .val (.int (0 : Int32))] [(.int (0 : Int32)), (.int (0 : Int32)), (.ref b101)])) rfl rfl (hb hby d9_24)
    have N105 := Fr.snoc X105 N0 ge_b101
    have O105 := O101.wr W105 ge_b101
    have K105 := K101.wr W105 (Or.inr gk_b101)
    have V105 : own_Ar Z h105 b101 k101 .int [(.int (0 : Int32)), (.int (0 : Int32)), (.int (0 : Int32)), (.int (0 : Int32))] := own_Ar.set Ar105 qa105 sa105 V101.small W105
    refine own_go (S' := (T105.setTop (mkF m 35 #[.val (.ref a), .val (.ref b), .val (.int (3 : Int32)), .val (.int (Int32.ofNat kk)), .val (.ref b101), .val (.int (1 : Int32))] [(.int (1 : Int32)), (.ref b)]))) (fun tq kq => st105 tq (XS.iinc X105.here hx rfl (hb hby d9_25) rfl (l' := #[.val (.ref a), .val (.ref b), .val (.int (3 : Int32)), .val (.int (Int32.ofNat kk)), .val (.ref b101), .val (.int (1 : Int32))]) rfl (XS.iloadN X105.here hx rfl (hb hby d9_28) rfl (XS.iconst X105.here hx rfl (hb hby d9_29) (XS.icmpNo X105.here hx rfl (hb hby d9_30) rfl (tlt (by decide : (1 : Int32) < (3 : Int32))).2.2.2 (XS.aloadN X105.here hx rfl (hb hby d9_33) rfl rfl (XS.iconst X105.here hx rfl (hb hby d9_34) kq))))))) ?_
    have f106 := (f102.other W105 ne_b_b101)
    obtain ⟨cl107, Ar107, -, -, hin107, hat107⟩ := f106.at (j := (1 : Int32)) (v := (.int (Int32.ofNat q1))) (by decide) rfl
    refine own_go (S' := (T105.setTop (mkF m 37 #[.val (.ref a), .val (.ref b), .val (.int (3 : Int32)), .val (.int (Int32.ofNat kk)), .val (.ref b101), .val (.int (1 : Int32))] [(.int (Int32.ofNat kk)), (.int (Int32.ofNat q1))]))) (fun tq kq => X105.iaload hx (j := (1 : Int32)) (v := (.int (Int32.ofNat q1))) (by rw [e105]; exact Ar107.1) (State.isArrayOf_alike hZ.alike Ar107.2.1) Ar107.2.2 hin107 hat107 (g := (mkF m 35 #[.val (.ref a), .val (.ref b), .val (.int (3 : Int32)), .val (.int (Int32.ofNat kk)), .val (.ref b101), .val (.int (1 : Int32))] [(.int (1 : Int32)), (.ref b)])) rfl rfl (hb hby d9_35) tq (XS.iloadN X105.here hx rfl (hb hby d9_36) rfl kq)) ?_
    by_cases hc108 : (Int32.ofNat q1) = (Int32.ofNat kk)
    · refine own_go (S' := (T105.setTop (mkF m 45 #[.val (.ref a), .val (.ref b), .val (.int (3 : Int32)), .val (.int (Int32.ofNat kk)), .val (.ref b101), .val (.int (1 : Int32))] [(.int (1 : Int32)), (.int (1 : Int32)), (.ref b101)]))) (fun tq kq => XS.icmpNo X105.here hx rfl (hb hby d9_37) rfl (teq hc108).2 (XS.aload X105.here hx rfl (hb hby d9_40) rfl rfl (XS.iload X105.here hx rfl (hb hby d9_42) rfl (XS.iconst X105.here hx rfl (hb hby d9_44) kq)))) ?_
      obtain ⟨cl109, Ar109, qa109, sa109, hin109, -⟩ := V105.at (j := (1 : Int32)) (by decide) rfl
      obtain ⟨T109, h109, X109, e109, W109, st109⟩ := stI X105 hx hZ e105 Ar109 (j := (1 : Int32)) hin109 (g := (mkF m 45 #[.val (.ref a), .val (.ref b), .val (.int (3 : Int32)), .val (.int (Int32.ofNat kk)), .val (.ref b101), .val (.int (1 : Int32))] [(.int (1 : Int32)), (.int (1 : Int32)), (.ref b101)])) rfl rfl (hb hby d9_45)
      have N109 := Fr.snoc X109 N105 ge_b101
      have O109 := O105.wr W109 ge_b101
      have K109 := K105.wr W109 (Or.inr gk_b101)
      have V109 : own_Ar Z h109 b101 k101 .int [(.int (0 : Int32)), (.int (1 : Int32)), (.int (0 : Int32)), (.int (0 : Int32))] := own_Ar.set Ar109 qa109 sa109 V105.small W109
      refine own_go (S' := (T109.setTop (mkF m 56 #[.val (.ref a), .val (.ref b), .val (.int (3 : Int32)), .val (.int (Int32.ofNat kk)), .val (.ref b101), .val (.int (2 : Int32))] [(.int (2 : Int32)), (.ref b)]))) (fun tq kq => st109 tq (XS.iinc X109.here hx rfl (hb hby d9_46) rfl (l' := #[.val (.ref a), .val (.ref b), .val (.int (3 : Int32)), .val (.int (Int32.ofNat kk)), .val (.ref b101), .val (.int (2 : Int32))]) rfl (XS.iloadN X109.here hx rfl (hb hby d9_49) rfl (XS.iconst X109.here hx rfl (hb hby d9_50) (XS.icmpNo X109.here hx rfl (hb hby d9_51) rfl (tlt (by decide : (2 : Int32) < (3 : Int32))).2.2.2 (XS.aloadN X109.here hx rfl (hb hby d9_54) rfl rfl (XS.iconst X109.here hx rfl (hb hby d9_55) kq))))))) ?_
      have f110 := (f106.other W109 ne_b_b101)
      obtain ⟨cl111, Ar111, -, -, hin111, hat111⟩ := f110.at (j := (2 : Int32)) (v := (.int (Int32.ofNat q2))) (by decide) rfl
      refine own_go (S' := (T109.setTop (mkF m 58 #[.val (.ref a), .val (.ref b), .val (.int (3 : Int32)), .val (.int (Int32.ofNat kk)), .val (.ref b101), .val (.int (2 : Int32))] [(.int (Int32.ofNat kk)), (.int (Int32.ofNat q2))]))) (fun tq kq => X109.iaload hx (j := (2 : Int32)) (v := (.int (Int32.ofNat q2))) (by rw [e109]; exact Ar111.1) (State.isArrayOf_alike hZ.alike Ar111.2.1) Ar111.2.2 hin111 hat111 (g := (mkF m 56 #[.val (.ref a), .val (.ref b), .val (.int (3 : Int32)), .val (.int (Int32.ofNat kk)), .val (.ref b101), .val (.int (2 : Int32))] [(.int (2 : Int32)), (.ref b)])) rfl rfl (hb hby d9_56) tq (XS.iloadN X109.here hx rfl (hb hby d9_57) rfl kq)) ?_
      by_cases hc112 : (Int32.ofNat q2) = (Int32.ofNat kk)
      · refine own_go (S' := (T109.setTop (mkF m 66 #[.val (.ref a), .val (.ref b), .val (.int (3 : Int32)), .val (.int (Int32.ofNat kk)), .val (.ref b101), .val (.int (2 : Int32))] [(.int (2 : Int32)), (.int (2 : Int32)), (.ref b101)]))) (fun tq kq => XS.icmpNo X109.here hx rfl (hb hby d9_58) rfl (teq hc112).2 (XS.aload X109.here hx rfl (hb hby d9_61) rfl rfl (XS.iload X109.here hx rfl (hb hby d9_63) rfl (XS.iconst X109.here hx rfl (hb hby d9_65) kq)))) ?_
        obtain ⟨cl113, Ar113, qa113, sa113, hin113, -⟩ := V109.at (j := (2 : Int32)) (by decide) rfl
        obtain ⟨T113, h113, X113, e113, W113, st113⟩ := stI X109 hx hZ e109 Ar113 (j := (2 : Int32)) hin113 (g := (mkF m 66 #[.val (.ref a), .val (.ref b), .val (.int (3 : Int32)), .val (.int (Int32.ofNat kk)), .val (.ref b101), .val (.int (2 : Int32))] [(.int (2 : Int32)), (.int (2 : Int32)), (.ref b101)])) rfl rfl (hb hby d9_66)
        have N113 := Fr.snoc X113 N109 ge_b101
        have O113 := O109.wr W113 ge_b101
        have K113 := K109.wr W113 (Or.inr gk_b101)
        have V113 : own_Ar Z h113 b101 k101 .int [(.int (0 : Int32)), (.int (1 : Int32)), (.int (2 : Int32)), (.int (0 : Int32))] := own_Ar.set Ar113 qa113 sa113 V109.small W113
        refine own_go (S' := (T113.setTop (mkF m 91 #[.val (.ref a), .val (.ref b), .val (.int (3 : Int32)), .val (.int (Int32.ofNat kk)), .val (.ref b101), .val (.int (3 : Int32))] []))) (fun tq kq => st113 tq (XS.iinc X113.here hx rfl (hb hby d9_67) rfl (l' := #[.val (.ref a), .val (.ref b), .val (.int (3 : Int32)), .val (.int (Int32.ofNat kk)), .val (.ref b101), .val (.int (3 : Int32))]) rfl (XS.iloadN X113.here hx rfl (hb hby d9_70) rfl (XS.iconst X113.here hx rfl (hb hby d9_71) (XS.icmpYes X113.here hx rfl (pc0 := 72) (pc' := 91) rfl (hb hby d9_72) rfl (flt (by decide : ¬ ((3 : Int32) < (3 : Int32)))).2.2.2 (by decide) (by decide) kq))))) ?_
        have hq115 : q0 = kk := (own_eqN (by omega) (by omega)).mp hc104
        have hq116 : q1 = kk := (own_eqN (by omega) (by omega)).mp hc108
        have hq117 : q2 = kk := (own_eqN (by omega) (by omega)).mp hc112
        have ex114 : own_ex [q0, q1, q2] kk = [0, 1, 2] := by
          simp only [own_ex, List.length_cons, List.length_nil]
          simp [List.range_succ, List.filter_append, List.getD, hq115, hq116, hq117]
        rw [ex114] at Va
        refine own_go (S' := (T113.setTop (mkF m 96 #[.val (.ref a), .val (.ref b), .val (.int (3 : Int32)), .val (.int (Int32.ofNat kk)), .val (.ref b101), .val (.int (3 : Int32))] [(.ref a)]))) (fun tq kq => XS.aloadN X113.here hx rfl (hb hby d9_91) rfl rfl (XS.ifnullNo X113.here hx rfl (hb hby d9_92) rfl (XS.aloadN X113.here hx rfl (hb hby d9_95) rfl rfl kq))) ?_
        have f118 := ((((Va.ext E101).other W105 ne_a_b101).other W109 ne_a_b101).other W113 ne_a_b101)
        obtain ⟨cl119, Ar119, ln119⟩ := f118.len
        have lq119 : cl119.slots.size.toInt32 = (3 : Int32) := ln119.trans rfl
        refine own_go (S' := (T113.setTop (mkF m 112 #[.val (.ref a), .val (.ref b), .val (.int (3 : Int32)), .val (.int (Int32.ofNat kk)), .val (.ref b101), .val (.int (3 : Int32))] [(.int (0 : Int32)), (.ref a)]))) (fun tq kq => X113.arraylength hx (by rw [e113]; exact Ar119.1) (State.isArrayOf_alike hZ.alike Ar119.2.1) (g := (mkF m 96 #[.val (.ref a), .val (.ref b), .val (.int (3 : Int32)), .val (.int (Int32.ofNat kk)), .val (.ref b101), .val (.int (3 : Int32))] [(.ref a)])) rfl rfl (hb hby d9_96) tq (by rw [lq119]; exact (XS.iload X113.here hx rfl (hb hby d9_97) rfl (XS.icmpYes X113.here hx rfl (pc0 := 99) (pc' := 104) rfl (hb hby d9_99) rfl (teq (by decide : (3 : Int32) = (3 : Int32))).1 (by decide) (by decide) (XS.iload X113.here hx rfl (hb hby d9_104) rfl (XS.iconst X113.here hx rfl (hb hby d9_106) (XS.icmpNo X113.here hx rfl (hb hby d9_107) rfl (flt (by decide : ¬ ((3 : Int32) < (1 : Int32)))).1 (XS.aloadN X113.here hx rfl (hb hby d9_110) rfl rfl (XS.iconst X113.here hx rfl (hb hby d9_111) kq))))))))) ?_
        obtain ⟨cl120, Ar120, -, -, hin120, hat120⟩ := f118.at (j := (0 : Int32)) (v := (.int (0 : Int32))) (by decide) rfl
        refine own_go (S' := (T113.setTop (mkF m 116 #[.val (.ref a), .val (.ref b), .val (.int (3 : Int32)), .val (.int (Int32.ofNat kk)), .val (.ref b101), .val (.int (3 : Int32))] [(.int (0 : Int32)), (.ref b101), (.int (0 : Int32))]))) (fun tq kq => X113.iaload hx (j := (0 : Int32)) (v := (.int (0 : Int32))) (by rw [e113]; exact Ar120.1) (State.isArrayOf_alike hZ.alike Ar120.2.1) Ar120.2.2 hin120 hat120 (g := (mkF m 112 #[.val (.ref a), .val (.ref b), .val (.int (3 : Int32)), .val (.int (Int32.ofNat kk)), .val (.ref b101), .val (.int (3 : Int32))] [(.int (0 : Int32)), (.ref a)])) rfl rfl (hb hby d9_112) tq (XS.aload X113.here hx rfl (hb hby d9_113) rfl rfl (XS.iconst X113.here hx rfl (hb hby d9_115) kq))) ?_
        obtain ⟨cl121, Ar121, -, -, hin121, hat121⟩ := V113.at (j := (0 : Int32)) (v := (.int (0 : Int32))) (by decide) rfl
        refine own_go (S' := (T113.setTop (mkF m 128 #[.val (.ref a), .val (.ref b), .val (.int (3 : Int32)), .val (.int (Int32.ofNat kk)), .val (.ref b101), .val (.int (3 : Int32))] [(.int (1 : Int32)), (.ref a)]))) (fun tq kq => X113.iaload hx (j := (0 : Int32)) (v := (.int (0 : Int32))) (by rw [e113]; exact Ar121.1) (State.isArrayOf_alike hZ.alike Ar121.2.1) Ar121.2.2 hin121 hat121 (g := (mkF m 116 #[.val (.ref a), .val (.ref b), .val (.int (3 : Int32)), .val (.int (Int32.ofNat kk)), .val (.ref b101), .val (.int (3 : Int32))] [(.int (0 : Int32)), (.ref b101), (.int (0 : Int32))])) rfl rfl (hb hby d9_116) tq (XS.icmpNo X113.here hx rfl (hb hby d9_117) rfl (teq (by decide : (0 : Int32) = (0 : Int32))).2 (XS.iload X113.here hx rfl (hb hby d9_120) rfl (XS.iconst X113.here hx rfl (hb hby d9_122) (XS.icmpNo X113.here hx rfl (hb hby d9_123) rfl (flt (by decide : ¬ ((3 : Int32) < (2 : Int32)))).1 (XS.aloadN X113.here hx rfl (hb hby d9_126) rfl rfl (XS.iconst X113.here hx rfl (hb hby d9_127) kq))))))) ?_
        obtain ⟨cl122, Ar122, -, -, hin122, hat122⟩ := f118.at (j := (1 : Int32)) (v := (.int (1 : Int32))) (by decide) rfl
        refine own_go (S' := (T113.setTop (mkF m 132 #[.val (.ref a), .val (.ref b), .val (.int (3 : Int32)), .val (.int (Int32.ofNat kk)), .val (.ref b101), .val (.int (3 : Int32))] [(.int (1 : Int32)), (.ref b101), (.int (1 : Int32))]))) (fun tq kq => X113.iaload hx (j := (1 : Int32)) (v := (.int (1 : Int32))) (by rw [e113]; exact Ar122.1) (State.isArrayOf_alike hZ.alike Ar122.2.1) Ar122.2.2 hin122 hat122 (g := (mkF m 128 #[.val (.ref a), .val (.ref b), .val (.int (3 : Int32)), .val (.int (Int32.ofNat kk)), .val (.ref b101), .val (.int (3 : Int32))] [(.int (1 : Int32)), (.ref a)])) rfl rfl (hb hby d9_128) tq (XS.aload X113.here hx rfl (hb hby d9_129) rfl rfl (XS.iconst X113.here hx rfl (hb hby d9_131) kq))) ?_
        obtain ⟨cl123, Ar123, -, -, hin123, hat123⟩ := V113.at (j := (1 : Int32)) (v := (.int (1 : Int32))) (by decide) rfl
        refine own_go (S' := (T113.setTop (mkF m 144 #[.val (.ref a), .val (.ref b), .val (.int (3 : Int32)), .val (.int (Int32.ofNat kk)), .val (.ref b101), .val (.int (3 : Int32))] [(.int (2 : Int32)), (.ref a)]))) (fun tq kq => X113.iaload hx (j := (1 : Int32)) (v := (.int (1 : Int32))) (by rw [e113]; exact Ar123.1) (State.isArrayOf_alike hZ.alike Ar123.2.1) Ar123.2.2 hin123 hat123 (g := (mkF m 132 #[.val (.ref a), .val (.ref b), .val (.int (3 : Int32)), .val (.int (Int32.ofNat kk)), .val (.ref b101), .val (.int (3 : Int32))] [(.int (1 : Int32)), (.ref b101), (.int (1 : Int32))])) rfl rfl (hb hby d9_132) tq (XS.icmpNo X113.here hx rfl (hb hby d9_133) rfl (teq (by decide : (1 : Int32) = (1 : Int32))).2 (XS.iload X113.here hx rfl (hb hby d9_136) rfl (XS.iconst X113.here hx rfl (hb hby d9_138) (XS.icmpNo X113.here hx rfl (hb hby d9_139) rfl (flt (by decide : ¬ ((3 : Int32) < (3 : Int32)))).1 (XS.aloadN X113.here hx rfl (hb hby d9_142) rfl rfl (XS.iconst X113.here hx rfl (hb hby d9_143) kq))))))) ?_
        obtain ⟨cl124, Ar124, -, -, hin124, hat124⟩ := f118.at (j := (2 : Int32)) (v := (.int (2 : Int32))) (by decide) rfl
        refine own_go (S' := (T113.setTop (mkF m 148 #[.val (.ref a), .val (.ref b), .val (.int (3 : Int32)), .val (.int (Int32.ofNat kk)), .val (.ref b101), .val (.int (3 : Int32))] [(.int (2 : Int32)), (.ref b101), (.int (2 : Int32))]))) (fun tq kq => X113.iaload hx (j := (2 : Int32)) (v := (.int (2 : Int32))) (by rw [e113]; exact Ar124.1) (State.isArrayOf_alike hZ.alike Ar124.2.1) Ar124.2.2 hin124 hat124 (g := (mkF m 144 #[.val (.ref a), .val (.ref b), .val (.int (3 : Int32)), .val (.int (Int32.ofNat kk)), .val (.ref b101), .val (.int (3 : Int32))] [(.int (2 : Int32)), (.ref a)])) rfl rfl (hb hby d9_144) tq (XS.aload X113.here hx rfl (hb hby d9_145) rfl rfl (XS.iconst X113.here hx rfl (hb hby d9_147) kq))) ?_
        obtain ⟨cl125, Ar125, -, -, hin125, hat125⟩ := V113.at (j := (2 : Int32)) (v := (.int (2 : Int32))) (by decide) rfl
        refine own_go (S' := (T113.setTop (mkF m 173 #[.val (.ref a), .val (.ref b), .val (.int (3 : Int32)), .val (.int (Int32.ofNat kk)), .val (.ref b101), .val (.int (3 : Int32))] [(.int (1 : Int32))]))) (fun tq kq => X113.iaload hx (j := (2 : Int32)) (v := (.int (2 : Int32))) (by rw [e113]; exact Ar125.1) (State.isArrayOf_alike hZ.alike Ar125.2.1) Ar125.2.2 hin125 hat125 (g := (mkF m 148 #[.val (.ref a), .val (.ref b), .val (.int (3 : Int32)), .val (.int (Int32.ofNat kk)), .val (.ref b101), .val (.int (3 : Int32))] [(.int (2 : Int32)), (.ref b101), (.int (2 : Int32))])) rfl rfl (hb hby d9_148) tq (XS.icmpNo X113.here hx rfl (hb hby d9_149) rfl (teq (by decide : (2 : Int32) = (2 : Int32))).2 (XS.iload X113.here hx rfl (hb hby d9_152) rfl (XS.iconst X113.here hx rfl (hb hby d9_154) (XS.icmpYes X113.here hx rfl (pc0 := 155) (pc' := 168) rfl (hb hby d9_155) rfl (tlt (by decide : (3 : Int32) < (4 : Int32))).1 (by decide) (by decide) (XS.iconst X113.here hx rfl (hb hby d9_168) (XS.goto X113.here hx rfl (pc0 := 169) (pc' := 173) rfl (hb hby d9_169) (by decide) (by decide) kq))))))) ?_
        refine own_retN X113 hx hlk hret (by simp) (hb hby d9_173) (by decide) (by decide) ?_
        rw [e113]
        exact ⟨rfl, N113, K113⟩
      · refine own_go (S' := (T109.setTop (mkF m 91 #[.val (.ref a), .val (.ref b), .val (.int (3 : Int32)), .val (.int (Int32.ofNat kk)), .val (.ref b101), .val (.int (2 : Int32))] []))) (fun tq kq => XS.icmpYes X109.here hx rfl (pc0 := 58) (pc' := 70) rfl (hb hby d9_58) rfl (feq hc112).2 (by decide) (by decide) (XS.iloadN X109.here hx rfl (hb hby d9_70) rfl (XS.iconst X109.here hx rfl (hb hby d9_71) (XS.icmpYes X109.here hx rfl (pc0 := 72) (pc' := 91) rfl (hb hby d9_72) rfl (flt (by decide : ¬ ((3 : Int32) < (3 : Int32)))).2.2.2 (by decide) (by decide) kq)))) ?_
        have hq127 : q0 = kk := (own_eqN (by omega) (by omega)).mp hc104
        have hq128 : q1 = kk := (own_eqN (by omega) (by omega)).mp hc108
        have hq129 : ¬ (q2 = kk) := fun z => hc112 (congrArg Int32.ofNat z)
        have ex126 : own_ex [q0, q1, q2] kk = [0, 1] := by
          simp only [own_ex, List.length_cons, List.length_nil]
          simp [List.range_succ, List.filter_append, List.getD, hq127, hq128, hq129]
        rw [ex126] at Va
        refine own_go (S' := (T109.setTop (mkF m 96 #[.val (.ref a), .val (.ref b), .val (.int (3 : Int32)), .val (.int (Int32.ofNat kk)), .val (.ref b101), .val (.int (2 : Int32))] [(.ref a)]))) (fun tq kq => XS.aloadN X109.here hx rfl (hb hby d9_91) rfl rfl (XS.ifnullNo X109.here hx rfl (hb hby d9_92) rfl (XS.aloadN X109.here hx rfl (hb hby d9_95) rfl rfl kq))) ?_
        have f130 := (((Va.ext E101).other W105 ne_a_b101).other W109 ne_a_b101)
        obtain ⟨cl131, Ar131, ln131⟩ := f130.len
        have lq131 : cl131.slots.size.toInt32 = (2 : Int32) := ln131.trans rfl
        refine own_go (S' := (T109.setTop (mkF m 112 #[.val (.ref a), .val (.ref b), .val (.int (3 : Int32)), .val (.int (Int32.ofNat kk)), .val (.ref b101), .val (.int (2 : Int32))] [(.int (0 : Int32)), (.ref a)]))) (fun tq kq => X109.arraylength hx (by rw [e109]; exact Ar131.1) (State.isArrayOf_alike hZ.alike Ar131.2.1) (g := (mkF m 96 #[.val (.ref a), .val (.ref b), .val (.int (3 : Int32)), .val (.int (Int32.ofNat kk)), .val (.ref b101), .val (.int (2 : Int32))] [(.ref a)])) rfl rfl (hb hby d9_96) tq (by rw [lq131]; exact (XS.iload X109.here hx rfl (hb hby d9_97) rfl (XS.icmpYes X109.here hx rfl (pc0 := 99) (pc' := 104) rfl (hb hby d9_99) rfl (teq (by decide : (2 : Int32) = (2 : Int32))).1 (by decide) (by decide) (XS.iload X109.here hx rfl (hb hby d9_104) rfl (XS.iconst X109.here hx rfl (hb hby d9_106) (XS.icmpNo X109.here hx rfl (hb hby d9_107) rfl (flt (by decide : ¬ ((2 : Int32) < (1 : Int32)))).1 (XS.aloadN X109.here hx rfl (hb hby d9_110) rfl rfl (XS.iconst X109.here hx rfl (hb hby d9_111) kq))))))))) ?_
        obtain ⟨cl132, Ar132, -, -, hin132, hat132⟩ := f130.at (j := (0 : Int32)) (v := (.int (0 : Int32))) (by decide) rfl
        refine own_go (S' := (T109.setTop (mkF m 116 #[.val (.ref a), .val (.ref b), .val (.int (3 : Int32)), .val (.int (Int32.ofNat kk)), .val (.ref b101), .val (.int (2 : Int32))] [(.int (0 : Int32)), (.ref b101), (.int (0 : Int32))]))) (fun tq kq => X109.iaload hx (j := (0 : Int32)) (v := (.int (0 : Int32))) (by rw [e109]; exact Ar132.1) (State.isArrayOf_alike hZ.alike Ar132.2.1) Ar132.2.2 hin132 hat132 (g := (mkF m 112 #[.val (.ref a), .val (.ref b), .val (.int (3 : Int32)), .val (.int (Int32.ofNat kk)), .val (.ref b101), .val (.int (2 : Int32))] [(.int (0 : Int32)), (.ref a)])) rfl rfl (hb hby d9_112) tq (XS.aload X109.here hx rfl (hb hby d9_113) rfl rfl (XS.iconst X109.here hx rfl (hb hby d9_115) kq))) ?_
        obtain ⟨cl133, Ar133, -, -, hin133, hat133⟩ := V109.at (j := (0 : Int32)) (v := (.int (0 : Int32))) (by decide) rfl
        refine own_go (S' := (T109.setTop (mkF m 128 #[.val (.ref a), .val (.ref b), .val (.int (3 : Int32)), .val (.int (Int32.ofNat kk)), .val (.ref b101), .val (.int (2 : Int32))] [(.int (1 : Int32)), (.ref a)]))) (fun tq kq => X109.iaload hx (j := (0 : Int32)) (v := (.int (0 : Int32))) (by rw [e109]; exact Ar133.1) (State.isArrayOf_alike hZ.alike Ar133.2.1) Ar133.2.2 hin133 hat133 (g := (mkF m 116 #[.val (.ref a), .val (.ref b), .val (.int (3 : Int32)), .val (.int (Int32.ofNat kk)), .val (.ref b101), .val (.int (2 : Int32))] [(.int (0 : Int32)), (.ref b101), (.int (0 : Int32))])) rfl rfl (hb hby d9_116) tq (XS.icmpNo X109.here hx rfl (hb hby d9_117) rfl (teq (by decide : (0 : Int32) = (0 : Int32))).2 (XS.iload X109.here hx rfl (hb hby d9_120) rfl (XS.iconst X109.here hx rfl (hb hby d9_122) (XS.icmpNo X109.here hx rfl (hb hby d9_123) rfl (flt (by decide : ¬ ((2 : Int32) < (2 : Int32)))).1 (XS.aloadN X109.here hx rfl (hb hby d9_126) rfl rfl (XS.iconst X109.here hx rfl (hb hby d9_127) kq))))))) ?_
        obtain ⟨cl134, Ar134, -, -, hin134, hat134⟩ := f130.at (j := (1 : Int32)) (v := (.int (1 : Int32))) (by decide) rfl
        refine own_go (S' := (T109.setTop (mkF m 132 #[.val (.ref a), .val (.ref b), .val (.int (3 : Int32)), .val (.int (Int32.ofNat kk)), .val (.ref b101), .val (.int (2 : Int32))] [(.int (1 : Int32)), (.ref b101), (.int (1 : Int32))]))) (fun tq kq => X109.iaload hx (j := (1 : Int32)) (v := (.int (1 : Int32))) (by rw [e109]; exact Ar134.1) (State.isArrayOf_alike hZ.alike Ar134.2.1) Ar134.2.2 hin134 hat134 (g := (mkF m 128 #[.val (.ref a), .val (.ref b), .val (.int (3 : Int32)), .val (.int (Int32.ofNat kk)), .val (.ref b101), .val (.int (2 : Int32))] [(.int (1 : Int32)), (.ref a)])) rfl rfl (hb hby d9_128) tq (XS.aload X109.here hx rfl (hb hby d9_129) rfl rfl (XS.iconst X109.here hx rfl (hb hby d9_131) kq))) ?_
        obtain ⟨cl135, Ar135, -, -, hin135, hat135⟩ := V109.at (j := (1 : Int32)) (v := (.int (1 : Int32))) (by decide) rfl
        refine own_go (S' := (T109.setTop (mkF m 173 #[.val (.ref a), .val (.ref b), .val (.int (3 : Int32)), .val (.int (Int32.ofNat kk)), .val (.ref b101), .val (.int (2 : Int32))] [(.int (1 : Int32))]))) (fun tq kq => X109.iaload hx (j := (1 : Int32)) (v := (.int (1 : Int32))) (by rw [e109]; exact Ar135.1) (State.isArrayOf_alike hZ.alike Ar135.2.1) Ar135.2.2 hin135 hat135 (g := (mkF m 132 #[.val (.ref a), .val (.ref b), .val (.int (3 : Int32)), .val (.int (Int32.ofNat kk)), .val (.ref b101), .val (.int (2 : Int32))] [(.int (1 : Int32)), (.ref b101), (.int (1 : Int32))])) rfl rfl (hb hby d9_132) tq (XS.icmpNo X109.here hx rfl (hb hby d9_133) rfl (teq (by decide : (1 : Int32) = (1 : Int32))).2 (XS.iload X109.here hx rfl (hb hby d9_136) rfl (XS.iconst X109.here hx rfl (hb hby d9_138) (XS.icmpYes X109.here hx rfl (pc0 := 139) (pc' := 152) rfl (hb hby d9_139) rfl (tlt (by decide : (2 : Int32) < (3 : Int32))).1 (by decide) (by decide) (XS.iload X109.here hx rfl (hb hby d9_152) rfl (XS.iconst X109.here hx rfl (hb hby d9_154) (XS.icmpYes X109.here hx rfl (pc0 := 155) (pc' := 168) rfl (hb hby d9_155) rfl (tlt (by decide : (2 : Int32) < (4 : Int32))).1 (by decide) (by decide) (XS.iconst X109.here hx rfl (hb hby d9_168) (XS.goto X109.here hx rfl (pc0 := 169) (pc' := 173) rfl (hb hby d9_169) (by decide) (by decide) kq)))))))))) ?_
        refine own_retN X109 hx hlk hret (by simp) (hb hby d9_173) (by decide) (by decide) ?_
        rw [e109]
        exact ⟨rfl, N109, K109⟩
    · refine own_go (S' := (T105.setTop (mkF m 56 #[.val (.ref a), .val (.ref b), .val (.int (3 : Int32)), .val (.int (Int32.ofNat kk)), .val (.ref b101), .val (.int (1 : Int32))] [(.int (2 : Int32)), (.ref b)]))) (fun tq kq => XS.icmpYes X105.here hx rfl (pc0 := 37) (pc' := 49) rfl (hb hby d9_37) rfl (feq hc108).2 (by decide) (by decide) (XS.iloadN X105.here hx rfl (hb hby d9_49) rfl (XS.iconst X105.here hx rfl (hb hby d9_50) (XS.icmpNo X105.here hx rfl (hb hby d9_51) rfl (tlt (by decide : (2 : Int32) < (3 : Int32))).2.2.2 (XS.aloadN X105.here hx rfl (hb hby d9_54) rfl rfl (XS.iconst X105.here hx rfl (hb hby d9_55) kq)))))) ?_
      obtain ⟨cl136, Ar136, -, -, hin136, hat136⟩ := f106.at (j := (2 : Int32)) (v := (.int (Int32.ofNat q2))) (by decide) rfl
      refine own_go (S' := (T105.setTop (mkF m 58 #[.val (.ref a), .val (.ref b), .val (.int (3 : Int32)), .val (.int (Int32.ofNat kk)), .val (.ref b101), .val (.int (1 : Int32))] [(.int (Int32.ofNat kk)), (.int (Int32.ofNat q2))]))) (fun tq kq => X105.iaload hx (j := (2 : Int32)) (v := (.int (Int32.ofNat q2))) (by rw [e105]; exact Ar136.1) (State.isArrayOf_alike hZ.alike Ar136.2.1) Ar136.2.2 hin136 hat136 (g := (mkF m 56 #[.val (.ref a), .val (.ref b), .val (.int (3 : Int32)), .val (.int (Int32.ofNat kk)), .val (.ref b101), .val (.int (1 : Int32))] [(.int (2 : Int32)), (.ref b)])) rfl rfl (hb hby d9_56) tq (XS.iloadN X105.here hx rfl (hb hby d9_57) rfl kq)) ?_
      by_cases hc137 : (Int32.ofNat q2) = (Int32.ofNat kk)
      · refine own_go (S' := (T105.setTop (mkF m 66 #[.val (.ref a), .val (.ref b), .val (.int (3 : Int32)), .val (.int (Int32.ofNat kk)), .val (.ref b101), .val (.int (1 : Int32))] [(.int (2 : Int32)), (.int (1 : Int32)), (.ref b101)]))) (fun tq kq => XS.icmpNo X105.here hx rfl (hb hby d9_58) rfl (teq hc137).2 (XS.aload X105.here hx rfl (hb hby d9_61) rfl rfl (XS.iload X105.here hx rfl (hb hby d9_63) rfl (XS.iconst X105.here hx rfl (hb hby d9_65) kq)))) ?_
        obtain ⟨cl138, Ar138, qa138, sa138, hin138, -⟩ := V105.at (j := (1 : Int32)) (by decide) rfl
        obtain ⟨T138, h138, X138, e138, W138, st138⟩ := stI X105 hx hZ e105 Ar138 (j := (1 : Int32)) hin138 (g := (mkF m 66 #[.val (.ref a), .val (.ref b), .val (.int (3 : Int32)), .val (.int (Int32.ofNat kk)), .val (.ref b101), .val (.int (1 : Int32))] [(.int (2 : Int32)), (.int (1 : Int32)), (.ref b101)])) rfl rfl (hb hby d9_66)
        have N138 := Fr.snoc X138 N105 ge_b101
        have O138 := O105.wr W138 ge_b101
        have K138 := K105.wr W138 (Or.inr gk_b101)
        have V138 : own_Ar Z h138 b101 k101 .int [(.int (0 : Int32)), (.int (2 : Int32)), (.int (0 : Int32)), (.int (0 : Int32))] := own_Ar.set Ar138 qa138 sa138 V105.small W138
        refine own_go (S' := (T138.setTop (mkF m 91 #[.val (.ref a), .val (.ref b), .val (.int (3 : Int32)), .val (.int (Int32.ofNat kk)), .val (.ref b101), .val (.int (2 : Int32))] []))) (fun tq kq => st138 tq (XS.iinc X138.here hx rfl (hb hby d9_67) rfl (l' := #[.val (.ref a), .val (.ref b), .val (.int (3 : Int32)), .val (.int (Int32.ofNat kk)), .val (.ref b101), .val (.int (2 : Int32))]) rfl (XS.iloadN X138.here hx rfl (hb hby d9_70) rfl (XS.iconst X138.here hx rfl (hb hby d9_71) (XS.icmpYes X138.here hx rfl (pc0 := 72) (pc' := 91) rfl (hb hby d9_72) rfl (flt (by decide : ¬ ((3 : Int32) < (3 : Int32)))).2.2.2 (by decide) (by decide) kq))))) ?_
        have hq140 : q0 = kk := (own_eqN (by omega) (by omega)).mp hc104
        have hq141 : ¬ (q1 = kk) := fun z => hc108 (congrArg Int32.ofNat z)
        have hq142 : q2 = kk := (own_eqN (by omega) (by omega)).mp hc137
        have ex139 : own_ex [q0, q1, q2] kk = [0, 2] := by
          simp only [own_ex, List.length_cons, List.length_nil]
          simp [List.range_succ, List.filter_append, List.getD, hq140, hq141, hq142]
        rw [ex139] at Va
        refine own_go (S' := (T138.setTop (mkF m 96 #[.val (.ref a), .val (.ref b), .val (.int (3 : Int32)), .val (.int (Int32.ofNat kk)), .val (.ref b101), .val (.int (2 : Int32))] [(.ref a)]))) (fun tq kq => XS.aloadN X138.here hx rfl (hb hby d9_91) rfl rfl (XS.ifnullNo X138.here hx rfl (hb hby d9_92) rfl (XS.aloadN X138.here hx rfl (hb hby d9_95) rfl rfl kq))) ?_
        have f143 := (((Va.ext E101).other W105 ne_a_b101).other W138 ne_a_b101)
        obtain ⟨cl144, Ar144, ln144⟩ := f143.len
        have lq144 : cl144.slots.size.toInt32 = (2 : Int32) := ln144.trans rfl
        refine own_go (S' := (T138.setTop (mkF m 112 #[.val (.ref a), .val (.ref b), .val (.int (3 : Int32)), .val (.int (Int32.ofNat kk)), .val (.ref b101), .val (.int (2 : Int32))] [(.int (0 : Int32)), (.ref a)]))) (fun tq kq => X138.arraylength hx (by rw [e138]; exact Ar144.1) (State.isArrayOf_alike hZ.alike Ar144.2.1) (g := (mkF m 96 #[.val (.ref a), .val (.ref b), .val (.int (3 : Int32)), .val (.int (Int32.ofNat kk)), .val (.ref b101), .val (.int (2 : Int32))] [(.ref a)])) rfl rfl (hb hby d9_96) tq (by rw [lq144]; exact (XS.iload X138.here hx rfl (hb hby d9_97) rfl (XS.icmpYes X138.here hx rfl (pc0 := 99) (pc' := 104) rfl (hb hby d9_99) rfl (teq (by decide : (2 : Int32) = (2 : Int32))).1 (by decide) (by decide) (XS.iload X138.here hx rfl (hb hby d9_104) rfl (XS.iconst X138.here hx rfl (hb hby d9_106) (XS.icmpNo X138.here hx rfl (hb hby d9_107) rfl (flt (by decide : ¬ ((2 : Int32) < (1 : Int32)))).1 (XS.aloadN X138.here hx rfl (hb hby d9_110) rfl rfl (XS.iconst X138.here hx rfl (hb hby d9_111) kq))))))))) ?_
        obtain ⟨cl145, Ar145, -, -, hin145, hat145⟩ := f143.at (j := (0 : Int32)) (v := (.int (0 : Int32))) (by decide) rfl
        refine own_go (S' := (T138.setTop (mkF m 116 #[.val (.ref a), .val (.ref b), .val (.int (3 : Int32)), .val (.int (Int32.ofNat kk)), .val (.ref b101), .val (.int (2 : Int32))] [(.int (0 : Int32)), (.ref b101), (.int (0 : Int32))]))) (fun tq kq => X138.iaload hx (j := (0 : Int32)) (v := (.int (0 : Int32))) (by rw [e138]; exact Ar145.1) (State.isArrayOf_alike hZ.alike Ar145.2.1) Ar145.2.2 hin145 hat145 (g := (mkF m 112 #[.val (.ref a), .val (.ref b), .val (.int (3 : Int32)), .val (.int (Int32.ofNat kk)), .val (.ref b101), .val (.int (2 : Int32))] [(.int (0 : Int32)), (.ref a)])) rfl rfl (hb hby d9_112) tq (XS.aload X138.here hx rfl (hb hby d9_113) rfl rfl (XS.iconst X138.here hx rfl (hb hby d9_115) kq))) ?_
        obtain ⟨cl146, Ar146, -, -, hin146, hat146⟩ := V138.at (j := (0 : Int32)) (v := (.int (0 : Int32))) (by decide) rfl
        refine own_go (S' := (T138.setTop (mkF m 128 #[.val (.ref a), .val (.ref b), .val (.int (3 : Int32)), .val (.int (Int32.ofNat kk)), .val (.ref b101), .val (.int (2 : Int32))] [(.int (1 : Int32)), (.ref a)]))) (fun tq kq => X138.iaload hx (j := (0 : Int32)) (v := (.int (0 : Int32))) (by rw [e138]; exact Ar146.1) (State.isArrayOf_alike hZ.alike Ar146.2.1) Ar146.2.2 hin146 hat146 (g := (mkF m 116 #[.val (.ref a), .val (.ref b), .val (.int (3 : Int32)), .val (.int (Int32.ofNat kk)), .val (.ref b101), .val (.int (2 : Int32))] [(.int (0 : Int32)), (.ref b101), (.int (0 : Int32))])) rfl rfl (hb hby d9_116) tq (XS.icmpNo X138.here hx rfl (hb hby d9_117) rfl (teq (by decide : (0 : Int32) = (0 : Int32))).2 (XS.iload X138.here hx rfl (hb hby d9_120) rfl (XS.iconst X138.here hx rfl (hb hby d9_122) (XS.icmpNo X138.here hx rfl (hb hby d9_123) rfl (flt (by decide : ¬ ((2 : Int32) < (2 : Int32)))).1 (XS.aloadN X138.here hx rfl (hb hby d9_126) rfl rfl (XS.iconst X138.here hx rfl (hb hby d9_127) kq))))))) ?_
        obtain ⟨cl147, Ar147, -, -, hin147, hat147⟩ := f143.at (j := (1 : Int32)) (v := (.int (2 : Int32))) (by decide) rfl
        refine own_go (S' := (T138.setTop (mkF m 132 #[.val (.ref a), .val (.ref b), .val (.int (3 : Int32)), .val (.int (Int32.ofNat kk)), .val (.ref b101), .val (.int (2 : Int32))] [(.int (1 : Int32)), (.ref b101), (.int (2 : Int32))]))) (fun tq kq => X138.iaload hx (j := (1 : Int32)) (v := (.int (2 : Int32))) (by rw [e138]; exact Ar147.1) (State.isArrayOf_alike hZ.alike Ar147.2.1) Ar147.2.2 hin147 hat147 (g := (mkF m 128 #[.val (.ref a), .val (.ref b), .val (.int (3 : Int32)), .val (.int (Int32.ofNat kk)), .val (.ref b101), .val (.int (2 : Int32))] [(.int (1 : Int32)), (.ref a)])) rfl rfl (hb hby d9_128) tq (XS.aload X138.here hx rfl (hb hby d9_129) rfl rfl (XS.iconst X138.here hx rfl (hb hby d9_131) kq))) ?_
        obtain ⟨cl148, Ar148, -, -, hin148, hat148⟩ := V138.at (j := (1 : Int32)) (v := (.int (2 : Int32))) (by decide) rfl
        refine own_go (S' := (T138.setTop (mkF m 173 #[.val (.ref a), .val (.ref b), .val (.int (3 : Int32)), .val (.int (Int32.ofNat kk)), .val (.ref b101), .val (.int (2 : Int32))] [(.int (1 : Int32))]))) (fun tq kq => X138.iaload hx (j := (1 : Int32)) (v := (.int (2 : Int32))) (by rw [e138]; exact Ar148.1) (State.isArrayOf_alike hZ.alike Ar148.2.1) Ar148.2.2 hin148 hat148 (g := (mkF m 132 #[.val (.ref a), .val (.ref b), .val (.int (3 : Int32)), .val (.int (Int32.ofNat kk)), .val (.ref b101), .val (.int (2 : Int32))] [(.int (1 : Int32)), (.ref b101), (.int (2 : Int32))])) rfl rfl (hb hby d9_132) tq (XS.icmpNo X138.here hx rfl (hb hby d9_133) rfl (teq (by decide : (2 : Int32) = (2 : Int32))).2 (XS.iload X138.here hx rfl (hb hby d9_136) rfl (XS.iconst X138.here hx rfl (hb hby d9_138) (XS.icmpYes X138.here hx rfl (pc0 := 139) (pc' := 152) rfl (hb hby d9_139) rfl (tlt (by decide : (2 : Int32) < (3 : Int32))).1 (by decide) (by decide) (XS.iload X138.here hx rfl (hb hby d9_152) rfl (XS.iconst X138.here hx rfl (hb hby d9_154) (XS.icmpYes X138.here hx rfl (pc0 := 155) (pc' := 168) rfl (hb hby d9_155) rfl (tlt (by decide : (2 : Int32) < (4 : Int32))).1 (by decide) (by decide) (XS.iconst X138.here hx rfl (hb hby d9_168) (XS.goto X138.here hx rfl (pc0 := 169) (pc' := 173) rfl (hb hby d9_169) (by decide) (by decide) kq)))))))))) ?_
        refine own_retN X138 hx hlk hret (by simp) (hb hby d9_173) (by decide) (by decide) ?_
        rw [e138]
        exact ⟨rfl, N138, K138⟩
      · refine own_go (S' := (T105.setTop (mkF m 91 #[.val (.ref a), .val (.ref b), .val (.int (3 : Int32)), .val (.int (Int32.ofNat kk)), .val (.ref b101), .val (.int (1 : Int32))] []))) (fun tq kq => XS.icmpYes X105.here hx rfl (pc0 := 58) (pc' := 70) rfl (hb hby d9_58) rfl (feq hc137).2 (by decide) (by decide) (XS.iloadN X105.here hx rfl (hb hby d9_70) rfl (XS.iconst X105.here hx rfl (hb hby d9_71) (XS.icmpYes X105.here hx rfl (pc0 := 72) (pc' := 91) rfl (hb hby d9_72) rfl (flt (by decide : ¬ ((3 : Int32) < (3 : Int32)))).2.2.2 (by decide) (by decide) kq)))) ?_
        have hq150 : q0 = kk := (own_eqN (by omega) (by omega)).mp hc104
        have hq151 : ¬ (q1 = kk) := fun z => hc108 (congrArg Int32.ofNat z)
        have hq152 : ¬ (q2 = kk) := fun z => hc137 (congrArg Int32.ofNat z)
        have ex149 : own_ex [q0, q1, q2] kk = [0] := by
          simp only [own_ex, List.length_cons, List.length_nil]
          simp [List.range_succ, List.filter_append, List.getD, hq150, hq151, hq152]
        rw [ex149] at Va
        refine own_go (S' := (T105.setTop (mkF m 96 #[.val (.ref a), .val (.ref b), .val (.int (3 : Int32)), .val (.int (Int32.ofNat kk)), .val (.ref b101), .val (.int (1 : Int32))] [(.ref a)]))) (fun tq kq => XS.aloadN X105.here hx rfl (hb hby d9_91) rfl rfl (XS.ifnullNo X105.here hx rfl (hb hby d9_92) rfl (XS.aloadN X105.here hx rfl (hb hby d9_95) rfl rfl kq))) ?_
        have f153 := ((Va.ext E101).other W105 ne_a_b101)
        obtain ⟨cl154, Ar154, ln154⟩ := f153.len
        have lq154 : cl154.slots.size.toInt32 = (1 : Int32) := ln154.trans rfl
        refine own_go (S' := (T105.setTop (mkF m 112 #[.val (.ref a), .val (.ref b), .val (.int (3 : Int32)), .val (.int (Int32.ofNat kk)), .val (.ref b101), .val (.int (1 : Int32))] [(.int (0 : Int32)), (.ref a)]))) (fun tq kq => X105.arraylength hx (by rw [e105]; exact Ar154.1) (State.isArrayOf_alike hZ.alike Ar154.2.1) (g := (mkF m 96 #[.val (.ref a), .val (.ref b), .val (.int (3 : Int32)), .val (.int (Int32.ofNat kk)), .val (.ref b101), .val (.int (1 : Int32))] [(.ref a)])) rfl rfl (hb hby d9_96) tq (by rw [lq154]; exact (XS.iload X105.here hx rfl (hb hby d9_97) rfl (XS.icmpYes X105.here hx rfl (pc0 := 99) (pc' := 104) rfl (hb hby d9_99) rfl (teq (by decide : (1 : Int32) = (1 : Int32))).1 (by decide) (by decide) (XS.iload X105.here hx rfl (hb hby d9_104) rfl (XS.iconst X105.here hx rfl (hb hby d9_106) (XS.icmpNo X105.here hx rfl (hb hby d9_107) rfl (flt (by decide : ¬ ((1 : Int32) < (1 : Int32)))).1 (XS.aloadN X105.here hx rfl (hb hby d9_110) rfl rfl (XS.iconst X105.here hx rfl (hb hby d9_111) kq))))))))) ?_
        obtain ⟨cl155, Ar155, -, -, hin155, hat155⟩ := f153.at (j := (0 : Int32)) (v := (.int (0 : Int32))) (by decide) rfl
        refine own_go (S' := (T105.setTop (mkF m 116 #[.val (.ref a), .val (.ref b), .val (.int (3 : Int32)), .val (.int (Int32.ofNat kk)), .val (.ref b101), .val (.int (1 : Int32))] [(.int (0 : Int32)), (.ref b101), (.int (0 : Int32))]))) (fun tq kq => X105.iaload hx (j := (0 : Int32)) (v := (.int (0 : Int32))) (by rw [e105]; exact Ar155.1) (State.isArrayOf_alike hZ.alike Ar155.2.1) Ar155.2.2 hin155 hat155 (g := (mkF m 112 #[.val (.ref a), .val (.ref b), .val (.int (3 : Int32)), .val (.int (Int32.ofNat kk)), .val (.ref b101), .val (.int (1 : Int32))] [(.int (0 : Int32)), (.ref a)])) rfl rfl (hb hby d9_112) tq (XS.aload X105.here hx rfl (hb hby d9_113) rfl rfl (XS.iconst X105.here hx rfl (hb hby d9_115) kq))) ?_
        obtain ⟨cl156, Ar156, -, -, hin156, hat156⟩ := V105.at (j := (0 : Int32)) (v := (.int (0 : Int32))) (by decide) rfl
        refine own_go (S' := (T105.setTop (mkF m 155 #[.val (.ref a), .val (.ref b), .val (.int (3 : Int32)), .val (.int (Int32.ofNat kk)), .val (.ref b101), .val (.int (1 : Int32))] [(.int (4 : Int32)), (.int (1 : Int32))]))) (fun tq kq => X105.iaload hx (j := (0 : Int32)) (v := (.int (0 : Int32))) (by rw [e105]; exact Ar156.1) (State.isArrayOf_alike hZ.alike Ar156.2.1) Ar156.2.2 hin156 hat156 (g := (mkF m 116 #[.val (.ref a), .val (.ref b), .val (.int (3 : Int32)), .val (.int (Int32.ofNat kk)), .val (.ref b101), .val (.int (1 : Int32))] [(.int (0 : Int32)), (.ref b101), (.int (0 : Int32))])) rfl rfl (hb hby d9_116) tq (XS.icmpNo X105.here hx rfl (hb hby d9_117) rfl (teq (by decide : (0 : Int32) = (0 : Int32))).2 (XS.iload X105.here hx rfl (hb hby d9_120) rfl (XS.iconst X105.here hx rfl (hb hby d9_122) (XS.icmpYes X105.here hx rfl (pc0 := 123) (pc' := 136) rfl (hb hby d9_123) rfl (tlt (by decide : (1 : Int32) < (2 : Int32))).1 (by decide) (by decide) (XS.iload X105.here hx rfl (hb hby d9_136) rfl (XS.iconst X105.here hx rfl (hb hby d9_138) (XS.icmpYes X105.here hx rfl (pc0 := 139) (pc' := 152) rfl (hb hby d9_139) rfl (tlt (by decide : (1 : Int32) < (3 : Int32))).1 (by decide) (by decide) (XS.iload X105.here hx rfl (hb hby d9_152) rfl (XS.iconst X105.here hx rfl (hb hby d9_154) kq)))))))))) ?_
        refine own_go (S' := (T105.setTop (mkF m 173 #[.val (.ref a), .val (.ref b), .val (.int (3 : Int32)), .val (.int (Int32.ofNat kk)), .val (.ref b101), .val (.int (1 : Int32))] [(.int (1 : Int32))]))) (fun tq kq => XS.icmpYes X105.here hx rfl (pc0 := 155) (pc' := 168) rfl (hb hby d9_155) rfl (tlt (by decide : (1 : Int32) < (4 : Int32))).1 (by decide) (by decide) (XS.iconst X105.here hx rfl (hb hby d9_168) (XS.goto X105.here hx rfl (pc0 := 169) (pc' := 173) rfl (hb hby d9_169) (by decide) (by decide) kq))) ?_
        refine own_retN X105 hx hlk hret (by simp) (hb hby d9_173) (by decide) (by decide) ?_
        rw [e105]
        exact ⟨rfl, N105, K105⟩
  · refine own_go (S' := (T101.setTop (mkF m 35 #[.val (.ref a), .val (.ref b), .val (.int (3 : Int32)), .val (.int (Int32.ofNat kk)), .val (.ref b101), .val (.int (0 : Int32))] [(.int (1 : Int32)), (.ref b)]))) (fun tq kq => XS.icmpYes X101.here hx rfl (pc0 := 16) (pc' := 28) rfl (hb hby d9_16) rfl (feq hc104).2 (by decide) (by decide) (XS.iloadN X101.here hx rfl (hb hby d9_28) rfl (XS.iconst X101.here hx rfl (hb hby d9_29) (XS.icmpNo X101.here hx rfl (hb hby d9_30) rfl (tlt (by decide : (1 : Int32) < (3 : Int32))).2.2.2 (XS.aloadN X101.here hx rfl (hb hby d9_33) rfl rfl (XS.iconst X101.here hx rfl (hb hby d9_34) kq)))))) ?_
    obtain ⟨cl157, Ar157, -, -, hin157, hat157⟩ := f102.at (j := (1 : Int32)) (v := (.int (Int32.ofNat q1))) (by decide) rfl
    refine own_go (S' := (T101.setTop (mkF m 37 #[.val (.ref a), .val (.ref b), .val (.int (3 : Int32)), .val (.int (Int32.ofNat kk)), .val (.ref b101), .val (.int (0 : Int32))] [(.int (Int32.ofNat kk)), (.int (Int32.ofNat q1))]))) (fun tq kq => X101.iaload hx (j := (1 : Int32)) (v := (.int (Int32.ofNat q1))) (by rw [e101]; exact Ar157.1) (State.isArrayOf_alike hZ.alike Ar157.2.1) Ar157.2.2 hin157 hat157 (g := (mkF m 35 #[.val (.ref a), .val (.ref b), .val (.int (3 : Int32)), .val (.int (Int32.ofNat kk)), .val (.ref b101), .val (.int (0 : Int32))] [(.int (1 : Int32)), (.ref b)])) rfl rfl (hb hby d9_35) tq (XS.iloadN X101.here hx rfl (hb hby d9_36) rfl kq)) ?_
    by_cases hc158 : (Int32.ofNat q1) = (Int32.ofNat kk)
    · refine own_go (S' := (T101.setTop (mkF m 45 #[.val (.ref a), .val (.ref b), .val (.int (3 : Int32)), .val (.int (Int32.ofNat kk)), .val (.ref b101), .val (.int (0 : Int32))] [(.int (1 : Int32)), (.int (0 : Int32)), (.ref b101)]))) (fun tq kq => XS.icmpNo X101.here hx rfl (hb hby d9_37) rfl (teq hc158).2 (XS.aload X101.here hx rfl (hb hby d9_40) rfl rfl (XS.iload X101.here hx rfl (hb hby d9_42) rfl (XS.iconst X101.here hx rfl (hb hby d9_44) kq)))) ?_
      obtain ⟨cl159, Ar159, qa159, sa159, hin159, -⟩ := V101.at (j := (0 : Int32)) (by decide) rfl
      obtain ⟨T159, h159, X159, e159, W159, st159⟩ := stI X101 hx hZ e101 Ar159 (j := (0 : Int32)) hin159 (g := (mkF m 45 #[.val (.ref a), .val (.ref b), .val (.int (3 : Int32)), .val (.int (Int32.ofNat kk)), .val (.ref b101), .val (.int (0 : Int32))] [(.int (1 : Int32)), (.int (0 : Int32)), (.ref b101)])) rfl rfl (hb hby d9_45)
      have N159 := Fr.snoc X159 N0 ge_b101
      have O159 := O101.wr W159 ge_b101
      have K159 := K101.wr W159 (Or.inr gk_b101)
      have V159 : own_Ar Z h159 b101 k101 .int [(.int (1 : Int32)), (.int (0 : Int32)), (.int (0 : Int32)), (.int (0 : Int32))] := own_Ar.set Ar159 qa159 sa159 V101.small W159
      refine own_go (S' := (T159.setTop (mkF m 56 #[.val (.ref a), .val (.ref b), .val (.int (3 : Int32)), .val (.int (Int32.ofNat kk)), .val (.ref b101), .val (.int (1 : Int32))] [(.int (2 : Int32)), (.ref b)]))) (fun tq kq => st159 tq (XS.iinc X159.here hx rfl (hb hby d9_46) rfl (l' := #[.val (.ref a), .val (.ref b), .val (.int (3 : Int32)), .val (.int (Int32.ofNat kk)), .val (.ref b101), .val (.int (1 : Int32))]) rfl (XS.iloadN X159.here hx rfl (hb hby d9_49) rfl (XS.iconst X159.here hx rfl (hb hby d9_50) (XS.icmpNo X159.here hx rfl (hb hby d9_51) rfl (tlt (by decide : (2 : Int32) < (3 : Int32))).2.2.2 (XS.aloadN X159.here hx rfl (hb hby d9_54) rfl rfl (XS.iconst X159.here hx rfl (hb hby d9_55) kq))))))) ?_
      have f160 := (f102.other W159 ne_b_b101)
      obtain ⟨cl161, Ar161, -, -, hin161, hat161⟩ := f160.at (j := (2 : Int32)) (v := (.int (Int32.ofNat q2))) (by decide) rfl
      refine own_go (S' := (T159.setTop (mkF m 58 #[.val (.ref a), .val (.ref b), .val (.int (3 : Int32)), .val (.int (Int32.ofNat kk)), .val (.ref b101), .val (.int (1 : Int32))] [(.int (Int32.ofNat kk)), (.int (Int32.ofNat q2))]))) (fun tq kq => X159.iaload hx (j := (2 : Int32)) (v := (.int (Int32.ofNat q2))) (by rw [e159]; exact Ar161.1) (State.isArrayOf_alike hZ.alike Ar161.2.1) Ar161.2.2 hin161 hat161 (g := (mkF m 56 #[.val (.ref a), .val (.ref b), .val (.int (3 : Int32)), .val (.int (Int32.ofNat kk)), .val (.ref b101), .val (.int (1 : Int32))] [(.int (2 : Int32)), (.ref b)])) rfl rfl (hb hby d9_56) tq (XS.iloadN X159.here hx rfl (hb hby d9_57) rfl kq)) ?_
      by_cases hc162 : (Int32.ofNat q2) = (Int32.ofNat kk)
      · refine own_go (S' := (T159.setTop (mkF m 66 #[.val (.ref a), .val (.ref b), .val (.int (3 : Int32)), .val (.int (Int32.ofNat kk)), .val (.ref b101), .val (.int (1 : Int32))] [(.int (2 : Int32)), (.int (1 : Int32)), (.ref b101)]))) (fun tq kq => XS.icmpNo X159.here hx rfl (hb hby d9_58) rfl (teq hc162).2 (XS.aload X159.here hx rfl (hb hby d9_61) rfl rfl (XS.iload X159.here hx rfl (hb hby d9_63) rfl (XS.iconst X159.here hx rfl (hb hby d9_65) kq)))) ?_
        obtain ⟨cl163, Ar163, qa163, sa163, hin163, -⟩ := V159.at (j := (1 : Int32)) (by decide) rfl
        obtain ⟨T163, h163, X163, e163, W163, st163⟩ := stI X159 hx hZ e159 Ar163 (j := (1 : Int32)) hin163 (g := (mkF m 66 #[.val (.ref a), .val (.ref b), .val (.int (3 : Int32)), .val (.int (Int32.ofNat kk)), .val (.ref b101), .val (.int (1 : Int32))] [(.int (2 : Int32)), (.int (1 : Int32)), (.ref b101)])) rfl rfl (hb hby d9_66)
        have N163 := Fr.snoc X163 N159 ge_b101
        have O163 := O159.wr W163 ge_b101
        have K163 := K159.wr W163 (Or.inr gk_b101)
        have V163 : own_Ar Z h163 b101 k101 .int [(.int (1 : Int32)), (.int (2 : Int32)), (.int (0 : Int32)), (.int (0 : Int32))] := own_Ar.set Ar163 qa163 sa163 V159.small W163
        refine own_go (S' := (T163.setTop (mkF m 91 #[.val (.ref a), .val (.ref b), .val (.int (3 : Int32)), .val (.int (Int32.ofNat kk)), .val (.ref b101), .val (.int (2 : Int32))] []))) (fun tq kq => st163 tq (XS.iinc X163.here hx rfl (hb hby d9_67) rfl (l' := #[.val (.ref a), .val (.ref b), .val (.int (3 : Int32)), .val (.int (Int32.ofNat kk)), .val (.ref b101), .val (.int (2 : Int32))]) rfl (XS.iloadN X163.here hx rfl (hb hby d9_70) rfl (XS.iconst X163.here hx rfl (hb hby d9_71) (XS.icmpYes X163.here hx rfl (pc0 := 72) (pc' := 91) rfl (hb hby d9_72) rfl (flt (by decide : ¬ ((3 : Int32) < (3 : Int32)))).2.2.2 (by decide) (by decide) kq))))) ?_
        have hq165 : ¬ (q0 = kk) := fun z => hc104 (congrArg Int32.ofNat z)
        have hq166 : q1 = kk := (own_eqN (by omega) (by omega)).mp hc158
        have hq167 : q2 = kk := (own_eqN (by omega) (by omega)).mp hc162
        have ex164 : own_ex [q0, q1, q2] kk = [1, 2] := by
          simp only [own_ex, List.length_cons, List.length_nil]
          simp [List.range_succ, List.filter_append, List.getD, hq165, hq166, hq167]
        rw [ex164] at Va
        refine own_go (S' := (T163.setTop (mkF m 96 #[.val (.ref a), .val (.ref b), .val (.int (3 : Int32)), .val (.int (Int32.ofNat kk)), .val (.ref b101), .val (.int (2 : Int32))] [(.ref a)]))) (fun tq kq => XS.aloadN X163.here hx rfl (hb hby d9_91) rfl rfl (XS.ifnullNo X163.here hx rfl (hb hby d9_92) rfl (XS.aloadN X163.here hx rfl (hb hby d9_95) rfl rfl kq))) ?_
        have f168 := (((Va.ext E101).other W159 ne_a_b101).other W163 ne_a_b101)
        obtain ⟨cl169, Ar169, ln169⟩ := f168.len
        have lq169 : cl169.slots.size.toInt32 = (2 : Int32) := ln169.trans rfl
        refine own_go (S' := (T163.setTop (mkF m 112 #[.val (.ref a), .val (.ref b), .val (.int (3 : Int32)), .val (.int (Int32.ofNat kk)), .val (.ref b101), .val (.int (2 : Int32))] [(.int (0 : Int32)), (.ref a)]))) (fun tq kq => X163.arraylength hx (by rw [e163]; exact Ar169.1) (State.isArrayOf_alike hZ.alike Ar169.2.1) (g := (mkF m 96 #[.val (.ref a), .val (.ref b), .val (.int (3 : Int32)), .val (.int (Int32.ofNat kk)), .val (.ref b101), .val (.int (2 : Int32))] [(.ref a)])) rfl rfl (hb hby d9_96) tq (by rw [lq169]; exact (XS.iload X163.here hx rfl (hb hby d9_97) rfl (XS.icmpYes X163.here hx rfl (pc0 := 99) (pc' := 104) rfl (hb hby d9_99) rfl (teq (by decide : (2 : Int32) = (2 : Int32))).1 (by decide) (by decide) (XS.iload X163.here hx rfl (hb hby d9_104) rfl (XS.iconst X163.here hx rfl (hb hby d9_106) (XS.icmpNo X163.here hx rfl (hb hby d9_107) rfl (flt (by decide : ¬ ((2 : Int32) < (1 : Int32)))).1 (XS.aloadN X163.here hx rfl (hb hby d9_110) rfl rfl (XS.iconst X163.here hx rfl (hb hby d9_111) kq))))))))) ?_
        obtain ⟨cl170, Ar170, -, -, hin170, hat170⟩ := f168.at (j := (0 : Int32)) (v := (.int (1 : Int32))) (by decide) rfl
        refine own_go (S' := (T163.setTop (mkF m 116 #[.val (.ref a), .val (.ref b), .val (.int (3 : Int32)), .val (.int (Int32.ofNat kk)), .val (.ref b101), .val (.int (2 : Int32))] [(.int (0 : Int32)), (.ref b101), (.int (1 : Int32))]))) (fun tq kq => X163.iaload hx (j := (0 : Int32)) (v := (.int (1 : Int32))) (by rw [e163]; exact Ar170.1) (State.isArrayOf_alike hZ.alike Ar170.2.1) Ar170.2.2 hin170 hat170 (g := (mkF m 112 #[.val (.ref a), .val (.ref b), .val (.int (3 : Int32)), .val (.int (Int32.ofNat kk)), .val (.ref b101), .val (.int (2 : Int32))] [(.int (0 : Int32)), (.ref a)])) rfl rfl (hb hby d9_112) tq (XS.aload X163.here hx rfl (hb hby d9_113) rfl rfl (XS.iconst X163.here hx rfl (hb hby d9_115) kq))) ?_
        obtain ⟨cl171, Ar171, -, -, hin171, hat171⟩ := V163.at (j := (0 : Int32)) (v := (.int (1 : Int32))) (by decide) rfl
        refine own_go (S' := (T163.setTop (mkF m 128 #[.val (.ref a), .val (.ref b), .val (.int (3 : Int32)), .val (.int (Int32.ofNat kk)), .val (.ref b101), .val (.int (2 : Int32))] [(.int (1 : Int32)), (.ref a)]))) (fun tq kq => X163.iaload hx (j := (0 : Int32)) (v := (.int (1 : Int32))) (by rw [e163]; exact Ar171.1) (State.isArrayOf_alike hZ.alike Ar171.2.1) Ar171.2.2 hin171 hat171 (g := (mkF m 116 #[.val (.ref a), .val (.ref b), .val (.int (3 : Int32)), .val (.int (Int32.ofNat kk)), .val (.ref b101), .val (.int (2 : Int32))] [(.int (0 : Int32)), (.ref b101), (.int (1 : Int32))])) rfl rfl (hb hby d9_116) tq (XS.icmpNo X163.here hx rfl (hb hby d9_117) rfl (teq (by decide : (1 : Int32) = (1 : Int32))).2 (XS.iload X163.here hx rfl (hb hby d9_120) rfl (XS.iconst X163.here hx rfl (hb hby d9_122) (XS.icmpNo X163.here hx rfl (hb hby d9_123) rfl (flt (by decide : ¬ ((2 : Int32) < (2 : Int32)))).1 (XS.aloadN X163.here hx rfl (hb hby d9_126) rfl rfl (XS.iconst X163.here hx rfl (hb hby d9_127) kq))))))) ?_
        obtain ⟨cl172, Ar172, -, -, hin172, hat172⟩ := f168.at (j := (1 : Int32)) (v := (.int (2 : Int32))) (by decide) rfl
        refine own_go (S' := (T163.setTop (mkF m 132 #[.val (.ref a), .val (.ref b), .val (.int (3 : Int32)), .val (.int (Int32.ofNat kk)), .val (.ref b101), .val (.int (2 : Int32))] [(.int (1 : Int32)), (.ref b101), (.int (2 : Int32))]))) (fun tq kq => X163.iaload hx (j := (1 : Int32)) (v := (.int (2 : Int32))) (by rw [e163]; exact Ar172.1) (State.isArrayOf_alike hZ.alike Ar172.2.1) Ar172.2.2 hin172 hat172 (g := (mkF m 128 #[.val (.ref a), .val (.ref b), .val (.int (3 : Int32)), .val (.int (Int32.ofNat kk)), .val (.ref b101), .val (.int (2 : Int32))] [(.int (1 : Int32)), (.ref a)])) rfl rfl (hb hby d9_128) tq (XS.aload X163.here hx rfl (hb hby d9_129) rfl rfl (XS.iconst X163.here hx rfl (hb hby d9_131) kq))) ?_
        obtain ⟨cl173, Ar173, -, -, hin173, hat173⟩ := V163.at (j := (1 : Int32)) (v := (.int (2 : Int32))) (by decide) rfl
        refine own_go (S' := (T163.setTop (mkF m 173 #[.val (.ref a), .val (.ref b), .val (.int (3 : Int32)), .val (.int (Int32.ofNat kk)), .val (.ref b101), .val (.int (2 : Int32))] [(.int (1 : Int32))]))) (fun tq kq => X163.iaload hx (j := (1 : Int32)) (v := (.int (2 : Int32))) (by rw [e163]; exact Ar173.1) (State.isArrayOf_alike hZ.alike Ar173.2.1) Ar173.2.2 hin173 hat173 (g := (mkF m 132 #[.val (.ref a), .val (.ref b), .val (.int (3 : Int32)), .val (.int (Int32.ofNat kk)), .val (.ref b101), .val (.int (2 : Int32))] [(.int (1 : Int32)), (.ref b101), (.int (2 : Int32))])) rfl rfl (hb hby d9_132) tq (XS.icmpNo X163.here hx rfl (hb hby d9_133) rfl (teq (by decide : (2 : Int32) = (2 : Int32))).2 (XS.iload X163.here hx rfl (hb hby d9_136) rfl (XS.iconst X163.here hx rfl (hb hby d9_138) (XS.icmpYes X163.here hx rfl (pc0 := 139) (pc' := 152) rfl (hb hby d9_139) rfl (tlt (by decide : (2 : Int32) < (3 : Int32))).1 (by decide) (by decide) (XS.iload X163.here hx rfl (hb hby d9_152) rfl (XS.iconst X163.here hx rfl (hb hby d9_154) (XS.icmpYes X163.here hx rfl (pc0 := 155) (pc' := 168) rfl (hb hby d9_155) rfl (tlt (by decide : (2 : Int32) < (4 : Int32))).1 (by decide) (by decide) (XS.iconst X163.here hx rfl (hb hby d9_168) (XS.goto X163.here hx rfl (pc0 := 169) (pc' := 173) rfl (hb hby d9_169) (by decide) (by decide) kq)))))))))) ?_
        refine own_retN X163 hx hlk hret (by simp) (hb hby d9_173) (by decide) (by decide) ?_
        rw [e163]
        exact ⟨rfl, N163, K163⟩
      · refine own_go (S' := (T159.setTop (mkF m 91 #[.val (.ref a), .val (.ref b), .val (.int (3 : Int32)), .val (.int (Int32.ofNat kk)), .val (.ref b101), .val (.int (1 : Int32))] []))) (fun tq kq => XS.icmpYes X159.here hx rfl (pc0 := 58) (pc' := 70) rfl (hb hby d9_58) rfl (feq hc162).2 (by decide) (by decide) (XS.iloadN X159.here hx rfl (hb hby d9_70) rfl (XS.iconst X159.here hx rfl (hb hby d9_71) (XS.icmpYes X159.here hx rfl (pc0 := 72) (pc' := 91) rfl (hb hby d9_72) rfl (flt (by decide : ¬ ((3 : Int32) < (3 : Int32)))).2.2.2 (by decide) (by decide) kq)))) ?_
        have hq175 : ¬ (q0 = kk) := fun z => hc104 (congrArg Int32.ofNat z)
        have hq176 : q1 = kk := (own_eqN (by omega) (by omega)).mp hc158
        have hq177 : ¬ (q2 = kk) := fun z => hc162 (congrArg Int32.ofNat z)
        have ex174 : own_ex [q0, q1, q2] kk = [1] := by
          simp only [own_ex, List.length_cons, List.length_nil]
          simp [List.range_succ, List.filter_append, List.getD, hq175, hq176, hq177]
        rw [ex174] at Va
        refine own_go (S' := (T159.setTop (mkF m 96 #[.val (.ref a), .val (.ref b), .val (.int (3 : Int32)), .val (.int (Int32.ofNat kk)), .val (.ref b101), .val (.int (1 : Int32))] [(.ref a)]))) (fun tq kq => XS.aloadN X159.here hx rfl (hb hby d9_91) rfl rfl (XS.ifnullNo X159.here hx rfl (hb hby d9_92) rfl (XS.aloadN X159.here hx rfl (hb hby d9_95) rfl rfl kq))) ?_
        have f178 := ((Va.ext E101).other W159 ne_a_b101)
        obtain ⟨cl179, Ar179, ln179⟩ := f178.len
        have lq179 : cl179.slots.size.toInt32 = (1 : Int32) := ln179.trans rfl
        refine own_go (S' := (T159.setTop (mkF m 112 #[.val (.ref a), .val (.ref b), .val (.int (3 : Int32)), .val (.int (Int32.ofNat kk)), .val (.ref b101), .val (.int (1 : Int32))] [(.int (0 : Int32)), (.ref a)]))) (fun tq kq => X159.arraylength hx (by rw [e159]; exact Ar179.1) (State.isArrayOf_alike hZ.alike Ar179.2.1) (g := (mkF m 96 #[.val (.ref a), .val (.ref b), .val (.int (3 : Int32)), .val (.int (Int32.ofNat kk)), .val (.ref b101), .val (.int (1 : Int32))] [(.ref a)])) rfl rfl (hb hby d9_96) tq (by rw [lq179]; exact (XS.iload X159.here hx rfl (hb hby d9_97) rfl (XS.icmpYes X159.here hx rfl (pc0 := 99) (pc' := 104) rfl (hb hby d9_99) rfl (teq (by decide : (1 : Int32) = (1 : Int32))).1 (by decide) (by decide) (XS.iload X159.here hx rfl (hb hby d9_104) rfl (XS.iconst X159.here hx rfl (hb hby d9_106) (XS.icmpNo X159.here hx rfl (hb hby d9_107) rfl (flt (by decide : ¬ ((1 : Int32) < (1 : Int32)))).1 (XS.aloadN X159.here hx rfl (hb hby d9_110) rfl rfl (XS.iconst X159.here hx rfl (hb hby d9_111) kq))))))))) ?_
        obtain ⟨cl180, Ar180, -, -, hin180, hat180⟩ := f178.at (j := (0 : Int32)) (v := (.int (1 : Int32))) (by decide) rfl
        refine own_go (S' := (T159.setTop (mkF m 116 #[.val (.ref a), .val (.ref b), .val (.int (3 : Int32)), .val (.int (Int32.ofNat kk)), .val (.ref b101), .val (.int (1 : Int32))] [(.int (0 : Int32)), (.ref b101), (.int (1 : Int32))]))) (fun tq kq => X159.iaload hx (j := (0 : Int32)) (v := (.int (1 : Int32))) (by rw [e159]; exact Ar180.1) (State.isArrayOf_alike hZ.alike Ar180.2.1) Ar180.2.2 hin180 hat180 (g := (mkF m 112 #[.val (.ref a), .val (.ref b), .val (.int (3 : Int32)), .val (.int (Int32.ofNat kk)), .val (.ref b101), .val (.int (1 : Int32))] [(.int (0 : Int32)), (.ref a)])) rfl rfl (hb hby d9_112) tq (XS.aload X159.here hx rfl (hb hby d9_113) rfl rfl (XS.iconst X159.here hx rfl (hb hby d9_115) kq))) ?_
        obtain ⟨cl181, Ar181, -, -, hin181, hat181⟩ := V159.at (j := (0 : Int32)) (v := (.int (1 : Int32))) (by decide) rfl
        refine own_go (S' := (T159.setTop (mkF m 155 #[.val (.ref a), .val (.ref b), .val (.int (3 : Int32)), .val (.int (Int32.ofNat kk)), .val (.ref b101), .val (.int (1 : Int32))] [(.int (4 : Int32)), (.int (1 : Int32))]))) (fun tq kq => X159.iaload hx (j := (0 : Int32)) (v := (.int (1 : Int32))) (by rw [e159]; exact Ar181.1) (State.isArrayOf_alike hZ.alike Ar181.2.1) Ar181.2.2 hin181 hat181 (g := (mkF m 116 #[.val (.ref a), .val (.ref b), .val (.int (3 : Int32)), .val (.int (Int32.ofNat kk)), .val (.ref b101), .val (.int (1 : Int32))] [(.int (0 : Int32)), (.ref b101), (.int (1 : Int32))])) rfl rfl (hb hby d9_116) tq (XS.icmpNo X159.here hx rfl (hb hby d9_117) rfl (teq (by decide : (1 : Int32) = (1 : Int32))).2 (XS.iload X159.here hx rfl (hb hby d9_120) rfl (XS.iconst X159.here hx rfl (hb hby d9_122) (XS.icmpYes X159.here hx rfl (pc0 := 123) (pc' := 136) rfl (hb hby d9_123) rfl (tlt (by decide : (1 : Int32) < (2 : Int32))).1 (by decide) (by decide) (XS.iload X159.here hx rfl (hb hby d9_136) rfl (XS.iconst X159.here hx rfl (hb hby d9_138) (XS.icmpYes X159.here hx rfl (pc0 := 139) (pc' := 152) rfl (hb hby d9_139) rfl (tlt (by decide : (1 : Int32) < (3 : Int32))).1 (by decide) (by decide) (XS.iload X159.here hx rfl (hb hby d9_152) rfl (XS.iconst X159.here hx rfl (hb hby d9_154) kq)))))))))) ?_
        refine own_go (S' := (T159.setTop (mkF m 173 #[.val (.ref a), .val (.ref b), .val (.int (3 : Int32)), .val (.int (Int32.ofNat kk)), .val (.ref b101), .val (.int (1 : Int32))] [(.int (1 : Int32))]))) (fun tq kq => XS.icmpYes X159.here hx rfl (pc0 := 155) (pc' := 168) rfl (hb hby d9_155) rfl (tlt (by decide : (1 : Int32) < (4 : Int32))).1 (by decide) (by decide) (XS.iconst X159.here hx rfl (hb hby d9_168) (XS.goto X159.here hx rfl (pc0 := 169) (pc' := 173) rfl (hb hby d9_169) (by decide) (by decide) kq))) ?_
        refine own_retN X159 hx hlk hret (by simp) (hb hby d9_173) (by decide) (by decide) ?_
        rw [e159]
        exact ⟨rfl, N159, K159⟩
    · refine own_go (S' := (T101.setTop (mkF m 56 #[.val (.ref a), .val (.ref b), .val (.int (3 : Int32)), .val (.int (Int32.ofNat kk)), .val (.ref b101), .val (.int (0 : Int32))] [(.int (2 : Int32)), (.ref b)]))) (fun tq kq => XS.icmpYes X101.here hx rfl (pc0 := 37) (pc' := 49) rfl (hb hby d9_37) rfl (feq hc158).2 (by decide) (by decide) (XS.iloadN X101.here hx rfl (hb hby d9_49) rfl (XS.iconst X101.here hx rfl (hb hby d9_50) (XS.icmpNo X101.here hx rfl (hb hby d9_51) rfl (tlt (by decide : (2 : Int32) < (3 : Int32))).2.2.2 (XS.aloadN X101.here hx rfl (hb hby d9_54) rfl rfl (XS.iconst X101.here hx rfl (hb hby d9_55) kq)))))) ?_
      obtain ⟨cl182, Ar182, -, -, hin182, hat182⟩ := f102.at (j := (2 : Int32)) (v := (.int (Int32.ofNat q2))) (by decide) rfl
      refine own_go (S' := (T101.setTop (mkF m 58 #[.val (.ref a), .val (.ref b), .val (.int (3 : Int32)), .val (.int (Int32.ofNat kk)), .val (.ref b101), .val (.int (0 : Int32))] [(.int (Int32.ofNat kk)), (.int (Int32.ofNat q2))]))) (fun tq kq => X101.iaload hx (j := (2 : Int32)) (v := (.int (Int32.ofNat q2))) (by rw [e101]; exact Ar182.1) (State.isArrayOf_alike hZ.alike Ar182.2.1) Ar182.2.2 hin182 hat182 (g := (mkF m 56 #[.val (.ref a), .val (.ref b), .val (.int (3 : Int32)), .val (.int (Int32.ofNat kk)), .val (.ref b101), .val (.int (0 : Int32))] [(.int (2 : Int32)), (.ref b)])) rfl rfl (hb hby d9_56) tq (XS.iloadN X101.here hx rfl (hb hby d9_57) rfl kq)) ?_
      by_cases hc183 : (Int32.ofNat q2) = (Int32.ofNat kk)
      · refine own_go (S' := (T101.setTop (mkF m 66 #[.val (.ref a), .val (.ref b), .val (.int (3 : Int32)), .val (.int (Int32.ofNat kk)), .val (.ref b101), .val (.int (0 : Int32))] [(.int (2 : Int32)), (.int (0 : Int32)), (.ref b101)]))) (fun tq kq => XS.icmpNo X101.here hx rfl (hb hby d9_58) rfl (teq hc183).2 (XS.aload X101.here hx rfl (hb hby d9_61) rfl rfl (XS.iload X101.here hx rfl (hb hby d9_63) rfl (XS.iconst X101.here hx rfl (hb hby d9_65) kq)))) ?_
        obtain ⟨cl184, Ar184, qa184, sa184, hin184, -⟩ := V101.at (j := (0 : Int32)) (by decide) rfl
        obtain ⟨T184, h184, X184, e184, W184, st184⟩ := stI X101 hx hZ e101 Ar184 (j := (0 : Int32)) hin184 (g := (mkF m 66 #[.val (.ref a), .val (.ref b), .val (.int (3 : Int32)), .val (.int (Int32.ofNat kk)), .val (.ref b101), .val (.int (0 : Int32))] [(.int (2 : Int32)), (.int (0 : Int32)), (.ref b101)])) rfl rfl (hb hby d9_66)
        have N184 := Fr.snoc X184 N0 ge_b101
        have O184 := O101.wr W184 ge_b101
        have K184 := K101.wr W184 (Or.inr gk_b101)
        have V184 : own_Ar Z h184 b101 k101 .int [(.int (2 : Int32)), (.int (0 : Int32)), (.int (0 : Int32)), (.int (0 : Int32))] := own_Ar.set Ar184 qa184 sa184 V101.small W184
        refine own_go (S' := (T184.setTop (mkF m 91 #[.val (.ref a), .val (.ref b), .val (.int (3 : Int32)), .val (.int (Int32.ofNat kk)), .val (.ref b101), .val (.int (1 : Int32))] []))) (fun tq kq => st184 tq (XS.iinc X184.here hx rfl (hb hby d9_67) rfl (l' := #[.val (.ref a), .val (.ref b), .val (.int (3 : Int32)), .val (.int (Int32.ofNat kk)), .val (.ref b101), .val (.int (1 : Int32))]) rfl (XS.iloadN X184.here hx rfl (hb hby d9_70) rfl (XS.iconst X184.here hx rfl (hb hby d9_71) (XS.icmpYes X184.here hx rfl (pc0 := 72) (pc' := 91) rfl (hb hby d9_72) rfl (flt (by decide : ¬ ((3 : Int32) < (3 : Int32)))).2.2.2 (by decide) (by decide) kq))))) ?_
        have hq186 : ¬ (q0 = kk) := fun z => hc104 (congrArg Int32.ofNat z)
        have hq187 : ¬ (q1 = kk) := fun z => hc158 (congrArg Int32.ofNat z)
        have hq188 : q2 = kk := (own_eqN (by omega) (by omega)).mp hc183
        have ex185 : own_ex [q0, q1, q2] kk = [2] := by
          simp only [own_ex, List.length_cons, List.length_nil]
          simp [List.range_succ, List.filter_append, List.getD, hq186, hq187, hq188]
        rw [ex185] at Va
        refine own_go (S' := (T184.setTop (mkF m 96 #[.val (.ref a), .val (.ref b), .val (.int (3 : Int32)), .val (.int (Int32.ofNat kk)), .val (.ref b101), .val (.int (1 : Int32))] [(.ref a)]))) (fun tq kq => XS.aloadN X184.here hx rfl (hb hby d9_91) rfl rfl (XS.ifnullNo X184.here hx rfl (hb hby d9_92) rfl (XS.aloadN X184.here hx rfl (hb hby d9_95) rfl rfl kq))) ?_
        have f189 := ((Va.ext E101).other W184 ne_a_b101)
        obtain ⟨cl190, Ar190, ln190⟩ := f189.len
        have lq190 : cl190.slots.size.toInt32 = (1 : Int32) := ln190.trans rfl
        refine own_go (S' := (T184.setTop (mkF m 112 #[.val (.ref a), .val (.ref b), .val (.int (3 : Int32)), .val (.int (Int32.ofNat kk)), .val (.ref b101), .val (.int (1 : Int32))] [(.int (0 : Int32)), (.ref a)]))) (fun tq kq => X184.arraylength hx (by rw [e184]; exact Ar190.1) (State.isArrayOf_alike hZ.alike Ar190.2.1) (g := (mkF m 96 #[.val (.ref a), .val (.ref b), .val (.int (3 : Int32)), .val (.int (Int32.ofNat kk)), .val (.ref b101), .val (.int (1 : Int32))] [(.ref a)])) rfl rfl (hb hby d9_96) tq (by rw [lq190]; exact (XS.iload X184.here hx rfl (hb hby d9_97) rfl (XS.icmpYes X184.here hx rfl (pc0 := 99) (pc' := 104) rfl (hb hby d9_99) rfl (teq (by decide : (1 : Int32) = (1 : Int32))).1 (by decide) (by decide) (XS.iload X184.here hx rfl (hb hby d9_104) rfl (XS.iconst X184.here hx rfl (hb hby d9_106) (XS.icmpNo X184.here hx rfl (hb hby d9_107) rfl (flt (by decide : ¬ ((1 : Int32) < (1 : Int32)))).1 (XS.aloadN X184.here hx rfl (hb hby d9_110) rfl rfl (XS.iconst X184.here hx rfl (hb hby d9_111) kq))))))))) ?_
        obtain ⟨cl191, Ar191, -, -, hin191, hat191⟩ := f189.at (j := (0 : Int32)) (v := (.int (2 : Int32))) (by decide) rfl
        refine own_go (S' := (T184.setTop (mkF m 116 #[.val (.ref a), .val (.ref b), .val (.int (3 : Int32)), .val (.int (Int32.ofNat kk)), .val (.ref b101), .val (.int (1 : Int32))] [(.int (0 : Int32)), (.ref b101), (.int (2 : Int32))]))) (fun tq kq => X184.iaload hx (j := (0 : Int32)) (v := (.int (2 : Int32))) (by rw [e184]; exact Ar191.1) (State.isArrayOf_alike hZ.alike Ar191.2.1) Ar191.2.2 hin191 hat191 (g := (mkF m 112 #[.val (.ref a), .val (.ref b), .val (.int (3 : Int32)), .val (.int (Int32.ofNat kk)), .val (.ref b101), .val (.int (1 : Int32))] [(.int (0 : Int32)), (.ref a)])) rfl rfl (hb hby d9_112) tq (XS.aload X184.here hx rfl (hb hby d9_113) rfl rfl (XS.iconst X184.here hx rfl (hb hby d9_115) kq))) ?_
        obtain ⟨cl192, Ar192, -, -, hin192, hat192⟩ := V184.at (j := (0 : Int32)) (v := (.int (2 : Int32))) (by decide) rfl
        refine own_go (S' := (T184.setTop (mkF m 155 #[.val (.ref a), .val (.ref b), .val (.int (3 : Int32)), .val (.int (Int32.ofNat kk)), .val (.ref b101), .val (.int (1 : Int32))] [(.int (4 : Int32)), (.int (1 : Int32))]))) (fun tq kq => X184.iaload hx (j := (0 : Int32)) (v := (.int (2 : Int32))) (by rw [e184]; exact Ar192.1) (State.isArrayOf_alike hZ.alike Ar192.2.1) Ar192.2.2 hin192 hat192 (g := (mkF m 116 #[.val (.ref a), .val (.ref b), .val (.int (3 : Int32)), .val (.int (Int32.ofNat kk)), .val (.ref b101), .val (.int (1 : Int32))] [(.int (0 : Int32)), (.ref b101), (.int (2 : Int32))])) rfl rfl (hb hby d9_116) tq (XS.icmpNo X184.here hx rfl (hb hby d9_117) rfl (teq (by decide : (2 : Int32) = (2 : Int32))).2 (XS.iload X184.here hx rfl (hb hby d9_120) rfl (XS.iconst X184.here hx rfl (hb hby d9_122) (XS.icmpYes X184.here hx rfl (pc0 := 123) (pc' := 136) rfl (hb hby d9_123) rfl (tlt (by decide : (1 : Int32) < (2 : Int32))).1 (by decide) (by decide) (XS.iload X184.here hx rfl (hb hby d9_136) rfl (XS.iconst X184.here hx rfl (hb hby d9_138) (XS.icmpYes X184.here hx rfl (pc0 := 139) (pc' := 152) rfl (hb hby d9_139) rfl (tlt (by decide : (1 : Int32) < (3 : Int32))).1 (by decide) (by decide) (XS.iload X184.here hx rfl (hb hby d9_152) rfl (XS.iconst X184.here hx rfl (hb hby d9_154) kq)))))))))) ?_
        refine own_go (S' := (T184.setTop (mkF m 173 #[.val (.ref a), .val (.ref b), .val (.int (3 : Int32)), .val (.int (Int32.ofNat kk)), .val (.ref b101), .val (.int (1 : Int32))] [(.int (1 : Int32))]))) (fun tq kq => XS.icmpYes X184.here hx rfl (pc0 := 155) (pc' := 168) rfl (hb hby d9_155) rfl (tlt (by decide : (1 : Int32) < (4 : Int32))).1 (by decide) (by decide) (XS.iconst X184.here hx rfl (hb hby d9_168) (XS.goto X184.here hx rfl (pc0 := 169) (pc' := 173) rfl (hb hby d9_169) (by decide) (by decide) kq))) ?_
        refine own_retN X184 hx hlk hret (by simp) (hb hby d9_173) (by decide) (by decide) ?_
        rw [e184]
        exact ⟨rfl, N184, K184⟩
      · refine own_go (S' := (T101.setTop (mkF m 91 #[.val (.ref a), .val (.ref b), .val (.int (3 : Int32)), .val (.int (Int32.ofNat kk)), .val (.ref b101), .val (.int (0 : Int32))] []))) (fun tq kq => XS.icmpYes X101.here hx rfl (pc0 := 58) (pc' := 70) rfl (hb hby d9_58) rfl (feq hc183).2 (by decide) (by decide) (XS.iloadN X101.here hx rfl (hb hby d9_70) rfl (XS.iconst X101.here hx rfl (hb hby d9_71) (XS.icmpYes X101.here hx rfl (pc0 := 72) (pc' := 91) rfl (hb hby d9_72) rfl (flt (by decide : ¬ ((3 : Int32) < (3 : Int32)))).2.2.2 (by decide) (by decide) kq)))) ?_
        have hq194 : ¬ (q0 = kk) := fun z => hc104 (congrArg Int32.ofNat z)
        have hq195 : ¬ (q1 = kk) := fun z => hc158 (congrArg Int32.ofNat z)
        have hq196 : ¬ (q2 = kk) := fun z => hc183 (congrArg Int32.ofNat z)
        have ex193 : own_ex [q0, q1, q2] kk = [] := by
          simp only [own_ex, List.length_cons, List.length_nil]
          simp [List.range_succ, List.filter_append, List.getD, hq194, hq195, hq196]
        rw [ex193] at Va
        refine own_go (S' := (T101.setTop (mkF m 96 #[.val (.ref a), .val (.ref b), .val (.int (3 : Int32)), .val (.int (Int32.ofNat kk)), .val (.ref b101), .val (.int (0 : Int32))] [(.ref a)]))) (fun tq kq => XS.aloadN X101.here hx rfl (hb hby d9_91) rfl rfl (XS.ifnullNo X101.here hx rfl (hb hby d9_92) rfl (XS.aloadN X101.here hx rfl (hb hby d9_95) rfl rfl kq))) ?_
        have f197 := (Va.ext E101)
        obtain ⟨cl198, Ar198, ln198⟩ := f197.len
        have lq198 : cl198.slots.size.toInt32 = (0 : Int32) := ln198.trans rfl
        refine own_go (S' := (T101.setTop (mkF m 138 #[.val (.ref a), .val (.ref b), .val (.int (3 : Int32)), .val (.int (Int32.ofNat kk)), .val (.ref b101), .val (.int (0 : Int32))] [(.int (0 : Int32))]))) (fun tq kq => X101.arraylength hx (by rw [e101]; exact Ar198.1) (State.isArrayOf_alike hZ.alike Ar198.2.1) (g := (mkF m 96 #[.val (.ref a), .val (.ref b), .val (.int (3 : Int32)), .val (.int (Int32.ofNat kk)), .val (.ref b101), .val (.int (0 : Int32))] [(.ref a)])) rfl rfl (hb hby d9_96) tq (by rw [lq198]; exact (XS.iload X101.here hx rfl (hb hby d9_97) rfl (XS.icmpYes X101.here hx rfl (pc0 := 99) (pc' := 104) rfl (hb hby d9_99) rfl (teq (by decide : (0 : Int32) = (0 : Int32))).1 (by decide) (by decide) (XS.iload X101.here hx rfl (hb hby d9_104) rfl (XS.iconst X101.here hx rfl (hb hby d9_106) (XS.icmpYes X101.here hx rfl (pc0 := 107) (pc' := 120) rfl (hb hby d9_107) rfl (tlt (by decide : (0 : Int32) < (1 : Int32))).1 (by decide) (by decide) (XS.iload X101.here hx rfl (hb hby d9_120) rfl (XS.iconst X101.here hx rfl (hb hby d9_122) (XS.icmpYes X101.here hx rfl (pc0 := 123) (pc' := 136) rfl (hb hby d9_123) rfl (tlt (by decide : (0 : Int32) < (2 : Int32))).1 (by decide) (by decide) (XS.iload X101.here hx rfl (hb hby d9_136) rfl kq))))))))))) ?_
        refine own_go (S' := (T101.setTop (mkF m 173 #[.val (.ref a), .val (.ref b), .val (.int (3 : Int32)), .val (.int (Int32.ofNat kk)), .val (.ref b101), .val (.int (0 : Int32))] [(.int (1 : Int32))]))) (fun tq kq => XS.iconst X101.here hx rfl (hb hby d9_138) (XS.icmpYes X101.here hx rfl (pc0 := 139) (pc' := 152) rfl (hb hby d9_139) rfl (tlt (by decide : (0 : Int32) < (3 : Int32))).1 (by decide) (by decide) (XS.iload X101.here hx rfl (hb hby d9_152) rfl (XS.iconst X101.here hx rfl (hb hby d9_154) (XS.icmpYes X101.here hx rfl (pc0 := 155) (pc' := 168) rfl (hb hby d9_155) rfl (tlt (by decide : (0 : Int32) < (4 : Int32))).1 (by decide) (by decide) (XS.iconst X101.here hx rfl (hb hby d9_168) (XS.goto X101.here hx rfl (pc0 := 169) (pc' := 173) rfl (hb hby d9_169) (by decide) (by decide) kq))))))) ?_
        refine own_retN X101 hx hlk hret (by simp) (hb hby d9_173) (by decide) (by decide) ?_
        rw [e101]
        exact ⟨rfl, N0, K101⟩
theorem pn_rm9_4 : plainName "com/example/vestwright/vestwright/cli/TableRowsByKeyPinLaw" = true := by first | (simp [plainName, overriddenIn]; done) | decide +kernel
theorem ef_rm9_4 (m : MethodId) (a : Addr) (b : Addr) (kk : Nat) (ka : ClassId) (kb : ClassId) (q0 : Nat) (q1 : Nat) (q2 : Nat) (q3 : Nat) : entryFrame m #[(.ref a), (.ref b), (.int (4 : Int32)), (.int (Int32.ofNat kk))] 6 = mkF m 0 #[.val (.ref a), .val (.ref b), .val (.int (4 : Int32)), .val (.int (Int32.ofNat kk)), .unset, .unset] [] := by first | (simp [entryFrame, mkF, argsToLocals, Value.category]; done) | rfl
def Q_rm9_4 (Z : State) (h0 : Heap) (n0 : Nat) (a : Addr) (b : Addr) (kk : Nat) (ka : ClassId) (kb : ClassId) (q0 : Nat) (q1 : Nat) (q2 : Nat) (q3 : Nat) (v : Option Value) (h : Heap) (L : List Loc) : Prop := v = some (.int 1) ∧ Fr n0 L ∧ Keep h0 h []
set_option maxRecDepth 65536 in
set_option maxHeartbeats 40000000 in
theorem rm9_4 (l : Launch) (Z : State) (a0 : Array Value) (hw : ∀ d ∈ tables_1, d.before a0 Z = true) (ws : List Jvm.Cond) (h0 : Heap) (n0 : Nat) (O0 : Old Z n0 h0) (a : Addr) (b : Addr) (kk : Nat) (ka : ClassId) (kb : ClassId) (q0 : Nat) (q1 : Nat) (q2 : Nat) (q3 : Nat) (Va : own_Ar Z h0 a ka .int (own_iv (own_ex [q0, q1, q2, q3] kk))) (Vb : own_Ar Z h0 b kb .int (own_iv [q0, q1, q2, q3])) (hq : q0 < 3 ∧ q1 < 3 ∧ q2 < 3 ∧ q3 < 3 ∧ kk < 3) :
    MetFree l (⟨"com/example/vestwright/vestwright/cli/TableRowsByKeyPinLaw", "same", "([I[III)Z"⟩ : MethodName) (head1 (Jvm.Cond.code (⟨"com/example/vestwright/vestwright/cli/TableRowsByKeyPinLaw", "same", "([I[III)Z"⟩ : MethodName) method_3_code 6 (some .boolean) :: ws) ({ frames := 0, cells := 1, slots := 4, locals := 0 } : Room)) (fun aq U => aq = #[(.ref a), (.ref b), (.int (4 : Int32)), (.int (Int32.ofNat kk))] ∧ Z.Warmed39 U.vm ∧ U.heap = h0) (fun _ _ _ _ _ => True) (fun _ U o U' => ∃ v L, o = .returned v ∧ Q_rm9_4 Z h0 n0 a b kk ka kb q0 q1 q2 q3 v U'.heap L ∧ FrameEnd U o U' L ({ frames := 0, cells := 1, slots := 4, locals := 0 } : Room).cells ({ frames := 0, cells := 1, slots := 4, locals := 0 } : Room).slots) := by
  refine MetFree.of_bodySF (plainFor_of_name pn_rm9_4) hisR ?_
  intro p e s m args below meth c s₁ Bd hml0 hP hK
  obtain ⟨rfl, hZ, hh⟩ := hP
  have hx := Bd.exec
  have hby := Bd.bytes
  have hml : c.maxLocals = 6 := hml0
  have hown : s.vm.findClass "com/example/vestwright/vestwright/cli/TableRowsByKeyPinLaw" = some m.cls := findClass_of_methodNamed Bd.named
  have hnm := (name_of_methodNamed Bd.named Bd.method).1
  have hlk := Bd.notSynchronized
  have hret := Bd.returns
  have X0 : Stand p l e ({ frames := 0, cells := 1, slots := 4, locals := 0 } : Room) s m #[(.ref a), (.ref b), (.int (4 : Int32)), (.int (Int32.ofNat kk))] below meth c s₁ [] 0 0 := Stand.of_body Bd
  have e0 : s₁.heap = h0 := by rw [← hh, Bd.state]; rfl
  have N0 := Fr.nil n0
  have K0 := Keep.refl h0 []
  refine own_go (S' := (s₁.setTop (mkF m 0 #[.val (.ref a), .val (.ref b), .val (.int (4 : Int32)), .val (.int (Int32.ofNat kk)), .unset, .unset] []))) (fun tq kq => castTop (ef_rm9_4 m a b kk ka kb q0 q1 q2 q3) kq) ?_
  show own_G p e s below (Q_rm9_4 Z h0 n0 a b kk ka kb q0 q1 q2 q3) _ _ _
  refine own_go (S' := (s₁.setTop (mkF m 1 #[.val (.ref a), .val (.ref b), .val (.int (4 : Int32)), .val (.int (Int32.ofNat kk)), .unset, .unset] [(.int (4 : Int32))]))) (fun tq kq => XS.iconst X0.here hx rfl (hb hby d9_0) kq) ?_
  obtain ⟨T101, h101, k101, X101, e101, E101, A101, st101⟩ := newP X0 hx hZ (hw _ (List.mem_of_getElem? (i := 0) rfl)) e0 (g := (mkF m 1 #[.val (.ref a), .val (.ref b), .val (.int (4 : Int32)), .val (.int (Int32.ofNat kk)), .unset, .unset] [(.int (4 : Int32))])) rfl (hb hby d9_1) rfl (by decide) (cap := 4) (by decide) (by decide) (by decide) (by decide)
  obtain ⟨b101, g101⟩ : ∃ z, z = h0.size := ⟨_, rfl⟩
  rw [← g101] at A101 st101
  have ne_a_b101 : a ≠ b101 := Nat.ne_of_lt (Nat.lt_of_lt_of_le Va.lt (Nat.le_of_eq g101.symm))
  have ne_b_b101 : b ≠ b101 := Nat.ne_of_lt (Nat.lt_of_lt_of_le Vb.lt (Nat.le_of_eq g101.symm))
  have ge_b101 : n0 ≤ b101 := Nat.le_trans (own_osz O0) (Nat.le_of_eq g101.symm)
  have gk_b101 : h0.size ≤ b101 := Nat.le_trans K0.1 (Nat.le_of_eq g101.symm)
  have V101 : own_Ar Z h101 b101 k101 .int [(.int (0 : Int32)), (.int (0 : Int32)), (.int (0 : Int32)), (.int (0 : Int32))] := own_Ar.new A101 (by decide)
  have O101 := O0.ext E101
  have K101 := K0.ext E101
  refine own_go (S' := (T101.setTop (mkF m 14 #[.val (.ref a), .val (.ref b), .val (.int (4 : Int32)), .val (.int (Int32.ofNat kk)), .val (.ref b101), .val (.int (0 : Int32))] [(.int (0 : Int32)), (.ref b)]))) (fun tq kq => st101 tq (XS.astore X101.here hx rfl (hb hby d9_3) rfl rfl (l' := #[.val (.ref a), .val (.ref b), .val (.int (4 : Int32)), .val (.int (Int32.ofNat kk)), .val (.ref b101), .unset]) rfl (XS.iconst X101.here hx rfl (hb hby d9_5) (XS.istore X101.here hx rfl (hb hby d9_6) rfl (l' := #[.val (.ref a), .val (.ref b), .val (.int (4 : Int32)), .val (.int (Int32.ofNat kk)), .val (.ref b101), .val (.int (0 : Int32))]) rfl (XS.iloadN X101.here hx rfl (hb hby d9_8) rfl (XS.ifNo X101.here hx rfl (hb hby d9_9) rfl ((if0 _ _).trans (tlt (by decide : (0 : Int32) < (4 : Int32))).2.2.2) (XS.aloadN X101.here hx rfl (hb hby d9_12) rfl rfl (XS.iconst X101.here hx rfl (hb hby d9_13) kq)))))))) ?_
  have f102 := (Vb.ext E101)
  obtain ⟨cl103, Ar103, -, -, hin103, hat103⟩ := f102.at (j := (0 : Int32)) (v := (.int (Int32.ofNat q0))) (by decide) rfl
  refine own_go (S' := (T101.setTop (mkF m 16 #[.val (.ref a), .val (.ref b), .val (.int (4 : Int32)), .val (.int (Int32.ofNat kk)), .val (.ref b101), .val (.int (0 : Int32))] [(.int (Int32.ofNat kk)), (.int (Int32.ofNat q0))]))) (fun tq kq => X101.iaload hx (j := (0 : Int32)) (v := (.int (Int32.ofNat q0))) (by rw [e101]; exact Ar103.1) (State.isArrayOf_alike hZ.alike Ar103.2.1) Ar103.2.2 hin103 hat103 (g := (mkF m 14 #[.val (.ref a), .val (.ref b), .val (.int (4 : Int32)), .val (.int (Int32.ofNat kk)), .val (.ref b101), .val (.int (0 : Int32))] [(.int (0 : Int32)), (.ref b)])) rfl rfl (hb hby d9_14) tq (XS.iloadN X101.here hx rfl (hb hby d9_15) rfl kq)) ?_
  by_cases hc104 : (Int32.ofNat q0) = (Int32.ofNat kk)
  · refine own_go (S' := (T101.setTop (mkF m 24 #[.val (.ref a), .val (.ref b), .val (.int (4 : Int32)), .val (.int (Int32.ofNat kk)), .val (.ref b101), .val (.int (0 : Int32))] [(.int (0 : Int32)), (.int (0 : Int32)), (.ref b101)]))) (fun tq kq => XS.icmpNo X101.here hx rfl (hb hby d9_16) rfl (teq hc104).2 (XS.aload X101.here hx rfl (hb hby d9_19) rfl rfl (XS.iload X101.here hx rfl (hb hby d9_21) rfl (XS.iconst X101.here hx rfl (hb hby d9_23) kq)))) ?_
    obtain ⟨cl105, Ar105, qa105, sa105, hin105, -⟩ := V101.at (j := (0 : Int32)) (by decide) rfl
    obtain ⟨T105, h105, X105, e105, W105, st105⟩ := stI X101 hx hZ e101 Ar105 (j := (0 : Int32)) hin105 (g := (mkF m 24 #[.val (.ref a), .val (.ref b), .val (.int (4 : Int32)), .val (.int (Int32.ofNat kk)), .val (.ref b101), .val (.int (0 : Int32))] [(.int (0 : Int32)), (.int (0 : Int32)), (.ref b101)])) rfl rfl (hb hby d9_24)
    have N105 := Fr.snoc X105 N0 ge_b101
    have O105 := O101.wr W105 ge_b101
    have K105 := K101.wr W105 (Or.inr gk_b101)
    have V105 : own_Ar Z h105 b101 k101 .int [(.int (0 : Int32)), (.int (0 : Int32)), (.int (0 : Int32)), (.int (0 : Int32))] := own_Ar.set Ar105 qa105 sa105 V101.small W105
    refine own_go (S' := (T105.setTop (mkF m 35 #[.val (.ref a), .val (.ref b), .val (.int (4 : Int32)), .val (.int (Int32.ofNat kk)), .val (.ref b101), .val (.int (1 : Int32))] [(.int (1 : Int32)), (.ref b)]))) (fun tq kq => st105 tq (XS.iinc X105.here hx rfl (hb hby d9_25) rfl (l' := #[.val (.ref a), .val (.ref b), .val (.int (4 : Int32)), .val (.int (Int32.ofNat kk)), .val (.ref b101), .val (.int (1 : Int32))]) rfl (XS.iloadN X105.here hx rfl (hb hby d9_28) rfl (XS.iconst X105.here hx rfl (hb hby d9_29) (XS.icmpNo X105.here hx rfl (hb hby d9_30) rfl (tlt (by decide : (1 : Int32) < (4 : Int32))).2.2.2 (XS.aloadN X105.here hx rfl (hb hby d9_33) rfl rfl (XS.iconst X105.here hx rfl (hb hby d9_34) kq))))))) ?_
    have f106 := (f102.other W105 ne_b_b101)
    obtain ⟨cl107, Ar107, -, -, hin107, hat107⟩ := f106.at (j := (1 : Int32)) (v := (.int (Int32.ofNat q1))) (by decide) rfl
    refine own_go (S' := (T105.setTop (mkF m 37 #[.val (.ref a), .val (.ref b), .val (.int (4 : Int32)), .val (.int (Int32.ofNat kk)), .val (.ref b101), .val (.int (1 : Int32))] [(.int (Int32.ofNat kk)), (.int (Int32.ofNat q1))]))) (fun tq kq => X105.iaload hx (j := (1 : Int32)) (v := (.int (Int32.ofNat q1))) (by rw [e105]; exact Ar107.1) (State.isArrayOf_alike hZ.alike Ar107.2.1) Ar107.2.2 hin107 hat107 (g := (mkF m 35 #[.val (.ref a), .val (.ref b), .val (.int (4 : Int32)), .val (.int (Int32.ofNat kk)), .val (.ref b101), .val (.int (1 : Int32))] [(.int (1 : Int32)), (.ref b)])) rfl rfl (hb hby d9_35) tq (XS.iloadN X105.here hx rfl (hb hby d9_36) rfl kq)) ?_
    by_cases hc108 : (Int32.ofNat q1) = (Int32.ofNat kk)
    · refine own_go (S' := (T105.setTop (mkF m 45 #[.val (.ref a), .val (.ref b), .val (.int (4 : Int32)), .val (.int (Int32.ofNat kk)), .val (.ref b101), .val (.int (1 : Int32))] [(.int (1 : Int32)), (.int (1 : Int32)), (.ref b101)]))) (fun tq kq => XS.icmpNo X105.here hx rfl (hb hby d9_37) rfl (teq hc108).2 (XS.aload X105.here hx rfl (hb hby d9_40) rfl rfl (XS.iload X105.here hx rfl (hb hby d9_42) rfl (XS.iconst X105.here hx rfl (hb hby d9_44) kq)))) ?_
      obtain ⟨cl109, Ar109, qa109, sa109, hin109, -⟩ := V105.at (j := (1 : Int32)) (by decide) rfl
      obtain ⟨T109, h109, X109, e109, W109, st109⟩ := stI X105 hx hZ e105 Ar109 (j := (1 : Int32)) hin109 (g := (mkF m 45 #[.val (.ref a), .val (.ref b), .val (.int (4 : Int32)), .val (.int (Int32.ofNat kk)), .val (.ref b101), .val (.int (1 : Int32))] [(.int (1 : Int32)), (.int (1 : Int32)), (.ref b101)])) rfl rfl (hb hby d9_45)
      have N109 := Fr.snoc X109 N105 ge_b101
      have O109 := O105.wr W109 ge_b101
      have K109 := K105.wr W109 (Or.inr gk_b101)
      have V109 : own_Ar Z h109 b101 k101 .int [(.int (0 : Int32)), (.int (1 : Int32)), (.int (0 : Int32)), (.int (0 : Int32))] := own_Ar.set Ar109 qa109 sa109 V105.small W109
      refine own_go (S' := (T109.setTop (mkF m 56 #[.val (.ref a), .val (.ref b), .val (.int (4 : Int32)), .val (.int (Int32.ofNat kk)), .val (.ref b101), .val (.int (2 : Int32))] [(.int (2 : Int32)), (.ref b)]))) (fun tq kq => st109 tq (XS.iinc X109.here hx rfl (hb hby d9_46) rfl (l' := #[.val (.ref a), .val (.ref b), .val (.int (4 : Int32)), .val (.int (Int32.ofNat kk)), .val (.ref b101), .val (.int (2 : Int32))]) rfl (XS.iloadN X109.here hx rfl (hb hby d9_49) rfl (XS.iconst X109.here hx rfl (hb hby d9_50) (XS.icmpNo X109.here hx rfl (hb hby d9_51) rfl (tlt (by decide : (2 : Int32) < (4 : Int32))).2.2.2 (XS.aloadN X109.here hx rfl (hb hby d9_54) rfl rfl (XS.iconst X109.here hx rfl (hb hby d9_55) kq))))))) ?_
      have f110 := (f106.other W109 ne_b_b101)
      obtain ⟨cl111, Ar111, -, -, hin111, hat111⟩ := f110.at (j := (2 : Int32)) (v := (.int (Int32.ofNat q2))) (by decide) rfl
      refine own_go (S' := (T109.setTop (mkF m 58 #[.val (.ref a), .val (.ref b), .val (.int (4 : Int32)), .val (.int (Int32.ofNat kk)), .val (.ref b101), .val (.int (2 : Int32))] [(.int (Int32.ofNat kk)), (.int (Int32.ofNat q2))]))) (fun tq kq => X109.iaload hx (j := (2 : Int32)) (v := (.int (Int32.ofNat q2))) (by rw [e109]; exact Ar111.1) (State.isArrayOf_alike hZ.alike Ar111.2.1) Ar111.2.2 hin111 hat111 (g := (mkF m 56 #[.val (.ref a), .val (.ref b), .val (.int (4 : Int32)), .val (.int (Int32.ofNat kk)), .val (.ref b101), .val (.int (2 : Int32))] [(.int (2 : Int32)), (.ref b)])) rfl rfl (hb hby d9_56) tq (XS.iloadN X109.here hx rfl (hb hby d9_57) rfl kq)) ?_
      by_cases hc112 : (Int32.ofNat q2) = (Int32.ofNat kk)
      · refine own_go (S' := (T109.setTop (mkF m 66 #[.val (.ref a), .val (.ref b), .val (.int (4 : Int32)), .val (.int (Int32.ofNat kk)), .val (.ref b101), .val (.int (2 : Int32))] [(.int (2 : Int32)), (.int (2 : Int32)), (.ref b101)]))) (fun tq kq => XS.icmpNo X109.here hx rfl (hb hby d9_58) rfl (teq hc112).2 (XS.aload X109.here hx rfl (hb hby d9_61) rfl rfl (XS.iload X109.here hx rfl (hb hby d9_63) rfl (XS.iconst X109.here hx rfl (hb hby d9_65) kq)))) ?_
        obtain ⟨cl113, Ar113, qa113, sa113, hin113, -⟩ := V109.at (j := (2 : Int32)) (by decide) rfl
        obtain ⟨T113, h113, X113, e113, W113, st113⟩ := stI X109 hx hZ e109 Ar113 (j := (2 : Int32)) hin113 (g := (mkF m 66 #[.val (.ref a), .val (.ref b), .val (.int (4 : Int32)), .val (.int (Int32.ofNat kk)), .val (.ref b101), .val (.int (2 : Int32))] [(.int (2 : Int32)), (.int (2 : Int32)), (.ref b101)])) rfl rfl (hb hby d9_66)
        have N113 := Fr.snoc X113 N109 ge_b101
        have O113 := O109.wr W113 ge_b101
        have K113 := K109.wr W113 (Or.inr gk_b101)
        have V113 : own_Ar Z h113 b101 k101 .int [(.int (0 : Int32)), (.int (1 : Int32)), (.int (2 : Int32)), (.int (0 : Int32))] := own_Ar.set Ar113 qa113 sa113 V109.small W113
        refine own_go (S' := (T113.setTop (mkF m 77 #[.val (.ref a), .val (.ref b), .val (.int (4 : Int32)), .val (.int (Int32.ofNat kk)), .val (.ref b101), .val (.int (3 : Int32))] [(.int (3 : Int32)), (.ref b)]))) (fun tq kq => st113 tq (XS.iinc X113.here hx rfl (hb hby d9_67) rfl (l' := #[.val (.ref a), .val (.ref b), .val (.int (4 : Int32)), .val (.int (Int32.ofNat kk)), .val (.ref b101), .val (.int (3 : Int32))]) rfl (XS.iloadN X113.here hx rfl (hb hby d9_70) rfl (XS.iconst X113.here hx rfl (hb hby d9_71) (XS.icmpNo X113.here hx rfl (hb hby d9_72) rfl (tlt (by decide : (3 : Int32) < (4 : Int32))).2.2.2 (XS.aloadN X113.here hx rfl (hb hby d9_75) rfl rfl (XS.iconst X113.here hx rfl (hb hby d9_76) kq))))))) ?_
        have f114 := (f110.other W113 ne_b_b101)
        obtain ⟨cl115, Ar115, -, -, hin115, hat115⟩ := f114.at (j := (3 : Int32)) (v := (.int (Int32.ofNat q3))) (by decide) rfl
        refine own_go (S' := (T113.setTop (mkF m 79 #[.val (.ref a), .val (.ref b), .val (.int (4 : Int32)), .val (.int (Int32.ofNat kk)), .val (.ref b101), .val (.int (3 : Int32))] [(.int (Int32.ofNat kk)), (.int (Int32.ofNat q3))]))) (fun tq kq => X113.iaload hx (j := (3 : Int32)) (v := (.int (Int32.ofNat q3))) (by rw [e113]; exact Ar115.1) (State.isArrayOf_alike hZ.alike Ar115.2.1) Ar115.2.2 hin115 hat115 (g := (mkF m 77 #[.val (.ref a), .val (.ref b), .val (.int (4 : Int32)), .val (.int (Int32.ofNat kk)), .val (.ref b101), .val (.int (3 : Int32))] [(.int (3 : Int32)), (.ref b)])) rfl rfl (hb hby d9_77) tq (XS.iloadN X113.here hx rfl (hb hby d9_78) rfl kq)) ?_
        by_cases hc116 : (Int32.ofNat q3) = (Int32.ofNat kk)
        · refine own_go (S' := (T113.setTop (mkF m 87 #[.val (.ref a), .val (.ref b), .val (.int (4 : Int32)), .val (.int (Int32.ofNat kk)), .val (.ref b101), .val (.int (3 : Int32))] [(.int (3 : Int32)), (.int (3 : Int32)), (.ref b101)]))) (fun tq kq => XS.icmpNo X113.here hx rfl (hb hby d9_79) rfl (teq hc116).2 (XS.aload X113.here hx rfl (hb hby d9_82) rfl rfl (XS.iload X113.here hx rfl (hb hby d9_84) rfl (XS.iconst X113.here hx rfl (hb hby d9_86) kq)))) ?_
          obtain ⟨cl117, Ar117, qa117, sa117, hin117, -⟩ := V113.at (j := (3 : Int32)) (by decide) rfl
          obtain ⟨T117, h117, X117, e117, W117, st117⟩ := stI X113 hx hZ e113 Ar117 (j := (3 : Int32)) hin117 (g := (mkF m 87 #[.val (.ref a), .val (.ref b), .val (.int (4 : Int32)), .val (.int (Int32.ofNat kk)), .val (.ref b101), .val (.int (3 : Int32))] [(.int (3 : Int32)), (.int (3 : Int32)), (.ref b101)])) rfl rfl (hb hby d9_87)
          have N117 := Fr.snoc X117 N113 ge_b101
          have O117 := O113.wr W117 ge_b101
          have K117 := K113.wr W117 (Or.inr gk_b101)
          have V117 : own_Ar Z h117 b101 k101 .int [(.int (0 : Int32)), (.int (1 : Int32)), (.int (2 : Int32)), (.int (3 : Int32))] := own_Ar.set Ar117 qa117 sa117 V113.small W117
          refine own_go (S' := (T117.setTop (mkF m 91 #[.val (.ref a), .val (.ref b), .val (.int (4 : Int32)), .val (.int (Int32.ofNat kk)), .val (.ref b101), .val (.int (4 : Int32))] []))) (fun tq kq => st117 tq (XS.iinc X117.here hx rfl (hb hby d9_88) rfl (l' := #[.val (.ref a), .val (.ref b), .val (.int (4 : Int32)), .val (.int (Int32.ofNat kk)), .val (.ref b101), .val (.int (4 : Int32))]) rfl kq)) ?_
          have hq119 : q0 = kk := (own_eqN (by omega) (by omega)).mp hc104
          have hq120 : q1 = kk := (own_eqN (by omega) (by omega)).mp hc108
          have hq121 : q2 = kk := (own_eqN (by omega) (by omega)).mp hc112
          have hq122 : q3 = kk := (own_eqN (by omega) (by omega)).mp hc116
          have ex118 : own_ex [q0, q1, q2, q3] kk = [0, 1, 2, 3] := by
            simp only [own_ex, List.length_cons, List.length_nil]
            simp [List.range_succ, List.filter_append, List.getD, hq119, hq120, hq121, hq122]
          rw [ex118] at Va
          refine own_go (S' := (T117.setTop (mkF m 96 #[.val (.ref a), .val (.ref b), .val (.int (4 : Int32)), .val (.int (Int32.ofNat kk)), .val (.ref b101), .val (.int (4 : Int32))] [(.ref a)]))) (fun tq kq => XS.aloadN X117.here hx rfl (hb hby d9_91) rfl rfl (XS.ifnullNo X117.here hx rfl (hb hby d9_92) rfl (XS.aloadN X117.here hx rfl (hb hby d9_95) rfl rfl kq))) ?_
          have f123 := (((((Va.ext E101).other W105 ne_a_b101).other W109 ne_a_b101).other W113 ne_a_b101).other W117 ne_a_b101)
          obtain ⟨cl124, Ar124, ln124⟩ := f123.len
          have lq124 : cl124.slots.size.toInt32 = (4 : Int32) := ln124.trans rfl
          refine own_go (S' := (T117.setTop (mkF m 112 #[.val (.ref a), .val (.ref b), .val (.int (4 : Int32)), .val (.int (Int32.ofNat kk)), .val (.ref b101), .val (.int (4 : Int32))] [(.int (0 : Int32)), (.ref a)]))) (fun tq kq => X117.arraylength hx (by rw [e117]; exact Ar124.1) (State.isArrayOf_alike hZ.alike Ar124.2.1) (g := (mkF m 96 #[.val (.ref a), .val (.ref b), .val (.int (4 : Int32)), .val (.int (Int32.ofNat kk)), .val (.ref b101), .val (.int (4 : Int32))] [(.ref a)])) rfl rfl (hb hby d9_96) tq (by rw [lq124]; exact (XS.iload X117.here hx rfl (hb hby d9_97) rfl (XS.icmpYes X117.here hx rfl (pc0 := 99) (pc' := 104) rfl (hb hby d9_99) rfl (teq (by decide : (4 : Int32) = (4 : Int32))).1 (by decide) (by decide) (XS.iload X117.here hx rfl (hb hby d9_104) rfl (XS.iconst X117.here hx rfl (hb hby d9_106) (XS.icmpNo X117.here hx rfl (hb hby d9_107) rfl (flt (by decide : ¬ ((4 : Int32) < (1 : Int32)))).1 (XS.aloadN X117.here hx rfl (hb hby d9_110) rfl rfl (XS.iconst X117.here hx rfl (hb hby d9_111) kq))))))))) ?_
          obtain ⟨cl125, Ar125, -, -, hin125, hat125⟩ := f123.at (j := (0 : Int32)) (v := (.int (0 : Int32))) (by decide) rfl
          refine own_go (S' := (T117.setTop (mkF m 116 #[.val (.ref a), .val (.ref b), .val (.int (4 : Int32)), .val (.int (Int32.ofNat kk)), .val (.ref b101), .val (.int (4 : Int32))] [(.int (0 : Int32)), (.ref b101), (.int (0 : Int32))]))) (fun tq kq => X117.iaload hx (j := (0 : Int32)) (v := (.int (0 : Int32))) (by rw [e117]; exact Ar125.1) (State.isArrayOf_alike hZ.alike Ar125.2.1) Ar125.2.2 hin125 hat125 (g := (mkF m 112 #[.val (.ref a), .val (.ref b), .val (.int (4 : Int32)), .val (.int (Int32.ofNat kk)), .val (.ref b101), .val (.int (4 : Int32))] [(.int (0 : Int32)), (.ref a)])) rfl rfl (hb hby d9_112) tq (XS.aload X117.here hx rfl (hb hby d9_113) rfl rfl (XS.iconst X117.here hx rfl (hb hby d9_115) kq))) ?_
          obtain ⟨cl126, Ar126, -, -, hin126, hat126⟩ := V117.at (j := (0 : Int32)) (v := (.int (0 : Int32))) (by decide) rfl
          refine own_go (S' := (T117.setTop (mkF m 128 #[.val (.ref a), .val (.ref b), .val (.int (4 : Int32)), .val (.int (Int32.ofNat kk)), .val (.ref b101), .val (.int (4 : Int32))] [(.int (1 : Int32)), (.ref a)]))) (fun tq kq => X117.iaload hx (j := (0 : Int32)) (v := (.int (0 : Int32))) (by rw [e117]; exact Ar126.1) (State.isArrayOf_alike hZ.alike Ar126.2.1) Ar126.2.2 hin126 hat126 (g := (mkF m 116 #[.val (.ref a), .val (.ref b), .val (.int (4 : Int32)), .val (.int (Int32.ofNat kk)), .val (.ref b101), .val (.int (4 : Int32))] [(.int (0 : Int32)), (.ref b101), (.int (0 : Int32))])) rfl rfl (hb hby d9_116) tq (XS.icmpNo X117.here hx rfl (hb hby d9_117) rfl (teq (by decide : (0 : Int32) = (0 : Int32))).2 (XS.iload X117.here hx rfl (hb hby d9_120) rfl (XS.iconst X117.here hx rfl (hb hby d9_122) (XS.icmpNo X117.here hx rfl (hb hby d9_123) rfl (flt (by decide : ¬ ((4 : Int32) < (2 : Int32)))).1 (XS.aloadN X117.here hx rfl (hb hby d9_126) rfl rfl (XS.iconst X117.here hx rfl (hb hby d9_127) kq))))))) ?_
          obtain ⟨cl127, Ar127, -, -, hin127, hat127⟩ := f123.at (j := (1 : Int32)) (v := (.int (1 : Int32))) (by decide) rfl
          refine own_go (S' := (T117.setTop (mkF m 132 #[.val (.ref a), .val (.ref b), .val (.int (4 : Int32)), .val (.int (Int32.ofNat kk)), .val (.ref b101), .val (.int (4 : Int32))] [(.int (1 : Int32)), (.ref b101), (.int (1 : Int32))]))) (fun tq kq => X117.iaload hx (j := (1 : Int32)) (v := (.int (1 : Int32))) (by rw [e117]; exact Ar127.1) (State.isArrayOf_alike hZ.alike Ar127.2.1) Ar127.2.2 hin127 hat127 (g := (mkF m 128 #[.val (.ref a), .val (.ref b), .val (.int (4 : Int32)), .val (.int (Int32.ofNat kk)), .val (.ref b101), .val (.int (4 : Int32))] [(.int (1 : Int32)), (.ref a)])) rfl rfl (hb hby d9_128) tq (XS.aload X117.here hx rfl (hb hby d9_129) rfl rfl (XS.iconst X117.here hx rfl (hb hby d9_131) kq))) ?_
          obtain ⟨cl128, Ar128, -, -, hin128, hat128⟩ := V117.at (j := (1 : Int32)) (v := (.int (1 : Int32))) (by decide) rfl
          refine own_go (S' := (T117.setTop (mkF m 144 #[.val (.ref a), .val (.ref b), .val (.int (4 : Int32)), .val (.int (Int32.ofNat kk)), .val (.ref b101), .val (.int (4 : Int32))] [(.int (2 : Int32)), (.ref a)]))) (fun tq kq => X117.iaload hx (j := (1 : Int32)) (v := (.int (1 : Int32))) (by rw [e117]; exact Ar128.1) (State.isArrayOf_alike hZ.alike Ar128.2.1) Ar128.2.2 hin128 hat128 (g := (mkF m 132 #[.val (.ref a), .val (.ref b), .val (.int (4 : Int32)), .val (.int (Int32.ofNat kk)), .val (.ref b101), .val (.int (4 : Int32))] [(.int (1 : Int32)), (.ref b101), (.int (1 : Int32))])) rfl rfl (hb hby d9_132) tq (XS.icmpNo X117.here hx rfl (hb hby d9_133) rfl (teq (by decide : (1 : Int32) = (1 : Int32))).2 (XS.iload X117.here hx rfl (hb hby d9_136) rfl (XS.iconst X117.here hx rfl (hb hby d9_138) (XS.icmpNo X117.here hx rfl (hb hby d9_139) rfl (flt (by decide : ¬ ((4 : Int32) < (3 : Int32)))).1 (XS.aloadN X117.here hx rfl (hb hby d9_142) rfl rfl (XS.iconst X117.here hx rfl (hb hby d9_143) kq))))))) ?_
          obtain ⟨cl129, Ar129, -, -, hin129, hat129⟩ := f123.at (j := (2 : Int32)) (v := (.int (2 : Int32))) (by decide) rfl
          refine own_go (S' := (T117.setTop (mkF m 148 #[.val (.ref a), .val (.ref b), .val (.int (4 : Int32)), .val (.int (Int32.ofNat kk)), .val (.ref b101), .val (.int (4 : Int32))] [(.int (2 : Int32)), (.ref b101), (.int (2 : Int32))]))) (fun tq kq => X117.iaload hx (j := (2 : Int32)) (v := (.int (2 : Int32))) (by rw [e117]; exact Ar129.1) (State.isArrayOf_alike hZ.alike Ar129.2.1) Ar129.2.2 hin129 hat129 (g := (mkF m 144 #[.val (.ref a), .val (.ref b), .val (.int (4 : Int32)), .val (.int (Int32.ofNat kk)), .val (.ref b101), .val (.int (4 : Int32))] [(.int (2 : Int32)), (.ref a)])) rfl rfl (hb hby d9_144) tq (XS.aload X117.here hx rfl (hb hby d9_145) rfl rfl (XS.iconst X117.here hx rfl (hb hby d9_147) kq))) ?_
          obtain ⟨cl130, Ar130, -, -, hin130, hat130⟩ := V117.at (j := (2 : Int32)) (v := (.int (2 : Int32))) (by decide) rfl
          refine own_go (S' := (T117.setTop (mkF m 160 #[.val (.ref a), .val (.ref b), .val (.int (4 : Int32)), .val (.int (Int32.ofNat kk)), .val (.ref b101), .val (.int (4 : Int32))] [(.int (3 : Int32)), (.ref a)]))) (fun tq kq => X117.iaload hx (j := (2 : Int32)) (v := (.int (2 : Int32))) (by rw [e117]; exact Ar130.1) (State.isArrayOf_alike hZ.alike Ar130.2.1) Ar130.2.2 hin130 hat130 (g := (mkF m 148 #[.val (.ref a), .val (.ref b), .val (.int (4 : Int32)), .val (.int (Int32.ofNat kk)), .val (.ref b101), .val (.int (4 : Int32))] [(.int (2 : Int32)), (.ref b101), (.int (2 : Int32))])) rfl rfl (hb hby d9_148) tq (XS.icmpNo X117.here hx rfl (hb hby d9_149) rfl (teq (by decide : (2 : Int32) = (2 : Int32))).2 (XS.iload X117.here hx rfl (hb hby d9_152) rfl (XS.iconst X117.here hx rfl (hb hby d9_154) (XS.icmpNo X117.here hx rfl (hb hby d9_155) rfl (flt (by decide : ¬ ((4 : Int32) < (4 : Int32)))).1 (XS.aloadN X117.here hx rfl (hb hby d9_158) rfl rfl (XS.iconst X117.here hx rfl (hb hby d9_159) kq))))))) ?_
          obtain ⟨cl131, Ar131, -, -, hin131, hat131⟩ := f123.at (j := (3 : Int32)) (v := (.int (3 : Int32))) (by decide) rfl
          refine own_go (S' := (T117.setTop (mkF m 164 #[.val (.ref a), .val (.ref b), .val (.int (4 : Int32)), .val (.int (Int32.ofNat kk)), .val (.ref b101), .val (.int (4 : Int32))] [(.int (3 : Int32)), (.ref b101), (.int (3 : Int32))]))) (fun tq kq => X117.iaload hx (j := (3 : Int32)) (v := (.int (3 : Int32))) (by rw [e117]; exact Ar131.1) (State.isArrayOf_alike hZ.alike Ar131.2.1) Ar131.2.2 hin131 hat131 (g := (mkF m 160 #[.val (.ref a), .val (.ref b), .val (.int (4 : Int32)), .val (.int (Int32.ofNat kk)), .val (.ref b101), .val (.int (4 : Int32))] [(.int (3 : Int32)), (.ref a)])) rfl rfl (hb hby d9_160) tq (XS.aload X117.here hx rfl (hb hby d9_161) rfl rfl (XS.iconst X117.here hx rfl (hb hby d9_163) kq))) ?_
          obtain ⟨cl132, Ar132, -, -, hin132, hat132⟩ := V117.at (j := (3 : Int32)) (v := (.int (3 : Int32))) (by decide) rfl
          refine own_go (S' := (T117.setTop (mkF m 173 #[.val (.ref a), .val (.ref b), .val (.int (4 : Int32)), .val (.int (Int32.ofNat kk)), .val (.ref b101), .val (.int (4 : Int32))] [(.int (1 : Int32))]))) (fun tq kq => X117.iaload hx (j := (3 : Int32)) (v := (.int (3 : Int32))) (by rw [e117]; exact Ar132.1) (State.isArrayOf_alike hZ.alike Ar132.2.1) Ar132.2.2 hin132 hat132 (g := (mkF m 164 #[.val (.ref a), .val (.ref b), .val (.int (4 : Int32)), .val (.int (Int32.ofNat kk)), .val (.ref b101), .val (.int (4 : Int32))] [(.int (3 : Int32)), (.ref b101), (.int (3 : Int32))])) rfl rfl (hb hby d9_164) tq (XS.icmpNo X117.here hx rfl (hb hby d9_165) rfl (teq (by decide : (3 : Int32) = (3 : Int32))).2 (XS.iconst X117.here hx rfl (hb hby d9_168) (XS.goto X117.here hx rfl (pc0 := 169) (pc' := 173) rfl (hb hby d9_169) (by decide) (by decide) kq)))) ?_
          refine own_retN X117 hx hlk hret (by simp) (hb hby d9_173) (by decide) (by decide) ?_
          rw [e117]
          exact ⟨rfl, N117, K117⟩
        · refine own_go (S' := (T113.setTop (mkF m 91 #[.val (.ref a), .val (.ref b), .val (.int (4 : Int32)), .val (.int (Int32.ofNat kk)), .val (.ref b101), .val (.int (3 : Int32))] []))) (fun tq kq => XS.icmpYes X113.here hx rfl (pc0 := 79) (pc' := 91) rfl (hb hby d9_79) rfl (feq hc116).2 (by decide) (by decide) kq) ?_
          have hq134 : q0 = kk := (own_eqN (by omega) (by omega)).mp hc104
          have hq135 : q1 = kk := (own_eqN (by omega) (by omega)).mp hc108
          have hq136 : q2 = kk := (own_eqN (by omega) (by omega)).mp hc112
          have hq137 : ¬ (q3 = kk) := fun z => hc116 (congrArg Int32.ofNat z)
          have ex133 : own_ex [q0, q1, q2, q3] kk = [0, 1, 2] := by
            simp only [own_ex, List.length_cons, List.length_nil]
            simp [List.range_succ, List.filter_append, List.getD, hq134, hq135, hq136, hq137]
          rw [ex133] at Va
          refine own_go (S' := (T113.setTop (mkF m 96 #[.val (.ref a), .val (.ref b), .val (.int (4 : Int32)), .val (.int (Int32.ofNat kk)), .val (.ref b101), .val (.int (3 : Int32))] [(.ref a)]))) (fun tq kq => XS.aloadN X113.here hx rfl (hb hby d9_91) rfl rfl (XS.ifnullNo X113.here hx rfl (hb hby d9_92) rfl (XS.aloadN X113.here hx rfl (hb hby d9_95) rfl rfl kq))) ?_
          have f138 := ((((Va.ext E101).other W105 ne_a_b101).other W109 ne_a_b101).other W113 ne_a_b101)
          obtain ⟨cl139, Ar139, ln139⟩ := f138.len
          have lq139 : cl139.slots.size.toInt32 = (3 : Int32) := ln139.trans rfl
          refine own_go (S' := (T113.setTop (mkF m 112 #[.val (.ref a), .val (.ref b), .val (.int (4 : Int32)), .val (.int (Int32.ofNat kk)), .val (.ref b101), .val (.int (3 : Int32))] [(.int (0 : Int32)), (.ref a)]))) (fun tq kq => X113.arraylength hx (by rw [e113]; exact Ar139.1) (State.isArrayOf_alike hZ.alike Ar139.2.1) (g := (mkF m 96 #[.val (.ref a), .val (.ref b), .val (.int (4 : Int32)), .val (.int (Int32.ofNat kk)), .val (.ref b101), .val (.int (3 : Int32))] [(.ref a)])) rfl rfl (hb hby d9_96) tq (by rw [lq139]; exact (XS.iload X113.here hx rfl (hb hby d9_97) rfl (XS.icmpYes X113.here hx rfl (pc0 := 99) (pc' := 104) rfl (hb hby d9_99) rfl (teq (by decide : (3 : Int32) = (3 : Int32))).1 (by decide) (by decide) (XS.iload X113.here hx rfl (hb hby d9_104) rfl (XS.iconst X113.here hx rfl (hb hby d9_106) (XS.icmpNo X113.here hx rfl (hb hby d9_107) rfl (flt (by decide : ¬ ((3 : Int32) < (1 : Int32)))).1 (XS.aloadN X113.here hx rfl (hb hby d9_110) rfl rfl (XS.iconst X113.here hx rfl (hb hby d9_111) kq))))))))) ?_
          obtain ⟨cl140, Ar140, -, -, hin140, hat140⟩ := f138.at (j := (0 : Int32)) (v := (.int (0 : Int32))) (by decide) rfl
          refine own_go (S' := (T113.setTop (mkF m 116 #[.val (.ref a), .val (.ref b), .val (.int (4 : Int32)), .val (.int (Int32.ofNat kk)), .val (.ref b101), .val (.int (3 : Int32))] [(.int (0 : Int32)), (.ref b101), (.int (0 : Int32))]))) (fun tq kq => X113.iaload hx (j := (0 : Int32)) (v := (.int (0 : Int32))) (by rw [e113]; exact Ar140.1) (State.isArrayOf_alike hZ.alike Ar140.2.1) Ar140.2.2 hin140 hat140 (g := (mkF m 112 #[.val (.ref a), .val (.ref b), .val (.int (4 : Int32)), .val (.int (Int32.ofNat kk)), .val (.ref b101), .val (.int (3 : Int32))] [(.int (0 : Int32)), (.ref a)])) rfl rfl (hb hby d9_112) tq (XS.aload X113.here hx rfl (hb hby d9_113) rfl rfl (XS.iconst X113.here hx rfl (hb hby d9_115) kq))) ?_
          obtain ⟨cl141, Ar141, -, -, hin141, hat141⟩ := V113.at (j := (0 : Int32)) (v := (.int (0 : Int32))) (by decide) rfl
          refine own_go (S' := (T113.setTop (mkF m 128 #[.val (.ref a), .val (.ref b), .val (.int (4 : Int32)), .val (.int (Int32.ofNat kk)), .val (.ref b101), .val (.int (3 : Int32))] [(.int (1 : Int32)), (.ref a)]))) (fun tq kq => X113.iaload hx (j := (0 : Int32)) (v := (.int (0 : Int32))) (by rw [e113]; exact Ar141.1) (State.isArrayOf_alike hZ.alike Ar141.2.1) Ar141.2.2 hin141 hat141 (g := (mkF m 116 #[.val (.ref a), .val (.ref b), .val (.int (4 : Int32)), .val (.int (Int32.ofNat kk)), .val (.ref b101), .val (.int (3 : Int32))] [(.int (0 : Int32)), (.ref b101), (.int (0 : Int32))])) rfl rfl (hb hby d9_116) tq (XS.icmpNo X113.here hx rfl (hb hby d9_117) rfl (teq (by decide : (0 : Int32) = (0 : Int32))).2 (XS.iload X113.here hx rfl (hb hby d9_120) rfl (XS.iconst X113.here hx rfl (hb hby d9_122) (XS.icmpNo X113.here hx rfl (hb hby d9_123) rfl (flt (by decide : ¬ ((3 : Int32) < (2 : Int32)))).1 (XS.aloadN X113.here hx rfl (hb hby d9_126) rfl rfl (XS.iconst X113.here hx rfl (hb hby d9_127) kq))))))) ?_
          obtain ⟨cl142, Ar142, -, -, hin142, hat142⟩ := f138.at (j := (1 : Int32)) (v := (.int (1 : Int32))) (by decide) rfl
          refine own_go (S' := (T113.setTop (mkF m 132 #[.val (.ref a), .val (.ref b), .val (.int (4 : Int32)), .val (.int (Int32.ofNat kk)), .val (.ref b101), .val (.int (3 : Int32))] [(.int (1 : Int32)), (.ref b101), (.int (1 : Int32))]))) (fun tq kq => X113.iaload hx (j := (1 : Int32)) (v := (.int (1 : Int32))) (by rw [e113]; exact Ar142.1) (State.isArrayOf_alike hZ.alike Ar142.2.1) Ar142.2.2 hin142 hat142 (g := (mkF m 128 #[.val (.ref a), .val (.ref b), .val (.int (4 : Int32)), .val (.int (Int32.ofNat kk)), .val (.ref b101), .val (.int (3 : Int32))] [(.int (1 : Int32)), (.ref a)])) rfl rfl (hb hby d9_128) tq (XS.aload X113.here hx rfl (hb hby d9_129) rfl rfl (XS.iconst X113.here hx rfl (hb hby d9_131) kq))) ?_
          obtain ⟨cl143, Ar143, -, -, hin143, hat143⟩ := V113.at (j := (1 : Int32)) (v := (.int (1 : Int32))) (by decide) rfl
          refine own_go (S' := (T113.setTop (mkF m 144 #[.val (.ref a), .val (.ref b), .val (.int (4 : Int32)), .val (.int (Int32.ofNat kk)), .val (.ref b101), .val (.int (3 : Int32))] [(.int (2 : Int32)), (.ref a)]))) (fun tq kq => X113.iaload hx (j := (1 : Int32)) (v := (.int (1 : Int32))) (by rw [e113]; exact Ar143.1) (State.isArrayOf_alike hZ.alike Ar143.2.1) Ar143.2.2 hin143 hat143 (g := (mkF m 132 #[.val (.ref a), .val (.ref b), .val (.int (4 : Int32)), .val (.int (Int32.ofNat kk)), .val (.ref b101), .val (.int (3 : Int32))] [(.int (1 : Int32)), (.ref b101), (.int (1 : Int32))])) rfl rfl (hb hby d9_132) tq (XS.icmpNo X113.here hx rfl (hb hby d9_133) rfl (teq (by decide : (1 : Int32) = (1 : Int32))).2 (XS.iload X113.here hx rfl (hb hby d9_136) rfl (XS.iconst X113.here hx rfl (hb hby d9_138) (XS.icmpNo X113.here hx rfl (hb hby d9_139) rfl (flt (by decide : ¬ ((3 : Int32) < (3 : Int32)))).1 (XS.aloadN X113.here hx rfl (hb hby d9_142) rfl rfl (XS.iconst X113.here hx rfl (hb hby d9_143) kq))))))) ?_
          obtain ⟨cl144, Ar144, -, -, hin144, hat144⟩ := f138.at (j := (2 : Int32)) (v := (.int (2 : Int32))) (by decide) rfl
          refine own_go (S' := (T113.setTop (mkF m 148 #[.val (.ref a), .val (.ref b), .val (.int (4 : Int32)), .val (.int (Int32.ofNat kk)), .val (.ref b101), .val (.int (3 : Int32))] [(.int (2 : Int32)), (.ref b101), (.int (2 : Int32))]))) (fun tq kq => X113.iaload hx (j := (2 : Int32)) (v := (.int (2 : Int32))) (by rw [e113]; exact Ar144.1) (State.isArrayOf_alike hZ.alike Ar144.2.1) Ar144.2.2 hin144 hat144 (g := (mkF m 144 #[.val (.ref a), .val (.ref b), .val (.int (4 : Int32)), .val (.int (Int32.ofNat kk)), .val (.ref b101), .val (.int (3 : Int32))] [(.int (2 : Int32)), (.ref a)])) rfl rfl (hb hby d9_144) tq (XS.aload X113.here hx rfl (hb hby d9_145) rfl rfl (XS.iconst X113.here hx rfl (hb hby d9_147) kq))) ?_
          obtain ⟨cl145, Ar145, -, -, hin145, hat145⟩ := V113.at (j := (2 : Int32)) (v := (.int (2 : Int32))) (by decide) rfl
          refine own_go (S' := (T113.setTop (mkF m 173 #[.val (.ref a), .val (.ref b), .val (.int (4 : Int32)), .val (.int (Int32.ofNat kk)), .val (.ref b101), .val (.int (3 : Int32))] [(.int (1 : Int32))]))) (fun tq kq => X113.iaload hx (j := (2 : Int32)) (v := (.int (2 : Int32))) (by rw [e113]; exact Ar145.1) (State.isArrayOf_alike hZ.alike Ar145.2.1) Ar145.2.2 hin145 hat145 (g := (mkF m 148 #[.val (.ref a), .val (.ref b), .val (.int (4 : Int32)), .val (.int (Int32.ofNat kk)), .val (.ref b101), .val (.int (3 : Int32))] [(.int (2 : Int32)), (.ref b101), (.int (2 : Int32))])) rfl rfl (hb hby d9_148) tq (XS.icmpNo X113.here hx rfl (hb hby d9_149) rfl (teq (by decide : (2 : Int32) = (2 : Int32))).2 (XS.iload X113.here hx rfl (hb hby d9_152) rfl (XS.iconst X113.here hx rfl (hb hby d9_154) (XS.icmpYes X113.here hx rfl (pc0 := 155) (pc' := 168) rfl (hb hby d9_155) rfl (tlt (by decide : (3 : Int32) < (4 : Int32))).1 (by decide) (by decide) (XS.iconst X113.here hx rfl (hb hby d9_168) (XS.goto X113.here hx rfl (pc0 := 169) (pc' := 173) rfl (hb hby d9_169) (by decide) (by decide) kq))))))) ?_
          refine own_retN X113 hx hlk hret (by simp) (hb hby d9_173) (by decide) (by decide) ?_
          rw [e113]
          exact ⟨rfl, N113, K113⟩
      · refine own_go (S' := (T109.setTop (mkF m 77 #[.val (.ref a), .val (.ref b), .val (.int (4 : Int32)), .val (.int (Int32.ofNat kk)), .val (.ref b101), .val (.int (2 : Int32))] [(.int (3 : Int32)), (.ref b)]))) (fun tq kq => XS.icmpYes X109.here hx rfl (pc0 := 58) (pc' := 70) rfl (hb hby d9_58) rfl (feq hc112).2 (by decide) (by decide) (XS.iloadN X109.here hx rfl (hb hby d9_70) rfl (XS.iconst X109.here hx rfl (hb hby d9_71) (XS.icmpNo X109.here hx rfl (hb hby d9_72) rfl (tlt (by decide : (3 : Int32) < (4 : Int32))).2.2.2 (XS.aloadN X109.here hx rfl (hb hby d9_75) rfl rfl (XS.iconst X109.here hx rfl (hb hby d9_76) kq)))))) ?_
        obtain ⟨cl146, Ar146, -, -, hin146, hat146⟩ := f110.at (j := (3 : Int32)) (v := (.int (Int32.ofNat q3))) (by decide) rfl
        refine own_go (S' := (T109.setTop (mkF m 79 #[.val (.ref a), .val (.ref b), .val (.int (4 : Int32)), .val (.int (Int32.ofNat kk)), .val (.ref b101), .val (.int (2 : Int32))] [(.int (Int32.ofNat kk)), (.int (Int32.ofNat q3))]))) (fun tq kq => X109.iaload hx (j := (3 : Int32)) (v := (.int (Int32.ofNat q3))) (by rw [e109]; exact Ar146.1) (State.isArrayOf_alike hZ.alike Ar146.2.1) Ar146.2.2 hin146 hat146 (g := (mkF m 77 #[.val (.ref a), .val (.ref b), .val (.int (4 : Int32)), .val (.int (Int32.ofNat kk)), .val (.ref b101), .val (.int (2 : Int32))] [(.int (3 : Int32)), (.ref b)])) rfl rfl (hb hby d9_77) tq (XS.iloadN X109.here hx rfl (hb hby d9_78) rfl kq)) ?_
        by_cases hc147 : (Int32.ofNat q3) = (Int32.ofNat kk)
        · refine own_go (S' := (T109.setTop (mkF m 87 #[.val (.ref a), .val (.ref b), .val (.int (4 : Int32)), .val (.int (Int32.ofNat kk)), .val (.ref b101), .val (.int (2 : Int32))] [(.int (3 : Int32)), (.int (2 : Int32)), (.ref b101)]))) (fun tq kq => XS.icmpNo X109.here hx rfl (hb hby d9_79) rfl (teq hc147).2 (XS.aload X109.here hx rfl (hb hby d9_82) rfl rfl (XS.iload X109.here hx rfl (hb hby d9_84) rfl (XS.iconst X109.here hx rfl (hb hby d9_86) kq)))) ?_
          obtain ⟨cl148, Ar148, qa148, sa148, hin148, -⟩ := V109.at (j := (2 : Int32)) (by decide) rfl
          obtain ⟨T148, h148, X148, e148, W148, st148⟩ := stI X109 hx hZ e109 Ar148 (j := (2 : Int32)) hin148 (g := (mkF m 87 #[.val (.ref a), .val (.ref b), .val (.int (4 : Int32)), .val (.int (Int32.ofNat kk)), .val (.ref b101), .val (.int (2 : Int32))] [(.int (3 : Int32)), (.int (2 : Int32)), (.ref b101)])) rfl rfl (hb hby d9_87)
          have N148 := Fr.snoc X148 N109 ge_b101
          have O148 := O109.wr W148 ge_b101
          have K148 := K109.wr W148 (Or.inr gk_b101)
          have V148 : own_Ar Z h148 b101 k101 .int [(.int (0 : Int32)), (.int (1 : Int32)), (.int (3 : Int32)), (.int (0 : Int32))] := own_Ar.set Ar148 qa148 sa148 V109.small W148
          refine own_go (S' := (T148.setTop (mkF m 91 #[.val (.ref a), .val (.ref b), .val (.int (4 : Int32)), .val (.int (Int32.ofNat kk)), .val (.ref b101), .val (.int (3 : Int32))] []))) (fun tq kq => st148 tq (XS.iinc X148.here hx rfl (hb hby d9_88) rfl (l' := #[.val (.ref a), .val (.ref b), .val (.int (4 : Int32)), .val (.int (Int32.ofNat kk)), .val (.ref b101), .val (.int (3 : Int32))]) rfl kq)) ?_
          have hq150 : q0 = kk := (own_eqN (by omega) (by omega)).mp hc104
          have hq151 : q1 = kk := (own_eqN (by omega) (by omega)).mp hc108
          have hq152 : ¬ (q2 = kk) := fun z => hc112 (congrArg Int32.ofNat z)
          have hq153 : q3 = kk := (own_eqN (by omega) (by omega)).mp hc147
          have ex149 : own_ex [q0, q1, q2, q3] kk = [0, 1, 3] := by
            simp only [own_ex, List.length_cons, List.length_nil]
            simp [List.range_succ, List.filter_append, List.getD, hq150, hq151, hq152, hq153]
          rw [ex149] at Va
          refine own_go (S' := (T148.setTop (mkF m 96 #[.val (.ref a), .val (.ref b), .val (.int (4 : Int32)), .val (.int (Int32.ofNat kk)), .val (.ref b101), .val (.int (3 : Int32))] [(.ref a)]))) (fun tq kq => XS.aloadN X148.here hx rfl (hb hby d9_91) rfl rfl (XS.ifnullNo X148.here hx rfl (hb hby d9_92) rfl (XS.aloadN X148.here hx rfl (hb hby d9_95) rfl rfl kq))) ?_
          have f154 := ((((Va.ext E101).other W105 ne_a_b101).other W109 ne_a_b101).other W148 ne_a_b101)
          obtain ⟨cl155, Ar155, ln155⟩ := f154.len
          have lq155 : cl155.slots.size.toInt32 = (3 : Int32) := ln155.trans rfl
          refine own_go (S' := (T148.setTop (mkF m 112 #[.val (.ref a), .val (.ref b), .val (.int (4 : Int32)), .val (.int (Int32.ofNat kk)), .val (.ref b101), .val (.int (3 : Int32))] [(.int (0 : Int32)), (.ref a)]))) (fun tq kq => X148.arraylength hx (by rw [e148]; exact Ar155.1) (State.isArrayOf_alike hZ.alike Ar155.2.1) (g := (mkF m 96 #[.val (.ref a), .val (.ref b), .val (.int (4 : Int32)), .val (.int (Int32.ofNat kk)), .val (.ref b101), .val (.int (3 : Int32))] [(.ref a)])) rfl rfl (hb hby d9_96) tq (by rw [lq155]; exact (XS.iload X148.here hx rfl (hb hby d9_97) rfl (XS.icmpYes X148.here hx rfl (pc0 := 99) (pc' := 104) rfl (hb hby d9_99) rfl (teq (by decide : (3 : Int32) = (3 : Int32))).1 (by decide) (by decide) (XS.iload X148.here hx rfl (hb hby d9_104) rfl (XS.iconst X148.here hx rfl (hb hby d9_106) (XS.icmpNo X148.here hx rfl (hb hby d9_107) rfl (flt (by decide : ¬ ((3 : Int32) < (1 : Int32)))).1 (XS.aloadN X148.here hx rfl (hb hby d9_110) rfl rfl (XS.iconst X148.here hx rfl (hb hby d9_111) kq))))))))) ?_
          obtain ⟨cl156, Ar156, -, -, hin156, hat156⟩ := f154.at (j := (0 : Int32)) (v := (.int (0 : Int32))) (by decide) rfl
          refine own_go (S' := (T148.setTop (mkF m 116 #[.val (.ref a), .val (.ref b), .val (.int (4 : Int32)), .val (.int (Int32.ofNat kk)), .val (.ref b101), .val (.int (3 : Int32))] [(.int (0 : Int32)), (.ref b101), (.int (0 : Int32))]))) (fun tq kq => X148.iaload hx (j := (0 : Int32)) (v := (.int (0 : Int32))) (by rw [e148]; exact Ar156.1) (State.isArrayOf_alike hZ.alike Ar156.2.1) Ar156.2.2 hin156 hat156 (g := (mkF m 112 #[.val (.ref a), .val (.ref b), .val (.int (4 : Int32)), .val (.int (Int32.ofNat kk)), .val (.ref b101), .val (.int (3 : Int32))] [(.int (0 : Int32)), (.ref a)])) rfl rfl (hb hby d9_112) tq (XS.aload X148.here hx rfl (hb hby d9_113) rfl rfl (XS.iconst X148.here hx rfl (hb hby d9_115) kq))) ?_
          obtain ⟨cl157, Ar157, -, -, hin157, hat157⟩ := V148.at (j := (0 : Int32)) (v := (.int (0 : Int32))) (by decide) rfl
          refine own_go (S' := (T148.setTop (mkF m 128 #[.val (.ref a), .val (.ref b), .val (.int (4 : Int32)), .val (.int (Int32.ofNat kk)), .val (.ref b101), .val (.int (3 : Int32))] [(.int (1 : Int32)), (.ref a)]))) (fun tq kq => X148.iaload hx (j := (0 : Int32)) (v := (.int (0 : Int32))) (by rw [e148]; exact Ar157.1) (State.isArrayOf_alike hZ.alike Ar157.2.1) Ar157.2.2 hin157 hat157 (g := (mkF m 116 #[.val (.ref a), .val (.ref b), .val (.int (4 : Int32)), .val (.int (Int32.ofNat kk)), .val (.ref b101), .val (.int (3 : Int32))] [(.int (0 : Int32)), (.ref b101), (.int (0 : Int32))])) rfl rfl (hb hby d9_116) tq (XS.icmpNo X148.here hx rfl (hb hby d9_117) rfl (teq (by decide : (0 : Int32) = (0 : Int32))).2 (XS.iload X148.here hx rfl (hb hby d9_120) rfl (XS.iconst X148.here hx rfl (hb hby d9_122) (XS.icmpNo X148.here hx rfl (hb hby d9_123) rfl (flt (by decide : ¬ ((3 : Int32) < (2 : Int32)))).1 (XS.aloadN X148.here hx rfl (hb hby d9_126) rfl rfl (XS.iconst X148.here hx rfl (hb hby d9_127) kq))))))) ?_
          obtain ⟨cl158, Ar158, -, -, hin158, hat158⟩ := f154.at (j := (1 : Int32)) (v := (.int (1 : Int32))) (by decide) rfl
          refine own_go (S' := (T148.setTop (mkF m 132 #[.val (.ref a), .val (.ref b), .val (.int (4 : Int32)), .val (.int (Int32.ofNat kk)), .val (.ref b101), .val (.int (3 : Int32))] [(.int (1 : Int32)), (.ref b101), (.int (1 : Int32))]))) (fun tq kq => X148.iaload hx (j := (1 : Int32)) (v := (.int (1 : Int32))) (by rw [e148]; exact Ar158.1) (State.isArrayOf_alike hZ.alike Ar158.2.1) Ar158.2.2 hin158 hat158 (g := (mkF m 128 #[.val (.ref a), .val (.ref b), .val (.int (4 : Int32)), .val (.int (Int32.ofNat kk)), .val (.ref b101), .val (.int (3 : Int32))] [(.int (1 : Int32)), (.ref a)])) rfl rfl (hb hby d9_128) tq (XS.aload X148.here hx rfl (hb hby d9_129) rfl rfl (XS.iconst X148.here hx rfl (hb hby d9_131) kq))) ?_
          obtain ⟨cl159, Ar159, -, -, hin159, hat159⟩ := V148.at (j := (1 : Int32)) (v := (.int (1 : Int32))) (by decide) rfl
          refine own_go (S' := (T148.setTop (mkF m 144 #[.val (.ref a), .val (.ref b), .val (.int (4 : Int32)), .val (.int (Int32.ofNat kk)), .val (.ref b101), .val (.int (3 : Int32))] [(.int (2 : Int32)), (.ref a)]))) (fun tq kq => X148.iaload hx (j := (1 : Int32)) (v := (.int (1 : Int32))) (by rw [e148]; exact Ar159.1) (State.isArrayOf_alike hZ.alike Ar159.2.1) Ar159.2.2 hin159 hat159 (g := (mkF m 132 #[.val (.ref a), .val (.ref b), .val (.int (4 : Int32)), .val (.int (Int32.ofNat kk)), .val (.ref b101), .val (.int (3 : Int32))] [(.int (1 : Int32)), (.ref b101), (.int (1 : Int32))])) rfl rfl (hb hby d9_132) tq (XS.icmpNo X148.here hx rfl (hb hby d9_133) rfl (teq (by decide : (1 : Int32) = (1 : Int32))).2 (XS.iload X148.here hx rfl (hb hby d9_136) rfl (XS.iconst X148.here hx rfl (hb hby d9_138) (XS.icmpNo X148.here hx rfl (hb hby d9_139) rfl (flt (by decide : ¬ ((3 : Int32) < (3 : Int32)))).1 (XS.aloadN X148.here hx rfl (hb hby d9_142) rfl rfl (XS.iconst X148.here hx rfl (hb hby d9_143) kq))))))) ?_
          obtain ⟨cl160, Ar160, -, -, hin160, hat160⟩ := f154.at (j := (2 : Int32)) (v := (.int (3 : Int32))) (by decide) rfl
          refine own_go (S' := (T148.setTop (mkF m 148 #[.val (.ref a), .val (.ref b), .val (.int (4 : Int32)), .val (.int (Int32.ofNat kk)), .val (.ref b101), .val (.int (3 : Int32))] [(.int (2 : Int32)), (.ref b101), (.int (3 : Int32))]))) (fun tq kq => X148.iaload hx (j := (2 : Int32)) (v := (.int (3 : Int32))) (by rw [e148]; exact Ar160.1) (State.isArrayOf_alike hZ.alike Ar160.2.1) Ar160.2.2 hin160 hat160 (g := (mkF m 144 #[.val (.ref a), .val (.ref b), .val (.int (4 : Int32)), .val (.int (Int32.ofNat kk)), .val (.ref b101), .val (.int (3 : Int32))] [(.int (2 : Int32)), (.ref a)])) rfl rfl (hb hby d9_144) tq (XS.aload X148.here hx rfl (hb hby d9_145) rfl rfl (XS.iconst X148.here hx rfl (hb hby d9_147) kq))) ?_
          obtain ⟨cl161, Ar161, -, -, hin161, hat161⟩ := V148.at (j := (2 : Int32)) (v := (.int (3 : Int32))) (by decide) rfl
          refine own_go (S' := (T148.setTop (mkF m 173 #[.val (.ref a), .val (.ref b), .val (.int (4 : Int32)), .val (.int (Int32.ofNat kk)), .val (.ref b101), .val (.int (3 : Int32))] [(.int (1 : Int32))]))) (fun tq kq => X148.iaload hx (j := (2 : Int32)) (v := (.int (3 : Int32))) (by rw [e148]; exact Ar161.1) (State.isArrayOf_alike hZ.alike Ar161.2.1) Ar161.2.2 hin161 hat161 (g := (mkF m 148 #[.val (.ref a), .val (.ref b), .val (.int (4 : Int32)), .val (.int (Int32.ofNat kk)), .val (.ref b101), .val (.int (3 : Int32))] [(.int (2 : Int32)), (.ref b101), (.int (3 : Int32))])) rfl rfl (hb hby d9_148) tq (XS.icmpNo X148.here hx rfl (hb hby d9_149) rfl (teq (by decide : (3 : Int32) = (3 : Int32))).2 (XS.iload X148.here hx rfl (hb hby d9_152) rfl (XS.iconst X148.here hx rfl (hb hby d9_154) (XS.icmpYes X148.here hx rfl (pc0 := 155) (pc' := 168) rfl (hb hby d9_155) rfl (tlt (by decide : (3 : Int32) < (4 : Int32))).1 (by decide) (by decide) (XS.iconst X148.here hx rfl (hb hby d9_168) (XS.goto X148.here hx rfl (pc0 := 169) (pc' := 173) rfl (hb hby d9_169) (by decide) (by decide) kq))))))) ?_
          refine own_retN X148 hx hlk hret (by simp) (hb hby d9_173) (by decide) (by decide) ?_
          rw [e148]
          exact ⟨rfl, N148, K148⟩
        · refine own_go (S' := (T109.setTop (mkF m 91 #[.val (.ref a), .val (.ref b), .val (.int (4 : Int32)), .val (.int (Int32.ofNat kk)), .val (.ref b101), .val (.int (2 : Int32))] []))) (fun tq kq => XS.icmpYes X109.here hx rfl (pc0 := 79) (pc' := 91) rfl (hb hby d9_79) rfl (feq hc147).2 (by decide) (by decide) kq) ?_
          have hq163 : q0 = kk := (own_eqN (by omega) (by omega)).mp hc104
          have hq164 : q1 = kk := (own_eqN (by omega) (by omega)).mp hc108
          have hq165 : ¬ (q2 = kk) := fun z => hc112 (congrArg Int32.ofNat z)
          have hq166 : ¬ (q3 = kk) := fun z => hc147 (congrArg Int32.ofNat z)
          have ex162 : own_ex [q0, q1, q2, q3] kk = [0, 1] := by
            simp only [own_ex, List.length_cons, List.length_nil]
            simp [List.range_succ, List.filter_append, List.getD, hq163, hq164, hq165, hq166]
          rw [ex162] at Va
          refine own_go (S' := (T109.setTop (mkF m 96 #[.val (.ref a), .val (.ref b), .val (.int (4 : Int32)), .val (.int (Int32.ofNat kk)), .val (.ref b101), .val (.int (2 : Int32))] [(.ref a)]))) (fun tq kq => XS.aloadN X109.here hx rfl (hb hby d9_91) rfl rfl (XS.ifnullNo X109.here hx rfl (hb hby d9_92) rfl (XS.aloadN X109.here hx rfl (hb hby d9_95) rfl rfl kq))) ?_
          have f167 := (((Va.ext E101).other W105 ne_a_b101).other W109 ne_a_b101)
          obtain ⟨cl168, Ar168, ln168⟩ := f167.len
          have lq168 : cl168.slots.size.toInt32 = (2 : Int32) := ln168.trans rfl
          refine own_go (S' := (T109.setTop (mkF m 112 #[.val (.ref a), .val (.ref b), .val (.int (4 : Int32)), .val (.int (Int32.ofNat kk)), .val (.ref b101), .val (.int (2 : Int32))] [(.int (0 : Int32)), (.ref a)]))) (fun tq kq => X109.arraylength hx (by rw [e109]; exact Ar168.1) (State.isArrayOf_alike hZ.alike Ar168.2.1) (g := (mkF m 96 #[.val (.ref a), .val (.ref b), .val (.int (4 : Int32)), .val (.int (Int32.ofNat kk)), .val (.ref b101), .val (.int (2 : Int32))] [(.ref a)])) rfl rfl (hb hby d9_96) tq (by rw [lq168]; exact (XS.iload X109.here hx rfl (hb hby d9_97) rfl (XS.icmpYes X109.here hx rfl (pc0 := 99) (pc' := 104) rfl (hb hby d9_99) rfl (teq (by decide : (2 : Int32) = (2 : Int32))).1 (by decide) (by decide) (XS.iload X109.here hx rfl (hb hby d9_104) rfl (XS.iconst X109.here hx rfl (hb hby d9_106) (XS.icmpNo X109.here hx rfl (hb hby d9_107) rfl (flt (by decide : ¬ ((2 : Int32) < (1 : Int32)))).1 (XS.aloadN X109.here hx rfl (hb hby d9_110) rfl rfl (XS.iconst X109.here hx rfl (hb hby d9_111) kq))))))))) ?_
          obtain ⟨cl169, Ar169, -, -, hin169, hat169⟩ := f167.at (j := (0 : Int32)) (v := (.int (0 : Int32))) (by decide) rfl
          refine own_go (S' := (T109.setTop (mkF m 116 #[.val (.ref a), .val (.ref b), .val (.int (4 : Int32)), .val (.int (Int32.ofNat kk)), .val (.ref b101), .val (.int (2 : Int32))] [(.int (0 : Int32)), (.ref b101), (.int (0 : Int32))]))) (fun tq kq => X109.iaload hx (j := (0 : Int32)) (v := (.int (0 : Int32))) (by rw [e109]; exact Ar169.1) (State.isArrayOf_alike hZ.alike Ar169.2.1) Ar169.2.2 hin169 hat169 (g := (mkF m 112 #[.val (.ref a), .val (.ref b), .val (.int (4 : Int32)), .val (.int (Int32.ofNat kk)), .val (.ref b101), .val (.int (2 : Int32))] [(.int (0 : Int32)), (.ref a)])) rfl rfl (hb hby d9_112) tq (XS.aload X109.here hx rfl (hb hby d9_113) rfl rfl (XS.iconst X109.here hx rfl (hb hby d9_115) kq))) ?_
          obtain ⟨cl170, Ar170, -, -, hin170, hat170⟩ := V109.at (j := (0 : Int32)) (v := (.int (0 : Int32))) (by decide) rfl
          refine own_go (S' := (T109.setTop (mkF m 128 #[.val (.ref a), .val (.ref b), .val (.int (4 : Int32)), .val (.int (Int32.ofNat kk)), .val (.ref b101), .val (.int (2 : Int32))] [(.int (1 : Int32)), (.ref a)]))) (fun tq kq => X109.iaload hx (j := (0 : Int32)) (v := (.int (0 : Int32))) (by rw [e109]; exact Ar170.1) (State.isArrayOf_alike hZ.alike Ar170.2.1) Ar170.2.2 hin170 hat170 (g := (mkF m 116 #[.val (.ref a), .val (.ref b), .val (.int (4 : Int32)), .val (.int (Int32.ofNat kk)), .val (.ref b101), .val (.int (2 : Int32))] [(.int (0 : Int32)), (.ref b101), (.int (0 : Int32))])) rfl rfl (hb hby d9_116) tq (XS.icmpNo X109.here hx rfl (hb hby d9_117) rfl (teq (by decide : (0 : Int32) = (0 : Int32))).2 (XS.iload X109.here hx rfl (hb hby d9_120) rfl (XS.iconst X109.here hx rfl (hb hby d9_122) (XS.icmpNo X109.here hx rfl (hb hby d9_123) rfl (flt (by decide : ¬ ((2 : Int32) < (2 : Int32)))).1 (XS.aloadN X109.here hx rfl (hb hby d9_126) rfl rfl (XS.iconst X109.here hx rfl (hb hby d9_127) kq))))))) ?_
          obtain ⟨cl171, Ar171, -, -, hin171, hat171⟩ := f167.at (j := (1 : Int32)) (v := (.int (1 : Int32))) (by decide) rfl
          refine own_go (S' := (T109.setTop (mkF m 132 #[.val (.ref a), .val (.ref b), .val (.int (4 : Int32)), .val (.int (Int32.ofNat kk)), .val (.ref b101), .val (.int (2 : Int32))] [(.int (1 : Int32)), (.ref b101), (.int (1 : Int32))]))) (fun tq kq => X109.iaload hx (j := (1 : Int32)) (v := (.int (1 : Int32))) (by rw [e109]; exact Ar171.1) (State.isArrayOf_alike hZ.alike Ar171.2.1) Ar171.2.2 hin171 hat171 (g := (mkF m 128 #[.val (.ref a), .val (.ref b), .val (.int (4 : Int32)), .val (.int (Int32.ofNat kk)), .val (.ref b101), .val (.int (2 : Int32))] [(.int (1 : Int32)), (.ref a)])) rfl rfl (hb hby d9_128) tq (XS.aload X109.here hx rfl (hb hby d9_129) rfl rfl (XS.iconst X109.here hx rfl (hb hby d9_131) kq))) ?_
          obtain ⟨cl172, Ar172, -, -, hin172, hat172⟩ := V109.at (j := (1 : Int32)) (v := (.int (1 : Int32))) (by decide) rfl
          refine own_go (S' := (T109.setTop (mkF m 173 #[.val (.ref a), .val (.ref b), .val (.int (4 : Int32)), .val (.int (Int32.ofNat kk)), .val (.ref b101), .val (.int (2 : Int32))] [(.int (1 : Int32))]))) (fun tq kq => X109.iaload hx (j := (1 : Int32)) (v := (.int (1 : Int32))) (by rw [e109]; exact Ar172.1) (State.isArrayOf_alike hZ.alike Ar172.2.1) Ar172.2.2 hin172 hat172 (g := (mkF m 132 #[.val (.ref a), .val (.ref b), .val (.int (4 : Int32)), .val (.int (Int32.ofNat kk)), .val (.ref b101), .val (.int (2 : Int32))] [(.int (1 : Int32)), (.ref b101), (.int (1 : Int32))])) rfl rfl (hb hby d9_132) tq (XS.icmpNo X109.here hx rfl (hb hby d9_133) rfl (teq (by decide : (1 : Int32) = (1 : Int32))).2 (XS.iload X109.here hx rfl (hb hby d9_136) rfl (XS.iconst X109.here hx rfl (hb hby d9_138) (XS.icmpYes X109.here hx rfl (pc0 := 139) (pc' := 152) rfl (hb hby d9_139) rfl (tlt (by decide : (2 : Int32) < (3 : Int32))).1 (by decide) (by decide) (XS.iload X109.here hx rfl (hb hby d9_152) rfl (XS.iconst X109.here hx rfl (hb hby d9_154) (XS.icmpYes X109.here hx rfl (pc0 := 155) (pc' := 168) rfl (hb hby d9_155) rfl (tlt (by decide : (2 : Int32) < (4 : Int32))).1 (by decide) (by decide) (XS.iconst X109.here hx rfl (hb hby d9_168) (XS.goto X109.here hx rfl (pc0 := 169) (pc' := 173) rfl (hb hby d9_169) (by decide) (by decide) kq)))))))))) ?_
          refine own_retN X109 hx hlk hret (by simp) (hb hby d9_173) (by decide) (by decide) ?_
          rw [e109]
          exact ⟨rfl, N109, K109⟩
    · refine own_go (S' := (T105.setTop (mkF m 56 #[.val (.ref a), .val (.ref b), .val (.int (4 : Int32)), .val (.int (Int32.ofNat kk)), .val (.ref b101), .val (.int (1 : Int32))] [(.int (2 : Int32)), (.ref b)]))) (fun tq kq => XS.icmpYes X105.here hx rfl (pc0 := 37) (pc' := 49) rfl (hb hby d9_37) rfl (feq hc108).2 (by decide) (by decide) (XS.iloadN X105.here hx rfl (hb hby d9_49) rfl (XS.iconst X105.here hx rfl (hb hby d9_50) (XS.icmpNo X105.here hx rfl (hb hby d9_51) rfl (tlt (by decide : (2 : Int32) < (4 : Int32))).2.2.2 (XS.aloadN X105.here hx rfl (hb hby d9_54) rfl rfl (XS.iconst X105.here hx rfl (hb hby d9_55) kq)))))) ?_
      obtain ⟨cl173, Ar173, -, -, hin173, hat173⟩ := f106.at (j := (2 : Int32)) (v := (.int (Int32.ofNat q2))) (by decide) rfl
      refine own_go (S' := (T105.setTop (mkF m 58 #[.val (.ref a), .val (.ref b), .val (.int (4 : Int32)), .val (.int (Int32.ofNat kk)), .val (.ref b101), .val (.int (1 : Int32))] [(.int (Int32.ofNat kk)), (.int (Int32.ofNat q2))]))) (fun tq kq => X105.iaload hx (j := (2 : Int32)) (v := (.int (Int32.ofNat q2))) (by rw [e105]; exact Ar173.1) (State.isArrayOf_alike hZ.alike Ar173.2.1) Ar173.2.2 hin173 hat173 (g := (mkF m 56 #[.val (.ref a), .val (.ref b), .val (.int (4 : Int32)), .val (.int (Int32.ofNat kk)), .val (.ref b101), .val (.int (1 : Int32))] [(.int (2 : Int32)), (.ref b)])) rfl rfl (hb hby d9_56) tq (XS.iloadN X105.here hx rfl (hb hby d9_57) rfl kq)) ?_
      by_cases hc174 : (Int32.ofNat q2) = (Int32.ofNat kk)
      · refine own_go (S' := (T105.setTop (mkF m 66 #[.val (.ref a), .val (.ref b), .val (.int (4 : Int32)), .val (.int (Int32.ofNat kk)), .val (.ref b101), .val (.int (1 : Int32))] [(.int (2 : Int32)), (.int (1 : Int32)), (.ref b101)]))) (fun tq kq => XS.icmpNo X105.here hx rfl (hb hby d9_58) rfl (teq hc174).2 (XS.aload X105.here hx rfl (hb hby d9_61) rfl rfl (XS.iload X105.here hx rfl (hb hby d9_63) rfl (XS.iconst X105.here hx rfl (hb hby d9_65) kq)))) ?_
        obtain ⟨cl175, Ar175, qa175, sa175, hin175, -⟩ := V105.at (j := (1 : Int32)) (by decide) rfl
        obtain ⟨T175, h175, X175, e175, W175, st175⟩ := stI X105 hx hZ e105 Ar175 (j := (1 : Int32)) hin175 (g := (mkF m 66 #[.val (.ref a), .val (.ref b), .val (.int (4 : Int32)), .val (.int (Int32.ofNat kk)), .val (.ref b101), .val (.int (1 : Int32))] [(.int (2 : Int32)), (.int (1 : Int32)), (.ref b101)])) rfl rfl (hb hby d9_66)
        have N175 := Fr.snoc X175 N105 ge_b101
        have O175 := O105.wr W175 ge_b101
        have K175 := K105.wr W175 (Or.inr gk_b101)
        have V175 : own_Ar Z h175 b101 k101 .int [(.int (0 : Int32)), (.int (2 : Int32)), (.int (0 : Int32)), (.int (0 : Int32))] := own_Ar.set Ar175 qa175 sa175 V105.small W175
        refine own_go (S' := (T175.setTop (mkF m 77 #[.val (.ref a), .val (.ref b), .val (.int (4 : Int32)), .val (.int (Int32.ofNat kk)), .val (.ref b101), .val (.int (2 : Int32))] [(.int (3 : Int32)), (.ref b)]))) (fun tq kq => st175 tq (XS.iinc X175.here hx rfl (hb hby d9_67) rfl (l' := #[.val (.ref a), .val (.ref b), .val (.int (4 : Int32)), .val (.int (Int32.ofNat kk)), .val (.ref b101), .val (.int (2 : Int32))]) rfl (XS.iloadN X175.here hx rfl (hb hby d9_70) rfl (XS.iconst X175.here hx rfl (hb hby d9_71) (XS.icmpNo X175.here hx rfl (hb hby d9_72) rfl (tlt (by decide : (3 : Int32) < (4 : Int32))).2.2.2 (XS.aloadN X175.here hx rfl (hb hby d9_75) rfl rfl (XS.iconst X175.here hx rfl (hb hby d9_76) kq))))))) ?_
        have f176 := (f106.other W175 ne_b_b101)
        obtain ⟨cl177, Ar177, -, -, hin177, hat177⟩ := f176.at (j := (3 : Int32)) (v := (.int (Int32.ofNat q3))) (by decide) rfl
        refine own_go (S' := (T175.setTop (mkF m 79 #[.val (.ref a), .val (.ref b), .val (.int (4 : Int32)), .val (.int (Int32.ofNat kk)), .val (.ref b101), .val (.int (2 : Int32))] [(.int (Int32.ofNat kk)), (.int (Int32.ofNat q3))]))) (fun tq kq => X175.iaload hx (j := (3 : Int32)) (v := (.int (Int32.ofNat q3))) (by rw [e175]; exact Ar177.1) (State.isArrayOf_alike hZ.alike Ar177.2.1) Ar177.2.2 hin177 hat177 (g := (mkF m 77 #[.val (.ref a), .val (.ref b), .val (.int (4 : Int32)), .val (.int (Int32.ofNat kk)), .val (.ref b101), .val (.int (2 : Int32))] [(.int (3 : Int32)), (.ref b)])) rfl rfl (hb hby d9_77) tq (XS.iloadN X175.here hx rfl (hb hby d9_78) rfl kq)) ?_
        by_cases hc178 : (Int32.ofNat q3) = (Int32.ofNat kk)
        · refine own_go (S' := (T175.setTop (mkF m 87 #[.val (.ref a), .val (.ref b), .val (.int (4 : Int32)), .val (.int (Int32.ofNat kk)), .val (.ref b101), .val (.int (2 : Int32))] [(.int (3 : Int32)), (.int (2 : Int32)), (.ref b101)]))) (fun tq kq => XS.icmpNo X175.here hx rfl (hb hby d9_79) rfl (teq hc178).2 (XS.aload X175.here hx rfl (hb hby d9_82) rfl rfl (XS.iload X175.here hx rfl (hb hby d9_84) rfl (XS.iconst X175.here hx rfl (hb hby d9_86) kq)))) ?_
          obtain ⟨cl179, Ar179, qa179, sa179, hin179, -⟩ := V175.at (j := (2 : Int32)) (by decide) rfl
          obtain ⟨T179, h179, X179, e179, W179, st179⟩ := stI X175 hx hZ e175 Ar179 (j := (2 : Int32)) hin179 (g := (mkF m 87 #[.val (.ref a), .val (.ref b), .val (.int (4 : Int32)), .val (.int (Int32.ofNat kk)), .val (.ref b101), .val (.int (2 : Int32))] [(.int (3 : Int32)), (.int (2 : Int32)), (.ref b101)])) rfl rfl (hb hby d9_87)
          have N179 := Fr.snoc X179 N175 ge_b101
          have O179 := O175.wr W179 ge_b101
          have K179 := K175.wr W179 (Or.inr gk_b101)
          have V179 : own_Ar Z h179 b101 k101 .int [(.int (0 : Int32)), (.int (2 : Int32)), (.int (3 : Int32)), (.int (0 : Int32))] := own_Ar.set Ar179 qa179 sa179 V175.small W179
          refine own_go (S' := (T179.setTop (mkF m 91 #[.val (.ref a), .val (.ref b), .val (.int (4 : Int32)), .val (.int (Int32.ofNat kk)), .val (.ref b101), .val (.int (3 : Int32))] []))) (fun tq kq => st179 tq (XS.iinc X179.here hx rfl (hb hby d9_88) rfl (l' := #[.val (.ref a), .val (.ref b), .val (.int (4 : Int32)), .val (.int (Int32.ofNat kk)), .val (.ref b101), .val (.int (3 : Int32))]) rfl kq)) ?_
          have hq181 : q0 = kk := (own_eqN (by omega) (by omega)).mp hc104
          have hq182 : ¬ (q1 = kk) := fun z => hc108 (congrArg Int32.ofNat z)
          have hq183 : q2 = kk := (own_eqN (by omega) (by omega)).mp hc174
          have hq184 : q3 = kk := (own_eqN (by omega) (by omega)).mp hc178
          have ex180 : own_ex [q0, q1, q2, q3] kk = [0, 2, 3] := by
            simp only [own_ex, List.length_cons, List.length_nil]
            simp [List.range_succ, List.filter_append, List.getD, hq181, hq182, hq183, hq184]
          rw [ex180] at Va
          refine own_go (S' := (T179.setTop (mkF m 96 #[.val (.ref a), .val (.ref b), .val (.int (4 : Int32)), .val (.int (Int32.ofNat kk)), .val (.ref b101), .val (.int (3 : Int32))] [(.ref a)]))) (fun tq kq => XS.aloadN X179.here hx rfl (hb hby d9_91) rfl rfl (XS.ifnullNo X179.here hx rfl (hb hby d9_92) rfl (XS.aloadN X179.here hx rfl (hb hby d9_95) rfl rfl kq))) ?_
          have f185 := ((((Va.ext E101).other W105 ne_a_b101).other W175 ne_a_b101).other W179 ne_a_b101)
          obtain ⟨cl186, Ar186, ln186⟩ := f185.len
          have lq186 : cl186.slots.size.toInt32 = (3 : Int32) := ln186.trans rfl
          refine own_go (S' := (T179.setTop (mkF m 112 #[.val (.ref a), .val (.ref b), .val (.int (4 : Int32)), .val (.int (Int32.ofNat kk)), .val (.ref b101), .val (.int (3 : Int32))] [(.int (0 : Int32)), (.ref a)]))) (fun tq kq => X179.arraylength hx (by rw [e179]; exact Ar186.1) (State.isArrayOf_alike hZ.alike Ar186.2.1) (g := (mkF m 96 #[.val (.ref a), .val (.ref b), .val (.int (4 : Int32)), .val (.int (Int32.ofNat kk)), .val (.ref b101), .val (.int (3 : Int32))] [(.ref a)])) rfl rfl (hb hby d9_96) tq (by rw [lq186]; exact (XS.iload X179.here hx rfl (hb hby d9_97) rfl (XS.icmpYes X179.here hx rfl (pc0 := 99) (pc' := 104) rfl (hb hby d9_99) rfl (teq (by decide : (3 : Int32) = (3 : Int32))).1 (by decide) (by decide) (XS.iload X179.here hx rfl (hb hby d9_104) rfl (XS.iconst X179.here hx rfl (hb hby d9_106) (XS.icmpNo X179.here hx rfl (hb hby d9_107) rfl (flt (by decide : ¬ ((3 : Int32) < (1 : Int32)))).1 (XS.aloadN X179.here hx rfl (hb hby d9_110) rfl rfl (XS.iconst X179.here hx rfl (hb hby d9_111) kq))))))))) ?_
          obtain ⟨cl187, Ar187, -, -, hin187, hat187⟩ := f185.at (j := (0 : Int32)) (v := (.int (0 : Int32))) (by decide) rfl
          refine own_go (S' := (T179.setTop (mkF m 116 #[.val (.ref a), .val (.ref b), .val (.int (4 : Int32)), .val (.int (Int32.ofNat kk)), .val (.ref b101), .val (.int (3 : Int32))] [(.int (0 : Int32)), (.ref b101), (.int (0 : Int32))]))) (fun tq kq => X179.iaload hx (j := (0 : Int32)) (v := (.int (0 : Int32))) (by rw [e179]; exact Ar187.1) (State.isArrayOf_alike hZ.alike Ar187.2.1) Ar187.2.2 hin187 hat187 (g := (mkF m 112 #[.val (.ref a), .val (.ref b), .val (.int (4 : Int32)), .val (.int (Int32.ofNat kk)), .val (.ref b101), .val (.int (3 : Int32))] [(.int (0 : Int32)), (.ref a)])) rfl rfl (hb hby d9_112) tq (XS.aload X179.here hx rfl (hb hby d9_113) rfl rfl (XS.iconst X179.here hx rfl (hb hby d9_115) kq))) ?_
          obtain ⟨cl188, Ar188, -, -, hin188, hat188⟩ := V179.at (j := (0 : Int32)) (v := (.int (0 : Int32))) (by decide) rfl
          refine own_go (S' := (T179.setTop (mkF m 128 #[.val (.ref a), .val (.ref b), .val (.int (4 : Int32)), .val (.int (Int32.ofNat kk)), .val (.ref b101), .val (.int (3 : Int32))] [(.int (1 : Int32)), (.ref a)]))) (fun tq kq => X179.iaload hx (j := (0 : Int32)) (v := (.int (0 : Int32))) (by rw [e179]; exact Ar188.1) (State.isArrayOf_alike hZ.alike Ar188.2.1) Ar188.2.2 hin188 hat188 (g := (mkF m 116 #[.val (.ref a), .val (.ref b), .val (.int (4 : Int32)), .val (.int (Int32.ofNat kk)), .val (.ref b101), .val (.int (3 : Int32))] [(.int (0 : Int32)), (.ref b101), (.int (0 : Int32))])) rfl rfl (hb hby d9_116) tq (XS.icmpNo X179.here hx rfl (hb hby d9_117) rfl (teq (by decide : (0 : Int32) = (0 : Int32))).2 (XS.iload X179.here hx rfl (hb hby d9_120) rfl (XS.iconst X179.here hx rfl (hb hby d9_122) (XS.icmpNo X179.here hx rfl (hb hby d9_123) rfl (flt (by decide : ¬ ((3 : Int32) < (2 : Int32)))).1 (XS.aloadN X179.here hx rfl (hb hby d9_126) rfl rfl (XS.iconst X179.here hx rfl (hb hby d9_127) kq))))))) ?_
          obtain ⟨cl189, Ar189, -, -, hin189, hat189⟩ := f185.at (j := (1 : Int32)) (v := (.int (2 : Int32))) (by decide) rfl
          refine own_go (S' := (T179.setTop (mkF m 132 #[.val (.ref a), .val (.ref b), .val (.int (4 : Int32)), .val (.int (Int32.ofNat kk)), .val (.ref b101), .val (.int (3 : Int32))] [(.int (1 : Int32)), (.ref b101), (.int (2 : Int32))]))) (fun tq kq => X179.iaload hx (j := (1 : Int32)) (v := (.int (2 : Int32))) (by rw [e179]; exact Ar189.1) (State.isArrayOf_alike hZ.alike Ar189.2.1) Ar189.2.2 hin189 hat189 (g := (mkF m 128 #[.val (.ref a), .val (.ref b), .val (.int (4 : Int32)), .val (.int (Int32.ofNat kk)), .val (.ref b101), .val (.int (3 : Int32))] [(.int (1 : Int32)), (.ref a)])) rfl rfl (hb hby d9_128) tq (XS.aload X179.here hx rfl (hb hby d9_129) rfl rfl (XS.iconst X179.here hx rfl (hb hby d9_131) kq))) ?_
          obtain ⟨cl190, Ar190, -, -, hin190, hat190⟩ := V179.at (j := (1 : Int32)) (v := (.int (2 : Int32))) (by decide) rfl
          refine own_go (S' := (T179.setTop (mkF m 144 #[.val (.ref a), .val (.ref b), .val (.int (4 : Int32)), .val (.int (Int32.ofNat kk)), .val (.ref b101), .val (.int (3 : Int32))] [(.int (2 : Int32)), (.ref a)]))) (fun tq kq => X179.iaload hx (j := (1 : Int32)) (v := (.int (2 : Int32))) (by rw [e179]; exact Ar190.1) (State.isArrayOf_alike hZ.alike Ar190.2.1) Ar190.2.2 hin190 hat190 (g := (mkF m 132 #[.val (.ref a), .val (.ref b), .val (.int (4 : Int32)), .val (.int (Int32.ofNat kk)), .val (.ref b101), .val (.int (3 : Int32))] [(.int (1 : Int32)), (.ref b101), (.int (2 : Int32))])) rfl rfl (hb hby d9_132) tq (XS.icmpNo X179.here hx rfl (hb hby d9_133) rfl (teq (by decide : (2 : Int32) = (2 : Int32))).2 (XS.iload X179.here hx rfl (hb hby d9_136) rfl (XS.iconst X179.here hx rfl (hb hby d9_138) (XS.icmpNo X179.here hx rfl (hb hby d9_139) rfl (flt (by decide : ¬ ((3 : Int32) < (3 : Int32)))).1 (XS.aloadN X179.here hx rfl (hb hby d9_142) rfl rfl (XS.iconst X179.here hx rfl (hb hby d9_143) kq))))))) ?_
          obtain ⟨cl191, Ar191, -, -, hin191, hat191⟩ := f185.at (j := (2 : Int32)) (v := (.int (3 : Int32))) (by decide) rfl
          refine own_go (S' := (T179.setTop (mkF m 148 #[.val (.ref a), .val (.ref b), .val (.int (4 : Int32)), .val (.int (Int32.ofNat kk)), .val (.ref b101), .val (.int (3 : Int32))] [(.int (2 : Int32)), (.ref b101), (.int (3 : Int32))]))) (fun tq kq => X179.iaload hx (j := (2 : Int32)) (v := (.int (3 : Int32))) (by rw [e179]; exact Ar191.1) (State.isArrayOf_alike hZ.alike Ar191.2.1) Ar191.2.2 hin191 hat191 (g := (mkF m 144 #[.val (.ref a), .val (.ref b), .val (.int (4 : Int32)), .val (.int (Int32.ofNat kk)), .val (.ref b101), .val (.int (3 : Int32))] [(.int (2 : Int32)), (.ref a)])) rfl rfl (hb hby d9_144) tq (XS.aload X179.here hx rfl (hb hby d9_145) rfl rfl (XS.iconst X179.here hx rfl (hb hby d9_147) kq))) ?_
          obtain ⟨cl192, Ar192, -, -, hin192, hat192⟩ := V179.at (j := (2 : Int32)) (v := (.int (3 : Int32))) (by decide) rfl
          refine own_go (S' := (T179.setTop (mkF m 173 #[.val (.ref a), .val (.ref b), .val (.int (4 : Int32)), .val (.int (Int32.ofNat kk)), .val (.ref b101), .val (.int (3 : Int32))] [(.int (1 : Int32))]))) (fun tq kq => X179.iaload hx (j := (2 : Int32)) (v := (.int (3 : Int32))) (by rw [e179]; exact Ar192.1) (State.isArrayOf_alike hZ.alike Ar192.2.1) Ar192.2.2 hin192 hat192 (g := (mkF m 148 #[.val (.ref a), .val (.ref b), .val (.int (4 : Int32)), .val (.int (Int32.ofNat kk)), .val (.ref b101), .val (.int (3 : Int32))] [(.int (2 : Int32)), (.ref b101), (.int (3 : Int32))])) rfl rfl (hb hby d9_148) tq (XS.icmpNo X179.here hx rfl (hb hby d9_149) rfl (teq (by decide : (3 : Int32) = (3 : Int32))).2 (XS.iload X179.here hx rfl (hb hby d9_152) rfl (XS.iconst X179.here hx rfl (hb hby d9_154) (XS.icmpYes X179.here hx rfl (pc0 := 155) (pc' := 168) rfl (hb hby d9_155) rfl (tlt (by decide : (3 : Int32) < (4 : Int32))).1 (by decide) (by decide) (XS.iconst X179.here hx rfl (hb hby d9_168) (XS.goto X179.here hx rfl (pc0 := 169) (pc' := 173) rfl (hb hby d9_169) (by decide) (by decide) kq))))))) ?_
          refine own_retN X179 hx hlk hret (by simp) (hb hby d9_173) (by decide) (by decide) ?_
          rw [e179]
          exact ⟨rfl, N179, K179⟩
        · refine own_go (S' := (T175.setTop (mkF m 91 #[.val (.ref a), .val (.ref b), .val (.int (4 : Int32)), .val (.int (Int32.ofNat kk)), .val (.ref b101), .val (.int (2 : Int32))] []))) (fun tq kq => XS.icmpYes X175.here hx rfl (pc0 := 79) (pc' := 91) rfl (hb hby d9_79) rfl (feq hc178).2 (by decide) (by decide) kq) ?_
          have hq194 : q0 = kk := (own_eqN (by omega) (by omega)).mp hc104
          have hq195 : ¬ (q1 = kk) := fun z => hc108 (congrArg Int32.ofNat z)
          have hq196 : q2 = kk := (own_eqN (by omega) (by omega)).mp hc174
          have hq197 : ¬ (q3 = kk) := fun z => hc178 (congrArg Int32.ofNat z)
          have ex193 : own_ex [q0, q1, q2, q3] kk = [0, 2] := by
            simp only [own_ex, List.length_cons, List.length_nil]
            simp [List.range_succ, List.filter_append, List.getD, hq194, hq195, hq196, hq197]
          rw [ex193] at Va
          refine own_go (S' := (T175.setTop (mkF m 96 #[.val (.ref a), .val (.ref b), .val (.int (4 : Int32)), .val (.int (Int32.ofNat kk)), .val (.ref b101), .val (.int (2 : Int32))] [(.ref a)]))) (fun tq kq => XS.aloadN X175.here hx rfl (hb hby d9_91) rfl rfl (XS.ifnullNo X175.here hx rfl (hb hby d9_92) rfl (XS.aloadN X175.here hx rfl (hb hby d9_95) rfl rfl kq))) ?_
          have f198 := (((Va.ext E101).other W105 ne_a_b101).other W175 ne_a_b101)
          obtain ⟨cl199, Ar199, ln199⟩ := f198.len
          have lq199 : cl199.slots.size.toInt32 = (2 : Int32) := ln199.trans rfl
          refine own_go (S' := (T175.setTop (mkF m 112 #[.val (.ref a), .val (.ref b), .val (.int (4 : Int32)), .val (.int (Int32.ofNat kk)), .val (.ref b101), .val (.int (2 : Int32))] [(.int (0 : Int32)), (.ref a)]))) (fun tq kq => X175.arraylength hx (by rw [e175]; exact Ar199.1) (State.isArrayOf_alike hZ.alike Ar199.2.1) (g := (mkF m 96 #[.val (.ref a), .val (.ref b), .val (.int (4 : Int32)), .val (.int (Int32.ofNat kk)), .val (.ref b101), .val (.int (2 : Int32))] [(.ref a)])) rfl rfl (hb hby d9_96) tq (by rw [lq199]; exact (XS.iload X175.here hx rfl (hb hby d9_97) rfl (XS.icmpYes X175.here hx rfl (pc0 := 99) (pc' := 104) rfl (hb hby d9_99) rfl (teq (by decide : (2 : Int32) = (2 : Int32))).1 (by decide) (by decide) (XS.iload X175.here hx rfl (hb hby d9_104) rfl (XS.iconst X175.here hx rfl (hb hby d9_106) (XS.icmpNo X175.here hx rfl (hb hby d9_107) rfl (flt (by decide : ¬ ((2 : Int32) < (1 : Int32)))).1 (XS.aloadN X175.here hx rfl (hb hby d9_110) rfl rfl (XS.iconst X175.here hx rfl (hb hby d9_111) kq))))))))) ?_
          obtain ⟨cl200, Ar200, -, -, hin200, hat200⟩ := f198.at (j := (0 : Int32)) (v := (.int (0 : Int32))) (by decide) rfl
          refine own_go (S' := (T175.setTop (mkF m 116 #[.val (.ref a), .val (.ref b), .val (.int (4 : Int32)), .val (.int (Int32.ofNat kk)), .val (.ref b101), .val (.int (2 : Int32))] [(.int (0 : Int32)), (.ref b101), (.int (0 : Int32))]))) (fun tq kq => X175.iaload hx (j := (0 : Int32)) (v := (.int (0 : Int32))) (by rw [e175]; exact Ar200.1) (State.isArrayOf_alike hZ.alike Ar200.2.1) Ar200.2.2 hin200 hat200 (g := (mkF m 112 #[.val (.ref a), .val (.ref b), .val (.int (4 : Int32)), .val (.int (Int32.ofNat kk)), .val (.ref b101), .val (.int (2 : Int32))] [(.int (0 : Int32)), (.ref a)])) rfl rfl (hb hby d9_112) tq (XS.aload X175.here hx rfl (hb hby d9_113) rfl rfl (XS.iconst X175.here hx rfl (hb hby d9_115) kq))) ?_
          obtain ⟨cl201, Ar201, -, -, hin201, hat201⟩ := V175.at (j := (0 : Int32)) (v := (.int (0 : Int32))) (by decide) rfl
          refine own_go (S' := (T175.setTop (mkF m 128 #[.val (.ref a), .val (.ref b), .val (.int (4 : Int32)), .val (.int (Int32.ofNat kk)), .val (.ref b101), .val (.int (2 : Int32))] [(.int (1 : Int32)), (.ref a)]))) (fun tq kq => X175.iaload hx (j := (0 : Int32)) (v := (.int (0 : Int32))) (by rw [e175]; exact Ar201.1) (State.isArrayOf_alike hZ.alike Ar201.2.1) Ar201.2.2 hin201 hat201 (g := (mkF m 116 #[.val (.ref a), .val (.ref b), .val (.int (4 : Int32)), .val (.int (Int32.ofNat kk)), .val (.ref b101), .val (.int (2 : Int32))] [(.int (0 : Int32)), (.ref b101), (.int (0 : Int32))])) rfl rfl (hb hby d9_116) tq (XS.icmpNo X175.here hx rfl (hb hby d9_117) rfl (teq (by decide : (0 : Int32) = (0 : Int32))).2 (XS.iload X175.here hx rfl (hb hby d9_120) rfl (XS.iconst X175.here hx rfl (hb hby d9_122) (XS.icmpNo X175.here hx rfl (hb hby d9_123) rfl (flt (by decide : ¬ ((2 : Int32) < (2 : Int32)))).1 (XS.aloadN X175.here hx rfl (hb hby d9_126) rfl rfl (XS.iconst X175.here hx rfl (hb hby d9_127) kq))))))) ?_
          obtain ⟨cl202, Ar202, -, -, hin202, hat202⟩ := f198.at (j := (1 : Int32)) (v := (.int (2 : Int32))) (by decide) rfl
          refine own_go (S' := (T175.setTop (mkF m 132 #[.val (.ref a), .val (.ref b), .val (.int (4 : Int32)), .val (.int (Int32.ofNat kk)), .val (.ref b101), .val (.int (2 : Int32))] [(.int (1 : Int32)), (.ref b101), (.int (2 : Int32))]))) (fun tq kq => X175.iaload hx (j := (1 : Int32)) (v := (.int (2 : Int32))) (by rw [e175]; exact Ar202.1) (State.isArrayOf_alike hZ.alike Ar202.2.1) Ar202.2.2 hin202 hat202 (g := (mkF m 128 #[.val (.ref a), .val (.ref b), .val (.int (4 : Int32)), .val (.int (Int32.ofNat kk)), .val (.ref b101), .val (.int (2 : Int32))] [(.int (1 : Int32)), (.ref a)])) rfl rfl (hb hby d9_128) tq (XS.aload X175.here hx rfl (hb hby d9_129) rfl rfl (XS.iconst X175.here hx rfl (hb hby d9_131) kq))) ?_
          obtain ⟨cl203, Ar203, -, -, hin203, hat203⟩ := V175.at (j := (1 : Int32)) (v := (.int (2 : Int32))) (by decide) rfl
          refine own_go (S' := (T175.setTop (mkF m 173 #[.val (.ref a), .val (.ref b), .val (.int (4 : Int32)), .val (.int (Int32.ofNat kk)), .val (.ref b101), .val (.int (2 : Int32))] [(.int (1 : Int32))]))) (fun tq kq => X175.iaload hx (j := (1 : Int32)) (v := (.int (2 : Int32))) (by rw [e175]; exact Ar203.1) (State.isArrayOf_alike hZ.alike Ar203.2.1) Ar203.2.2 hin203 hat203 (g := (mkF m 132 #[.val (.ref a), .val (.ref b), .val (.int (4 : Int32)), .val (.int (Int32.ofNat kk)), .val (.ref b101), .val (.int (2 : Int32))] [(.int (1 : Int32)), (.ref b101), (.int (2 : Int32))])) rfl rfl (hb hby d9_132) tq (XS.icmpNo X175.here hx rfl (hb hby d9_133) rfl (teq (by decide : (2 : Int32) = (2 : Int32))).2 (XS.iload X175.here hx rfl (hb hby d9_136) rfl (XS.iconst X175.here hx rfl (hb hby d9_138) (XS.icmpYes X175.here hx rfl (pc0 := 139) (pc' := 152) rfl (hb hby d9_139) rfl (tlt (by decide : (2 : Int32) < (3 : Int32))).1 (by decide) (by decide) (XS.iload X175.here hx rfl (hb hby d9_152) rfl (XS.iconst X175.here hx rfl (hb hby d9_154) (XS.icmpYes X175.here hx rfl (pc0 := 155) (pc' := 168) rfl (hb hby d9_155) rfl (tlt (by decide : (2 : Int32) < (4 : Int32))).1 (by decide) (by decide) (XS.iconst X175.here hx rfl (hb hby d9_168) (XS.goto X175.here hx rfl (pc0 := 169) (pc' := 173) rfl (hb hby d9_169) (by decide) (by decide) kq)))))))))) ?_
          refine own_retN X175 hx hlk hret (by simp) (hb hby d9_173) (by decide) (by decide) ?_
          rw [e175]
          exact ⟨rfl, N175, K175⟩
      · refine own_go (S' := (T105.setTop (mkF m 77 #[.val (.ref a), .val (.ref b), .val (.int (4 : Int32)), .val (.int (Int32.ofNat kk)), .val (.ref b101), .val (.int (1 : Int32))] [(.int (3 : Int32)), (.ref b)]))) (fun tq kq => XS.icmpYes X105.here hx rfl (pc0 := 58) (pc' := 70) rfl (hb hby d9_58) rfl (feq hc174).2 (by decide) (by decide) (XS.iloadN X105.here hx rfl (hb hby d9_70) rfl (XS.iconst X105.here hx rfl (hb hby d9_71) (XS.icmpNo X105.here hx rfl (hb hby d9_72) rfl (tlt (by decide : (3 : Int32) < (4 : Int32))).2.2.2 (XS.aloadN X105.here hx rfl (hb hby d9_75) rfl rfl (XS.iconst X105.here hx rfl (hb hby d9_76) kq)))))) ?_
        obtain ⟨cl204, Ar204, -, -, hin204, hat204⟩ := f106.at (j := (3 : Int32)) (v := (.int (Int32.ofNat q3))) (by decide) rfl
        refine own_go (S' := (T105.setTop (mkF m 79 #[.val (.ref a), .val (.ref b), .val (.int (4 : Int32)), .val (.int (Int32.ofNat kk)), .val (.ref b101), .val (.int (1 : Int32))] [(.int (Int32.ofNat kk)), (.int (Int32.ofNat q3))]))) (fun tq kq => X105.iaload hx (j := (3 : Int32)) (v := (.int (Int32.ofNat q3))) (by rw [e105]; exact Ar204.1) (State.isArrayOf_alike hZ.alike Ar204.2.1) Ar204.2.2 hin204 hat204 (g := (mkF m 77 #[.val (.ref a), .val (.ref b), .val (.int (4 : Int32)), .val (.int (Int32.ofNat kk)), .val (.ref b101), .val (.int (1 : Int32))] [(.int (3 : Int32)), (.ref b)])) rfl rfl (hb hby d9_77) tq (XS.iloadN X105.here hx rfl (hb hby d9_78) rfl kq)) ?_
        by_cases hc205 : (Int32.ofNat q3) = (Int32.ofNat kk)
        · refine own_go (S' := (T105.setTop (mkF m 87 #[.val (.ref a), .val (.ref b), .val (.int (4 : Int32)), .val (.int (Int32.ofNat kk)), .val (.ref b101), .val (.int (1 : Int32))] [(.int (3 : Int32)), (.int (1 : Int32)), (.ref b101)]))) (fun tq kq => XS.icmpNo X105.here hx rfl (hb hby d9_79) rfl (teq hc205).2 (XS.aload X105.here hx rfl (hb hby d9_82) rfl rfl (XS.iload X105.here hx rfl (hb hby d9_84) rfl (XS.iconst X105.here hx rfl (hb hby d9_86) kq)))) ?_
          obtain ⟨cl206, Ar206, qa206, sa206, hin206, -⟩ := V105.at (j := (1 : Int32)) (by decide) rfl
          obtain ⟨T206, h206, X206, e206, W206, st206⟩ := stI X105 hx hZ e105 Ar206 (j := (1 : Int32)) hin206 (g := (mkF m 87 #[.val (.ref a), .val (.ref b), .val (.int (4 : Int32)), .val (.int (Int32.ofNat kk)), .val (.ref b101), .val (.int (1 : Int32))] [(.int (3 : Int32)), (.int (1 : Int32)), (.ref b101)])) rfl rfl (hb hby d9_87)
          have N206 := Fr.snoc X206 N105 ge_b101
          have O206 := O105.wr W206 ge_b101
          have K206 := K105.wr W206 (Or.inr gk_b101)
          have V206 : own_Ar Z h206 b101 k101 .int [(.int (0 : Int32)), (.int (3 : Int32)), (.int (0 : Int32)), (.int (0 : Int32))] := own_Ar.set Ar206 qa206 sa206 V105.small W206
          refine own_go (S' := (T206.setTop (mkF m 91 #[.val (.ref a), .val (.ref b), .val (.int (4 : Int32)), .val (.int (Int32.ofNat kk)), .val (.ref b101), .val (.int (2 : Int32))] []))) (fun tq kq => st206 tq (XS.iinc X206.here hx rfl (hb hby d9_88) rfl (l' := #[.val (.ref a), .val (.ref b), .val (.int (4 : Int32)), .val (.int (Int32.ofNat kk)), .val (.ref b101), .val (.int (2 : Int32))]) rfl kq)) ?_
          have hq208 : q0 = kk := (own_eqN (by omega) (by omega)).mp hc104
          have hq209 : ¬ (q1 = kk) := fun z => hc108 (congrArg Int32.ofNat z)
          have hq210 : ¬ (q2 = kk) := fun z => hc174 (congrArg Int32.ofNat z)
          have hq211 : q3 = kk := (own_eqN (by omega) (by omega)).mp hc205
          have ex207 : own_ex [q0, q1, q2, q3] kk = [0, 3] := by
            simp only [own_ex, List.length_cons, List.length_nil]
            simp [List.range_succ, List.filter_append, List.getD, hq208, hq209, hq210, hq211]
          rw [ex207] at Va
          refine own_go (S' := (T206.setTop (mkF m 96 #[.val (.ref a), .val (.ref b), .val (.int (4 : Int32)), .val (.int (Int32.ofNat kk)), .val (.ref b101), .val (.int (2 : Int32))] [(.ref a)]))) (fun tq kq => XS.aloadN X206.here hx rfl (hb hby d9_91) rfl rfl (XS.ifnullNo X206.here hx rfl (hb hby d9_92) rfl (XS.aloadN X206.here hx rfl (hb hby d9_95) rfl rfl kq))) ?_
          have f212 := (((Va.ext E101).other W105 ne_a_b101).other W206 ne_a_b101)
          obtain ⟨cl213, Ar213, ln213⟩ := f212.len
          have lq213 : cl213.slots.size.toInt32 = (2 : Int32) := ln213.trans rfl
          refine own_go (S' := (T206.setTop (mkF m 112 #[.val (.ref a), .val (.ref b), .val (.int (4 : Int32)), .val (.int (Int32.ofNat kk)), .val (.ref b101), .val (.int (2 : Int32))] [(.int (0 : Int32)), (.ref a)]))) (fun tq kq => X206.arraylength hx (by rw [e206]; exact Ar213.1) (State.isArrayOf_alike hZ.alike Ar213.2.1) (g := (mkF m 96 #[.val (.ref a), .val (.ref b), .val (.int (4 : Int32)), .val (.int (Int32.ofNat kk)), .val (.ref b101), .val (.int (2 : Int32))] [(.ref a)])) rfl rfl (hb hby d9_96) tq (by rw [lq213]; exact (XS.iload X206.here hx rfl (hb hby d9_97) rfl (XS.icmpYes X206.here hx rfl (pc0 := 99) (pc' := 104) rfl (hb hby d9_99) rfl (teq (by decide : (2 : Int32) = (2 : Int32))).1 (by decide) (by decide) (XS.iload X206.here hx rfl (hb hby d9_104) rfl (XS.iconst X206.here hx rfl (hb hby d9_106) (XS.icmpNo X206.here hx rfl (hb hby d9_107) rfl (flt (by decide : ¬ ((2 : Int32) < (1 : Int32)))).1 (XS.aloadN X206.here hx rfl (hb hby d9_110) rfl rfl (XS.iconst X206.here hx rfl (hb hby d9_111) kq))))))))) ?_
          obtain ⟨cl214, Ar214, -, -, hin214, hat214⟩ := f212.at (j := (0 : Int32)) (v := (.int (0 : Int32))) (by decide) rfl
          refine own_go (S' := (T206.setTop (mkF m 116 #[.val (.ref a), .val (.ref b), .val (.int (4 : Int32)), .val (.int (Int32.ofNat kk)), .val (.ref b101), .val (.int (2 : Int32))] [(.int (0 : Int32)), (.ref b101), (.int (0 : Int32))]))) (fun tq kq => X206.iaload hx (j := (0 : Int32)) (v := (.int (0 : Int32))) (by rw [e206]; exact Ar214.1) (State.isArrayOf_alike hZ.alike Ar214.2.1) Ar214.2.2 hin214 hat214 (g := (mkF m 112 #[.val (.ref a), .val (.ref b), .val (.int (4 : Int32)), .val (.int (Int32.ofNat kk)), .val (.ref b101), .val (.int (2 : Int32))] [(.int (0 : Int32)), (.ref a)])) rfl rfl (hb hby d9_112) tq (XS.aload X206.here hx rfl (hb hby d9_113) rfl rfl (XS.iconst X206.here hx rfl (hb hby d9_115) kq))) ?_
          obtain ⟨cl215, Ar215, -, -, hin215, hat215⟩ := V206.at (j := (0 : Int32)) (v := (.int (0 : Int32))) (by decide) rfl
          refine own_go (S' := (T206.setTop (mkF m 128 #[.val (.ref a), .val (.ref b), .val (.int (4 : Int32)), .val (.int (Int32.ofNat kk)), .val (.ref b101), .val (.int (2 : Int32))] [(.int (1 : Int32)), (.ref a)]))) (fun tq kq => X206.iaload hx (j := (0 : Int32)) (v := (.int (0 : Int32))) (by rw [e206]; exact Ar215.1) (State.isArrayOf_alike hZ.alike Ar215.2.1) Ar215.2.2 hin215 hat215 (g := (mkF m 116 #[.val (.ref a), .val (.ref b), .val (.int (4 : Int32)), .val (.int (Int32.ofNat kk)), .val (.ref b101), .val (.int (2 : Int32))] [(.int (0 : Int32)), (.ref b101), (.int (0 : Int32))])) rfl rfl (hb hby d9_116) tq (XS.icmpNo X206.here hx rfl (hb hby d9_117) rfl (teq (by decide : (0 : Int32) = (0 : Int32))).2 (XS.iload X206.here hx rfl (hb hby d9_120) rfl (XS.iconst X206.here hx rfl (hb hby d9_122) (XS.icmpNo X206.here hx rfl (hb hby d9_123) rfl (flt (by decide : ¬ ((2 : Int32) < (2 : Int32)))).1 (XS.aloadN X206.here hx rfl (hb hby d9_126) rfl rfl (XS.iconst X206.here hx rfl (hb hby d9_127) kq))))))) ?_
          obtain ⟨cl216, Ar216, -, -, hin216, hat216⟩ := f212.at (j := (1 : Int32)) (v := (.int (3 : Int32))) (by decide) rfl
          refine own_go (S' := (T206.setTop (mkF m 132 #[.val (.ref a), .val (.ref b), .val (.int (4 : Int32)), .val (.int (Int32.ofNat kk)), .val (.ref b101), .val (.int (2 : Int32))] [(.int (1 : Int32)), (.ref b101), (.int (3 : Int32))]))) (fun tq kq => X206.iaload hx (j := (1 : Int32)) (v := (.int (3 : Int32))) (by rw [e206]; exact Ar216.1) (State.isArrayOf_alike hZ.alike Ar216.2.1) Ar216.2.2 hin216 hat216 (g := (mkF m 128 #[.val (.ref a), .val (.ref b), .val (.int (4 : Int32)), .val (.int (Int32.ofNat kk)), .val (.ref b101), .val (.int (2 : Int32))] [(.int (1 : Int32)), (.ref a)])) rfl rfl (hb hby d9_128) tq (XS.aload X206.here hx rfl (hb hby d9_129) rfl rfl (XS.iconst X206.here hx rfl (hb hby d9_131) kq))) ?_
          obtain ⟨cl217, Ar217, -, -, hin217, hat217⟩ := V206.at (j := (1 : Int32)) (v := (.int (3 : Int32))) (by decide) rfl
          refine own_go (S' := (T206.setTop (mkF m 173 #[.val (.ref a), .val (.ref b), .val (.int (4 : Int32)), .val (.int (Int32.ofNat kk)), .val (.ref b101), .val (.int (2 : Int32))] [(.int (1 : Int32))]))) (fun tq kq => X206.iaload hx (j := (1 : Int32)) (v := (.int (3 : Int32))) (by rw [e206]; exact Ar217.1) (State.isArrayOf_alike hZ.alike Ar217.2.1) Ar217.2.2 hin217 hat217 (g := (mkF m 132 #[.val (.ref a), .val (.ref b), .val (.int (4 : Int32)), .val (.int (Int32.ofNat kk)), .val (.ref b101), .val (.int (2 : Int32))] [(.int (1 : Int32)), (.ref b101), (.int (3 : Int32))])) rfl rfl (hb hby d9_132) tq (XS.icmpNo X206.here hx rfl (hb hby d9_133) rfl (teq (by decide : (3 : Int32) = (3 : Int32))).2 (XS.iload X206.here hx rfl (hb hby d9_136) rfl (XS.iconst X206.here hx rfl (hb hby d9_138) (XS.icmpYes X206.here hx rfl (pc0 := 139) (pc' := 152) rfl (hb hby d9_139) rfl (tlt (by decide : (2 : Int32) < (3 : Int32))).1 (by decide) (by decide) (XS.iload X206.here hx rfl (hb hby d9_152) rfl (XS.iconst X206.here hx rfl (hb hby d9_154) (XS.icmpYes X206.here hx rfl (pc0 := 155) (pc' := 168) rfl (hb hby d9_155) rfl (tlt (by decide : (2 : Int32) < (4 : Int32))).1 (by decide) (by decide) (XS.iconst X206.here hx rfl (hb hby d9_168) (XS.goto X206.here hx rfl (pc0 := 169) (pc' := 173) rfl (hb hby d9_169) (by decide) (by decide) kq)))))))))) ?_
          refine own_retN X206 hx hlk hret (by simp) (hb hby d9_173) (by decide) (by decide) ?_
          rw [e206]
          exact ⟨rfl, N206, K206⟩
        · refine own_go (S' := (T105.setTop (mkF m 91 #[.val (.ref a), .val (.ref b), .val (.int (4 : Int32)), .val (.int (Int32.ofNat kk)), .val (.ref b101), .val (.int (1 : Int32))] []))) (fun tq kq => XS.icmpYes X105.here hx rfl (pc0 := 79) (pc' := 91) rfl (hb hby d9_79) rfl (feq hc205).2 (by decide) (by decide) kq) ?_
          have hq219 : q0 = kk := (own_eqN (by omega) (by omega)).mp hc104
          have hq220 : ¬ (q1 = kk) := fun z => hc108 (congrArg Int32.ofNat z)
          have hq221 : ¬ (q2 = kk) := fun z => hc174 (congrArg Int32.ofNat z)
          have hq222 : ¬ (q3 = kk) := fun z => hc205 (congrArg Int32.ofNat z)
          have ex218 : own_ex [q0, q1, q2, q3] kk = [0] := by
            simp only [own_ex, List.length_cons, List.length_nil]
            simp [List.range_succ, List.filter_append, List.getD, hq219, hq220, hq221, hq222]
          rw [ex218] at Va
          refine own_go (S' := (T105.setTop (mkF m 96 #[.val (.ref a), .val (.ref b), .val (.int (4 : Int32)), .val (.int (Int32.ofNat kk)), .val (.ref b101), .val (.int (1 : Int32))] [(.ref a)]))) (fun tq kq => XS.aloadN X105.here hx rfl (hb hby d9_91) rfl rfl (XS.ifnullNo X105.here hx rfl (hb hby d9_92) rfl (XS.aloadN X105.here hx rfl (hb hby d9_95) rfl rfl kq))) ?_
          have f223 := ((Va.ext E101).other W105 ne_a_b101)
          obtain ⟨cl224, Ar224, ln224⟩ := f223.len
          have lq224 : cl224.slots.size.toInt32 = (1 : Int32) := ln224.trans rfl
          refine own_go (S' := (T105.setTop (mkF m 112 #[.val (.ref a), .val (.ref b), .val (.int (4 : Int32)), .val (.int (Int32.ofNat kk)), .val (.ref b101), .val (.int (1 : Int32))] [(.int (0 : Int32)), (.ref a)]))) (fun tq kq => X105.arraylength hx (by rw [e105]; exact Ar224.1) (State.isArrayOf_alike hZ.alike Ar224.2.1) (g := (mkF m 96 #[.val (.ref a), .val (.ref b), .val (.int (4 : Int32)), .val (.int (Int32.ofNat kk)), .val (.ref b101), .val (.int (1 : Int32))] [(.ref a)])) rfl rfl (hb hby d9_96) tq (by rw [lq224]; exact (XS.iload X105.here hx rfl (hb hby d9_97) rfl (XS.icmpYes X105.here hx rfl (pc0 := 99) (pc' := 104) rfl (hb hby d9_99) rfl (teq (by decide : (1 : Int32) = (1 : Int32))).1 (by decide) (by decide) (XS.iload X105.here hx rfl (hb hby d9_104) rfl (XS.iconst X105.here hx rfl (hb hby d9_106) (XS.icmpNo X105.here hx rfl (hb hby d9_107) rfl (flt (by decide : ¬ ((1 : Int32) < (1 : Int32)))).1 (XS.aloadN X105.here hx rfl (hb hby d9_110) rfl rfl (XS.iconst X105.here hx rfl (hb hby d9_111) kq))))))))) ?_
          obtain ⟨cl225, Ar225, -, -, hin225, hat225⟩ := f223.at (j := (0 : Int32)) (v := (.int (0 : Int32))) (by decide) rfl
          refine own_go (S' := (T105.setTop (mkF m 116 #[.val (.ref a), .val (.ref b), .val (.int (4 : Int32)), .val (.int (Int32.ofNat kk)), .val (.ref b101), .val (.int (1 : Int32))] [(.int (0 : Int32)), (.ref b101), (.int (0 : Int32))]))) (fun tq kq => X105.iaload hx (j := (0 : Int32)) (v := (.int (0 : Int32))) (by rw [e105]; exact Ar225.1) (State.isArrayOf_alike hZ.alike Ar225.2.1) Ar225.2.2 hin225 hat225 (g := (mkF m 112 #[.val (.ref a), .val (.ref b), .val (.int (4 : Int32)), .val (.int (Int32.ofNat kk)), .val (.ref b101), .val (.int (1 : Int32))] [(.int (0 : Int32)), (.ref a)])) rfl rfl (hb hby d9_112) tq (XS.aload X105.here hx rfl (hb hby d9_113) rfl rfl (XS.iconst X105.here hx rfl (hb hby d9_115) kq))) ?_
          obtain ⟨cl226, Ar226, -, -, hin226, hat226⟩ := V105.at (j := (0 : Int32)) (v := (.int (0 : Int32))) (by decide) rfl
          refine own_go (S' := (T105.setTop (mkF m 155 #[.val (.ref a), .val (.ref b), .val (.int (4 : Int32)), .val (.int (Int32.ofNat kk)), .val (.ref b101), .val (.int (1 : Int32))] [(.int (4 : Int32)), (.int (1 : Int32))]))) (fun tq kq => X105.iaload hx (j := (0 : Int32)) (v := (.int (0 : Int32))) (by rw [e105]; exact Ar226.1) (State.isArrayOf_alike hZ.alike Ar226.2.1) Ar226.2.2 hin226 hat226 (g := (mkF m 116 #[.val (.ref a), .val (.ref b), .val (.int (4 : Int32)), .val (.int (Int32.ofNat kk)), .val (.ref b101), .val (.int (1 : Int32))] [(.int (0 : Int32)), (.ref b101), (.int (0 : Int32))])) rfl rfl (hb hby d9_116) tq (XS.icmpNo X105.here hx rfl (hb hby d9_117) rfl (teq (by decide : (0 : Int32) = (0 : Int32))).2 (XS.iload X105.here hx rfl (hb hby d9_120) rfl (XS.iconst X105.here hx rfl (hb hby d9_122) (XS.icmpYes X105.here hx rfl (pc0 := 123) (pc' := 136) rfl (hb hby d9_123) rfl (tlt (by decide : (1 : Int32) < (2 : Int32))).1 (by decide) (by decide) (XS.iload X105.here hx rfl (hb hby d9_136) rfl (XS.iconst X105.here hx rfl (hb hby d9_138) (XS.icmpYes X105.here hx rfl (pc0 := 139) (pc' := 152) rfl (hb hby d9_139) rfl (tlt (by decide : (1 : Int32) < (3 : Int32))).1 (by decide) (by decide) (XS.iload X105.here hx rfl (hb hby d9_152) rfl (XS.iconst X105.here hx rfl (hb hby d9_154) kq)))))))))) ?_
          refine own_go (S' := (T105.setTop (mkF m 173 #[.val (.ref a), .val (.ref b), .val (.int (4 : Int32)), .val (.int (Int32.ofNat kk)), .val (.ref b101), .val (.int (1 : Int32))] [(.int (1 : Int32))]))) (fun tq kq => XS.icmpYes X105.here hx rfl (pc0 := 155) (pc' := 168) rfl (hb hby d9_155) rfl (tlt (by decide : (1 : Int32) < (4 : Int32))).1 (by decide) (by decide) (XS.iconst X105.here hx rfl (hb hby d9_168) (XS.goto X105.here hx rfl (pc0 := 169) (pc' := 173) rfl (hb hby d9_169) (by decide) (by decide) kq))) ?_
          refine own_retN X105 hx hlk hret (by simp) (hb hby d9_173) (by decide) (by decide) ?_
          rw [e105]
          exact ⟨rfl, N105, K105⟩
  · refine own_go (S' := (T101.setTop (mkF m 35 #[.val (.ref a), .val (.ref b), .val (.int (4 : Int32)), .val (.int (Int32.ofNat kk)), .val (.ref b101), .val (.int (0 : Int32))] [(.int (1 : Int32)), (.ref b)]))) (fun tq kq => XS.icmpYes X101.here hx rfl (pc0 := 16) (pc' := 28) rfl (hb hby d9_16) rfl (feq hc104).2 (by decide) (by decide) (XS.iloadN X101.here hx rfl (hb hby d9_28) rfl (XS.iconst X101.here hx rfl (hb hby d9_29) (XS.icmpNo X101.here hx rfl (hb hby d9_30) rfl (tlt (by decide : (1 : Int32) < (4 : Int32))).2.2.2 (XS.aloadN X101.here hx rfl (hb hby d9_33) rfl rfl (XS.iconst X101.here hx rfl (hb hby d9_34) kq)))))) ?_
    obtain ⟨cl227, Ar227, -, -, hin227, hat227⟩ := f102.at (j := (1 : Int32)) (v := (.int (Int32.ofNat q1))) (by decide) rfl
    refine own_go (S' := (T101.setTop (mkF m 37 #[.val (.ref a), .val (.ref b), .val (.int (4 : Int32)), .val (.int (Int32.ofNat kk)), .val (.ref b101), .val (.int (0 : Int32))] [(.int (Int32.ofNat kk)), (.int (Int32.ofNat q1))]))) (fun tq kq => X101.iaload hx (j := (1 : Int32)) (v := (.int (Int32.ofNat q1))) (by rw [e101]; exact Ar227.1) (State.isArrayOf_alike hZ.alike Ar227.2.1) Ar227.2.2 hin227 hat227 (g := (mkF m 35 #[.val (.ref a), .val (.ref b), .val (.int (4 : Int32)), .val (.int (Int32.ofNat kk)), .val (.ref b101), .val (.int (0 : Int32))] [(.int (1 : Int32)), (.ref b)])) rfl rfl (hb hby d9_35) tq (XS.iloadN X101.here hx rfl (hb hby d9_36) rfl kq)) ?_
    by_cases hc228 : (Int32.ofNat q1) = (Int32.ofNat kk)
    · refine own_go (S' := (T101.setTop (mkF m 45 #[.val (.ref a), .val (.ref b), .val (.int (4 : Int32)), .val (.int (Int32.ofNat kk)), .val (.ref b101), .val (.int (0 : Int32))] [(.int (1 : Int32)), (.int (0 : Int32)), (.ref b101)]))) (fun tq kq => XS.icmpNo X101.here hx rfl (hb hby d9_37) rfl (teq hc228).2 (XS.aload X101.here hx rfl (hb hby d9_40) rfl rfl (XS.iload X101.here hx rfl (hb hby d9_42) rfl (XS.iconst X101.here hx rfl (hb hby d9_44) kq)))) ?_
      obtain ⟨cl229, Ar229, qa229, sa229, hin229, -⟩ := V101.at (j := (0 : Int32)) (by decide) rfl
      obtain ⟨T229, h229, X229, e229, W229, st229⟩ := stI X101 hx hZ e101 Ar229 (j := (0 : Int32)) hin229 (g := (mkF m 45 #[.val (.ref a), .val (.ref b), .val (.int (4 : Int32)), .val (.int (Int32.ofNat kk)), .val (.ref b101), .val (.int (0 : Int32))] [(.int (1 : Int32)), (.int (0 : Int32)), (.ref b101)])) rfl rfl (hb hby d9_45)
      have N229 := Fr.snoc X229 N0 ge_b101
      have O229 := O101.wr W229 ge_b101
      have K229 := K101.wr W229 (Or.inr gk_b101)
      have V229 : own_Ar Z h229 b101 k101 .int [(.int (1 : Int32)), (.int (0 : Int32)), (.int (0 : Int32)), (.int (0 : Int32))] := own_Ar.set Ar229 qa229 sa229 V101.small W229
      refine own_go (S' := (T229.setTop (mkF m 56 #[.val (.ref a), .val (.ref b), .val (.int (4 : Int32)), .val (.int (Int32.ofNat kk)), .val (.ref b101), .val (.int (1 : Int32))] [(.int (2 : Int32)), (.ref b)]))) (fun tq kq => st229 tq (XS.iinc X229.here hx rfl (hb hby d9_46) rfl (l' := #[.val (.ref a), .val (.ref b), .val (.int (4 : Int32)), .val (.int (Int32.ofNat kk)), .val (.ref b101), .val (.int (1 : Int32))]) rfl (XS.iloadN X229.here hx rfl (hb hby d9_49) rfl (XS.iconst X229.here hx rfl (hb hby d9_50) (XS.icmpNo X229.here hx rfl (hb hby d9_51) rfl (tlt (by decide : (2 : Int32) < (4 : Int32))).2.2.2 (XS.aloadN X229.here hx rfl (hb hby d9_54) rfl rfl (XS.iconst X229.here hx rfl (hb hby d9_55) kq))))))) ?_
      have f230 := (f102.other W229 ne_b_b101)
      obtain ⟨cl231, Ar231, -, -, hin231, hat231⟩ := f230.at (j := (2 : Int32)) (v := (.int (Int32.ofNat q2))) (by decide) rfl
      refine own_go (S' := (T229.setTop (mkF m 58 #[.val (.ref a), .val (.ref b), .val (.int (4 : Int32)), .val (.int (Int32.ofNat kk)), .val (.ref b101), .val (.int (1 : Int32))] [(.int (Int32.ofNat kk)), (.int (Int32.ofNat q2))]))) (fun tq kq => X229.iaload hx (j := (2 : Int32)) (v := (.int (Int32.ofNat q2))) (by rw [e229]; exact Ar231.1) (State.isArrayOf_alike hZ.alike Ar231.2.1) Ar231.2.2 hin231 hat231 (g := (mkF m 56 #[.val (.ref a), .val (.ref b), .val (.int (4 : Int32)), .val (.int (Int32.ofNat kk)), .val (.ref b101), .val (.int (1 : Int32))] [(.int (2 : Int32)), (.ref b)])) rfl rfl (hb hby d9_56) tq (XS.iloadN X229.here hx rfl (hb hby d9_57) rfl kq)) ?_
      by_cases hc232 : (Int32.ofNat q2) = (Int32.ofNat kk)
      · refine own_go (S' := (T229.setTop (mkF m 66 #[.val (.ref a), .val (.ref b), .val (.int (4 : Int32)), .val (.int (Int32.ofNat kk)), .val (.ref b101), .val (.int (1 : Int32))] [(.int (2 : Int32)), (.int (1 : Int32)), (.ref b101)]))) (fun tq kq => XS.icmpNo X229.here hx rfl (hb hby d9_58) rfl (teq hc232).2 (XS.aload X229.here hx rfl (hb hby d9_61) rfl rfl (XS.iload X229.here hx rfl (hb hby d9_63) rfl (XS.iconst X229.here hx rfl (hb hby d9_65) kq)))) ?_
        obtain ⟨cl233, Ar233, qa233, sa233, hin233, -⟩ := V229.at (j := (1 : Int32)) (by decide) rfl
        obtain ⟨T233, h233, X233, e233, W233, st233⟩ := stI X229 hx hZ e229 Ar233 (j := (1 : Int32)) hin233 (g := (mkF m 66 #[.val (.ref a), .val (.ref b), .val (.int (4 : Int32)), .val (.int (Int32.ofNat kk)), .val (.ref b101), .val (.int (1 : Int32))] [(.int (2 : Int32)), (.int (1 : Int32)), (.ref b101)])) rfl rfl (hb hby d9_66)
        have N233 := Fr.snoc X233 N229 ge_b101
        have O233 := O229.wr W233 ge_b101
        have K233 := K229.wr W233 (Or.inr gk_b101)
        have V233 : own_Ar Z h233 b101 k101 .int [(.int (1 : Int32)), (.int (2 : Int32)), (.int (0 : Int32)), (.int (0 : Int32))] := own_Ar.set Ar233 qa233 sa233 V229.small W233
        refine own_go (S' := (T233.setTop (mkF m 77 #[.val (.ref a), .val (.ref b), .val (.int (4 : Int32)), .val (.int (Int32.ofNat kk)), .val (.ref b101), .val (.int (2 : Int32))] [(.int (3 : Int32)), (.ref b)]))) (fun tq kq => st233 tq (XS.iinc X233.here hx rfl (hb hby d9_67) rfl (l' := #[.val (.ref a), .val (.ref b), .val (.int (4 : Int32)), .val (.int (Int32.ofNat kk)), .val (.ref b101), .val (.int (2 : Int32))]) rfl (XS.iloadN X233.here hx rfl (hb hby d9_70) rfl (XS.iconst X233.here hx rfl (hb hby d9_71) (XS.icmpNo X233.here hx rfl (hb hby d9_72) rfl (tlt (by decide : (3 : Int32) < (4 : Int32))).2.2.2 (XS.aloadN X233.here hx rfl (hb hby d9_75) rfl rfl (XS.iconst X233.here hx rfl (hb hby d9_76) kq))))))) ?_
        have f234 := (f230.other W233 ne_b_b101)
        obtain ⟨cl235, Ar235, -, -, hin235, hat235⟩ := f234.at (j := (3 : Int32)) (v := (.int (Int32.ofNat q3))) (by decide) rfl
        refine own_go (S' := (T233.setTop (mkF m 79 #[.val (.ref a), .val (.ref b), .val (.int (4 : Int32)), .val (.int (Int32.ofNat kk)), .val (.ref b101), .val (.int (2 : Int32))] [(.int (Int32.ofNat kk)), (.int (Int32.ofNat q3))]))) (fun tq kq => X233.iaload hx (j := (3 : Int32)) (v := (.int (Int32.ofNat q3))) (by rw [e233]; exact Ar235.1) (State.isArrayOf_alike hZ.alike Ar235.2.1) Ar235.2.2 hin235 hat235 (g := (mkF m 77 #[.val (.ref a), .val (.ref b), .val (.int (4 : Int32)), .val (.int (Int32.ofNat kk)), .val (.ref b101), .val (.int (2 : Int32))] [(.int (3 : Int32)), (.ref b)])) rfl rfl (hb hby d9_77) tq (XS.iloadN X233.here hx rfl (hb hby d9_78) rfl kq)) ?_
        by_cases hc236 : (Int32.ofNat q3) = (Int32.ofNat kk)
        · refine own_go (S' := (T233.setTop (mkF m 87 #[.val (.ref a), .val (.ref b), .val (.int (4 : Int32)), .val (.int (Int32.ofNat kk)), .val (.ref b101), .val (.int (2 : Int32))] [(.int (3 : Int32)), (.int (2 : Int32)), (.ref b101)]))) (fun tq kq => XS.icmpNo X233.here hx rfl (hb hby d9_79) rfl (teq hc236).2 (XS.aload X233.here hx rfl (hb hby d9_82) rfl rfl (XS.iload X233.here hx rfl (hb hby d9_84) rfl (XS.iconst X233.here hx rfl (hb hby d9_86) kq)))) ?_
          obtain ⟨cl237, Ar237, qa237, sa237, hin237, -⟩ := V233.at (j := (2 : Int32)) (by decide) rfl
          obtain ⟨T237, h237, X237, e237, W237, st237⟩ := stI X233 hx hZ e233 Ar237 (j := (2 : Int32)) hin237 (g := (mkF m 87 #[.val (.ref a), .val (.ref b), .val (.int (4 : Int32)), .val (.int (Int32.ofNat kk)), .val (.ref b101), .val (.int (2 : Int32))] [(.int (3 : Int32)), (.int (2 : Int32)), (.ref b101)])) rfl rfl (hb hby d9_87)
          have N237 := Fr.snoc X237 N233 ge_b101
          have O237 := O233.wr W237 ge_b101
          have K237 := K233.wr W237 (Or.inr gk_b101)
          have V237 : own_Ar Z h237 b101 k101 .int [(.int (1 : Int32)), (.int (2 : Int32)), (.int (3 : Int32)), (.int (0 : Int32))] := own_Ar.set Ar237 qa237 sa237 V233.small W237
          refine own_go (S' := (T237.setTop (mkF m 91 #[.val (.ref a), .val (.ref b), .val (.int (4 : Int32)), .val (.int (Int32.ofNat kk)), .val (.ref b101), .val (.int (3 : Int32))] []))) (fun tq kq => st237 tq (XS.iinc X237.here hx rfl (hb hby d9_88) rfl (l' := #[.val (.ref a), .val (.ref b), .val (.int (4 : Int32)), .val (.int (Int32.ofNat kk)), .val (.ref b101), .val (.int (3 : Int32))]) rfl kq)) ?_
          have hq239 : ¬ (q0 = kk) := fun z => hc104 (congrArg Int32.ofNat z)
          have hq240 : q1 = kk := (own_eqN (by omega) (by omega)).mp hc228
          have hq241 : q2 = kk := (own_eqN (by omega) (by omega)).mp hc232
          have hq242 : q3 = kk := (own_eqN (by omega) (by omega)).mp hc236
          have ex238 : own_ex [q0, q1, q2, q3] kk = [1, 2, 3] := by
            simp only [own_ex, List.length_cons, List.length_nil]
            simp [List.range_succ, List.filter_append, List.getD, hq239, hq240, hq241, hq242]
          rw [ex238] at Va
          refine own_go (S' := (T237.setTop (mkF m 96 #[.val (.ref a), .val (.ref b), .val (.int (4 : Int32)), .val (.int (Int32.ofNat kk)), .val (.ref b101), .val (.int (3 : Int32))] [(.ref a)]))) (fun tq kq => XS.aloadN X237.here hx rfl (hb hby d9_91) rfl rfl (XS.ifnullNo X237.here hx rfl (hb hby d9_92) rfl (XS.aloadN X237.here hx rfl (hb hby d9_95) rfl rfl kq))) ?_
          have f243 := ((((Va.ext E101).other W229 ne_a_b101).other W233 ne_a_b101).other W237 ne_a_b101)
          obtain ⟨cl244, Ar244, ln244⟩ := f243.len
          have lq244 : cl244.slots.size.toInt32 = (3 : Int32) := ln244.trans rfl
          refine own_go (S' := (T237.setTop (mkF m 112 #[.val (.ref a), .val (.ref b), .val (.int (4 : Int32)), .val (.int (Int32.ofNat kk)), .val (.ref b101), .val (.int (3 : Int32))] [(.int (0 : Int32)), (.ref a)]))) (fun tq kq => X237.arraylength hx (by rw [e237]; exact Ar244.1) (State.isArrayOf_alike hZ.alike Ar244.2.1) (g := (mkF m 96 #[.val (.ref a), .val (.ref b), .val (.int (4 : Int32)), .val (.int (Int32.ofNat kk)), .val (.ref b101), .val (.int (3 : Int32))] [(.ref a)])) rfl rfl (hb hby d9_96) tq (by rw [lq244]; exact (XS.iload X237.here hx rfl (hb hby d9_97) rfl (XS.icmpYes X237.here hx rfl (pc0 := 99) (pc' := 104) rfl (hb hby d9_99) rfl (teq (by decide : (3 : Int32) = (3 : Int32))).1 (by decide) (by decide) (XS.iload X237.here hx rfl (hb hby d9_104) rfl (XS.iconst X237.here hx rfl (hb hby d9_106) (XS.icmpNo X237.here hx rfl (hb hby d9_107) rfl (flt (by decide : ¬ ((3 : Int32) < (1 : Int32)))).1 (XS.aloadN X237.here hx rfl (hb hby d9_110) rfl rfl (XS.iconst X237.here hx rfl (hb hby d9_111) kq))))))))) ?_
          obtain ⟨cl245, Ar245, -, -, hin245, hat245⟩ := f243.at (j := (0 : Int32)) (v := (.int (1 : Int32))) (by decide) rfl
          refine own_go (S' := (T237.setTop (mkF m 116 #[.val (.ref a), .val (.ref b), .val (.int (4 : Int32)), .val (.int (Int32.ofNat kk)), .val (.ref b101), .val (.int (3 : Int32))] [(.int (0 : Int32)), (.ref b101), (.int (1 : Int32))]))) (fun tq kq => X237.iaload hx (j := (0 : Int32)) (v := (.int (1 : Int32))) (by rw [e237]; exact Ar245.1) (State.isArrayOf_alike hZ.alike Ar245.2.1) Ar245.2.2 hin245 hat245 (g := (mkF m 112 #[.val (.ref a), .val (.ref b), .val (.int (4 : Int32)), .val (.int (Int32.ofNat kk)), .val (.ref b101), .val (.int (3 : Int32))] [(.int (0 : Int32)), (.ref a)])) rfl rfl (hb hby d9_112) tq (XS.aload X237.here hx rfl (hb hby d9_113) rfl rfl (XS.iconst X237.here hx rfl (hb hby d9_115) kq))) ?_
          obtain ⟨cl246, Ar246, -, -, hin246, hat246⟩ := V237.at (j := (0 : Int32)) (v := (.int (1 : Int32))) (by decide) rfl
          refine own_go (S' := (T237.setTop (mkF m 128 #[.val (.ref a), .val (.ref b), .val (.int (4 : Int32)), .val (.int (Int32.ofNat kk)), .val (.ref b101), .val (.int (3 : Int32))] [(.int (1 : Int32)), (.ref a)]))) (fun tq kq => X237.iaload hx (j := (0 : Int32)) (v := (.int (1 : Int32))) (by rw [e237]; exact Ar246.1) (State.isArrayOf_alike hZ.alike Ar246.2.1) Ar246.2.2 hin246 hat246 (g := (mkF m 116 #[.val (.ref a), .val (.ref b), .val (.int (4 : Int32)), .val (.int (Int32.ofNat kk)), .val (.ref b101), .val (.int (3 : Int32))] [(.int (0 : Int32)), (.ref b101), (.int (1 : Int32))])) rfl rfl (hb hby d9_116) tq (XS.icmpNo X237.here hx rfl (hb hby d9_117) rfl (teq (by decide : (1 : Int32) = (1 : Int32))).2 (XS.iload X237.here hx rfl (hb hby d9_120) rfl (XS.iconst X237.here hx rfl (hb hby d9_122) (XS.icmpNo X237.here hx rfl (hb hby d9_123) rfl (flt (by decide : ¬ ((3 : Int32) < (2 : Int32)))).1 (XS.aloadN X237.here hx rfl (hb hby d9_126) rfl rfl (XS.iconst X237.here hx rfl (hb hby d9_127) kq))))))) ?_
          obtain ⟨cl247, Ar247, -, -, hin247, hat247⟩ := f243.at (j := (1 : Int32)) (v := (.int (2 : Int32))) (by decide) rfl
          refine own_go (S' := (T237.setTop (mkF m 132 #[.val (.ref a), .val (.ref b), .val (.int (4 : Int32)), .val (.int (Int32.ofNat kk)), .val (.ref b101), .val (.int (3 : Int32))] [(.int (1 : Int32)), (.ref b101), (.int (2 : Int32))]))) (fun tq kq => X237.iaload hx (j := (1 : Int32)) (v := (.int (2 : Int32))) (by rw [e237]; exact Ar247.1) (State.isArrayOf_alike hZ.alike Ar247.2.1) Ar247.2.2 hin247 hat247 (g := (mkF m 128 #[.val (.ref a), .val (.ref b), .val (.int (4 : Int32)), .val (.int (Int32.ofNat kk)), .val (.ref b101), .val (.int (3 : Int32))] [(.int (1 : Int32)), (.ref a)])) rfl rfl (hb hby d9_128) tq (XS.aload X237.here hx rfl (hb hby d9_129) rfl rfl (XS.iconst X237.here hx rfl (hb hby d9_131) kq))) ?_
          obtain ⟨cl248, Ar248, -, -, hin248, hat248⟩ := V237.at (j := (1 : Int32)) (v := (.int (2 : Int32))) (by decide) rfl
          refine own_go (S' := (T237.setTop (mkF m 144 #[.val (.ref a), .val (.ref b), .val (.int (4 : Int32)), .val (.int (Int32.ofNat kk)), .val (.ref b101), .val (.int (3 : Int32))] [(.int (2 : Int32)), (.ref a)]))) (fun tq kq => X237.iaload hx (j := (1 : Int32)) (v := (.int (2 : Int32))) (by rw [e237]; exact Ar248.1) (State.isArrayOf_alike hZ.alike Ar248.2.1) Ar248.2.2 hin248 hat248 (g := (mkF m 132 #[.val (.ref a), .val (.ref b), .val (.int (4 : Int32)), .val (.int (Int32.ofNat kk)), .val (.ref b101), .val (.int (3 : Int32))] [(.int (1 : Int32)), (.ref b101), (.int (2 : Int32))])) rfl rfl (hb hby d9_132) tq (XS.icmpNo X237.here hx rfl (hb hby d9_133) rfl (teq (by decide : (2 : Int32) = (2 : Int32))).2 (XS.iload X237.here hx rfl (hb hby d9_136) rfl (XS.iconst X237.here hx rfl (hb hby d9_138) (XS.icmpNo X237.here hx rfl (hb hby d9_139) rfl (flt (by decide : ¬ ((3 : Int32) < (3 : Int32)))).1 (XS.aloadN X237.here hx rfl (hb hby d9_142) rfl rfl (XS.iconst X237.here hx rfl (hb hby d9_143) kq))))))) ?_
          obtain ⟨cl249, Ar249, -, -, hin249, hat249⟩ := f243.at (j := (2 : Int32)) (v := (.int (3 : Int32))) (by decide) rfl
          refine own_go (S' := (T237.setTop (mkF m 148 #[.val (.ref a), .val (.ref b), .val (.int (4 : Int32)), .val (.int (Int32.ofNat kk)), .val (.ref b101), .val (.int (3 : Int32))] [(.int (2 : Int32)), (.ref b101), (.int (3 : Int32))]))) (fun tq kq => X237.iaload hx (j := (2 : Int32)) (v := (.int (3 : Int32))) (by rw [e237]; exact Ar249.1) (State.isArrayOf_alike hZ.alike Ar249.2.1) Ar249.2.2 hin249 hat249 (g := (mkF m 144 #[.val (.ref a), .val (.ref b), .val (.int (4 : Int32)), .val (.int (Int32.ofNat kk)), .val (.ref b101), .val (.int (3 : Int32))] [(.int (2 : Int32)), (.ref a)])) rfl rfl (hb hby d9_144) tq (XS.aload X237.here hx rfl (hb hby d9_145) rfl rfl (XS.iconst X237.here hx rfl (hb hby d9_147) kq))) ?_
          obtain ⟨cl250, Ar250, -, -, hin250, hat250⟩ := V237.at (j := (2 : Int32)) (v := (.int (3 : Int32))) (by decide) rfl
          refine own_go (S' := (T237.setTop (mkF m 173 #[.val (.ref a), .val (.ref b), .val (.int (4 : Int32)), .val (.int (Int32.ofNat kk)), .val (.ref b101), .val (.int (3 : Int32))] [(.int (1 : Int32))]))) (fun tq kq => X237.iaload hx (j := (2 : Int32)) (v := (.int (3 : Int32))) (by rw [e237]; exact Ar250.1) (State.isArrayOf_alike hZ.alike Ar250.2.1) Ar250.2.2 hin250 hat250 (g := (mkF m 148 #[.val (.ref a), .val (.ref b), .val (.int (4 : Int32)), .val (.int (Int32.ofNat kk)), .val (.ref b101), .val (.int (3 : Int32))] [(.int (2 : Int32)), (.ref b101), (.int (3 : Int32))])) rfl rfl (hb hby d9_148) tq (XS.icmpNo X237.here hx rfl (hb hby d9_149) rfl (teq (by decide : (3 : Int32) = (3 : Int32))).2 (XS.iload X237.here hx rfl (hb hby d9_152) rfl (XS.iconst X237.here hx rfl (hb hby d9_154) (XS.icmpYes X237.here hx rfl (pc0 := 155) (pc' := 168) rfl (hb hby d9_155) rfl (tlt (by decide : (3 : Int32) < (4 : Int32))).1 (by decide) (by decide) (XS.iconst X237.here hx rfl (hb hby d9_168) (XS.goto X237.here hx rfl (pc0 := 169) (pc' := 173) rfl (hb hby d9_169) (by decide) (by decide) kq))))))) ?_
          refine own_retN X237 hx hlk hret (by simp) (hb hby d9_173) (by decide) (by decide) ?_
          rw [e237]
          exact ⟨rfl, N237, K237⟩
        · refine own_go (S' := (T233.setTop (mkF m 91 #[.val (.ref a), .val (.ref b), .val (.int (4 : Int32)), .val (.int (Int32.ofNat kk)), .val (.ref b101), .val (.int (2 : Int32))] []))) (fun tq kq => XS.icmpYes X233.here hx rfl (pc0 := 79) (pc' := 91) rfl (hb hby d9_79) rfl (feq hc236).2 (by decide) (by decide) kq) ?_
          have hq252 : ¬ (q0 = kk) := fun z => hc104 (congrArg Int32.ofNat z)
          have hq253 : q1 = kk := (own_eqN (by omega) (by omega)).mp hc228
          have hq254 : q2 = kk := (own_eqN (by omega) (by omega)).mp hc232
          have hq255 : ¬ (q3 = kk) := fun z => hc236 (congrArg Int32.ofNat z)
          have ex251 : own_ex [q0, q1, q2, q3] kk = [1, 2] := by
            simp only [own_ex, List.length_cons, List.length_nil]
            simp [List.range_succ, List.filter_append, List.getD, hq252, hq253, hq254, hq255]
          rw [ex251] at Va
          refine own_go (S' := (T233.setTop (mkF m 96 #[.val (.ref a), .val (.ref b), .val (.int (4 : Int32)), .val (.int (Int32.ofNat kk)), .val (.ref b101), .val (.int (2 : Int32))] [(.ref a)]))) (fun tq kq => XS.aloadN X233.here hx rfl (hb hby d9_91) rfl rfl (XS.ifnullNo X233.here hx rfl (hb hby d9_92) rfl (XS.aloadN X233.here hx rfl (hb hby d9_95) rfl rfl kq))) ?_
          have f256 := (((Va.ext E101).other W229 ne_a_b101).other W233 ne_a_b101)
          obtain ⟨cl257, Ar257, ln257⟩ := f256.len
          have lq257 : cl257.slots.size.toInt32 = (2 : Int32) := ln257.trans rfl
          refine own_go (S' := (T233.setTop (mkF m 112 #[.val (.ref a), .val (.ref b), .val (.int (4 : Int32)), .val (.int (Int32.ofNat kk)), .val (.ref b101), .val (.int (2 : Int32))] [(.int (0 : Int32)), (.ref a)]))) (fun tq kq => X233.arraylength hx (by rw [e233]; exact Ar257.1) (State.isArrayOf_alike hZ.alike Ar257.2.1) (g := (mkF m 96 #[.val (.ref a), .val (.ref b), .val (.int (4 : Int32)), .val (.int (Int32.ofNat kk)), .val (.ref b101), .val (.int (2 : Int32))] [(.ref a)])) rfl rfl (hb hby d9_96) tq (by rw [lq257]; exact (XS.iload X233.here hx rfl (hb hby d9_97) rfl (XS.icmpYes X233.here hx rfl (pc0 := 99) (pc' := 104) rfl (hb hby d9_99) rfl (teq (by decide : (2 : Int32) = (2 : Int32))).1 (by decide) (by decide) (XS.iload X233.here hx rfl (hb hby d9_104) rfl (XS.iconst X233.here hx rfl (hb hby d9_106) (XS.icmpNo X233.here hx rfl (hb hby d9_107) rfl (flt (by decide : ¬ ((2 : Int32) < (1 : Int32)))).1 (XS.aloadN X233.here hx rfl (hb hby d9_110) rfl rfl (XS.iconst X233.here hx rfl (hb hby d9_111) kq))))))))) ?_
          obtain ⟨cl258, Ar258, -, -, hin258, hat258⟩ := f256.at (j := (0 : Int32)) (v := (.int (1 : Int32))) (by decide) rfl
          refine own_go (S' := (T233.setTop (mkF m 116 #[.val (.ref a), .val (.ref b), .val (.int (4 : Int32)), .val (.int (Int32.ofNat kk)), .val (.ref b101), .val (.int (2 : Int32))] [(.int (0 : Int32)), (.ref b101), (.int (1 : Int32))]))) (fun tq kq => X233.iaload hx (j := (0 : Int32)) (v := (.int (1 : Int32))) (by rw [e233]; exact Ar258.1) (State.isArrayOf_alike hZ.alike Ar258.2.1) Ar258.2.2 hin258 hat258 (g := (mkF m 112 #[.val (.ref a), .val (.ref b), .val (.int (4 : Int32)), .val (.int (Int32.ofNat kk)), .val (.ref b101), .val (.int (2 : Int32))] [(.int (0 : Int32)), (.ref a)])) rfl rfl (hb hby d9_112) tq (XS.aload X233.here hx rfl (hb hby d9_113) rfl rfl (XS.iconst X233.here hx rfl (hb hby d9_115) kq))) ?_
          obtain ⟨cl259, Ar259, -, -, hin259, hat259⟩ := V233.at (j := (0 : Int32)) (v := (.int (1 : Int32))) (by decide) rfl
          refine own_go (S' := (T233.setTop (mkF m 128 #[.val (.ref a), .val (.ref b), .val (.int (4 : Int32)), .val (.int (Int32.ofNat kk)), .val (.ref b101), .val (.int (2 : Int32))] [(.int (1 : Int32)), (.ref a)]))) (fun tq kq => X233.iaload hx (j := (0 : Int32)) (v := (.int (1 : Int32))) (by rw [e233]; exact Ar259.1) (State.isArrayOf_alike hZ.alike Ar259.2.1) Ar259.2.2 hin259 hat259 (g := (mkF m 116 #[.val (.ref a), .val (.ref b), .val (.int (4 : Int32)), .val (.int (Int32.ofNat kk)), .val (.ref b101), .val (.int (2 : Int32))] [(.int (0 : Int32)), (.ref b101), (.int (1 : Int32))])) rfl rfl (hb hby d9_116) tq (XS.icmpNo X233.here hx rfl (hb hby d9_117) rfl (teq (by decide : (1 : Int32) = (1 : Int32))).2 (XS.iload X233.here hx rfl (hb hby d9_120) rfl (XS.iconst X233.here hx rfl (hb hby d9_122) (XS.icmpNo X233.here hx rfl (hb hby d9_123) rfl (flt (by decide : ¬ ((2 : Int32) < (2 : Int32)))).1 (XS.aloadN X233.here hx rfl (hb hby d9_126) rfl rfl (XS.iconst X233.here hx rfl (hb hby d9_127) kq))))))) ?_
          obtain ⟨cl260, Ar260, -, -, hin260, hat260⟩ := f256.at (j := (1 : Int32)) (v := (.int (2 : Int32))) (by decide) rfl
          refine own_go (S' := (T233.setTop (mkF m 132 #[.val (.ref a), .val (.ref b), .val (.int (4 : Int32)), .val (.int (Int32.ofNat kk)), .val (.ref b101), .val (.int (2 : Int32))] [(.int (1 : Int32)), (.ref b101), (.int (2 : Int32))]))) (fun tq kq => X233.iaload hx (j := (1 : Int32)) (v := (.int (2 : Int32))) (by rw [e233]; exact Ar260.1) (State.isArrayOf_alike hZ.alike Ar260.2.1) Ar260.2.2 hin260 hat260 (g := (mkF m 128 #[.val (.ref a), .val (.ref b), .val (.int (4 : Int32)), .val (.int (Int32.ofNat kk)), .val (.ref b101), .val (.int (2 : Int32))] [(.int (1 : Int32)), (.ref a)])) rfl rfl (hb hby d9_128) tq (XS.aload X233.here hx rfl (hb hby d9_129) rfl rfl (XS.iconst X233.here hx rfl (hb hby d9_131) kq))) ?_
          obtain ⟨cl261, Ar261, -, -, hin261, hat261⟩ := V233.at (j := (1 : Int32)) (v := (.int (2 : Int32))) (by decide) rfl
          refine own_go (S' := (T233.setTop (mkF m 173 #[.val (.ref a), .val (.ref b), .val (.int (4 : Int32)), .val (.int (Int32.ofNat kk)), .val (.ref b101), .val (.int (2 : Int32))] [(.int (1 : Int32))]))) (fun tq kq => X233.iaload hx (j := (1 : Int32)) (v := (.int (2 : Int32))) (by rw [e233]; exact Ar261.1) (State.isArrayOf_alike hZ.alike Ar261.2.1) Ar261.2.2 hin261 hat261 (g := (mkF m 132 #[.val (.ref a), .val (.ref b), .val (.int (4 : Int32)), .val (.int (Int32.ofNat kk)), .val (.ref b101), .val (.int (2 : Int32))] [(.int (1 : Int32)), (.ref b101), (.int (2 : Int32))])) rfl rfl (hb hby d9_132) tq (XS.icmpNo X233.here hx rfl (hb hby d9_133) rfl (teq (by decide : (2 : Int32) = (2 : Int32))).2 (XS.iload X233.here hx rfl (hb hby d9_136) rfl (XS.iconst X233.here hx rfl (hb hby d9_138) (XS.icmpYes X233.here hx rfl (pc0 := 139) (pc' := 152) rfl (hb hby d9_139) rfl (tlt (by decide : (2 : Int32) < (3 : Int32))).1 (by decide) (by decide) (XS.iload X233.here hx rfl (hb hby d9_152) rfl (XS.iconst X233.here hx rfl (hb hby d9_154) (XS.icmpYes X233.here hx rfl (pc0 := 155) (pc' := 168) rfl (hb hby d9_155) rfl (tlt (by decide : (2 : Int32) < (4 : Int32))).1 (by decide) (by decide) (XS.iconst X233.here hx rfl (hb hby d9_168) (XS.goto X233.here hx rfl (pc0 := 169) (pc' := 173) rfl (hb hby d9_169) (by decide) (by decide) kq)))))))))) ?_
          refine own_retN X233 hx hlk hret (by simp) (hb hby d9_173) (by decide) (by decide) ?_
          rw [e233]
          exact ⟨rfl, N233, K233⟩
      · refine own_go (S' := (T229.setTop (mkF m 77 #[.val (.ref a), .val (.ref b), .val (.int (4 : Int32)), .val (.int (Int32.ofNat kk)), .val (.ref b101), .val (.int (1 : Int32))] [(.int (3 : Int32)), (.ref b)]))) (fun tq kq => XS.icmpYes X229.here hx rfl (pc0 := 58) (pc' := 70) rfl (hb hby d9_58) rfl (feq hc232).2 (by decide) (by decide) (XS.iloadN X229.here hx rfl (hb hby d9_70) rfl (XS.iconst X229.here hx rfl (hb hby d9_71) (XS.icmpNo X229.here hx rfl (hb hby d9_72) rfl (tlt (by decide : (3 : Int32) < (4 : Int32))).2.2.2 (XS.aloadN X229.here hx rfl (hb hby d9_75) rfl rfl (XS.iconst X229.here hx rfl (hb hby d9_76) kq)))))) ?_
        obtain ⟨cl262, Ar262, -, -, hin262, hat262⟩ := f230.at (j := (3 : Int32)) (v := (.int (Int32.ofNat q3))) (by decide) rfl
        refine own_go (S' := (T229.setTop (mkF m 79 #[.val (.ref a), .val (.ref b), .val (.int (4 : Int32)), .val (.int (Int32.ofNat kk)), .val (.ref b101), .val (.int (1 : Int32))] [(.int (Int32.ofNat kk)), (.int (Int32.ofNat q3))]))) (fun tq kq => X229.iaload hx (j := (3 : Int32)) (v := (.int (Int32.ofNat q3))) (by rw [e229]; exact Ar262.1) (State.isArrayOf_alike hZ.alike Ar262.2.1) Ar262.2.2 hin262 hat262 (g := (mkF m 77 #[.val (.ref a), .val (.ref b), .val (.int (4 : Int32)), .val (.int (Int32.ofNat kk)), .val (.ref b101), .val (.int (1 : Int32))] [(.int (3 : Int32)), (.ref b)])) rfl rfl (hb hby d9_77) tq (XS.iloadN X229.here hx rfl (hb hby d9_78) rfl kq)) ?_
        by_cases hc263 : (Int32.ofNat q3) = (Int32.ofNat kk)
        · refine own_go (S' := (T229.setTop (mkF m 87 #[.val (.ref a), .val (.ref b), .val (.int (4 : Int32)), .val (.int (Int32.ofNat kk)), .val (.ref b101), .val (.int (1 : Int32))] [(.int (3 : Int32)), (.int (1 : Int32)), (.ref b101)]))) (fun tq kq => XS.icmpNo X229.here hx rfl (hb hby d9_79) rfl (teq hc263).2 (XS.aload X229.here hx rfl (hb hby d9_82) rfl rfl (XS.iload X229.here hx rfl (hb hby d9_84) rfl (XS.iconst X229.here hx rfl (hb hby d9_86) kq)))) ?_
          obtain ⟨cl264, Ar264, qa264, sa264, hin264, -⟩ := V229.at (j := (1 : Int32)) (by decide) rfl
          obtain ⟨T264, h264, X264, e264, W264, st264⟩ := stI X229 hx hZ e229 Ar264 (j := (1 : Int32)) hin264 (g := (mkF m 87 #[.val (.ref a), .val (.ref b), .val (.int (4 : Int32)), .val (.int (Int32.ofNat kk)), .val (.ref b101), .val (.int (1 : Int32))] [(.int (3 : Int32)), (.int (1 : Int32)), (.ref b101)])) rfl rfl (hb hby d9_87)
          have N264 := Fr.snoc X264 N229 ge_b101
          have O264 := O229.wr W264 ge_b101
          have K264 := K229.wr W264 (Or.inr gk_b101)
          have V264 : own_Ar Z h264 b101 k101 .int [(.int (1 : Int32)), (.int (3 : Int32)), (.int (0 : Int32)), (.int (0 : Int32))] := own_Ar.set Ar264 qa264 sa264 V229.small W264
          refine own_go (S' := (T264.setTop (mkF m 91 #[.val (.ref a), .val (.ref b), .val (.int (4 : Int32)), .val (.int (Int32.ofNat kk)), .val (.ref b101), .val (.int (2 : Int32))] []))) (fun tq kq => st264 tq (XS.iinc X264.here hx rfl (hb hby d9_88) rfl (l' := #[.val (.ref a), .val (.ref b), .val (.int (4 : Int32)), .val (.int (Int32.ofNat kk)), .val (.ref b101), .val (.int (2 : Int32))]) rfl kq)) ?_
          have hq266 : ¬ (q0 = kk) := fun z => hc104 (congrArg Int32.ofNat z)
          have hq267 : q1 = kk := (own_eqN (by omega) (by omega)).mp hc228
          have hq268 : ¬ (q2 = kk) := fun z => hc232 (congrArg Int32.ofNat z)
          have hq269 : q3 = kk := (own_eqN (by omega) (by omega)).mp hc263
          have ex265 : own_ex [q0, q1, q2, q3] kk = [1, 3] := by
            simp only [own_ex, List.length_cons, List.length_nil]
            simp [List.range_succ, List.filter_append, List.getD, hq266, hq267, hq268, hq269]
          rw [ex265] at Va
          refine own_go (S' := (T264.setTop (mkF m 96 #[.val (.ref a), .val (.ref b), .val (.int (4 : Int32)), .val (.int (Int32.ofNat kk)), .val (.ref b101), .val (.int (2 : Int32))] [(.ref a)]))) (fun tq kq => XS.aloadN X264.here hx rfl (hb hby d9_91) rfl rfl (XS.ifnullNo X264.here hx rfl (hb hby d9_92) rfl (XS.aloadN X264.here hx rfl (hb hby d9_95) rfl rfl kq))) ?_
          have f270 := (((Va.ext E101).other W229 ne_a_b101).other W264 ne_a_b101)
          obtain ⟨cl271, Ar271, ln271⟩ := f270.len
          have lq271 : cl271.slots.size.toInt32 = (2 : Int32) := ln271.trans rfl
          refine own_go (S' := (T264.setTop (mkF m 112 #[.val (.ref a), .val (.ref b), .val (.int (4 : Int32)), .val (.int (Int32.ofNat kk)), .val (.ref b101), .val (.int (2 : Int32))] [(.int (0 : Int32)), (.ref a)]))) (fun tq kq => X264.arraylength hx (by rw [e264]; exact Ar271.1) (State.isArrayOf_alike hZ.alike Ar271.2.1) (g := (mkF m 96 #[.val (.ref a), .val (.ref b), .val (.int (4 : Int32)), .val (.int (Int32.ofNat kk)), .val (.ref b101), .val (.int (2 : Int32))] [(.ref a)])) rfl rfl (hb hby d9_96) tq (by rw [lq271]; exact (XS.iload X264.here hx rfl (hb hby d9_97) rfl (XS.icmpYes X264.here hx rfl (pc0 := 99) (pc' := 104) rfl (hb hby d9_99) rfl (teq (by decide : (2 : Int32) = (2 : Int32))).1 (by decide) (by decide) (XS.iload X264.here hx rfl (hb hby d9_104) rfl (XS.iconst X264.here hx rfl (hb hby d9_106) (XS.icmpNo X264.here hx rfl (hb hby d9_107) rfl (flt (by decide : ¬ ((2 : Int32) < (1 : Int32)))).1 (XS.aloadN X264.here hx rfl (hb hby d9_110) rfl rfl (XS.iconst X264.here hx rfl (hb hby d9_111) kq))))))))) ?_
          obtain ⟨cl272, Ar272, -, -, hin272, hat272⟩ := f270.at (j := (0 : Int32)) (v := (.int (1 : Int32))) (by decide) rfl
          refine own_go (S' := (T264.setTop (mkF m 116 #[.val (.ref a), .val (.ref b), .val (.int (4 : Int32)), .val (.int (Int32.ofNat kk)), .val (.ref b101), .val (.int (2 : Int32))] [(.int (0 : Int32)), (.ref b101), (.int (1 : Int32))]))) (fun tq kq => X264.iaload hx (j := (0 : Int32)) (v := (.int (1 : Int32))) (by rw [e264]; exact Ar272.1) (State.isArrayOf_alike hZ.alike Ar272.2.1) Ar272.2.2 hin272 hat272 (g := (mkF m 112 #[.val (.ref a), .val (.ref b), .val (.int (4 : Int32)), .val (.int (Int32.ofNat kk)), .val (.ref b101), .val (.int (2 : Int32))] [(.int (0 : Int32)), (.ref a)])) rfl rfl (hb hby d9_112) tq (XS.aload X264.here hx rfl (hb hby d9_113) rfl rfl (XS.iconst X264.here hx rfl (hb hby d9_115) kq))) ?_
          obtain ⟨cl273, Ar273, -, -, hin273, hat273⟩ := V264.at (j := (0 : Int32)) (v := (.int (1 : Int32))) (by decide) rfl
          refine own_go (S' := (T264.setTop (mkF m 128 #[.val (.ref a), .val (.ref b), .val (.int (4 : Int32)), .val (.int (Int32.ofNat kk)), .val (.ref b101), .val (.int (2 : Int32))] [(.int (1 : Int32)), (.ref a)]))) (fun tq kq => X264.iaload hx (j := (0 : Int32)) (v := (.int (1 : Int32))) (by rw [e264]; exact Ar273.1) (State.isArrayOf_alike hZ.alike Ar273.2.1) Ar273.2.2 hin273 hat273 (g := (mkF m 116 #[.val (.ref a), .val (.ref b), .val (.int (4 : Int32)), .val (.int (Int32.ofNat kk)), .val (.ref b101), .val (.int (2 : Int32))] [(.int (0 : Int32)), (.ref b101), (.int (1 : Int32))])) rfl rfl (hb hby d9_116) tq (XS.icmpNo X264.here hx rfl (hb hby d9_117) rfl (teq (by decide : (1 : Int32) = (1 : Int32))).2 (XS.iload X264.here hx rfl (hb hby d9_120) rfl (XS.iconst X264.here hx rfl (hb hby d9_122) (XS.icmpNo X264.here hx rfl (hb hby d9_123) rfl (flt (by decide : ¬ ((2 : Int32) < (2 : Int32)))).1 (XS.aloadN X264.here hx rfl (hb hby d9_126) rfl rfl (XS.iconst X264.here hx rfl (hb hby d9_127) kq))))))) ?_
          obtain ⟨cl274, Ar274, -, -, hin274, hat274⟩ := f270.at (j := (1 : Int32)) (v := (.int (3 : Int32))) (by decide) rfl
          refine own_go (S' := (T264.setTop (mkF m 132 #[.val (.ref a), .val (.ref b), .val (.int (4 : Int32)), .val (.int (Int32.ofNat kk)), .val (.ref b101), .val (.int (2 : Int32))] [(.int (1 : Int32)), (.ref b101), (.int (3 : Int32))]))) (fun tq kq => X264.iaload hx (j := (1 : Int32)) (v := (.int (3 : Int32))) (by rw [e264]; exact Ar274.1) (State.isArrayOf_alike hZ.alike Ar274.2.1) Ar274.2.2 hin274 hat274 (g := (mkF m 128 #[.val (.ref a), .val (.ref b), .val (.int (4 : Int32)), .val (.int (Int32.ofNat kk)), .val (.ref b101), .val (.int (2 : Int32))] [(.int (1 : Int32)), (.ref a)])) rfl rfl (hb hby d9_128) tq (XS.aload X264.here hx rfl (hb hby d9_129) rfl rfl (XS.iconst X264.here hx rfl (hb hby d9_131) kq))) ?_
          obtain ⟨cl275, Ar275, -, -, hin275, hat275⟩ := V264.at (j := (1 : Int32)) (v := (.int (3 : Int32))) (by decide) rfl
          refine own_go (S' := (T264.setTop (mkF m 173 #[.val (.ref a), .val (.ref b), .val (.int (4 : Int32)), .val (.int (Int32.ofNat kk)), .val (.ref b101), .val (.int (2 : Int32))] [(.int (1 : Int32))]))) (fun tq kq => X264.iaload hx (j := (1 : Int32)) (v := (.int (3 : Int32))) (by rw [e264]; exact Ar275.1) (State.isArrayOf_alike hZ.alike Ar275.2.1) Ar275.2.2 hin275 hat275 (g := (mkF m 132 #[.val (.ref a), .val (.ref b), .val (.int (4 : Int32)), .val (.int (Int32.ofNat kk)), .val (.ref b101), .val (.int (2 : Int32))] [(.int (1 : Int32)), (.ref b101), (.int (3 : Int32))])) rfl rfl (hb hby d9_132) tq (XS.icmpNo X264.here hx rfl (hb hby d9_133) rfl (teq (by decide : (3 : Int32) = (3 : Int32))).2 (XS.iload X264.here hx rfl (hb hby d9_136) rfl (XS.iconst X264.here hx rfl (hb hby d9_138) (XS.icmpYes X264.here hx rfl (pc0 := 139) (pc' := 152) rfl (hb hby d9_139) rfl (tlt (by decide : (2 : Int32) < (3 : Int32))).1 (by decide) (by decide) (XS.iload X264.here hx rfl (hb hby d9_152) rfl (XS.iconst X264.here hx rfl (hb hby d9_154) (XS.icmpYes X264.here hx rfl (pc0 := 155) (pc' := 168) rfl (hb hby d9_155) rfl (tlt (by decide : (2 : Int32) < (4 : Int32))).1 (by decide) (by decide) (XS.iconst X264.here hx rfl (hb hby d9_168) (XS.goto X264.here hx rfl (pc0 := 169) (pc' := 173) rfl (hb hby d9_169) (by decide) (by decide) kq)))))))))) ?_
          refine own_retN X264 hx hlk hret (by simp) (hb hby d9_173) (by decide) (by decide) ?_
          rw [e264]
          exact ⟨rfl, N264, K264⟩
        · refine own_go (S' := (T229.setTop (mkF m 91 #[.val (.ref a), .val (.ref b), .val (.int (4 : Int32)), .val (.int (Int32.ofNat kk)), .val (.ref b101), .val (.int (1 : Int32))] []))) (fun tq kq => XS.icmpYes X229.here hx rfl (pc0 := 79) (pc' := 91) rfl (hb hby d9_79) rfl (feq hc263).2 (by decide) (by decide) kq) ?_
          have hq277 : ¬ (q0 = kk) := fun z => hc104 (congrArg Int32.ofNat z)
          have hq278 : q1 = kk := (own_eqN (by omega) (by omega)).mp hc228
          have hq279 : ¬ (q2 = kk) := fun z => hc232 (congrArg Int32.ofNat z)
          have hq280 : ¬ (q3 = kk) := fun z => hc263 (congrArg Int32.ofNat z)
          have ex276 : own_ex [q0, q1, q2, q3] kk = [1] := by
            simp only [own_ex, List.length_cons, List.length_nil]
            simp [List.range_succ, List.filter_append, List.getD, hq277, hq278, hq279, hq280]
          rw [ex276] at Va
          refine own_go (S' := (T229.setTop (mkF m 96 #[.val (.ref a), .val (.ref b), .val (.int (4 : Int32)), .val (.int (Int32.ofNat kk)), .val (.ref b101), .val (.int (1 : Int32))] [(.ref a)]))) (fun tq kq => XS.aloadN X229.here hx rfl (hb hby d9_91) rfl rfl (XS.ifnullNo X229.here hx rfl (hb hby d9_92) rfl (XS.aloadN X229.here hx rfl (hb hby d9_95) rfl rfl kq))) ?_
          have f281 := ((Va.ext E101).other W229 ne_a_b101)
          obtain ⟨cl282, Ar282, ln282⟩ := f281.len
          have lq282 : cl282.slots.size.toInt32 = (1 : Int32) := ln282.trans rfl
          refine own_go (S' := (T229.setTop (mkF m 112 #[.val (.ref a), .val (.ref b), .val (.int (4 : Int32)), .val (.int (Int32.ofNat kk)), .val (.ref b101), .val (.int (1 : Int32))] [(.int (0 : Int32)), (.ref a)]))) (fun tq kq => X229.arraylength hx (by rw [e229]; exact Ar282.1) (State.isArrayOf_alike hZ.alike Ar282.2.1) (g := (mkF m 96 #[.val (.ref a), .val (.ref b), .val (.int (4 : Int32)), .val (.int (Int32.ofNat kk)), .val (.ref b101), .val (.int (1 : Int32))] [(.ref a)])) rfl rfl (hb hby d9_96) tq (by rw [lq282]; exact (XS.iload X229.here hx rfl (hb hby d9_97) rfl (XS.icmpYes X229.here hx rfl (pc0 := 99) (pc' := 104) rfl (hb hby d9_99) rfl (teq (by decide : (1 : Int32) = (1 : Int32))).1 (by decide) (by decide) (XS.iload X229.here hx rfl (hb hby d9_104) rfl (XS.iconst X229.here hx rfl (hb hby d9_106) (XS.icmpNo X229.here hx rfl (hb hby d9_107) rfl (flt (by decide : ¬ ((1 : Int32) < (1 : Int32)))).1 (XS.aloadN X229.here hx rfl (hb hby d9_110) rfl rfl (XS.iconst X229.here hx rfl (hb hby d9_111) kq))))))))) ?_
          obtain ⟨cl283, Ar283, -, -, hin283, hat283⟩ := f281.at (j := (0 : Int32)) (v := (.int (1 : Int32))) (by decide) rfl
          refine own_go (S' := (T229.setTop (mkF m 116 #[.val (.ref a), .val (.ref b), .val (.int (4 : Int32)), .val (.int (Int32.ofNat kk)), .val (.ref b101), .val (.int (1 : Int32))] [(.int (0 : Int32)), (.ref b101), (.int (1 : Int32))]))) (fun tq kq => X229.iaload hx (j := (0 : Int32)) (v := (.int (1 : Int32))) (by rw [e229]; exact Ar283.1) (State.isArrayOf_alike hZ.alike Ar283.2.1) Ar283.2.2 hin283 hat283 (g := (mkF m 112 #[.val (.ref a), .val (.ref b), .val (.int (4 : Int32)), .val (.int (Int32.ofNat kk)), .val (.ref b101), .val (.int (1 : Int32))] [(.int (0 : Int32)), (.ref a)])) rfl rfl (hb hby d9_112) tq (XS.aload X229.here hx rfl (hb hby d9_113) rfl rfl (XS.iconst X229.here hx rfl (hb hby d9_115) kq))) ?_
          obtain ⟨cl284, Ar284, -, -, hin284, hat284⟩ := V229.at (j := (0 : Int32)) (v := (.int (1 : Int32))) (by decide) rfl
          refine own_go (S' := (T229.setTop (mkF m 155 #[.val (.ref a), .val (.ref b), .val (.int (4 : Int32)), .val (.int (Int32.ofNat kk)), .val (.ref b101), .val (.int (1 : Int32))] [(.int (4 : Int32)), (.int (1 : Int32))]))) (fun tq kq => X229.iaload hx (j := (0 : Int32)) (v := (.int (1 : Int32))) (by rw [e229]; exact Ar284.1) (State.isArrayOf_alike hZ.alike Ar284.2.1) Ar284.2.2 hin284 hat284 (g := (mkF m 116 #[.val (.ref a), .val (.ref b), .val (.int (4 : Int32)), .val (.int (Int32.ofNat kk)), .val (.ref b101), .val (.int (1 : Int32))] [(.int (0 : Int32)), (.ref b101), (.int (1 : Int32))])) rfl rfl (hb hby d9_116) tq (XS.icmpNo X229.here hx rfl (hb hby d9_117) rfl (teq (by decide : (1 : Int32) = (1 : Int32))).2 (XS.iload X229.here hx rfl (hb hby d9_120) rfl (XS.iconst X229.here hx rfl (hb hby d9_122) (XS.icmpYes X229.here hx rfl (pc0 := 123) (pc' := 136) rfl (hb hby d9_123) rfl (tlt (by decide : (1 : Int32) < (2 : Int32))).1 (by decide) (by decide) (XS.iload X229.here hx rfl (hb hby d9_136) rfl (XS.iconst X229.here hx rfl (hb hby d9_138) (XS.icmpYes X229.here hx rfl (pc0 := 139) (pc' := 152) rfl (hb hby d9_139) rfl (tlt (by decide : (1 : Int32) < (3 : Int32))).1 (by decide) (by decide) (XS.iload X229.here hx rfl (hb hby d9_152) rfl (XS.iconst X229.here hx rfl (hb hby d9_154) kq)))))))))) ?_
          refine own_go (S' := (T229.setTop (mkF m 173 #[.val (.ref a), .val (.ref b), .val (.int (4 : Int32)), .val (.int (Int32.ofNat kk)), .val (.ref b101), .val (.int (1 : Int32))] [(.int (1 : Int32))]))) (fun tq kq => XS.icmpYes X229.here hx rfl (pc0 := 155) (pc' := 168) rfl (hb hby d9_155) rfl (tlt (by decide : (1 : Int32) < (4 : Int32))).1 (by decide) (by decide) (XS.iconst X229.here hx rfl (hb hby d9_168) (XS.goto X229.here hx rfl (pc0 := 169) (pc' := 173) rfl (hb hby d9_169) (by decide) (by decide) kq))) ?_
          refine own_retN X229 hx hlk hret (by simp) (hb hby d9_173) (by decide) (by decide) ?_
          rw [e229]
          exact ⟨rfl, N229, K229⟩
    · refine own_go (S' := (T101.setTop (mkF m 56 #[.val (.ref a), .val (.ref b), .val (.int (4 : Int32)), .val (.int (Int32.ofNat kk)), .val (.ref b101), .val (.int (0 : Int32))] [(.int (2 : Int32)), (.ref b)]))) (fun tq kq => XS.icmpYes X101.here hx rfl (pc0 := 37) (pc' := 49) rfl (hb hby d9_37) rfl (feq hc228).2 (by decide) (by decide) (XS.iloadN X101.here hx rfl (hb hby d9_49) rfl (XS.iconst X101.here hx rfl (hb hby d9_50) (XS.icmpNo X101.here hx rfl (hb hby d9_51) rfl (tlt (by decide : (2 : Int32) < (4 : Int32))).2.2.2 (XS.aloadN X101.here hx rfl (hb hby d9_54) rfl rfl (XS.iconst X101.here hx rfl (hb hby d9_55) kq)))))) ?_
      obtain ⟨cl285, Ar285, -, -, hin285, hat285⟩ := f102.at (j := (2 : Int32)) (v := (.int (Int32.ofNat q2))) (by decide) rfl
      refine own_go (S' := (T101.setTop (mkF m 58 #[.val (.ref a), .val (.ref b), .val (.int (4 : Int32)), .val (.int (Int32.ofNat kk)), .val (.ref b101), .val (.int (0 : Int32))] [(.int (Int32.ofNat kk)), (.int (Int32.ofNat q2))]))) (fun tq kq => X101.iaload hx (j := (2 : Int32)) (v := (.int (Int32.ofNat q2))) (by rw [e101]; exact Ar285.1) (State.isArrayOf_alike hZ.alike Ar285.2.1) Ar285.2.2 hin285 hat285 (g := (mkF m 56 #[.val (.ref a), .val (.ref b), .val (.int (4 : Int32)), .val (.int (Int32.ofNat kk)), .val (.ref b101), .val (.int (0 : Int32))] [(.int (2 : Int32)), (.ref b)])) rfl rfl (hb hby d9_56) tq (XS.iloadN X101.here hx rfl (hb hby d9_57) rfl kq)) ?_
      by_cases hc286 : (Int32.ofNat q2) = (Int32.ofNat kk)
      · refine own_go (S' := (T101.setTop (mkF m 66 #[.val (.ref a), .val (.ref b), .val (.int (4 : Int32)), .val (.int (Int32.ofNat kk)), .val (.ref b101), .val (.int (0 : Int32))] [(.int (2 : Int32)), (.int (0 : Int32)), (.ref b101)]))) (fun tq kq => XS.icmpNo X101.here hx rfl (hb hby d9_58) rfl (teq hc286).2 (XS.aload X101.here hx rfl (hb hby d9_61) rfl rfl (XS.iload X101.here hx rfl (hb hby d9_63) rfl (XS.iconst X101.here hx rfl (hb hby d9_65) kq)))) ?_
        obtain ⟨cl287, Ar287, qa287, sa287, hin287, -⟩ := V101.at (j := (0 : Int32)) (by decide) rfl
        obtain ⟨T287, h287, X287, e287, W287, st287⟩ := stI X101 hx hZ e101 Ar287 (j := (0 : Int32)) hin287 (g := (mkF m 66 #[.val (.ref a), .val (.ref b), .val (.int (4 : Int32)), .val (.int (Int32.ofNat kk)), .val (.ref b101), .val (.int (0 : Int32))] [(.int (2 : Int32)), (.int (0 : Int32)), (.ref b101)])) rfl rfl (hb hby d9_66)
        have N287 := Fr.snoc X287 N0 ge_b101
        have O287 := O101.wr W287 ge_b101
        have K287 := K101.wr W287 (Or.inr gk_b101)
        have V287 : own_Ar Z h287 b101 k101 .int [(.int (2 : Int32)), (.int (0 : Int32)), (.int (0 : Int32)), (.int (0 : Int32))] := own_Ar.set Ar287 qa287 sa287 V101.small W287
        refine own_go (S' := (T287.setTop (mkF m 77 #[.val (.ref a), .val (.ref b), .val (.int (4 : Int32)), .val (.int (Int32.ofNat kk)), .val (.ref b101), .val (.int (1 : Int32))] [(.int (3 : Int32)), (.ref b)]))) (fun tq kq => st287 tq (XS.iinc X287.here hx rfl (hb hby d9_67) rfl (l' := #[.val (.ref a), .val (.ref b), .val (.int (4 : Int32)), .val (.int (Int32.ofNat kk)), .val (.ref b101), .val (.int (1 : Int32))]) rfl (XS.iloadN X287.here hx rfl (hb hby d9_70) rfl (XS.iconst X287.here hx rfl (hb hby d9_71) (XS.icmpNo X287.here hx rfl (hb hby d9_72) rfl (tlt (by decide : (3 : Int32) < (4 : Int32))).2.2.2 (XS.aloadN X287.here hx rfl (hb hby d9_75) rfl rfl (XS.iconst X287.here hx rfl (hb hby d9_76) kq))))))) ?_
        have f288 := (f102.other W287 ne_b_b101)
        obtain ⟨cl289, Ar289, -, -, hin289, hat289⟩ := f288.at (j := (3 : Int32)) (v := (.int (Int32.ofNat q3))) (by decide) rfl
        refine own_go (S' := (T287.setTop (mkF m 79 #[.val (.ref a), .val (.ref b), .val (.int (4 : Int32)), .val (.int (Int32.ofNat kk)), .val (.ref b101), .val (.int (1 : Int32))] [(.int (Int32.ofNat kk)), (.int (Int32.ofNat q3))]))) (fun tq kq => X287.iaload hx (j := (3 : Int32)) (v := (.int (Int32.ofNat q3))) (by rw [e287]; exact Ar289.1) (State.isArrayOf_alike hZ.alike Ar289.2.1) Ar289.2.2 hin289 hat289 (g := (mkF m 77 #[.val (.ref a), .val (.ref b), .val (.int (4 : Int32)), .val (.int (Int32.ofNat kk)), .val (.ref b101), .val (.int (1 : Int32))] [(.int (3 : Int32)), (.ref b)])) rfl rfl (hb hby d9_77) tq (XS.iloadN X287.here hx rfl (hb hby d9_78) rfl kq)) ?_
        by_cases hc290 : (Int32.ofNat q3) = (Int32.ofNat kk)
        · refine own_go (S' := (T287.setTop (mkF m 87 #[.val (.ref a), .val (.ref b), .val (.int (4 : Int32)), .val (.int (Int32.ofNat kk)), .val (.ref b101), .val (.int (1 : Int32))] [(.int (3 : Int32)), (.int (1 : Int32)), (.ref b101)]))) (fun tq kq => XS.icmpNo X287.here hx rfl (hb hby d9_79) rfl (teq hc290).2 (XS.aload X287.here hx rfl (hb hby d9_82) rfl rfl (XS.iload X287.here hx rfl (hb hby d9_84) rfl (XS.iconst X287.here hx rfl (hb hby d9_86) kq)))) ?_
          obtain ⟨cl291, Ar291, qa291, sa291, hin291, -⟩ := V287.at (j := (1 : Int32)) (by decide) rfl
          obtain ⟨T291, h291, X291, e291, W291, st291⟩ := stI X287 hx hZ e287 Ar291 (j := (1 : Int32)) hin291 (g := (mkF m 87 #[.val (.ref a), .val (.ref b), .val (.int (4 : Int32)), .val (.int (Int32.ofNat kk)), .val (.ref b101), .val (.int (1 : Int32))] [(.int (3 : Int32)), (.int (1 : Int32)), (.ref b101)])) rfl rfl (hb hby d9_87)
          have N291 := Fr.snoc X291 N287 ge_b101
          have O291 := O287.wr W291 ge_b101
          have K291 := K287.wr W291 (Or.inr gk_b101)
          have V291 : own_Ar Z h291 b101 k101 .int [(.int (2 : Int32)), (.int (3 : Int32)), (.int (0 : Int32)), (.int (0 : Int32))] := own_Ar.set Ar291 qa291 sa291 V287.small W291
          refine own_go (S' := (T291.setTop (mkF m 91 #[.val (.ref a), .val (.ref b), .val (.int (4 : Int32)), .val (.int (Int32.ofNat kk)), .val (.ref b101), .val (.int (2 : Int32))] []))) (fun tq kq => st291 tq (XS.iinc X291.here hx rfl (hb hby d9_88) rfl (l' := #[.val (.ref a), .val (.ref b), .val (.int (4 : Int32)), .val (.int (Int32.ofNat kk)), .val (.ref b101), .val (.int (2 : Int32))]) rfl kq)) ?_
          have hq293 : ¬ (q0 = kk) := fun z => hc104 (congrArg Int32.ofNat z)
          have hq294 : ¬ (q1 = kk) := fun z => hc228 (congrArg Int32.ofNat z)
          have hq295 : q2 = kk := (own_eqN (by omega) (by omega)).mp hc286
          have hq296 : q3 = kk := (own_eqN (by omega) (by omega)).mp hc290
          have ex292 : own_ex [q0, q1, q2, q3] kk = [2, 3] := by
            simp only [own_ex, List.length_cons, List.length_nil]
            simp [List.range_succ, List.filter_append, List.getD, hq293, hq294, hq295, hq296]
          rw [ex292] at Va
          refine own_go (S' := (T291.setTop (mkF m 96 #[.val (.ref a), .val (.ref b), .val (.int (4 : Int32)), .val (.int (Int32.ofNat kk)), .val (.ref b101), .val (.int (2 : Int32))] [(.ref a)]))) (fun tq kq => XS.aloadN X291.here hx rfl (hb hby d9_91) rfl rfl (XS.ifnullNo X291.here hx rfl (hb hby d9_92) rfl (XS.aloadN X291.here hx rfl (hb hby d9_95) rfl rfl kq))) ?_
          have f297 := (((Va.ext E101).other W287 ne_a_b101).other W291 ne_a_b101)
          obtain ⟨cl298, Ar298, ln298⟩ := f297.len
          have lq298 : cl298.slots.size.toInt32 = (2 : Int32) := ln298.trans rfl
          refine own_go (S' := (T291.setTop (mkF m 112 #[.val (.ref a), .val (.ref b), .val (.int (4 : Int32)), .val (.int (Int32.ofNat kk)), .val (.ref b101), .val (.int (2 : Int32))] [(.int (0 : Int32)), (.ref a)]))) (fun tq kq => X291.arraylength hx (by rw [e291]; exact Ar298.1) (State.isArrayOf_alike hZ.alike Ar298.2.1) (g := (mkF m 96 #[.val (.ref a), .val (.ref b), .val (.int (4 : Int32)), .val (.int (Int32.ofNat kk)), .val (.ref b101), .val (.int (2 : Int32))] [(.ref a)])) rfl rfl (hb hby d9_96) tq (by rw [lq298]; exact (XS.iload X291.here hx rfl (hb hby d9_97) rfl (XS.icmpYes X291.here hx rfl (pc0 := 99) (pc' := 104) rfl (hb hby d9_99) rfl (teq (by decide : (2 : Int32) = (2 : Int32))).1 (by decide) (by decide) (XS.iload X291.here hx rfl (hb hby d9_104) rfl (XS.iconst X291.here hx rfl (hb hby d9_106) (XS.icmpNo X291.here hx rfl (hb hby d9_107) rfl (flt (by decide : ¬ ((2 : Int32) < (1 : Int32)))).1 (XS.aloadN X291.here hx rfl (hb hby d9_110) rfl rfl (XS.iconst X291.here hx rfl (hb hby d9_111) kq))))))))) ?_
          obtain ⟨cl299, Ar299, -, -, hin299, hat299⟩ := f297.at (j := (0 : Int32)) (v := (.int (2 : Int32))) (by decide) rfl
          refine own_go (S' := (T291.setTop (mkF m 116 #[.val (.ref a), .val (.ref b), .val (.int (4 : Int32)), .val (.int (Int32.ofNat kk)), .val (.ref b101), .val (.int (2 : Int32))] [(.int (0 : Int32)), (.ref b101), (.int (2 : Int32))]))) (fun tq kq => X291.iaload hx (j := (0 : Int32)) (v := (.int (2 : Int32))) (by rw [e291]; exact Ar299.1) (State.isArrayOf_alike hZ.alike Ar299.2.1) Ar299.2.2 hin299 hat299 (g := (mkF m 112 #[.val (.ref a), .val (.ref b), .val (.int (4 : Int32)), .val (.int (Int32.ofNat kk)), .val (.ref b101), .val (.int (2 : Int32))] [(.int (0 : Int32)), (.ref a)])) rfl rfl (hb hby d9_112) tq (XS.aload X291.here hx rfl (hb hby d9_113) rfl rfl (XS.iconst X291.here hx rfl (hb hby d9_115) kq))) ?_
          obtain ⟨cl300, Ar300, -, -, hin300, hat300⟩ := V291.at (j := (0 : Int32)) (v := (.int (2 : Int32))) (by decide) rfl
          refine own_go (S' := (T291.setTop (mkF m 128 #[.val (.ref a), .val (.ref b), .val (.int (4 : Int32)), .val (.int (Int32.ofNat kk)), .val (.ref b101), .val (.int (2 : Int32))] [(.int (1 : Int32)), (.ref a)]))) (fun tq kq => X291.iaload hx (j := (0 : Int32)) (v := (.int (2 : Int32))) (by rw [e291]; exact Ar300.1) (State.isArrayOf_alike hZ.alike Ar300.2.1) Ar300.2.2 hin300 hat300 (g := (mkF m 116 #[.val (.ref a), .val (.ref b), .val (.int (4 : Int32)), .val (.int (Int32.ofNat kk)), .val (.ref b101), .val (.int (2 : Int32))] [(.int (0 : Int32)), (.ref b101), (.int (2 : Int32))])) rfl rfl (hb hby d9_116) tq (XS.icmpNo X291.here hx rfl (hb hby d9_117) rfl (teq (by decide : (2 : Int32) = (2 : Int32))).2 (XS.iload X291.here hx rfl (hb hby d9_120) rfl (XS.iconst X291.here hx rfl (hb hby d9_122) (XS.icmpNo X291.here hx rfl (hb hby d9_123) rfl (flt (by decide : ¬ ((2 : Int32) < (2 : Int32)))).1 (XS.aloadN X291.here hx rfl (hb hby d9_126) rfl rfl (XS.iconst X291.here hx rfl (hb hby d9_127) kq))))))) ?_
          obtain ⟨cl301, Ar301, -, -, hin301, hat301⟩ := f297.at (j := (1 : Int32)) (v := (.int (3 : Int32))) (by decide) rfl
          refine own_go (S' := (T291.setTop (mkF m 132 #[.val (.ref a), .val (.ref b), .val (.int (4 : Int32)), .val (.int (Int32.ofNat kk)), .val (.ref b101), .val (.int (2 : Int32))] [(.int (1 : Int32)), (.ref b101), (.int (3 : Int32))]))) (fun tq kq => X291.iaload hx (j := (1 : Int32)) (v := (.int (3 : Int32))) (by rw [e291]; exact Ar301.1) (State.isArrayOf_alike hZ.alike Ar301.2.1) Ar301.2.2 hin301 hat301 (g := (mkF m 128 #[.val (.ref a), .val (.ref b), .val (.int (4 : Int32)), .val (.int (Int32.ofNat kk)), .val (.ref b101), .val (.int (2 : Int32))] [(.int (1 : Int32)), (.ref a)])) rfl rfl (hb hby d9_128) tq (XS.aload X291.here hx rfl (hb hby d9_129) rfl rfl (XS.iconst X291.here hx rfl (hb hby d9_131) kq))) ?_
          obtain ⟨cl302, Ar302, -, -, hin302, hat302⟩ := V291.at (j := (1 : Int32)) (v := (.int (3 : Int32))) (by decide) rfl
          refine own_go (S' := (T291.setTop (mkF m 173 #[.val (.ref a), .val (.ref b), .val (.int (4 : Int32)), .val (.int (Int32.ofNat kk)), .val (.ref b101), .val (.int (2 : Int32))] [(.int (1 : Int32))]))) (fun tq kq => X291.iaload hx (j := (1 : Int32)) (v := (.int (3 : Int32))) (by rw [e291]; exact Ar302.1) (State.isArrayOf_alike hZ.alike Ar302.2.1) Ar302.2.2 hin302 hat302 (g := (mkF m 132 #[.val (.ref a), .val (.ref b), .val (.int (4 : Int32)), .val (.int (Int32.ofNat kk)), .val (.ref b101), .val (.int (2 : Int32))] [(.int (1 : Int32)), (.ref b101), (.int (3 : Int32))])) rfl rfl (hb hby d9_132) tq (XS.icmpNo X291.here hx rfl (hb hby d9_133) rfl (teq (by decide : (3 : Int32) = (3 : Int32))).2 (XS.iload X291.here hx rfl (hb hby d9_136) rfl (XS.iconst X291.here hx rfl (hb hby d9_138) (XS.icmpYes X291.here hx rfl (pc0 := 139) (pc' := 152) rfl (hb hby d9_139) rfl (tlt (by decide : (2 : Int32) < (3 : Int32))).1 (by decide) (by decide) (XS.iload X291.here hx rfl (hb hby d9_152) rfl (XS.iconst X291.here hx rfl (hb hby d9_154) (XS.icmpYes X291.here hx rfl (pc0 := 155) (pc' := 168) rfl (hb hby d9_155) rfl (tlt (by decide : (2 : Int32) < (4 : Int32))).1 (by decide) (by decide) (XS.iconst X291.here hx rfl (hb hby d9_168) (XS.goto X291.here hx rfl (pc0 := 169) (pc' := 173) rfl (hb hby d9_169) (by decide) (by decide) kq)))))))))) ?_
          refine own_retN X291 hx hlk hret (by simp) (hb hby d9_173) (by decide) (by decide) ?_
          rw [e291]
          exact ⟨rfl, N291, K291⟩
        · refine own_go (S' := (T287.setTop (mkF m 91 #[.val (.ref a), .val (.ref b), .val (.int (4 : Int32)), .val (.int (Int32.ofNat kk)), .val (.ref b101), .val (.int (1 : Int32))] []))) (fun tq kq => XS.icmpYes X287.here hx rfl (pc0 := 79) (pc' := 91) rfl (hb hby d9_79) rfl (feq hc290).2 (by decide) (by decide) kq) ?_
          have hq304 : ¬ (q0 = kk) := fun z => hc104 (congrArg Int32.ofNat z)
          have hq305 : ¬ (q1 = kk) := fun z => hc228 (congrArg Int32.ofNat z)
          have hq306 : q2 = kk := (own_eqN (by omega) (by omega)).mp hc286
          have hq307 : ¬ (q3 = kk) := fun z => hc290 (congrArg Int32.ofNat z)
          have ex303 : own_ex [q0, q1, q2, q3] kk = [2] := by
            simp only [own_ex, List.length_cons, List.length_nil]
            simp [List.range_succ, List.filter_append, List.getD, hq304, hq305, hq306, hq307]
          rw [ex303] at Va
          refine own_go (S' := (T287.setTop (mkF m 96 #[.val (.ref a), .val (.ref b), .val (.int (4 : Int32)), .val (.int (Int32.ofNat kk)), .val (.ref b101), .val (.int (1 : Int32))] [(.ref a)]))) (fun tq kq => XS.aloadN X287.here hx rfl (hb hby d9_91) rfl rfl (XS.ifnullNo X287.here hx rfl (hb hby d9_92) rfl (XS.aloadN X287.here hx rfl (hb hby d9_95) rfl rfl kq))) ?_
          have f308 := ((Va.ext E101).other W287 ne_a_b101)
          obtain ⟨cl309, Ar309, ln309⟩ := f308.len
          have lq309 : cl309.slots.size.toInt32 = (1 : Int32) := ln309.trans rfl
          refine own_go (S' := (T287.setTop (mkF m 112 #[.val (.ref a), .val (.ref b), .val (.int (4 : Int32)), .val (.int (Int32.ofNat kk)), .val (.ref b101), .val (.int (1 : Int32))] [(.int (0 : Int32)), (.ref a)]))) (fun tq kq => X287.arraylength hx (by rw [e287]; exact Ar309.1) (State.isArrayOf_alike hZ.alike Ar309.2.1) (g := (mkF m 96 #[.val (.ref a), .val (.ref b), .val (.int (4 : Int32)), .val (.int (Int32.ofNat kk)), .val (.ref b101), .val (.int (1 : Int32))] [(.ref a)])) rfl rfl (hb hby d9_96) tq (by rw [lq309]; exact (XS.iload X287.here hx rfl (hb hby d9_97) rfl (XS.icmpYes X287.here hx rfl (pc0 := 99) (pc' := 104) rfl (hb hby d9_99) rfl (teq (by decide : (1 : Int32) = (1 : Int32))).1 (by decide) (by decide) (XS.iload X287.here hx rfl (hb hby d9_104) rfl (XS.iconst X287.here hx rfl (hb hby d9_106) (XS.icmpNo X287.here hx rfl (hb hby d9_107) rfl (flt (by decide : ¬ ((1 : Int32) < (1 : Int32)))).1 (XS.aloadN X287.here hx rfl (hb hby d9_110) rfl rfl (XS.iconst X287.here hx rfl (hb hby d9_111) kq))))))))) ?_
          obtain ⟨cl310, Ar310, -, -, hin310, hat310⟩ := f308.at (j := (0 : Int32)) (v := (.int (2 : Int32))) (by decide) rfl
          refine own_go (S' := (T287.setTop (mkF m 116 #[.val (.ref a), .val (.ref b), .val (.int (4 : Int32)), .val (.int (Int32.ofNat kk)), .val (.ref b101), .val (.int (1 : Int32))] [(.int (0 : Int32)), (.ref b101), (.int (2 : Int32))]))) (fun tq kq => X287.iaload hx (j := (0 : Int32)) (v := (.int (2 : Int32))) (by rw [e287]; exact Ar310.1) (State.isArrayOf_alike hZ.alike Ar310.2.1) Ar310.2.2 hin310 hat310 (g := (mkF m 112 #[.val (.ref a), .val (.ref b), .val (.int (4 : Int32)), .val (.int (Int32.ofNat kk)), .val (.ref b101), .val (.int (1 : Int32))] [(.int (0 : Int32)), (.ref a)])) rfl rfl (hb hby d9_112) tq (XS.aload X287.here hx rfl (hb hby d9_113) rfl rfl (XS.iconst X287.here hx rfl (hb hby d9_115) kq))) ?_
          obtain ⟨cl311, Ar311, -, -, hin311, hat311⟩ := V287.at (j := (0 : Int32)) (v := (.int (2 : Int32))) (by decide) rfl
          refine own_go (S' := (T287.setTop (mkF m 155 #[.val (.ref a), .val (.ref b), .val (.int (4 : Int32)), .val (.int (Int32.ofNat kk)), .val (.ref b101), .val (.int (1 : Int32))] [(.int (4 : Int32)), (.int (1 : Int32))]))) (fun tq kq => X287.iaload hx (j := (0 : Int32)) (v := (.int (2 : Int32))) (by rw [e287]; exact Ar311.1) (State.isArrayOf_alike hZ.alike Ar311.2.1) Ar311.2.2 hin311 hat311 (g := (mkF m 116 #[.val (.ref a), .val (.ref b), .val (.int (4 : Int32)), .val (.int (Int32.ofNat kk)), .val (.ref b101), .val (.int (1 : Int32))] [(.int (0 : Int32)), (.ref b101), (.int (2 : Int32))])) rfl rfl (hb hby d9_116) tq (XS.icmpNo X287.here hx rfl (hb hby d9_117) rfl (teq (by decide : (2 : Int32) = (2 : Int32))).2 (XS.iload X287.here hx rfl (hb hby d9_120) rfl (XS.iconst X287.here hx rfl (hb hby d9_122) (XS.icmpYes X287.here hx rfl (pc0 := 123) (pc' := 136) rfl (hb hby d9_123) rfl (tlt (by decide : (1 : Int32) < (2 : Int32))).1 (by decide) (by decide) (XS.iload X287.here hx rfl (hb hby d9_136) rfl (XS.iconst X287.here hx rfl (hb hby d9_138) (XS.icmpYes X287.here hx rfl (pc0 := 139) (pc' := 152) rfl (hb hby d9_139) rfl (tlt (by decide : (1 : Int32) < (3 : Int32))).1 (by decide) (by decide) (XS.iload X287.here hx rfl (hb hby d9_152) rfl (XS.iconst X287.here hx rfl (hb hby d9_154) kq)))))))))) ?_
          refine own_go (S' := (T287.setTop (mkF m 173 #[.val (.ref a), .val (.ref b), .val (.int (4 : Int32)), .val (.int (Int32.ofNat kk)), .val (.ref b101), .val (.int (1 : Int32))] [(.int (1 : Int32))]))) (fun tq kq => XS.icmpYes X287.here hx rfl (pc0 := 155) (pc' := 168) rfl (hb hby d9_155) rfl (tlt (by decide : (1 : Int32) < (4 : Int32))).1 (by decide) (by decide) (XS.iconst X287.here hx rfl (hb hby d9_168) (XS.goto X287.here hx rfl (pc0 := 169) (pc' := 173) rfl (hb hby d9_169) (by decide) (by decide) kq))) ?_
          refine own_retN X287 hx hlk hret (by simp) (hb hby d9_173) (by decide) (by decide) ?_
          rw [e287]
          exact ⟨rfl, N287, K287⟩
      · refine own_go (S' := (T101.setTop (mkF m 77 #[.val (.ref a), .val (.ref b), .val (.int (4 : Int32)), .val (.int (Int32.ofNat kk)), .val (.ref b101), .val (.int (0 : Int32))] [(.int (3 : Int32)), (.ref b)]))) (fun tq kq => XS.icmpYes X101.here hx rfl (pc0 := 58) (pc' := 70) rfl (hb hby d9_58) rfl (feq hc286).2 (by decide) (by decide) (XS.iloadN X101.here hx rfl (hb hby d9_70) rfl (XS.iconst X101.here hx rfl (hb hby d9_71) (XS.icmpNo X101.here hx rfl (hb hby d9_72) rfl (tlt (by decide : (3 : Int32) < (4 : Int32))).2.2.2 (XS.aloadN X101.here hx rfl (hb hby d9_75) rfl rfl (XS.iconst X101.here hx rfl (hb hby d9_76) kq)))))) ?_
        obtain ⟨cl312, Ar312, -, -, hin312, hat312⟩ := f102.at (j := (3 : Int32)) (v := (.int (Int32.ofNat q3))) (by decide) rfl
        refine own_go (S' := (T101.setTop (mkF m 79 #[.val (.ref a), .val (.ref b), .val (.int (4 : Int32)), .val (.int (Int32.ofNat kk)), .val (.ref b101), .val (.int (0 : Int32))] [(.int (Int32.ofNat kk)), (.int (Int32.ofNat q3))]))) (fun tq kq => X101.iaload hx (j := (3 : Int32)) (v := (.int (Int32.ofNat q3))) (by rw [e101]; exact Ar312.1) (State.isArrayOf_alike hZ.alike Ar312.2.1) Ar312.2.2 hin312 hat312 (g := (mkF m 77 #[.val (.ref a), .val (.ref b), .val (.int (4 : Int32)), .val (.int (Int32.ofNat kk)), .val (.ref b101), .val (.int (0 : Int32))] [(.int (3 : Int32)), (.ref b)])) rfl rfl (hb hby d9_77) tq (XS.iloadN X101.here hx rfl (hb hby d9_78) rfl kq)) ?_
        by_cases hc313 : (Int32.ofNat q3) = (Int32.ofNat kk)
        · refine own_go (S' := (T101.setTop (mkF m 87 #[.val (.ref a), .val (.ref b), .val (.int (4 : Int32)), .val (.int (Int32.ofNat kk)), .val (.ref b101), .val (.int (0 : Int32))] [(.int (3 : Int32)), (.int (0 : Int32)), (.ref b101)]))) (fun tq kq => XS.icmpNo X101.here hx rfl (hb hby d9_79) rfl (teq hc313).2 (XS.aload X101.here hx rfl (hb hby d9_82) rfl rfl (XS.iload X101.here hx rfl (hb hby d9_84) rfl (XS.iconst X101.here hx rfl (hb hby d9_86) kq)))) ?_
          obtain ⟨cl314, Ar314, qa314, sa314, hin314, -⟩ := V101.at (j := (0 : Int32)) (by decide) rfl
          obtain ⟨T314, h314, X314, e314, W314, st314⟩ := stI X101 hx hZ e101 Ar314 (j := (0 : Int32)) hin314 (g := (mkF m 87 #[.val (.ref a), .val (.ref b), .val (.int (4 : Int32)), .val (.int (Int32.ofNat kk)), .val (.ref b101), .val (.int (0 : Int32))] [(.int (3 : Int32)), (.int (0 : Int32)), (.ref b101)])) rfl rfl (hb hby d9_87)
          have N314 := Fr.snoc X314 N0 ge_b101
          have O314 := O101.wr W314 ge_b101
          have K314 := K101.wr W314 (Or.inr gk_b101)
          have V314 : own_Ar Z h314 b101 k101 .int [(.int (3 : Int32)), (.int (0 : Int32)), (.int (0 : Int32)), (.int (0 : Int32))] := own_Ar.set Ar314 qa314 sa314 V101.small W314
          refine own_go (S' := (T314.setTop (mkF m 91 #[.val (.ref a), .val (.ref b), .val (.int (4 : Int32)), .val (.int (Int32.ofNat kk)), .val (.ref b101), .val (.int (1 : Int32))] []))) (fun tq kq => st314 tq (XS.iinc X314.here hx rfl (hb hby d9_88) rfl (l' := #[.val (.ref a), .val (.ref b), .val (.int (4 : Int32)), .val (.int (Int32.ofNat kk)), .val (.ref b101), .val (.int (1 : Int32))]) rfl kq)) ?_
          have hq316 : ¬ (q0 = kk) := fun z => hc104 (congrArg Int32.ofNat z)
          have hq317 : ¬ (q1 = kk) := fun z => hc228 (congrArg Int32.ofNat z)
          have hq318 : ¬ (q2 = kk) := fun z => hc286 (congrArg Int32.ofNat z)
          have hq319 : q3 = kk := (own_eqN (by omega) (by omega)).mp hc313
          have ex315 : own_ex [q0, q1, q2, q3] kk = [3] := by
            simp only [own_ex, List.length_cons, List.length_nil]
            simp [List.range_succ, List.filter_append, List.getD, hq316, hq317, hq318, hq319]
          rw [ex315] at Va
          refine own_go (S' := (T314.setTop (mkF m 96 #[.val (.ref a), .val (.ref b), .val (.int (4 : Int32)), .val (.int (Int32.ofNat kk)), .val (.ref b101), .val (.int (1 : Int32))] [(.ref a)]))) (fun tq kq => XS.aloadN X314.here hx rfl (hb hby d9_91) rfl rfl (XS.ifnullNo X314.here hx rfl (hb hby d9_92) rfl (XS.aloadN X314.here hx rfl (hb hby d9_95) rfl rfl kq))) ?_
          have f320 := ((Va.ext E101).other W314 ne_a_b101)
          obtain ⟨cl321, Ar321, ln321⟩ := f320.len
          have lq321 : cl321.slots.size.toInt32 = (1 : Int32) := ln321.trans rfl
          refine own_go (S' := (T314.setTop (mkF m 112 #[.val (.ref a), .val (.ref b), .val (.int (4 : Int32)), .val (.int (Int32.ofNat kk)), .val (.ref b101), .val (.int (1 : Int32))] [(.int (0 : Int32)), (.ref a)]))) (fun tq kq => X314.arraylength hx (by rw [e314]; exact Ar321.1) (State.isArrayOf_alike hZ.alike Ar321.2.1) (g := (mkF m 96 #[.val (.ref a), .val (.ref b), .val (.int (4 : Int32)), .val (.int (Int32.ofNat kk)), .val (.ref b101), .val (.int (1 : Int32))] [(.ref a)])) rfl rfl (hb hby d9_96) tq (by rw [lq321]; exact (XS.iload X314.here hx rfl (hb hby d9_97) rfl (XS.icmpYes X314.here hx rfl (pc0 := 99) (pc' := 104) rfl (hb hby d9_99) rfl (teq (by decide : (1 : Int32) = (1 : Int32))).1 (by decide) (by decide) (XS.iload X314.here hx rfl (hb hby d9_104) rfl (XS.iconst X314.here hx rfl (hb hby d9_106) (XS.icmpNo X314.here hx rfl (hb hby d9_107) rfl (flt (by decide : ¬ ((1 : Int32) < (1 : Int32)))).1 (XS.aloadN X314.here hx rfl (hb hby d9_110) rfl rfl (XS.iconst X314.here hx rfl (hb hby d9_111) kq))))))))) ?_
          obtain ⟨cl322, Ar322, -, -, hin322, hat322⟩ := f320.at (j := (0 : Int32)) (v := (.int (3 : Int32))) (by decide) rfl
          refine own_go (S' := (T314.setTop (mkF m 116 #[.val (.ref a), .val (.ref b), .val (.int (4 : Int32)), .val (.int (Int32.ofNat kk)), .val (.ref b101), .val (.int (1 : Int32))] [(.int (0 : Int32)), (.ref b101), (.int (3 : Int32))]))) (fun tq kq => X314.iaload hx (j := (0 : Int32)) (v := (.int (3 : Int32))) (by rw [e314]; exact Ar322.1) (State.isArrayOf_alike hZ.alike Ar322.2.1) Ar322.2.2 hin322 hat322 (g := (mkF m 112 #[.val (.ref a), .val (.ref b), .val (.int (4 : Int32)), .val (.int (Int32.ofNat kk)), .val (.ref b101), .val (.int (1 : Int32))] [(.int (0 : Int32)), (.ref a)])) rfl rfl (hb hby d9_112) tq (XS.aload X314.here hx rfl (hb hby d9_113) rfl rfl (XS.iconst X314.here hx rfl (hb hby d9_115) kq))) ?_
          obtain ⟨cl323, Ar323, -, -, hin323, hat323⟩ := V314.at (j := (0 : Int32)) (v := (.int (3 : Int32))) (by decide) rfl
          refine own_go (S' := (T314.setTop (mkF m 155 #[.val (.ref a), .val (.ref b), .val (.int (4 : Int32)), .val (.int (Int32.ofNat kk)), .val (.ref b101), .val (.int (1 : Int32))] [(.int (4 : Int32)), (.int (1 : Int32))]))) (fun tq kq => X314.iaload hx (j := (0 : Int32)) (v := (.int (3 : Int32))) (by rw [e314]; exact Ar323.1) (State.isArrayOf_alike hZ.alike Ar323.2.1) Ar323.2.2 hin323 hat323 (g := (mkF m 116 #[.val (.ref a), .val (.ref b), .val (.int (4 : Int32)), .val (.int (Int32.ofNat kk)), .val (.ref b101), .val (.int (1 : Int32))] [(.int (0 : Int32)), (.ref b101), (.int (3 : Int32))])) rfl rfl (hb hby d9_116) tq (XS.icmpNo X314.here hx rfl (hb hby d9_117) rfl (teq (by decide : (3 : Int32) = (3 : Int32))).2 (XS.iload X314.here hx rfl (hb hby d9_120) rfl (XS.iconst X314.here hx rfl (hb hby d9_122) (XS.icmpYes X314.here hx rfl (pc0 := 123) (pc' := 136) rfl (hb hby d9_123) rfl (tlt (by decide : (1 : Int32) < (2 : Int32))).1 (by decide) (by decide) (XS.iload X314.here hx rfl (hb hby d9_136) rfl (XS.iconst X314.here hx rfl (hb hby d9_138) (XS.icmpYes X314.here hx rfl (pc0 := 139) (pc' := 152) rfl (hb hby d9_139) rfl (tlt (by decide : (1 : Int32) < (3 : Int32))).1 (by decide) (by decide) (XS.iload X314.here hx rfl (hb hby d9_152) rfl (XS.iconst X314.here hx rfl (hb hby d9_154) kq)))))))))) ?_
          refine own_go (S' := (T314.setTop (mkF m 173 #[.val (.ref a), .val (.ref b), .val (.int (4 : Int32)), .val (.int (Int32.ofNat kk)), .val (.ref b101), .val (.int (1 : Int32))] [(.int (1 : Int32))]))) (fun tq kq => XS.icmpYes X314.here hx rfl (pc0 := 155) (pc' := 168) rfl (hb hby d9_155) rfl (tlt (by decide : (1 : Int32) < (4 : Int32))).1 (by decide) (by decide) (XS.iconst X314.here hx rfl (hb hby d9_168) (XS.goto X314.here hx rfl (pc0 := 169) (pc' := 173) rfl (hb hby d9_169) (by decide) (by decide) kq))) ?_
          refine own_retN X314 hx hlk hret (by simp) (hb hby d9_173) (by decide) (by decide) ?_
          rw [e314]
          exact ⟨rfl, N314, K314⟩
        · refine own_go (S' := (T101.setTop (mkF m 91 #[.val (.ref a), .val (.ref b), .val (.int (4 : Int32)), .val (.int (Int32.ofNat kk)), .val (.ref b101), .val (.int (0 : Int32))] []))) (fun tq kq => XS.icmpYes X101.here hx rfl (pc0 := 79) (pc' := 91) rfl (hb hby d9_79) rfl (feq hc313).2 (by decide) (by decide) kq) ?_
          have hq325 : ¬ (q0 = kk) := fun z => hc104 (congrArg Int32.ofNat z)
          have hq326 : ¬ (q1 = kk) := fun z => hc228 (congrArg Int32.ofNat z)
          have hq327 : ¬ (q2 = kk) := fun z => hc286 (congrArg Int32.ofNat z)
          have hq328 : ¬ (q3 = kk) := fun z => hc313 (congrArg Int32.ofNat z)
          have ex324 : own_ex [q0, q1, q2, q3] kk = [] := by
            simp only [own_ex, List.length_cons, List.length_nil]
            simp [List.range_succ, List.filter_append, List.getD, hq325, hq326, hq327, hq328]
          rw [ex324] at Va
          refine own_go (S' := (T101.setTop (mkF m 96 #[.val (.ref a), .val (.ref b), .val (.int (4 : Int32)), .val (.int (Int32.ofNat kk)), .val (.ref b101), .val (.int (0 : Int32))] [(.ref a)]))) (fun tq kq => XS.aloadN X101.here hx rfl (hb hby d9_91) rfl rfl (XS.ifnullNo X101.here hx rfl (hb hby d9_92) rfl (XS.aloadN X101.here hx rfl (hb hby d9_95) rfl rfl kq))) ?_
          have f329 := (Va.ext E101)
          obtain ⟨cl330, Ar330, ln330⟩ := f329.len
          have lq330 : cl330.slots.size.toInt32 = (0 : Int32) := ln330.trans rfl
          refine own_go (S' := (T101.setTop (mkF m 138 #[.val (.ref a), .val (.ref b), .val (.int (4 : Int32)), .val (.int (Int32.ofNat kk)), .val (.ref b101), .val (.int (0 : Int32))] [(.int (0 : Int32))]))) (fun tq kq => X101.arraylength hx (by rw [e101]; exact Ar330.1) (State.isArrayOf_alike hZ.alike Ar330.2.1) (g := (mkF m 96 #[.val (.ref a), .val (.ref b), .val (.int (4 : Int32)), .val (.int (Int32.ofNat kk)), .val (.ref b101), .val (.int (0 : Int32))] [(.ref a)])) rfl rfl (hb hby d9_96) tq (by rw [lq330]; exact (XS.iload X101.here hx rfl (hb hby d9_97) rfl (XS.icmpYes X101.here hx rfl (pc0 := 99) (pc' := 104) rfl (hb hby d9_99) rfl (teq (by decide : (0 : Int32) = (0 : Int32))).1 (by decide) (by decide) (XS.iload X101.here hx rfl (hb hby d9_104) rfl (XS.iconst X101.here hx rfl (hb hby d9_106) (XS.icmpYes X101.here hx rfl (pc0 := 107) (pc' := 120) rfl (hb hby d9_107) rfl (tlt (by decide : (0 : Int32) < (1 : Int32))).1 (by decide) (by decide) (XS.iload X101.here hx rfl (hb hby d9_120) rfl (XS.iconst X101.here hx rfl (hb hby d9_122) (XS.icmpYes X101.here hx rfl (pc0 := 123) (pc' := 136) rfl (hb hby d9_123) rfl (tlt (by decide : (0 : Int32) < (2 : Int32))).1 (by decide) (by decide) (XS.iload X101.here hx rfl (hb hby d9_136) rfl kq))))))))))) ?_
          refine own_go (S' := (T101.setTop (mkF m 173 #[.val (.ref a), .val (.ref b), .val (.int (4 : Int32)), .val (.int (Int32.ofNat kk)), .val (.ref b101), .val (.int (0 : Int32))] [(.int (1 : Int32))]))) (fun tq kq => XS.iconst X101.here hx rfl (hb hby d9_138) (XS.icmpYes X101.here hx rfl (pc0 := 139) (pc' := 152) rfl (hb hby d9_139) rfl (tlt (by decide : (0 : Int32) < (3 : Int32))).1 (by decide) (by decide) (XS.iload X101.here hx rfl (hb hby d9_152) rfl (XS.iconst X101.here hx rfl (hb hby d9_154) (XS.icmpYes X101.here hx rfl (pc0 := 155) (pc' := 168) rfl (hb hby d9_155) rfl (tlt (by decide : (0 : Int32) < (4 : Int32))).1 (by decide) (by decide) (XS.iconst X101.here hx rfl (hb hby d9_168) (XS.goto X101.here hx rfl (pc0 := 169) (pc' := 173) rfl (hb hby d9_169) (by decide) (by decide) kq))))))) ?_
          refine own_retN X101 hx hlk hret (by simp) (hb hby d9_173) (by decide) (by decide) ?_
          rw [e101]
          exact ⟨rfl, N0, K101⟩
theorem pn_rm0 : plainName "com/example/vestwright/vestwright/cli/TableRowsByKeyPinLaw" = true := by first | (simp [plainName, overriddenIn]; done) | decide +kernel
theorem ef_rm0 (m : MethodId) (p0 : Int32) (p1 : Int32) (p2 : Int32) (p3 : Int32) (p4 : Int32) : entryFrame m #[(.int p0), (.int p1), (.int p2), (.int p3), (.int p4)] maxLocals = mkF m 0 #[.val (.int p0), .val (.int p1), .val (.int p2), .val (.int p3), .val (.int p4), .unset, .unset, .unset, .unset, .unset, .unset, .unset] [] := by first | (simp [entryFrame, mkF, argsToLocals, Value.category, maxLocals]; done) | rfl
def Q_rm0 (Z : State) (h0 : Heap) (n0 : Nat) (p0 : Int32) (p1 : Int32) (p2 : Int32) (p3 : Int32) (p4 : Int32) (v : Option Value) (h : Heap) (L : List Loc) : Prop := v = some (.int 1) ∧ Fr n0 L
set_option maxRecDepth 65536 in
set_option maxHeartbeats 40000000 in
theorem rm0 (l : Launch) (Z : State) (a0 : Array Value) (hw : ∀ d ∈ tables_1, d.before a0 Z = true) (ws : List Jvm.Cond) (h0 : Heap) (n0 : Nat) (O0 : Old Z n0 h0) (p0 : Int32) (p1 : Int32) (p2 : Int32) (p3 : Int32) (p4 : Int32)  :
    MetFree l x (head1 (Jvm.Cond.code x code maxLocals ret :: ws) room_1) (fun aq U => aq = #[(.int p0), (.int p1), (.int p2), (.int p3), (.int p4)] ∧ Z.Warmed39 U.vm ∧ U.heap = h0) (fun _ _ _ _ _ => True) (fun _ U o U' => ∃ v L, o = .returned v ∧ Q_rm0 Z h0 n0 p0 p1 p2 p3 p4 v U'.heap L ∧ FrameEnd U o U' L room_1.cells room_1.slots) := by
  refine MetFree.of_bodySF (plainFor_of_name pn_rm0) hisR ?_
  intro p e s m args below meth c s₁ Bd hml0 hP hK
  obtain ⟨rfl, hZ, hh⟩ := hP
  have hx := Bd.exec
  have hby := Bd.bytes
  have hml : c.maxLocals = 12 := hml0
  have hown : s.vm.findClass "com/example/vestwright/vestwright/cli/TableRowsByKeyPinLaw" = some m.cls := findClass_of_methodNamed Bd.named
  have hnm := (name_of_methodNamed Bd.named Bd.method).1
  have hlk := Bd.notSynchronized
  have hret := Bd.returns
  have X0 : Stand p l e room_1 s m #[(.int p0), (.int p1), (.int p2), (.int p3), (.int p4)] below meth c s₁ [] 0 0 := Stand.of_body Bd
  have e0 : s₁.heap = h0 := by rw [← hh, Bd.state]; rfl
  have N0 := Fr.nil n0
  have K0 := Keep.refl h0 []
  refine own_go (S' := (s₁.setTop (mkF m 0 #[.val (.int p0), .val (.int p1), .val (.int p2), .val (.int p3), .val (.int p4), .unset, .unset, .unset, .unset, .unset, .unset, .unset] []))) (fun tq kq => castTop (ef_rm0 m p0 p1 p2 p3 p4) kq) ?_
  show own_G p e s below (Q_rm0 Z h0 n0 p0 p1 p2 p3 p4) _ _ _
  refine own_go (S' := (s₁.setTop (mkF m 12 #[.val (.int p0), .val (.int p1), .val (.int p2), .val (.int p3), .val (.int p4), .val (.int ((p0 &&& (7 : Int32)) % (5 : Int32))), .unset, .unset, .unset, .unset, .unset, .unset] [(.int ((p0.toUInt32 >>> ((3 : Int32) &&& 31).toUInt32).toInt32)), (.int (1 : Int32))]))) (fun tq kq => XS.iloadN X0.here hx rfl (hb hby at_0) rfl (XS.bipush X0.here hx rfl (hb hby at_1) (XS.iand X0.here hx rfl (hb hby at_3) rfl (XS.iconst X0.here hx rfl (hb hby at_4) (iremM X0 hx rfl (hb hby at_5) rfl (by decide) (XS.istore X0.here hx rfl (hb hby at_6) rfl (l' := #[.val (.int p0), .val (.int p1), .val (.int p2), .val (.int p3), .val (.int p4), .val (.int ((p0 &&& (7 : Int32)) % (5 : Int32))), .unset, .unset, .unset, .unset, .unset, .unset]) rfl (XS.iconst X0.here hx rfl (hb hby at_8) (XS.iloadN X0.here hx rfl (hb hby at_9) rfl (XS.iconst X0.here hx rfl (hb hby at_10) (XS.iushr X0.here hx rfl (hb hby at_11) rfl kq)))))))))) ?_
  refine own_go (S' := (s₁.setTop (mkF m 17 #[.val (.int p0), .val (.int p1), .val (.int p2), .val (.int p3), .val (.int p4), .val (.int ((p0 &&& (7 : Int32)) % (5 : Int32))), .unset, .unset, .unset, .unset, .unset, .unset] [(.int ((1 : Int32) + ((((p0.toUInt32 >>> ((3 : Int32) &&& 31).toUInt32).toInt32) &&& (3 : Int32)) % (3 : Int32))))]))) (fun tq kq => XS.iconst X0.here hx rfl (hb hby at_12) (XS.iand X0.here hx rfl (hb hby at_13) rfl (XS.iconst X0.here hx rfl (hb hby at_14) (iremM X0 hx rfl (hb hby at_15) rfl (by decide) (XS.iadd X0.here hx rfl (hb hby at_16) rfl kq))))) ?_
  obtain ⟨kn, hk1, hk3, ekn⟩ := own_kn3 ((p0.toUInt32 >>> ((3 : Int32) &&& 31).toUInt32).toInt32)
  rw [ekn]
  have hkn0 : Int32.ofNat kn ≠ 0 := fun q => absurd ((own_eqN (by omega) (by decide) : Int32.ofNat kn = Int32.ofNat 0 ↔ _).mp q) (by omega)
  refine own_go (S' := (s₁.setTop (mkF m 20 #[.val (.int p0), .val (.int p1), .val (.int p2), .val (.int p3), .val (.int p4), .val (.int ((p0 &&& (7 : Int32)) % (5 : Int32))), .val (.int (Int32.ofNat (kn))), .unset, .unset, .unset, .unset, .unset] [(.int (4 : Int32))]))) (fun tq kq => XS.istore X0.here hx rfl (hb hby at_17) rfl (l' := #[.val (.int p0), .val (.int p1), .val (.int p2), .val (.int p3), .val (.int p4), .val (.int ((p0 &&& (7 : Int32)) % (5 : Int32))), .val (.int (Int32.ofNat (kn))), .unset, .unset, .unset, .unset, .unset]) rfl (XS.iconst X0.here hx rfl (hb hby at_19) kq)) ?_
  obtain ⟨T101, h101, k101, X101, e101, E101, A101, st101⟩ := newP X0 hx hZ (hw _ (List.mem_of_getElem? (i := 0) rfl)) e0 (g := (mkF m 20 #[.val (.int p0), .val (.int p1), .val (.int p2), .val (.int p3), .val (.int p4), .val (.int ((p0 &&& (7 : Int32)) % (5 : Int32))), .val (.int (Int32.ofNat (kn))), .unset, .unset, .unset, .unset, .unset] [(.int (4 : Int32))])) rfl (hb hby at_20) rfl (by decide) (cap := 4) (by decide) (by decide) (by decide) (by decide)
  obtain ⟨b101, g101⟩ : ∃ z, z = h0.size := ⟨_, rfl⟩
  rw [← g101] at A101 st101
  have ge_b101 : n0 ≤ b101 := Nat.le_trans (own_osz O0) (Nat.le_of_eq g101.symm)
  have gk_b101 : h0.size ≤ b101 := Nat.le_trans K0.1 (Nat.le_of_eq g101.symm)
  have V101 : own_Ar Z h101 b101 k101 .int [(.int (0 : Int32)), (.int (0 : Int32)), (.int (0 : Int32)), (.int (0 : Int32))] := own_Ar.new A101 (by decide)
  have O101 := O0.ext E101
  have K101 := K0.ext E101
  refine own_go (S' := (T101.setTop (mkF m 34 #[.val (.int p0), .val (.int p1), .val (.int p2), .val (.int p3), .val (.int p4), .val (.int ((p0 &&& (7 : Int32)) % (5 : Int32))), .val (.int (Int32.ofNat (kn))), .val (.ref b101), .unset, .unset, .unset, .unset] [(.int ((p1 &&& (2147483647 : Int32)) % (Int32.ofNat (kn)))), (.int (0 : Int32)), (.ref b101)]))) (fun tq kq => st101 tq (XS.astore X101.here hx rfl (hb hby at_22) rfl rfl (l' := #[.val (.int p0), .val (.int p1), .val (.int p2), .val (.int p3), .val (.int p4), .val (.int ((p0 &&& (7 : Int32)) % (5 : Int32))), .val (.int (Int32.ofNat (kn))), .val (.ref b101), .unset, .unset, .unset, .unset]) rfl (XS.aload X101.here hx rfl (hb hby at_24) rfl rfl (XS.iconst X101.here hx rfl (hb hby at_26) (XS.iloadN X101.here hx rfl (hb hby at_27) rfl (X101.ldcInt hx hown (mvT hZ (hw _ (List.mem_of_getElem? (i := 1) rfl))) (g := (mkF m 28 #[.val (.int p0), .val (.int p1), .val (.int p2), .val (.int p3), .val (.int p4), .val (.int ((p0 &&& (7 : Int32)) % (5 : Int32))), .val (.int (Int32.ofNat (kn))), .val (.ref b101), .unset, .unset, .unset, .unset] [(.int p1), (.int (0 : Int32)), (.ref b101)])) rfl (hb hby at_28) tq (XS.iand X101.here hx rfl (hb hby at_30) rfl (XS.iload X101.here hx rfl (hb hby at_31) rfl (iremM X101 hx rfl (hb hby at_33) rfl hkn0 kq))))))))) ?_
  obtain ⟨q0, hq0, eq0⟩ := own_key p1 kn hk1 hk3
  rw [eq0]
  obtain ⟨cl102, Ar102, qa102, sa102, hin102, -⟩ := V101.at (j := (0 : Int32)) (by decide) rfl
  obtain ⟨T102, h102, X102, e102, W102, st102⟩ := stI X101 hx hZ e101 Ar102 (j := (0 : Int32)) hin102 (g := (mkF m 34 #[.val (.int p0), .val (.int p1), .val (.int p2), .val (.int p3), .val (.int p4), .val (.int ((p0 &&& (7 : Int32)) % (5 : Int32))), .val (.int (Int32.ofNat (kn))), .val (.ref b101), .unset, .unset, .unset, .unset] [(.int (Int32.ofNat q0)), (.int (0 : Int32)), (.ref b101)])) rfl rfl (hb hby at_34)
  have N102 := Fr.snoc X102 N0 ge_b101
  have O102 := O101.wr W102 ge_b101
  have K102 := K101.wr W102 (Or.inr gk_b101)
  have V102 : own_Ar Z h102 b101 k101 .int [(.int (Int32.ofNat q0)), (.int (0 : Int32)), (.int (0 : Int32)), (.int (0 : Int32))] := own_Ar.set Ar102 qa102 sa102 V101.small W102
  refine own_go (S' := (T102.setTop (mkF m 45 #[.val (.int p0), .val (.int p1), .val (.int p2), .val (.int p3), .val (.int p4), .val (.int ((p0 &&& (7 : Int32)) % (5 : Int32))), .val (.int (Int32.ofNat (kn))), .val (.ref b101), .unset, .unset, .unset, .unset] [(.int ((p2 &&& (2147483647 : Int32)) % (Int32.ofNat (kn)))), (.int (1 : Int32)), (.ref b101)]))) (fun tq kq => st102 tq (XS.aload X102.here hx rfl (hb hby at_35) rfl rfl (XS.iconst X102.here hx rfl (hb hby at_37) (XS.iloadN X102.here hx rfl (hb hby at_38) rfl (X102.ldcInt hx hown (mvT hZ (hw _ (List.mem_of_getElem? (i := 1) rfl))) (g := (mkF m 39 #[.val (.int p0), .val (.int p1), .val (.int p2), .val (.int p3), .val (.int p4), .val (.int ((p0 &&& (7 : Int32)) % (5 : Int32))), .val (.int (Int32.ofNat (kn))), .val (.ref b101), .unset, .unset, .unset, .unset] [(.int p2), (.int (1 : Int32)), (.ref b101)])) rfl (hb hby at_39) tq (XS.iand X102.here hx rfl (hb hby at_41) rfl (XS.iload X102.here hx rfl (hb hby at_42) rfl (iremM X102 hx rfl (hb hby at_44) rfl hkn0 kq)))))))) ?_
  obtain ⟨q1, hq1, eq1⟩ := own_key p2 kn hk1 hk3
  rw [eq1]
  obtain ⟨cl103, Ar103, qa103, sa103, hin103, -⟩ := V102.at (j := (1 : Int32)) (by decide) rfl
  obtain ⟨T103, h103, X103, e103, W103, st103⟩ := stI X102 hx hZ e102 Ar103 (j := (1 : Int32)) hin103 (g := (mkF m 45 #[.val (.int p0), .val (.int p1), .val (.int p2), .val (.int p3), .val (.int p4), .val (.int ((p0 &&& (7 : Int32)) % (5 : Int32))), .val (.int (Int32.ofNat (kn))), .val (.ref b101), .unset, .unset, .unset, .unset] [(.int (Int32.ofNat q1)), (.int (1 : Int32)), (.ref b101)])) rfl rfl (hb hby at_45)
  have N103 := Fr.snoc X103 N102 ge_b101
  have O103 := O102.wr W103 ge_b101
  have K103 := K102.wr W103 (Or.inr gk_b101)
  have V103 : own_Ar Z h103 b101 k101 .int [(.int (Int32.ofNat q0)), (.int (Int32.ofNat q1)), (.int (0 : Int32)), (.int (0 : Int32))] := own_Ar.set Ar103 qa103 sa103 V102.small W103
  refine own_go (S' := (T103.setTop (mkF m 56 #[.val (.int p0), .val (.int p1), .val (.int p2), .val (.int p3), .val (.int p4), .val (.int ((p0 &&& (7 : Int32)) % (5 : Int32))), .val (.int (Int32.ofNat (kn))), .val (.ref b101), .unset, .unset, .unset, .unset] [(.int ((p3 &&& (2147483647 : Int32)) % (Int32.ofNat (kn)))), (.int (2 : Int32)), (.ref b101)]))) (fun tq kq => st103 tq (XS.aload X103.here hx rfl (hb hby at_46) rfl rfl (XS.iconst X103.here hx rfl (hb hby at_48) (XS.iloadN X103.here hx rfl (hb hby at_49) rfl (X103.ldcInt hx hown (mvT hZ (hw _ (List.mem_of_getElem? (i := 1) rfl))) (g := (mkF m 50 #[.val (.int p0), .val (.int p1), .val (.int p2), .val (.int p3), .val (.int p4), .val (.int ((p0 &&& (7 : Int32)) % (5 : Int32))), .val (.int (Int32.ofNat (kn))), .val (.ref b101), .unset, .unset, .unset, .unset] [(.int p3), (.int (2 : Int32)), (.ref b101)])) rfl (hb hby at_50) tq (XS.iand X103.here hx rfl (hb hby at_52) rfl (XS.iload X103.here hx rfl (hb hby at_53) rfl (iremM X103 hx rfl (hb hby at_55) rfl hkn0 kq)))))))) ?_
  obtain ⟨q2, hq2, eq2⟩ := own_key p3 kn hk1 hk3
  rw [eq2]
  obtain ⟨cl104, Ar104, qa104, sa104, hin104, -⟩ := V103.at (j := (2 : Int32)) (by decide) rfl
  obtain ⟨T104, h104, X104, e104, W104, st104⟩ := stI X103 hx hZ e103 Ar104 (j := (2 : Int32)) hin104 (g := (mkF m 56 #[.val (.int p0), .val (.int p1), .val (.int p2), .val (.int p3), .val (.int p4), .val (.int ((p0 &&& (7 : Int32)) % (5 : Int32))), .val (.int (Int32.ofNat (kn))), .val (.ref b101), .unset, .unset, .unset, .unset] [(.int (Int32.ofNat q2)), (.int (2 : Int32)), (.ref b101)])) rfl rfl (hb hby at_56)
  have N104 := Fr.snoc X104 N103 ge_b101
  have O104 := O103.wr W104 ge_b101
  have K104 := K103.wr W104 (Or.inr gk_b101)
  have V104 : own_Ar Z h104 b101 k101 .int [(.int (Int32.ofNat q0)), (.int (Int32.ofNat q1)), (.int (Int32.ofNat q2)), (.int (0 : Int32))] := own_Ar.set Ar104 qa104 sa104 V103.small W104
  refine own_go (S' := (T104.setTop (mkF m 68 #[.val (.int p0), .val (.int p1), .val (.int p2), .val (.int p3), .val (.int p4), .val (.int ((p0 &&& (7 : Int32)) % (5 : Int32))), .val (.int (Int32.ofNat (kn))), .val (.ref b101), .unset, .unset, .unset, .unset] [(.int ((p4 &&& (2147483647 : Int32)) % (Int32.ofNat (kn)))), (.int (3 : Int32)), (.ref b101)]))) (fun tq kq => st104 tq (XS.aload X104.here hx rfl (hb hby at_57) rfl rfl (XS.iconst X104.here hx rfl (hb hby at_59) (XS.iload X104.here hx rfl (hb hby at_60) rfl (X104.ldcInt hx hown (mvT hZ (hw _ (List.mem_of_getElem? (i := 1) rfl))) (g := (mkF m 62 #[.val (.int p0), .val (.int p1), .val (.int p2), .val (.int p3), .val (.int p4), .val (.int ((p0 &&& (7 : Int32)) % (5 : Int32))), .val (.int (Int32.ofNat (kn))), .val (.ref b101), .unset, .unset, .unset, .unset] [(.int p4), (.int (3 : Int32)), (.ref b101)])) rfl (hb hby at_62) tq (XS.iand X104.here hx rfl (hb hby at_64) rfl (XS.iload X104.here hx rfl (hb hby at_65) rfl (iremM X104 hx rfl (hb hby at_67) rfl hkn0 kq)))))))) ?_
  obtain ⟨q3, hq3, eq3⟩ := own_key p4 kn hk1 hk3
  rw [eq3]
  obtain ⟨cl105, Ar105, qa105, sa105, hin105, -⟩ := V104.at (j := (3 : Int32)) (by decide) rfl
  obtain ⟨T105, h105, X105, e105, W105, st105⟩ := stI X104 hx hZ e104 Ar105 (j := (3 : Int32)) hin105 (g := (mkF m 68 #[.val (.int p0), .val (.int p1), .val (.int p2), .val (.int p3), .val (.int p4), .val (.int ((p0 &&& (7 : Int32)) % (5 : Int32))), .val (.int (Int32.ofNat (kn))), .val (.ref b101), .unset, .unset, .unset, .unset] [(.int (Int32.ofNat q3)), (.int (3 : Int32)), (.ref b101)])) rfl rfl (hb hby at_68)
  have N105 := Fr.snoc X105 N104 ge_b101
  have O105 := O104.wr W105 ge_b101
  have K105 := K104.wr W105 (Or.inr gk_b101)
  have V105 : own_Ar Z h105 b101 k101 .int [(.int (Int32.ofNat q0)), (.int (Int32.ofNat q1)), (.int (Int32.ofNat q2)), (.int (Int32.ofNat q3))] := own_Ar.set Ar105 qa105 sa105 V104.small W105
  refine own_go (S' := (T105.setTop (mkF m 69 #[.val (.int p0), .val (.int p1), .val (.int p2), .val (.int p3), .val (.int p4), .val (.int ((p0 &&& (7 : Int32)) % (5 : Int32))), .val (.int (Int32.ofNat (kn))), .val (.ref b101), .unset, .unset, .unset, .unset] []))) (fun tq kq => st105 tq kq) ?_
  obtain ⟨T106, h106, X106, e106, E106, A106, D106, -, st106⟩ := newO X105 hx hZ hown (hw _ (List.mem_of_getElem? (i := 2) rfl)) (hw _ (List.mem_of_getElem? (i := 3) rfl)) (hw _ (List.mem_of_getElem? (i := 4) rfl)) e105 (g := (mkF m 69 #[.val (.int p0), .val (.int p1), .val (.int p2), .val (.int p3), .val (.int p4), .val (.int ((p0 &&& (7 : Int32)) % (5 : Int32))), .val (.int (Int32.ofNat (kn))), .val (.ref b101), .unset, .unset, .unset, .unset] [])) rfl (hb hby at_69) (by decide) (by decide)
  obtain ⟨b106, g106⟩ : ∃ z, z = h105.size := ⟨_, rfl⟩
  rw [← g106] at A106 D106 st106
  have ne_b101_b106 : b101 ≠ b106 := Nat.ne_of_lt (Nat.lt_of_lt_of_le V105.lt (Nat.le_of_eq g106.symm))
  have ge_b106 : n0 ≤ b106 := Nat.le_trans (own_osz O105) (Nat.le_of_eq g106.symm)
  have gk_b106 : h0.size ≤ b106 := Nat.le_trans K105.1 (Nat.le_of_eq g106.symm)
  have O106 := O105.ext E106
  have K106 := K105.ext E106
  have F_bytes_b106 : Fld Z h106 b106 "com/example/vestwright/vestwright/cli/TableRows" "bytes" "[B" .null := D106 (Or.inl (hw _ (List.mem_of_getElem? (i := 13) rfl))) (ty := (.array .byte)) (by decide)
  have F_starts_b106 : Fld Z h106 b106 "com/example/vestwright/vestwright/cli/TableRows" "starts" "[I" .null := D106 (Or.inl (hw _ (List.mem_of_getElem? (i := 15) rfl))) (ty := (.array .int)) (by decide)
  have F_keys_b106 : Fld Z h106 b106 "com/example/vestwright/vestwright/cli/TableRows" "keys" "[I" .null := D106 (Or.inl (hw _ (List.mem_of_getElem? (i := 17) rfl))) (ty := (.array .int)) (by decide)
  have F_width_b106 : Fld Z h106 b106 "com/example/vestwright/vestwright/cli/TableRows" "width" "I" (.int (0 : Int32)) := D106 (Or.inr (hw _ (List.mem_of_getElem? (i := 19) rfl))) (ty := .int) (by decide)
  have F_size_b106 : Fld Z h106 b106 "com/example/vestwright/vestwright/cli/TableRows" "size" "I" (.int (0 : Int32)) := D106 (Or.inl (hw _ (List.mem_of_getElem? (i := 28) rfl))) (ty := .int) (by decide)
  have F_used_b106 : Fld Z h106 b106 "com/example/vestwright/vestwright/cli/TableRows" "used" "I" (.int (0 : Int32)) := D106 (Or.inl (hw _ (List.mem_of_getElem? (i := 82) rfl))) (ty := .int) (by decide)
  refine own_go (S' := (T106.setTop (mkF m 74 #[.val (.int p0), .val (.int p1), .val (.int p2), .val (.int p3), .val (.int p4), .val (.int ((p0 &&& (7 : Int32)) % (5 : Int32))), .val (.int (Int32.ofNat (kn))), .val (.ref b101), .unset, .unset, .unset, .unset] [(.int (0 : Int32)), (.ref b106), (.ref b106)]))) (fun tq kq => st106 tq (XS.dup X106.here hx rfl (hb hby at_72) rfl rfl (XS.iconst X106.here hx rfl (hb hby at_73) kq))) ?_
  have f107 := (V105.ext E106)
  obtain ⟨_, _, ⟨T108, L108, k108, n108⟩, -, X108, ⟨Lc108, hQ108, l108, y108, z108⟩, st108⟩ := X106.specialBack hx (y := (⟨"com/example/vestwright/vestwright/cli/TableRows", "<init>", "(I)V"⟩ : MethodName)) rfl hown (mvT hZ (hw _ (List.mem_of_getElem? (i := 5) rfl))) (mvT hZ (hw _ (List.mem_of_getElem? (i := 6) rfl))) (mvT hZ (hw _ (List.mem_of_getElem? (i := 7) rfl))) (by decide) (backOf (W := 1) (rm1 l Z a0 hw [] h106 n0 O106 b106 A106 F_width_b106 F_bytes_b106 F_used_b106 F_starts_b106 F_keys_b106 F_size_b106 ge_b106) hZ (hw _ (List.mem_of_getElem? (i := 7) rfl)) (hw _ (List.mem_of_getElem? (i := 4) rfl)) (by decide) (by decide)) (g := (mkF m 74 #[.val (.int p0), .val (.int p1), .val (.int p2), .val (.int p3), .val (.int p4), .val (.int ((p0 &&& (7 : Int32)) % (5 : Int32))), .val (.int (Int32.ofNat (kn))), .val (.ref b101), .unset, .unset, .unset, .unset] [(.int (0 : Int32)), (.ref b106), (.ref b106)])) rfl (by rw [hml]; rfl) (Steps.refl _) (a := b106) (argsL := [(.int (0 : Int32))]) (rest := [(.ref b106)]) (lenOf pd_0 rfl) rfl (by show 2 * 0 + _ ≤ _; exact Nat.le_of_eq rfl) (hb hby at_74) (fun _ _ => ⟨rfl, e106, (by decide : 2 + 3 ≤ _), (by decide : 10 + 12288 ≤ _)⟩)
  dsimp only [Pt.U, Pt.locs, Pt.cells, Pt.slots] at X108 l108 y108 z108 st108 hQ108
  subst l108 y108 z108
  obtain ⟨rfl, N108, K108, bb108, bs108, bk108, ka108, kb108, kc108, TR108, g1108, g2108, g3108⟩ := hQ108
  have Nf108 := Fr.app N105 N108
  have O108 := O106.keep K108 (allS ge_b106 all0)
  have KK108 := K106.trans K108 (allS (Or.inr gk_b106) all0)
  have ne_b101_bb108 : b101 ≠ bb108 := Nat.ne_of_lt (Nat.lt_of_lt_of_le f107.lt g1108)
  have ne_b106_bb108 : b106 ≠ bb108 := Nat.ne_of_lt (Nat.lt_of_lt_of_le A106.lt g1108)
  have ge_bb108 : n0 ≤ bb108 := Nat.le_trans (own_osz O106) g1108
  have gk_bb108 : h0.size ≤ bb108 := Nat.le_trans K106.1 g1108
  have ne_b101_bs108 : b101 ≠ bs108 := Nat.ne_of_lt (Nat.lt_of_lt_of_le f107.lt g2108)
  have ne_b106_bs108 : b106 ≠ bs108 := Nat.ne_of_lt (Nat.lt_of_lt_of_le A106.lt g2108)
  have ge_bs108 : n0 ≤ bs108 := Nat.le_trans (own_osz O106) g2108
  have gk_bs108 : h0.size ≤ bs108 := Nat.le_trans K106.1 g2108
  have ne_b101_bk108 : b101 ≠ bk108 := Nat.ne_of_lt (Nat.lt_of_lt_of_le f107.lt g3108)
  have ne_b106_bk108 : b106 ≠ bk108 := Nat.ne_of_lt (Nat.lt_of_lt_of_le A106.lt g3108)
  have ge_bk108 : n0 ≤ bk108 := Nat.le_trans (own_osz O106) g3108
  have gk_bk108 : h0.size ≤ bk108 := Nat.le_trans K106.1 g3108
  obtain ⟨⟨Et108, Fw108, Fb108, Fu108, Fs108, Fk108, Fz108⟩, ⟨Vb108, Vs108, Vk108⟩, nq1108, nq2108, nq3108, nq4108, nq5108, nq6108⟩ := TR108
  refine own_go (S' := (T108.setTop (mkF m 80 #[.val (.int p0), .val (.int p1), .val (.int p2), .val (.int p3), .val (.int p4), .val (.int ((p0 &&& (7 : Int32)) % (5 : Int32))), .val (.int (Int32.ofNat (kn))), .val (.ref b101), .val (.ref b106), .unset, .unset, .unset] [(.int (0 : Int32))]))) (fun tq kq => st108.trans (XS.astore X108.here hx rfl (hb hby at_77) rfl rfl (l' := #[.val (.int p0), .val (.int p1), .val (.int p2), .val (.int p3), .val (.int p4), .val (.int ((p0 &&& (7 : Int32)) % (5 : Int32))), .val (.int (Int32.ofNat (kn))), .val (.ref b101), .val (.ref b106), .unset, .unset, .unset]) rfl (XS.iconst X108.here hx rfl (hb hby at_79) kq))) ?_
  obtain ⟨T109, h109, k109, X109, e109, E109, A109, Ov109, st109⟩ := newR X108 hx hZ hown (hw _ (List.mem_of_getElem? (i := 20) rfl)) (hw _ (List.mem_of_getElem? (i := 21) rfl)) rfl (g := (mkF m 80 #[.val (.int p0), .val (.int p1), .val (.int p2), .val (.int p3), .val (.int p4), .val (.int ((p0 &&& (7 : Int32)) % (5 : Int32))), .val (.int (Int32.ofNat (kn))), .val (.ref b101), .val (.ref b106), .unset, .unset, .unset] [(.int (0 : Int32))])) rfl (hb hby at_80) rfl (by decide) (cap := 0) (by decide) (by decide) (by decide) (by decide)
  obtain ⟨b109, g109⟩ : ∃ z, z = T108.heap.size := ⟨_, rfl⟩
  rw [← g109] at A109 st109
  have f110 := (f107.keep K108 (ninS ne_b101_b106 nin0))
  have ne_b101_b109 : b101 ≠ b109 := Nat.ne_of_lt (Nat.lt_of_lt_of_le f110.lt (Nat.le_of_eq g109.symm))
  have ne_b106_b109 : b106 ≠ b109 := Nat.ne_of_lt (Nat.lt_of_lt_of_le Et108.lt (Nat.le_of_eq g109.symm))
  have ne_bb108_b109 : bb108 ≠ b109 := Nat.ne_of_lt (Nat.lt_of_lt_of_le Vb108.lt (Nat.le_of_eq g109.symm))
  have ne_bk108_b109 : bk108 ≠ b109 := Nat.ne_of_lt (Nat.lt_of_lt_of_le Vk108.lt (Nat.le_of_eq g109.symm))
  have ne_bs108_b109 : bs108 ≠ b109 := Nat.ne_of_lt (Nat.lt_of_lt_of_le Vs108.lt (Nat.le_of_eq g109.symm))
  have ge_b109 : n0 ≤ b109 := Nat.le_trans (own_osz O108) (Nat.le_of_eq g109.symm)
  have gk_b109 : h0.size ≤ b109 := Nat.le_trans KK108.1 (Nat.le_of_eq g109.symm)
  have V109 : own_Ar Z h109 b109 k109 (.object "java/lang/String") [] := own_Ar.new A109 (by decide)
  have O109 := O108.ext E109
  have K109 := KK108.ext E109
  refine own_go (S' := (T109.setTop (mkF m 88 #[.val (.int p0), .val (.int p1), .val (.int p2), .val (.int p3), .val (.int p4), .val (.int ((p0 &&& (7 : Int32)) % (5 : Int32))), .val (.int (Int32.ofNat (kn))), .val (.ref b101), .val (.ref b106), .val (.ref b109), .val (.int (1 : Int32)), .unset] []))) (fun tq kq => st109 tq (XS.astore X109.here hx rfl (hb hby at_83) rfl rfl (l' := #[.val (.int p0), .val (.int p1), .val (.int p2), .val (.int p3), .val (.int p4), .val (.int ((p0 &&& (7 : Int32)) % (5 : Int32))), .val (.int (Int32.ofNat (kn))), .val (.ref b101), .val (.ref b106), .val (.ref b109), .unset, .unset]) rfl (XS.iconst X109.here hx rfl (hb hby at_85) (XS.istore X109.here hx rfl (hb hby at_86) rfl (l' := #[.val (.int p0), .val (.int p1), .val (.int p2), .val (.int p3), .val (.int p4), .val (.int ((p0 &&& (7 : Int32)) % (5 : Int32))), .val (.int (Int32.ofNat (kn))), .val (.ref b101), .val (.ref b106), .val (.ref b109), .val (.int (1 : Int32)), .unset]) rfl kq)))) ?_
  rcases own_n5 p0 with hn5 | hn5 | hn5 | hn5 | hn5
  · rw [hn5]
    refine own_go (S' := (T109.setTop (mkF m 186 #[.val (.int p0), .val (.int p1), .val (.int p2), .val (.int p3), .val (.int p4), .val (.int (0 : Int32)), .val (.int (Int32.ofNat (kn))), .val (.ref b101), .val (.ref b106), .val (.ref b109), .val (.int (1 : Int32)), .unset] [(.int (3 : Int32)), (.int (0 : Int32))]))) (fun tq kq => XS.iload X109.here hx rfl (hb hby at_88) rfl (XS.ifYes X109.here hx rfl (pc0 := 90) (pc' := 119) rfl (hb hby at_90) rfl ((if0 _ _).trans (flt (by decide : ¬ ((0 : Int32) < (0 : Int32)))).2.2.2) (by decide) (by decide) (XS.iload X109.here hx rfl (hb hby at_119) rfl (XS.iconst X109.here hx rfl (hb hby at_121) (XS.icmpYes X109.here hx rfl (pc0 := 122) (pc' := 151) rfl (hb hby at_122) rfl (flt (by decide : ¬ ((1 : Int32) < (0 : Int32)))).2.2.2 (by decide) (by decide) (XS.iload X109.here hx rfl (hb hby at_151) rfl (XS.iconst X109.here hx rfl (hb hby at_153) (XS.icmpYes X109.here hx rfl (pc0 := 154) (pc' := 183) rfl (hb hby at_154) rfl (flt (by decide : ¬ ((2 : Int32) < (0 : Int32)))).2.2.2 (by decide) (by decide) (XS.iload X109.here hx rfl (hb hby at_183) rfl (XS.iconst X109.here hx rfl (hb hby at_185) kq)))))))))) ?_
    refine own_go (S' := (T109.setTop (mkF m 219 #[.val (.int p0), .val (.int p1), .val (.int p2), .val (.int p3), .val (.int p4), .val (.int (0 : Int32)), .val (.int (Int32.ofNat (kn))), .val (.ref b101), .val (.ref b106), .val (.ref b109), .val (.int (1 : Int32)), .unset] [(.int (Int32.ofNat (kn))), (.ref b106)]))) (fun tq kq => XS.icmpYes X109.here hx rfl (pc0 := 186) (pc' := 215) rfl (hb hby at_186) rfl (flt (by decide : ¬ ((3 : Int32) < (0 : Int32)))).2.2.2 (by decide) (by decide) (XS.aload X109.here hx rfl (hb hby at_215) rfl rfl (XS.iload X109.here hx rfl (hb hby at_217) rfl kq))) ?_
    have f111 := (Et108.ext E109)
    have f112 := (Fw108.ext E109)
    have f113 := (Fb108.ext E109)
    have f114 := (Fu108.ext E109)
    have f115 := (Fs108.ext E109)
    have f116 := (Fk108.ext E109)
    have f117 := (Fz108.ext E109)
    have f118 := (Vb108.ext E109)
    have f119 := (Vs108.ext E109)
    have f120 := (Vk108.ext E109)
    have f121 := (f110.ext E109)
    have hks : ∀ x ∈ ([] : List Nat), x < kn := by intro x hx_; cases hx_
    have hck := own_chks hk1 hk3 (by show 0 ≤ 4; decide) hks
    obtain ⟨cq122, kq122, q122a, q122b, q122c⟩ := isOf hZ e109 f111
    obtain ⟨_, _, ⟨T122, L122, k122, n122⟩, -, X122, ⟨Lc122, hQ122, l122, y122, z122⟩, st122⟩ := X109.virtualBack hx (y := (⟨"com/example/vestwright/vestwright/cli/TableRows", "byKey", "(I)Lcom/example/vestwright/vestwright/cli/TableRows$ByKey;"⟩ : MethodName)) (z := (⟨"com/example/vestwright/vestwright/cli/TableRows", "byKey", "(I)Lcom/example/vestwright/vestwright/cli/TableRows$ByKey;"⟩ : MethodName)) hown (mvT hZ (hw _ (List.mem_of_getElem? (i := 22) rfl))) (mvT hZ (hw _ (List.mem_of_getElem? (i := 23) rfl))) (notFace_of_selects (args := #[]) (mvT hZ (hw _ (List.mem_of_getElem? (i := 25) rfl)))) (mvT hZ (hw _ (List.mem_of_getElem? (i := 25) rfl))) (mvT hZ (hw _ (List.mem_of_getElem? (i := 24) rfl))) (by decide) (backOf (W := 0) (rm3 l Z a0 hw [] h109 n0 O109 b106 bb108 bs108 bk108 ka108 kb108 kc108 ([] : List Nat) kn ⟨⟨f111, f112, f113, f114, f115, f116, f117⟩, ⟨f118, f119, f120⟩, nq1108, nq2108, nq3108, nq4108, nq5108, nq6108⟩ hk1 hk3 (by show 0 ≤ 4; decide) hks hck) hZ (hw _ (List.mem_of_getElem? (i := 26) rfl)) (hw _ (List.mem_of_getElem? (i := 4) rfl)) (by decide) (by decide)) q122a q122c (g := (mkF m 219 #[.val (.int p0), .val (.int p1), .val (.int p2), .val (.int p3), .val (.int p4), .val (.int (0 : Int32)), .val (.int (Int32.ofNat (kn))), .val (.ref b101), .val (.ref b106), .val (.ref b109), .val (.int (1 : Int32)), .unset] [(.int (Int32.ofNat (kn))), (.ref b106)])) rfl (by rw [hml]; rfl) (Steps.refl _) (argsL := [(.int (Int32.ofNat (kn)))]) (rest := []) (lenOf pd_6 rfl) rfl (by show 2 * 0 + _ ≤ _; exact Nat.le_of_eq rfl) (hb hby at_219) (fun _ _ => ⟨rfl, e109, (by decide : 6 + 5 ≤ _), (by decide : 12298 + 20 ≤ _)⟩)
    dsimp only [Pt.U, Pt.locs, Pt.cells, Pt.slots] at X122 l122 y122 z122 st122 hQ122
    subst l122 y122 z122
    obtain ⟨gg122, ss122, rr122, kss122, krr122, rfl, N122, K122, gA122, gB122, gC122, Eg122, Fs122, Fr122, Vs122, Vr122, Er122⟩ := hQ122
    have Nf122 := Fr.app Nf108 N122
    have O122 := O109.keep K122 all0
    have KK122 := K109.trans K122 all0
    have ne_b101_gg122 : b101 ≠ gg122 := Nat.ne_of_lt (Nat.lt_of_lt_of_le f121.lt gA122)
    have ne_b106_gg122 : b106 ≠ gg122 := Nat.ne_of_lt (Nat.lt_of_lt_of_le f111.lt gA122)
    have ne_b109_gg122 : b109 ≠ gg122 := Nat.ne_of_lt (Nat.lt_of_lt_of_le V109.lt gA122)
    have ne_bb108_gg122 : bb108 ≠ gg122 := Nat.ne_of_lt (Nat.lt_of_lt_of_le f118.lt gA122)
    have ne_bk108_gg122 : bk108 ≠ gg122 := Nat.ne_of_lt (Nat.lt_of_lt_of_le f120.lt gA122)
    have ne_bs108_gg122 : bs108 ≠ gg122 := Nat.ne_of_lt (Nat.lt_of_lt_of_le f119.lt gA122)
    have ge_gg122 : n0 ≤ gg122 := Nat.le_trans (own_osz O109) gA122
    have gk_gg122 : h0.size ≤ gg122 := Nat.le_trans K109.1 gA122
    have ne_b101_ss122 : b101 ≠ ss122 := Nat.ne_of_lt (Nat.lt_of_lt_of_le f121.lt gB122)
    have ne_b106_ss122 : b106 ≠ ss122 := Nat.ne_of_lt (Nat.lt_of_lt_of_le f111.lt gB122)
    have ne_b109_ss122 : b109 ≠ ss122 := Nat.ne_of_lt (Nat.lt_of_lt_of_le V109.lt gB122)
    have ne_bb108_ss122 : bb108 ≠ ss122 := Nat.ne_of_lt (Nat.lt_of_lt_of_le f118.lt gB122)
    have ne_bk108_ss122 : bk108 ≠ ss122 := Nat.ne_of_lt (Nat.lt_of_lt_of_le f120.lt gB122)
    have ne_bs108_ss122 : bs108 ≠ ss122 := Nat.ne_of_lt (Nat.lt_of_lt_of_le f119.lt gB122)
    have ge_ss122 : n0 ≤ ss122 := Nat.le_trans (own_osz O109) gB122
    have gk_ss122 : h0.size ≤ ss122 := Nat.le_trans K109.1 gB122
    have ne_b101_rr122 : b101 ≠ rr122 := Nat.ne_of_lt (Nat.lt_of_lt_of_le f121.lt gC122)
    have ne_b106_rr122 : b106 ≠ rr122 := Nat.ne_of_lt (Nat.lt_of_lt_of_le f111.lt gC122)
    have ne_b109_rr122 : b109 ≠ rr122 := Nat.ne_of_lt (Nat.lt_of_lt_of_le V109.lt gC122)
    have ne_bb108_rr122 : bb108 ≠ rr122 := Nat.ne_of_lt (Nat.lt_of_lt_of_le f118.lt gC122)
    have ne_bk108_rr122 : bk108 ≠ rr122 := Nat.ne_of_lt (Nat.lt_of_lt_of_le f120.lt gC122)
    have ne_bs108_rr122 : bs108 ≠ rr122 := Nat.ne_of_lt (Nat.lt_of_lt_of_le f119.lt gC122)
    have ge_rr122 : n0 ≤ rr122 := Nat.le_trans (own_osz O109) gC122
    have gk_rr122 : h0.size ≤ rr122 := Nat.le_trans K109.1 gC122
    refine own_go (S' := (T122.setTop (mkF m 232 #[.val (.int p0), .val (.int p1), .val (.int p2), .val (.int p3), .val (.int p4), .val (.int (0 : Int32)), .val (.int (Int32.ofNat (kn))), .val (.ref b101), .val (.ref b106), .val (.ref b109), .val (.int (1 : Int32)), .val (.ref gg122)] [(.int (0 : Int32)), (.ref gg122)]))) (fun tq kq => st122.trans (XS.astore X122.here hx rfl (hb hby at_222) rfl rfl (l' := #[.val (.int p0), .val (.int p1), .val (.int p2), .val (.int p3), .val (.int p4), .val (.int (0 : Int32)), .val (.int (Int32.ofNat (kn))), .val (.ref b101), .val (.ref b106), .val (.ref b109), .val (.int (1 : Int32)), .val (.ref gg122)]) rfl (XS.iload X122.here hx rfl (hb hby at_224) rfl (XS.ifNo X122.here hx rfl (hb hby at_226) rfl ((if0 _ _).trans (feq (by decide : ¬ ((1 : Int32) = (0 : Int32)))).1) (XS.aload X122.here hx rfl (hb hby at_229) rfl rfl (XS.iconst X122.here hx rfl (hb hby at_231) kq)))))) ?_
    have f123 := (f121.keep K122 nin0)
    have f124 := (f111.keep K122)
    have f125 := (V109.keep K122 nin0)
    have f126 := (f118.keep K122 nin0)
    have f127 := (f120.keep K122 nin0)
    have f128 := (f119.keep K122 nin0)
    have hkk129 : 0 < kn := (by omega)
    obtain ⟨u1129, u2129, u3129⟩ := own_chk2 hck hkk129
    have v1129 := own_p2len kn ([] : List Nat) kn
    have v2129 := (own_p3len kn ([] : List Nat) (([] : List Nat)).length).2
    obtain ⟨cq130, kq130, q130a, q130b, q130c⟩ := isOf hZ rfl Eg122
    obtain ⟨_, _, ⟨T130, L130, k130, n130⟩, -, X130, ⟨Lc130, hQ130, l130, y130, z130⟩, st130⟩ := X122.virtualBack hx (y := (⟨"com/example/vestwright/vestwright/cli/TableRows$ByKey", "rows", "(I)[I"⟩ : MethodName)) (z := (⟨"com/example/vestwright/vestwright/cli/TableRows$ByKey", "rows", "(I)[I"⟩ : MethodName)) hown (mvT hZ (hw _ (List.mem_of_getElem? (i := 52) rfl))) (mvT hZ (hw _ (List.mem_of_getElem? (i := 53) rfl))) (notFace_of_selects (args := #[]) (mvT hZ (hw _ (List.mem_of_getElem? (i := 55) rfl)))) (mvT hZ (hw _ (List.mem_of_getElem? (i := 55) rfl))) (mvT hZ (hw _ (List.mem_of_getElem? (i := 54) rfl))) (by decide) (backOf (W := 0) (rm7 l Z a0 hw [] T122.heap n0 O122 gg122 0 ss122 rr122 kss122 krr122 (own_st kn ([] : List Nat)) (own_rw kn ([] : List Nat)) Fs122 Fr122 Vs122 Vr122 Er122 (by show 0 + 1 < (own_p2 kn ([] : List Nat) kn).length; omega) (by show (own_p2 kn ([] : List Nat) kn).length ≤ 4; omega) u1129 (by show _ ≤ (own_p3 kn ([] : List Nat) (([] : List Nat)).length).2.length; rw [v2129]; exact u2129) (by show (own_p3 kn ([] : List Nat) (([] : List Nat)).length).2.length ≤ 4; rw [v2129]; show 0 ≤ 4; decide)) hZ (hw _ (List.mem_of_getElem? (i := 56) rfl)) (hw _ (List.mem_of_getElem? (i := 43) rfl)) (by decide) (by decide)) q130a q130c (g := (mkF m 232 #[.val (.int p0), .val (.int p1), .val (.int p2), .val (.int p3), .val (.int p4), .val (.int (0 : Int32)), .val (.int (Int32.ofNat (kn))), .val (.ref b101), .val (.ref b106), .val (.ref b109), .val (.int (1 : Int32)), .val (.ref gg122)] [(.int (0 : Int32)), (.ref gg122)])) rfl (by rw [hml]; rfl) (Steps.refl _) (argsL := [(.int (0 : Int32))]) (rest := []) (lenOf pd_7 rfl) rfl (by show 2 * 0 + _ ≤ _; exact Nat.le_of_eq rfl) (hb hby at_232) (fun _ _ => ⟨rfl, rfl, (by decide : 11 + 1 ≤ _), (by decide : 12318 + 4 ≤ _)⟩)
    dsimp only [Pt.U, Pt.locs, Pt.cells, Pt.slots] at X130 l130 y130 z130 st130 hQ130
    subst l130 y130 z130
    obtain ⟨b130, kb130, rfl, N130, K130, gb130, V130⟩ := hQ130
    have Nf130 := Fr.app Nf122 N130
    have O130 := O122.keep K130 all0
    have KK130 := KK122.trans K130 all0
    have ne_b101_b130 : b101 ≠ b130 := Nat.ne_of_lt (Nat.lt_of_lt_of_le f123.lt gb130)
    have ne_b106_b130 : b106 ≠ b130 := Nat.ne_of_lt (Nat.lt_of_lt_of_le f124.lt gb130)
    have ne_b109_b130 : b109 ≠ b130 := Nat.ne_of_lt (Nat.lt_of_lt_of_le f125.lt gb130)
    have ne_bb108_b130 : bb108 ≠ b130 := Nat.ne_of_lt (Nat.lt_of_lt_of_le f126.lt gb130)
    have ne_bk108_b130 : bk108 ≠ b130 := Nat.ne_of_lt (Nat.lt_of_lt_of_le f127.lt gb130)
    have ne_bs108_b130 : bs108 ≠ b130 := Nat.ne_of_lt (Nat.lt_of_lt_of_le f128.lt gb130)
    have ne_gg122_b130 : gg122 ≠ b130 := Nat.ne_of_lt (Nat.lt_of_lt_of_le Eg122.lt gb130)
    have ne_rr122_b130 : rr122 ≠ b130 := Nat.ne_of_lt (Nat.lt_of_lt_of_le Vr122.lt gb130)
    have ne_ss122_b130 : ss122 ≠ b130 := Nat.ne_of_lt (Nat.lt_of_lt_of_le Vs122.lt gb130)
    have ge_b130 : n0 ≤ b130 := Nat.le_trans (own_osz O122) gb130
    have gk_b130 : h0.size ≤ b130 := Nat.le_trans KK122.1 gb130
    rw [u3129] at V130
    refine own_go (S' := (T130.setTop (mkF m 240 #[.val (.int p0), .val (.int p1), .val (.int p2), .val (.int p3), .val (.int p4), .val (.int (0 : Int32)), .val (.int (Int32.ofNat (kn))), .val (.ref b101), .val (.ref b106), .val (.ref b109), .val (.int (1 : Int32)), .val (.ref gg122)] [(.int (0 : Int32)), (.int (0 : Int32)), (.ref b101), (.ref b130)]))) (fun tq kq => st130.trans (XS.aload X130.here hx rfl (hb hby at_235) rfl rfl (XS.iload X130.here hx rfl (hb hby at_237) rfl (XS.iconst X130.here hx rfl (hb hby at_239) kq)))) ?_
    have f131 := (f123.keep K130 nin0)
    obtain ⟨_, _, ⟨T132, L132, k132, n132⟩, -, X132, ⟨Lc132, hQ132, l132, y132, z132⟩, st132⟩ := Jvm.LawKit.callS X130 hx (y := (⟨"com/example/vestwright/vestwright/cli/TableRowsByKeyPinLaw", "same", "([I[III)Z"⟩ : MethodName)) hown (mvT hZ (hw _ (List.mem_of_getElem? (i := 69) rfl))) (mvT hZ (hw _ (List.mem_of_getElem? (i := 70) rfl))) (mvT hZ (hw _ (List.mem_of_getElem? (i := 71) rfl))) (mvT hZ (hw _ (List.mem_of_getElem? (i := 72) rfl))) (by decide) (backOf (W := 0) (rm9_0 l Z a0 hw [] T130.heap n0 O130 b130 b101 0 kb130 k101 q0 q1 q2 q3 V130 f131 (by omega)) hZ (hw _ (List.mem_of_getElem? (i := 72) rfl)) (hw _ (List.mem_of_getElem? (i := 71) rfl)) (by decide) (by decide)) (g := (mkF m 240 #[.val (.int p0), .val (.int p1), .val (.int p2), .val (.int p3), .val (.int p4), .val (.int (0 : Int32)), .val (.int (Int32.ofNat (kn))), .val (.ref b101), .val (.ref b106), .val (.ref b109), .val (.int (1 : Int32)), .val (.ref gg122)] [(.int (0 : Int32)), (.int (0 : Int32)), (.ref b101), (.ref b130)])) rfl (by rw [hml]; rfl) (argsL := [(.ref b130), (.ref b101), (.int (0 : Int32)), (.int (0 : Int32))]) (rest := []) (lenOf pd_8 rfl) rfl (by show 2 * 0 + _ ≤ _; exact Nat.le_of_eq rfl) (hb hby at_240) (fun _ _ => ⟨rfl, rfl, (by decide : 12 + 1 ≤ _), (by decide : 12322 + 4 ≤ _)⟩)
    dsimp only [Pt.U, Pt.locs, Pt.cells, Pt.slots] at X132 l132 y132 z132 st132 hQ132
    subst l132 y132 z132
    obtain ⟨rfl, N132, K132⟩ := hQ132
    have Nf132 := Fr.app Nf130 N132
    have O132 := O130.keep K132 all0
    have KK132 := KK130.trans K132 all0
    refine own_go (S' := (T132.setTop (mkF m 256 #[.val (.int p0), .val (.int p1), .val (.int p2), .val (.int p3), .val (.int p4), .val (.int (0 : Int32)), .val (.int (Int32.ofNat (kn))), .val (.ref b101), .val (.ref b106), .val (.ref b109), .val (.int (1 : Int32)), .val (.ref gg122)] [(.int (1 : Int32)), (.int (Int32.ofNat (kn)))]))) (fun tq kq => st132 tq (XS.ifNo X132.here hx rfl (hb hby at_243) rfl ((if0 _ _).trans (feq (by decide : ¬ ((1 : Int32) = (0 : Int32)))).1) (XS.iconst X132.here hx rfl (hb hby at_246) (XS.goto X132.here hx rfl (pc0 := 247) (pc' := 251) rfl (hb hby at_247) (by decide) (by decide) (XS.istore X132.here hx rfl (hb hby at_251) rfl (l' := #[.val (.int p0), .val (.int p1), .val (.int p2), .val (.int p3), .val (.int p4), .val (.int (0 : Int32)), .val (.int (Int32.ofNat (kn))), .val (.ref b101), .val (.ref b106), .val (.ref b109), .val (.int (1 : Int32)), .val (.ref gg122)]) rfl (XS.iload X132.here hx rfl (hb hby at_253) rfl (XS.iconst X132.here hx rfl (hb hby at_255) kq))))))) ?_
    by_cases hc133 : (1 : Int32) < (Int32.ofNat (kn))
    · refine own_go (S' := (T132.setTop (mkF m 267 #[.val (.int p0), .val (.int p1), .val (.int p2), .val (.int p3), .val (.int p4), .val (.int (0 : Int32)), .val (.int (Int32.ofNat (kn))), .val (.ref b101), .val (.ref b106), .val (.ref b109), .val (.int (1 : Int32)), .val (.ref gg122)] [(.int (1 : Int32)), (.ref gg122)]))) (fun tq kq => XS.icmpNo X132.here hx rfl (hb hby at_256) rfl (tlt hc133).2.2.2 (XS.iload X132.here hx rfl (hb hby at_259) rfl (XS.ifNo X132.here hx rfl (hb hby at_261) rfl ((if0 _ _).trans (feq (by decide : ¬ ((1 : Int32) = (0 : Int32)))).1) (XS.aload X132.here hx rfl (hb hby at_264) rfl rfl (XS.iconst X132.here hx rfl (hb hby at_266) kq))))) ?_
      have f134 := (f131.keep K132 nin0)
      have f135 := ((f124.keep K130).keep K132)
      have f136 := ((f125.keep K130 nin0).keep K132 nin0)
      have f137 := (V130.keep K132 nin0)
      have f138 := ((f126.keep K130 nin0).keep K132 nin0)
      have f139 := ((f127.keep K130 nin0).keep K132 nin0)
      have f140 := ((f128.keep K130 nin0).keep K132 nin0)
      have f141 := ((Eg122.keep K130).keep K132)
      have f142 := ((Vr122.keep K130 nin0).keep K132 nin0)
      have f143 := ((Vs122.keep K130 nin0).keep K132 nin0)
      have hkk144 : 1 < kn := ((own_lt (by decide) (by omega) : Int32.ofNat 1 < Int32.ofNat kn ↔ _).mp hc133)
      obtain ⟨u1144, u2144, u3144⟩ := own_chk2 hck hkk144
      have v1144 := own_p2len kn ([] : List Nat) kn
      have v2144 := (own_p3len kn ([] : List Nat) (([] : List Nat)).length).2
      have f145 := ((Fs122.keep K130 nin0).keep K132 nin0)
      have f146 := ((Fr122.keep K130 nin0).keep K132 nin0)
      have f147 := ((Er122.keep K130).keep K132)
      obtain ⟨cq148, kq148, q148a, q148b, q148c⟩ := isOf hZ rfl f141
      obtain ⟨_, _, ⟨T148, L148, k148, n148⟩, -, X148, ⟨Lc148, hQ148, l148, y148, z148⟩, st148⟩ := X132.virtualBack hx (y := (⟨"com/example/vestwright/vestwright/cli/TableRows$ByKey", "rows", "(I)[I"⟩ : MethodName)) (z := (⟨"com/example/vestwright/vestwright/cli/TableRows$ByKey", "rows", "(I)[I"⟩ : MethodName)) hown (mvT hZ (hw _ (List.mem_of_getElem? (i := 52) rfl))) (mvT hZ (hw _ (List.mem_of_getElem? (i := 53) rfl))) (notFace_of_selects (args := #[]) (mvT hZ (hw _ (List.mem_of_getElem? (i := 55) rfl)))) (mvT hZ (hw _ (List.mem_of_getElem? (i := 55) rfl))) (mvT hZ (hw _ (List.mem_of_getElem? (i := 54) rfl))) (by decide) (backOf (W := 0) (rm7 l Z a0 hw [] T132.heap n0 O132 gg122 1 ss122 rr122 kss122 krr122 (own_st kn ([] : List Nat)) (own_rw kn ([] : List Nat)) f145 f146 f143 f142 f147 (by show 1 + 1 < (own_p2 kn ([] : List Nat) kn).length; omega) (by show (own_p2 kn ([] : List Nat) kn).length ≤ 4; omega) u1144 (by show _ ≤ (own_p3 kn ([] : List Nat) (([] : List Nat)).length).2.length; rw [v2144]; exact u2144) (by show (own_p3 kn ([] : List Nat) (([] : List Nat)).length).2.length ≤ 4; rw [v2144]; show 0 ≤ 4; decide)) hZ (hw _ (List.mem_of_getElem? (i := 56) rfl)) (hw _ (List.mem_of_getElem? (i := 43) rfl)) (by decide) (by decide)) q148a q148c (g := (mkF m 267 #[.val (.int p0), .val (.int p1), .val (.int p2), .val (.int p3), .val (.int p4), .val (.int (0 : Int32)), .val (.int (Int32.ofNat (kn))), .val (.ref b101), .val (.ref b106), .val (.ref b109), .val (.int (1 : Int32)), .val (.ref gg122)] [(.int (1 : Int32)), (.ref gg122)])) rfl (by rw [hml]; rfl) (Steps.refl _) (argsL := [(.int (1 : Int32))]) (rest := []) (lenOf pd_7 rfl) rfl (by show 2 * 0 + _ ≤ _; exact Nat.le_of_eq rfl) (hb hby at_267) (fun _ _ => ⟨rfl, rfl, (by decide : 13 + 1 ≤ _), (by decide : 12326 + 4 ≤ _)⟩)
      dsimp only [Pt.U, Pt.locs, Pt.cells, Pt.slots] at X148 l148 y148 z148 st148 hQ148
      subst l148 y148 z148
      obtain ⟨b148, kb148, rfl, N148, K148, gb148, V148⟩ := hQ148
      have Nf148 := Fr.app Nf132 N148
      have O148 := O132.keep K148 all0
      have KK148 := KK132.trans K148 all0
      have ne_b101_b148 : b101 ≠ b148 := Nat.ne_of_lt (Nat.lt_of_lt_of_le f134.lt gb148)
      have ne_b106_b148 : b106 ≠ b148 := Nat.ne_of_lt (Nat.lt_of_lt_of_le f135.lt gb148)
      have ne_b109_b148 : b109 ≠ b148 := Nat.ne_of_lt (Nat.lt_of_lt_of_le f136.lt gb148)
      have ne_b130_b148 : b130 ≠ b148 := Nat.ne_of_lt (Nat.lt_of_lt_of_le f137.lt gb148)
      have ne_bb108_b148 : bb108 ≠ b148 := Nat.ne_of_lt (Nat.lt_of_lt_of_le f138.lt gb148)
      have ne_bk108_b148 : bk108 ≠ b148 := Nat.ne_of_lt (Nat.lt_of_lt_of_le f139.lt gb148)
      have ne_bs108_b148 : bs108 ≠ b148 := Nat.ne_of_lt (Nat.lt_of_lt_of_le f140.lt gb148)
      have ne_gg122_b148 : gg122 ≠ b148 := Nat.ne_of_lt (Nat.lt_of_lt_of_le f141.lt gb148)
      have ne_rr122_b148 : rr122 ≠ b148 := Nat.ne_of_lt (Nat.lt_of_lt_of_le f142.lt gb148)
      have ne_ss122_b148 : ss122 ≠ b148 := Nat.ne_of_lt (Nat.lt_of_lt_of_le f143.lt gb148)
      have ge_b148 : n0 ≤ b148 := Nat.le_trans (own_osz O132) gb148
      have gk_b148 : h0.size ≤ b148 := Nat.le_trans KK132.1 gb148
      rw [u3144] at V148
      refine own_go (S' := (T148.setTop (mkF m 275 #[.val (.int p0), .val (.int p1), .val (.int p2), .val (.int p3), .val (.int p4), .val (.int (0 : Int32)), .val (.int (Int32.ofNat (kn))), .val (.ref b101), .val (.ref b106), .val (.ref b109), .val (.int (1 : Int32)), .val (.ref gg122)] [(.int (1 : Int32)), (.int (0 : Int32)), (.ref b101), (.ref b148)]))) (fun tq kq => st148.trans (XS.aload X148.here hx rfl (hb hby at_270) rfl rfl (XS.iload X148.here hx rfl (hb hby at_272) rfl (XS.iconst X148.here hx rfl (hb hby at_274) kq)))) ?_
      have f149 := (f134.keep K148 nin0)
      obtain ⟨_, _, ⟨T150, L150, k150, n150⟩, -, X150, ⟨Lc150, hQ150, l150, y150, z150⟩, st150⟩ := Jvm.LawKit.callS X148 hx (y := (⟨"com/example/vestwright/vestwright/cli/TableRowsByKeyPinLaw", "same", "([I[III)Z"⟩ : MethodName)) hown (mvT hZ (hw _ (List.mem_of_getElem? (i := 69) rfl))) (mvT hZ (hw _ (List.mem_of_getElem? (i := 70) rfl))) (mvT hZ (hw _ (List.mem_of_getElem? (i := 71) rfl))) (mvT hZ (hw _ (List.mem_of_getElem? (i := 72) rfl))) (by decide) (backOf (W := 0) (rm9_0 l Z a0 hw [] T148.heap n0 O148 b148 b101 1 kb148 k101 q0 q1 q2 q3 V148 f149 (by omega)) hZ (hw _ (List.mem_of_getElem? (i := 72) rfl)) (hw _ (List.mem_of_getElem? (i := 71) rfl)) (by decide) (by decide)) (g := (mkF m 275 #[.val (.int p0), .val (.int p1), .val (.int p2), .val (.int p3), .val (.int p4), .val (.int (0 : Int32)), .val (.int (Int32.ofNat (kn))), .val (.ref b101), .val (.ref b106), .val (.ref b109), .val (.int (1 : Int32)), .val (.ref gg122)] [(.int (1 : Int32)), (.int (0 : Int32)), (.ref b101), (.ref b148)])) rfl (by rw [hml]; rfl) (argsL := [(.ref b148), (.ref b101), (.int (0 : Int32)), (.int (1 : Int32))]) (rest := []) (lenOf pd_8 rfl) rfl (by show 2 * 0 + _ ≤ _; exact Nat.le_of_eq rfl) (hb hby at_275) (fun _ _ => ⟨rfl, rfl, (by decide : 14 + 1 ≤ _), (by decide : 12330 + 4 ≤ _)⟩)
      dsimp only [Pt.U, Pt.locs, Pt.cells, Pt.slots] at X150 l150 y150 z150 st150 hQ150
      subst l150 y150 z150
      obtain ⟨rfl, N150, K150⟩ := hQ150
      have Nf150 := Fr.app Nf148 N150
      have O150 := O148.keep K150 all0
      have KK150 := KK148.trans K150 all0
      refine own_go (S' := (T150.setTop (mkF m 291 #[.val (.int p0), .val (.int p1), .val (.int p2), .val (.int p3), .val (.int p4), .val (.int (0 : Int32)), .val (.int (Int32.ofNat (kn))), .val (.ref b101), .val (.ref b106), .val (.ref b109), .val (.int (1 : Int32)), .val (.ref gg122)] [(.int (2 : Int32)), (.int (Int32.ofNat (kn)))]))) (fun tq kq => st150 tq (XS.ifNo X150.here hx rfl (hb hby at_278) rfl ((if0 _ _).trans (feq (by decide : ¬ ((1 : Int32) = (0 : Int32)))).1) (XS.iconst X150.here hx rfl (hb hby at_281) (XS.goto X150.here hx rfl (pc0 := 282) (pc' := 286) rfl (hb hby at_282) (by decide) (by decide) (XS.istore X150.here hx rfl (hb hby at_286) rfl (l' := #[.val (.int p0), .val (.int p1), .val (.int p2), .val (.int p3), .val (.int p4), .val (.int (0 : Int32)), .val (.int (Int32.ofNat (kn))), .val (.ref b101), .val (.ref b106), .val (.ref b109), .val (.int (1 : Int32)), .val (.ref gg122)]) rfl (XS.iload X150.here hx rfl (hb hby at_288) rfl (XS.iconst X150.here hx rfl (hb hby at_290) kq))))))) ?_
      by_cases hc151 : (2 : Int32) < (Int32.ofNat (kn))
      · refine own_go (S' := (T150.setTop (mkF m 302 #[.val (.int p0), .val (.int p1), .val (.int p2), .val (.int p3), .val (.int p4), .val (.int (0 : Int32)), .val (.int (Int32.ofNat (kn))), .val (.ref b101), .val (.ref b106), .val (.ref b109), .val (.int (1 : Int32)), .val (.ref gg122)] [(.int (2 : Int32)), (.ref gg122)]))) (fun tq kq => XS.icmpNo X150.here hx rfl (hb hby at_291) rfl (tlt hc151).2.2.2 (XS.iload X150.here hx rfl (hb hby at_294) rfl (XS.ifNo X150.here hx rfl (hb hby at_296) rfl ((if0 _ _).trans (feq (by decide : ¬ ((1 : Int32) = (0 : Int32)))).1) (XS.aload X150.here hx rfl (hb hby at_299) rfl rfl (XS.iconst X150.here hx rfl (hb hby at_301) kq))))) ?_
        have f152 := (f149.keep K150 nin0)
        have f153 := ((f135.keep K148).keep K150)
        have f154 := ((f136.keep K148 nin0).keep K150 nin0)
        have f155 := ((f137.keep K148 nin0).keep K150 nin0)
        have f156 := (V148.keep K150 nin0)
        have f157 := ((f138.keep K148 nin0).keep K150 nin0)
        have f158 := ((f139.keep K148 nin0).keep K150 nin0)
        have f159 := ((f140.keep K148 nin0).keep K150 nin0)
        have f160 := ((f141.keep K148).keep K150)
        have f161 := ((f142.keep K148 nin0).keep K150 nin0)
        have f162 := ((f143.keep K148 nin0).keep K150 nin0)
        have hkk163 : 2 < kn := ((own_lt (by decide) (by omega) : Int32.ofNat 2 < Int32.ofNat kn ↔ _).mp hc151)
        obtain ⟨u1163, u2163, u3163⟩ := own_chk2 hck hkk163
        have v1163 := own_p2len kn ([] : List Nat) kn
        have v2163 := (own_p3len kn ([] : List Nat) (([] : List Nat)).length).2
        have f164 := ((f145.keep K148 nin0).keep K150 nin0)
        have f165 := ((f146.keep K148 nin0).keep K150 nin0)
        have f166 := ((f147.keep K148).keep K150)
        obtain ⟨cq167, kq167, q167a, q167b, q167c⟩ := isOf hZ rfl f160
        obtain ⟨_, _, ⟨T167, L167, k167, n167⟩, -, X167, ⟨Lc167, hQ167, l167, y167, z167⟩, st167⟩ := X150.virtualBack hx (y := (⟨"com/example/vestwright/vestwright/cli/TableRows$ByKey", "rows", "(I)[I"⟩ : MethodName)) (z := (⟨"com/example/vestwright/vestwright/cli/TableRows$ByKey", "rows", "(I)[I"⟩ : MethodName)) hown (mvT hZ (hw _ (List.mem_of_getElem? (i := 52) rfl))) (mvT hZ (hw _ (List.mem_of_getElem? (i := 53) rfl))) (notFace_of_selects (args := #[]) (mvT hZ (hw _ (List.mem_of_getElem? (i := 55) rfl)))) (mvT hZ (hw _ (List.mem_of_getElem? (i := 55) rfl))) (mvT hZ (hw _ (List.mem_of_getElem? (i := 54) rfl))) (by decide) (backOf (W := 0) (rm7 l Z a0 hw [] T150.heap n0 O150 gg122 2 ss122 rr122 kss122 krr122 (own_st kn ([] : List Nat)) (own_rw kn ([] : List Nat)) f164 f165 f162 f161 f166 (by show 2 + 1 < (own_p2 kn ([] : List Nat) kn).length; omega) (by show (own_p2 kn ([] : List Nat) kn).length ≤ 4; omega) u1163 (by show _ ≤ (own_p3 kn ([] : List Nat) (([] : List Nat)).length).2.length; rw [v2163]; exact u2163) (by show (own_p3 kn ([] : List Nat) (([] : List Nat)).length).2.length ≤ 4; rw [v2163]; show 0 ≤ 4; decide)) hZ (hw _ (List.mem_of_getElem? (i := 56) rfl)) (hw _ (List.mem_of_getElem? (i := 43) rfl)) (by decide) (by decide)) q167a q167c (g := (mkF m 302 #[.val (.int p0), .val (.int p1), .val (.int p2), .val (.int p3), .val (.int p4), .val (.int (0 : Int32)), .val (.int (Int32.ofNat (kn))), .val (.ref b101), .val (.ref b106), .val (.ref b109), .val (.int (1 : Int32)), .val (.ref gg122)] [(.int (2 : Int32)), (.ref gg122)])) rfl (by rw [hml]; rfl) (Steps.refl _) (argsL := [(.int (2 : Int32))]) (rest := []) (lenOf pd_7 rfl) rfl (by show 2 * 0 + _ ≤ _; exact Nat.le_of_eq rfl) (hb hby at_302) (fun _ _ => ⟨rfl, rfl, (by decide : 15 + 1 ≤ _), (by decide : 12334 + 4 ≤ _)⟩)
        dsimp only [Pt.U, Pt.locs, Pt.cells, Pt.slots] at X167 l167 y167 z167 st167 hQ167
        subst l167 y167 z167
        obtain ⟨b167, kb167, rfl, N167, K167, gb167, V167⟩ := hQ167
        have Nf167 := Fr.app Nf150 N167
        have O167 := O150.keep K167 all0
        have KK167 := KK150.trans K167 all0
        have ne_b101_b167 : b101 ≠ b167 := Nat.ne_of_lt (Nat.lt_of_lt_of_le f152.lt gb167)
        have ne_b106_b167 : b106 ≠ b167 := Nat.ne_of_lt (Nat.lt_of_lt_of_le f153.lt gb167)
        have ne_b109_b167 : b109 ≠ b167 := Nat.ne_of_lt (Nat.lt_of_lt_of_le f154.lt gb167)
        have ne_b130_b167 : b130 ≠ b167 := Nat.ne_of_lt (Nat.lt_of_lt_of_le f155.lt gb167)
        have ne_b148_b167 : b148 ≠ b167 := Nat.ne_of_lt (Nat.lt_of_lt_of_le f156.lt gb167)
        have ne_bb108_b167 : bb108 ≠ b167 := Nat.ne_of_lt (Nat.lt_of_lt_of_le f157.lt gb167)
        have ne_bk108_b167 : bk108 ≠ b167 := Nat.ne_of_lt (Nat.lt_of_lt_of_le f158.lt gb167)
        have ne_bs108_b167 : bs108 ≠ b167 := Nat.ne_of_lt (Nat.lt_of_lt_of_le f159.lt gb167)
        have ne_gg122_b167 : gg122 ≠ b167 := Nat.ne_of_lt (Nat.lt_of_lt_of_le f160.lt gb167)
        have ne_rr122_b167 : rr122 ≠ b167 := Nat.ne_of_lt (Nat.lt_of_lt_of_le f161.lt gb167)
        have ne_ss122_b167 : ss122 ≠ b167 := Nat.ne_of_lt (Nat.lt_of_lt_of_le f162.lt gb167)
        have ge_b167 : n0 ≤ b167 := Nat.le_trans (own_osz O150) gb167
        have gk_b167 : h0.size ≤ b167 := Nat.le_trans KK150.1 gb167
        rw [u3163] at V167
        refine own_go (S' := (T167.setTop (mkF m 310 #[.val (.int p0), .val (.int p1), .val (.int p2), .val (.int p3), .val (.int p4), .val (.int (0 : Int32)), .val (.int (Int32.ofNat (kn))), .val (.ref b101), .val (.ref b106), .val (.ref b109), .val (.int (1 : Int32)), .val (.ref gg122)] [(.int (2 : Int32)), (.int (0 : Int32)), (.ref b101), (.ref b167)]))) (fun tq kq => st167.trans (XS.aload X167.here hx rfl (hb hby at_305) rfl rfl (XS.iload X167.here hx rfl (hb hby at_307) rfl (XS.iconst X167.here hx rfl (hb hby at_309) kq)))) ?_
        have f168 := (f152.keep K167 nin0)
        obtain ⟨_, _, ⟨T169, L169, k169, n169⟩, -, X169, ⟨Lc169, hQ169, l169, y169, z169⟩, st169⟩ := Jvm.LawKit.callS X167 hx (y := (⟨"com/example/vestwright/vestwright/cli/TableRowsByKeyPinLaw", "same", "([I[III)Z"⟩ : MethodName)) hown (mvT hZ (hw _ (List.mem_of_getElem? (i := 69) rfl))) (mvT hZ (hw _ (List.mem_of_getElem? (i := 70) rfl))) (mvT hZ (hw _ (List.mem_of_getElem? (i := 71) rfl))) (mvT hZ (hw _ (List.mem_of_getElem? (i := 72) rfl))) (by decide) (backOf (W := 0) (rm9_0 l Z a0 hw [] T167.heap n0 O167 b167 b101 2 kb167 k101 q0 q1 q2 q3 V167 f168 (by omega)) hZ (hw _ (List.mem_of_getElem? (i := 72) rfl)) (hw _ (List.mem_of_getElem? (i := 71) rfl)) (by decide) (by decide)) (g := (mkF m 310 #[.val (.int p0), .val (.int p1), .val (.int p2), .val (.int p3), .val (.int p4), .val (.int (0 : Int32)), .val (.int (Int32.ofNat (kn))), .val (.ref b101), .val (.ref b106), .val (.ref b109), .val (.int (1 : Int32)), .val (.ref gg122)] [(.int (2 : Int32)), (.int (0 : Int32)), (.ref b101), (.ref b167)])) rfl (by rw [hml]; rfl) (argsL := [(.ref b167), (.ref b101), (.int (0 : Int32)), (.int (2 : Int32))]) (rest := []) (lenOf pd_8 rfl) rfl (by show 2 * 0 + _ ≤ _; exact Nat.le_of_eq rfl) (hb hby at_310) (fun _ _ => ⟨rfl, rfl, (by decide : 16 + 1 ≤ _), (by decide : 12338 + 4 ≤ _)⟩)
        dsimp only [Pt.U, Pt.locs, Pt.cells, Pt.slots] at X169 l169 y169 z169 st169 hQ169
        subst l169 y169 z169
        obtain ⟨rfl, N169, K169⟩ := hQ169
        have Nf169 := Fr.app Nf167 N169
        have O169 := O167.keep K169 all0
        have KK169 := KK167.trans K169 all0
        refine own_go (S' := (T169.setTop (mkF m 325 #[.val (.int p0), .val (.int p1), .val (.int p2), .val (.int p3), .val (.int p4), .val (.int (0 : Int32)), .val (.int (Int32.ofNat (kn))), .val (.ref b101), .val (.ref b106), .val (.ref b109), .val (.int (1 : Int32)), .val (.ref gg122)] [(.int (1 : Int32))]))) (fun tq kq => st169 tq (XS.ifNo X169.here hx rfl (hb hby at_313) rfl ((if0 _ _).trans (feq (by decide : ¬ ((1 : Int32) = (0 : Int32)))).1) (XS.iconst X169.here hx rfl (hb hby at_316) (XS.goto X169.here hx rfl (pc0 := 317) (pc' := 321) rfl (hb hby at_317) (by decide) (by decide) (XS.istore X169.here hx rfl (hb hby at_321) rfl (l' := #[.val (.int p0), .val (.int p1), .val (.int p2), .val (.int p3), .val (.int p4), .val (.int (0 : Int32)), .val (.int (Int32.ofNat (kn))), .val (.ref b101), .val (.ref b106), .val (.ref b109), .val (.int (1 : Int32)), .val (.ref gg122)]) rfl (XS.iload X169.here hx rfl (hb hby at_323) rfl kq)))))) ?_
        refine own_retN X169 hx hlk hret (by simp) (hb hby at_325) (by decide) (by decide) ?_
        exact ⟨rfl, Nf169⟩
      · refine own_go (S' := (T150.setTop (mkF m 325 #[.val (.int p0), .val (.int p1), .val (.int p2), .val (.int p3), .val (.int p4), .val (.int (0 : Int32)), .val (.int (Int32.ofNat (kn))), .val (.ref b101), .val (.ref b106), .val (.ref b109), .val (.int (1 : Int32)), .val (.ref gg122)] [(.int (1 : Int32))]))) (fun tq kq => XS.icmpYes X150.here hx rfl (pc0 := 291) (pc' := 323) rfl (hb hby at_291) rfl (flt hc151).2.2.2 (by decide) (by decide) (XS.iload X150.here hx rfl (hb hby at_323) rfl kq)) ?_
        refine own_retN X150 hx hlk hret (by simp) (hb hby at_325) (by decide) (by decide) ?_
        exact ⟨rfl, Nf150⟩
    · refine own_go (S' := (T132.setTop (mkF m 291 #[.val (.int p0), .val (.int p1), .val (.int p2), .val (.int p3), .val (.int p4), .val (.int (0 : Int32)), .val (.int (Int32.ofNat (kn))), .val (.ref b101), .val (.ref b106), .val (.ref b109), .val (.int (1 : Int32)), .val (.ref gg122)] [(.int (2 : Int32)), (.int (Int32.ofNat (kn)))]))) (fun tq kq => XS.icmpYes X132.here hx rfl (pc0 := 256) (pc' := 288) rfl (hb hby at_256) rfl (flt hc133).2.2.2 (by decide) (by decide) (XS.iload X132.here hx rfl (hb hby at_288) rfl (XS.iconst X132.here hx rfl (hb hby at_290) kq))) ?_
      by_cases hc170 : (2 : Int32) < (Int32.ofNat (kn))
      · refine own_go (S' := (T132.setTop (mkF m 302 #[.val (.int p0), .val (.int p1), .val (.int p2), .val (.int p3), .val (.int p4), .val (.int (0 : Int32)), .val (.int (Int32.ofNat (kn))), .val (.ref b101), .val (.ref b106), .val (.ref b109), .val (.int (1 : Int32)), .val (.ref gg122)] [(.int (2 : Int32)), (.ref gg122)]))) (fun tq kq => XS.icmpNo X132.here hx rfl (hb hby at_291) rfl (tlt hc170).2.2.2 (XS.iload X132.here hx rfl (hb hby at_294) rfl (XS.ifNo X132.here hx rfl (hb hby at_296) rfl ((if0 _ _).trans (feq (by decide : ¬ ((1 : Int32) = (0 : Int32)))).1) (XS.aload X132.here hx rfl (hb hby at_299) rfl rfl (XS.iconst X132.here hx rfl (hb hby at_301) kq))))) ?_
        have f171 := (f131.keep K132 nin0)
        have f172 := ((f124.keep K130).keep K132)
        have f173 := ((f125.keep K130 nin0).keep K132 nin0)
        have f174 := (V130.keep K132 nin0)
        have f175 := ((f126.keep K130 nin0).keep K132 nin0)
        have f176 := ((f127.keep K130 nin0).keep K132 nin0)
        have f177 := ((f128.keep K130 nin0).keep K132 nin0)
        have f178 := ((Eg122.keep K130).keep K132)
        have f179 := ((Vr122.keep K130 nin0).keep K132 nin0)
        have f180 := ((Vs122.keep K130 nin0).keep K132 nin0)
        have hkk181 : 2 < kn := ((own_lt (by decide) (by omega) : Int32.ofNat 2 < Int32.ofNat kn ↔ _).mp hc170)
        obtain ⟨u1181, u2181, u3181⟩ := own_chk2 hck hkk181
        have v1181 := own_p2len kn ([] : List Nat) kn
        have v2181 := (own_p3len kn ([] : List Nat) (([] : List Nat)).length).2
        have f182 := ((Fs122.keep K130 nin0).keep K132 nin0)
        have f183 := ((Fr122.keep K130 nin0).keep K132 nin0)
        have f184 := ((Er122.keep K130).keep K132)
        obtain ⟨cq185, kq185, q185a, q185b, q185c⟩ := isOf hZ rfl f178
        obtain ⟨_, _, ⟨T185, L185, k185, n185⟩, -, X185, ⟨Lc185, hQ185, l185, y185, z185⟩, st185⟩ := X132.virtualBack hx (y := (⟨"com/example/vestwright/vestwright/cli/TableRows$ByKey", "rows", "(I)[I"⟩ : MethodName)) (z := (⟨"com/example/vestwright/vestwright/cli/TableRows$ByKey", "rows", "(I)[I"⟩ : MethodName)) hown (mvT hZ (hw _ (List.mem_of_getElem? (i := 52) rfl))) (mvT hZ (hw _ (List.mem_of_getElem? (i := 53) rfl))) (notFace_of_selects (args := #[]) (mvT hZ (hw _ (List.mem_of_getElem? (i := 55) rfl)))) (mvT hZ (hw _ (List.mem_of_getElem? (i := 55) rfl))) (mvT hZ (hw _ (List.mem_of_getElem? (i := 54) rfl))) (by decide) (backOf (W := 0) (rm7 l Z a0 hw [] T132.heap n0 O132 gg122 2 ss122 rr122 kss122 krr122 (own_st kn ([] : List Nat)) (own_rw kn ([] : List Nat)) f182 f183 f180 f179 f184 (by show 2 + 1 < (own_p2 kn ([] : List Nat) kn).length; omega) (by show (own_p2 kn ([] : List Nat) kn).length ≤ 4; omega) u1181 (by show _ ≤ (own_p3 kn ([] : List Nat) (([] : List Nat)).length).2.length; rw [v2181]; exact u2181) (by show (own_p3 kn ([] : List Nat) (([] : List Nat)).length).2.length ≤ 4; rw [v2181]; show 0 ≤ 4; decide)) hZ (hw _ (List.mem_of_getElem? (i := 56) rfl)) (hw _ (List.mem_of_getElem? (i := 43) rfl)) (by decide) (by decide)) q185a q185c (g := (mkF m 302 #[.val (.int p0), .val (.int p1), .val (.int p2), .val (.int p3), .val (.int p4), .val (.int (0 : Int32)), .val (.int (Int32.ofNat (kn))), .val (.ref b101), .val (.ref b106), .val (.ref b109), .val (.int (1 : Int32)), .val (.ref gg122)] [(.int (2 : Int32)), (.ref gg122)])) rfl (by rw [hml]; rfl) (Steps.refl _) (argsL := [(.int (2 : Int32))]) (rest := []) (lenOf pd_7 rfl) rfl (by show 2 * 0 + _ ≤ _; exact Nat.le_of_eq rfl) (hb hby at_302) (fun _ _ => ⟨rfl, rfl, (by decide : 13 + 1 ≤ _), (by decide : 12326 + 4 ≤ _)⟩)
        dsimp only [Pt.U, Pt.locs, Pt.cells, Pt.slots] at X185 l185 y185 z185 st185 hQ185
        subst l185 y185 z185
        obtain ⟨b185, kb185, rfl, N185, K185, gb185, V185⟩ := hQ185
        have Nf185 := Fr.app Nf132 N185
        have O185 := O132.keep K185 all0
        have KK185 := KK132.trans K185 all0
        have ne_b101_b185 : b101 ≠ b185 := Nat.ne_of_lt (Nat.lt_of_lt_of_le f171.lt gb185)
        have ne_b106_b185 : b106 ≠ b185 := Nat.ne_of_lt (Nat.lt_of_lt_of_le f172.lt gb185)
        have ne_b109_b185 : b109 ≠ b185 := Nat.ne_of_lt (Nat.lt_of_lt_of_le f173.lt gb185)
        have ne_b130_b185 : b130 ≠ b185 := Nat.ne_of_lt (Nat.lt_of_lt_of_le f174.lt gb185)
        have ne_bb108_b185 : bb108 ≠ b185 := Nat.ne_of_lt (Nat.lt_of_lt_of_le f175.lt gb185)
        have ne_bk108_b185 : bk108 ≠ b185 := Nat.ne_of_lt (Nat.lt_of_lt_of_le f176.lt gb185)
        have ne_bs108_b185 : bs108 ≠ b185 := Nat.ne_of_lt (Nat.lt_of_lt_of_le f177.lt gb185)
        have ne_gg122_b185 : gg122 ≠ b185 := Nat.ne_of_lt (Nat.lt_of_lt_of_le f178.lt gb185)
        have ne_rr122_b185 : rr122 ≠ b185 := Nat.ne_of_lt (Nat.lt_of_lt_of_le f179.lt gb185)
        have ne_ss122_b185 : ss122 ≠ b185 := Nat.ne_of_lt (Nat.lt_of_lt_of_le f180.lt gb185)
        have ge_b185 : n0 ≤ b185 := Nat.le_trans (own_osz O132) gb185
        have gk_b185 : h0.size ≤ b185 := Nat.le_trans KK132.1 gb185
        rw [u3181] at V185
        refine own_go (S' := (T185.setTop (mkF m 310 #[.val (.int p0), .val (.int p1), .val (.int p2), .val (.int p3), .val (.int p4), .val (.int (0 : Int32)), .val (.int (Int32.ofNat (kn))), .val (.ref b101), .val (.ref b106), .val (.ref b109), .val (.int (1 : Int32)), .val (.ref gg122)] [(.int (2 : Int32)), (.int (0 : Int32)), (.ref b101), (.ref b185)]))) (fun tq kq => st185.trans (XS.aload X185.here hx rfl (hb hby at_305) rfl rfl (XS.iload X185.here hx rfl (hb hby at_307) rfl (XS.iconst X185.here hx rfl (hb hby at_309) kq)))) ?_
        have f186 := (f171.keep K185 nin0)
        obtain ⟨_, _, ⟨T187, L187, k187, n187⟩, -, X187, ⟨Lc187, hQ187, l187, y187, z187⟩, st187⟩ := Jvm.LawKit.callS X185 hx (y := (⟨"com/example/vestwright/vestwright/cli/TableRowsByKeyPinLaw", "same", "([I[III)Z"⟩ : MethodName)) hown (mvT hZ (hw _ (List.mem_of_getElem? (i := 69) rfl))) (mvT hZ (hw _ (List.mem_of_getElem? (i := 70) rfl))) (mvT hZ (hw _ (List.mem_of_getElem? (i := 71) rfl))) (mvT hZ (hw _ (List.mem_of_getElem? (i := 72) rfl))) (by decide) (backOf (W := 0) (rm9_0 l Z a0 hw [] T185.heap n0 O185 b185 b101 2 kb185 k101 q0 q1 q2 q3 V185 f186 (by omega)) hZ (hw _ (List.mem_of_getElem? (i := 72) rfl)) (hw _ (List.mem_of_getElem? (i := 71) rfl)) (by decide) (by decide)) (g := (mkF m 310 #[.val (.int p0), .val (.int p1), .val (.int p2), .val (.int p3), .val (.int p4), .val (.int (0 : Int32)), .val (.int (Int32.ofNat (kn))), .val (.ref b101), .val (.ref b106), .val (.ref b109), .val (.int (1 : Int32)), .val (.ref gg122)] [(.int (2 : Int32)), (.int (0 : Int32)), (.ref b101), (.ref b185)])) rfl (by rw [hml]; rfl) (argsL := [(.ref b185), (.ref b101), (.int (0 : Int32)), (.int (2 : Int32))]) (rest := []) (lenOf pd_8 rfl) rfl (by show 2 * 0 + _ ≤ _; exact Nat.le_of_eq rfl) (hb hby at_310) (fun _ _ => ⟨rfl, rfl, (by decide : 14 + 1 ≤ _), (by decide : 12330 + 4 ≤ _)⟩)
        dsimp only [Pt.U, Pt.locs, Pt.cells, Pt.slots] at X187 l187 y187 z187 st187 hQ187
        subst l187 y187 z187
        obtain ⟨rfl, N187, K187⟩ := hQ187
        have Nf187 := Fr.app Nf185 N187
        have O187 := O185.keep K187 all0
        have KK187 := KK185.trans K187 all0
        refine own_go (S' := (T187.setTop (mkF m 325 #[.val (.int p0), .val (.int p1), .val (.int p2), .val (.int p3), .val (.int p4), .val (.int (0 : Int32)), .val (.int (Int32.ofNat (kn))), .val (.ref b101), .val (.ref b106), .val (.ref b109), .val (.int (1 : Int32)), .val (.ref gg122)] [(.int (1 : Int32))]))) (fun tq kq => st187 tq (XS.ifNo X187.here hx rfl (hb hby at_313) rfl ((if0 _ _).trans (feq (by decide : ¬ ((1 : Int32) = (0 : Int32)))).1) (XS.iconst X187.here hx rfl (hb hby at_316) (XS.goto X187.here hx rfl (pc0 := 317) (pc' := 321) rfl (hb hby at_317) (by decide) (by decide) (XS.istore X187.here hx rfl (hb hby at_321) rfl (l' := #[.val (.int p0), .val (.int p1), .val (.int p2), .val (.int p3), .val (.int p4), .val (.int (0 : Int32)), .val (.int (Int32.ofNat (kn))), .val (.ref b101), .val (.ref b106), .val (.ref b109), .val (.int (1 : Int32)), .val (.ref gg122)]) rfl (XS.iload X187.here hx rfl (hb hby at_323) rfl kq)))))) ?_
        refine own_retN X187 hx hlk hret (by simp) (hb hby at_325) (by decide) (by decide) ?_
        exact ⟨rfl, Nf187⟩
      · refine own_go (S' := (T132.setTop (mkF m 325 #[.val (.int p0), .val (.int p1), .val (.int p2), .val (.int p3), .val (.int p4), .val (.int (0 : Int32)), .val (.int (Int32.ofNat (kn))), .val (.ref b101), .val (.ref b106), .val (.ref b109), .val (.int (1 : Int32)), .val (.ref gg122)] [(.int (1 : Int32))]))) (fun tq kq => XS.icmpYes X132.here hx rfl (pc0 := 291) (pc' := 323) rfl (hb hby at_291) rfl (flt hc170).2.2.2 (by decide) (by decide) (XS.iload X132.here hx rfl (hb hby at_323) rfl kq)) ?_
        refine own_retN X132 hx hlk hret (by simp) (hb hby at_325) (by decide) (by decide) ?_
        exact ⟨rfl, Nf132⟩
  · rw [hn5]
    refine own_go (S' := (T109.setTop (mkF m 100 #[.val (.int p0), .val (.int p1), .val (.int p2), .val (.int p3), .val (.int p4), .val (.int (1 : Int32)), .val (.int (Int32.ofNat (kn))), .val (.ref b101), .val (.ref b106), .val (.ref b109), .val (.int (1 : Int32)), .unset] [(.int (0 : Int32)), (.ref b101), (.ref b109), (.ref b106)]))) (fun tq kq => XS.iload X109.here hx rfl (hb hby at_88) rfl (XS.ifNo X109.here hx rfl (hb hby at_90) rfl ((if0 _ _).trans (tlt (by decide : (0 : Int32) < (1 : Int32))).2.2.2) (XS.aload X109.here hx rfl (hb hby at_93) rfl rfl (XS.aload X109.here hx rfl (hb hby at_95) rfl rfl (XS.aload X109.here hx rfl (hb hby at_97) rfl rfl (XS.iconst X109.here hx rfl (hb hby at_99) kq)))))) ?_
    have f188 := (f110.ext E109)
    obtain ⟨cl189, Ar189, -, -, hin189, hat189⟩ := f188.at (j := (0 : Int32)) (v := (.int (Int32.ofNat q0))) (by decide) rfl
    refine own_go (S' := (T109.setTop (mkF m 101 #[.val (.int p0), .val (.int p1), .val (.int p2), .val (.int p3), .val (.int p4), .val (.int (1 : Int32)), .val (.int (Int32.ofNat (kn))), .val (.ref b101), .val (.ref b106), .val (.ref b109), .val (.int (1 : Int32)), .unset] [(.int (Int32.ofNat q0)), (.ref b109), (.ref b106)]))) (fun tq kq => X109.iaload hx (j := (0 : Int32)) (v := (.int (Int32.ofNat q0))) (by rw [e109]; exact Ar189.1) (State.isArrayOf_alike hZ.alike Ar189.2.1) Ar189.2.2 hin189 hat189 (g := (mkF m 100 #[.val (.int p0), .val (.int p1), .val (.int p2), .val (.int p3), .val (.int p4), .val (.int (1 : Int32)), .val (.int (Int32.ofNat (kn))), .val (.ref b101), .val (.ref b106), .val (.ref b109), .val (.int (1 : Int32)), .unset] [(.int (0 : Int32)), (.ref b101), (.ref b109), (.ref b106)])) rfl rfl (hb hby at_100) tq kq) ?_
    have f190 := (Et108.ext E109)
    have f191 := (Fw108.ext E109)
    have f192 := (Fb108.ext E109)
    have f193 := (Fu108.ext E109)
    have f194 := (Fs108.ext E109)
    have f195 := (Fk108.ext E109)
    have f196 := (Fz108.ext E109)
    have f197 := (Vb108.ext E109)
    have f198 := (Vs108.ext E109)
    have f199 := (Vk108.ext E109)
    obtain ⟨cq200, kq200, q200a, q200b, q200c⟩ := isOf hZ e109 f190
    obtain ⟨_, _, ⟨T200, L200, k200, n200⟩, -, X200, ⟨Lc200, hQ200, l200, y200, z200⟩, st200⟩ := X109.virtualBack hx (y := (⟨"com/example/vestwright/vestwright/cli/TableRows", "add", "([Ljava/lang/String;I)Z"⟩ : MethodName)) (z := (⟨"com/example/vestwright/vestwright/cli/TableRows", "add", "([Ljava/lang/String;I)Z"⟩ : MethodName)) hown (mvT hZ (hw _ (List.mem_of_getElem? (i := 73) rfl))) (mvT hZ (hw _ (List.mem_of_getElem? (i := 74) rfl))) (notFace_of_selects (args := #[]) (mvT hZ (hw _ (List.mem_of_getElem? (i := 76) rfl)))) (mvT hZ (hw _ (List.mem_of_getElem? (i := 76) rfl))) (mvT hZ (hw _ (List.mem_of_getElem? (i := 75) rfl))) (by decide) (backOf (W := 0) (rm10 l Z a0 hw [] h109 n0 O109 b106 bb108 bs108 bk108 ka108 kb108 kc108 ([] : List Nat) b109 q0 ⟨⟨f190, f191, f192, f193, f194, f195, f196⟩, ⟨f197, f198, f199⟩, nq1108, nq2108, nq3108, nq4108, nq5108, nq6108⟩ (by show 0 < 4; decide) ge_b106 ge_bs108 ge_bk108) hZ (hw _ (List.mem_of_getElem? (i := 77) rfl)) (hw _ (List.mem_of_getElem? (i := 4) rfl)) (by decide) (by decide)) q200a q200c (g := (mkF m 101 #[.val (.int p0), .val (.int p1), .val (.int p2), .val (.int p3), .val (.int p4), .val (.int (1 : Int32)), .val (.int (Int32.ofNat (kn))), .val (.ref b101), .val (.ref b106), .val (.ref b109), .val (.int (1 : Int32)), .unset] [(.int (Int32.ofNat q0)), (.ref b109), (.ref b106)])) rfl (by rw [hml]; rfl) (Steps.refl _) (argsL := [(.ref b109), (.int (Int32.ofNat q0))]) (rest := []) (lenOf pd_9 rfl) rfl (by show 2 * 0 + _ ≤ _; exact Nat.le_of_eq rfl) (hb hby at_101) (fun _ _ => ⟨rfl, e109, (by decide : 6 + 1 ≤ _), (by decide : 12298 + 0 ≤ _)⟩)
    dsimp only [Pt.U, Pt.locs, Pt.cells, Pt.slots] at X200 l200 y200 z200 st200 hQ200
    subst l200 y200 z200
    obtain ⟨rfl, N200, K200, TR200⟩ := hQ200
    have Nf200 := Fr.app Nf108 N200
    have O200 := O109.keep K200 (allS ge_b106 (allS ge_bs108 (allS ge_bk108 all0)))
    have KK200 := K109.trans K200 (allS (Or.inr gk_b106) (allS (Or.inr gk_bs108) (allS (Or.inr gk_bk108) all0)))
    obtain ⟨⟨Etx200, Fwx200, Fbx200, Fux200, Fsx200, Fkx200, Fzx200⟩, ⟨Vbx200, Vsx200, Vkx200⟩, nq1x200, nq2x200, nq3x200, nq4x200, nq5x200, nq6x200⟩ := (show own_TR Z T200.heap b106 bb108 bs108 bk108 ka108 kb108 kc108 [q0] from TR200)
    refine own_go (S' := (T200.setTop (mkF m 151 #[.val (.int p0), .val (.int p1), .val (.int p2), .val (.int p3), .val (.int p4), .val (.int (1 : Int32)), .val (.int (Int32.ofNat (kn))), .val (.ref b101), .val (.ref b106), .val (.ref b109), .val (.int (1 : Int32)), .unset] []))) (fun tq kq => st200.trans (XS.ifNo X200.here hx rfl (hb hby at_104) rfl ((if0 _ _).trans (feq (by decide : ¬ ((1 : Int32) = (0 : Int32)))).1) (XS.iload X200.here hx rfl (hb hby at_107) rfl (XS.ifNo X200.here hx rfl (hb hby at_109) rfl ((if0 _ _).trans (feq (by decide : ¬ ((1 : Int32) = (0 : Int32)))).1) (XS.iconst X200.here hx rfl (hb hby at_112) (XS.goto X200.here hx rfl (pc0 := 113) (pc' := 117) rfl (hb hby at_113) (by decide) (by decide) (XS.istore X200.here hx rfl (hb hby at_117) rfl (l' := #[.val (.int p0), .val (.int p1), .val (.int p2), .val (.int p3), .val (.int p4), .val (.int (1 : Int32)), .val (.int (Int32.ofNat (kn))), .val (.ref b101), .val (.ref b106), .val (.ref b109), .val (.int (1 : Int32)), .unset]) rfl (XS.iload X200.here hx rfl (hb hby at_119) rfl (XS.iconst X200.here hx rfl (hb hby at_121) (XS.icmpYes X200.here hx rfl (pc0 := 122) (pc' := 151) rfl (hb hby at_122) rfl (flt (by decide : ¬ ((1 : Int32) < (1 : Int32)))).2.2.2 (by decide) (by decide) kq)))))))))) ?_
    refine own_go (S' := (T200.setTop (mkF m 219 #[.val (.int p0), .val (.int p1), .val (.int p2), .val (.int p3), .val (.int p4), .val (.int (1 : Int32)), .val (.int (Int32.ofNat (kn))), .val (.ref b101), .val (.ref b106), .val (.ref b109), .val (.int (1 : Int32)), .unset] [(.int (Int32.ofNat (kn))), (.ref b106)]))) (fun tq kq => XS.iload X200.here hx rfl (hb hby at_151) rfl (XS.iconst X200.here hx rfl (hb hby at_153) (XS.icmpYes X200.here hx rfl (pc0 := 154) (pc' := 183) rfl (hb hby at_154) rfl (flt (by decide : ¬ ((2 : Int32) < (1 : Int32)))).2.2.2 (by decide) (by decide) (XS.iload X200.here hx rfl (hb hby at_183) rfl (XS.iconst X200.here hx rfl (hb hby at_185) (XS.icmpYes X200.here hx rfl (pc0 := 186) (pc' := 215) rfl (hb hby at_186) rfl (flt (by decide : ¬ ((3 : Int32) < (1 : Int32)))).2.2.2 (by decide) (by decide) (XS.aload X200.here hx rfl (hb hby at_215) rfl rfl (XS.iload X200.here hx rfl (hb hby at_217) rfl kq)))))))) ?_
    have f201 := (f188.keep K200 (ninS ne_b101_b106 (ninS ne_b101_bs108 (ninS ne_b101_bk108 nin0))))
    have f202 := (V109.keep K200 (ninS (Ne.symm ne_b106_b109) (ninS (Ne.symm ne_bs108_b109) (ninS (Ne.symm ne_bk108_b109) nin0))))
    have hks : ∀ x ∈ [q0], x < kn := by intro x hx_; simp only [List.mem_cons, List.not_mem_nil, or_false] at hx_; omega
    have hck := own_chks hk1 hk3 (by show 1 ≤ 4; decide) hks
    obtain ⟨cq203, kq203, q203a, q203b, q203c⟩ := isOf hZ rfl Etx200
    obtain ⟨_, _, ⟨T203, L203, k203, n203⟩, -, X203, ⟨Lc203, hQ203, l203, y203, z203⟩, st203⟩ := X200.virtualBack hx (y := (⟨"com/example/vestwright/vestwright/cli/TableRows", "byKey", "(I)Lcom/example/vestwright/vestwright/cli/TableRows$ByKey;"⟩ : MethodName)) (z := (⟨"com/example/vestwright/vestwright/cli/TableRows", "byKey", "(I)Lcom/example/vestwright/vestwright/cli/TableRows$ByKey;"⟩ : MethodName)) hown (mvT hZ (hw _ (List.mem_of_getElem? (i := 22) rfl))) (mvT hZ (hw _ (List.mem_of_getElem? (i := 23) rfl))) (notFace_of_selects (args := #[]) (mvT hZ (hw _ (List.mem_of_getElem? (i := 25) rfl)))) (mvT hZ (hw _ (List.mem_of_getElem? (i := 25) rfl))) (mvT hZ (hw _ (List.mem_of_getElem? (i := 24) rfl))) (by decide) (backOf (W := 0) (rm3 l Z a0 hw [] T200.heap n0 O200 b106 bb108 bs108 bk108 ka108 kb108 kc108 [q0] kn ⟨⟨Etx200, Fwx200, Fbx200, Fux200, Fsx200, Fkx200, Fzx200⟩, ⟨Vbx200, Vsx200, Vkx200⟩, nq1x200, nq2x200, nq3x200, nq4x200, nq5x200, nq6x200⟩ hk1 hk3 (by show 1 ≤ 4; decide) hks hck) hZ (hw _ (List.mem_of_getElem? (i := 26) rfl)) (hw _ (List.mem_of_getElem? (i := 4) rfl)) (by decide) (by decide)) q203a q203c (g := (mkF m 219 #[.val (.int p0), .val (.int p1), .val (.int p2), .val (.int p3), .val (.int p4), .val (.int (1 : Int32)), .val (.int (Int32.ofNat (kn))), .val (.ref b101), .val (.ref b106), .val (.ref b109), .val (.int (1 : Int32)), .unset] [(.int (Int32.ofNat (kn))), (.ref b106)])) rfl (by rw [hml]; rfl) (Steps.refl _) (argsL := [(.int (Int32.ofNat (kn)))]) (rest := []) (lenOf pd_6 rfl) rfl (by show 2 * 0 + _ ≤ _; exact Nat.le_of_eq rfl) (hb hby at_219) (fun _ _ => ⟨rfl, rfl, (by decide : 7 + 5 ≤ _), (by decide : 12298 + 20 ≤ _)⟩)
    dsimp only [Pt.U, Pt.locs, Pt.cells, Pt.slots] at X203 l203 y203 z203 st203 hQ203
    subst l203 y203 z203
    obtain ⟨gg203, ss203, rr203, kss203, krr203, rfl, N203, K203, gA203, gB203, gC203, Eg203, Fs203, Fr203, Vs203, Vr203, Er203⟩ := hQ203
    have Nf203 := Fr.app Nf200 N203
    have O203 := O200.keep K203 all0
    have KK203 := KK200.trans K203 all0
    have ne_b101_gg203 : b101 ≠ gg203 := Nat.ne_of_lt (Nat.lt_of_lt_of_le f201.lt gA203)
    have ne_b106_gg203 : b106 ≠ gg203 := Nat.ne_of_lt (Nat.lt_of_lt_of_le Etx200.lt gA203)
    have ne_b109_gg203 : b109 ≠ gg203 := Nat.ne_of_lt (Nat.lt_of_lt_of_le f202.lt gA203)
    have ne_bb108_gg203 : bb108 ≠ gg203 := Nat.ne_of_lt (Nat.lt_of_lt_of_le Vbx200.lt gA203)
    have ne_bk108_gg203 : bk108 ≠ gg203 := Nat.ne_of_lt (Nat.lt_of_lt_of_le Vkx200.lt gA203)
    have ne_bs108_gg203 : bs108 ≠ gg203 := Nat.ne_of_lt (Nat.lt_of_lt_of_le Vsx200.lt gA203)
    have ge_gg203 : n0 ≤ gg203 := Nat.le_trans (own_osz O200) gA203
    have gk_gg203 : h0.size ≤ gg203 := Nat.le_trans KK200.1 gA203
    have ne_b101_ss203 : b101 ≠ ss203 := Nat.ne_of_lt (Nat.lt_of_lt_of_le f201.lt gB203)
    have ne_b106_ss203 : b106 ≠ ss203 := Nat.ne_of_lt (Nat.lt_of_lt_of_le Etx200.lt gB203)
    have ne_b109_ss203 : b109 ≠ ss203 := Nat.ne_of_lt (Nat.lt_of_lt_of_le f202.lt gB203)
    have ne_bb108_ss203 : bb108 ≠ ss203 := Nat.ne_of_lt (Nat.lt_of_lt_of_le Vbx200.lt gB203)
    have ne_bk108_ss203 : bk108 ≠ ss203 := Nat.ne_of_lt (Nat.lt_of_lt_of_le Vkx200.lt gB203)
    have ne_bs108_ss203 : bs108 ≠ ss203 := Nat.ne_of_lt (Nat.lt_of_lt_of_le Vsx200.lt gB203)
    have ge_ss203 : n0 ≤ ss203 := Nat.le_trans (own_osz O200) gB203
    have gk_ss203 : h0.size ≤ ss203 := Nat.le_trans KK200.1 gB203
    have ne_b101_rr203 : b101 ≠ rr203 := Nat.ne_of_lt (Nat.lt_of_lt_of_le f201.lt gC203)
    have ne_b106_rr203 : b106 ≠ rr203 := Nat.ne_of_lt (Nat.lt_of_lt_of_le Etx200.lt gC203)
    have ne_b109_rr203 : b109 ≠ rr203 := Nat.ne_of_lt (Nat.lt_of_lt_of_le f202.lt gC203)
    have ne_bb108_rr203 : bb108 ≠ rr203 := Nat.ne_of_lt (Nat.lt_of_lt_of_le Vbx200.lt gC203)
    have ne_bk108_rr203 : bk108 ≠ rr203 := Nat.ne_of_lt (Nat.lt_of_lt_of_le Vkx200.lt gC203)
    have ne_bs108_rr203 : bs108 ≠ rr203 := Nat.ne_of_lt (Nat.lt_of_lt_of_le Vsx200.lt gC203)
    have ge_rr203 : n0 ≤ rr203 := Nat.le_trans (own_osz O200) gC203
    have gk_rr203 : h0.size ≤ rr203 := Nat.le_trans KK200.1 gC203
    refine own_go (S' := (T203.setTop (mkF m 232 #[.val (.int p0), .val (.int p1), .val (.int p2), .val (.int p3), .val (.int p4), .val (.int (1 : Int32)), .val (.int (Int32.ofNat (kn))), .val (.ref b101), .val (.ref b106), .val (.ref b109), .val (.int (1 : Int32)), .val (.ref gg203)] [(.int (0 : Int32)), (.ref gg203)]))) (fun tq kq => st203.trans (XS.astore X203.here hx rfl (hb hby at_222) rfl rfl (l' := #[.val (.int p0), .val (.int p1), .val (.int p2), .val (.int p3), .val (.int p4), .val (.int (1 : Int32)), .val (.int (Int32.ofNat (kn))), .val (.ref b101), .val (.ref b106), .val (.ref b109), .val (.int (1 : Int32)), .val (.ref gg203)]) rfl (XS.iload X203.here hx rfl (hb hby at_224) rfl (XS.ifNo X203.here hx rfl (hb hby at_226) rfl ((if0 _ _).trans (feq (by decide : ¬ ((1 : Int32) = (0 : Int32)))).1) (XS.aload X203.here hx rfl (hb hby at_229) rfl rfl (XS.iconst X203.here hx rfl (hb hby at_231) kq)))))) ?_
    have f204 := (f201.keep K203 nin0)
    have f205 := (Etx200.keep K203)
    have f206 := (f202.keep K203 nin0)
    have f207 := (Vbx200.keep K203 nin0)
    have f208 := (Vkx200.keep K203 nin0)
    have f209 := (Vsx200.keep K203 nin0)
    have hkk210 : 0 < kn := (by omega)
    obtain ⟨u1210, u2210, u3210⟩ := own_chk2 hck hkk210
    have v1210 := own_p2len kn [q0] kn
    have v2210 := (own_p3len kn [q0] ([q0]).length).2
    obtain ⟨cq211, kq211, q211a, q211b, q211c⟩ := isOf hZ rfl Eg203
    obtain ⟨_, _, ⟨T211, L211, k211, n211⟩, -, X211, ⟨Lc211, hQ211, l211, y211, z211⟩, st211⟩ := X203.virtualBack hx (y := (⟨"com/example/vestwright/vestwright/cli/TableRows$ByKey", "rows", "(I)[I"⟩ : MethodName)) (z := (⟨"com/example/vestwright/vestwright/cli/TableRows$ByKey", "rows", "(I)[I"⟩ : MethodName)) hown (mvT hZ (hw _ (List.mem_of_getElem? (i := 52) rfl))) (mvT hZ (hw _ (List.mem_of_getElem? (i := 53) rfl))) (notFace_of_selects (args := #[]) (mvT hZ (hw _ (List.mem_of_getElem? (i := 55) rfl)))) (mvT hZ (hw _ (List.mem_of_getElem? (i := 55) rfl))) (mvT hZ (hw _ (List.mem_of_getElem? (i := 54) rfl))) (by decide) (backOf (W := 0) (rm7 l Z a0 hw [] T203.heap n0 O203 gg203 0 ss203 rr203 kss203 krr203 (own_st kn [q0]) (own_rw kn [q0]) Fs203 Fr203 Vs203 Vr203 Er203 (by show 0 + 1 < (own_p2 kn [q0] kn).length; omega) (by show (own_p2 kn [q0] kn).length ≤ 4; omega) u1210 (by show _ ≤ (own_p3 kn [q0] ([q0]).length).2.length; rw [v2210]; exact u2210) (by show (own_p3 kn [q0] ([q0]).length).2.length ≤ 4; rw [v2210]; show 1 ≤ 4; decide)) hZ (hw _ (List.mem_of_getElem? (i := 56) rfl)) (hw _ (List.mem_of_getElem? (i := 43) rfl)) (by decide) (by decide)) q211a q211c (g := (mkF m 232 #[.val (.int p0), .val (.int p1), .val (.int p2), .val (.int p3), .val (.int p4), .val (.int (1 : Int32)), .val (.int (Int32.ofNat (kn))), .val (.ref b101), .val (.ref b106), .val (.ref b109), .val (.int (1 : Int32)), .val (.ref gg203)] [(.int (0 : Int32)), (.ref gg203)])) rfl (by rw [hml]; rfl) (Steps.refl _) (argsL := [(.int (0 : Int32))]) (rest := []) (lenOf pd_7 rfl) rfl (by show 2 * 0 + _ ≤ _; exact Nat.le_of_eq rfl) (hb hby at_232) (fun _ _ => ⟨rfl, rfl, (by decide : 12 + 1 ≤ _), (by decide : 12318 + 4 ≤ _)⟩)
    dsimp only [Pt.U, Pt.locs, Pt.cells, Pt.slots] at X211 l211 y211 z211 st211 hQ211
    subst l211 y211 z211
    obtain ⟨b211, kb211, rfl, N211, K211, gb211, V211⟩ := hQ211
    have Nf211 := Fr.app Nf203 N211
    have O211 := O203.keep K211 all0
    have KK211 := KK203.trans K211 all0
    have ne_b101_b211 : b101 ≠ b211 := Nat.ne_of_lt (Nat.lt_of_lt_of_le f204.lt gb211)
    have ne_b106_b211 : b106 ≠ b211 := Nat.ne_of_lt (Nat.lt_of_lt_of_le f205.lt gb211)
    have ne_b109_b211 : b109 ≠ b211 := Nat.ne_of_lt (Nat.lt_of_lt_of_le f206.lt gb211)
    have ne_bb108_b211 : bb108 ≠ b211 := Nat.ne_of_lt (Nat.lt_of_lt_of_le f207.lt gb211)
    have ne_bk108_b211 : bk108 ≠ b211 := Nat.ne_of_lt (Nat.lt_of_lt_of_le f208.lt gb211)
    have ne_bs108_b211 : bs108 ≠ b211 := Nat.ne_of_lt (Nat.lt_of_lt_of_le f209.lt gb211)
    have ne_gg203_b211 : gg203 ≠ b211 := Nat.ne_of_lt (Nat.lt_of_lt_of_le Eg203.lt gb211)
    have ne_rr203_b211 : rr203 ≠ b211 := Nat.ne_of_lt (Nat.lt_of_lt_of_le Vr203.lt gb211)
    have ne_ss203_b211 : ss203 ≠ b211 := Nat.ne_of_lt (Nat.lt_of_lt_of_le Vs203.lt gb211)
    have ge_b211 : n0 ≤ b211 := Nat.le_trans (own_osz O203) gb211
    have gk_b211 : h0.size ≤ b211 := Nat.le_trans KK203.1 gb211
    rw [u3210] at V211
    refine own_go (S' := (T211.setTop (mkF m 240 #[.val (.int p0), .val (.int p1), .val (.int p2), .val (.int p3), .val (.int p4), .val (.int (1 : Int32)), .val (.int (Int32.ofNat (kn))), .val (.ref b101), .val (.ref b106), .val (.ref b109), .val (.int (1 : Int32)), .val (.ref gg203)] [(.int (0 : Int32)), (.int (1 : Int32)), (.ref b101), (.ref b211)]))) (fun tq kq => st211.trans (XS.aload X211.here hx rfl (hb hby at_235) rfl rfl (XS.iload X211.here hx rfl (hb hby at_237) rfl (XS.iconst X211.here hx rfl (hb hby at_239) kq)))) ?_
    have f212 := (f204.keep K211 nin0)
    obtain ⟨_, _, ⟨T213, L213, k213, n213⟩, -, X213, ⟨Lc213, hQ213, l213, y213, z213⟩, st213⟩ := Jvm.LawKit.callS X211 hx (y := (⟨"com/example/vestwright/vestwright/cli/TableRowsByKeyPinLaw", "same", "([I[III)Z"⟩ : MethodName)) hown (mvT hZ (hw _ (List.mem_of_getElem? (i := 69) rfl))) (mvT hZ (hw _ (List.mem_of_getElem? (i := 70) rfl))) (mvT hZ (hw _ (List.mem_of_getElem? (i := 71) rfl))) (mvT hZ (hw _ (List.mem_of_getElem? (i := 72) rfl))) (by decide) (backOf (W := 0) (rm9_1 l Z a0 hw [] T211.heap n0 O211 b211 b101 0 kb211 k101 q0 q1 q2 q3 V211 f212 (by omega)) hZ (hw _ (List.mem_of_getElem? (i := 72) rfl)) (hw _ (List.mem_of_getElem? (i := 71) rfl)) (by decide) (by decide)) (g := (mkF m 240 #[.val (.int p0), .val (.int p1), .val (.int p2), .val (.int p3), .val (.int p4), .val (.int (1 : Int32)), .val (.int (Int32.ofNat (kn))), .val (.ref b101), .val (.ref b106), .val (.ref b109), .val (.int (1 : Int32)), .val (.ref gg203)] [(.int (0 : Int32)), (.int (1 : Int32)), (.ref b101), (.ref b211)])) rfl (by rw [hml]; rfl) (argsL := [(.ref b211), (.ref b101), (.int (1 : Int32)), (.int (0 : Int32))]) (rest := []) (lenOf pd_8 rfl) rfl (by show 2 * 0 + _ ≤ _; exact Nat.le_of_eq rfl) (hb hby at_240) (fun _ _ => ⟨rfl, rfl, (by decide : 13 + 1 ≤ _), (by decide : 12322 + 4 ≤ _)⟩)
    dsimp only [Pt.U, Pt.locs, Pt.cells, Pt.slots] at X213 l213 y213 z213 st213 hQ213
    subst l213 y213 z213
    obtain ⟨rfl, N213, K213⟩ := hQ213
    have Nf213 := Fr.app Nf211 N213
    have O213 := O211.keep K213 all0
    have KK213 := KK211.trans K213 all0
    refine own_go (S' := (T213.setTop (mkF m 256 #[.val (.int p0), .val (.int p1), .val (.int p2), .val (.int p3), .val (.int p4), .val (.int (1 : Int32)), .val (.int (Int32.ofNat (kn))), .val (.ref b101), .val (.ref b106), .val (.ref b109), .val (.int (1 : Int32)), .val (.ref gg203)] [(.int (1 : Int32)), (.int (Int32.ofNat (kn)))]))) (fun tq kq => st213 tq (XS.ifNo X213.here hx rfl (hb hby at_243) rfl ((if0 _ _).trans (feq (by decide : ¬ ((1 : Int32) = (0 : Int32)))).1) (XS.iconst X213.here hx rfl (hb hby at_246) (XS.goto X213.here hx rfl (pc0 := 247) (pc' := 251) rfl (hb hby at_247) (by decide) (by decide) (XS.istore X213.here hx rfl (hb hby at_251) rfl (l' := #[.val (.int p0), .val (.int p1), .val (.int p2), .val (.int p3), .val (.int p4), .val (.int (1 : Int32)), .val (.int (Int32.ofNat (kn))), .val (.ref b101), .val (.ref b106), .val (.ref b109), .val (.int (1 : Int32)), .val (.ref gg203)]) rfl (XS.iload X213.here hx rfl (hb hby at_253) rfl (XS.iconst X213.here hx rfl (hb hby at_255) kq))))))) ?_
    by_cases hc214 : (1 : Int32) < (Int32.ofNat (kn))
    · refine own_go (S' := (T213.setTop (mkF m 267 #[.val (.int p0), .val (.int p1), .val (.int p2), .val (.int p3), .val (.int p4), .val (.int (1 : Int32)), .val (.int (Int32.ofNat (kn))), .val (.ref b101), .val (.ref b106), .val (.ref b109), .val (.int (1 : Int32)), .val (.ref gg203)] [(.int (1 : Int32)), (.ref gg203)]))) (fun tq kq => XS.icmpNo X213.here hx rfl (hb hby at_256) rfl (tlt hc214).2.2.2 (XS.iload X213.here hx rfl (hb hby at_259) rfl (XS.ifNo X213.here hx rfl (hb hby at_261) rfl ((if0 _ _).trans (feq (by decide : ¬ ((1 : Int32) = (0 : Int32)))).1) (XS.aload X213.here hx rfl (hb hby at_264) rfl rfl (XS.iconst X213.here hx rfl (hb hby at_266) kq))))) ?_
      have f215 := (f212.keep K213 nin0)
      have f216 := ((f205.keep K211).keep K213)
      have f217 := ((f206.keep K211 nin0).keep K213 nin0)
      have f218 := (V211.keep K213 nin0)
      have f219 := ((f207.keep K211 nin0).keep K213 nin0)
      have f220 := ((f208.keep K211 nin0).keep K213 nin0)
      have f221 := ((f209.keep K211 nin0).keep K213 nin0)
      have f222 := ((Eg203.keep K211).keep K213)
      have f223 := ((Vr203.keep K211 nin0).keep K213 nin0)
      have f224 := ((Vs203.keep K211 nin0).keep K213 nin0)
      have hkk225 : 1 < kn := ((own_lt (by decide) (by omega) : Int32.ofNat 1 < Int32.ofNat kn ↔ _).mp hc214)
      obtain ⟨u1225, u2225, u3225⟩ := own_chk2 hck hkk225
      have v1225 := own_p2len kn [q0] kn
      have v2225 := (own_p3len kn [q0] ([q0]).length).2
      have f226 := ((Fs203.keep K211 nin0).keep K213 nin0)
      have f227 := ((Fr203.keep K211 nin0).keep K213 nin0)
      have f228 := ((Er203.keep K211).keep K213)
      obtain ⟨cq229, kq229, q229a, q229b, q229c⟩ := isOf hZ rfl f222
      obtain ⟨_, _, ⟨T229, L229, k229, n229⟩, -, X229, ⟨Lc229, hQ229, l229, y229, z229⟩, st229⟩ := X213.virtualBack hx (y := (⟨"com/example/vestwright/vestwright/cli/TableRows$ByKey", "rows", "(I)[I"⟩ : MethodName)) (z := (⟨"com/example/vestwright/vestwright/cli/TableRows$ByKey", "rows", "(I)[I"⟩ : MethodName)) hown (mvT hZ (hw _ (List.mem_of_getElem? (i := 52) rfl))) (mvT hZ (hw _ (List.mem_of_getElem? (i := 53) rfl))) (notFace_of_selects (args := #[]) (mvT hZ (hw _ (List.mem_of_getElem? (i := 55) rfl)))) (mvT hZ (hw _ (List.mem_of_getElem? (i := 55) rfl))) (mvT hZ (hw _ (List.mem_of_getElem? (i := 54) rfl))) (by decide) (backOf (W := 0) (rm7 l Z a0 hw [] T213.heap n0 O213 gg203 1 ss203 rr203 kss203 krr203 (own_st kn [q0]) (own_rw kn [q0]) f226 f227 f224 f223 f228 (by show 1 + 1 < (own_p2 kn [q0] kn).length; omega) (by show (own_p2 kn [q0] kn).length ≤ 4; omega) u1225 (by show _ ≤ (own_p3 kn [q0] ([q0]).length).2.length; rw [v2225]; exact u2225) (by show (own_p3 kn [q0] ([q0]).length).2.length ≤ 4; rw [v2225]; show 1 ≤ 4; decide)) hZ (hw _ (List.mem_of_getElem? (i := 56) rfl)) (hw _ (List.mem_of_getElem? (i := 43) rfl)) (by decide) (by decide)) q229a q229c (g := (mkF m 267 #[.val (.int p0), .val (.int p1), .val (.int p2), .val (.int p3), .val (.int p4), .val (.int (1 : Int32)), .val (.int (Int32.ofNat (kn))), .val (.ref b101), .val (.ref b106), .val (.ref b109), .val (.int (1 : Int32)), .val (.ref gg203)] [(.int (1 : Int32)), (.ref gg203)])) rfl (by rw [hml]; rfl) (Steps.refl _) (argsL := [(.int (1 : Int32))]) (rest := []) (lenOf pd_7 rfl) rfl (by show 2 * 0 + _ ≤ _; exact Nat.le_of_eq rfl) (hb hby at_267) (fun _ _ => ⟨rfl, rfl, (by decide : 14 + 1 ≤ _), (by decide : 12326 + 4 ≤ _)⟩)
      dsimp only [Pt.U, Pt.locs, Pt.cells, Pt.slots] at X229 l229 y229 z229 st229 hQ229
      subst l229 y229 z229
      obtain ⟨b229, kb229, rfl, N229, K229, gb229, V229⟩ := hQ229
      have Nf229 := Fr.app Nf213 N229
      have O229 := O213.keep K229 all0
      have KK229 := KK213.trans K229 all0
      have ne_b101_b229 : b101 ≠ b229 := Nat.ne_of_lt (Nat.lt_of_lt_of_le f215.lt gb229)
      have ne_b106_b229 : b106 ≠ b229 := Nat.ne_of_lt (Nat.lt_of_lt_of_le f216.lt gb229)
      have ne_b109_b229 : b109 ≠ b229 := Nat.ne_of_lt (Nat.lt_of_lt_of_le f217.lt gb229)
      have ne_b211_b229 : b211 ≠ b229 := Nat.ne_of_lt (Nat.lt_of_lt_of_le f218.lt gb229)
      have ne_bb108_b229 : bb108 ≠ b229 := Nat.ne_of_lt (Nat.lt_of_lt_of_le f219.lt gb229)
      have ne_bk108_b229 : bk108 ≠ b229 := Nat.ne_of_lt (Nat.lt_of_lt_of_le f220.lt gb229)
      have ne_bs108_b229 : bs108 ≠ b229 := Nat.ne_of_lt (Nat.lt_of_lt_of_le f221.lt gb229)
      have ne_gg203_b229 : gg203 ≠ b229 := Nat.ne_of_lt (Nat.lt_of_lt_of_le f222.lt gb229)
      have ne_rr203_b229 : rr203 ≠ b229 := Nat.ne_of_lt (Nat.lt_of_lt_of_le f223.lt gb229)
      have ne_ss203_b229 : ss203 ≠ b229 := Nat.ne_of_lt (Nat.lt_of_lt_of_le f224.lt gb229)
      have ge_b229 : n0 ≤ b229 := Nat.le_trans (own_osz O213) gb229
      have gk_b229 : h0.size ≤ b229 := Nat.le_trans KK213.1 gb229
      rw [u3225] at V229
      refine own_go (S' := (T229.setTop (mkF m 275 #[.val (.int p0), .val (.int p1), .val (.int p2), .val (.int p3), .val (.int p4), .val (.int (1 : Int32)), .val (.int (Int32.ofNat (kn))), .val (.ref b101), .val (.ref b106), .val (.ref b109), .val (.int (1 : Int32)), .val (.ref gg203)] [(.int (1 : Int32)), (.int (1 : Int32)), (.ref b101), (.ref b229)]))) (fun tq kq => st229.trans (XS.aload X229.here hx rfl (hb hby at_270) rfl rfl (XS.iload X229.here hx rfl (hb hby at_272) rfl (XS.iconst X229.here hx rfl (hb hby at_274) kq)))) ?_
      have f230 := (f215.keep K229 nin0)
      obtain ⟨_, _, ⟨T231, L231, k231, n231⟩, -, X231, ⟨Lc231, hQ231, l231, y231, z231⟩, st231⟩ := Jvm.LawKit.callS X229 hx (y := (⟨"com/example/vestwright/vestwright/cli/TableRowsByKeyPinLaw", "same", "([I[III)Z"⟩ : MethodName)) hown (mvT hZ (hw _ (List.mem_of_getElem? (i := 69) rfl))) (mvT hZ (hw _ (List.mem_of_getElem? (i := 70) rfl))) (mvT hZ (hw _ (List.mem_of_getElem? (i := 71) rfl))) (mvT hZ (hw _ (List.mem_of_getElem? (i := 72) rfl))) (by decide) (backOf (W := 0) (rm9_1 l Z a0 hw [] T229.heap n0 O229 b229 b101 1 kb229 k101 q0 q1 q2 q3 V229 f230 (by omega)) hZ (hw _ (List.mem_of_getElem? (i := 72) rfl)) (hw _ (List.mem_of_getElem? (i := 71) rfl)) (by decide) (by decide)) (g := (mkF m 275 #[.val (.int p0), .val (.int p1), .val (.int p2), .val (.int p3), .val (.int p4), .val (.int (1 : Int32)), .val (.int (Int32.ofNat (kn))), .val (.ref b101), .val (.ref b106), .val (.ref b109), .val (.int (1 : Int32)), .val (.ref gg203)] [(.int (1 : Int32)), (.int (1 : Int32)), (.ref b101), (.ref b229)])) rfl (by rw [hml]; rfl) (argsL := [(.ref b229), (.ref b101), (.int (1 : Int32)), (.int (1 : Int32))]) (rest := []) (lenOf pd_8 rfl) rfl (by show 2 * 0 + _ ≤ _; exact Nat.le_of_eq rfl) (hb hby at_275) (fun _ _ => ⟨rfl, rfl, (by decide : 15 + 1 ≤ _), (by decide : 12330 + 4 ≤ _)⟩)
      dsimp only [Pt.U, Pt.locs, Pt.cells, Pt.slots] at X231 l231 y231 z231 st231 hQ231
      subst l231 y231 z231
      obtain ⟨rfl, N231, K231⟩ := hQ231
      have Nf231 := Fr.app Nf229 N231
      have O231 := O229.keep K231 all0
      have KK231 := KK229.trans K231 all0
      refine own_go (S' := (T231.setTop (mkF m 291 #[.val (.int p0), .val (.int p1), .val (.int p2), .val (.int p3), .val (.int p4), .val (.int (1 : Int32)), .val (.int (Int32.ofNat (kn))), .val (.ref b101), .val (.ref b106), .val (.ref b109), .val (.int (1 : Int32)), .val (.ref gg203)] [(.int (2 : Int32)), (.int (Int32.ofNat (kn)))]))) (fun tq kq => st231 tq (XS.ifNo X231.here hx rfl (hb hby at_278) rfl ((if0 _ _).trans (feq (by decide : ¬ ((1 : Int32) = (0 : Int32)))).1) (XS.iconst X231.here hx rfl (hb hby at_281) (XS.goto X231.here hx rfl (pc0 := 282) (pc' := 286) rfl (hb hby at_282) (by decide) (by decide) (XS.istore X231.here hx rfl (hb hby at_286) rfl (l' := #[.val (.int p0), .val (.int p1), .val (.int p2), .val (.int p3), .val (.int p4), .val (.int (1 : Int32)), .val (.int (Int32.ofNat (kn))), .val (.ref b101), .val (.ref b106), .val (.ref b109), .val (.int (1 : Int32)), .val (.ref gg203)]) rfl (XS.iload X231.here hx rfl (hb hby at_288) rfl (XS.iconst X231.here hx rfl (hb hby at_290) kq))))))) ?_
      by_cases hc232 : (2 : Int32) < (Int32.ofNat (kn))
      · refine own_go (S' := (T231.setTop (mkF m 302 #[.val (.int p0), .val (.int p1), .val (.int p2), .val (.int p3), .val (.int p4), .val (.int (1 : Int32)), .val (.int (Int32.ofNat (kn))), .val (.ref b101), .val (.ref b106), .val (.ref b109), .val (.int (1 : Int32)), .val (.ref gg203)] [(.int (2 : Int32)), (.ref gg203)]))) (fun tq kq => XS.icmpNo X231.here hx rfl (hb hby at_291) rfl (tlt hc232).2.2.2 (XS.iload X231.here hx rfl (hb hby at_294) rfl (XS.ifNo X231.here hx rfl (hb hby at_296) rfl ((if0 _ _).trans (feq (by decide : ¬ ((1 : Int32) = (0 : Int32)))).1) (XS.aload X231.here hx rfl (hb hby at_299) rfl rfl (XS.iconst X231.here hx rfl (hb hby at_301) kq))))) ?_
        have f233 := (f230.keep K231 nin0)
        have f234 := ((f216.keep K229).keep K231)
        have f235 := ((f217.keep K229 nin0).keep K231 nin0)
        have f236 := ((f218.keep K229 nin0).keep K231 nin0)
        have f237 := (V229.keep K231 nin0)
        have f238 := ((f219.keep K229 nin0).keep K231 nin0)
        have f239 := ((f220.keep K229 nin0).keep K231 nin0)
        have f240 := ((f221.keep K229 nin0).keep K231 nin0)
        have f241 := ((f222.keep K229).keep K231)
        have f242 := ((f223.keep K229 nin0).keep K231 nin0)
        have f243 := ((f224.keep K229 nin0).keep K231 nin0)
        have hkk244 : 2 < kn := ((own_lt (by decide) (by omega) : Int32.ofNat 2 < Int32.ofNat kn ↔ _).mp hc232)
        obtain ⟨u1244, u2244, u3244⟩ := own_chk2 hck hkk244
        have v1244 := own_p2len kn [q0] kn
        have v2244 := (own_p3len kn [q0] ([q0]).length).2
        have f245 := ((f226.keep K229 nin0).keep K231 nin0)
        have f246 := ((f227.keep K229 nin0).keep K231 nin0)
        have f247 := ((f228.keep K229).keep K231)
        obtain ⟨cq248, kq248, q248a, q248b, q248c⟩ := isOf hZ rfl f241
        obtain ⟨_, _, ⟨T248, L248, k248, n248⟩, -, X248, ⟨Lc248, hQ248, l248, y248, z248⟩, st248⟩ := X231.virtualBack hx (y := (⟨"com/example/vestwright/vestwright/cli/TableRows$ByKey", "rows", "(I)[I"⟩ : MethodName)) (z := (⟨"com/example/vestwright/vestwright/cli/TableRows$ByKey", "rows", "(I)[I"⟩ : MethodName)) hown (mvT hZ (hw _ (List.mem_of_getElem? (i := 52) rfl))) (mvT hZ (hw _ (List.mem_of_getElem? (i := 53) rfl))) (notFace_of_selects (args := #[]) (mvT hZ (hw _ (List.mem_of_getElem? (i := 55) rfl)))) (mvT hZ (hw _ (List.mem_of_getElem? (i := 55) rfl))) (mvT hZ (hw _ (List.mem_of_getElem? (i := 54) rfl))) (by decide) (backOf (W := 0) (rm7 l Z a0 hw [] T231.heap n0 O231 gg203 2 ss203 rr203 kss203 krr203 (own_st kn [q0]) (own_rw kn [q0]) f245 f246 f243 f242 f247 (by show 2 + 1 < (own_p2 kn [q0] kn).length; omega) (by show (own_p2 kn [q0] kn).length ≤ 4; omega) u1244 (by show _ ≤ (own_p3 kn [q0] ([q0]).length).2.length; rw [v2244]; exact u2244) (by show (own_p3 kn [q0] ([q0]).length).2.length ≤ 4; rw [v2244]; show 1 ≤ 4; decide)) hZ (hw _ (List.mem_of_getElem? (i := 56) rfl)) (hw _ (List.mem_of_getElem? (i := 43) rfl)) (by decide) (by decide)) q248a q248c (g := (mkF m 302 #[.val (.int p0), .val (.int p1), .val (.int p2), .val (.int p3), .val (.int p4), .val (.int (1 : Int32)), .val (.int (Int32.ofNat (kn))), .val (.ref b101), .val (.ref b106), .val (.ref b109), .val (.int (1 : Int32)), .val (.ref gg203)] [(.int (2 : Int32)), (.ref gg203)])) rfl (by rw [hml]; rfl) (Steps.refl _) (argsL := [(.int (2 : Int32))]) (rest := []) (lenOf pd_7 rfl) rfl (by show 2 * 0 + _ ≤ _; exact Nat.le_of_eq rfl) (hb hby at_302) (fun _ _ => ⟨rfl, rfl, (by decide : 16 + 1 ≤ _), (by decide : 12334 + 4 ≤ _)⟩)
        dsimp only [Pt.U, Pt.locs, Pt.cells, Pt.slots] at X248 l248 y248 z248 st248 hQ248
        subst l248 y248 z248
        obtain ⟨b248, kb248, rfl, N248, K248, gb248, V248⟩ := hQ248
        have Nf248 := Fr.app Nf231 N248
        have O248 := O231.keep K248 all0
        have KK248 := KK231.trans K248 all0
        have ne_b101_b248 : b101 ≠ b248 := Nat.ne_of_lt (Nat.lt_of_lt_of_le f233.lt gb248)
        have ne_b106_b248 : b106 ≠ b248 := Nat.ne_of_lt (Nat.lt_of_lt_of_le f234.lt gb248)
        have ne_b109_b248 : b109 ≠ b248 := Nat.ne_of_lt (Nat.lt_of_lt_of_le f235.lt gb248)
        have ne_b211_b248 : b211 ≠ b248 := Nat.ne_of_lt (Nat.lt_of_lt_of_le f236.lt gb248)
        have ne_b229_b248 : b229 ≠ b248 := Nat.ne_of_lt (Nat.lt_of_lt_of_le f237.lt gb248)
        have ne_bb108_b248 : bb108 ≠ b248 := Nat.ne_of_lt (Nat.lt_of_lt_of_le f238.lt gb248)
        have ne_bk108_b248 : bk108 ≠ b248 := Nat.ne_of_lt (Nat.lt_of_lt_of_le f239.lt gb248)
        have ne_bs108_b248 : bs108 ≠ b248 := Nat.ne_of_lt (Nat.lt_of_lt_of_le f240.lt gb248)
        have ne_gg203_b248 : gg203 ≠ b248 := Nat.ne_of_lt (Nat.lt_of_lt_of_le f241.lt gb248)
        have ne_rr203_b248 : rr203 ≠ b248 := Nat.ne_of_lt (Nat.lt_of_lt_of_le f242.lt gb248)
        have ne_ss203_b248 : ss203 ≠ b248 := Nat.ne_of_lt (Nat.lt_of_lt_of_le f243.lt gb248)
        have ge_b248 : n0 ≤ b248 := Nat.le_trans (own_osz O231) gb248
        have gk_b248 : h0.size ≤ b248 := Nat.le_trans KK231.1 gb248
        rw [u3244] at V248
        refine own_go (S' := (T248.setTop (mkF m 310 #[.val (.int p0), .val (.int p1), .val (.int p2), .val (.int p3), .val (.int p4), .val (.int (1 : Int32)), .val (.int (Int32.ofNat (kn))), .val (.ref b101), .val (.ref b106), .val (.ref b109), .val (.int (1 : Int32)), .val (.ref gg203)] [(.int (2 : Int32)), (.int (1 : Int32)), (.ref b101), (.ref b248)]))) (fun tq kq => st248.trans (XS.aload X248.here hx rfl (hb hby at_305) rfl rfl (XS.iload X248.here hx rfl (hb hby at_307) rfl (XS.iconst X248.here hx rfl (hb hby at_309) kq)))) ?_
        have f249 := (f233.keep K248 nin0)
        obtain ⟨_, _, ⟨T250, L250, k250, n250⟩, -, X250, ⟨Lc250, hQ250, l250, y250, z250⟩, st250⟩ := Jvm.LawKit.callS X248 hx (y := (⟨"com/example/vestwright/vestwright/cli/TableRowsByKeyPinLaw", "same", "([I[III)Z"⟩ : MethodName)) hown (mvT hZ (hw _ (List.mem_of_getElem? (i := 69) rfl))) (mvT hZ (hw _ (List.mem_of_getElem? (i := 70) rfl))) (mvT hZ (hw _ (List.mem_of_getElem? (i := 71) rfl))) (mvT hZ (hw _ (List.mem_of_getElem? (i := 72) rfl))) (by decide) (backOf (W := 0) (rm9_1 l Z a0 hw [] T248.heap n0 O248 b248 b101 2 kb248 k101 q0 q1 q2 q3 V248 f249 (by omega)) hZ (hw _ (List.mem_of_getElem? (i := 72) rfl)) (hw _ (List.mem_of_getElem? (i := 71) rfl)) (by decide) (by decide)) (g := (mkF m 310 #[.val (.int p0), .val (.int p1), .val (.int p2), .val (.int p3), .val (.int p4), .val (.int (1 : Int32)), .val (.int (Int32.ofNat (kn))), .val (.ref b101), .val (.ref b106), .val (.ref b109), .val (.int (1 : Int32)), .val (.ref gg203)] [(.int (2 : Int32)), (.int (1 : Int32)), (.ref b101), (.ref b248)])) rfl (by rw [hml]; rfl) (argsL := [(.ref b248), (.ref b101), (.int (1 : Int32)), (.int (2 : Int32))]) (rest := []) (lenOf pd_8 rfl) rfl (by show 2 * 0 + _ ≤ _; exact Nat.le_of_eq rfl) (hb hby at_310) (fun _ _ => ⟨rfl, rfl, (by decide : 17 + 1 ≤ _), (by decide : 12338 + 4 ≤ _)⟩)
        dsimp only [Pt.U, Pt.locs, Pt.cells, Pt.slots] at X250 l250 y250 z250 st250 hQ250
        subst l250 y250 z250
        obtain ⟨rfl, N250, K250⟩ := hQ250
        have Nf250 := Fr.app Nf248 N250
        have O250 := O248.keep K250 all0
        have KK250 := KK248.trans K250 all0
        refine own_go (S' := (T250.setTop (mkF m 325 #[.val (.int p0), .val (.int p1), .val (.int p2), .val (.int p3), .val (.int p4), .val (.int (1 : Int32)), .val (.int (Int32.ofNat (kn))), .val (.ref b101), .val (.ref b106), .val (.ref b109), .val (.int (1 : Int32)), .val (.ref gg203)] [(.int (1 : Int32))]))) (fun tq kq => st250 tq (XS.ifNo X250.here hx rfl (hb hby at_313) rfl ((if0 _ _).trans (feq (by decide : ¬ ((1 : Int32) = (0 : Int32)))).1) (XS.iconst X250.here hx rfl (hb hby at_316) (XS.goto X250.here hx rfl (pc0 := 317) (pc' := 321) rfl (hb hby at_317) (by decide) (by decide) (XS.istore X250.here hx rfl (hb hby at_321) rfl (l' := #[.val (.int p0), .val (.int p1), .val (.int p2), .val (.int p3), .val (.int p4), .val (.int (1 : Int32)), .val (.int (Int32.ofNat (kn))), .val (.ref b101), .val (.ref b106), .val (.ref b109), .val (.int (1 : Int32)), .val (.ref gg203)]) rfl (XS.iload X250.here hx rfl (hb hby at_323) rfl kq)))))) ?_
        refine own_retN X250 hx hlk hret (by simp) (hb hby at_325) (by decide) (by decide) ?_
        exact ⟨rfl, Nf250⟩
      · refine own_go (S' := (T231.setTop (mkF m 325 #[.val (.int p0), .val (.int p1), .val (.int p2), .val (.int p3), .val (.int p4), .val (.int (1 : Int32)), .val (.int (Int32.ofNat (kn))), .val (.ref b101), .val (.ref b106), .val (.ref b109), .val (.int (1 : Int32)), .val (.ref gg203)] [(.int (1 : Int32))]))) (fun tq kq => XS.icmpYes X231.here hx rfl (pc0 := 291) (pc' := 323) rfl (hb hby at_291) rfl (flt hc232).2.2.2 (by decide) (by decide) (XS.iload X231.here hx rfl (hb hby at_323) rfl kq)) ?_
        refine own_retN X231 hx hlk hret (by simp) (hb hby at_325) (by decide) (by decide) ?_
        exact ⟨rfl, Nf231⟩
    · refine own_go (S' := (T213.setTop (mkF m 291 #[.val (.int p0), .val (.int p1), .val (.int p2), .val (.int p3), .val (.int p4), .val (.int (1 : Int32)), .val (.int (Int32.ofNat (kn))), .val (.ref b101), .val (.ref b106), .val (.ref b109), .val (.int (1 : Int32)), .val (.ref gg203)] [(.int (2 : Int32)), (.int (Int32.ofNat (kn)))]))) (fun tq kq => XS.icmpYes X213.here hx rfl (pc0 := 256) (pc' := 288) rfl (hb hby at_256) rfl (flt hc214).2.2.2 (by decide) (by decide) (XS.iload X213.here hx rfl (hb hby at_288) rfl (XS.iconst X213.here hx rfl (hb hby at_290) kq))) ?_
      by_cases hc251 : (2 : Int32) < (Int32.ofNat (kn))
      · refine own_go (S' := (T213.setTop (mkF m 302 #[.val (.int p0), .val (.int p1), .val (.int p2), .val (.int p3), .val (.int p4), .val (.int (1 : Int32)), .val (.int (Int32.ofNat (kn))), .val (.ref b101), .val (.ref b106), .val (.ref b109), .val (.int (1 : Int32)), .val (.ref gg203)] [(.int (2 : Int32)), (.ref gg203)]))) (fun tq kq => XS.icmpNo X213.here hx rfl (hb hby at_291) rfl (tlt hc251).2.2.2 (XS.iload X213.here hx rfl (hb hby at_294) rfl (XS.ifNo X213.here hx rfl (hb hby at_296) rfl ((if0 _ _).trans (feq (by decide : ¬ ((1 : Int32) = (0 : Int32)))).1) (XS.aload X213.here hx rfl (hb hby at_299) rfl rfl (XS.iconst X213.here hx rfl (hb hby at_301) kq))))) ?_
        have f252 := (f212.keep K213 nin0)
        have f253 := ((f205.keep K211).keep K213)
        have f254 := ((f206.keep K211 nin0).keep K213 nin0)
        have f255 := (V211.keep K213 nin0)
        have f256 := ((f207.keep K211 nin0).keep K213 nin0)
        have f257 := ((f208.keep K211 nin0).keep K213 nin0)
        have f258 := ((f209.keep K211 nin0).keep K213 nin0)
        have f259 := ((Eg203.keep K211).keep K213)
        have f260 := ((Vr203.keep K211 nin0).keep K213 nin0)
        have f261 := ((Vs203.keep K211 nin0).keep K213 nin0)
        have hkk262 : 2 < kn := ((own_lt (by decide) (by omega) : Int32.ofNat 2 < Int32.ofNat kn ↔ _).mp hc251)
        obtain ⟨u1262, u2262, u3262⟩ := own_chk2 hck hkk262
        have v1262 := own_p2len kn [q0] kn
        have v2262 := (own_p3len kn [q0] ([q0]).length).2
        have f263 := ((Fs203.keep K211 nin0).keep K213 nin0)
        have f264 := ((Fr203.keep K211 nin0).keep K213 nin0)
        have f265 := ((Er203.keep K211).keep K213)
        obtain ⟨cq266, kq266, q266a, q266b, q266c⟩ := isOf hZ rfl f259
        obtain ⟨_, _, ⟨T266, L266, k266, n266⟩, -, X266, ⟨Lc266, hQ266, l266, y266, z266⟩, st266⟩ := X213.virtualBack hx (y := (⟨"com/example/vestwright/vestwright/cli/TableRows$ByKey", "rows", "(I)[I"⟩ : MethodName)) (z := (⟨"com/example/vestwright/vestwright/cli/TableRows$ByKey", "rows", "(I)[I"⟩ : MethodName)) hown (mvT hZ (hw _ (List.mem_of_getElem? (i := 52) rfl))) (mvT hZ (hw _ (List.mem_of_getElem? (i := 53) rfl))) (notFace_of_selects (args := #[]) (mvT hZ (hw _ (List.mem_of_getElem? (i := 55) rfl)))) (mvT hZ (hw _ (List.mem_of_getElem? (i := 55) rfl))) (mvT hZ (hw _ (List.mem_of_getElem? (i := 54) rfl))) (by decide) (backOf (W := 0) (rm7 l Z a0 hw [] T213.heap n0 O213 gg203 2 ss203 rr203 kss203 krr203 (own_st kn [q0]) (own_rw kn [q0]) f263 f264 f261 f260 f265 (by show 2 + 1 < (own_p2 kn [q0] kn).length; omega) (by show (own_p2 kn [q0] kn).length ≤ 4; omega) u1262 (by show _ ≤ (own_p3 kn [q0] ([q0]).length).2.length; rw [v2262]; exact u2262) (by show (own_p3 kn [q0] ([q0]).length).2.length ≤ 4; rw [v2262]; show 1 ≤ 4; decide)) hZ (hw _ (List.mem_of_getElem? (i := 56) rfl)) (hw _ (List.mem_of_getElem? (i := 43) rfl)) (by decide) (by decide)) q266a q266c (g := (mkF m 302 #[.val (.int p0), .val (.int p1), .val (.int p2), .val (.int p3), .val (.int p4), .val (.int (1 : Int32)), .val (.int (Int32.ofNat (kn))), .val (.ref b101), .val (.ref b106), .val (.ref b109), .val (.int (1 : Int32)), .val (.ref gg203)] [(.int (2 : Int32)), (.ref gg203)])) rfl (by rw [hml]; rfl) (Steps.refl _) (argsL := [(.int (2 : Int32))]) (rest := []) (lenOf pd_7 rfl) rfl (by show 2 * 0 + _ ≤ _; exact Nat.le_of_eq rfl) (hb hby at_302) (fun _ _ => ⟨rfl, rfl, (by decide : 14 + 1 ≤ _), (by decide : 12326 + 4 ≤ _)⟩)
        dsimp only [Pt.U, Pt.locs, Pt.cells, Pt.slots] at X266 l266 y266 z266 st266 hQ266
        subst l266 y266 z266
        obtain ⟨b266, kb266, rfl, N266, K266, gb266, V266⟩ := hQ266
        have Nf266 := Fr.app Nf213 N266
        have O266 := O213.keep K266 all0
        have KK266 := KK213.trans K266 all0
        have ne_b101_b266 : b101 ≠ b266 := Nat.ne_of_lt (Nat.lt_of_lt_of_le f252.lt gb266)
        have ne_b106_b266 : b106 ≠ b266 := Nat.ne_of_lt (Nat.lt_of_lt_of_le f253.lt gb266)
        have ne_b109_b266 : b109 ≠ b266 := Nat.ne_of_lt (Nat.lt_of_lt_of_le f254.lt gb266)
        have ne_b211_b266 : b211 ≠ b266 := Nat.ne_of_lt (Nat.lt_of_lt_of_le f255.lt gb266)
        have ne_bb108_b266 : bb108 ≠ b266 := Nat.ne_of_lt (Nat.lt_of_lt_of_le f256.lt gb266)
        have ne_bk108_b266 : bk108 ≠ b266 := Nat.ne_of_lt (Nat.lt_of_lt_of_le f257.lt gb266)
        have ne_bs108_b266 : bs108 ≠ b266 := Nat.ne_of_lt (Nat.lt_of_lt_of_le f258.lt gb266)
        have ne_gg203_b266 : gg203 ≠ b266 := Nat.ne_of_lt (Nat.lt_of_lt_of_le f259.lt gb266)
        have ne_rr203_b266 : rr203 ≠ b266 := Nat.ne_of_lt (Nat.lt_of_lt_of_le f260.lt gb266)
        have ne_ss203_b266 : ss203 ≠ b266 := Nat.ne_of_lt (Nat.lt_of_lt_of_le f261.lt gb266)
        have ge_b266 : n0 ≤ b266 := Nat.le_trans (own_osz O213) gb266
        have gk_b266 : h0.size ≤ b266 := Nat.le_trans KK213.1 gb266
        rw [u3262] at V266
        refine own_go (S' := (T266.setTop (mkF m 310 #[.val (.int p0), .val (.int p1), .val (.int p2), .val (.int p3), .val (.int p4), .val (.int (1 : Int32)), .val (.int (Int32.ofNat (kn))), .val (.ref b101), .val (.ref b106), .val (.ref b109), .val (.int (1 : Int32)), .val (.ref gg203)] [(.int (2 : Int32)), (.int (1 : Int32)), (.ref b101), (.ref b266)]))) (fun tq kq => st266.trans (XS.aload X266.here hx rfl (hb hby at_305) rfl rfl (XS.iload X266.here hx rfl (hb hby at_307) rfl (XS.iconst X266.here hx rfl (hb hby at_309) kq)))) ?_
        have f267 := (f252.keep K266 nin0)
        obtain ⟨_, _, ⟨T268, L268, k268, n268⟩, -, X268, ⟨Lc268, hQ268, l268, y268, z268⟩, st268⟩ := Jvm.LawKit.callS X266 hx (y := (⟨"com/example/vestwright/vestwright/cli/TableRowsByKeyPinLaw", "same", "([I[III)Z"⟩ : MethodName)) hown (mvT hZ (hw _ (List.mem_of_getElem? (i := 69) rfl))) (mvT hZ (hw _ (List.mem_of_getElem? (i := 70) rfl))) (mvT hZ (hw _ (List.mem_of_getElem? (i := 71) rfl))) (mvT hZ (hw _ (List.mem_of_getElem? (i := 72) rfl))) (by decide) (backOf (W := 0) (rm9_1 l Z a0 hw [] T266.heap n0 O266 b266 b101 2 kb266 k101 q0 q1 q2 q3 V266 f267 (by omega)) hZ (hw _ (List.mem_of_getElem? (i := 72) rfl)) (hw _ (List.mem_of_getElem? (i := 71) rfl)) (by decide) (by decide)) (g := (mkF m 310 #[.val (.int p0), .val (.int p1), .val (.int p2), .val (.int p3), .val (.int p4), .val (.int (1 : Int32)), .val (.int (Int32.ofNat (kn))), .val (.ref b101), .val (.ref b106), .val (.ref b109), .val (.int (1 : Int32)), .val (.ref gg203)] [(.int (2 : Int32)), (.int (1 : Int32)), (.ref b101), (.ref b266)])) rfl (by rw [hml]; rfl) (argsL := [(.ref b266), (.ref b101), (.int (1 : Int32)), (.int (2 : Int32))]) (rest := []) (lenOf pd_8 rfl) rfl (by show 2 * 0 + _ ≤ _; exact Nat.le_of_eq rfl) (hb hby at_310) (fun _ _ => ⟨rfl, rfl, (by decide : 15 + 1 ≤ _), (by decide : 12330 + 4 ≤ _)⟩)
        dsimp only [Pt.U, Pt.locs, Pt.cells, Pt.slots] at X268 l268 y268 z268 st268 hQ268
        subst l268 y268 z268
        obtain ⟨rfl, N268, K268⟩ := hQ268
        have Nf268 := Fr.app Nf266 N268
        have O268 := O266.keep K268 all0
        have KK268 := KK266.trans K268 all0
        refine own_go (S' := (T268.setTop (mkF m 325 #[.val (.int p0), .val (.int p1), .val (.int p2), .val (.int p3), .val (.int p4), .val (.int (1 : Int32)), .val (.int (Int32.ofNat (kn))), .val (.ref b101), .val (.ref b106), .val (.ref b109), .val (.int (1 : Int32)), .val (.ref gg203)] [(.int (1 : Int32))]))) (fun tq kq => st268 tq (XS.ifNo X268.here hx rfl (hb hby at_313) rfl ((if0 _ _).trans (feq (by decide : ¬ ((1 : Int32) = (0 : Int32)))).1) (XS.iconst X268.here hx rfl (hb hby at_316) (XS.goto X268.here hx rfl (pc0 := 317) (pc' := 321) rfl (hb hby at_317) (by decide) (by decide) (XS.istore X268.here hx rfl (hb hby at_321) rfl (l' := #[.val (.int p0), .val (.int p1), .val (.int p2), .val (.int p3), .val (.int p4), .val (.int (1 : Int32)), .val (.int (Int32.ofNat (kn))), .val (.ref b101), .val (.ref b106), .val (.ref b109), .val (.int (1 : Int32)), .val (.ref gg203)]) rfl (XS.iload X268.here hx rfl (hb hby at_323) rfl kq)))))) ?_
        refine own_retN X268 hx hlk hret (by simp) (hb hby at_325) (by decide) (by decide) ?_
        exact ⟨rfl, Nf268⟩
      · refine own_go (S' := (T213.setTop (mkF m 325 #[.val (.int p0), .val (.int p1), .val (.int p2), .val (.int p3), .val (.int p4), .val (.int (1 : Int32)), .val (.int (Int32.ofNat (kn))), .val (.ref b101), .val (.ref b106), .val (.ref b109), .val (.int (1 : Int32)), .val (.ref gg203)] [(.int (1 : Int32))]))) (fun tq kq => XS.icmpYes X213.here hx rfl (pc0 := 291) (pc' := 323) rfl (hb hby at_291) rfl (flt hc251).2.2.2 (by decide) (by decide) (XS.iload X213.here hx rfl (hb hby at_323) rfl kq)) ?_
        refine own_retN X213 hx hlk hret (by simp) (hb hby at_325) (by decide) (by decide) ?_
        exact ⟨rfl, Nf213⟩
  · rw [hn5]
    refine own_go (S' := (T109.setTop (mkF m 100 #[.val (.int p0), .val (.int p1), .val (.int p2), .val (.int p3), .val (.int p4), .val (.int (2 : Int32)), .val (.int (Int32.ofNat (kn))), .val (.ref b101), .val (.ref b106), .val (.ref b109), .val (.int (1 : Int32)), .unset] [(.int (0 : Int32)), (.ref b101), (.ref b109), (.ref b106)]))) (fun tq kq => XS.iload X109.here hx rfl (hb hby at_88) rfl (XS.ifNo X109.here hx rfl (hb hby at_90) rfl ((if0 _ _).trans (tlt (by decide : (0 : Int32) < (2 : Int32))).2.2.2) (XS.aload X109.here hx rfl (hb hby at_93) rfl rfl (XS.aload X109.here hx rfl (hb hby at_95) rfl rfl (XS.aload X109.here hx rfl (hb hby at_97) rfl rfl (XS.iconst X109.here hx rfl (hb hby at_99) kq)))))) ?_
    have f269 := (f110.ext E109)
    obtain ⟨cl270, Ar270, -, -, hin270, hat270⟩ := f269.at (j := (0 : Int32)) (v := (.int (Int32.ofNat q0))) (by decide) rfl
    refine own_go (S' := (T109.setTop (mkF m 101 #[.val (.int p0), .val (.int p1), .val (.int p2), .val (.int p3), .val (.int p4), .val (.int (2 : Int32)), .val (.int (Int32.ofNat (kn))), .val (.ref b101), .val (.ref b106), .val (.ref b109), .val (.int (1 : Int32)), .unset] [(.int (Int32.ofNat q0)), (.ref b109), (.ref b106)]))) (fun tq kq => X109.iaload hx (j := (0 : Int32)) (v := (.int (Int32.ofNat q0))) (by rw [e109]; exact Ar270.1) (State.isArrayOf_alike hZ.alike Ar270.2.1) Ar270.2.2 hin270 hat270 (g := (mkF m 100 #[.val (.int p0), .val (.int p1), .val (.int p2), .val (.int p3), .val (.int p4), .val (.int (2 : Int32)), .val (.int (Int32.ofNat (kn))), .val (.ref b101), .val (.ref b106), .val (.ref b109), .val (.int (1 : Int32)), .unset] [(.int (0 : Int32)), (.ref b101), (.ref b109), (.ref b106)])) rfl rfl (hb hby at_100) tq kq) ?_
    have f271 := (Et108.ext E109)
    have f272 := (Fw108.ext E109)
    have f273 := (Fb108.ext E109)
    have f274 := (Fu108.ext E109)
    have f275 := (Fs108.ext E109)
    have f276 := (Fk108.ext E109)
    have f277 := (Fz108.ext E109)
    have f278 := (Vb108.ext E109)
    have f279 := (Vs108.ext E109)
    have f280 := (Vk108.ext E109)
    obtain ⟨cq281, kq281, q281a, q281b, q281c⟩ := isOf hZ e109 f271
    obtain ⟨_, _, ⟨T281, L281, k281, n281⟩, -, X281, ⟨Lc281, hQ281, l281, y281, z281⟩, st281⟩ := X109.virtualBack hx (y := (⟨"com/example/vestwright/vestwright/cli/TableRows", "add", "([Ljava/lang/String;I)Z"⟩ : MethodName)) (z := (⟨"com/example/vestwright/vestwright/cli/TableRows", "add", "([Ljava/lang/String;I)Z"⟩ : MethodName)) hown (mvT hZ (hw _ (List.mem_of_getElem? (i := 73) rfl))) (mvT hZ (hw _ (List.mem_of_getElem? (i := 74) rfl))) (notFace_of_selects (args := #[]) (mvT hZ (hw _ (List.mem_of_getElem? (i := 76) rfl)))) (mvT hZ (hw _ (List.mem_of_getElem? (i := 76) rfl))) (mvT hZ (hw _ (List.mem_of_getElem? (i := 75) rfl))) (by decide) (backOf (W := 0) (rm10 l Z a0 hw [] h109 n0 O109 b106 bb108 bs108 bk108 ka108 kb108 kc108 ([] : List Nat) b109 q0 ⟨⟨f271, f272, f273, f274, f275, f276, f277⟩, ⟨f278, f279, f280⟩, nq1108, nq2108, nq3108, nq4108, nq5108, nq6108⟩ (by show 0 < 4; decide) ge_b106 ge_bs108 ge_bk108) hZ (hw _ (List.mem_of_getElem? (i := 77) rfl)) (hw _ (List.mem_of_getElem? (i := 4) rfl)) (by decide) (by decide)) q281a q281c (g := (mkF m 101 #[.val (.int p0), .val (.int p1), .val (.int p2), .val (.int p3), .val (.int p4), .val (.int (2 : Int32)), .val (.int (Int32.ofNat (kn))), .val (.ref b101), .val (.ref b106), .val (.ref b109), .val (.int (1 : Int32)), .unset] [(.int (Int32.ofNat q0)), (.ref b109), (.ref b106)])) rfl (by rw [hml]; rfl) (Steps.refl _) (argsL := [(.ref b109), (.int (Int32.ofNat q0))]) (rest := []) (lenOf pd_9 rfl) rfl (by show 2 * 0 + _ ≤ _; exact Nat.le_of_eq rfl) (hb hby at_101) (fun _ _ => ⟨rfl, e109, (by decide : 6 + 1 ≤ _), (by decide : 12298 + 0 ≤ _)⟩)
    dsimp only [Pt.U, Pt.locs, Pt.cells, Pt.slots] at X281 l281 y281 z281 st281 hQ281
    subst l281 y281 z281
    obtain ⟨rfl, N281, K281, TR281⟩ := hQ281
    have Nf281 := Fr.app Nf108 N281
    have O281 := O109.keep K281 (allS ge_b106 (allS ge_bs108 (allS ge_bk108 all0)))
    have KK281 := K109.trans K281 (allS (Or.inr gk_b106) (allS (Or.inr gk_bs108) (allS (Or.inr gk_bk108) all0)))
    obtain ⟨⟨Etx281, Fwx281, Fbx281, Fux281, Fsx281, Fkx281, Fzx281⟩, ⟨Vbx281, Vsx281, Vkx281⟩, nq1x281, nq2x281, nq3x281, nq4x281, nq5x281, nq6x281⟩ := (show own_TR Z T281.heap b106 bb108 bs108 bk108 ka108 kb108 kc108 [q0] from TR281)
    refine own_go (S' := (T281.setTop (mkF m 125 #[.val (.int p0), .val (.int p1), .val (.int p2), .val (.int p3), .val (.int p4), .val (.int (2 : Int32)), .val (.int (Int32.ofNat (kn))), .val (.ref b101), .val (.ref b106), .val (.ref b109), .val (.int (1 : Int32)), .unset] []))) (fun tq kq => st281.trans (XS.ifNo X281.here hx rfl (hb hby at_104) rfl ((if0 _ _).trans (feq (by decide : ¬ ((1 : Int32) = (0 : Int32)))).1) (XS.iload X281.here hx rfl (hb hby at_107) rfl (XS.ifNo X281.here hx rfl (hb hby at_109) rfl ((if0 _ _).trans (feq (by decide : ¬ ((1 : Int32) = (0 : Int32)))).1) (XS.iconst X281.here hx rfl (hb hby at_112) (XS.goto X281.here hx rfl (pc0 := 113) (pc' := 117) rfl (hb hby at_113) (by decide) (by decide) (XS.istore X281.here hx rfl (hb hby at_117) rfl (l' := #[.val (.int p0), .val (.int p1), .val (.int p2), .val (.int p3), .val (.int p4), .val (.int (2 : Int32)), .val (.int (Int32.ofNat (kn))), .val (.ref b101), .val (.ref b106), .val (.ref b109), .val (.int (1 : Int32)), .unset]) rfl (XS.iload X281.here hx rfl (hb hby at_119) rfl (XS.iconst X281.here hx rfl (hb hby at_121) (XS.icmpNo X281.here hx rfl (hb hby at_122) rfl (tlt (by decide : (1 : Int32) < (2 : Int32))).2.2.2 kq)))))))))) ?_
    refine own_go (S' := (T281.setTop (mkF m 132 #[.val (.int p0), .val (.int p1), .val (.int p2), .val (.int p3), .val (.int p4), .val (.int (2 : Int32)), .val (.int (Int32.ofNat (kn))), .val (.ref b101), .val (.ref b106), .val (.ref b109), .val (.int (1 : Int32)), .unset] [(.int (1 : Int32)), (.ref b101), (.ref b109), (.ref b106)]))) (fun tq kq => XS.aload X281.here hx rfl (hb hby at_125) rfl rfl (XS.aload X281.here hx rfl (hb hby at_127) rfl rfl (XS.aload X281.here hx rfl (hb hby at_129) rfl rfl (XS.iconst X281.here hx rfl (hb hby at_131) kq)))) ?_
    have f282 := (f269.keep K281 (ninS ne_b101_b106 (ninS ne_b101_bs108 (ninS ne_b101_bk108 nin0))))
    obtain ⟨cl283, Ar283, -, -, hin283, hat283⟩ := f282.at (j := (1 : Int32)) (v := (.int (Int32.ofNat q1))) (by decide) rfl
    refine own_go (S' := (T281.setTop (mkF m 133 #[.val (.int p0), .val (.int p1), .val (.int p2), .val (.int p3), .val (.int p4), .val (.int (2 : Int32)), .val (.int (Int32.ofNat (kn))), .val (.ref b101), .val (.ref b106), .val (.ref b109), .val (.int (1 : Int32)), .unset] [(.int (Int32.ofNat q1)), (.ref b109), (.ref b106)]))) (fun tq kq => X281.iaload hx (j := (1 : Int32)) (v := (.int (Int32.ofNat q1))) Ar283.1 (State.isArrayOf_alike hZ.alike Ar283.2.1) Ar283.2.2 hin283 hat283 (g := (mkF m 132 #[.val (.int p0), .val (.int p1), .val (.int p2), .val (.int p3), .val (.int p4), .val (.int (2 : Int32)), .val (.int (Int32.ofNat (kn))), .val (.ref b101), .val (.ref b106), .val (.ref b109), .val (.int (1 : Int32)), .unset] [(.int (1 : Int32)), (.ref b101), (.ref b109), (.ref b106)])) rfl rfl (hb hby at_132) tq kq) ?_
    obtain ⟨cq284, kq284, q284a, q284b, q284c⟩ := isOf hZ rfl Etx281
    obtain ⟨_, _, ⟨T284, L284, k284, n284⟩, -, X284, ⟨Lc284, hQ284, l284, y284, z284⟩, st284⟩ := X281.virtualBack hx (y := (⟨"com/example/vestwright/vestwright/cli/TableRows", "add", "([Ljava/lang/String;I)Z"⟩ : MethodName)) (z := (⟨"com/example/vestwright/vestwright/cli/TableRows", "add", "([Ljava/lang/String;I)Z"⟩ : MethodName)) hown (mvT hZ (hw _ (List.mem_of_getElem? (i := 73) rfl))) (mvT hZ (hw _ (List.mem_of_getElem? (i := 74) rfl))) (notFace_of_selects (args := #[]) (mvT hZ (hw _ (List.mem_of_getElem? (i := 76) rfl)))) (mvT hZ (hw _ (List.mem_of_getElem? (i := 76) rfl))) (mvT hZ (hw _ (List.mem_of_getElem? (i := 75) rfl))) (by decide) (backOf (W := 0) (rm10 l Z a0 hw [] T281.heap n0 O281 b106 bb108 bs108 bk108 ka108 kb108 kc108 [q0] b109 q1 ⟨⟨Etx281, Fwx281, Fbx281, Fux281, Fsx281, Fkx281, Fzx281⟩, ⟨Vbx281, Vsx281, Vkx281⟩, nq1x281, nq2x281, nq3x281, nq4x281, nq5x281, nq6x281⟩ (by show 1 < 4; decide) ge_b106 ge_bs108 ge_bk108) hZ (hw _ (List.mem_of_getElem? (i := 77) rfl)) (hw _ (List.mem_of_getElem? (i := 4) rfl)) (by decide) (by decide)) q284a q284c (g := (mkF m 133 #[.val (.int p0), .val (.int p1), .val (.int p2), .val (.int p3), .val (.int p4), .val (.int (2 : Int32)), .val (.int (Int32.ofNat (kn))), .val (.ref b101), .val (.ref b106), .val (.ref b109), .val (.int (1 : Int32)), .unset] [(.int (Int32.ofNat q1)), (.ref b109), (.ref b106)])) rfl (by rw [hml]; rfl) (Steps.refl _) (argsL := [(.ref b109), (.int (Int32.ofNat q1))]) (rest := []) (lenOf pd_9 rfl) rfl (by show 2 * 0 + _ ≤ _; exact Nat.le_of_eq rfl) (hb hby at_133) (fun _ _ => ⟨rfl, rfl, (by decide : 7 + 1 ≤ _), (by decide : 12298 + 0 ≤ _)⟩)
    dsimp only [Pt.U, Pt.locs, Pt.cells, Pt.slots] at X284 l284 y284 z284 st284 hQ284
    subst l284 y284 z284
    obtain ⟨rfl, N284, K284, TR284⟩ := hQ284
    have Nf284 := Fr.app Nf281 N284
    have O284 := O281.keep K284 (allS ge_b106 (allS ge_bs108 (allS ge_bk108 all0)))
    have KK284 := KK281.trans K284 (allS (Or.inr gk_b106) (allS (Or.inr gk_bs108) (allS (Or.inr gk_bk108) all0)))
    obtain ⟨⟨Etx284, Fwx284, Fbx284, Fux284, Fsx284, Fkx284, Fzx284⟩, ⟨Vbx284, Vsx284, Vkx284⟩, nq1x284, nq2x284, nq3x284, nq4x284, nq5x284, nq6x284⟩ := (show own_TR Z T284.heap b106 bb108 bs108 bk108 ka108 kb108 kc108 [q0, q1] from TR284)
    refine own_go (S' := (T284.setTop (mkF m 183 #[.val (.int p0), .val (.int p1), .val (.int p2), .val (.int p3), .val (.int p4), .val (.int (2 : Int32)), .val (.int (Int32.ofNat (kn))), .val (.ref b101), .val (.ref b106), .val (.ref b109), .val (.int (1 : Int32)), .unset] []))) (fun tq kq => st284.trans (XS.ifNo X284.here hx rfl (hb hby at_136) rfl ((if0 _ _).trans (feq (by decide : ¬ ((1 : Int32) = (0 : Int32)))).1) (XS.iload X284.here hx rfl (hb hby at_139) rfl (XS.ifNo X284.here hx rfl (hb hby at_141) rfl ((if0 _ _).trans (feq (by decide : ¬ ((1 : Int32) = (0 : Int32)))).1) (XS.iconst X284.here hx rfl (hb hby at_144) (XS.goto X284.here hx rfl (pc0 := 145) (pc' := 149) rfl (hb hby at_145) (by decide) (by decide) (XS.istore X284.here hx rfl (hb hby at_149) rfl (l' := #[.val (.int p0), .val (.int p1), .val (.int p2), .val (.int p3), .val (.int p4), .val (.int (2 : Int32)), .val (.int (Int32.ofNat (kn))), .val (.ref b101), .val (.ref b106), .val (.ref b109), .val (.int (1 : Int32)), .unset]) rfl (XS.iload X284.here hx rfl (hb hby at_151) rfl (XS.iconst X284.here hx rfl (hb hby at_153) (XS.icmpYes X284.here hx rfl (pc0 := 154) (pc' := 183) rfl (hb hby at_154) rfl (flt (by decide : ¬ ((2 : Int32) < (2 : Int32)))).2.2.2 (by decide) (by decide) kq)))))))))) ?_
    refine own_go (S' := (T284.setTop (mkF m 219 #[.val (.int p0), .val (.int p1), .val (.int p2), .val (.int p3), .val (.int p4), .val (.int (2 : Int32)), .val (.int (Int32.ofNat (kn))), .val (.ref b101), .val (.ref b106), .val (.ref b109), .val (.int (1 : Int32)), .unset] [(.int (Int32.ofNat (kn))), (.ref b106)]))) (fun tq kq => XS.iload X284.here hx rfl (hb hby at_183) rfl (XS.iconst X284.here hx rfl (hb hby at_185) (XS.icmpYes X284.here hx rfl (pc0 := 186) (pc' := 215) rfl (hb hby at_186) rfl (flt (by decide : ¬ ((3 : Int32) < (2 : Int32)))).2.2.2 (by decide) (by decide) (XS.aload X284.here hx rfl (hb hby at_215) rfl rfl (XS.iload X284.here hx rfl (hb hby at_217) rfl kq))))) ?_
    have f285 := (f282.keep K284 (ninS ne_b101_b106 (ninS ne_b101_bs108 (ninS ne_b101_bk108 nin0))))
    have f286 := ((V109.keep K281 (ninS (Ne.symm ne_b106_b109) (ninS (Ne.symm ne_bs108_b109) (ninS (Ne.symm ne_bk108_b109) nin0)))).keep K284 (ninS (Ne.symm ne_b106_b109) (ninS (Ne.symm ne_bs108_b109) (ninS (Ne.symm ne_bk108_b109) nin0))))
    have hks : ∀ x ∈ [q0, q1], x < kn := by intro x hx_; simp only [List.mem_cons, List.not_mem_nil, or_false] at hx_; omega
    have hck := own_chks hk1 hk3 (by show 2 ≤ 4; decide) hks
    obtain ⟨cq287, kq287, q287a, q287b, q287c⟩ := isOf hZ rfl Etx284
    obtain ⟨_, _, ⟨T287, L287, k287, n287⟩, -, X287, ⟨Lc287, hQ287, l287, y287, z287⟩, st287⟩ := X284.virtualBack hx (y := (⟨"com/example/vestwright/vestwright/cli/TableRows", "byKey", "(I)Lcom/example/vestwright/vestwright/cli/TableRows$ByKey;"⟩ : MethodName)) (z := (⟨"com/example/vestwright/vestwright/cli/TableRows", "byKey", "(I)Lcom/example/vestwright/vestwright/cli/TableRows$ByKey;"⟩ : MethodName)) hown (mvT hZ (hw _ (List.mem_of_getElem? (i := 22) rfl))) (mvT hZ (hw _ (List.mem_of_getElem? (i := 23) rfl))) (notFace_of_selects (args := #[]) (mvT hZ (hw _ (List.mem_of_getElem? (i := 25) rfl)))) (mvT hZ (hw _ (List.mem_of_getElem? (i := 25) rfl))) (mvT hZ (hw _ (List.mem_of_getElem? (i := 24) rfl))) (by decide) (backOf (W := 0) (rm3 l Z a0 hw [] T284.heap n0 O284 b106 bb108 bs108 bk108 ka108 kb108 kc108 [q0, q1] kn ⟨⟨Etx284, Fwx284, Fbx284, Fux284, Fsx284, Fkx284, Fzx284⟩, ⟨Vbx284, Vsx284, Vkx284⟩, nq1x284, nq2x284, nq3x284, nq4x284, nq5x284, nq6x284⟩ hk1 hk3 (by show 2 ≤ 4; decide) hks hck) hZ (hw _ (List.mem_of_getElem? (i := 26) rfl)) (hw _ (List.mem_of_getElem? (i := 4) rfl)) (by decide) (by decide)) q287a q287c (g := (mkF m 219 #[.val (.int p0), .val (.int p1), .val (.int p2), .val (.int p3), .val (.int p4), .val (.int (2 : Int32)), .val (.int (Int32.ofNat (kn))), .val (.ref b101), .val (.ref b106), .val (.ref b109), .val (.int (1 : Int32)), .unset] [(.int (Int32.ofNat (kn))), (.ref b106)])) rfl (by rw [hml]; rfl) (Steps.refl _) (argsL := [(.int (Int32.ofNat (kn)))]) (rest := []) (lenOf pd_6 rfl) rfl (by show 2 * 0 + _ ≤ _; exact Nat.le_of_eq rfl) (hb hby at_219) (fun _ _ => ⟨rfl, rfl, (by decide : 8 + 5 ≤ _), (by decide : 12298 + 20 ≤ _)⟩)
    dsimp only [Pt.U, Pt.locs, Pt.cells, Pt.slots] at X287 l287 y287 z287 st287 hQ287
    subst l287 y287 z287
    obtain ⟨gg287, ss287, rr287, kss287, krr287, rfl, N287, K287, gA287, gB287, gC287, Eg287, Fs287, Fr287, Vs287, Vr287, Er287⟩ := hQ287
    have Nf287 := Fr.app Nf284 N287
    have O287 := O284.keep K287 all0
    have KK287 := KK284.trans K287 all0
    have ne_b101_gg287 : b101 ≠ gg287 := Nat.ne_of_lt (Nat.lt_of_lt_of_le f285.lt gA287)
    have ne_b106_gg287 : b106 ≠ gg287 := Nat.ne_of_lt (Nat.lt_of_lt_of_le Etx284.lt gA287)
    have ne_b109_gg287 : b109 ≠ gg287 := Nat.ne_of_lt (Nat.lt_of_lt_of_le f286.lt gA287)
    have ne_bb108_gg287 : bb108 ≠ gg287 := Nat.ne_of_lt (Nat.lt_of_lt_of_le Vbx284.lt gA287)
    have ne_bk108_gg287 : bk108 ≠ gg287 := Nat.ne_of_lt (Nat.lt_of_lt_of_le Vkx284.lt gA287)
    have ne_bs108_gg287 : bs108 ≠ gg287 := Nat.ne_of_lt (Nat.lt_of_lt_of_le Vsx284.lt gA287)
    have ge_gg287 : n0 ≤ gg287 := Nat.le_trans (own_osz O284) gA287
    have gk_gg287 : h0.size ≤ gg287 := Nat.le_trans KK284.1 gA287
    have ne_b101_ss287 : b101 ≠ ss287 := Nat.ne_of_lt (Nat.lt_of_lt_of_le f285.lt gB287)
    have ne_b106_ss287 : b106 ≠ ss287 := Nat.ne_of_lt (Nat.lt_of_lt_of_le Etx284.lt gB287)
    have ne_b109_ss287 : b109 ≠ ss287 := Nat.ne_of_lt (Nat.lt_of_lt_of_le f286.lt gB287)
    have ne_bb108_ss287 : bb108 ≠ ss287 := Nat.ne_of_lt (Nat.lt_of_lt_of_le Vbx284.lt gB287)
    have ne_bk108_ss287 : bk108 ≠ ss287 := Nat.ne_of_lt (Nat.lt_of_lt_of_le Vkx284.lt gB287)
    have ne_bs108_ss287 : bs108 ≠ ss287 := Nat.ne_of_lt (Nat.lt_of_lt_of_le Vsx284.lt gB287)
    have ge_ss287 : n0 ≤ ss287 := Nat.le_trans (own_osz O284) gB287
    have gk_ss287 : h0.size ≤ ss287 := Nat.le_trans KK284.1 gB287
    have ne_b101_rr287 : b101 ≠ rr287 := Nat.ne_of_lt (Nat.lt_of_lt_of_le f285.lt gC287)
    have ne_b106_rr287 : b106 ≠ rr287 := Nat.ne_of_lt (Nat.lt_of_lt_of_le Etx284.lt gC287)
    have ne_b109_rr287 : b109 ≠ rr287 := Nat.ne_of_lt (Nat.lt_of_lt_of_le f286.lt gC287)
    have ne_bb108_rr287 : bb108 ≠ rr287 := Nat.ne_of_lt (Nat.lt_of_lt_of_le Vbx284.lt gC287)
    have ne_bk108_rr287 : bk108 ≠ rr287 := Nat.ne_of_lt (Nat.lt_of_lt_of_le Vkx284.lt gC287)
    have ne_bs108_rr287 : bs108 ≠ rr287 := Nat.ne_of_lt (Nat.lt_of_lt_of_le Vsx284.lt gC287)
    have ge_rr287 : n0 ≤ rr287 := Nat.le_trans (own_osz O284) gC287
    have gk_rr287 : h0.size ≤ rr287 := Nat.le_trans KK284.1 gC287
    refine own_go (S' := (T287.setTop (mkF m 232 #[.val (.int p0), .val (.int p1), .val (.int p2), .val (.int p3), .val (.int p4), .val (.int (2 : Int32)), .val (.int (Int32.ofNat (kn))), .val (.ref b101), .val (.ref b106), .val (.ref b109), .val (.int (1 : Int32)), .val (.ref gg287)] [(.int (0 : Int32)), (.ref gg287)]))) (fun tq kq => st287.trans (XS.astore X287.here hx rfl (hb hby at_222) rfl rfl (l' := #[.val (.int p0), .val (.int p1), .val (.int p2), .val (.int p3), .val (.int p4), .val (.int (2 : Int32)), .val (.int (Int32.ofNat (kn))), .val (.ref b101), .val (.ref b106), .val (.ref b109), .val (.int (1 : Int32)), .val (.ref gg287)]) rfl (XS.iload X287.here hx rfl (hb hby at_224) rfl (XS.ifNo X287.here hx rfl (hb hby at_226) rfl ((if0 _ _).trans (feq (by decide : ¬ ((1 : Int32) = (0 : Int32)))).1) (XS.aload X287.here hx rfl (hb hby at_229) rfl rfl (XS.iconst X287.here hx rfl (hb hby at_231) kq)))))) ?_
    have f288 := (f285.keep K287 nin0)
    have f289 := (Etx284.keep K287)
    have f290 := (f286.keep K287 nin0)
    have f291 := (Vbx284.keep K287 nin0)
    have f292 := (Vkx284.keep K287 nin0)
    have f293 := (Vsx284.keep K287 nin0)
    have hkk294 : 0 < kn := (by omega)
    obtain ⟨u1294, u2294, u3294⟩ := own_chk2 hck hkk294
    have v1294 := own_p2len kn [q0, q1] kn
    have v2294 := (own_p3len kn [q0, q1] ([q0, q1]).length).2
    obtain ⟨cq295, kq295, q295a, q295b, q295c⟩ := isOf hZ rfl Eg287
    obtain ⟨_, _, ⟨T295, L295, k295, n295⟩, -, X295, ⟨Lc295, hQ295, l295, y295, z295⟩, st295⟩ := X287.virtualBack hx (y := (⟨"com/example/vestwright/vestwright/cli/TableRows$ByKey", "rows", "(I)[I"⟩ : MethodName)) (z := (⟨"com/example/vestwright/vestwright/cli/TableRows$ByKey", "rows", "(I)[I"⟩ : MethodName)) hown (mvT hZ (hw _ (List.mem_of_getElem? (i := 52) rfl))) (mvT hZ (hw _ (List.mem_of_getElem? (i := 53) rfl))) (notFace_of_selects (args := #[]) (mvT hZ (hw _ (List.mem_of_getElem? (i := 55) rfl)))) (mvT hZ (hw _ (List.mem_of_getElem? (i := 55) rfl))) (mvT hZ (hw _ (List.mem_of_getElem? (i := 54) rfl))) (by decide) (backOf (W := 0) (rm7 l Z a0 hw [] T287.heap n0 O287 gg287 0 ss287 rr287 kss287 krr287 (own_st kn [q0, q1]) (own_rw kn [q0, q1]) Fs287 Fr287 Vs287 Vr287 Er287 (by show 0 + 1 < (own_p2 kn [q0, q1] kn).length; omega) (by show (own_p2 kn [q0, q1] kn).length ≤ 4; omega) u1294 (by show _ ≤ (own_p3 kn [q0, q1] ([q0, q1]).length).2.length; rw [v2294]; exact u2294) (by show (own_p3 kn [q0, q1] ([q0, q1]).length).2.length ≤ 4; rw [v2294]; show 2 ≤ 4; decide)) hZ (hw _ (List.mem_of_getElem? (i := 56) rfl)) (hw _ (List.mem_of_getElem? (i := 43) rfl)) (by decide) (by decide)) q295a q295c (g := (mkF m 232 #[.val (.int p0), .val (.int p1), .val (.int p2), .val (.int p3), .val (.int p4), .val (.int (2 : Int32)), .val (.int (Int32.ofNat (kn))), .val (.ref b101), .val (.ref b106), .val (.ref b109), .val (.int (1 : Int32)), .val (.ref gg287)] [(.int (0 : Int32)), (.ref gg287)])) rfl (by rw [hml]; rfl) (Steps.refl _) (argsL := [(.int (0 : Int32))]) (rest := []) (lenOf pd_7 rfl) rfl (by show 2 * 0 + _ ≤ _; exact Nat.le_of_eq rfl) (hb hby at_232) (fun _ _ => ⟨rfl, rfl, (by decide : 13 + 1 ≤ _), (by decide : 12318 + 4 ≤ _)⟩)
    dsimp only [Pt.U, Pt.locs, Pt.cells, Pt.slots] at X295 l295 y295 z295 st295 hQ295
    subst l295 y295 z295
    obtain ⟨b295, kb295, rfl, N295, K295, gb295, V295⟩ := hQ295
    have Nf295 := Fr.app Nf287 N295
    have O295 := O287.keep K295 all0
    have KK295 := KK287.trans K295 all0
    have ne_b101_b295 : b101 ≠ b295 := Nat.ne_of_lt (Nat.lt_of_lt_of_le f288.lt gb295)
    have ne_b106_b295 : b106 ≠ b295 := Nat.ne_of_lt (Nat.lt_of_lt_of_le f289.lt gb295)
    have ne_b109_b295 : b109 ≠ b295 := Nat.ne_of_lt (Nat.lt_of_lt_of_le f290.lt gb295)
    have ne_bb108_b295 : bb108 ≠ b295 := Nat.ne_of_lt (Nat.lt_of_lt_of_le f291.lt gb295)
    have ne_bk108_b295 : bk108 ≠ b295 := Nat.ne_of_lt (Nat.lt_of_lt_of_le f292.lt gb295)
    have ne_bs108_b295 : bs108 ≠ b295 := Nat.ne_of_lt (Nat.lt_of_lt_of_le f293.lt gb295)
    have ne_gg287_b295 : gg287 ≠ b295 := Nat.ne_of_lt (Nat.lt_of_lt_of_le Eg287.lt gb295)
    have ne_rr287_b295 : rr287 ≠ b295 := Nat.ne_of_lt (Nat.lt_of_lt_of_le Vr287.lt gb295)
    have ne_ss287_b295 : ss287 ≠ b295 := Nat.ne_of_lt (Nat.lt_of_lt_of_le Vs287.lt gb295)
    have ge_b295 : n0 ≤ b295 := Nat.le_trans (own_osz O287) gb295
    have gk_b295 : h0.size ≤ b295 := Nat.le_trans KK287.1 gb295
    rw [u3294] at V295
    refine own_go (S' := (T295.setTop (mkF m 240 #[.val (.int p0), .val (.int p1), .val (.int p2), .val (.int p3), .val (.int p4), .val (.int (2 : Int32)), .val (.int (Int32.ofNat (kn))), .val (.ref b101), .val (.ref b106), .val (.ref b109), .val (.int (1 : Int32)), .val (.ref gg287)] [(.int (0 : Int32)), (.int (2 : Int32)), (.ref b101), (.ref b295)]))) (fun tq kq => st295.trans (XS.aload X295.here hx rfl (hb hby at_235) rfl rfl (XS.iload X295.here hx rfl (hb hby at_237) rfl (XS.iconst X295.here hx rfl (hb hby at_239) kq)))) ?_
    have f296 := (f288.keep K295 nin0)
    obtain ⟨_, _, ⟨T297, L297, k297, n297⟩, -, X297, ⟨Lc297, hQ297, l297, y297, z297⟩, st297⟩ := Jvm.LawKit.callS X295 hx (y := (⟨"com/example/vestwright/vestwright/cli/TableRowsByKeyPinLaw", "same", "([I[III)Z"⟩ : MethodName)) hown (mvT hZ (hw _ (List.mem_of_getElem? (i := 69) rfl))) (mvT hZ (hw _ (List.mem_of_getElem? (i := 70) rfl))) (mvT hZ (hw _ (List.mem_of_getElem? (i := 71) rfl))) (mvT hZ (hw _ (List.mem_of_getElem? (i := 72) rfl))) (by decide) (backOf (W := 0) (rm9_2 l Z a0 hw [] T295.heap n0 O295 b295 b101 0 kb295 k101 q0 q1 q2 q3 V295 f296 (by omega)) hZ (hw _ (List.mem_of_getElem? (i := 72) rfl)) (hw _ (List.mem_of_getElem? (i := 71) rfl)) (by decide) (by decide)) (g := (mkF m 240 #[.val (.int p0), .val (.int p1), .val (.int p2), .val (.int p3), .val (.int p4), .val (.int (2 : Int32)), .val (.int (Int32.ofNat (kn))), .val (.ref b101), .val (.ref b106), .val (.ref b109), .val (.int (1 : Int32)), .val (.ref gg287)] [(.int (0 : Int32)), (.int (2 : Int32)), (.ref b101), (.ref b295)])) rfl (by rw [hml]; rfl) (argsL := [(.ref b295), (.ref b101), (.int (2 : Int32)), (.int (0 : Int32))]) (rest := []) (lenOf pd_8 rfl) rfl (by show 2 * 0 + _ ≤ _; exact Nat.le_of_eq rfl) (hb hby at_240) (fun _ _ => ⟨rfl, rfl, (by decide : 14 + 1 ≤ _), (by decide : 12322 + 4 ≤ _)⟩)
    dsimp only [Pt.U, Pt.locs, Pt.cells, Pt.slots] at X297 l297 y297 z297 st297 hQ297
    subst l297 y297 z297
    obtain ⟨rfl, N297, K297⟩ := hQ297
    have Nf297 := Fr.app Nf295 N297
    have O297 := O295.keep K297 all0
    have KK297 := KK295.trans K297 all0
    refine own_go (S' := (T297.setTop (mkF m 256 #[.val (.int p0), .val (.int p1), .val (.int p2), .val (.int p3), .val (.int p4), .val (.int (2 : Int32)), .val (.int (Int32.ofNat (kn))), .val (.ref b101), .val (.ref b106), .val (.ref b109), .val (.int (1 : Int32)), .val (.ref gg287)] [(.int (1 : Int32)), (.int (Int32.ofNat (kn)))]))) (fun tq kq => st297 tq (XS.ifNo X297.here hx rfl (hb hby at_243) rfl ((if0 _ _).trans (feq (by decide : ¬ ((1 : Int32) = (0 : Int32)))).1) (XS.iconst X297.here hx rfl (hb hby at_246) (XS.goto X297.here hx rfl (pc0 := 247) (pc' := 251) rfl (hb hby at_247) (by decide) (by decide) (XS.istore X297.here hx rfl (hb hby at_251) rfl (l' := #[.val (.int p0), .val (.int p1), .val (.int p2), .val (.int p3), .val (.int p4), .val (.int (2 : Int32)), .val (.int (Int32.ofNat (kn))), .val (.ref b101), .val (.ref b106), .val (.ref b109), .val (.int (1 : Int32)), .val (.ref gg287)]) rfl (XS.iload X297.here hx rfl (hb hby at_253) rfl (XS.iconst X297.here hx rfl (hb hby at_255) kq))))))) ?_
    by_cases hc298 : (1 : Int32) < (Int32.ofNat (kn))
    · refine own_go (S' := (T297.setTop (mkF m 267 #[.val (.int p0), .val (.int p1), .val (.int p2), .val (.int p3), .val (.int p4), .val (.int (2 : Int32)), .val (.int (Int32.ofNat (kn))), .val (.ref b101), .val (.ref b106), .val (.ref b109), .val (.int (1 : Int32)), .val (.ref gg287)] [(.int (1 : Int32)), (.ref gg287)]))) (fun tq kq => XS.icmpNo X297.here hx rfl (hb hby at_256) rfl (tlt hc298).2.2.2 (XS.iload X297.here hx rfl (hb hby at_259) rfl (XS.ifNo X297.here hx rfl (hb hby at_261) rfl ((if0 _ _).trans (feq (by decide : ¬ ((1 : Int32) = (0 : Int32)))).1) (XS.aload X297.here hx rfl (hb hby at_264) rfl rfl (XS.iconst X297.here hx rfl (hb hby at_266) kq))))) ?_
      have f299 := (f296.keep K297 nin0)
      have f300 := ((f289.keep K295).keep K297)
      have f301 := ((f290.keep K295 nin0).keep K297 nin0)
      have f302 := (V295.keep K297 nin0)
      have f303 := ((f291.keep K295 nin0).keep K297 nin0)
      have f304 := ((f292.keep K295 nin0).keep K297 nin0)
      have f305 := ((f293.keep K295 nin0).keep K297 nin0)
      have f306 := ((Eg287.keep K295).keep K297)
      have f307 := ((Vr287.keep K295 nin0).keep K297 nin0)
      have f308 := ((Vs287.keep K295 nin0).keep K297 nin0)
      have hkk309 : 1 < kn := ((own_lt (by decide) (by omega) : Int32.ofNat 1 < Int32.ofNat kn ↔ _).mp hc298)
      obtain ⟨u1309, u2309, u3309⟩ := own_chk2 hck hkk309
      have v1309 := own_p2len kn [q0, q1] kn
      have v2309 := (own_p3len kn [q0, q1] ([q0, q1]).length).2
      have f310 := ((Fs287.keep K295 nin0).keep K297 nin0)
      have f311 := ((Fr287.keep K295 nin0).keep K297 nin0)
      have f312 := ((Er287.keep K295).keep K297)
      obtain ⟨cq313, kq313, q313a, q313b, q313c⟩ := isOf hZ rfl f306
      obtain ⟨_, _, ⟨T313, L313, k313, n313⟩, -, X313, ⟨Lc313, hQ313, l313, y313, z313⟩, st313⟩ := X297.virtualBack hx (y := (⟨"com/example/vestwright/vestwright/cli/TableRows$ByKey", "rows", "(I)[I"⟩ : MethodName)) (z := (⟨"com/example/vestwright/vestwright/cli/TableRows$ByKey", "rows", "(I)[I"⟩ : MethodName)) hown (mvT hZ (hw _ (List.mem_of_getElem? (i := 52) rfl))) (mvT hZ (hw _ (List.mem_of_getElem? (i := 53) rfl))) (notFace_of_selects (args := #[]) (mvT hZ (hw _ (List.mem_of_getElem? (i := 55) rfl)))) (mvT hZ (hw _ (List.mem_of_getElem? (i := 55) rfl))) (mvT hZ (hw _ (List.mem_of_getElem? (i := 54) rfl))) (by decide) (backOf (W := 0) (rm7 l Z a0 hw [] T297.heap n0 O297 gg287 1 ss287 rr287 kss287 krr287 (own_st kn [q0, q1]) (own_rw kn [q0, q1]) f310 f311 f308 f307 f312 (by show 1 + 1 < (own_p2 kn [q0, q1] kn).length; omega) (by show (own_p2 kn [q0, q1] kn).length ≤ 4; omega) u1309 (by show _ ≤ (own_p3 kn [q0, q1] ([q0, q1]).length).2.length; rw [v2309]; exact u2309) (by show (own_p3 kn [q0, q1] ([q0, q1]).length).2.length ≤ 4; rw [v2309]; show 2 ≤ 4; decide)) hZ (hw _ (List.mem_of_getElem? (i := 56) rfl)) (hw _ (List.mem_of_getElem? (i := 43) rfl)) (by decide) (by decide)) q313a q313c (g := (mkF m 267 #[.val (.int p0), .val (.int p1), .val (.int p2), .val (.int p3), .val (.int p4), .val (.int (2 : Int32)), .val (.int (Int32.ofNat (kn))), .val (.ref b101), .val (.ref b106), .val (.ref b109), .val (.int (1 : Int32)), .val (.ref gg287)] [(.int (1 : Int32)), (.ref gg287)])) rfl (by rw [hml]; rfl) (Steps.refl _) (argsL := [(.int (1 : Int32))]) (rest := []) (lenOf pd_7 rfl) rfl (by show 2 * 0 + _ ≤ _; exact Nat.le_of_eq rfl) (hb hby at_267) (fun _ _ => ⟨rfl, rfl, (by decide : 15 + 1 ≤ _), (by decide : 12326 + 4 ≤ _)⟩)
      dsimp only [Pt.U, Pt.locs, Pt.cells, Pt.slots] at X313 l313 y313 z313 st313 hQ313
      subst l313 y313 z313
      obtain ⟨b313, kb313, rfl, N313, K313, gb313, V313⟩ := hQ313
      have Nf313 := Fr.app Nf297 N313
      have O313 := O297.keep K313 all0
      have KK313 := KK297.trans K313 all0
      have ne_b101_b313 : b101 ≠ b313 := Nat.ne_of_lt (Nat.lt_of_lt_of_le f299.lt gb313)
      have ne_b106_b313 : b106 ≠ b313 := Nat.ne_of_lt (Nat.lt_of_lt_of_le f300.lt gb313)
      have ne_b109_b313 : b109 ≠ b313 := Nat.ne_of_lt (Nat.lt_of_lt_of_le f301.lt gb313)
      have ne_b295_b313 : b295 ≠ b313 := Nat.ne_of_lt (Nat.lt_of_lt_of_le f302.lt gb313)
      have ne_bb108_b313 : bb108 ≠ b313 := Nat.ne_of_lt (Nat.lt_of_lt_of_le f303.lt gb313)
      have ne_bk108_b313 : bk108 ≠ b313 := Nat.ne_of_lt (Nat.lt_of_lt_of_le f304.lt gb313)
      have ne_bs108_b313 : bs108 ≠ b313 := Nat.ne_of_lt (Nat.lt_of_lt_of_le f305.lt gb313)
      have ne_gg287_b313 : gg287 ≠ b313 := Nat.ne_of_lt (Nat.lt_of_lt_of_le f306.lt gb313)
      have ne_rr287_b313 : rr287 ≠ b313 := Nat.ne_of_lt (Nat.lt_of_lt_of_le f307.lt gb313)
      have ne_ss287_b313 : ss287 ≠ b313 := Nat.ne_of_lt (Nat.lt_of_lt_of_le f308.lt gb313)
      have ge_b313 : n0 ≤ b313 := Nat.le_trans (own_osz O297) gb313
      have gk_b313 : h0.size ≤ b313 := Nat.le_trans KK297.1 gb313
      rw [u3309] at V313
      refine own_go (S' := (T313.setTop (mkF m 275 #[.val (.int p0), .val (.int p1), .val (.int p2), .val (.int p3), .val (.int p4), .val (.int (2 : Int32)), .val (.int (Int32.ofNat (kn))), .val (.ref b101), .val (.ref b106), .val (.ref b109), .val (.int (1 : Int32)), .val (.ref gg287)] [(.int (1 : Int32)), (.int (2 : Int32)), (.ref b101), (.ref b313)]))) (fun tq kq => st313.trans (XS.aload X313.here hx rfl (hb hby at_270) rfl rfl (XS.iload X313.here hx rfl (hb hby at_272) rfl (XS.iconst X313.here hx rfl (hb hby at_274) kq)))) ?_
      have f314 := (f299.keep K313 nin0)
      obtain ⟨_, _, ⟨T315, L315, k315, n315⟩, -, X315, ⟨Lc315, hQ315, l315, y315, z315⟩, st315⟩ := Jvm.LawKit.callS X313 hx (y := (⟨"com/example/vestwright/vestwright/cli/TableRowsByKeyPinLaw", "same", "([I[III)Z"⟩ : MethodName)) hown (mvT hZ (hw _ (List.mem_of_getElem? (i := 69) rfl))) (mvT hZ (hw _ (List.mem_of_getElem? (i := 70) rfl))) (mvT hZ (hw _ (List.mem_of_getElem? (i := 71) rfl))) (mvT hZ (hw _ (List.mem_of_getElem? (i := 72) rfl))) (by decide) (backOf (W := 0) (rm9_2 l Z a0 hw [] T313.heap n0 O313 b313 b101 1 kb313 k101 q0 q1 q2 q3 V313 f314 (by omega)) hZ (hw _ (List.mem_of_getElem? (i := 72) rfl)) (hw _ (List.mem_of_getElem? (i := 71) rfl)) (by decide) (by decide)) (g := (mkF m 275 #[.val (.int p0), .val (.int p1), .val (.int p2), .val (.int p3), .val (.int p4), .val (.int (2 : Int32)), .val (.int (Int32.ofNat (kn))), .val (.ref b101), .val (.ref b106), .val (.ref b109), .val (.int (1 : Int32)), .val (.ref gg287)] [(.int (1 : Int32)), (.int (2 : Int32)), (.ref b101), (.ref b313)])) rfl (by rw [hml]; rfl) (argsL := [(.ref b313), (.ref b101), (.int (2 : Int32)), (.int (1 : Int32))]) (rest := []) (lenOf pd_8 rfl) rfl (by show 2 * 0 + _ ≤ _; exact Nat.le_of_eq rfl) (hb hby at_275) (fun _ _ => ⟨rfl, rfl, (by decide : 16 + 1 ≤ _), (by decide : 12330 + 4 ≤ _)⟩)
      dsimp only [Pt.U, Pt.locs, Pt.cells, Pt.slots] at X315 l315 y315 z315 st315 hQ315
      subst l315 y315 z315
      obtain ⟨rfl, N315, K315⟩ := hQ315
      have Nf315 := Fr.app Nf313 N315
      have O315 := O313.keep K315 all0
      have KK315 := KK313.trans K315 all0
      refine own_go (S' := (T315.setTop (mkF m 291 #[.val (.int p0), .val (.int p1), .val (.int p2), .val (.int p3), .val (.int p4), .val (.int (2 : Int32)), .val (.int (Int32.ofNat (kn))), .val (.ref b101), .val (.ref b106), .val (.ref b109), .val (.int (1 : Int32)), .val (.ref gg287)] [(.int (2 : Int32)), (.int (Int32.ofNat (kn)))]))) (fun tq kq => st315 tq (XS.ifNo X315.here hx rfl (hb hby at_278) rfl ((if0 _ _).trans (feq (by decide : ¬ ((1 : Int32) = (0 : Int32)))).1) (XS.iconst X315.here hx rfl (hb hby at_281) (XS.goto X315.here hx rfl (pc0 := 282) (pc' := 286) rfl (hb hby at_282) (by decide) (by decide) (XS.istore X315.here hx rfl (hb hby at_286) rfl (l' := #[.val (.int p0), .val (.int p1), .val (.int p2), .val (.int p3), .val (.int p4), .val (.int (2 : Int32)), .val (.int (Int32.ofNat (kn))), .val (.ref b101), .val (.ref b106), .val (.ref b109), .val (.int (1 : Int32)), .val (.ref gg287)]) rfl (XS.iload X315.here hx rfl (hb hby at_288) rfl (XS.iconst X315.here hx rfl (hb hby at_290) kq))))))) ?_
      by_cases hc316 : (2 : Int32) < (Int32.ofNat (kn))
      · refine own_go (S' := (T315.setTop (mkF m 302 #[.val (.int p0), .val (.int p1), .val (.int p2), .val (.int p3), .val (.int p4), .val (.int (2 : Int32)), .val (.int (Int32.ofNat (kn))), .val (.ref b101), .val (.ref b106), .val (.ref b109), .val (.int (1 : Int32)), .val (.ref gg287)] [(.int (2 : Int32)), (.ref gg287)]))) (fun tq kq => XS.icmpNo X315.here hx rfl (hb hby at_291) rfl (tlt hc316).2.2.2 (XS.iload X315.here hx rfl (hb hby at_294) rfl (XS.ifNo X315.here hx rfl (hb hby at_296) rfl ((if0 _ _).trans (feq (by decide : ¬ ((1 : Int32) = (0 : Int32)))).1) (XS.aload X315.here hx rfl (hb hby at_299) rfl rfl (XS.iconst X315.here hx rfl (hb hby at_301) kq))))) ?_
        have f317 := (f314.keep K315 nin0)
        have f318 := ((f300.keep K313).keep K315)
        have f319 := ((f301.keep K313 nin0).keep K315 nin0)
        have f320 := ((f302.keep K313 nin0).keep K315 nin0)
        have f321 := (V313.keep K315 nin0)
        have f322 := ((f303.keep K313 nin0).keep K315 nin0)
        have f323 := ((f304.keep K313 nin0).keep K315 nin0)
        have f324 := ((f305.keep K313 nin0).keep K315 nin0)
        have f325 := ((f306.keep K313).keep K315)
        have f326 := ((f307.keep K313 nin0).keep K315 nin0)
        have f327 := ((f308.keep K313 nin0).keep K315 nin0)
        have hkk328 : 2 < kn := ((own_lt (by decide) (by omega) : Int32.ofNat 2 < Int32.ofNat kn ↔ _).mp hc316)
        obtain ⟨u1328, u2328, u3328⟩ := own_chk2 hck hkk328
        have v1328 := own_p2len kn [q0, q1] kn
        have v2328 := (own_p3len kn [q0, q1] ([q0, q1]).length).2
        have f329 := ((f310.keep K313 nin0).keep K315 nin0)
        have f330 := ((f311.keep K313 nin0).keep K315 nin0)
        have f331 := ((f312.keep K313).keep K315)
        obtain ⟨cq332, kq332, q332a, q332b, q332c⟩ := isOf hZ rfl f325
        obtain ⟨_, _, ⟨T332, L332, k332, n332⟩, -, X332, ⟨Lc332, hQ332, l332, y332, z332⟩, st332⟩ := X315.virtualBack hx (y := (⟨"com/example/vestwright/vestwright/cli/TableRows$ByKey", "rows", "(I)[I"⟩ : MethodName)) (z := (⟨"com/example/vestwright/vestwright/cli/TableRows$ByKey", "rows", "(I)[I"⟩ : MethodName)) hown (mvT hZ (hw _ (List.mem_of_getElem? (i := 52) rfl))) (mvT hZ (hw _ (List.mem_of_getElem? (i := 53) rfl))) (notFace_of_selects (args := #[]) (mvT hZ (hw _ (List.mem_of_getElem? (i := 55) rfl)))) (mvT hZ (hw _ (List.mem_of_getElem? (i := 55) rfl))) (mvT hZ (hw _ (List.mem_of_getElem? (i := 54) rfl))) (by decide) (backOf (W := 0) (rm7 l Z a0 hw [] T315.heap n0 O315 gg287 2 ss287 rr287 kss287 krr287 (own_st kn [q0, q1]) (own_rw kn [q0, q1]) f329 f330 f327 f326 f331 (by show 2 + 1 < (own_p2 kn [q0, q1] kn).length; omega) (by show (own_p2 kn [q0, q1] kn).length ≤ 4; omega) u1328 (by show _ ≤ (own_p3 kn [q0, q1] ([q0, q1]).length).2.length; rw [v2328]; exact u2328) (by show (own_p3 kn [q0, q1] ([q0, q1]).length).2.length ≤ 4; rw [v2328]; show 2 ≤ 4; decide)) hZ (hw _ (List.mem_of_getElem? (i := 56) rfl)) (hw _ (List.mem_of_getElem? (i := 43) rfl)) (by decide) (by decide)) q332a q332c (g := (mkF m 302 #[.val (.int p0), .val (.int p1), .val (.int p2), .val (.int p3), .val (.int p4), .val (.int (2 : Int32)), .val (.int (Int32.ofNat (kn))), .val (.ref b101), .val (.ref b106), .val (.ref b109), .val (.int (1 : Int32)), .val (.ref gg287)] [(.int (2 : Int32)), (.ref gg287)])) rfl (by rw [hml]; rfl) (Steps.refl _) (argsL := [(.int (2 : Int32))]) (rest := []) (lenOf pd_7 rfl) rfl (by show 2 * 0 + _ ≤ _; exact Nat.le_of_eq rfl) (hb hby at_302) (fun _ _ => ⟨rfl, rfl, (by decide : 17 + 1 ≤ _), (by decide : 12334 + 4 ≤ _)⟩)
        dsimp only [Pt.U, Pt.locs, Pt.cells, Pt.slots] at X332 l332 y332 z332 st332 hQ332
        subst l332 y332 z332
        obtain ⟨b332, kb332, rfl, N332, K332, gb332, V332⟩ := hQ332
        have Nf332 := Fr.app Nf315 N332
        have O332 := O315.keep K332 all0
        have KK332 := KK315.trans K332 all0
        have ne_b101_b332 : b101 ≠ b332 := Nat.ne_of_lt (Nat.lt_of_lt_of_le f317.lt gb332)
        have ne_b106_b332 : b106 ≠ b332 := Nat.ne_of_lt (Nat.lt_of_lt_of_le f318.lt gb332)
        have ne_b109_b332 : b109 ≠ b332 := Nat.ne_of_lt (Nat.lt_of_lt_of_le f319.lt gb332)
        have ne_b295_b332 : b295 ≠ b332 := Nat.ne_of_lt (Nat.lt_of_lt_of_le f320.lt gb332)
        have ne_b313_b332 : b313 ≠ b332 := Nat.ne_of_lt (Nat.lt_of_lt_of_le f321.lt gb332)
        have ne_bb108_b332 : bb108 ≠ b332 := Nat.ne_of_lt (Nat.lt_of_lt_of_le f322.lt gb332)
        have ne_bk108_b332 : bk108 ≠ b332 := Nat.ne_of_lt (Nat.lt_of_lt_of_le f323.lt gb332)
        have ne_bs108_b332 : bs108 ≠ b332 := Nat.ne_of_lt (Nat.lt_of_lt_of_le f324.lt gb332)
        have ne_gg287_b332 : gg287 ≠ b332 := Nat.ne_of_lt (Nat.lt_of_lt_of_le f325.lt gb332)
        have ne_rr287_b332 : rr287 ≠ b332 := Nat.ne_of_lt (Nat.lt_of_lt_of_le f326.lt gb332)
        have ne_ss287_b332 : ss287 ≠ b332 := Nat.ne_of_lt (Nat.lt_of_lt_of_le f327.lt gb332)
        have ge_b332 : n0 ≤ b332 := Nat.le_trans (own_osz O315) gb332
        have gk_b332 : h0.size ≤ b332 := Nat.le_trans KK315.1 gb332
        rw [u3328] at V332
        refine own_go (S' := (T332.setTop (mkF m 310 #[.val (.int p0), .val (.int p1), .val (.int p2), .val (.int p3), .val (.int p4), .val (.int (2 : Int32)), .val (.int (Int32.ofNat (kn))), .val (.ref b101), .val (.ref b106), .val (.ref b109), .val (.int (1 : Int32)), .val (.ref gg287)] [(.int (2 : Int32)), (.int (2 : Int32)), (.ref b101), (.ref b332)]))) (fun tq kq => st332.trans (XS.aload X332.here hx rfl (hb hby at_305) rfl rfl (XS.iload X332.here hx rfl (hb hby at_307) rfl (XS.iconst X332.here hx rfl (hb hby at_309) kq)))) ?_
        have f333 := (f317.keep K332 nin0)
        obtain ⟨_, _, ⟨T334, L334, k334, n334⟩, -, X334, ⟨Lc334, hQ334, l334, y334, z334⟩, st334⟩ := Jvm.LawKit.callS X332 hx (y := (⟨"com/example/vestwright/vestwright/cli/TableRowsByKeyPinLaw", "same", "([I[III)Z"⟩ : MethodName)) hown (mvT hZ (hw _ (List.mem_of_getElem? (i := 69) rfl))) (mvT hZ (hw _ (List.mem_of_getElem? (i := 70) rfl))) (mvT hZ (hw _ (List.mem_of_getElem? (i := 71) rfl))) (mvT hZ (hw _ (List.mem_of_getElem? (i := 72) rfl))) (by decide) (backOf (W := 0) (rm9_2 l Z a0 hw [] T332.heap n0 O332 b332 b101 2 kb332 k101 q0 q1 q2 q3 V332 f333 (by omega)) hZ (hw _ (List.mem_of_getElem? (i := 72) rfl)) (hw _ (List.mem_of_getElem? (i := 71) rfl)) (by decide) (by decide)) (g := (mkF m 310 #[.val (.int p0), .val (.int p1), .val (.int p2), .val (.int p3), .val (.int p4), .val (.int (2 : Int32)), .val (.int (Int32.ofNat (kn))), .val (.ref b101), .val (.ref b106), .val (.ref b109), .val (.int (1 : Int32)), .val (.ref gg287)] [(.int (2 : Int32)), (.int (2 : Int32)), (.ref b101), (.ref b332)])) rfl (by rw [hml]; rfl) (argsL := [(.ref b332), (.ref b101), (.int (2 : Int32)), (.int (2 : Int32))]) (rest := []) (lenOf pd_8 rfl) rfl (by show 2 * 0 + _ ≤ _; exact Nat.le_of_eq rfl) (hb hby at_310) (fun _ _ => ⟨rfl, rfl, (by decide : 18 + 1 ≤ _), (by decide : 12338 + 4 ≤ _)⟩)
        dsimp only [Pt.U, Pt.locs, Pt.cells, Pt.slots] at X334 l334 y334 z334 st334 hQ334
        subst l334 y334 z334
        obtain ⟨rfl, N334, K334⟩ := hQ334
        have Nf334 := Fr.app Nf332 N334
        have O334 := O332.keep K334 all0
        have KK334 := KK332.trans K334 all0
        refine own_go (S' := (T334.setTop (mkF m 325 #[.val (.int p0), .val (.int p1), .val (.int p2), .val (.int p3), .val (.int p4), .val (.int (2 : Int32)), .val (.int (Int32.ofNat (kn))), .val (.ref b101), .val (.ref b106), .val (.ref b109), .val (.int (1 : Int32)), .val (.ref gg287)] [(.int (1 : Int32))]))) (fun tq kq => st334 tq (XS.ifNo X334.here hx rfl (hb hby at_313) rfl ((if0 _ _).trans (feq (by decide : ¬ ((1 : Int32) = (0 : Int32)))).1) (XS.iconst X334.here hx rfl (hb hby at_316) (XS.goto X334.here hx rfl (pc0 := 317) (pc' := 321) rfl (hb hby at_317) (by decide) (by decide) (XS.istore X334.here hx rfl (hb hby at_321) rfl (l' := #[.val (.int p0), .val (.int p1), .val (.int p2), .val (.int p3), .val (.int p4), .val (.int (2 : Int32)), .val (.int (Int32.ofNat (kn))), .val (.ref b101), .val (.ref b106), .val (.ref b109), .val (.int (1 : Int32)), .val (.ref gg287)]) rfl (XS.iload X334.here hx rfl (hb hby at_323) rfl kq)))))) ?_
        refine own_retN X334 hx hlk hret (by simp) (hb hby at_325) (by decide) (by decide) ?_
        exact ⟨rfl, Nf334⟩
      · refine own_go (S' := (T315.setTop (mkF m 325 #[.val (.int p0), .val (.int p1), .val (.int p2), .val (.int p3), .val (.int p4), .val (.int (2 : Int32)), .val (.int (Int32.ofNat (kn))), .val (.ref b101), .val (.ref b106), .val (.ref b109), .val (.int (1 : Int32)), .val (.ref gg287)] [(.int (1 : Int32))]))) (fun tq kq => XS.icmpYes X315.here hx rfl (pc0 := 291) (pc' := 323) rfl (hb hby at_291) rfl (flt hc316).2.2.2 (by decide) (by decide) (XS.iload X315.here hx rfl (hb hby at_323) rfl kq)) ?_
        refine own_retN X315 hx hlk hret (by simp) (hb hby at_325) (by decide) (by decide) ?_
        exact ⟨rfl, Nf315⟩
    · refine own_go (S' := (T297.setTop (mkF m 291 #[.val (.int p0), .val (.int p1), .val (.int p2), .val (.int p3), .val (.int p4), .val (.int (2 : Int32)), .val (.int (Int32.ofNat (kn))), .val (.ref b101), .val (.ref b106), .val (.ref b109), .val (.int (1 : Int32)), .val (.ref gg287)] [(.int (2 : Int32)), (.int (Int32.ofNat (kn)))]))) (fun tq kq => XS.icmpYes X297.here hx rfl (pc0 := 256) (pc' := 288) rfl (hb hby at_256) rfl (flt hc298).2.2.2 (by decide) (by decide) (XS.iload X297.here hx rfl (hb hby at_288) rfl (XS.iconst X297.here hx rfl (hb hby at_290) kq))) ?_
      by_cases hc335 : (2 : Int32) < (Int32.ofNat (kn))
      · refine own_go (S' := (T297.setTop (mkF m 302 #[.val (.int p0), .val (.int p1), .val (.int p2), .val (.int p3), .val (.int p4), .val (.int (2 : Int32)), .val (.int (Int32.ofNat (kn))), .val (.ref b101), .val (.ref b106), .val (.ref b109), .val (.int (1 : Int32)), .val (.ref gg287)] [(.int (2 : Int32)), (.ref gg287)]))) (fun tq kq => XS.icmpNo X297.here hx rfl (hb hby at_291) rfl (tlt hc335).2.2.2 (XS.iload X297.here hx rfl (hb hby at_294) rfl (XS.ifNo X297.here hx rfl (hb hby at_296) rfl ((if0 _ _).trans (feq (by decide : ¬ ((1 : Int32) = (0 : Int32)))).1) (XS.aload X297.here hx rfl (hb hby at_299) rfl rfl (XS.iconst X297.here hx rfl (hb hby at_301) kq))))) ?_
        have f336 := (f296.keep K297 nin0)
        have f337 := ((f289.keep K295).keep K297)
        have f338 := ((f290.keep K295 nin0).keep K297 nin0)
        have f339 := (V295.keep K297 nin0)
        have f340 := ((f291.keep K295 nin0).keep K297 nin0)
        have f341 := ((f292.keep K295 nin0).keep K297 nin0)
        have f342 := ((f293.keep K295 nin0).keep K297 nin0)
        have f343 := ((Eg287.keep K295).keep K297)
        have f344 := ((Vr287.keep K295 nin0).keep K297 nin0)
        have f345 := ((Vs287.keep K295 nin0).keep K297 nin0)
        have hkk346 : 2 < kn := ((own_lt (by decide) (by omega) : Int32.ofNat 2 < Int32.ofNat kn ↔ _).mp hc335)
        obtain ⟨u1346, u2346, u3346⟩ := own_chk2 hck hkk346
        have v1346 := own_p2len kn [q0, q1] kn
        have v2346 := (own_p3len kn [q0, q1] ([q0, q1]).length).2
        have f347 := ((Fs287.keep K295 nin0).keep K297 nin0)
        have f348 := ((Fr287.keep K295 nin0).keep K297 nin0)
        have f349 := ((Er287.keep K295).keep K297)
        obtain ⟨cq350, kq350, q350a, q350b, q350c⟩ := isOf hZ rfl f343
        obtain ⟨_, _, ⟨T350, L350, k350, n350⟩, -, X350, ⟨Lc350, hQ350, l350, y350, z350⟩, st350⟩ := X297.virtualBack hx (y := (⟨"com/example/vestwright/vestwright/cli/TableRows$ByKey", "rows", "(I)[I"⟩ : MethodName)) (z := (⟨"com/example/vestwright/vestwright/cli/TableRows$ByKey", "rows", "(I)[I"⟩ : MethodName)) hown (mvT hZ (hw _ (List.mem_of_getElem? (i := 52) rfl))) (mvT hZ (hw _ (List.mem_of_getElem? (i := 53) rfl))) (notFace_of_selects (args := #[]) (mvT hZ (hw _ (List.mem_of_getElem? (i := 55) rfl)))) (mvT hZ (hw _ (List.mem_of_getElem? (i := 55) rfl))) (mvT hZ (hw _ (List.mem_of_getElem? (i := 54) rfl))) (by decide) (backOf (W := 0) (rm7 l Z a0 hw [] T297.heap n0 O297 gg287 2 ss287 rr287 kss287 krr287 (own_st kn [q0, q1]) (own_rw kn [q0, q1]) f347 f348 f345 f344 f349 (by show 2 + 1 < (own_p2 kn [q0, q1] kn).length; omega) (by show (own_p2 kn [q0, q1] kn).length ≤ 4; omega) u1346 (by show _ ≤ (own_p3 kn [q0, q1] ([q0, q1]).length).2.length; rw [v2346]; exact u2346) (by show (own_p3 kn [q0, q1] ([q0, q1]).length).2.length ≤ 4; rw [v2346]; show 2 ≤ 4; decide)) hZ (hw _ (List.mem_of_getElem? (i := 56) rfl)) (hw _ (List.mem_of_getElem? (i := 43) rfl)) (by decide) (by decide)) q350a q350c (g := (mkF m 302 #[.val (.int p0), .val (.int p1), .val (.int p2), .val (.int p3), .val (.int p4), .val (.int (2 : Int32)), .val (.int (Int32.ofNat (kn))), .val (.ref b101), .val (.ref b106), .val (.ref b109), .val (.int (1 : Int32)), .val (.ref gg287)] [(.int (2 : Int32)), (.ref gg287)])) rfl (by rw [hml]; rfl) (Steps.refl _) (argsL := [(.int (2 : Int32))]) (rest := []) (lenOf pd_7 rfl) rfl (by show 2 * 0 + _ ≤ _; exact Nat.le_of_eq rfl) (hb hby at_302) (fun _ _ => ⟨rfl, rfl, (by decide : 15 + 1 ≤ _), (by decide : 12326 + 4 ≤ _)⟩)
        dsimp only [Pt.U, Pt.locs, Pt.cells, Pt.slots] at X350 l350 y350 z350 st350 hQ350
        subst l350 y350 z350
        obtain ⟨b350, kb350, rfl, N350, K350, gb350, V350⟩ := hQ350
        have Nf350 := Fr.app Nf297 N350
        have O350 := O297.keep K350 all0
        have KK350 := KK297.trans K350 all0
        have ne_b101_b350 : b101 ≠ b350 := Nat.ne_of_lt (Nat.lt_of_lt_of_le f336.lt gb350)
        have ne_b106_b350 : b106 ≠ b350 := Nat.ne_of_lt (Nat.lt_of_lt_of_le f337.lt gb350)
        have ne_b109_b350 : b109 ≠ b350 := Nat.ne_of_lt (Nat.lt_of_lt_of_le f338.lt gb350)
        have ne_b295_b350 : b295 ≠ b350 := Nat.ne_of_lt (Nat.lt_of_lt_of_le f339.lt gb350)
        have ne_bb108_b350 : bb108 ≠ b350 := Nat.ne_of_lt (Nat.lt_of_lt_of_le f340.lt gb350)
        have ne_bk108_b350 : bk108 ≠ b350 := Nat.ne_of_lt (Nat.lt_of_lt_of_le f341.lt gb350)
        have ne_bs108_b350 : bs108 ≠ b350 := Nat.ne_of_lt (Nat.lt_of_lt_of_le f342.lt gb350)
        have ne_gg287_b350 : gg287 ≠ b350 := Nat.ne_of_lt (Nat.lt_of_lt_of_le f343.lt gb350)
        have ne_rr287_b350 : rr287 ≠ b350 := Nat.ne_of_lt (Nat.lt_of_lt_of_le f344.lt gb350)
        have ne_ss287_b350 : ss287 ≠ b350 := Nat.ne_of_lt (Nat.lt_of_lt_of_le f345.lt gb350)
        have ge_b350 : n0 ≤ b350 := Nat.le_trans (own_osz O297) gb350
        have gk_b350 : h0.size ≤ b350 := Nat.le_trans KK297.1 gb350
        rw [u3346] at V350
        refine own_go (S' := (T350.setTop (mkF m 310 #[.val (.int p0), .val (.int p1), .val (.int p2), .val (.int p3), .val (.int p4), .val (.int (2 : Int32)), .val (.int (Int32.ofNat (kn))), .val (.ref b101), .val (.ref b106), .val (.ref b109), .val (.int (1 : Int32)), .val (.ref gg287)] [(.int (2 : Int32)), (.int (2 : Int32)), (.ref b101), (.ref b350)]))) (fun tq kq => st350.trans (XS.aload X350.here hx rfl (hb hby at_305) rfl rfl (XS.iload X350.here hx rfl (hb hby at_307) rfl (XS.iconst X350.here hx rfl (hb hby at_309) kq)))) ?_
        have f351 := (f336.keep K350 nin0)
        obtain ⟨_, _, ⟨T352, L352, k352, n352⟩, -, X352, ⟨Lc352, hQ352, l352, y352, z352⟩, st352⟩ := Jvm.LawKit.callS X350 hx (y := (⟨"com/example/vestwright/vestwright/cli/TableRowsByKeyPinLaw", "same", "([I[III)Z"⟩ : MethodName)) hown (mvT hZ (hw _ (List.mem_of_getElem? (i := 69) rfl))) (mvT hZ (hw _ (List.mem_of_getElem? (i := 70) rfl))) (mvT hZ (hw _ (List.mem_of_getElem? (i := 71) rfl))) (mvT hZ (hw _ (List.mem_of_getElem? (i := 72) rfl))) (by decide) (backOf (W := 0) (rm9_2 l Z a0 hw [] T350.heap n0 O350 b350 b101 2 kb350 k101 q0 q1 q2 q3 V350 f351 (by omega)) hZ (hw _ (List.mem_of_getElem? (i := 72) rfl)) (hw _ (List.mem_of_getElem? (i := 71) rfl)) (by decide) (by decide)) (g := (mkF m 310 #[.val (.int p0), .val (.int p1), .val (.int p2), .val (.int p3), .val (.int p4), .val (.int (2 : Int32)), .val (.int (Int32.ofNat (kn))), .val (.ref b101), .val (.ref b106), .val (.ref b109), .val (.int (1 : Int32)), .val (.ref gg287)] [(.int (2 : Int32)), (.int (2 : Int32)), (.ref b101), (.ref b350)])) rfl (by rw [hml]; rfl) (argsL := [(.ref b350), (.ref b101), (.int (2 : Int32)), (.int (2 : Int32))]) (rest := []) (lenOf pd_8 rfl) rfl (by show 2 * 0 + _ ≤ _; exact Nat.le_of_eq rfl) (hb hby at_310) (fun _ _ => ⟨rfl, rfl, (by decide : 16 + 1 ≤ _), (by decide : 12330 + 4 ≤ _)⟩)
        dsimp only [Pt.U, Pt.locs, Pt.cells, Pt.slots] at X352 l352 y352 z352 st352 hQ352
        subst l352 y352 z352
        obtain ⟨rfl, N352, K352⟩ := hQ352
        have Nf352 := Fr.app Nf350 N352
        have O352 := O350.keep K352 all0
        have KK352 := KK350.trans K352 all0
        refine own_go (S' := (T352.setTop (mkF m 325 #[.val (.int p0), .val (.int p1), .val (.int p2), .val (.int p3), .val (.int p4), .val (.int (2 : Int32)), .val (.int (Int32.ofNat (kn))), .val (.ref b101), .val (.ref b106), .val (.ref b109), .val (.int (1 : Int32)), .val (.ref gg287)] [(.int (1 : Int32))]))) (fun tq kq => st352 tq (XS.ifNo X352.here hx rfl (hb hby at_313) rfl ((if0 _ _).trans (feq (by decide : ¬ ((1 : Int32) = (0 : Int32)))).1) (XS.iconst X352.here hx rfl (hb hby at_316) (XS.goto X352.here hx rfl (pc0 := 317) (pc' := 321) rfl (hb hby at_317) (by decide) (by decide) (XS.istore X352.here hx rfl (hb hby at_321) rfl (l' := #[.val (.int p0), .val (.int p1), .val (.int p2), .val (.int p3), .val (.int p4), .val (.int (2 : Int32)), .val (.int (Int32.ofNat (kn))), .val (.ref b101), .val (.ref b106), .val (.ref b109), .val (.int (1 : Int32)), .val (.ref gg287)]) rfl (XS.iload X352.here hx rfl (hb hby at_323) rfl kq)))))) ?_
        refine own_retN X352 hx hlk hret (by simp) (hb hby at_325) (by decide) (by decide) ?_
        exact ⟨rfl, Nf352⟩
      · refine own_go (S' := (T297.setTop (mkF m 325 #[.val (.int p0), .val (.int p1), .val (.int p2), .val (.int p3), .val (.int p4), .val (.int (2 : Int32)), .val (.int (Int32.ofNat (kn))), .val (.ref b101), .val (.ref b106), .val (.ref b109), .val (.int (1 : Int32)), .val (.ref gg287)] [(.int (1 : Int32))]))) (fun tq kq => XS.icmpYes X297.here hx rfl (pc0 := 291) (pc' := 323) rfl (hb hby at_291) rfl (flt hc335).2.2.2 (by decide) (by decide) (XS.iload X297.here hx rfl (hb hby at_323) rfl kq)) ?_
        refine own_retN X297 hx hlk hret (by simp) (hb hby at_325) (by decide) (by decide) ?_
        exact ⟨rfl, Nf297⟩
  · rw [hn5]
    refine own_go (S' := (T109.setTop (mkF m 100 #[.val (.int p0), .val (.int p1), .val (.int p2), .val (.int p3), .val (.int p4), .val (.int (3 : Int32)), .val (.int (Int32.ofNat (kn))), .val (.ref b101), .val (.ref b106), .val (.ref b109), .val (.int (1 : Int32)), .unset] [(.int (0 : Int32)), (.ref b101), (.ref b109), (.ref b106)]))) (fun tq kq => XS.iload X109.here hx rfl (hb hby at_88) rfl (XS.ifNo X109.here hx rfl (hb hby at_90) rfl ((if0 _ _).trans (tlt (by decide : (0 : Int32) < (3 : Int32))).2.2.2) (XS.aload X109.here hx rfl (hb hby at_93) rfl rfl (XS.aload X109.here hx rfl (hb hby at_95) rfl rfl (XS.aload X109.here hx rfl (hb hby at_97) rfl rfl (XS.iconst X109.here hx rfl (hb hby at_99) kq)))))) ?_
    have f353 := (f110.ext E109)
    obtain ⟨cl354, Ar354, -, -, hin354, hat354⟩ := f353.at (j := (0 : Int32)) (v := (.int (Int32.ofNat q0))) (by decide) rfl
    refine own_go (S' := (T109.setTop (mkF m 101 #[.val (.int p0), .val (.int p1), .val (.int p2), .val (.int p3), .val (.int p4), .val (.int (3 : Int32)), .val (.int (Int32.ofNat (kn))), .val (.ref b101), .val (.ref b106), .val (.ref b109), .val (.int (1 : Int32)), .unset] [(.int (Int32.ofNat q0)), (.ref b109), (.ref b106)]))) (fun tq kq => X109.iaload hx (j := (0 : Int32)) (v := (.int (Int32.ofNat q0))) (by rw [e109]; exact Ar354.1) (State.isArrayOf_alike hZ.alike Ar354.2.1) Ar354.2.2 hin354 hat354 (g := (mkF m 100 #[.val (.int p0), .val (.int p1), .val (.int p2), .val (.int p3), .val (.int p4), .val (.int (3 : Int32)), .val (.int (Int32.ofNat (kn))), .val (.ref b101), .val (.ref b106), .val (.ref b109), .val (.int (1 : Int32)), .unset] [(.int (0 : Int32)), (.ref b101), (.ref b109), (.ref b106)])) rfl rfl (hb hby at_100) tq kq) ?_
    have f355 := (Et108.ext E109)
    have f356 := (Fw108.ext E109)
    have f357 := (Fb108.ext E109)
    have f358 := (Fu108.ext E109)
    have f359 := (Fs108.ext E109)
    have f360 := (Fk108.ext E109)
    have f361 := (Fz108.ext E109)
    have f362 := (Vb108.ext E109)
    have f363 := (Vs108.ext E109)
    have f364 := (Vk108.ext E109)
    obtain ⟨cq365, kq365, q365a, q365b, q365c⟩ := isOf hZ e109 f355
    obtain ⟨_, _, ⟨T365, L365, k365, n365⟩, -, X365, ⟨Lc365, hQ365, l365, y365, z365⟩, st365⟩ := X109.virtualBack hx (y := (⟨"com/example/vestwright/vestwright/cli/TableRows", "add", "([Ljava/lang/String;I)Z"⟩ : MethodName)) (z := (⟨"com/example/vestwright/vestwright/cli/TableRows", "add", "([Ljava/lang/String;I)Z"⟩ : MethodName)) hown (mvT hZ (hw _ (List.mem_of_getElem? (i := 73) rfl))) (mvT hZ (hw _ (List.mem_of_getElem? (i := 74) rfl))) (notFace_of_selects (args := #[]) (mvT hZ (hw _ (List.mem_of_getElem? (i := 76) rfl)))) (mvT hZ (hw _ (List.mem_of_getElem? (i := 76) rfl))) (mvT hZ (hw _ (List.mem_of_getElem? (i := 75) rfl))) (by decide) (backOf (W := 0) (rm10 l Z a0 hw [] h109 n0 O109 b106 bb108 bs108 bk108 ka108 kb108 kc108 ([] : List Nat) b109 q0 ⟨⟨f355, f356, f357, f358, f359, f360, f361⟩, ⟨f362, f363, f364⟩, nq1108, nq2108, nq3108, nq4108, nq5108, nq6108⟩ (by show 0 < 4; decide) ge_b106 ge_bs108 ge_bk108) hZ (hw _ (List.mem_of_getElem? (i := 77) rfl)) (hw _ (List.mem_of_getElem? (i := 4) rfl)) (by decide) (by decide)) q365a q365c (g := (mkF m 101 #[.val (.int p0), .val (.int p1), .val (.int p2), .val (.int p3), .val (.int p4), .val (.int (3 : Int32)), .val (.int (Int32.ofNat (kn))), .val (.ref b101), .val (.ref b106), .val (.ref b109), .val (.int (1 : Int32)), .unset] [(.int (Int32.ofNat q0)), (.ref b109), (.ref b106)])) rfl (by rw [hml]; rfl) (Steps.refl _) (argsL := [(.ref b109), (.int (Int32.ofNat q0))]) (rest := []) (lenOf pd_9 rfl) rfl (by show 2 * 0 + _ ≤ _; exact Nat.le_of_eq rfl) (hb hby at_101) (fun _ _ => ⟨rfl, e109, (by decide : 6 + 1 ≤ _), (by decide : 12298 + 0 ≤ _)⟩)
    dsimp only [Pt.U, Pt.locs, Pt.cells, Pt.slots] at X365 l365 y365 z365 st365 hQ365
    subst l365 y365 z365
    obtain ⟨rfl, N365, K365, TR365⟩ := hQ365
    have Nf365 := Fr.app Nf108 N365
    have O365 := O109.keep K365 (allS ge_b106 (allS ge_bs108 (allS ge_bk108 all0)))
    have KK365 := K109.trans K365 (allS (Or.inr gk_b106) (allS (Or.inr gk_bs108) (allS (Or.inr gk_bk108) all0)))
    obtain ⟨⟨Etx365, Fwx365, Fbx365, Fux365, Fsx365, Fkx365, Fzx365⟩, ⟨Vbx365, Vsx365, Vkx365⟩, nq1x365, nq2x365, nq3x365, nq4x365, nq5x365, nq6x365⟩ := (show own_TR Z T365.heap b106 bb108 bs108 bk108 ka108 kb108 kc108 [q0] from TR365)
    refine own_go (S' := (T365.setTop (mkF m 125 #[.val (.int p0), .val (.int p1), .val (.int p2), .val (.int p3), .val (.int p4), .val (.int (3 : Int32)), .val (.int (Int32.ofNat (kn))), .val (.ref b101), .val (.ref b106), .val (.ref b109), .val (.int (1 : Int32)), .unset] []))) (fun tq kq => st365.trans (XS.ifNo X365.here hx rfl (hb hby at_104) rfl ((if0 _ _).trans (feq (by decide : ¬ ((1 : Int32) = (0 : Int32)))).1) (XS.iload X365.here hx rfl (hb hby at_107) rfl (XS.ifNo X365.here hx rfl (hb hby at_109) rfl ((if0 _ _).trans (feq (by decide : ¬ ((1 : Int32) = (0 : Int32)))).1) (XS.iconst X365.here hx rfl (hb hby at_112) (XS.goto X365.here hx rfl (pc0 := 113) (pc' := 117) rfl (hb hby at_113) (by decide) (by decide) (XS.istore X365.here hx rfl (hb hby at_117) rfl (l' := #[.val (.int p0), .val (.int p1), .val (.int p2), .val (.int p3), .val (.int p4), .val (.int (3 : Int32)), .val (.int (Int32.ofNat (kn))), .val (.ref b101), .val (.ref b106), .val (.ref b109), .val (.int (1 : Int32)), .unset]) rfl (XS.iload X365.here hx rfl (hb hby at_119) rfl (XS.iconst X365.here hx rfl (hb hby at_121) (XS.icmpNo X365.here hx rfl (hb hby at_122) rfl (tlt (by decide : (1 : Int32) < (3 : Int32))).2.2.2 kq)))))))))) ?_
    refine own_go (S' := (T365.setTop (mkF m 132 #[.val (.int p0), .val (.int p1), .val (.int p2), .val (.int p3), .val (.int p4), .val (.int (3 : Int32)), .val (.int (Int32.ofNat (kn))), .val (.ref b101), .val (.ref b106), .val (.ref b109), .val (.int (1 : Int32)), .unset] [(.int (1 : Int32)), (.ref b101), (.ref b109), (.ref b106)]))) (fun tq kq => XS.aload X365.here hx rfl (hb hby at_125) rfl rfl (XS.aload X365.here hx rfl (hb hby at_127) rfl rfl (XS.aload X365.here hx rfl (hb hby at_129) rfl rfl (XS.iconst X365.here hx rfl (hb hby at_131) kq)))) ?_
    have f366 := (f353.keep K365 (ninS ne_b101_b106 (ninS ne_b101_bs108 (ninS ne_b101_bk108 nin0))))
    obtain ⟨cl367, Ar367, -, -, hin367, hat367⟩ := f366.at (j := (1 : Int32)) (v := (.int (Int32.ofNat q1))) (by decide) rfl
    refine own_go (S' := (T365.setTop (mkF m 133 #[.val (.int p0), .val (.int p1), .val (.int p2), .val (.int p3), .val (.int p4), .val (.int (3 : Int32)), .val (.int (Int32.ofNat (kn))), .val (.ref b101), .val (.ref b106), .val (.ref b109), .val (.int (1 : Int32)), .unset] [(.int (Int32.ofNat q1)), (.ref b109), (.ref b106)]))) (fun tq kq => X365.iaload hx (j := (1 : Int32)) (v := (.int (Int32.ofNat q1))) Ar367.1 (State.isArrayOf_alike hZ.alike Ar367.2.1) Ar367.2.2 hin367 hat367 (g := (mkF m 132 #[.val (.int p0), .val (.int p1), .val (.int p2), .val (.int p3), .val (.int p4), .val (.int (3 : Int32)), .val (.int (Int32.ofNat (kn))), .val (.ref b101), .val (.ref b106), .val (.ref b109), .val (.int (1 : Int32)), .unset] [(.int (1 : Int32)), (.ref b101), (.ref b109), (.ref b106)])) rfl rfl (hb hby at_132) tq kq) ?_
    obtain ⟨cq368, kq368, q368a, q368b, q368c⟩ := isOf hZ rfl Etx365
    obtain ⟨_, _, ⟨T368, L368, k368, n368⟩, -, X368, ⟨Lc368, hQ368, l368, y368, z368⟩, st368⟩ := X365.virtualBack hx (y := (⟨"com/example/vestwright/vestwright/cli/TableRows", "add", "([Ljava/lang/String;I)Z"⟩ : MethodName)) (z := (⟨"com/example/vestwright/vestwright/cli/TableRows", "add", "([Ljava/lang/String;I)Z"⟩ : MethodName)) hown (mvT hZ (hw _ (List.mem_of_getElem? (i := 73) rfl))) (mvT hZ (hw _ (List.mem_of_getElem? (i := 74) rfl))) (notFace_of_selects (args := #[]) (mvT hZ (hw _ (List.mem_of_getElem? (i := 76) rfl)))) (mvT hZ (hw _ (List.mem_of_getElem? (i := 76) rfl))) (mvT hZ (hw _ (List.mem_of_getElem? (i := 75) rfl))) (by decide) (backOf (W := 0) (rm10 l Z a0 hw [] T365.heap n0 O365 b106 bb108 bs108 bk108 ka108 kb108 kc108 [q0] b109 q1 ⟨⟨Etx365, Fwx365, Fbx365, Fux365, Fsx365, Fkx365, Fzx365⟩, ⟨Vbx365, Vsx365, Vkx365⟩, nq1x365, nq2x365, nq3x365, nq4x365, nq5x365, nq6x365⟩ (by show 1 < 4; decide) ge_b106 ge_bs108 ge_bk108) hZ (hw _ (List.mem_of_getElem? (i := 77) rfl)) (hw _ (List.mem_of_getElem? (i := 4) rfl)) (by decide) (by decide)) q368a q368c (g := (mkF m 133 #[.val (.int p0), .val (.int p1), .val (.int p2), .val (.int p3), .val (.int p4), .val (.int (3 : Int32)), .val (.int (Int32.ofNat (kn))), .val (.ref b101), .val (.ref b106), .val (.ref b109), .val (.int (1 : Int32)), .unset] [(.int (Int32.ofNat q1)), (.ref b109), (.ref b106)])) rfl (by rw [hml]; rfl) (Steps.refl _) (argsL := [(.ref b109), (.int (Int32.ofNat q1))]) (rest := []) (lenOf pd_9 rfl) rfl (by show 2 * 0 + _ ≤ _; exact Nat.le_of_eq rfl) (hb hby at_133) (fun _ _ => ⟨rfl, rfl, (by decide : 7 + 1 ≤ _), (by decide : 12298 + 0 ≤ _)⟩)
    dsimp only [Pt.U, Pt.locs, Pt.cells, Pt.slots] at X368 l368 y368 z368 st368 hQ368
    subst l368 y368 z368
    obtain ⟨rfl, N368, K368, TR368⟩ := hQ368
    have Nf368 := Fr.app Nf365 N368
    have O368 := O365.keep K368 (allS ge_b106 (allS ge_bs108 (allS ge_bk108 all0)))
    have KK368 := KK365.trans K368 (allS (Or.inr gk_b106) (allS (Or.inr gk_bs108) (allS (Or.inr gk_bk108) all0)))
    obtain ⟨⟨Etx368, Fwx368, Fbx368, Fux368, Fsx368, Fkx368, Fzx368⟩, ⟨Vbx368, Vsx368, Vkx368⟩, nq1x368, nq2x368, nq3x368, nq4x368, nq5x368, nq6x368⟩ := (show own_TR Z T368.heap b106 bb108 bs108 bk108 ka108 kb108 kc108 [q0, q1] from TR368)
    refine own_go (S' := (T368.setTop (mkF m 157 #[.val (.int p0), .val (.int p1), .val (.int p2), .val (.int p3), .val (.int p4), .val (.int (3 : Int32)), .val (.int (Int32.ofNat (kn))), .val (.ref b101), .val (.ref b106), .val (.ref b109), .val (.int (1 : Int32)), .unset] []))) (fun tq kq => st368.trans (XS.ifNo X368.here hx rfl (hb hby at_136) rfl ((if0 _ _).trans (feq (by decide : ¬ ((1 : Int32) = (0 : Int32)))).1) (XS.iload X368.here hx rfl (hb hby at_139) rfl (XS.ifNo X368.here hx rfl (hb hby at_141) rfl ((if0 _ _).trans (feq (by decide : ¬ ((1 : Int32) = (0 : Int32)))).1) (XS.iconst X368.here hx rfl (hb hby at_144) (XS.goto X368.here hx rfl (pc0 := 145) (pc' := 149) rfl (hb hby at_145) (by decide) (by decide) (XS.istore X368.here hx rfl (hb hby at_149) rfl (l' := #[.val (.int p0), .val (.int p1), .val (.int p2), .val (.int p3), .val (.int p4), .val (.int (3 : Int32)), .val (.int (Int32.ofNat (kn))), .val (.ref b101), .val (.ref b106), .val (.ref b109), .val (.int (1 : Int32)), .unset]) rfl (XS.iload X368.here hx rfl (hb hby at_151) rfl (XS.iconst X368.here hx rfl (hb hby at_153) (XS.icmpNo X368.here hx rfl (hb hby at_154) rfl (tlt (by decide : (2 : Int32) < (3 : Int32))).2.2.2 kq)))))))))) ?_
    refine own_go (S' := (T368.setTop (mkF m 164 #[.val (.int p0), .val (.int p1), .val (.int p2), .val (.int p3), .val (.int p4), .val (.int (3 : Int32)), .val (.int (Int32.ofNat (kn))), .val (.ref b101), .val (.ref b106), .val (.ref b109), .val (.int (1 : Int32)), .unset] [(.int (2 : Int32)), (.ref b101), (.ref b109), (.ref b106)]))) (fun tq kq => XS.aload X368.here hx rfl (hb hby at_157) rfl rfl (XS.aload X368.here hx rfl (hb hby at_159) rfl rfl (XS.aload X368.here hx rfl (hb hby at_161) rfl rfl (XS.iconst X368.here hx rfl (hb hby at_163) kq)))) ?_
    have f369 := (f366.keep K368 (ninS ne_b101_b106 (ninS ne_b101_bs108 (ninS ne_b101_bk108 nin0))))
    obtain ⟨cl370, Ar370, -, -, hin370, hat370⟩ := f369.at (j := (2 : Int32)) (v := (.int (Int32.ofNat q2))) (by decide) rfl
    refine own_go (S' := (T368.setTop (mkF m 165 #[.val (.int p0), .val (.int p1), .val (.int p2), .val (.int p3), .val (.int p4), .val (.int (3 : Int32)), .val (.int (Int32.ofNat (kn))), .val (.ref b101), .val (.ref b106), .val (.ref b109), .val (.int (1 : Int32)), .unset] [(.int (Int32.ofNat q2)), (.ref b109), (.ref b106)]))) (fun tq kq => X368.iaload hx (j := (2 : Int32)) (v := (.int (Int32.ofNat q2))) Ar370.1 (State.isArrayOf_alike hZ.alike Ar370.2.1) Ar370.2.2 hin370 hat370 (g := (mkF m 164 #[.val (.int p0), .val (.int p1), .val (.int p2), .val (.int p3), .val (.int p4), .val (.int (3 : Int32)), .val (.int (Int32.ofNat (kn))), .val (.ref b101), .val (.ref b106), .val (.ref b109), .val (.int (1 : Int32)), .unset] [(.int (2 : Int32)), (.ref b101), (.ref b109), (.ref b106)])) rfl rfl (hb hby at_164) tq kq) ?_
    obtain ⟨cq371, kq371, q371a, q371b, q371c⟩ := isOf hZ rfl Etx368
    obtain ⟨_, _, ⟨T371, L371, k371, n371⟩, -, X371, ⟨Lc371, hQ371, l371, y371, z371⟩, st371⟩ := X368.virtualBack hx (y := (⟨"com/example/vestwright/vestwright/cli/TableRows", "add", "([Ljava/lang/String;I)Z"⟩ : MethodName)) (z := (⟨"com/example/vestwright/vestwright/cli/TableRows", "add", "([Ljava/lang/String;I)Z"⟩ : MethodName)) hown (mvT hZ (hw _ (List.mem_of_getElem? (i := 73) rfl))) (mvT hZ (hw _ (List.mem_of_getElem? (i := 74) rfl))) (notFace_of_selects (args := #[]) (mvT hZ (hw _ (List.mem_of_getElem? (i := 76) rfl)))) (mvT hZ (hw _ (List.mem_of_getElem? (i := 76) rfl))) (mvT hZ (hw _ (List.mem_of_getElem? (i := 75) rfl))) (by decide) (backOf (W := 0) (rm10 l Z a0 hw [] T368.heap n0 O368 b106 bb108 bs108 bk108 ka108 kb108 kc108 [q0, q1] b109 q2 ⟨⟨Etx368, Fwx368, Fbx368, Fux368, Fsx368, Fkx368, Fzx368⟩, ⟨Vbx368, Vsx368, Vkx368⟩, nq1x368, nq2x368, nq3x368, nq4x368, nq5x368, nq6x368⟩ (by show 2 < 4; decide) ge_b106 ge_bs108 ge_bk108) hZ (hw _ (List.mem_of_getElem? (i := 77) rfl)) (hw _ (List.mem_of_getElem? (i := 4) rfl)) (by decide) (by decide)) q371a q371c (g := (mkF m 165 #[.val (.int p0), .val (.int p1), .val (.int p2), .val (.int p3), .val (.int p4), .val (.int (3 : Int32)), .val (.int (Int32.ofNat (kn))), .val (.ref b101), .val (.ref b106), .val (.ref b109), .val (.int (1 : Int32)), .unset] [(.int (Int32.ofNat q2)), (.ref b109), (.ref b106)])) rfl (by rw [hml]; rfl) (Steps.refl _) (argsL := [(.ref b109), (.int (Int32.ofNat q2))]) (rest := []) (lenOf pd_9 rfl) rfl (by show 2 * 0 + _ ≤ _; exact Nat.le_of_eq rfl) (hb hby at_165) (fun _ _ => ⟨rfl, rfl, (by decide : 8 + 1 ≤ _), (by decide : 12298 + 0 ≤ _)⟩)
    dsimp only [Pt.U, Pt.locs, Pt.cells, Pt.slots] at X371 l371 y371 z371 st371 hQ371
    subst l371 y371 z371
    obtain ⟨rfl, N371, K371, TR371⟩ := hQ371
    have Nf371 := Fr.app Nf368 N371
    have O371 := O368.keep K371 (allS ge_b106 (allS ge_bs108 (allS ge_bk108 all0)))
    have KK371 := KK368.trans K371 (allS (Or.inr gk_b106) (allS (Or.inr gk_bs108) (allS (Or.inr gk_bk108) all0)))
    obtain ⟨⟨Etx371, Fwx371, Fbx371, Fux371, Fsx371, Fkx371, Fzx371⟩, ⟨Vbx371, Vsx371, Vkx371⟩, nq1x371, nq2x371, nq3x371, nq4x371, nq5x371, nq6x371⟩ := (show own_TR Z T371.heap b106 bb108 bs108 bk108 ka108 kb108 kc108 [q0, q1, q2] from TR371)
    refine own_go (S' := (T371.setTop (mkF m 215 #[.val (.int p0), .val (.int p1), .val (.int p2), .val (.int p3), .val (.int p4), .val (.int (3 : Int32)), .val (.int (Int32.ofNat (kn))), .val (.ref b101), .val (.ref b106), .val (.ref b109), .val (.int (1 : Int32)), .unset] []))) (fun tq kq => st371.trans (XS.ifNo X371.here hx rfl (hb hby at_168) rfl ((if0 _ _).trans (feq (by decide : ¬ ((1 : Int32) = (0 : Int32)))).1) (XS.iload X371.here hx rfl (hb hby at_171) rfl (XS.ifNo X371.here hx rfl (hb hby at_173) rfl ((if0 _ _).trans (feq (by decide : ¬ ((1 : Int32) = (0 : Int32)))).1) (XS.iconst X371.here hx rfl (hb hby at_176) (XS.goto X371.here hx rfl (pc0 := 177) (pc' := 181) rfl (hb hby at_177) (by decide) (by decide) (XS.istore X371.here hx rfl (hb hby at_181) rfl (l' := #[.val (.int p0), .val (.int p1), .val (.int p2), .val (.int p3), .val (.int p4), .val (.int (3 : Int32)), .val (.int (Int32.ofNat (kn))), .val (.ref b101), .val (.ref b106), .val (.ref b109), .val (.int (1 : Int32)), .unset]) rfl (XS.iload X371.here hx rfl (hb hby at_183) rfl (XS.iconst X371.here hx rfl (hb hby at_185) (XS.icmpYes X371.here hx rfl (pc0 := 186) (pc' := 215) rfl (hb hby at_186) rfl (flt (by decide : ¬ ((3 : Int32) < (3 : Int32)))).2.2.2 (by decide) (by decide) kq)))))))))) ?_
    refine own_go (S' := (T371.setTop (mkF m 219 #[.val (.int p0), .val (.int p1), .val (.int p2), .val (.int p3), .val (.int p4), .val (.int (3 : Int32)), .val (.int (Int32.ofNat (kn))), .val (.ref b101), .val (.ref b106), .val (.ref b109), .val (.int (1 : Int32)), .unset] [(.int (Int32.ofNat (kn))), (.ref b106)]))) (fun tq kq => XS.aload X371.here hx rfl (hb hby at_215) rfl rfl (XS.iload X371.here hx rfl (hb hby at_217) rfl kq)) ?_
    have f372 := (f369.keep K371 (ninS ne_b101_b106 (ninS ne_b101_bs108 (ninS ne_b101_bk108 nin0))))
    have f373 := (((V109.keep K365 (ninS (Ne.symm ne_b106_b109) (ninS (Ne.symm ne_bs108_b109) (ninS (Ne.symm ne_bk108_b109) nin0)))).keep K368 (ninS (Ne.symm ne_b106_b109) (ninS (Ne.symm ne_bs108_b109) (ninS (Ne.symm ne_bk108_b109) nin0)))).keep K371 (ninS (Ne.symm ne_b106_b109) (ninS (Ne.symm ne_bs108_b109) (ninS (Ne.symm ne_bk108_b109) nin0))))
    have hks : ∀ x ∈ [q0, q1, q2], x < kn := by intro x hx_; simp only [List.mem_cons, List.not_mem_nil, or_false] at hx_; omega
    have hck := own_chks hk1 hk3 (by show 3 ≤ 4; decide) hks
    obtain ⟨cq374, kq374, q374a, q374b, q374c⟩ := isOf hZ rfl Etx371
    obtain ⟨_, _, ⟨T374, L374, k374, n374⟩, -, X374, ⟨Lc374, hQ374, l374, y374, z374⟩, st374⟩ := X371.virtualBack hx (y := (⟨"com/example/vestwright/vestwright/cli/TableRows", "byKey", "(I)Lcom/example/vestwright/vestwright/cli/TableRows$ByKey;"⟩ : MethodName)) (z := (⟨"com/example/vestwright/vestwright/cli/TableRows", "byKey", "(I)Lcom/example/vestwright/vestwright/cli/TableRows$ByKey;"⟩ : MethodName)) hown (mvT hZ (hw _ (List.mem_of_getElem? (i := 22) rfl))) (mvT hZ (hw _ (List.mem_of_getElem? (i := 23) rfl))) (notFace_of_selects (args := #[]) (mvT hZ (hw _ (List.mem_of_getElem? (i := 25) rfl)))) (mvT hZ (hw _ (List.mem_of_getElem? (i := 25) rfl))) (mvT hZ (hw _ (List.mem_of_getElem? (i := 24) rfl))) (by decide) (backOf (W := 0) (rm3 l Z a0 hw [] T371.heap n0 O371 b106 bb108 bs108 bk108 ka108 kb108 kc108 [q0, q1, q2] kn ⟨⟨Etx371, Fwx371, Fbx371, Fux371, Fsx371, Fkx371, Fzx371⟩, ⟨Vbx371, Vsx371, Vkx371⟩, nq1x371, nq2x371, nq3x371, nq4x371, nq5x371, nq6x371⟩ hk1 hk3 (by show 3 ≤ 4; decide) hks hck) hZ (hw _ (List.mem_of_getElem? (i := 26) rfl)) (hw _ (List.mem_of_getElem? (i := 4) rfl)) (by decide) (by decide)) q374a q374c (g := (mkF m 219 #[.val (.int p0), .val (.int p1), .val (.int p2), .val (.int p3), .val (.int p4), .val (.int (3 : Int32)), .val (.int (Int32.ofNat (kn))), .val (.ref b101), .val (.ref b106), .val (.ref b109), .val (.int (1 : Int32)), .unset] [(.int (Int32.ofNat (kn))), (.ref b106)])) rfl (by rw [hml]; rfl) (Steps.refl _) (argsL := [(.int (Int32.ofNat (kn)))]) (rest := []) (lenOf pd_6 rfl) rfl (by show 2 * 0 + _ ≤ _; exact Nat.le_of_eq rfl) (hb hby at_219) (fun _ _ => ⟨rfl, rfl, (by decide : 9 + 5 ≤ _), (by decide : 12298 + 20 ≤ _)⟩)
    dsimp only [Pt.U, Pt.locs, Pt.cells, Pt.slots] at X374 l374 y374 z374 st374 hQ374
    subst l374 y374 z374
    obtain ⟨gg374, ss374, rr374, kss374, krr374, rfl, N374, K374, gA374, gB374, gC374, Eg374, Fs374, Fr374, Vs374, Vr374, Er374⟩ := hQ374
    have Nf374 := Fr.app Nf371 N374
    have O374 := O371.keep K374 all0
    have KK374 := KK371.trans K374 all0
    have ne_b101_gg374 : b101 ≠ gg374 := Nat.ne_of_lt (Nat.lt_of_lt_of_le f372.lt gA374)
    have ne_b106_gg374 : b106 ≠ gg374 := Nat.ne_of_lt (Nat.lt_of_lt_of_le Etx371.lt gA374)
    have ne_b109_gg374 : b109 ≠ gg374 := Nat.ne_of_lt (Nat.lt_of_lt_of_le f373.lt gA374)
    have ne_bb108_gg374 : bb108 ≠ gg374 := Nat.ne_of_lt (Nat.lt_of_lt_of_le Vbx371.lt gA374)
    have ne_bk108_gg374 : bk108 ≠ gg374 := Nat.ne_of_lt (Nat.lt_of_lt_of_le Vkx371.lt gA374)
    have ne_bs108_gg374 : bs108 ≠ gg374 := Nat.ne_of_lt (Nat.lt_of_lt_of_le Vsx371.lt gA374)
    have ge_gg374 : n0 ≤ gg374 := Nat.le_trans (own_osz O371) gA374
    have gk_gg374 : h0.size ≤ gg374 := Nat.le_trans KK371.1 gA374
    have ne_b101_ss374 : b101 ≠ ss374 := Nat.ne_of_lt (Nat.lt_of_lt_of_le f372.lt gB374)
    have ne_b106_ss374 : b106 ≠ ss374 := Nat.ne_of_lt (Nat.lt_of_lt_of_le Etx371.lt gB374)
    have ne_b109_ss374 : b109 ≠ ss374 := Nat.ne_of_lt (Nat.lt_of_lt_of_le f373.lt gB374)
    have ne_bb108_ss374 : bb108 ≠ ss374 := Nat.ne_of_lt (Nat.lt_of_lt_of_le Vbx371.lt gB374)
    have ne_bk108_ss374 : bk108 ≠ ss374 := Nat.ne_of_lt (Nat.lt_of_lt_of_le Vkx371.lt gB374)
    have ne_bs108_ss374 : bs108 ≠ ss374 := Nat.ne_of_lt (Nat.lt_of_lt_of_le Vsx371.lt gB374)
    have ge_ss374 : n0 ≤ ss374 := Nat.le_trans (own_osz O371) gB374
    have gk_ss374 : h0.size ≤ ss374 := Nat.le_trans KK371.1 gB374
    have ne_b101_rr374 : b101 ≠ rr374 := Nat.ne_of_lt (Nat.lt_of_lt_of_le f372.lt gC374)
    have ne_b106_rr374 : b106 ≠ rr374 := Nat.ne_of_lt (Nat.lt_of_lt_of_le Etx371.lt gC374)
    have ne_b109_rr374 : b109 ≠ rr374 := Nat.ne_of_lt (Nat.lt_of_lt_of_le f373.lt gC374)
    have ne_bb108_rr374 : bb108 ≠ rr374 := Nat.ne_of_lt (Nat.lt_of_lt_of_le Vbx371.lt gC374)
    have ne_bk108_rr374 : bk108 ≠ rr374 := Nat.ne_of_lt (Nat.lt_of_lt_of_le Vkx371.lt gC374)
    have ne_bs108_rr374 : bs108 ≠ rr374 := Nat.ne_of_lt (Nat.lt_of_lt_of_le Vsx371.lt gC374)
    have ge_rr374 : n0 ≤ rr374 := Nat.le_trans (own_osz O371) gC374
    have gk_rr374 : h0.size ≤ rr374 := Nat.le_trans KK371.1 gC374
    refine own_go (S' := (T374.setTop (mkF m 232 #[.val (.int p0), .val (.int p1), .val (.int p2), .val (.int p3), .val (.int p4), .val (.int (3 : Int32)), .val (.int (Int32.ofNat (kn))), .val (.ref b101), .val (.ref b106), .val (.ref b109), .val (.int (1 : Int32)), .val (.ref gg374)] [(.int (0 : Int32)), (.ref gg374)]))) (fun tq kq => st374.trans (XS.astore X374.here hx rfl (hb hby at_222) rfl rfl (l' := #[.val (.int p0), .val (.int p1), .val (.int p2), .val (.int p3), .val (.int p4), .val (.int (3 : Int32)), .val (.int (Int32.ofNat (kn))), .val (.ref b101), .val (.ref b106), .val (.ref b109), .val (.int (1 : Int32)), .val (.ref gg374)]) rfl (XS.iload X374.here hx rfl (hb hby at_224) rfl (XS.ifNo X374.here hx rfl (hb hby at_226) rfl ((if0 _ _).trans (feq (by decide : ¬ ((1 : Int32) = (0 : Int32)))).1) (XS.aload X374.here hx rfl (hb hby at_229) rfl rfl (XS.iconst X374.here hx rfl (hb hby at_231) kq)))))) ?_
    have f375 := (f372.keep K374 nin0)
    have f376 := (Etx371.keep K374)
    have f377 := (f373.keep K374 nin0)
    have f378 := (Vbx371.keep K374 nin0)
    have f379 := (Vkx371.keep K374 nin0)
    have f380 := (Vsx371.keep K374 nin0)
    have hkk381 : 0 < kn := (by omega)
    obtain ⟨u1381, u2381, u3381⟩ := own_chk2 hck hkk381
    have v1381 := own_p2len kn [q0, q1, q2] kn
    have v2381 := (own_p3len kn [q0, q1, q2] ([q0, q1, q2]).length).2
    obtain ⟨cq382, kq382, q382a, q382b, q382c⟩ := isOf hZ rfl Eg374
    obtain ⟨_, _, ⟨T382, L382, k382, n382⟩, -, X382, ⟨Lc382, hQ382, l382, y382, z382⟩, st382⟩ := X374.virtualBack hx (y := (⟨"com/example/vestwright/vestwright/cli/TableRows$ByKey", "rows", "(I)[I"⟩ : MethodName)) (z := (⟨"com/example/vestwright/vestwright/cli/TableRows$ByKey", "rows", "(I)[I"⟩ : MethodName)) hown (mvT hZ (hw _ (List.mem_of_getElem? (i := 52) rfl))) (mvT hZ (hw _ (List.mem_of_getElem? (i := 53) rfl))) (notFace_of_selects (args := #[]) (mvT hZ (hw _ (List.mem_of_getElem? (i := 55) rfl)))) (mvT hZ (hw _ (List.mem_of_getElem? (i := 55) rfl))) (mvT hZ (hw _ (List.mem_of_getElem? (i := 54) rfl))) (by decide) (backOf (W := 0) (rm7 l Z a0 hw [] T374.heap n0 O374 gg374 0 ss374 rr374 kss374 krr374 (own_st kn [q0, q1, q2]) (own_rw kn [q0, q1, q2]) Fs374 Fr374 Vs374 Vr374 Er374 (by show 0 + 1 < (own_p2 kn [q0, q1, q2] kn).length; omega) (by show (own_p2 kn [q0, q1, q2] kn).length ≤ 4; omega) u1381 (by show _ ≤ (own_p3 kn [q0, q1, q2] ([q0, q1, q2]).length).2.length; rw [v2381]; exact u2381) (by show (own_p3 kn [q0, q1, q2] ([q0, q1, q2]).length).2.length ≤ 4; rw [v2381]; show 3 ≤ 4; decide)) hZ (hw _ (List.mem_of_getElem? (i := 56) rfl)) (hw _ (List.mem_of_getElem? (i := 43) rfl)) (by decide) (by decide)) q382a q382c (g := (mkF m 232 #[.val (.int p0), .val (.int p1), .val (.int p2), .val (.int p3), .val (.int p4), .val (.int (3 : Int32)), .val (.int (Int32.ofNat (kn))), .val (.ref b101), .val (.ref b106), .val (.ref b109), .val (.int (1 : Int32)), .val (.ref gg374)] [(.int (0 : Int32)), (.ref gg374)])) rfl (by rw [hml]; rfl) (Steps.refl _) (argsL := [(.int (0 : Int32))]) (rest := []) (lenOf pd_7 rfl) rfl (by show 2 * 0 + _ ≤ _; exact Nat.le_of_eq rfl) (hb hby at_232) (fun _ _ => ⟨rfl, rfl, (by decide : 14 + 1 ≤ _), (by decide : 12318 + 4 ≤ _)⟩)
    dsimp only [Pt.U, Pt.locs, Pt.cells, Pt.slots] at X382 l382 y382 z382 st382 hQ382
    subst l382 y382 z382
    obtain ⟨b382, kb382, rfl, N382, K382, gb382, V382⟩ := hQ382
    have Nf382 := Fr.app Nf374 N382
    have O382 := O374.keep K382 all0
    have KK382 := KK374.trans K382 all0
    have ne_b101_b382 : b101 ≠ b382 := Nat.ne_of_lt (Nat.lt_of_lt_of_le f375.lt gb382)
    have ne_b106_b382 : b106 ≠ b382 := Nat.ne_of_lt (Nat.lt_of_lt_of_le f376.lt gb382)
    have ne_b109_b382 : b109 ≠ b382 := Nat.ne_of_lt (Nat.lt_of_lt_of_le f377.lt gb382)
    have ne_bb108_b382 : bb108 ≠ b382 := Nat.ne_of_lt (Nat.lt_of_lt_of_le f378.lt gb382)
    have ne_bk108_b382 : bk108 ≠ b382 := Nat.ne_of_lt (Nat.lt_of_lt_of_le f379.lt gb382)
    have ne_bs108_b382 : bs108 ≠ b382 := Nat.ne_of_lt (Nat.lt_of_lt_of_le f380.lt gb382)
    have ne_gg374_b382 : gg374 ≠ b382 := Nat.ne_of_lt (Nat.lt_of_lt_of_le Eg374.lt gb382)
    have ne_rr374_b382 : rr374 ≠ b382 := Nat.ne_of_lt (Nat.lt_of_lt_of_le Vr374.lt gb382)
    have ne_ss374_b382 : ss374 ≠ b382 := Nat.ne_of_lt (Nat.lt_of_lt_of_le Vs374.lt gb382)
    have ge_b382 : n0 ≤ b382 := Nat.le_trans (own_osz O374) gb382
    have gk_b382 : h0.size ≤ b382 := Nat.le_trans KK374.1 gb382
    rw [u3381] at V382
    refine own_go (S' := (T382.setTop (mkF m 240 #[.val (.int p0), .val (.int p1), .val (.int p2), .val (.int p3), .val (.int p4), .val (.int (3 : Int32)), .val (.int (Int32.ofNat (kn))), .val (.ref b101), .val (.ref b106), .val (.ref b109), .val (.int (1 : Int32)), .val (.ref gg374)] [(.int (0 : Int32)), (.int (3 : Int32)), (.ref b101), (.ref b382)]))) (fun tq kq => st382.trans (XS.aload X382.here hx rfl (hb hby at_235) rfl rfl (XS.iload X382.here hx rfl (hb hby at_237) rfl (XS.iconst X382.here hx rfl (hb hby at_239) kq)))) ?_
    have f383 := (f375.keep K382 nin0)
    obtain ⟨_, _, ⟨T384, L384, k384, n384⟩, -, X384, ⟨Lc384, hQ384, l384, y384, z384⟩, st384⟩ := Jvm.LawKit.callS X382 hx (y := (⟨"com/example/vestwright/vestwright/cli/TableRowsByKeyPinLaw", "same", "([I[III)Z"⟩ : MethodName)) hown (mvT hZ (hw _ (List.mem_of_getElem? (i := 69) rfl))) (mvT hZ (hw _ (List.mem_of_getElem? (i := 70) rfl))) (mvT hZ (hw _ (List.mem_of_getElem? (i := 71) rfl))) (mvT hZ (hw _ (List.mem_of_getElem? (i := 72) rfl))) (by decide) (backOf (W := 0) (rm9_3 l Z a0 hw [] T382.heap n0 O382 b382 b101 0 kb382 k101 q0 q1 q2 q3 V382 f383 (by omega)) hZ (hw _ (List.mem_of_getElem? (i := 72) rfl)) (hw _ (List.mem_of_getElem? (i := 71) rfl)) (by decide) (by decide)) (g := (mkF m 240 #[.val (.int p0), .val (.int p1), .val (.int p2), .val (.int p3), .val (.int p4), .val (.int (3 : Int32)), .val (.int (Int32.ofNat (kn))), .val (.ref b101), .val (.ref b106), .val (.ref b109), .val (.int (1 : Int32)), .val (.ref gg374)] [(.int (0 : Int32)), (.int (3 : Int32)), (.ref b101), (.ref b382)])) rfl (by rw [hml]; rfl) (argsL := [(.ref b382), (.ref b101), (.int (3 : Int32)), (.int (0 : Int32))]) (rest := []) (lenOf pd_8 rfl) rfl (by show 2 * 0 + _ ≤ _; exact Nat.le_of_eq rfl) (hb hby at_240) (fun _ _ => ⟨rfl, rfl, (by decide : 15 + 1 ≤ _), (by decide : 12322 + 4 ≤ _)⟩)
    dsimp only [Pt.U, Pt.locs, Pt.cells, Pt.slots] at X384 l384 y384 z384 st384 hQ384
    subst l384 y384 z384
    obtain ⟨rfl, N384, K384⟩ := hQ384
    have Nf384 := Fr.app Nf382 N384
    have O384 := O382.keep K384 all0
    have KK384 := KK382.trans K384 all0
    refine own_go (S' := (T384.setTop (mkF m 256 #[.val (.int p0), .val (.int p1), .val (.int p2), .val (.int p3), .val (.int p4), .val (.int (3 : Int32)), .val (.int (Int32.ofNat (kn))), .val (.ref b101), .val (.ref b106), .val (.ref b109), .val (.int (1 : Int32)), .val (.ref gg374)] [(.int (1 : Int32)), (.int (Int32.ofNat (kn)))]))) (fun tq kq => st384 tq (XS.ifNo X384.here hx rfl (hb hby at_243) rfl ((if0 _ _).trans (feq (by decide : ¬ ((1 : Int32) = (0 : Int32)))).1) (XS.iconst X384.here hx rfl (hb hby at_246) (XS.goto X384.here hx rfl (pc0 := 247) (pc' := 251) rfl (hb hby at_247) (by decide) (by decide) (XS.istore X384.here hx rfl (hb hby at_251) rfl (l' := #[.val (.int p0), .val (.int p1), .val (.int p2), .val (.int p3), .val (.int p4), .val (.int (3 : Int32)), .val (.int (Int32.ofNat (kn))), .val (.ref b101), .val (.ref b106), .val (.ref b109), .val (.int (1 : Int32)), .val (.ref gg374)]) rfl (XS.iload X384.here hx rfl (hb hby at_253) rfl (XS.iconst X384.here hx rfl (hb hby at_255) kq))))))) ?_
    by_cases hc385 : (1 : Int32) < (Int32.ofNat (kn))
    · refine own_go (S' := (T384.setTop (mkF m 267 #[.val (.int p0), .val (.int p1), .val (.int p2), .val (.int p3), .val (.int p4), .val (.int (3 : Int32)), .val (.int (Int32.ofNat (kn))), .val (.ref b101), .val (.ref b106), .val (.ref b109), .val (.int (1 : Int32)), .val (.ref gg374)] [(.int (1 : Int32)), (.ref gg374)]))) (fun tq kq => XS.icmpNo X384.here hx rfl (hb hby at_256) rfl (tlt hc385).2.2.2 (XS.iload X384.here hx rfl (hb hby at_259) rfl (XS.ifNo X384.here hx rfl (hb hby at_261) rfl ((if0 _ _).trans (feq (by decide : ¬ ((1 : Int32) = (0 : Int32)))).1) (XS.aload X384.here hx rfl (hb hby at_264) rfl rfl (XS.iconst X384.here hx rfl (hb hby at_266) kq))))) ?_
      have f386 := (f383.keep K384 nin0)
      have f387 := ((f376.keep K382).keep K384)
      have f388 := ((f377.keep K382 nin0).keep K384 nin0)
      have f389 := (V382.keep K384 nin0)
      have f390 := ((f378.keep K382 nin0).keep K384 nin0)
      have f391 := ((f379.keep K382 nin0).keep K384 nin0)
      have f392 := ((f380.keep K382 nin0).keep K384 nin0)
      have f393 := ((Eg374.keep K382).keep K384)
      have f394 := ((Vr374.keep K382 nin0).keep K384 nin0)
      have f395 := ((Vs374.keep K382 nin0).keep K384 nin0)
      have hkk396 : 1 < kn := ((own_lt (by decide) (by omega) : Int32.ofNat 1 < Int32.ofNat kn ↔ _).mp hc385)
      obtain ⟨u1396, u2396, u3396⟩ := own_chk2 hck hkk396
      have v1396 := own_p2len kn [q0, q1, q2] kn
      have v2396 := (own_p3len kn [q0, q1, q2] ([q0, q1, q2]).length).2
      have f397 := ((Fs374.keep K382 nin0).keep K384 nin0)
      have f398 := ((Fr374.keep K382 nin0).keep K384 nin0)
      have f399 := ((Er374.keep K382).keep K384)
      obtain ⟨cq400, kq400, q400a, q400b, q400c⟩ := isOf hZ rfl f393
      obtain ⟨_, _, ⟨T400, L400, k400, n400⟩, -, X400, ⟨Lc400, hQ400, l400, y400, z400⟩, st400⟩ := X384.virtualBack hx (y := (⟨"com/example/vestwright/vestwright/cli/TableRows$ByKey", "rows", "(I)[I"⟩ : MethodName)) (z := (⟨"com/example/vestwright/vestwright/cli/TableRows$ByKey", "rows", "(I)[I"⟩ : MethodName)) hown (mvT hZ (hw _ (List.mem_of_getElem? (i := 52) rfl))) (mvT hZ (hw _ (List.mem_of_getElem? (i := 53) rfl))) (notFace_of_selects (args := #[]) (mvT hZ (hw _ (List.mem_of_getElem? (i := 55) rfl)))) (mvT hZ (hw _ (List.mem_of_getElem? (i := 55) rfl))) (mvT hZ (hw _ (List.mem_of_getElem? (i := 54) rfl))) (by decide) (backOf (W := 0) (rm7 l Z a0 hw [] T384.heap n0 O384 gg374 1 ss374 rr374 kss374 krr374 (own_st kn [q0, q1, q2]) (own_rw kn [q0, q1, q2]) f397 f398 f395 f394 f399 (by show 1 + 1 < (own_p2 kn [q0, q1, q2] kn).length; omega) (by show (own_p2 kn [q0, q1, q2] kn).length ≤ 4; omega) u1396 (by show _ ≤ (own_p3 kn [q0, q1, q2] ([q0, q1, q2]).length).2.length; rw [v2396]; exact u2396) (by show (own_p3 kn [q0, q1, q2] ([q0, q1, q2]).length).2.length ≤ 4; rw [v2396]; show 3 ≤ 4; decide)) hZ (hw _ (List.mem_of_getElem? (i := 56) rfl)) (hw _ (List.mem_of_getElem? (i := 43) rfl)) (by decide) (by decide)) q400a q400c (g := (mkF m 267 #[.val (.int p0), .val (.int p1), .val (.int p2), .val (.int p3), .val (.int p4), .val (.int (3 : Int32)), .val (.int (Int32.ofNat (kn))), .val (.ref b101), .val (.ref b106), .val (.ref b109), .val (.int (1 : Int32)), .val (.ref gg374)] [(.int (1 : Int32)), (.ref gg374)])) rfl (by rw [hml]; rfl) (Steps.refl _) (argsL := [(.int (1 : Int32))]) (rest := []) (lenOf pd_7 rfl) rfl (by show 2 * 0 + _ ≤ _; exact Nat.le_of_eq rfl) (hb hby at_267) (fun _ _ => ⟨rfl, rfl, (by decide : 16 + 1 ≤ _), (by decide : 12326 + 4 ≤ _)⟩)
      dsimp only [Pt.U, Pt.locs, Pt.cells, Pt.slots] at X400 l400 y400 z400 st400 hQ400
      subst l400 y400 z400
      obtain ⟨b400, kb400, rfl, N400, K400, gb400, V400⟩ := hQ400
      have Nf400 := Fr.app Nf384 N400
      have O400 := O384.keep K400 all0
      have KK400 := KK384.trans K400 all0
      have ne_b101_b400 : b101 ≠ b400 := Nat.ne_of_lt (Nat.lt_of_lt_of_le f386.lt gb400)
      have ne_b106_b400 : b106 ≠ b400 := Nat.ne_of_lt (Nat.lt_of_lt_of_le f387.lt gb400)
      have ne_b109_b400 : b109 ≠ b400 := Nat.ne_of_lt (Nat.lt_of_lt_of_le f388.lt gb400)
      have ne_b382_b400 : b382 ≠ b400 := Nat.ne_of_lt (Nat.lt_of_lt_of_le f389.lt gb400)
      have ne_bb108_b400 : bb108 ≠ b400 := Nat.ne_of_lt (Nat.lt_of_lt_of_le f390.lt gb400)
      have ne_bk108_b400 : bk108 ≠ b400 := Nat.ne_of_lt (Nat.lt_of_lt_of_le f391.lt gb400)
      have ne_bs108_b400 : bs108 ≠ b400 := Nat.ne_of_lt (Nat.lt_of_lt_of_le f392.lt gb400)
      have ne_gg374_b400 : gg374 ≠ b400 := Nat.ne_of_lt (Nat.lt_of_lt_of_le f393.lt gb400)
      have ne_rr374_b400 : rr374 ≠ b400 := Nat.ne_of_lt (Nat.lt_of_lt_of_le f394.lt gb400)
      have ne_ss374_b400 : ss374 ≠ b400 := Nat.ne_of_lt (Nat.lt_of_lt_of_le f395.lt gb400)
      have ge_b400 : n0 ≤ b400 := Nat.le_trans (own_osz O384) gb400
      have gk_b400 : h0.size ≤ b400 := Nat.le_trans KK384.1 gb400
      rw [u3396] at V400
      refine own_go (S' := (T400.setTop (mkF m 275 #[.val (.int p0), .val (.int p1), .val (.int p2), .val (.int p3), .val (.int p4), .val (.int (3 : Int32)), .val (.int (Int32.ofNat (kn))), .val (.ref b101), .val (.ref b106), .val (.ref b109), .val (.int (1 : Int32)), .val (.ref gg374)] [(.int (1 : Int32)), (.int (3 : Int32)), (.ref b101), (.ref b400)]))) (fun tq kq => st400.trans (XS.aload X400.here hx rfl (hb hby at_270) rfl rfl (XS.iload X400.here hx rfl (hb hby at_272) rfl (XS.iconst X400.here hx rfl (hb hby at_274) kq)))) ?_
      have f401 := (f386.keep K400 nin0)
      obtain ⟨_, _, ⟨T402, L402, k402, n402⟩, -, X402, ⟨Lc402, hQ402, l402, y402, z402⟩, st402⟩ := Jvm.LawKit.callS X400 hx (y := (⟨"com/example/vestwright/vestwright/cli/TableRowsByKeyPinLaw", "same", "([I[III)Z"⟩ : MethodName)) hown (mvT hZ (hw _ (List.mem_of_getElem? (i := 69) rfl))) (mvT hZ (hw _ (List.mem_of_getElem? (i := 70) rfl))) (mvT hZ (hw _ (List.mem_of_getElem? (i := 71) rfl))) (mvT hZ (hw _ (List.mem_of_getElem? (i := 72) rfl))) (by decide) (backOf (W := 0) (rm9_3 l Z a0 hw [] T400.heap n0 O400 b400 b101 1 kb400 k101 q0 q1 q2 q3 V400 f401 (by omega)) hZ (hw _ (List.mem_of_getElem? (i := 72) rfl)) (hw _ (List.mem_of_getElem? (i := 71) rfl)) (by decide) (by decide)) (g := (mkF m 275 #[.val (.int p0), .val (.int p1), .val (.int p2), .val (.int p3), .val (.int p4), .val (.int (3 : Int32)), .val (.int (Int32.ofNat (kn))), .val (.ref b101), .val (.ref b106), .val (.ref b109), .val (.int (1 : Int32)), .val (.ref gg374)] [(.int (1 : Int32)), (.int (3 : Int32)), (.ref b101), (.ref b400)])) rfl (by rw [hml]; rfl) (argsL := [(.ref b400), (.ref b101), (.int (3 : Int32)), (.int (1 : Int32))]) (rest := []) (lenOf pd_8 rfl) rfl (by show 2 * 0 + _ ≤ _; exact Nat.le_of_eq rfl) (hb hby at_275) (fun _ _ => ⟨rfl, rfl, (by decide : 17 + 1 ≤ _), (by decide : 12330 + 4 ≤ _)⟩)
      dsimp only [Pt.U, Pt.locs, Pt.cells, Pt.slots] at X402 l402 y402 z402 st402 hQ402
      subst l402 y402 z402
      obtain ⟨rfl, N402, K402⟩ := hQ402
      have Nf402 := Fr.app Nf400 N402
      have O402 := O400.keep K402 all0
      have KK402 := KK400.trans K402 all0
      refine own_go (S' := (T402.setTop (mkF m 291 #[.val (.int p0), .val (.int p1), .val (.int p2), .val (.int p3), .val (.int p4), .val (.int (3 : Int32)), .val (.int (Int32.ofNat (kn))), .val (.ref b101), .val (.ref b106), .val (.ref b109), .val (.int (1 : Int32)), .val (.ref gg374)] [(.int (2 : Int32)), (.int (Int32.ofNat (kn)))]))) (fun tq kq => st402 tq (XS.ifNo X402.here hx rfl (hb hby at_278) rfl ((if0 _ _).trans (feq (by decide : ¬ ((1 : Int32) = (0 : Int32)))).1) (XS.iconst X402.here hx rfl (hb hby at_281) (XS.goto X402.here hx rfl (pc0 := 282) (pc' := 286) rfl (hb hby at_282) (by decide) (by decide) (XS.istore X402.here hx rfl (hb hby at_286) rfl (l' := #[.val (.int p0), .val (.int p1), .val (.int p2), .val (.int p3), .val (.int p4), .val (.int (3 : Int32)), .val (.int (Int32.ofNat (kn))), .val (.ref b101), .val (.ref b106), .val (.ref b109), .val (.int (1 : Int32)), .val (.ref gg374)]) rfl (XS.iload X402.here hx rfl (hb hby at_288) rfl (XS.iconst X402.here hx rfl (hb hby at_290) kq))))))) ?_
      by_cases hc403 : (2 : Int32) < (Int32.ofNat (kn))
      · refine own_go (S' := (T402.setTop (mkF m 302 #[.val (.int p0), .val (.int p1), .val (.int p2), .val (.int p3), .val (.int p4), .val (.int (3 : Int32)), .val (.int (Int32.ofNat (kn))), .val (.ref b101), .val (.ref b106), .val (.ref b109), .val (.int (1 : Int32)), .val (.ref gg374)] [(.int (2 : Int32)), (.ref gg374)]))) (fun tq kq => XS.icmpNo X402.here hx rfl (hb hby at_291) rfl (tlt hc403).2.2.2 (XS.iload X402.here hx rfl (hb hby at_294) rfl (XS.ifNo X402.here hx rfl (hb hby at_296) rfl ((if0 _ _).trans (feq (by decide : ¬ ((1 : Int32) = (0 : Int32)))).1) (XS.aload X402.here hx rfl (hb hby at_299) rfl rfl (XS.iconst X402.here hx rfl (hb hby at_301) kq))))) ?_
        have f404 := (f401.keep K402 nin0)
        have f405 := ((f387.keep K400).keep K402)
        have f406 := ((f388.keep K400 nin0).keep K402 nin0)
        have f407 := ((f389.keep K400 nin0).keep K402 nin0)
        have f408 := (V400.keep K402 nin0)
        have f409 := ((f390.keep K400 nin0).keep K402 nin0)
        have f410 := ((f391.keep K400 nin0).keep K402 nin0)
        have f411 := ((f392.keep K400 nin0).keep K402 nin0)
        have f412 := ((f393.keep K400).keep K402)
        have f413 := ((f394.keep K400 nin0).keep K402 nin0)
        have f414 := ((f395.keep K400 nin0).keep K402 nin0)
        have hkk415 : 2 < kn := ((own_lt (by decide) (by omega) : Int32.ofNat 2 < Int32.ofNat kn ↔ _).mp hc403)
        obtain ⟨u1415, u2415, u3415⟩ := own_chk2 hck hkk415
        have v1415 := own_p2len kn [q0, q1, q2] kn
        have v2415 := (own_p3len kn [q0, q1, q2] ([q0, q1, q2]).length).2
        have f416 := ((f397.keep K400 nin0).keep K402 nin0)
        have f417 := ((f398.keep K400 nin0).keep K402 nin0)
        have f418 := ((f399.keep K400).keep K402)
        obtain ⟨cq419, kq419, q419a, q419b, q419c⟩ := isOf hZ rfl f412
        obtain ⟨_, _, ⟨T419, L419, k419, n419⟩, -, X419, ⟨Lc419, hQ419, l419, y419, z419⟩, st419⟩ := X402.virtualBack hx (y := (⟨"com/example/vestwright/vestwright/cli/TableRows$ByKey", "rows", "(I)[I"⟩ : MethodName)) (z := (⟨"com/example/vestwright/vestwright/cli/TableRows$ByKey", "rows", "(I)[I"⟩ : MethodName)) hown (mvT hZ (hw _ (List.mem_of_getElem? (i := 52) rfl))) (mvT hZ (hw _ (List.mem_of_getElem? (i := 53) rfl))) (notFace_of_selects (args := #[]) (mvT hZ (hw _ (List.mem_of_getElem? (i := 55) rfl)))) (mvT hZ (hw _ (List.mem_of_getElem? (i := 55) rfl))) (mvT hZ (hw _ (List.mem_of_getElem? (i := 54) rfl))) (by decide) (backOf (W := 0) (rm7 l Z a0 hw [] T402.heap n0 O402 gg374 2 ss374 rr374 kss374 krr374 (own_st kn [q0, q1, q2]) (own_rw kn [q0, q1, q2]) f416 f417 f414 f413 f418 (by show 2 + 1 < (own_p2 kn [q0, q1, q2] kn).length; omega) (by show (own_p2 kn [q0, q1, q2] kn).length ≤ 4; omega) u1415 (by show _ ≤ (own_p3 kn [q0, q1, q2] ([q0, q1, q2]).length).2.length; rw [v2415]; exact u2415) (by show (own_p3 kn [q0, q1, q2] ([q0, q1, q2]).length).2.length ≤ 4; rw [v2415]; show 3 ≤ 4; decide)) hZ (hw _ (List.mem_of_getElem? (i := 56) rfl)) (hw _ (List.mem_of_getElem? (i := 43) rfl)) (by decide) (by decide)) q419a q419c (g := (mkF m 302 #[.val (.int p0), .val (.int p1), .val (.int p2), .val (.int p3), .val (.int p4), .val (.int (3 : Int32)), .val (.int (Int32.ofNat (kn))), .val (.ref b101), .val (.ref b106), .val (.ref b109), .val (.int (1 : Int32)), .val (.ref gg374)] [(.int (2 : Int32)), (.ref gg374)])) rfl (by rw [hml]; rfl) (Steps.refl _) (argsL := [(.int (2 : Int32))]) (rest := []) (lenOf pd_7 rfl) rfl (by show 2 * 0 + _ ≤ _; exact Nat.le_of_eq rfl) (hb hby at_302) (fun _ _ => ⟨rfl, rfl, (by decide : 18 + 1 ≤ _), (by decide : 12334 + 4 ≤ _)⟩)
        dsimp only [Pt.U, Pt.locs, Pt.cells, Pt.slots] at X419 l419 y419 z419 st419 hQ419
        subst l419 y419 z419
        obtain ⟨b419, kb419, rfl, N419, K419, gb419, V419⟩ := hQ419
        have Nf419 := Fr.app Nf402 N419
        have O419 := O402.keep K419 all0
        have KK419 := KK402.trans K419 all0
        have ne_b101_b419 : b101 ≠ b419 := Nat.ne_of_lt (Nat.lt_of_lt_of_le f404.lt gb419)
        have ne_b106_b419 : b106 ≠ b419 := Nat.ne_of_lt (Nat.lt_of_lt_of_le f405.lt gb419)
        have ne_b109_b419 : b109 ≠ b419 := Nat.ne_of_lt (Nat.lt_of_lt_of_le f406.lt gb419)
        have ne_b382_b419 : b382 ≠ b419 := Nat.ne_of_lt (Nat.lt_of_lt_of_le f407.lt gb419)
        have ne_b400_b419 : b400 ≠ b419 := Nat.ne_of_lt (Nat.lt_of_lt_of_le f408.lt gb419)
        have ne_bb108_b419 : bb108 ≠ b419 := Nat.ne_of_lt (Nat.lt_of_lt_of_le f409.lt gb419)
        have ne_bk108_b419 : bk108 ≠ b419 := Nat.ne_of_lt (Nat.lt_of_lt_of_le f410.lt gb419)
        have ne_bs108_b419 : bs108 ≠ b419 := Nat.ne_of_lt (Nat.lt_of_lt_of_le f411.lt gb419)
        have ne_gg374_b419 : gg374 ≠ b419 := Nat.ne_of_lt (Nat.lt_of_lt_of_le f412.lt gb419)
        have ne_rr374_b419 : rr374 ≠ b419 := Nat.ne_of_lt (Nat.lt_of_lt_of_le f413.lt gb419)
        have ne_ss374_b419 : ss374 ≠ b419 := Nat.ne_of_lt (Nat.lt_of_lt_of_le f414.lt gb419)
        have ge_b419 : n0 ≤ b419 := Nat.le_trans (own_osz O402) gb419
        have gk_b419 : h0.size ≤ b419 := Nat.le_trans KK402.1 gb419
        rw [u3415] at V419
        refine own_go (S' := (T419.setTop (mkF m 310 #[.val (.int p0), .val (.int p1), .val (.int p2), .val (.int p3), .val (.int p4), .val (.int (3 : Int32)), .val (.int (Int32.ofNat (kn))), .val (.ref b101), .val (.ref b106), .val (.ref b109), .val (.int (1 : Int32)), .val (.ref gg374)] [(.int (2 : Int32)), (.int (3 : Int32)), (.ref b101), (.ref b419)]))) (fun tq kq => st419.trans (XS.aload X419.here hx rfl (hb hby at_305) rfl rfl (XS.iload X419.here hx rfl (hb hby at_307) rfl (XS.iconst X419.here hx rfl (hb hby at_309) kq)))) ?_
        have f420 := (f404.keep K419 nin0)
        obtain ⟨_, _, ⟨T421, L421, k421, n421⟩, -, X421, ⟨Lc421, hQ421, l421, y421, z421⟩, st421⟩ := Jvm.LawKit.callS X419 hx (y := (⟨"com/example/vestwright/vestwright/cli/TableRowsByKeyPinLaw", "same", "([I[III)Z"⟩ : MethodName)) hown (mvT hZ (hw _ (List.mem_of_getElem? (i := 69) rfl))) (mvT hZ (hw _ (List.mem_of_getElem? (i := 70) rfl))) (mvT hZ (hw _ (List.mem_of_getElem? (i := 71) rfl))) (mvT hZ (hw _ (List.mem_of_getElem? (i := 72) rfl))) (by decide) (backOf (W := 0) (rm9_3 l Z a0 hw [] T419.heap n0 O419 b419 b101 2 kb419 k101 q0 q1 q2 q3 V419 f420 (by omega)) hZ (hw _ (List.mem_of_getElem? (i := 72) rfl)) (hw _ (List.mem_of_getElem? (i := 71) rfl)) (by decide) (by decide)) (g := (mkF m 310 #[.val (.int p0), .val (.int p1), .val (.int p2), .val (.int p3), .val (.int p4), .val (.int (3 : Int32)), .val (.int (Int32.ofNat (kn))), .val (.ref b101), .val (.ref b106), .val (.ref b109), .val (.int (1 : Int32)), .val (.ref gg374)] [(.int (2 : Int32)), (.int (3 : Int32)), (.ref b101), (.ref b419)])) rfl (by rw [hml]; rfl) (argsL := [(.ref b419), (.ref b101), (.int (3 : Int32)), (.int (2 : Int32))]) (rest := []) (lenOf pd_8 rfl) rfl (by show 2 * 0 + _ ≤ _; exact Nat.le_of_eq rfl) (hb hby at_310) (fun _ _ => ⟨rfl, rfl, (by decide : 19 + 1 ≤ _), (by decide : 12338 + 4 ≤ _)⟩)
        dsimp only [Pt.U, Pt.locs, Pt.cells, Pt.slots] at X421 l421 y421 z421 st421 hQ421
        subst l421 y421 z421
        obtain ⟨rfl, N421, K421⟩ := hQ421
        have Nf421 := Fr.app Nf419 N421
        have O421 := O419.keep K421 all0
        have KK421 := KK419.trans K421 all0
        refine own_go (S' := (T421.setTop (mkF m 325 #[.val (.int p0), .val (.int p1), .val (.int p2), .val (.int p3), .val (.int p4), .val (.int (3 : Int32)), .val (.int (Int32.ofNat (kn))), .val (.ref b101), .val (.ref b106), .val (.ref b109), .val (.int (1 : Int32)), .val (.ref gg374)] [(.int (1 : Int32))]))) (fun tq kq => st421 tq (XS.ifNo X421.here hx rfl (hb hby at_313) rfl ((if0 _ _).trans (feq (by decide : ¬ ((1 : Int32) = (0 : Int32)))).1) (XS.iconst X421.here hx rfl (hb hby at_316) (XS.goto X421.here hx rfl (pc0 := 317) (pc' := 321) rfl (hb hby at_317) (by decide) (by decide) (XS.istore X421.here hx rfl (hb hby at_321) rfl (l' := #[.val (.int p0), .val (.int p1), .val (.int p2), .val (.int p3), .val (.int p4), .val (.int (3 : Int32)), .val (.int (Int32.ofNat (kn))), .val (.ref b101), .val (.ref b106), .val (.ref b109), .val (.int (1 : Int32)), .val (.ref gg374)]) rfl (XS.iload X421.here hx rfl (hb hby at_323) rfl kq)))))) ?_
        refine own_retN X421 hx hlk hret (by simp) (hb hby at_325) (by decide) (by decide) ?_
        exact ⟨rfl, Nf421⟩
      · refine own_go (S' := (T402.setTop (mkF m 325 #[.val (.int p0), .val (.int p1), .val (.int p2), .val (.int p3), .val (.int p4), .val (.int (3 : Int32)), .val (.int (Int32.ofNat (kn))), .val (.ref b101), .val (.ref b106), .val (.ref b109), .val (.int (1 : Int32)), .val (.ref gg374)] [(.int (1 : Int32))]))) (fun tq kq => XS.icmpYes X402.here hx rfl (pc0 := 291) (pc' := 323) rfl (hb hby at_291) rfl (flt hc403).2.2.2 (by decide) (by decide) (XS.iload X402.here hx rfl (hb hby at_323) rfl kq)) ?_
        refine own_retN X402 hx hlk hret (by simp) (hb hby at_325) (by decide) (by decide) ?_
        exact ⟨rfl, Nf402⟩
    · refine own_go (S' := (T384.setTop (mkF m 291 #[.val (.int p0), .val (.int p1), .val (.int p2), .val (.int p3), .val (.int p4), .val (.int (3 : Int32)), .val (.int (Int32.ofNat (kn))), .val (.ref b101), .val (.ref b106), .val (.ref b109), .val (.int (1 : Int32)), .val (.ref gg374)] [(.int (2 : Int32)), (.int (Int32.ofNat (kn)))]))) (fun tq kq => XS.icmpYes X384.here hx rfl (pc0 := 256) (pc' := 288) rfl (hb hby at_256) rfl (flt hc385).2.2.2 (by decide) (by decide) (XS.iload X384.here hx rfl (hb hby at_288) rfl (XS.iconst X384.here hx rfl (hb hby at_290) kq))) ?_
      by_cases hc422 : (2 : Int32) < (Int32.ofNat (kn))
      · refine own_go (S' := (T384.setTop (mkF m 302 #[.val (.int p0), .val (.int p1), .val (.int p2), .val (.int p3), .val (.int p4), .val (.int (3 : Int32)), .val (.int (Int32.ofNat (kn))), .val (.ref b101), .val (.ref b106), .val (.ref b109), .val (.int (1 : Int32)), .val (.ref gg374)] [(.int (2 : Int32)), (.ref gg374)]))) (fun tq kq => XS.icmpNo X384.here hx rfl (hb hby at_291) rfl (tlt hc422).2.2.2 (XS.iload X384.here hx rfl (hb hby at_294) rfl (XS.ifNo X384.here hx rfl (hb hby at_296) rfl ((if0 _ _).trans (feq (by decide : ¬ ((1 : Int32) = (0 : Int32)))).1) (XS.aload X384.here hx rfl (hb hby at_299) rfl rfl (XS.iconst X384.here hx rfl (hb hby at_301) kq))))) ?_
        have f423 := (f383.keep K384 nin0)
        have f424 := ((f376.keep K382).keep K384)
        have f425 := ((f377.keep K382 nin0).keep K384 nin0)
        have f426 := (V382.keep K384 nin0)
        have f427 := ((f378.keep K382 nin0).keep K384 nin0)
        have f428 := ((f379.keep K382 nin0).keep K384 nin0)
        have f429 := ((f380.keep K382 nin0).keep K384 nin0)
        have f430 := ((Eg374.keep K382).keep K384)
        have f431 := ((Vr374.keep K382 nin0).keep K384 nin0)
        have f432 := ((Vs374.keep K382 nin0).keep K384 nin0)
        have hkk433 : 2 < kn := ((own_lt (by decide) (by omega) : Int32.ofNat 2 < Int32.ofNat kn ↔ _).mp hc422)
        obtain ⟨u1433, u2433, u3433⟩ := own_chk2 hck hkk433
        have v1433 := own_p2len kn [q0, q1, q2] kn
        have v2433 := (own_p3len kn [q0, q1, q2] ([q0, q1, q2]).length).2
        have f434 := ((Fs374.keep K382 nin0).keep K384 nin0)
        have f435 := ((Fr374.keep K382 nin0).keep K384 nin0)
        have f436 := ((Er374.keep K382).keep K384)
        obtain ⟨cq437, kq437, q437a, q437b, q437c⟩ := isOf hZ rfl f430
        obtain ⟨_, _, ⟨T437, L437, k437, n437⟩, -, X437, ⟨Lc437, hQ437, l437, y437, z437⟩, st437⟩ := X384.virtualBack hx (y := (⟨"com/example/vestwright/vestwright/cli/TableRows$ByKey", "rows", "(I)[I"⟩ : MethodName)) (z := (⟨"com/example/vestwright/vestwright/cli/TableRows$ByKey", "rows", "(I)[I"⟩ : MethodName)) hown (mvT hZ (hw _ (List.mem_of_getElem? (i := 52) rfl))) (mvT hZ (hw _ (List.mem_of_getElem? (i := 53) rfl))) (notFace_of_selects (args := #[]) (mvT hZ (hw _ (List.mem_of_getElem? (i := 55) rfl)))) (mvT hZ (hw _ (List.mem_of_getElem? (i := 55) rfl))) (mvT hZ (hw _ (List.mem_of_getElem? (i := 54) rfl))) (by decide) (backOf (W := 0) (rm7 l Z a0 hw [] T384.heap n0 O384 gg374 2 ss374 rr374 kss374 krr374 (own_st kn [q0, q1, q2]) (own_rw kn [q0, q1, q2]) f434 f435 f432 f431 f436 (by show 2 + 1 < (own_p2 kn [q0, q1, q2] kn).length; omega) (by show (own_p2 kn [q0, q1, q2] kn).length ≤ 4; omega) u1433 (by show _ ≤ (own_p3 kn [q0, q1, q2] ([q0, q1, q2]).length).2.length; rw [v2433]; exact u2433) (by show (own_p3 kn [q0, q1, q2] ([q0, q1, q2]).length).2.length ≤ 4; rw [v2433]; show 3 ≤ 4; decide)) hZ (hw _ (List.mem_of_getElem? (i := 56) rfl)) (hw _ (List.mem_of_getElem? (i := 43) rfl)) (by decide) (by decide)) q437a q437c (g := (mkF m 302 #[.val (.int p0), .val (.int p1), .val (.int p2), .val (.int p3), .val (.int p4), .val (.int (3 : Int32)), .val (.int (Int32.ofNat (kn))), .val (.ref b101), .val (.ref b106), .val (.ref b109), .val (.int (1 : Int32)), .val (.ref gg374)] [(.int (2 : Int32)), (.ref gg374)])) rfl (by rw [hml]; rfl) (Steps.refl _) (argsL := [(.int (2 : Int32))]) (rest := []) (lenOf pd_7 rfl) rfl (by show 2 * 0 + _ ≤ _; exact Nat.le_of_eq rfl) (hb hby at_302) (fun _ _ => ⟨rfl, rfl, (by decide : 16 + 1 ≤ _), (by decide : 12326 + 4 ≤ _)⟩)
        dsimp only [Pt.U, Pt.locs, Pt.cells, Pt.slots] at X437 l437 y437 z437 st437 hQ437
        subst l437 y437 z437
        obtain ⟨b437, kb437, rfl, N437, K437, gb437, V437⟩ := hQ437
        have Nf437 := Fr.app Nf384 N437
        have O437 := O384.keep K437 all0
        have KK437 := KK384.trans K437 all0
        have ne_b101_b437 : b101 ≠ b437 := Nat.ne_of_lt (Nat.lt_of_lt_of_le f423.lt gb437)
        have ne_b106_b437 : b106 ≠ b437 := Nat.ne_of_lt (Nat.lt_of_lt_of_le f424.lt gb437)
        have ne_b109_b437 : b109 ≠ b437 := Nat.ne_of_lt (Nat.lt_of_lt_of_le f425.lt gb437)
        have ne_b382_b437 : b382 ≠ b437 := Nat.ne_of_lt (Nat.lt_of_lt_of_le f426.lt gb437)
        have ne_bb108_b437 : bb108 ≠ b437 := Nat.ne_of_lt (Nat.lt_of_lt_of_le f427.lt gb437)
        have ne_bk108_b437 : bk108 ≠ b437 := Nat.ne_of_lt (Nat.lt_of_lt_of_le f428.lt gb437)
        have ne_bs108_b437 : bs108 ≠ b437 := Nat.ne_of_lt (Nat.lt_of_lt_of_le f429.lt gb437)
        have ne_gg374_b437 : gg374 ≠ b437 := Nat.ne_of_lt (Nat.lt_of_lt_of_le f430.lt gb437)
        have ne_rr374_b437 : rr374 ≠ b437 := Nat.ne_of_lt (Nat.lt_of_lt_of_le f431.lt gb437)
        have ne_ss374_b437 : ss374 ≠ b437 := Nat.ne_of_lt (Nat.lt_of_lt_of_le f432.lt gb437)
        have ge_b437 : n0 ≤ b437 := Nat.le_trans (own_osz O384) gb437
        have gk_b437 : h0.size ≤ b437 := Nat.le_trans KK384.1 gb437
        rw [u3433] at V437
        refine own_go (S' := (T437.setTop (mkF m 310 #[.val (.int p0), .val (.int p1), .val (.int p2), .val (.int p3), .val (.int p4), .val (.int (3 : Int32)), .val (.int (Int32.ofNat (kn))), .val (.ref b101), .val (.ref b106), .val (.ref b109), .val (.int (1 : Int32)), .val (.ref gg374)] [(.int (2 : Int32)), (.int (3 : Int32)), (.ref b101), (.ref b437)]))) (fun tq kq => st437.trans (XS.aload X437.here hx rfl (hb hby at_305) rfl rfl (XS.iload X437.here hx rfl (hb hby at_307) rfl (XS.iconst X437.here hx rfl (hb hby at_309) kq)))) ?_
        have f438 := (f423.keep K437 nin0)
        obtain ⟨_, _, ⟨T439, L439, k439, n439⟩, -, X439, ⟨Lc439, hQ439, l439, y439, z439⟩, st439⟩ := Jvm.LawKit.callS X437 hx (y := (⟨"com/example/vestwright/vestwright/cli/TableRowsByKeyPinLaw", "same", "([I[III)Z"⟩ : MethodName)) hown (mvT hZ (hw _ (List.mem_of_getElem? (i := 69) rfl))) (mvT hZ (hw _ (List.mem_of_getElem? (i := 70) rfl))) (mvT hZ (hw _ (List.mem_of_getElem? (i := 71) rfl))) (mvT hZ (hw _ (List.mem_of_getElem? (i := 72) rfl))) (by decide) (backOf (W := 0) (rm9_3 l Z a0 hw [] T437.heap n0 O437 b437 b101 2 kb437 k101 q0 q1 q2 q3 V437 f438 (by omega)) hZ (hw _ (List.mem_of_getElem? (i := 72) rfl)) (hw _ (List.mem_of_getElem? (i := 71) rfl)) (by decide) (by decide)) (g := (mkF m 310 #[.val (.int p0), .val (.int p1), .val (.int p2), .val (.int p3), .val (.int p4), .val (.int (3 : Int32)), .val (.int (Int32.ofNat (kn))), .val (.ref b101), .val (.ref b106), .val (.ref b109), .val (.int (1 : Int32)), .val (.ref gg374)] [(.int (2 : Int32)), (.int (3 : Int32)), (.ref b101), (.ref b437)])) rfl (by rw [hml]; rfl) (argsL := [(.ref b437), (.ref b101), (.int (3 : Int32)), (.int (2 : Int32))]) (rest := []) (lenOf pd_8 rfl) rfl (by show 2 * 0 + _ ≤ _; exact Nat.le_of_eq rfl) (hb hby at_310) (fun _ _ => ⟨rfl, rfl, (by decide : 17 + 1 ≤ _), (by decide : 12330 + 4 ≤ _)⟩)
        dsimp only [Pt.U, Pt.locs, Pt.cells, Pt.slots] at X439 l439 y439 z439 st439 hQ439
        subst l439 y439 z439
        obtain ⟨rfl, N439, K439⟩ := hQ439
        have Nf439 := Fr.app Nf437 N439
        have O439 := O437.keep K439 all0
        have KK439 := KK437.trans K439 all0
        refine own_go (S' := (T439.setTop (mkF m 325 #[.val (.int p0), .val (.int p1), .val (.int p2), .val (.int p3), .val (.int p4), .val (.int (3 : Int32)), .val (.int (Int32.ofNat (kn))), .val (.ref b101), .val (.ref b106), .val (.ref b109), .val (.int (1 : Int32)), .val (.ref gg374)] [(.int (1 : Int32))]))) (fun tq kq => st439 tq (XS.ifNo X439.here hx rfl (hb hby at_313) rfl ((if0 _ _).trans (feq (by decide : ¬ ((1 : Int32) = (0 : Int32)))).1) (XS.iconst X439.here hx rfl (hb hby at_316) (XS.goto X439.here hx rfl (pc0 := 317) (pc' := 321) rfl (hb hby at_317) (by decide) (by decide) (XS.istore X439.here hx rfl (hb hby at_321) rfl (l' := #[.val (.int p0), .val (.int p1), .val (.int p2), .val (.int p3), .val (.int p4), .val (.int (3 : Int32)), .val (.int (Int32.ofNat (kn))), .val (.ref b101), .val (.ref b106), .val (.ref b109), .val (.int (1 : Int32)), .val (.ref gg374)]) rfl (XS.iload X439.here hx rfl (hb hby at_323) rfl kq)))))) ?_
        refine own_retN X439 hx hlk hret (by simp) (hb hby at_325) (by decide) (by decide) ?_
        exact ⟨rfl, Nf439⟩
      · refine own_go (S' := (T384.setTop (mkF m 325 #[.val (.int p0), .val (.int p1), .val (.int p2), .val (.int p3), .val (.int p4), .val (.int (3 : Int32)), .val (.int (Int32.ofNat (kn))), .val (.ref b101), .val (.ref b106), .val (.ref b109), .val (.int (1 : Int32)), .val (.ref gg374)] [(.int (1 : Int32))]))) (fun tq kq => XS.icmpYes X384.here hx rfl (pc0 := 291) (pc' := 323) rfl (hb hby at_291) rfl (flt hc422).2.2.2 (by decide) (by decide) (XS.iload X384.here hx rfl (hb hby at_323) rfl kq)) ?_
        refine own_retN X384 hx hlk hret (by simp) (hb hby at_325) (by decide) (by decide) ?_
        exact ⟨rfl, Nf384⟩
  · rw [hn5]
    refine own_go (S' := (T109.setTop (mkF m 100 #[.val (.int p0), .val (.int p1), .val (.int p2), .val (.int p3), .val (.int p4), .val (.int (4 : Int32)), .val (.int (Int32.ofNat (kn))), .val (.ref b101), .val (.ref b106), .val (.ref b109), .val (.int (1 : Int32)), .unset] [(.int (0 : Int32)), (.ref b101), (.ref b109), (.ref b106)]))) (fun tq kq => XS.iload X109.here hx rfl (hb hby at_88) rfl (XS.ifNo X109.here hx rfl (hb hby at_90) rfl ((if0 _ _).trans (tlt (by decide : (0 : Int32) < (4 : Int32))).2.2.2) (XS.aload X109.here hx rfl (hb hby at_93) rfl rfl (XS.aload X109.here hx rfl (hb hby at_95) rfl rfl (XS.aload X109.here hx rfl (hb hby at_97) rfl rfl (XS.iconst X109.here hx rfl (hb hby at_99) kq)))))) ?_
    have f440 := (f110.ext E109)
    obtain ⟨cl441, Ar441, -, -, hin441, hat441⟩ := f440.at (j := (0 : Int32)) (v := (.int (Int32.ofNat q0))) (by decide) rfl
    refine own_go (S' := (T109.setTop (mkF m 101 #[.val (.int p0), .val (.int p1), .val (.int p2), .val (.int p3), .val (.int p4), .val (.int (4 : Int32)), .val (.int (Int32.ofNat (kn))), .val (.ref b101), .val (.ref b106), .val (.ref b109), .val (.int (1 : Int32)), .unset] [(.int (Int32.ofNat q0)), (.ref b109), (.ref b106)]))) (fun tq kq => X109.iaload hx (j := (0 : Int32)) (v := (.int (Int32.ofNat q0))) (by rw [e109]; exact Ar441.1) (State.isArrayOf_alike hZ.alike Ar441.2.1) Ar441.2.2 hin441 hat441 (g := (mkF m 100 #[.val (.int p0), .val (.int p1), .val (.int p2), .val (.int p3), .val (.int p4), .val (.int (4 : Int32)), .val (.int (Int32.ofNat (kn))), .val (.ref b101), .val (.ref b106), .val (.ref b109), .val (.int (1 : Int32)), .unset] [(.int (0 : Int32)), (.ref b101), (.ref b109), (.ref b106)])) rfl rfl (hb hby at_100) tq kq) ?_
    have f442 := (Et108.ext E109)
    have f443 := (Fw108.ext E109)
    have f444 := (Fb108.ext E109)
    have f445 := (Fu108.ext E109)
    have f446 := (Fs108.ext E109)
    have f447 := (Fk108.ext E109)
    have f448 := (Fz108.ext E109)
    have f449 := (Vb108.ext E109)
    have f450 := (Vs108.ext E109)
    have f451 := (Vk108.ext E109)
    obtain ⟨cq452, kq452, q452a, q452b, q452c⟩ := isOf hZ e109 f442
    obtain ⟨_, _, ⟨T452, L452, k452, n452⟩, -, X452, ⟨Lc452, hQ452, l452, y452, z452⟩, st452⟩ := X109.virtualBack hx (y := (⟨"com/example/vestwright/vestwright/cli/TableRows", "add", "([Ljava/lang/String;I)Z"⟩ : MethodName)) (z := (⟨"com/example/vestwright/vestwright/cli/TableRows", "add", "([Ljava/lang/String;I)Z"⟩ : MethodName)) hown (mvT hZ (hw _ (List.mem_of_getElem? (i := 73) rfl))) (mvT hZ (hw _ (List.mem_of_getElem? (i := 74) rfl))) (notFace_of_selects (args := #[]) (mvT hZ (hw _ (List.mem_of_getElem? (i := 76) rfl)))) (mvT hZ (hw _ (List.mem_of_getElem? (i := 76) rfl))) (mvT hZ (hw _ (List.mem_of_getElem? (i := 75) rfl))) (by decide) (backOf (W := 0) (rm10 l Z a0 hw [] h109 n0 O109 b106 bb108 bs108 bk108 ka108 kb108 kc108 ([] : List Nat) b109 q0 ⟨⟨f442, f443, f444, f445, f446, f447, f448⟩, ⟨f449, f450, f451⟩, nq1108, nq2108, nq3108, nq4108, nq5108, nq6108⟩ (by show 0 < 4; decide) ge_b106 ge_bs108 ge_bk108) hZ (hw _ (List.mem_of_getElem? (i := 77) rfl)) (hw _ (List.mem_of_getElem? (i := 4) rfl)) (by decide) (by decide)) q452a q452c (g := (mkF m 101 #[.val (.int p0), .val (.int p1), .val (.int p2), .val (.int p3), .val (.int p4), .val (.int (4 : Int32)), .val (.int (Int32.ofNat (kn))), .val (.ref b101), .val (.ref b106), .val (.ref b109), .val (.int (1 : Int32)), .unset] [(.int (Int32.ofNat q0)), (.ref b109), (.ref b106)])) rfl (by rw [hml]; rfl) (Steps.refl _) (argsL := [(.ref b109), (.int (Int32.ofNat q0))]) (rest := []) (lenOf pd_9 rfl) rfl (by show 2 * 0 + _ ≤ _; exact Nat.le_of_eq rfl) (hb hby at_101) (fun _ _ => ⟨rfl, e109, (by decide : 6 + 1 ≤ _), (by decide : 12298 + 0 ≤ _)⟩)
    dsimp only [Pt.U, Pt.locs, Pt.cells, Pt.slots] at X452 l452 y452 z452 st452 hQ452
    subst l452 y452 z452
    obtain ⟨rfl, N452, K452, TR452⟩ := hQ452
    have Nf452 := Fr.app Nf108 N452
    have O452 := O109.keep K452 (allS ge_b106 (allS ge_bs108 (allS ge_bk108 all0)))
    have KK452 := K109.trans K452 (allS (Or.inr gk_b106) (allS (Or.inr gk_bs108) (allS (Or.inr gk_bk108) all0)))
    obtain ⟨⟨Etx452, Fwx452, Fbx452, Fux452, Fsx452, Fkx452, Fzx452⟩, ⟨Vbx452, Vsx452, Vkx452⟩, nq1x452, nq2x452, nq3x452, nq4x452, nq5x452, nq6x452⟩ := (show own_TR Z T452.heap b106 bb108 bs108 bk108 ka108 kb108 kc108 [q0] from TR452)
    refine own_go (S' := (T452.setTop (mkF m 125 #[.val (.int p0), .val (.int p1), .val (.int p2), .val (.int p3), .val (.int p4), .val (.int (4 : Int32)), .val (.int (Int32.ofNat (kn))), .val (.ref b101), .val (.ref b106), .val (.ref b109), .val (.int (1 : Int32)), .unset] []))) (fun tq kq => st452.trans (XS.ifNo X452.here hx rfl (hb hby at_104) rfl ((if0 _ _).trans (feq (by decide : ¬ ((1 : Int32) = (0 : Int32)))).1) (XS.iload X452.here hx rfl (hb hby at_107) rfl (XS.ifNo X452.here hx rfl (hb hby at_109) rfl ((if0 _ _).trans (feq (by decide : ¬ ((1 : Int32) = (0 : Int32)))).1) (XS.iconst X452.here hx rfl (hb hby at_112) (XS.goto X452.here hx rfl (pc0 := 113) (pc' := 117) rfl (hb hby at_113) (by decide) (by decide) (XS.istore X452.here hx rfl (hb hby at_117) rfl (l' := #[.val (.int p0), .val (.int p1), .val (.int p2), .val (.int p3), .val (.int p4), .val (.int (4 : Int32)), .val (.int (Int32.ofNat (kn))), .val (.ref b101), .val (.ref b106), .val (.ref b109), .val (.int (1 : Int32)), .unset]) rfl (XS.iload X452.here hx rfl (hb hby at_119) rfl (XS.iconst X452.here hx rfl (hb hby at_121) (XS.icmpNo X452.here hx rfl (hb hby at_122) rfl (tlt (by decide : (1 : Int32) < (4 : Int32))).2.2.2 kq)))))))))) ?_
    refine own_go (S' := (T452.setTop (mkF m 132 #[.val (.int p0), .val (.int p1), .val (.int p2), .val (.int p3), .val (.int p4), .val (.int (4 : Int32)), .val (.int (Int32.ofNat (kn))), .val (.ref b101), .val (.ref b106), .val (.ref b109), .val (.int (1 : Int32)), .unset] [(.int (1 : Int32)), (.ref b101), (.ref b109), (.ref b106)]))) (fun tq kq => XS.aload X452.here hx rfl (hb hby at_125) rfl rfl (XS.aload X452.here hx rfl (hb hby at_127) rfl rfl (XS.aload X452.here hx rfl (hb hby at_129) rfl rfl (XS.iconst X452.here hx rfl (hb hby at_131) kq)))) ?_
    have f453 := (f440.keep K452 (ninS ne_b101_b106 (ninS ne_b101_bs108 (ninS ne_b101_bk108 nin0))))
    obtain ⟨cl454, Ar454, -, -, hin454, hat454⟩ := f453.at (j := (1 : Int32)) (v := (.int (Int32.ofNat q1))) (by decide) rfl
    refine own_go (S' := (T452.setTop (mkF m 133 #[.val (.int p0), .val (.int p1), .val (.int p2), .val (.int p3), .val (.int p4), .val (.int (4 : Int32)), .val (.int (Int32.ofNat (kn))), .val (.ref b101), .val (.ref b106), .val (.ref b109), .val (.int (1 : Int32)), .unset] [(.int (Int32.ofNat q1)), (.ref b109), (.ref b106)]))) (fun tq kq => X452.iaload hx (j := (1 : Int32)) (v := (.int (Int32.ofNat q1))) Ar454.1 (State.isArrayOf_alike hZ.alike Ar454.2.1) Ar454.2.2 hin454 hat454 (g := (mkF m 132 #[.val (.int p0), .val (.int p1), .val (.int p2), .val (.int p3), .val (.int p4), .val (.int (4 : Int32)), .val (.int (Int32.ofNat (kn))), .val (.ref b101), .val (.ref b106), .val (.ref b109), .val (.int (1 : Int32)), .unset] [(.int (1 : Int32)), (.ref b101), (.ref b109), (.ref b106)])) rfl rfl (hb hby at_132) tq kq) ?_
    obtain ⟨cq455, kq455, q455a, q455b, q455c⟩ := isOf hZ rfl Etx452
    obtain ⟨_, _, ⟨T455, L455, k455, n455⟩, -, X455, ⟨Lc455, hQ455, l455, y455, z455⟩, st455⟩ := X452.virtualBack hx (y := (⟨"com/example/vestwright/vestwright/cli/TableRows", "add", "([Ljava/lang/String;I)Z"⟩ : MethodName)) (z := (⟨"com/example/vestwright/vestwright/cli/TableRows", "add", "([Ljava/lang/String;I)Z"⟩ : MethodName)) hown (mvT hZ (hw _ (List.mem_of_getElem? (i := 73) rfl))) (mvT hZ (hw _ (List.mem_of_getElem? (i := 74) rfl))) (notFace_of_selects (args := #[]) (mvT hZ (hw _ (List.mem_of_getElem? (i := 76) rfl)))) (mvT hZ (hw _ (List.mem_of_getElem? (i := 76) rfl))) (mvT hZ (hw _ (List.mem_of_getElem? (i := 75) rfl))) (by decide) (backOf (W := 0) (rm10 l Z a0 hw [] T452.heap n0 O452 b106 bb108 bs108 bk108 ka108 kb108 kc108 [q0] b109 q1 ⟨⟨Etx452, Fwx452, Fbx452, Fux452, Fsx452, Fkx452, Fzx452⟩, ⟨Vbx452, Vsx452, Vkx452⟩, nq1x452, nq2x452, nq3x452, nq4x452, nq5x452, nq6x452⟩ (by show 1 < 4; decide) ge_b106 ge_bs108 ge_bk108) hZ (hw _ (List.mem_of_getElem? (i := 77) rfl)) (hw _ (List.mem_of_getElem? (i := 4) rfl)) (by decide) (by decide)) q455a q455c (g := (mkF m 133 #[.val (.int p0), .val (.int p1), .val (.int p2), .val (.int p3), .val (.int p4), .val (.int (4 : Int32)), .val (.int (Int32.ofNat (kn))), .val (.ref b101), .val (.ref b106), .val (.ref b109), .val (.int (1 : Int32)), .unset] [(.int (Int32.ofNat q1)), (.ref b109), (.ref b106)])) rfl (by rw [hml]; rfl) (Steps.refl _) (argsL := [(.ref b109), (.int (Int32.ofNat q1))]) (rest := []) (lenOf pd_9 rfl) rfl (by show 2 * 0 + _ ≤ _; exact Nat.le_of_eq rfl) (hb hby at_133) (fun _ _ => ⟨rfl, rfl, (by decide : 7 + 1 ≤ _), (by decide : 12298 + 0 ≤ _)⟩)
    dsimp only [Pt.U, Pt.locs, Pt.cells, Pt.slots] at X455 l455 y455 z455 st455 hQ455
    subst l455 y455 z455
    obtain ⟨rfl, N455, K455, TR455⟩ := hQ455
    have Nf455 := Fr.app Nf452 N455
    have O455 := O452.keep K455 (allS ge_b106 (allS ge_bs108 (allS ge_bk108 all0)))
    have KK455 := KK452.trans K455 (allS (Or.inr gk_b106) (allS (Or.inr gk_bs108) (allS (Or.inr gk_bk108) all0)))
    obtain ⟨⟨Etx455, Fwx455, Fbx455, Fux455, Fsx455, Fkx455, Fzx455⟩, ⟨Vbx455, Vsx455, Vkx455⟩, nq1x455, nq2x455, nq3x455, nq4x455, nq5x455, nq6x455⟩ := (show own_TR Z T455.heap b106 bb108 bs108 bk108 ka108 kb108 kc108 [q0, q1] from TR455)
    refine own_go (S' := (T455.setTop (mkF m 157 #[.val (.int p0), .val (.int p1), .val (.int p2), .val (.int p3), .val (.int p4), .val (.int (4 : Int32)), .val (.int (Int32.ofNat (kn))), .val (.ref b101), .val (.ref b106), .val (.ref b109), .val (.int (1 : Int32)), .unset] []))) (fun tq kq => st455.trans (XS.ifNo X455.here hx rfl (hb hby at_136) rfl ((if0 _ _).trans (feq (by decide : ¬ ((1 : Int32) = (0 : Int32)))).1) (XS.iload X455.here hx rfl (hb hby at_139) rfl (XS.ifNo X455.here hx rfl (hb hby at_141) rfl ((if0 _ _).trans (feq (by decide : ¬ ((1 : Int32) = (0 : Int32)))).1) (XS.iconst X455.here hx rfl (hb hby at_144) (XS.goto X455.here hx rfl (pc0 := 145) (pc' := 149) rfl (hb hby at_145) (by decide) (by decide) (XS.istore X455.here hx rfl (hb hby at_149) rfl (l' := #[.val (.int p0), .val (.int p1), .val (.int p2), .val (.int p3), .val (.int p4), .val (.int (4 : Int32)), .val (.int (Int32.ofNat (kn))), .val (.ref b101), .val (.ref b106), .val (.ref b109), .val (.int (1 : Int32)), .unset]) rfl (XS.iload X455.here hx rfl (hb hby at_151) rfl (XS.iconst X455.here hx rfl (hb hby at_153) (XS.icmpNo X455.here hx rfl (hb hby at_154) rfl (tlt (by decide : (2 : Int32) < (4 : Int32))).2.2.2 kq)))))))))) ?_
    refine own_go (S' := (T455.setTop (mkF m 164 #[.val (.int p0), .val (.int p1), .val (.int p2), .val (.int p3), .val (.int p4), .val (.int (4 : Int32)), .val (.int (Int32.ofNat (kn))), .val (.ref b101), .val (.ref b106), .val (.ref b109), .val (.int (1 : Int32)), .unset] [(.int (2 : Int32)), (.ref b101), (.ref b109), (.ref b106)]))) (fun tq kq => XS.aload X455.here hx rfl (hb hby at_157) rfl rfl (XS.aload X455.here hx rfl (hb hby at_159) rfl rfl (XS.aload X455.here hx rfl (hb hby at_161) rfl rfl (XS.iconst X455.here hx rfl (hb hby at_163) kq)))) ?_
    have f456 := (f453.keep K455 (ninS ne_b101_b106 (ninS ne_b101_bs108 (ninS ne_b101_bk108 nin0))))
    obtain ⟨cl457, Ar457, -, -, hin457, hat457⟩ := f456.at (j := (2 : Int32)) (v := (.int (Int32.ofNat q2))) (by decide) rfl
    refine own_go (S' := (T455.setTop (mkF m 165 #[.val (.int p0), .val (.int p1), .val (.int p2), .val (.int p3), .val (.int p4), .val (.int (4 : Int32)), .val (.int (Int32.ofNat (kn))), .val (.ref b101), .val (.ref b106), .val (.ref b109), .val (.int (1 : Int32)), .unset] [(.int (Int32.ofNat q2)), (.ref b109), (.ref b106)]))) (fun tq kq => X455.iaload hx (j := (2 : Int32)) (v := (.int (Int32.ofNat q2))) Ar457.1 (State.isArrayOf_alike hZ.alike Ar457.2.1) Ar457.2.2 hin457 hat457 (g := (mkF m 164 #[.val (.int p0), .val (.int p1), .val (.int p2), .val (.int p3), .val (.int p4), .val (.int (4 : Int32)), .val (.int (Int32.ofNat (kn))), .val (.ref b101), .val (.ref b106), .val (.ref b109), .val (.int (1 : Int32)), .unset] [(.int (2 : Int32)), (.ref b101), (.ref b109), (.ref b106)])) rfl rfl (hb hby at_164) tq kq) ?_
    obtain ⟨cq458, kq458, q458a, q458b, q458c⟩ := isOf hZ rfl Etx455
    obtain ⟨_, _, ⟨T458, L458, k458, n458⟩, -, X458, ⟨Lc458, hQ458, l458, y458, z458⟩, st458⟩ := X455.virtualBack hx (y := (⟨"com/example/vestwright/vestwright/cli/TableRows", "add", "([Ljava/lang/String;I)Z"⟩ : MethodName)) (z := (⟨"com/example/vestwright/vestwright/cli/TableRows", "add", "([Ljava/lang/String;I)Z"⟩ : MethodName)) hown (mvT hZ (hw _ (List.mem_of_getElem? (i := 73) rfl))) (mvT hZ (hw _ (List.mem_of_getElem? (i := 74) rfl))) (notFace_of_selects (args := #[]) (mvT hZ (hw _ (List.mem_of_getElem? (i := 76) rfl)))) (mvT hZ (hw _ (List.mem_of_getElem? (i := 76) rfl))) (mvT hZ (hw _ (List.mem_of_getElem? (i := 75) rfl))) (by decide) (backOf (W := 0) (rm10 l Z a0 hw [] T455.heap n0 O455 b106 bb108 bs108 bk108 ka108 kb108 kc108 [q0, q1] b109 q2 ⟨⟨Etx455, Fwx455, Fbx455, Fux455, Fsx455, Fkx455, Fzx455⟩, ⟨Vbx455, Vsx455, Vkx455⟩, nq1x455, nq2x455, nq3x455, nq4x455, nq5x455, nq6x455⟩ (by show 2 < 4; decide) ge_b106 ge_bs108 ge_bk108) hZ (hw _ (List.mem_of_getElem? (i := 77) rfl)) (hw _ (List.mem_of_getElem? (i := 4) rfl)) (by decide) (by decide)) q458a q458c (g := (mkF m 165 #[.val (.int p0), .val (.int p1), .val (.int p2), .val (.int p3), .val (.int p4), .val (.int (4 : Int32)), .val (.int (Int32.ofNat (kn))), .val (.ref b101), .val (.ref b106), .val (.ref b109), .val (.int (1 : Int32)), .unset] [(.int (Int32.ofNat q2)), (.ref b109), (.ref b106)])) rfl (by rw [hml]; rfl) (Steps.refl _) (argsL := [(.ref b109), (.int (Int32.ofNat q2))]) (rest := []) (lenOf pd_9 rfl) rfl (by show 2 * 0 + _ ≤ _; exact Nat.le_of_eq rfl) (hb hby at_165) (fun _ _ => ⟨rfl, rfl, (by decide : 8 + 1 ≤ _), (by decide : 12298 + 0 ≤ _)⟩)
    dsimp only [Pt.U, Pt.locs, Pt.cells, Pt.slots] at X458 l458 y458 z458 st458 hQ458
    subst l458 y458 z458
    obtain ⟨rfl, N458, K458, TR458⟩ := hQ458
    have Nf458 := Fr.app Nf455 N458
    have O458 := O455.keep K458 (allS ge_b106 (allS ge_bs108 (allS ge_bk108 all0)))
    have KK458 := KK455.trans K458 (allS (Or.inr gk_b106) (allS (Or.inr gk_bs108) (allS (Or.inr gk_bk108) all0)))
    obtain ⟨⟨Etx458, Fwx458, Fbx458, Fux458, Fsx458, Fkx458, Fzx458⟩, ⟨Vbx458, Vsx458, Vkx458⟩, nq1x458, nq2x458, nq3x458, nq4x458, nq5x458, nq6x458⟩ := (show own_TR Z T458.heap b106 bb108 bs108 bk108 ka108 kb108 kc108 [q0, q1, q2] from TR458)
    refine own_go (S' := (T458.setTop (mkF m 189 #[.val (.int p0), .val (.int p1), .val (.int p2), .val (.int p3), .val (.int p4), .val (.int (4 : Int32)), .val (.int (Int32.ofNat (kn))), .val (.ref b101), .val (.ref b106), .val (.ref b109), .val (.int (1 : Int32)), .unset] []))) (fun tq kq => st458.trans (XS.ifNo X458.here hx rfl (hb hby at_168) rfl ((if0 _ _).trans (feq (by decide : ¬ ((1 : Int32) = (0 : Int32)))).1) (XS.iload X458.here hx rfl (hb hby at_171) rfl (XS.ifNo X458.here hx rfl (hb hby at_173) rfl ((if0 _ _).trans (feq (by decide : ¬ ((1 : Int32) = (0 : Int32)))).1) (XS.iconst X458.here hx rfl (hb hby at_176) (XS.goto X458.here hx rfl (pc0 := 177) (pc' := 181) rfl (hb hby at_177) (by decide) (by decide) (XS.istore X458.here hx rfl (hb hby at_181) rfl (l' := #[.val (.int p0), .val (.int p1), .val (.int p2), .val (.int p3), .val (.int p4), .val (.int (4 : Int32)), .val (.int (Int32.ofNat (kn))), .val (.ref b101), .val (.ref b106), .val (.ref b109), .val (.int (1 : Int32)), .unset]) rfl (XS.iload X458.here hx rfl (hb hby at_183) rfl (XS.iconst X458.here hx rfl (hb hby at_185) (XS.icmpNo X458.here hx rfl (hb hby at_186) rfl (tlt (by decide : (3 : Int32) < (4 : Int32))).2.2.2 kq)))))))))) ?_
    refine own_go (S' := (T458.setTop (mkF m 196 #[.val (.int p0), .val (.int p1), .val (.int p2), .val (.int p3), .val (.int p4), .val (.int (4 : Int32)), .val (.int (Int32.ofNat (kn))), .val (.ref b101), .val (.ref b106), .val (.ref b109), .val (.int (1 : Int32)), .unset] [(.int (3 : Int32)), (.ref b101), (.ref b109), (.ref b106)]))) (fun tq kq => XS.aload X458.here hx rfl (hb hby at_189) rfl rfl (XS.aload X458.here hx rfl (hb hby at_191) rfl rfl (XS.aload X458.here hx rfl (hb hby at_193) rfl rfl (XS.iconst X458.here hx rfl (hb hby at_195) kq)))) ?_
    have f459 := (f456.keep K458 (ninS ne_b101_b106 (ninS ne_b101_bs108 (ninS ne_b101_bk108 nin0))))
    obtain ⟨cl460, Ar460, -, -, hin460, hat460⟩ := f459.at (j := (3 : Int32)) (v := (.int (Int32.ofNat q3))) (by decide) rfl
    refine own_go (S' := (T458.setTop (mkF m 197 #[.val (.int p0), .val (.int p1), .val (.int p2), .val (.int p3), .val (.int p4), .val (.int (4 : Int32)), .val (.int (Int32.ofNat (kn))), .val (.ref b101), .val (.ref b106), .val (.ref b109), .val (.int (1 : Int32)), .unset] [(.int (Int32.ofNat q3)), (.ref b109), (.ref b106)]))) (fun tq kq => X458.iaload hx (j := (3 : Int32)) (v := (.int (Int32.ofNat q3))) Ar460.1 (State.isArrayOf_alike hZ.alike Ar460.2.1) Ar460.2.2 hin460 hat460 (g := (mkF m 196 #[.val (.int p0), .val (.int p1), .val (.int p2), .val (.int p3), .val (.int p4), .val (.int (4 : Int32)), .val (.int (Int32.ofNat (kn))), .val (.ref b101), .val (.ref b106), .val (.ref b109), .val (.int (1 : Int32)), .unset] [(.int (3 : Int32)), (.ref b101), (.ref b109), (.ref b106)])) rfl rfl (hb hby at_196) tq kq) ?_
    obtain ⟨cq461, kq461, q461a, q461b, q461c⟩ := isOf hZ rfl Etx458
    obtain ⟨_, _, ⟨T461, L461, k461, n461⟩, -, X461, ⟨Lc461, hQ461, l461, y461, z461⟩, st461⟩ := X458.virtualBack hx (y := (⟨"com/example/vestwright/vestwright/cli/TableRows", "add", "([Ljava/lang/String;I)Z"⟩ : MethodName)) (z := (⟨"com/example/vestwright/vestwright/cli/TableRows", "add", "([Ljava/lang/String;I)Z"⟩ : MethodName)) hown (mvT hZ (hw _ (List.mem_of_getElem? (i := 73) rfl))) (mvT hZ (hw _ (List.mem_of_getElem? (i := 74) rfl))) (notFace_of_selects (args := #[]) (mvT hZ (hw _ (List.mem_of_getElem? (i := 76) rfl)))) (mvT hZ (hw _ (List.mem_of_getElem? (i := 76) rfl))) (mvT hZ (hw _ (List.mem_of_getElem? (i := 75) rfl))) (by decide) (backOf (W := 0) (rm10 l Z a0 hw [] T458.heap n0 O458 b106 bb108 bs108 bk108 ka108 kb108 kc108 [q0, q1, q2] b109 q3 ⟨⟨Etx458, Fwx458, Fbx458, Fux458, Fsx458, Fkx458, Fzx458⟩, ⟨Vbx458, Vsx458, Vkx458⟩, nq1x458, nq2x458, nq3x458, nq4x458, nq5x458, nq6x458⟩ (by show 3 < 4; decide) ge_b106 ge_bs108 ge_bk108) hZ (hw _ (List.mem_of_getElem? (i := 77) rfl)) (hw _ (List.mem_of_getElem? (i := 4) rfl)) (by decide) (by decide)) q461a q461c (g := (mkF m 197 #[.val (.int p0), .val (.int p1), .val (.int p2), .val (.int p3), .val (.int p4), .val (.int (4 : Int32)), .val (.int (Int32.ofNat (kn))), .val (.ref b101), .val (.ref b106), .val (.ref b109), .val (.int (1 : Int32)), .unset] [(.int (Int32.ofNat q3)), (.ref b109), (.ref b106)])) rfl (by rw [hml]; rfl) (Steps.refl _) (argsL := [(.ref b109), (.int (Int32.ofNat q3))]) (rest := []) (lenOf pd_9 rfl) rfl (by show 2 * 0 + _ ≤ _; exact Nat.le_of_eq rfl) (hb hby at_197) (fun _ _ => ⟨rfl, rfl, (by decide : 9 + 1 ≤ _), (by decide : 12298 + 0 ≤ _)⟩)
    dsimp only [Pt.U, Pt.locs, Pt.cells, Pt.slots] at X461 l461 y461 z461 st461 hQ461
    subst l461 y461 z461
    obtain ⟨rfl, N461, K461, TR461⟩ := hQ461
    have Nf461 := Fr.app Nf458 N461
    have O461 := O458.keep K461 (allS ge_b106 (allS ge_bs108 (allS ge_bk108 all0)))
    have KK461 := KK458.trans K461 (allS (Or.inr gk_b106) (allS (Or.inr gk_bs108) (allS (Or.inr gk_bk108) all0)))
    obtain ⟨⟨Etx461, Fwx461, Fbx461, Fux461, Fsx461, Fkx461, Fzx461⟩, ⟨Vbx461, Vsx461, Vkx461⟩, nq1x461, nq2x461, nq3x461, nq4x461, nq5x461, nq6x461⟩ := (show own_TR Z T461.heap b106 bb108 bs108 bk108 ka108 kb108 kc108 [q0, q1, q2, q3] from TR461)
    refine own_go (S' := (T461.setTop (mkF m 219 #[.val (.int p0), .val (.int p1), .val (.int p2), .val (.int p3), .val (.int p4), .val (.int (4 : Int32)), .val (.int (Int32.ofNat (kn))), .val (.ref b101), .val (.ref b106), .val (.ref b109), .val (.int (1 : Int32)), .unset] [(.int (Int32.ofNat (kn))), (.ref b106)]))) (fun tq kq => st461.trans (XS.ifNo X461.here hx rfl (hb hby at_200) rfl ((if0 _ _).trans (feq (by decide : ¬ ((1 : Int32) = (0 : Int32)))).1) (XS.iload X461.here hx rfl (hb hby at_203) rfl (XS.ifNo X461.here hx rfl (hb hby at_205) rfl ((if0 _ _).trans (feq (by decide : ¬ ((1 : Int32) = (0 : Int32)))).1) (XS.iconst X461.here hx rfl (hb hby at_208) (XS.goto X461.here hx rfl (pc0 := 209) (pc' := 213) rfl (hb hby at_209) (by decide) (by decide) (XS.istore X461.here hx rfl (hb hby at_213) rfl (l' := #[.val (.int p0), .val (.int p1), .val (.int p2), .val (.int p3), .val (.int p4), .val (.int (4 : Int32)), .val (.int (Int32.ofNat (kn))), .val (.ref b101), .val (.ref b106), .val (.ref b109), .val (.int (1 : Int32)), .unset]) rfl (XS.aload X461.here hx rfl (hb hby at_215) rfl rfl (XS.iload X461.here hx rfl (hb hby at_217) rfl kq))))))))) ?_
    have f462 := (f459.keep K461 (ninS ne_b101_b106 (ninS ne_b101_bs108 (ninS ne_b101_bk108 nin0))))
    have f463 := ((((V109.keep K452 (ninS (Ne.symm ne_b106_b109) (ninS (Ne.symm ne_bs108_b109) (ninS (Ne.symm ne_bk108_b109) nin0)))).keep K455 (ninS (Ne.symm ne_b106_b109) (ninS (Ne.symm ne_bs108_b109) (ninS (Ne.symm ne_bk108_b109) nin0)))).keep K458 (ninS (Ne.symm ne_b106_b109) (ninS (Ne.symm ne_bs108_b109) (ninS (Ne.symm ne_bk108_b109) nin0)))).keep K461 (ninS (Ne.symm ne_b106_b109) (ninS (Ne.symm ne_bs108_b109) (ninS (Ne.symm ne_bk108_b109) nin0))))
    have hks : ∀ x ∈ [q0, q1, q2, q3], x < kn := by intro x hx_; simp only [List.mem_cons, List.not_mem_nil, or_false] at hx_; omega
    have hck := own_chks hk1 hk3 (by show 4 ≤ 4; decide) hks
    obtain ⟨cq464, kq464, q464a, q464b, q464c⟩ := isOf hZ rfl Etx461
    obtain ⟨_, _, ⟨T464, L464, k464, n464⟩, -, X464, ⟨Lc464, hQ464, l464, y464, z464⟩, st464⟩ := X461.virtualBack hx (y := (⟨"com/example/vestwright/vestwright/cli/TableRows", "byKey", "(I)Lcom/example/vestwright/vestwright/cli/TableRows$ByKey;"⟩ : MethodName)) (z := (⟨"com/example/vestwright/vestwright/cli/TableRows", "byKey", "(I)Lcom/example/vestwright/vestwright/cli/TableRows$ByKey;"⟩ : MethodName)) hown (mvT hZ (hw _ (List.mem_of_getElem? (i := 22) rfl))) (mvT hZ (hw _ (List.mem_of_getElem? (i := 23) rfl))) (notFace_of_selects (args := #[]) (mvT hZ (hw _ (List.mem_of_getElem? (i := 25) rfl)))) (mvT hZ (hw _ (List.mem_of_getElem? (i := 25) rfl))) (mvT hZ (hw _ (List.mem_of_getElem? (i := 24) rfl))) (by decide) (backOf (W := 0) (rm3 l Z a0 hw [] T461.heap n0 O461 b106 bb108 bs108 bk108 ka108 kb108 kc108 [q0, q1, q2, q3] kn ⟨⟨Etx461, Fwx461, Fbx461, Fux461, Fsx461, Fkx461, Fzx461⟩, ⟨Vbx461, Vsx461, Vkx461⟩, nq1x461, nq2x461, nq3x461, nq4x461, nq5x461, nq6x461⟩ hk1 hk3 (by show 4 ≤ 4; decide) hks hck) hZ (hw _ (List.mem_of_getElem? (i := 26) rfl)) (hw _ (List.mem_of_getElem? (i := 4) rfl)) (by decide) (by decide)) q464a q464c (g := (mkF m 219 #[.val (.int p0), .val (.int p1), .val (.int p2), .val (.int p3), .val (.int p4), .val (.int (4 : Int32)), .val (.int (Int32.ofNat (kn))), .val (.ref b101), .val (.ref b106), .val (.ref b109), .val (.int (1 : Int32)), .unset] [(.int (Int32.ofNat (kn))), (.ref b106)])) rfl (by rw [hml]; rfl) (Steps.refl _) (argsL := [(.int (Int32.ofNat (kn)))]) (rest := []) (lenOf pd_6 rfl) rfl (by show 2 * 0 + _ ≤ _; exact Nat.le_of_eq rfl) (hb hby at_219) (fun _ _ => ⟨rfl, rfl, (by decide : 10 + 5 ≤ _), (by decide : 12298 + 20 ≤ _)⟩)
    dsimp only [Pt.U, Pt.locs, Pt.cells, Pt.slots] at X464 l464 y464 z464 st464 hQ464
    subst l464 y464 z464
    obtain ⟨gg464, ss464, rr464, kss464, krr464, rfl, N464, K464, gA464, gB464, gC464, Eg464, Fs464, Fr464, Vs464, Vr464, Er464⟩ := hQ464
    have Nf464 := Fr.app Nf461 N464
    have O464 := O461.keep K464 all0
    have KK464 := KK461.trans K464 all0
    have ne_b101_gg464 : b101 ≠ gg464 := Nat.ne_of_lt (Nat.lt_of_lt_of_le f462.lt gA464)
    have ne_b106_gg464 : b106 ≠ gg464 := Nat.ne_of_lt (Nat.lt_of_lt_of_le Etx461.lt gA464)
    have ne_b109_gg464 : b109 ≠ gg464 := Nat.ne_of_lt (Nat.lt_of_lt_of_le f463.lt gA464)
    have ne_bb108_gg464 : bb108 ≠ gg464 := Nat.ne_of_lt (Nat.lt_of_lt_of_le Vbx461.lt gA464)
    have ne_bk108_gg464 : bk108 ≠ gg464 := Nat.ne_of_lt (Nat.lt_of_lt_of_le Vkx461.lt gA464)
    have ne_bs108_gg464 : bs108 ≠ gg464 := Nat.ne_of_lt (Nat.lt_of_lt_of_le Vsx461.lt gA464)
    have ge_gg464 : n0 ≤ gg464 := Nat.le_trans (own_osz O461) gA464
    have gk_gg464 : h0.size ≤ gg464 := Nat.le_trans KK461.1 gA464
    have ne_b101_ss464 : b101 ≠ ss464 := Nat.ne_of_lt (Nat.lt_of_lt_of_le f462.lt gB464)
    have ne_b106_ss464 : b106 ≠ ss464 := Nat.ne_of_lt (Nat.lt_of_lt_of_le Etx461.lt gB464)
    have ne_b109_ss464 : b109 ≠ ss464 := Nat.ne_of_lt (Nat.lt_of_lt_of_le f463.lt gB464)
    have ne_bb108_ss464 : bb108 ≠ ss464 := Nat.ne_of_lt (Nat.lt_of_lt_of_le Vbx461.lt gB464)
    have ne_bk108_ss464 : bk108 ≠ ss464 := Nat.ne_of_lt (Nat.lt_of_lt_of_le Vkx461.lt gB464)
    have ne_bs108_ss464 : bs108 ≠ ss464 := Nat.ne_of_lt (Nat.lt_of_lt_of_le Vsx461.lt gB464)
    have ge_ss464 : n0 ≤ ss464 := Nat.le_trans (own_osz O461) gB464
    have gk_ss464 : h0.size ≤ ss464 := Nat.le_trans KK461.1 gB464
    have ne_b101_rr464 : b101 ≠ rr464 := Nat.ne_of_lt (Nat.lt_of_lt_of_le f462.lt gC464)
    have ne_b106_rr464 : b106 ≠ rr464 := Nat.ne_of_lt (Nat.lt_of_lt_of_le Etx461.lt gC464)
    have ne_b109_rr464 : b109 ≠ rr464 := Nat.ne_of_lt (Nat.lt_of_lt_of_le f463.lt gC464)
    have ne_bb108_rr464 : bb108 ≠ rr464 := Nat.ne_of_lt (Nat.lt_of_lt_of_le Vbx461.lt gC464)
    have ne_bk108_rr464 : bk108 ≠ rr464 := Nat.ne_of_lt (Nat.lt_of_lt_of_le Vkx461.lt gC464)
    have ne_bs108_rr464 : bs108 ≠ rr464 := Nat.ne_of_lt (Nat.lt_of_lt_of_le Vsx461.lt gC464)
    have ge_rr464 : n0 ≤ rr464 := Nat.le_trans (own_osz O461) gC464
    have gk_rr464 : h0.size ≤ rr464 := Nat.le_trans KK461.1 gC464
    refine own_go (S' := (T464.setTop (mkF m 232 #[.val (.int p0), .val (.int p1), .val (.int p2), .val (.int p3), .val (.int p4), .val (.int (4 : Int32)), .val (.int (Int32.ofNat (kn))), .val (.ref b101), .val (.ref b106), .val (.ref b109), .val (.int (1 : Int32)), .val (.ref gg464)] [(.int (0 : Int32)), (.ref gg464)]))) (fun tq kq => st464.trans (XS.astore X464.here hx rfl (hb hby at_222) rfl rfl (l' := #[.val (.int p0), .val (.int p1), .val (.int p2), .val (.int p3), .val (.int p4), .val (.int (4 : Int32)), .val (.int (Int32.ofNat (kn))), .val (.ref b101), .val (.ref b106), .val (.ref b109), .val (.int (1 : Int32)), .val (.ref gg464)]) rfl (XS.iload X464.here hx rfl (hb hby at_224) rfl (XS.ifNo X464.here hx rfl (hb hby at_226) rfl ((if0 _ _).trans (feq (by decide : ¬ ((1 : Int32) = (0 : Int32)))).1) (XS.aload X464.here hx rfl (hb hby at_229) rfl rfl (XS.iconst X464.here hx rfl (hb hby at_231) kq)))))) ?_
    have f465 := (f462.keep K464 nin0)
    have f466 := (Etx461.keep K464)
    have f467 := (f463.keep K464 nin0)
    have f468 := (Vbx461.keep K464 nin0)
    have f469 := (Vkx461.keep K464 nin0)
    have f470 := (Vsx461.keep K464 nin0)
    have hkk471 : 0 < kn := (by omega)
    obtain ⟨u1471, u2471, u3471⟩ := own_chk2 hck hkk471
    have v1471 := own_p2len kn [q0, q1, q2, q3] kn
    have v2471 := (own_p3len kn [q0, q1, q2, q3] ([q0, q1, q2, q3]).length).2
    obtain ⟨cq472, kq472, q472a, q472b, q472c⟩ := isOf hZ rfl Eg464
    obtain ⟨_, _, ⟨T472, L472, k472, n472⟩, -, X472, ⟨Lc472, hQ472, l472, y472, z472⟩, st472⟩ := X464.virtualBack hx (y := (⟨"com/example/vestwright/vestwright/cli/TableRows$ByKey", "rows", "(I)[I"⟩ : MethodName)) (z := (⟨"com/example/vestwright/vestwright/cli/TableRows$ByKey", "rows", "(I)[I"⟩ : MethodName)) hown (mvT hZ (hw _ (List.mem_of_getElem? (i := 52) rfl))) (mvT hZ (hw _ (List.mem_of_getElem? (i := 53) rfl))) (notFace_of_selects (args := #[]) (mvT hZ (hw _ (List.mem_of_getElem? (i := 55) rfl)))) (mvT hZ (hw _ (List.mem_of_getElem? (i := 55) rfl))) (mvT hZ (hw _ (List.mem_of_getElem? (i := 54) rfl))) (by decide) (backOf (W := 0) (rm7 l Z a0 hw [] T464.heap n0 O464 gg464 0 ss464 rr464 kss464 krr464 (own_st kn [q0, q1, q2, q3]) (own_rw kn [q0, q1, q2, q3]) Fs464 Fr464 Vs464 Vr464 Er464 (by show 0 + 1 < (own_p2 kn [q0, q1, q2, q3] kn).length; omega) (by show (own_p2 kn [q0, q1, q2, q3] kn).length ≤ 4; omega) u1471 (by show _ ≤ (own_p3 kn [q0, q1, q2, q3] ([q0, q1, q2, q3]).length).2.length; rw [v2471]; exact u2471) (by show (own_p3 kn [q0, q1, q2, q3] ([q0, q1, q2, q3]).length).2.length ≤ 4; rw [v2471]; show 4 ≤ 4; decide)) hZ (hw _ (List.mem_of_getElem? (i := 56) rfl)) (hw _ (List.mem_of_getElem? (i := 43) rfl)) (by decide) (by decide)) q472a q472c (g := (mkF m 232 #[.val (.int p0), .val (.int p1), .val (.int p2), .val (.int p3), .val (.int p4), .val (.int (4 : Int32)), .val (.int (Int32.ofNat (kn))), .val (.ref b101), .val (.ref b106), .val (.ref b109), .val (.int (1 : Int32)), .val (.ref gg464)] [(.int (0 : Int32)), (.ref gg464)])) rfl (by rw [hml]; rfl) (Steps.refl _) (argsL := [(.int (0 : Int32))]) (rest := []) (lenOf pd_7 rfl) rfl (by show 2 * 0 + _ ≤ _; exact Nat.le_of_eq rfl) (hb hby at_232) (fun _ _ => ⟨rfl, rfl, (by decide : 15 + 1 ≤ _), (by decide : 12318 + 4 ≤ _)⟩)
    dsimp only [Pt.U, Pt.locs, Pt.cells, Pt.slots] at X472 l472 y472 z472 st472 hQ472
    subst l472 y472 z472
    obtain ⟨b472, kb472, rfl, N472, K472, gb472, V472⟩ := hQ472
    have Nf472 := Fr.app Nf464 N472
    have O472 := O464.keep K472 all0
    have KK472 := KK464.trans K472 all0
    have ne_b101_b472 : b101 ≠ b472 := Nat.ne_of_lt (Nat.lt_of_lt_of_le f465.lt gb472)
    have ne_b106_b472 : b106 ≠ b472 := Nat.ne_of_lt (Nat.lt_of_lt_of_le f466.lt gb472)
    have ne_b109_b472 : b109 ≠ b472 := Nat.ne_of_lt (Nat.lt_of_lt_of_le f467.lt gb472)
    have ne_bb108_b472 : bb108 ≠ b472 := Nat.ne_of_lt (Nat.lt_of_lt_of_le f468.lt gb472)
    have ne_bk108_b472 : bk108 ≠ b472 := Nat.ne_of_lt (Nat.lt_of_lt_of_le f469.lt gb472)
    have ne_bs108_b472 : bs108 ≠ b472 := Nat.ne_of_lt (Nat.lt_of_lt_of_le f470.lt gb472)
    have ne_gg464_b472 : gg464 ≠ b472 := Nat.ne_of_lt (Nat.lt_of_lt_of_le Eg464.lt gb472)
    have ne_rr464_b472 : rr464 ≠ b472 := Nat.ne_of_lt (Nat.lt_of_lt_of_le Vr464.lt gb472)
    have ne_ss464_b472 : ss464 ≠ b472 := Nat.ne_of_lt (Nat.lt_of_lt_of_le Vs464.lt gb472)
    have ge_b472 : n0 ≤ b472 := Nat.le_trans (own_osz O464) gb472
    have gk_b472 : h0.size ≤ b472 := Nat.le_trans KK464.1 gb472
    rw [u3471] at V472
    refine own_go (S' := (T472.setTop (mkF m 240 #[.val (.int p0), .val (.int p1), .val (.int p2), .val (.int p3), .val (.int p4), .val (.int (4 : Int32)), .val (.int (Int32.ofNat (kn))), .val (.ref b101), .val (.ref b106), .val (.ref b109), .val (.int (1 : Int32)), .val (.ref gg464)] [(.int (0 : Int32)), (.int (4 : Int32)), (.ref b101), (.ref b472)]))) (fun tq kq => st472.trans (XS.aload X472.here hx rfl (hb hby at_235) rfl rfl (XS.iload X472.here hx rfl (hb hby at_237) rfl (XS.iconst X472.here hx rfl (hb hby at_239) kq)))) ?_
    have f473 := (f465.keep K472 nin0)
    obtain ⟨_, _, ⟨T474, L474, k474, n474⟩, -, X474, ⟨Lc474, hQ474, l474, y474, z474⟩, st474⟩ := Jvm.LawKit.callS X472 hx (y := (⟨"com/example/vestwright/vestwright/cli/TableRowsByKeyPinLaw", "same", "([I[III)Z"⟩ : MethodName)) hown (mvT hZ (hw _ (List.mem_of_getElem? (i := 69) rfl))) (mvT hZ (hw _ (List.mem_of_getElem? (i := 70) rfl))) (mvT hZ (hw _ (List.mem_of_getElem? (i := 71) rfl))) (mvT hZ (hw _ (List.mem_of_getElem? (i := 72) rfl))) (by decide) (backOf (W := 0) (rm9_4 l Z a0 hw [] T472.heap n0 O472 b472 b101 0 kb472 k101 q0 q1 q2 q3 V472 f473 (by omega)) hZ (hw _ (List.mem_of_getElem? (i := 72) rfl)) (hw _ (List.mem_of_getElem? (i := 71) rfl)) (by decide) (by decide)) (g := (mkF m 240 #[.val (.int p0), .val (.int p1), .val (.int p2), .val (.int p3), .val (.int p4), .val (.int (4 : Int32)), .val (.int (Int32.ofNat (kn))), .val (.ref b101), .val (.ref b106), .val (.ref b109), .val (.int (1 : Int32)), .val (.ref gg464)] [(.int (0 : Int32)), (.int (4 : Int32)), (.ref b101), (.ref b472)])) rfl (by rw [hml]; rfl) (argsL := [(.ref b472), (.ref b101), (.int (4 : Int32)), (.int (0 : Int32))]) (rest := []) (lenOf pd_8 rfl) rfl (by show 2 * 0 + _ ≤ _; exact Nat.le_of_eq rfl) (hb hby at_240) (fun _ _ => ⟨rfl, rfl, (by decide : 16 + 1 ≤ _), (by decide : 12322 + 4 ≤ _)⟩)
    dsimp only [Pt.U, Pt.locs, Pt.cells, Pt.slots] at X474 l474 y474 z474 st474 hQ474
    subst l474 y474 z474
    obtain ⟨rfl, N474, K474⟩ := hQ474
    have Nf474 := Fr.app Nf472 N474
    have O474 := O472.keep K474 all0
    have KK474 := KK472.trans K474 all0
    refine own_go (S' := (T474.setTop (mkF m 256 #[.val (.int p0), .val (.int p1), .val (.int p2), .val (.int p3), .val (.int p4), .val (.int (4 : Int32)), .val (.int (Int32.ofNat (kn))), .val (.ref b101), .val (.ref b106), .val (.ref b109), .val (.int (1 : Int32)), .val (.ref gg464)] [(.int (1 : Int32)), (.int (Int32.ofNat (kn)))]))) (fun tq kq => st474 tq (XS.ifNo X474.here hx rfl (hb hby at_243) rfl ((if0 _ _).trans (feq (by decide : ¬ ((1 : Int32) = (0 : Int32)))).1) (XS.iconst X474.here hx rfl (hb hby at_246) (XS.goto X474.here hx rfl (pc0 := 247) (pc' := 251) rfl (hb hby at_247) (by decide) (by decide) (XS.istore X474.here hx rfl (hb hby at_251) rfl (l' := #[.val (.int p0), .val (.int p1), .val (.int p2), .val (.int p3), .val (.int p4), .val (.int (4 : Int32)), .val (.int (Int32.ofNat (kn))), .val (.ref b101), .val (.ref b106), .val (.ref b109), .val (.int (1 : Int32)), .val (.ref gg464)]) rfl (XS.iload X474.here hx rfl (hb hby at_253) rfl (XS.iconst X474.here hx rfl (hb hby at_255) kq))))))) ?_
    by_cases hc475 : (1 : Int32) < (Int32.ofNat (kn))
    · refine own_go (S' := (T474.setTop (mkF m 267 #[.val (.int p0), .val (.int p1), .val (.int p2), .val (.int p3), .val (.int p4), .val (.int (4 : Int32)), .val (.int (Int32.ofNat (kn))), .val (.ref b101), .val (.ref b106), .val (.ref b109), .val (.int (1 : Int32)), .val (.ref gg464)] [(.int (1 : Int32)), (.ref gg464)]))) (fun tq kq => XS.icmpNo X474.here hx rfl (hb hby at_256) rfl (tlt hc475).2.2.2 (XS.iload X474.here hx rfl (hb hby at_259) rfl (XS.ifNo X474.here hx rfl (hb hby at_261) rfl ((if0 _ _).trans (feq (by decide : ¬ ((1 : Int32) = (0 : Int32)))).1) (XS.aload X474.here hx rfl (hb hby at_264) rfl rfl (XS.iconst X474.here hx rfl (hb hby at_266) kq))))) ?_
      have f476 := (f473.keep K474 nin0)
      have f477 := ((f466.keep K472).keep K474)
      have f478 := ((f467.keep K472 nin0).keep K474 nin0)
      have f479 := (V472.keep K474 nin0)
      have f480 := ((f468.keep K472 nin0).keep K474 nin0)
      have f481 := ((f469.keep K472 nin0).keep K474 nin0)
      have f482 := ((f470.keep K472 nin0).keep K474 nin0)
      have f483 := ((Eg464.keep K472).keep K474)
      have f484 := ((Vr464.keep K472 nin0).keep K474 nin0)
      have f485 := ((Vs464.keep K472 nin0).keep K474 nin0)
      have hkk486 : 1 < kn := ((own_lt (by decide) (by omega) : Int32.ofNat 1 < Int32.ofNat kn ↔ _).mp hc475)
      obtain ⟨u1486, u2486, u3486⟩ := own_chk2 hck hkk486
      have v1486 := own_p2len kn [q0, q1, q2, q3] kn
      have v2486 := (own_p3len kn [q0, q1, q2, q3] ([q0, q1, q2, q3]).length).2
      have f487 := ((Fs464.keep K472 nin0).keep K474 nin0)
      have f488 := ((Fr464.keep K472 nin0).keep K474 nin0)
      have f489 := ((Er464.keep K472).keep K474)
      obtain ⟨cq490, kq490, q490a, q490b, q490c⟩ := isOf hZ rfl f483
      obtain ⟨_, _, ⟨T490, L490, k490, n490⟩, -, X490, ⟨Lc490, hQ490, l490, y490, z490⟩, st490⟩ := X474.virtualBack hx (y := (⟨"com/example/vestwright/vestwright/cli/TableRows$ByKey", "rows", "(I)[I"⟩ : MethodName)) (z := (⟨"com/example/vestwright/vestwright/cli/TableRows$ByKey", "rows", "(I)[I"⟩ : MethodName)) hown (mvT hZ (hw _ (List.mem_of_getElem? (i := 52) rfl))) (mvT hZ (hw _ (List.mem_of_getElem? (i := 53) rfl))) (notFace_of_selects (args := #[]) (mvT hZ (hw _ (List.mem_of_getElem? (i := 55) rfl)))) (mvT hZ (hw _ (List.mem_of_getElem? (i := 55) rfl))) (mvT hZ (hw _ (List.mem_of_getElem? (i := 54) rfl))) (by decide) (backOf (W := 0) (rm7 l Z a0 hw [] T474.heap n0 O474 gg464 1 ss464 rr464 kss464 krr464 (own_st kn [q0, q1, q2, q3]) (own_rw kn [q0, q1, q2, q3]) f487 f488 f485 f484 f489 (by show 1 + 1 < (own_p2 kn [q0, q1, q2, q3] kn).length; omega) (by show (own_p2 kn [q0, q1, q2, q3] kn).length ≤ 4; omega) u1486 (by show _ ≤ (own_p3 kn [q0, q1, q2, q3] ([q0, q1, q2, q3]).length).2.length; rw [v2486]; exact u2486) (by show (own_p3 kn [q0, q1, q2, q3] ([q0, q1, q2, q3]).length).2.length ≤ 4; rw [v2486]; show 4 ≤ 4; decide)) hZ (hw _ (List.mem_of_getElem? (i := 56) rfl)) (hw _ (List.mem_of_getElem? (i := 43) rfl)) (by decide) (by decide)) q490a q490c (g := (mkF m 267 #[.val (.int p0), .val (.int p1), .val (.int p2), .val (.int p3), .val (.int p4), .val (.int (4 : Int32)), .val (.int (Int32.ofNat (kn))), .val (.ref b101), .val (.ref b106), .val (.ref b109), .val (.int (1 : Int32)), .val (.ref gg464)] [(.int (1 : Int32)), (.ref gg464)])) rfl (by rw [hml]; rfl) (Steps.refl _) (argsL := [(.int (1 : Int32))]) (rest := []) (lenOf pd_7 rfl) rfl (by show 2 * 0 + _ ≤ _; exact Nat.le_of_eq rfl) (hb hby at_267) (fun _ _ => ⟨rfl, rfl, (by decide : 17 + 1 ≤ _), (by decide : 12326 + 4 ≤ _)⟩)
      dsimp only [Pt.U, Pt.locs, Pt.cells, Pt.slots] at X490 l490 y490 z490 st490 hQ490
      subst l490 y490 z490
      obtain ⟨b490, kb490, rfl, N490, K490, gb490, V490⟩ := hQ490
      have Nf490 := Fr.app Nf474 N490
      have O490 := O474.keep K490 all0
      have KK490 := KK474.trans K490 all0
      have ne_b101_b490 : b101 ≠ b490 := Nat.ne_of_lt (Nat.lt_of_lt_of_le f476.lt gb490)
      have ne_b106_b490 : b106 ≠ b490 := Nat.ne_of_lt (Nat.lt_of_lt_of_le f477.lt gb490)
      have ne_b109_b490 : b109 ≠ b490 := Nat.ne_of_lt (Nat.lt_of_lt_of_le f478.lt gb490)
      have ne_b472_b490 : b472 ≠ b490 := Nat.ne_of_lt (Nat.lt_of_lt_of_le f479.lt gb490)
      have ne_bb108_b490 : bb108 ≠ b490 := Nat.ne_of_lt (Nat.lt_of_lt_of_le f480.lt gb490)
      have ne_bk108_b490 : bk108 ≠ b490 := Nat.ne_of_lt (Nat.lt_of_lt_of_le f481.lt gb490)
      have ne_bs108_b490 : bs108 ≠ b490 := Nat.ne_of_lt (Nat.lt_of_lt_of_le f482.lt gb490)
      have ne_gg464_b490 : gg464 ≠ b490 := Nat.ne_of_lt (Nat.lt_of_lt_of_le f483.lt gb490)
      have ne_rr464_b490 : rr464 ≠ b490 := Nat.ne_of_lt (Nat.lt_of_lt_of_le f484.lt gb490)
      have ne_ss464_b490 : ss464 ≠ b490 := Nat.ne_of_lt (Nat.lt_of_lt_of_le f485.lt gb490)
      have ge_b490 : n0 ≤ b490 := Nat.le_trans (own_osz O474) gb490
      have gk_b490 : h0.size ≤ b490 := Nat.le_trans KK474.1 gb490
      rw [u3486] at V490
      refine own_go (S' := (T490.setTop (mkF m 275 #[.val (.int p0), .val (.int p1), .val (.int p2), .val (.int p3), .val (.int p4), .val (.int (4 : Int32)), .val (.int (Int32.ofNat (kn))), .val (.ref b101), .val (.ref b106), .val (.ref b109), .val (.int (1 : Int32)), .val (.ref gg464)] [(.int (1 : Int32)), (.int (4 : Int32)), (.ref b101), (.ref b490)]))) (fun tq kq => st490.trans (XS.aload X490.here hx rfl (hb hby at_270) rfl rfl (XS.iload X490.here hx rfl (hb hby at_272) rfl (XS.iconst X490.here hx rfl (hb hby at_274) kq)))) ?_
      have f491 := (f476.keep K490 nin0)
      obtain ⟨_, _, ⟨T492, L492, k492, n492⟩, -, X492, ⟨Lc492, hQ492, l492, y492, z492⟩, st492⟩ := Jvm.LawKit.callS X490 hx (y := (⟨"com/example/vestwright/vestwright/cli/TableRowsByKeyPinLaw", "same", "([I[III)Z"⟩ : MethodName)) hown (mvT hZ (hw _ (List.mem_of_getElem? (i := 69) rfl))) (mvT hZ (hw _ (List.mem_of_getElem? (i := 70) rfl))) (mvT hZ (hw _ (List.mem_of_getElem? (i := 71) rfl))) (mvT hZ (hw _ (List.mem_of_getElem? (i := 72) rfl))) (by decide) (backOf (W := 0) (rm9_4 l Z a0 hw [] T490.heap n0 O490 b490 b101 1 kb490 k101 q0 q1 q2 q3 V490 f491 (by omega)) hZ (hw _ (List.mem_of_getElem? (i := 72) rfl)) (hw _ (List.mem_of_getElem? (i := 71) rfl)) (by decide) (by decide)) (g := (mkF m 275 #[.val (.int p0), .val (.int p1), .val (.int p2), .val (.int p3), .val (.int p4), .val (.int (4 : Int32)), .val (.int (Int32.ofNat (kn))), .val (.ref b101), .val (.ref b106), .val (.ref b109), .val (.int (1 : Int32)), .val (.ref gg464)] [(.int (1 : Int32)), (.int (4 : Int32)), (.ref b101), (.ref b490)])) rfl (by rw [hml]; rfl) (argsL := [(.ref b490), (.ref b101), (.int (4 : Int32)), (.int (1 : Int32))]) (rest := []) (lenOf pd_8 rfl) rfl (by show 2 * 0 + _ ≤ _; exact Nat.le_of_eq rfl) (hb hby at_275) (fun _ _ => ⟨rfl, rfl, (by decide : 18 + 1 ≤ _), (by decide : 12330 + 4 ≤ _)⟩)
      dsimp only [Pt.U, Pt.locs, Pt.cells, Pt.slots] at X492 l492 y492 z492 st492 hQ492
      subst l492 y492 z492
      obtain ⟨rfl, N492, K492⟩ := hQ492
      have Nf492 := Fr.app Nf490 N492
      have O492 := O490.keep K492 all0
      have KK492 := KK490.trans K492 all0
      refine own_go (S' := (T492.setTop (mkF m 291 #[.val (.int p0), .val (.int p1), .val (.int p2), .val (.int p3), .val (.int p4), .val (.int (4 : Int32)), .val (.int (Int32.ofNat (kn))), .val (.ref b101), .val (.ref b106), .val (.ref b109), .val (.int (1 : Int32)), .val (.ref gg464)] [(.int (2 : Int32)), (.int (Int32.ofNat (kn)))]))) (fun tq kq => st492 tq (XS.ifNo X492.here hx rfl (hb hby at_278) rfl ((if0 _ _).trans (feq (by decide : ¬ ((1 : Int32) = (0 : Int32)))).1) (XS.iconst X492.here hx rfl (hb hby at_281) (XS.goto X492.here hx rfl (pc0 := 282) (pc' := 286) rfl (hb hby at_282) (by decide) (by decide) (XS.istore X492.here hx rfl (hb hby at_286) rfl (l' := #[.val (.int p0), .val (.int p1), .val (.int p2), .val (.int p3), .val (.int p4), .val (.int (4 : Int32)), .val (.int (Int32.ofNat (kn))), .val (.ref b101), .val (.ref b106), .val (.ref b109), .val (.int (1 : Int32)), .val (.ref gg464)]) rfl (XS.iload X492.here hx rfl (hb hby at_288) rfl (XS.iconst X492.here hx rfl (hb hby at_290) kq))))))) ?_
      by_cases hc493 : (2 : Int32) < (Int32.ofNat (kn))
      · refine own_go (S' := (T492.setTop (mkF m 302 #[.val (.int p0), .val (.int p1), .val (.int p2), .val (.int p3), .val (.int p4), .val (.int (4 : Int32)), .val (.int (Int32.ofNat (kn))), .val (.ref b101), .val (.ref b106), .val (.ref b109), .val (.int (1 : Int32)), .val (.ref gg464)] [(.int (2 : Int32)), (.ref gg464)]))) (fun tq kq => XS.icmpNo X492.here hx rfl (hb hby at_291) rfl (tlt hc493).2.2.2 (XS.iload X492.here hx rfl (hb hby at_294) rfl (XS.ifNo X492.here hx rfl (hb hby at_296) rfl ((if0 _ _).trans (feq (by decide : ¬ ((1 : Int32) = (0 : Int32)))).1) (XS.aload X492.here hx rfl (hb hby at_299) rfl rfl (XS.iconst X492.here hx rfl (hb hby at_301) kq))))) ?_
        have f494 := (f491.keep K492 nin0)
        have f495 := ((f477.keep K490).keep K492)
        have f496 := ((f478.keep K490 nin0).keep K492 nin0)
        have f497 := ((f479.keep K490 nin0).keep K492 nin0)
        have f498 := (V490.keep K492 nin0)
        have f499 := ((f480.keep K490 nin0).keep K492 nin0)
        have f500 := ((f481.keep K490 nin0).keep K492 nin0)
        have f501 := ((f482.keep K490 nin0).keep K492 nin0)
        have f502 := ((f483.keep K490).keep K492)
        have f503 := ((f484.keep K490 nin0).keep K492 nin0)
        have f504 := ((f485.keep K490 nin0).keep K492 nin0)
        have hkk505 : 2 < kn := ((own_lt (by decide) (by omega) : Int32.ofNat 2 < Int32.ofNat kn ↔ _).mp hc493)
        obtain ⟨u1505, u2505, u3505⟩ := own_chk2 hck hkk505
        have v1505 := own_p2len kn [q0, q1, q2, q3] kn
        have v2505 := (own_p3len kn [q0, q1, q2, q3] ([q0, q1, q2, q3]).length).2
        have f506 := ((f487.keep K490 nin0).keep K492 nin0)
        have f507 := ((f488.keep K490 nin0).keep K492 nin0)
        have f508 := ((f489.keep K490).keep K492)
        obtain ⟨cq509, kq509, q509a, q509b, q509c⟩ := isOf hZ rfl f502
        obtain ⟨_, _, ⟨T509, L509, k509, n509⟩, -, X509, ⟨Lc509, hQ509, l509, y509, z509⟩, st509⟩ := X492.virtualBack hx (y := (⟨"com/example/vestwright/vestwright/cli/TableRows$ByKey", "rows", "(I)[I"⟩ : MethodName)) (z := (⟨"com/example/vestwright/vestwright/cli/TableRows$ByKey", "rows", "(I)[I"⟩ : MethodName)) hown (mvT hZ (hw _ (List.mem_of_getElem? (i := 52) rfl))) (mvT hZ (hw _ (List.mem_of_getElem? (i := 53) rfl))) (notFace_of_selects (args := #[]) (mvT hZ (hw _ (List.mem_of_getElem? (i := 55) rfl)))) (mvT hZ (hw _ (List.mem_of_getElem? (i := 55) rfl))) (mvT hZ (hw _ (List.mem_of_getElem? (i := 54) rfl))) (by decide) (backOf (W := 0) (rm7 l Z a0 hw [] T492.heap n0 O492 gg464 2 ss464 rr464 kss464 krr464 (own_st kn [q0, q1, q2, q3]) (own_rw kn [q0, q1, q2, q3]) f506 f507 f504 f503 f508 (by show 2 + 1 < (own_p2 kn [q0, q1, q2, q3] kn).length; omega) (by show (own_p2 kn [q0, q1, q2, q3] kn).length ≤ 4; omega) u1505 (by show _ ≤ (own_p3 kn [q0, q1, q2, q3] ([q0, q1, q2, q3]).length).2.length; rw [v2505]; exact u2505) (by show (own_p3 kn [q0, q1, q2, q3] ([q0, q1, q2, q3]).length).2.length ≤ 4; rw [v2505]; show 4 ≤ 4; decide)) hZ (hw _ (List.mem_of_getElem? (i := 56) rfl)) (hw _ (List.mem_of_getElem? (i := 43) rfl)) (by decide) (by decide)) q509a q509c (g := (mkF m 302 #[.val (.int p0), .val (.int p1), .val (.int p2), .val (.int p3), .val (.int p4), .val (.int (4 : Int32)), .val (.int (Int32.ofNat (kn))), .val (.ref b101), .val (.ref b106), .val (.ref b109), .val (.int (1 : Int32)), .val (.ref gg464)] [(.int (2 : Int32)), (.ref gg464)])) rfl (by rw [hml]; rfl) (Steps.refl _) (argsL := [(.int (2 : Int32))]) (rest := []) (lenOf pd_7 rfl) rfl (by show 2 * 0 + _ ≤ _; exact Nat.le_of_eq rfl) (hb hby at_302) (fun _ _ => ⟨rfl, rfl, (by decide : 19 + 1 ≤ _), (by decide : 12334 + 4 ≤ _)⟩)
        dsimp only [Pt.U, Pt.locs, Pt.cells, Pt.slots] at X509 l509 y509 z509 st509 hQ509
        subst l509 y509 z509
        obtain ⟨b509, kb509, rfl, N509, K509, gb509, V509⟩ := hQ509
        have Nf509 := Fr.app Nf492 N509
        have O509 := O492.keep K509 all0
        have KK509 := KK492.trans K509 all0
        have ne_b101_b509 : b101 ≠ b509 := Nat.ne_of_lt (Nat.lt_of_lt_of_le f494.lt gb509)
        have ne_b106_b509 : b106 ≠ b509 := Nat.ne_of_lt (Nat.lt_of_lt_of_le f495.lt gb509)
        have ne_b109_b509 : b109 ≠ b509 := Nat.ne_of_lt (Nat.lt_of_lt_of_le f496.lt gb509)
        have ne_b472_b509 : b472 ≠ b509 := Nat.ne_of_lt (Nat.lt_of_lt_of_le f497.lt gb509)
        have ne_b490_b509 : b490 ≠ b509 := Nat.ne_of_lt (Nat.lt_of_lt_of_le f498.lt gb509)
        have ne_bb108_b509 : bb108 ≠ b509 := Nat.ne_of_lt (Nat.lt_of_lt_of_le f499.lt gb509)
        have ne_bk108_b509 : bk108 ≠ b509 := Nat.ne_of_lt (Nat.lt_of_lt_of_le f500.lt gb509)
        have ne_bs108_b509 : bs108 ≠ b509 := Nat.ne_of_lt (Nat.lt_of_lt_of_le f501.lt gb509)
        have ne_gg464_b509 : gg464 ≠ b509 := Nat.ne_of_lt (Nat.lt_of_lt_of_le f502.lt gb509)
        have ne_rr464_b509 : rr464 ≠ b509 := Nat.ne_of_lt (Nat.lt_of_lt_of_le f503.lt gb509)
        have ne_ss464_b509 : ss464 ≠ b509 := Nat.ne_of_lt (Nat.lt_of_lt_of_le f504.lt gb509)
        have ge_b509 : n0 ≤ b509 := Nat.le_trans (own_osz O492) gb509
        have gk_b509 : h0.size ≤ b509 := Nat.le_trans KK492.1 gb509
        rw [u3505] at V509
        refine own_go (S' := (T509.setTop (mkF m 310 #[.val (.int p0), .val (.int p1), .val (.int p2), .val (.int p3), .val (.int p4), .val (.int (4 : Int32)), .val (.int (Int32.ofNat (kn))), .val (.ref b101), .val (.ref b106), .val (.ref b109), .val (.int (1 : Int32)), .val (.ref gg464)] [(.int (2 : Int32)), (.int (4 : Int32)), (.ref b101), (.ref b509)]))) (fun tq kq => st509.trans (XS.aload X509.here hx rfl (hb hby at_305) rfl rfl (XS.iload X509.here hx rfl (hb hby at_307) rfl (XS.iconst X509.here hx rfl (hb hby at_309) kq)))) ?_
        have f510 := (f494.keep K509 nin0)
        obtain ⟨_, _, ⟨T511, L511, k511, n511⟩, -, X511, ⟨Lc511, hQ511, l511, y511, z511⟩, st511⟩ := Jvm.LawKit.callS X509 hx (y := (⟨"com/example/vestwright/vestwright/cli/TableRowsByKeyPinLaw", "same", "([I[III)Z"⟩ : MethodName)) hown (mvT hZ (hw _ (List.mem_of_getElem? (i := 69) rfl))) (mvT hZ (hw _ (List.mem_of_getElem? (i := 70) rfl))) (mvT hZ (hw _ (List.mem_of_getElem? (i := 71) rfl))) (mvT hZ (hw _ (List.mem_of_getElem? (i := 72) rfl))) (by decide) (backOf (W := 0) (rm9_4 l Z a0 hw [] T509.heap n0 O509 b509 b101 2 kb509 k101 q0 q1 q2 q3 V509 f510 (by omega)) hZ (hw _ (List.mem_of_getElem? (i := 72) rfl)) (hw _ (List.mem_of_getElem? (i := 71) rfl)) (by decide) (by decide)) (g := (mkF m 310 #[.val (.int p0), .val (.int p1), .val (.int p2), .val (.int p3), .val (.int p4), .val (.int (4 : Int32)), .val (.int (Int32.ofNat (kn))), .val (.ref b101), .val (.ref b106), .val (.ref b109), .val (.int (1 : Int32)), .val (.ref gg464)] [(.int (2 : Int32)), (.int (4 : Int32)), (.ref b101), (.ref b509)])) rfl (by rw [hml]; rfl) (argsL := [(.ref b509), (.ref b101), (.int (4 : Int32)), (.int (2 : Int32))]) (rest := []) (lenOf pd_8 rfl) rfl (by show 2 * 0 + _ ≤ _; exact Nat.le_of_eq rfl) (hb hby at_310) (fun _ _ => ⟨rfl, rfl, (by decide : 20 + 1 ≤ _), (by decide : 12338 + 4 ≤ _)⟩)
        dsimp only [Pt.U, Pt.locs, Pt.cells, Pt.slots] at X511 l511 y511 z511 st511 hQ511
        subst l511 y511 z511
        obtain ⟨rfl, N511, K511⟩ := hQ511
        have Nf511 := Fr.app Nf509 N511
        have O511 := O509.keep K511 all0
        have KK511 := KK509.trans K511 all0
        refine own_go (S' := (T511.setTop (mkF m 325 #[.val (.int p0), .val (.int p1), .val (.int p2), .val (.int p3), .val (.int p4), .val (.int (4 : Int32)), .val (.int (Int32.ofNat (kn))), .val (.ref b101), .val (.ref b106), .val (.ref b109), .val (.int (1 : Int32)), .val (.ref gg464)] [(.int (1 : Int32))]))) (fun tq kq => st511 tq (XS.ifNo X511.here hx rfl (hb hby at_313) rfl ((if0 _ _).trans (feq (by decide : ¬ ((1 : Int32) = (0 : Int32)))).1) (XS.iconst X511.here hx rfl (hb hby at_316) (XS.goto X511.here hx rfl (pc0 := 317) (pc' := 321) rfl (hb hby at_317) (by decide) (by decide) (XS.istore X511.here hx rfl (hb hby at_321) rfl (l' := #[.val (.int p0), .val (.int p1), .val (.int p2), .val (.int p3), .val (.int p4), .val (.int (4 : Int32)), .val (.int (Int32.ofNat (kn))), .val (.ref b101), .val (.ref b106), .val (.ref b109), .val (.int (1 : Int32)), .val (.ref gg464)]) rfl (XS.iload X511.here hx rfl (hb hby at_323) rfl kq)))))) ?_
        refine own_retN X511 hx hlk hret (by simp) (hb hby at_325) (by decide) (by decide) ?_
        exact ⟨rfl, Nf511⟩
      · refine own_go (S' := (T492.setTop (mkF m 325 #[.val (.int p0), .val (.int p1), .val (.int p2), .val (.int p3), .val (.int p4), .val (.int (4 : Int32)), .val (.int (Int32.ofNat (kn))), .val (.ref b101), .val (.ref b106), .val (.ref b109), .val (.int (1 : Int32)), .val (.ref gg464)] [(.int (1 : Int32))]))) (fun tq kq => XS.icmpYes X492.here hx rfl (pc0 := 291) (pc' := 323) rfl (hb hby at_291) rfl (flt hc493).2.2.2 (by decide) (by decide) (XS.iload X492.here hx rfl (hb hby at_323) rfl kq)) ?_
        refine own_retN X492 hx hlk hret (by simp) (hb hby at_325) (by decide) (by decide) ?_
        exact ⟨rfl, Nf492⟩
    · refine own_go (S' := (T474.setTop (mkF m 291 #[.val (.int p0), .val (.int p1), .val (.int p2), .val (.int p3), .val (.int p4), .val (.int (4 : Int32)), .val (.int (Int32.ofNat (kn))), .val (.ref b101), .val (.ref b106), .val (.ref b109), .val (.int (1 : Int32)), .val (.ref gg464)] [(.int (2 : Int32)), (.int (Int32.ofNat (kn)))]))) (fun tq kq => XS.icmpYes X474.here hx rfl (pc0 := 256) (pc' := 288) rfl (hb hby at_256) rfl (flt hc475).2.2.2 (by decide) (by decide) (XS.iload X474.here hx rfl (hb hby at_288) rfl (XS.iconst X474.here hx rfl (hb hby at_290) kq))) ?_
      by_cases hc512 : (2 : Int32) < (Int32.ofNat (kn))
      · refine own_go (S' := (T474.setTop (mkF m 302 #[.val (.int p0), .val (.int p1), .val (.int p2), .val (.int p3), .val (.int p4), .val (.int (4 : Int32)), .val (.int (Int32.ofNat (kn))), .val (.ref b101), .val (.ref b106), .val (.ref b109), .val (.int (1 : Int32)), .val (.ref gg464)] [(.int (2 : Int32)), (.ref gg464)]))) (fun tq kq => XS.icmpNo X474.here hx rfl (hb hby at_291) rfl (tlt hc512).2.2.2 (XS.iload X474.here hx rfl (hb hby at_294) rfl (XS.ifNo X474.here hx rfl (hb hby at_296) rfl ((if0 _ _).trans (feq (by decide : ¬ ((1 : Int32) = (0 : Int32)))).1) (XS.aload X474.here hx rfl (hb hby at_299) rfl rfl (XS.iconst X474.here hx rfl (hb hby at_301) kq))))) ?_
        have f513 := (f473.keep K474 nin0)
        have f514 := ((f466.keep K472).keep K474)
        have f515 := ((f467.keep K472 nin0).keep K474 nin0)
        have f516 := (V472.keep K474 nin0)
        have f517 := ((f468.keep K472 nin0).keep K474 nin0)
        have f518 := ((f469.keep K472 nin0).keep K474 nin0)
        have f519 := ((f470.keep K472 nin0).keep K474 nin0)
        have f520 := ((Eg464.keep K472).keep K474)
        have f521 := ((Vr464.keep K472 nin0).keep K474 nin0)
        have f522 := ((Vs464.keep K472 nin0).keep K474 nin0)
        have hkk523 : 2 < kn := ((own_lt (by decide) (by omega) : Int32.ofNat 2 < Int32.ofNat kn ↔ _).mp hc512)
        obtain ⟨u1523, u2523, u3523⟩ := own_chk2 hck hkk523
        have v1523 := own_p2len kn [q0, q1, q2, q3] kn
        have v2523 := (own_p3len kn [q0, q1, q2, q3] ([q0, q1, q2, q3]).length).2
        have f524 := ((Fs464.keep K472 nin0).keep K474 nin0)
        have f525 := ((Fr464.keep K472 nin0).keep K474 nin0)
        have f526 := ((Er464.keep K472).keep K474)
        obtain ⟨cq527, kq527, q527a, q527b, q527c⟩ := isOf hZ rfl f520
        obtain ⟨_, _, ⟨T527, L527, k527, n527⟩, -, X527, ⟨Lc527, hQ527, l527, y527, z527⟩, st527⟩ := X474.virtualBack hx (y := (⟨"com/example/vestwright/vestwright/cli/TableRows$ByKey", "rows", "(I)[I"⟩ : MethodName)) (z := (⟨"com/example/vestwright/vestwright/cli/TableRows$ByKey", "rows", "(I)[I"⟩ : MethodName)) hown (mvT hZ (hw _ (List.mem_of_getElem? (i := 52) rfl))) (mvT hZ (hw _ (List.mem_of_getElem? (i := 53) rfl))) (notFace_of_selects (args := #[]) (mvT hZ (hw _ (List.mem_of_getElem? (i := 55) rfl)))) (mvT hZ (hw _ (List.mem_of_getElem? (i := 55) rfl))) (mvT hZ (hw _ (List.mem_of_getElem? (i := 54) rfl))) (by decide) (backOf (W := 0) (rm7 l Z a0 hw [] T474.heap n0 O474 gg464 2 ss464 rr464 kss464 krr464 (own_st kn [q0, q1, q2, q3]) (own_rw kn [q0, q1, q2, q3]) f524 f525 f522 f521 f526 (by show 2 + 1 < (own_p2 kn [q0, q1, q2, q3] kn).length; omega) (by show (own_p2 kn [q0, q1, q2, q3] kn).length ≤ 4; omega) u1523 (by show _ ≤ (own_p3 kn [q0, q1, q2, q3] ([q0, q1, q2, q3]).length).2.length; rw [v2523]; exact u2523) (by show (own_p3 kn [q0, q1, q2, q3] ([q0, q1, q2, q3]).length).2.length ≤ 4; rw [v2523]; show 4 ≤ 4; decide)) hZ (hw _ (List.mem_of_getElem? (i := 56) rfl)) (hw _ (List.mem_of_getElem? (i := 43) rfl)) (by decide) (by decide)) q527a q527c (g := (mkF m 302 #[.val (.int p0), .val (.int p1), .val (.int p2), .val (.int p3), .val (.int p4), .val (.int (4 : Int32)), .val (.int (Int32.ofNat (kn))), .val (.ref b101), .val (.ref b106), .val (.ref b109), .val (.int (1 : Int32)), .val (.ref gg464)] [(.int (2 : Int32)), (.ref gg464)])) rfl (by rw [hml]; rfl) (Steps.refl _) (argsL := [(.int (2 : Int32))]) (rest := []) (lenOf pd_7 rfl) rfl (by show 2 * 0 + _ ≤ _; exact Nat.le_of_eq rfl) (hb hby at_302) (fun _ _ => ⟨rfl, rfl, (by decide : 17 + 1 ≤ _), (by decide : 12326 + 4 ≤ _)⟩)
        dsimp only [Pt.U, Pt.locs, Pt.cells, Pt.slots] at X527 l527 y527 z527 st527 hQ527
        subst l527 y527 z527
        obtain ⟨b527, kb527, rfl, N527, K527, gb527, V527⟩ := hQ527
        have Nf527 := Fr.app Nf474 N527
        have O527 := O474.keep K527 all0
        have KK527 := KK474.trans K527 all0
        have ne_b101_b527 : b101 ≠ b527 := Nat.ne_of_lt (Nat.lt_of_lt_of_le f513.lt gb527)
        have ne_b106_b527 : b106 ≠ b527 := Nat.ne_of_lt (Nat.lt_of_lt_of_le f514.lt gb527)
        have ne_b109_b527 : b109 ≠ b527 := Nat.ne_of_lt (Nat.lt_of_lt_of_le f515.lt gb527)
        have ne_b472_b527 : b472 ≠ b527 := Nat.ne_of_lt (Nat.lt_of_lt_of_le f516.lt gb527)
        have ne_bb108_b527 : bb108 ≠ b527 := Nat.ne_of_lt (Nat.lt_of_lt_of_le f517.lt gb527)
        have ne_bk108_b527 : bk108 ≠ b527 := Nat.ne_of_lt (Nat.lt_of_lt_of_le f518.lt gb527)
        have ne_bs108_b527 : bs108 ≠ b527 := Nat.ne_of_lt (Nat.lt_of_lt_of_le f519.lt gb527)
        have ne_gg464_b527 : gg464 ≠ b527 := Nat.ne_of_lt (Nat.lt_of_lt_of_le f520.lt gb527)
        have ne_rr464_b527 : rr464 ≠ b527 := Nat.ne_of_lt (Nat.lt_of_lt_of_le f521.lt gb527)
        have ne_ss464_b527 : ss464 ≠ b527 := Nat.ne_of_lt (Nat.lt_of_lt_of_le f522.lt gb527)
        have ge_b527 : n0 ≤ b527 := Nat.le_trans (own_osz O474) gb527
        have gk_b527 : h0.size ≤ b527 := Nat.le_trans KK474.1 gb527
        rw [u3523] at V527
        refine own_go (S' := (T527.setTop (mkF m 310 #[.val (.int p0), .val (.int p1), .val (.int p2), .val (.int p3), .val (.int p4), .val (.int (4 : Int32)), .val (.int (Int32.ofNat (kn))), .val (.ref b101), .val (.ref b106), .val (.ref b109), .val (.int (1 : Int32)), .val (.ref gg464)] [(.int (2 : Int32)), (.int (4 : Int32)), (.ref b101), (.ref b527)]))) (fun tq kq => st527.trans (XS.aload X527.here hx rfl (hb hby at_305) rfl rfl (XS.iload X527.here hx rfl (hb hby at_307) rfl (XS.iconst X527.here hx rfl (hb hby at_309) kq)))) ?_
        have f528 := (f513.keep K527 nin0)
        obtain ⟨_, _, ⟨T529, L529, k529, n529⟩, -, X529, ⟨Lc529, hQ529, l529, y529, z529⟩, st529⟩ := Jvm.LawKit.callS X527 hx (y := (⟨"com/example/vestwright/vestwright/cli/TableRowsByKeyPinLaw", "same", "([I[III)Z"⟩ : MethodName)) hown (mvT hZ (hw _ (List.mem_of_getElem? (i := 69) rfl))) (mvT hZ (hw _ (List.mem_of_getElem? (i := 70) rfl))) (mvT hZ (hw _ (List.mem_of_getElem? (i := 71) rfl))) (mvT hZ (hw _ (List.mem_of_getElem? (i := 72) rfl))) (by decide) (backOf (W := 0) (rm9_4 l Z a0 hw [] T527.heap n0 O527 b527 b101 2 kb527 k101 q0 q1 q2 q3 V527 f528 (by omega)) hZ (hw _ (List.mem_of_getElem? (i := 72) rfl)) (hw _ (List.mem_of_getElem? (i := 71) rfl)) (by decide) (by decide)) (g := (mkF m 310 #[.val (.int p0), .val (.int p1), .val (.int p2), .val (.int p3), .val (.int p4), .val (.int (4 : Int32)), .val (.int (Int32.ofNat (kn))), .val (.ref b101), .val (.ref b106), .val (.ref b109), .val (.int (1 : Int32)), .val (.ref gg464)] [(.int (2 : Int32)), (.int (4 : Int32)), (.ref b101), (.ref b527)])) rfl (by rw [hml]; rfl) (argsL := [(.ref b527), (.ref b101), (.int (4 : Int32)), (.int (2 : Int32))]) (rest := []) (lenOf pd_8 rfl) rfl (by show 2 * 0 + _ ≤ _; exact Nat.le_of_eq rfl) (hb hby at_310) (fun _ _ => ⟨rfl, rfl, (by decide : 18 + 1 ≤ _), (by decide : 12330 + 4 ≤ _)⟩)
        dsimp only [Pt.U, Pt.locs, Pt.cells, Pt.slots] at X529 l529 y529 z529 st529 hQ529
        subst l529 y529 z529
        obtain ⟨rfl, N529, K529⟩ := hQ529
        have Nf529 := Fr.app Nf527 N529
        have O529 := O527.keep K529 all0
        have KK529 := KK527.trans K529 all0
        refine own_go (S' := (T529.setTop (mkF m 325 #[.val (.int p0), .val (.int p1), .val (.int p2), .val (.int p3), .val (.int p4), .val (.int (4 : Int32)), .val (.int (Int32.ofNat (kn))), .val (.ref b101), .val (.ref b106), .val (.ref b109), .val (.int (1 : Int32)), .val (.ref gg464)] [(.int (1 : Int32))]))) (fun tq kq => st529 tq (XS.ifNo X529.here hx rfl (hb hby at_313) rfl ((if0 _ _).trans (feq (by decide : ¬ ((1 : Int32) = (0 : Int32)))).1) (XS.iconst X529.here hx rfl (hb hby at_316) (XS.goto X529.here hx rfl (pc0 := 317) (pc' := 321) rfl (hb hby at_317) (by decide) (by decide) (XS.istore X529.here hx rfl (hb hby at_321) rfl (l' := #[.val (.int p0), .val (.int p1), .val (.int p2), .val (.int p3), .val (.int p4), .val (.int (4 : Int32)), .val (.int (Int32.ofNat (kn))), .val (.ref b101), .val (.ref b106), .val (.ref b109), .val (.int (1 : Int32)), .val (.ref gg464)]) rfl (XS.iload X529.here hx rfl (hb hby at_323) rfl kq)))))) ?_
        refine own_retN X529 hx hlk hret (by simp) (hb hby at_325) (by decide) (by decide) ?_
        exact ⟨rfl, Nf529⟩
      · refine own_go (S' := (T474.setTop (mkF m 325 #[.val (.int p0), .val (.int p1), .val (.int p2), .val (.int p3), .val (.int p4), .val (.int (4 : Int32)), .val (.int (Int32.ofNat (kn))), .val (.ref b101), .val (.ref b106), .val (.ref b109), .val (.int (1 : Int32)), .val (.ref gg464)] [(.int (1 : Int32))]))) (fun tq kq => XS.icmpYes X474.here hx rfl (pc0 := 291) (pc' := 323) rfl (hb hby at_291) rfl (flt hc512).2.2.2 (by decide) (by decide) (XS.iload X474.here hx rfl (hb hby at_323) rfl kq)) ?_
        refine own_retN X474 hx hlk hret (by simp) (hb hby at_325) (by decide) (by decide) ?_
        exact ⟨rfl, Nf474⟩
set_option maxRecDepth 65536 in
set_option maxHeartbeats 40000000 in
theorem comes_1 {Post : Tables → Env → Array Value → State → Outcome → State → Prop} (hpost : ∀ tb e args s v u, (limb_1_1.after args s (.returned v) u = true ∧ limb_1_2.after args s (.returned v) u = true ∧ True) → FrameEnd s (.returned v) u (Jvm.fieldLocs frame_1_writes args s ++ Jvm.arrayLocs frame_1_arrays args s ++ Jvm.staticLocs frame_1_statics s) 48 24768 → Post tb e args s (.returned v) u) :
    ArmFor flags0 classFile x code maxLocals ret World_1 tables_1 room_1 Calls_1 rest_1 Pre_1 Post := by
  intro l hfl _ _ p e ha hc hk s m args below hf hA hF happ hP
  obtain ⟨hcalls, hrest, hpre⟩ := hP
  obtain ⟨-, -, -, hnamed, -, -, -, hat⟩ := (Spec.applies_iff hf).mp happ
  obtain ⟨hg, hn⟩ := and_e (Cond.before_iff.mp (show (Jvm.Cond.and given_1 narrow_1).before args s = true from hpre))
  obtain ⟨hcount, hg0⟩ := and_e hg
  obtain ⟨ga0, hg1⟩ := and_e hg0
  obtain ⟨ga1, hg2⟩ := and_e hg1
  obtain ⟨ga2, hg3⟩ := and_e hg2
  obtain ⟨ga3, hg4⟩ := and_e hg3
  have ga4 := hg4
  obtain ⟨w0, w1, w2, w3, w4, rfl⟩ : ∃ w0 w1 w2 w3 w4 : Value, args = #[w0, w1, w2, w3, w4] := by
    have hs : args.size = 5 := by simpa [Cond.value, given_1] using hcount
    obtain ⟨L⟩ := args
    match L, hs with
    | [w0, w1, w2, w3, w4], _ => exact ⟨w0, w1, w2, w3, w4, rfl⟩
  have hw := fun d (hd : d ∈ tables_1) => atoms_spec (ws := Jvm.Cond.code x code maxLocals ret :: tables_1) hat d (List.mem_cons_of_mem _ hd)
  have hfit : Fit s := fun {y c} hc i hi => by
    obtain ⟨ha, rfl⟩ := Array.getElem?_eq_some_iff.mp hc
    have q := List.all_eq_true.mp ((Array.all_eq_true_iff_forall_mem.mp hF) _ (Array.getElem_mem ha)) i (List.mem_range.mpr hi)
    simpa [Array.getElem?_eq_getElem hi] using q
  obtain ⟨i0, ei0⟩ := is_v ga0
  obtain rfl : w0 = (.int i0) := Option.some.inj ei0
  obtain ⟨i1, ei1⟩ := is_v ga1
  obtain rfl : w1 = (.int i1) := Option.some.inj ei1
  obtain ⟨i2, ei2⟩ := is_v ga2
  obtain rfl : w2 = (.int i2) := Option.some.inj ei2
  obtain ⟨i3, ei3⟩ := is_v ga3
  obtain rfl : w3 = (.int i3) := Option.some.inj ei3
  obtain ⟨i4, ei4⟩ := is_v ga4
  obtain rfl : w4 = (.int i4) := Option.some.inj ei4
  obtain ⟨n, o, h1, h2, h3, _, L, rfl, ⟨rfl, N⟩, hq⟩ := rm0 l s _ hw tables_1 s.heap s.heap.size (Old.start s) i0 i1 i2 i3 i4  p e ha hc hk s m _ below hf ((Spec.applies_iff_loose hf).mp happ).1 ⟨rfl, State.Warmed39.refl s, rfl⟩ trivial
  refine ⟨n, _, h1, h2, h3, hpost _ _ _ _ _ _ ⟨Cond.after_iff.mpr rfl, Cond.after_iff.mpr (eq_i res_at (Term.int_eval (1)) rfl), trivial⟩ ⟨hq.1, hq.2.1, (hq.2.2.sift fun y hy => Or.inr (N y hy)).mono (by decide) (by decide)⟩⟩
theorem main_1_1 : Claimed_1_1 := comes_1 fun _ _ _ _ _ _ h hF => ⟨h.1, hF⟩
theorem main_1_2 : Claimed_1_2 := comes_1 fun _ _ _ _ _ _ h hF => ⟨h.2.1, hF⟩
end Jvm.Pilot.@@N@@
namespace Jvm.Pilot.@@N@@
open Jvm Jvm.ClassFile Sem Op Lib Jvm.Free Jvm.Stand Jvm.Pilot.@@N@@.Jvm.D
/-! MADE BY PROGRAM (witnessworld.py) out of the Statement's table words and the real class files: 20 classes; the members and pool entries that the words name. The judged class is class 1, her method 1. -/
namespace start1
open Jvm.ClassFile
def u (s : String) : CpInfo := .utf8 (stringToUtf16 s)
/-- a pool by its gaps: so many unusable entries, then the entry; so many at the end -/
def gap : Nat → List CpInfo → List CpInfo
  | 0, r => r
  | n + 1, r => .unusable :: gap n r
def poolList (es : List (Nat × CpInfo)) (last : Nat) : List CpInfo := es.foldr (fun e r => gap e.1 (e.2 :: r)) (gap last [])
def pool (es : List (Nat × CpInfo)) (last : Nat) : Array CpInfo := ⟨poolList es last⟩
def fileOf (pool : Array CpInfo) (this : Nat) (attrs : Array Attribute := #[]) (ms : Array MethodInfo := #[]) (fl : Nat := 33) (sup : Nat := 0) (ifs : Array Nat := #[]) (fds : Array FieldInfo := #[]) : ClassFile where
  minorVersion := 0
  majorVersion := 65
  constantPool := pool
  accessFlags := fl
  thisClass := this
  superClass := sup
  interfaces := ifs
  fields := fds
  methods := ms
  attributes := attrs
def plain (name : String) (sup : Option ClassId) : Class where
  name := name
  kind := .ordinary
  loader := none
  accessFlags := 33
  super := sup
  interfaces := #[]
  cf := none
  fields := #[]
  methods := #[]
  instanceTypes := #[]
  staticTypes := #[]
  resolved := #[]
  callSites := []
  init := .initialized
  statics := none
  mirror := none

def pool0 : Array CpInfo := pool [(5, u "<init>"), (0, u "()V"), (1, .class_ 10), (1, u "java/lang/Object"), (85, u "clone"), (0, u "()Ljava/lang/Object;")] 26

def k0c0 : Code := { maxStack := 0, maxLocals := 1, code := object_method_1_code, exceptionTable := #[], attributes := #[] }
def k0m0 : Method := { name := "<init>", desc := "()V", sig := { parameters := [], returnType := none }, accessFlags := 1, code := some k0c0 }
def k0m1 : Method := { name := "clone", desc := "()Ljava/lang/Object;", sig := { parameters := [], returnType := some (.object "java/lang/Object") }, accessFlags := 260, code := none }
/-- java/lang/Object -/
def k0 : Class := { plain "java/lang/Object" none with
  accessFlags := 33
  interfaces := #[]
  cf := some (fileOf pool0 8 #[] #[{ accessFlags := 1, nameIndex := 5, descriptorIndex := 6, attributes := #[] }, { accessFlags := 260, nameIndex := 96, descriptorIndex := 97, attributes := #[] }] 33 0 #[] #[])
  fields := #[]
  methods := #[k0m0, k0m1]
  instanceTypes := #[]
  staticTypes := #[]
  resolved := Array.replicate 124 none
  statics := none }

def pool1 : Array CpInfo := pool [(2, .class_ 4), (1, u "java/lang/Object"), (0, u "<init>"), (0, u "()V"), (0, .integer 2147483647), (0, .class_ 9), (0, u "com/example/vestwright/vestwright/cli/TableRows"), (0, .methodref 8 11), (0, .nameAndType 5 12), (0, u "(I)V"), (0, .class_ 14), (0, u "java/lang/String"), (0, .methodref 8 16), (0, .nameAndType 17 18), (0, u "add"), (0, u "([Ljava/lang/String;I)Z"), (0, .methodref 8 20), (0, .nameAndType 21 22), (0, u "byKey"), (0, u "(I)Lcom/example/vestwright/vestwright/cli/TableRows$ByKey;"), (0, .methodref 24 25), (0, .class_ 26), (0, .nameAndType 27 28), (0, u "com/example/vestwright/vestwright/cli/TableRows$ByKey"), (0, u "rows"), (0, u "(I)[I"), (0, .methodref 30 31), (0, .class_ 32), (0, .nameAndType 33 34), (0, u "com/example/vestwright/vestwright/cli/TableRowsByKeyPinLaw"), (0, u "same"), (0, u "([I[III)Z"), (2, u "law"), (0, u "(IIIII)Z")] 9

def k1m0 : Method := { name := "<init>", desc := "()V", sig := { parameters := [], returnType := none }, accessFlags := 1, code := none }
def k1c1 : Code := { maxStack := 4, maxLocals := 12, code := code, exceptionTable := #[], attributes := #[] }
def k1m1 : Method := { name := "law", desc := "(IIIII)Z", sig := { parameters := [.int, .int, .int, .int, .int], returnType := some .boolean }, accessFlags := 9, code := some k1c1 }
def k1c2 : Code := { maxStack := 3, maxLocals := 6, code := method_3_code, exceptionTable := #[], attributes := #[] }
def k1m2 : Method := { name := "same", desc := "([I[III)Z", sig := { parameters := [(.array .int), (.array .int), .int, .int], returnType := some .boolean }, accessFlags := 10, code := some k1c2 }
/-- com/example/vestwright/vestwright/cli/TableRowsByKeyPinLaw -/
def k1 : Class := { plain "com/example/vestwright/vestwright/cli/TableRowsByKeyPinLaw" (some 0) with
  accessFlags := 49
  interfaces := #[]
  cf := some (fileOf pool1 30 #[] #[{ accessFlags := 1, nameIndex := 5, descriptorIndex := 6, attributes := #[] }, { accessFlags := 9, nameIndex := 37, descriptorIndex := 38, attributes := #[] }, { accessFlags := 10, nameIndex := 33, descriptorIndex := 34, attributes := #[] }] 49 2 #[] #[])
  fields := #[]
  methods := #[k1m0, k1m1, k1m2]
  instanceTypes := #[]
  staticTypes := #[]
  resolved := Array.replicate 48 none
  statics := none }

def pool2 : Array CpInfo := pool [(3, .class_ 4), (0, u "com/example/vestwright/vestwright/cli/TableRows"), (0, .methodref 6 7), (0, .class_ 8), (0, .nameAndType 9 10), (0, u "java/lang/Object"), (0, u "<init>"), (0, u "()V"), (0, .fieldref 3 12), (0, .nameAndType 13 14), (0, u "bytes"), (0, u "[B"), (0, .fieldref 3 16), (0, .nameAndType 17 18), (0, u "starts"), (0, u "[I"), (0, .fieldref 3 20), (0, .nameAndType 21 18), (0, u "keys"), (0, .fieldref 3 23), (0, .nameAndType 24 25), (0, u "width"), (0, u "I"), (0, .class_ 14), (12, .integer 2147483639), (0, .fieldref 3 41), (0, .nameAndType 42 25), (0, u "used"), (0, .methodref 3 44), (0, .nameAndType 45 46), (0, u "ensureRoom"), (0, u "(I)V"), (0, .fieldref 3 48), (0, .nameAndType 49 25), (0, u "size"), (12, .methodref 63 64), (0, .class_ 65), (0, .nameAndType 66 67), (0, u "java/util/Arrays"), (0, u "copyOf"), (0, u "([II)[I"), (0, .class_ 69), (0, u "com/example/vestwright/vestwright/cli/TableRows$ByKey"), (0, .methodref 68 71), (0, .nameAndType 9 72), (0, u "([I[I)V"), (0, .long 2147483639), (1, .long 2), (13, u "ROOM"), (2, u "MOST_BYTES"), (0, u "LENGTH_BITS"), (1, u "MORE"), (1, u "LONGEST_LENGTH"), (3, u "add"), (0, u "([Ljava/lang/String;I)Z"), (10, u "byKey"), (0, u "(I)Lcom/example/vestwright/vestwright/cli/TableRows$ByKey;")] 6

def k2c0 : Code := { maxStack := 2, maxLocals := 2, code := prog_15_method_1_code, exceptionTable := #[], attributes := #[] }
def k2m0 : Method := { name := "<init>", desc := "(I)V", sig := { parameters := [.int], returnType := none }, accessFlags := 0, code := some k2c0 }
def k2c1 : Code := { maxStack := 5, maxLocals := 11, code := prog_15_method_2_code, exceptionTable := #[], attributes := #[] }
def k2m1 : Method := { name := "add", desc := "([Ljava/lang/String;I)Z", sig := { parameters := [(.array (.object "java/lang/String")), .int], returnType := some .boolean }, accessFlags := 0, code := some k2c1 }
def k2c2 : Code := { maxStack := 6, maxLocals := 6, code := prog_15_method_6_code, exceptionTable := #[], attributes := #[] }
def k2m2 : Method := { name := "byKey", desc := "(I)Lcom/example/vestwright/vestwright/cli/TableRows$ByKey;", sig := { parameters := [.int], returnType := some (.object "com/example/vestwright/vestwright/cli/TableRows$ByKey") }, accessFlags := 0, code := some k2c2 }
def k2c3 : Code := { maxStack := 10, maxLocals := 3, code := prog_15_method_8_code, exceptionTable := #[], attributes := #[] }
def k2m3 : Method := { name := "ensureRoom", desc := "(I)V", sig := { parameters := [.int], returnType := none }, accessFlags := 2, code := some k2c3 }
/-- com/example/vestwright/vestwright/cli/TableRows -/
def k2 : Class := { plain "com/example/vestwright/vestwright/cli/TableRows" (some 0) with
  accessFlags := 48
  interfaces := #[]
  cf := some (fileOf pool2 3 #[.nestMembers #[68]] #[{ accessFlags := 0, nameIndex := 9, descriptorIndex := 46, attributes := #[] }, { accessFlags := 0, nameIndex := 101, descriptorIndex := 102, attributes := #[] }, { accessFlags := 0, nameIndex := 113, descriptorIndex := 114, attributes := #[] }, { accessFlags := 2, nameIndex := 45, descriptorIndex := 46, attributes := #[] }] 48 6 #[] #[{ accessFlags := 26, nameIndex := 89, descriptorIndex := 25, attributes := #[] }, { accessFlags := 26, nameIndex := 92, descriptorIndex := 25, attributes := #[] }, { accessFlags := 26, nameIndex := 93, descriptorIndex := 25, attributes := #[] }, { accessFlags := 26, nameIndex := 95, descriptorIndex := 25, attributes := #[] }, { accessFlags := 26, nameIndex := 97, descriptorIndex := 25, attributes := #[] }, { accessFlags := 18, nameIndex := 24, descriptorIndex := 25, attributes := #[] }, { accessFlags := 2, nameIndex := 13, descriptorIndex := 14, attributes := #[] }, { accessFlags := 2, nameIndex := 42, descriptorIndex := 25, attributes := #[] }, { accessFlags := 2, nameIndex := 17, descriptorIndex := 18, attributes := #[] }, { accessFlags := 2, nameIndex := 21, descriptorIndex := 18, attributes := #[] }, { accessFlags := 2, nameIndex := 49, descriptorIndex := 25, attributes := #[] }])
  fields := #[{ name := "ROOM", type := .int, accessFlags := 26, slot := 0, constantValue := 0 }, { name := "MOST_BYTES", type := .int, accessFlags := 26, slot := 1, constantValue := 0 }, { name := "LENGTH_BITS", type := .int, accessFlags := 26, slot := 2, constantValue := 0 }, { name := "MORE", type := .int, accessFlags := 26, slot := 3, constantValue := 0 }, { name := "LONGEST_LENGTH", type := .int, accessFlags := 26, slot := 4, constantValue := 0 }, { name := "width", type := .int, accessFlags := 18, slot := 0, constantValue := 0 }, { name := "bytes", type := (.array .byte), accessFlags := 2, slot := 1, constantValue := 0 }, { name := "used", type := .int, accessFlags := 2, slot := 2, constantValue := 0 }, { name := "starts", type := (.array .int), accessFlags := 2, slot := 3, constantValue := 0 }, { name := "keys", type := (.array .int), accessFlags := 2, slot := 4, constantValue := 0 }, { name := "size", type := .int, accessFlags := 2, slot := 5, constantValue := 0 }]
  methods := #[k2m0, k2m1, k2m2, k2m3]
  instanceTypes := #[.int, (.array .byte), .int, (.array .int), (.array .int), .int]
  staticTypes := #[.int, .int, .int, .int, .int]
  resolved := ((Array.replicate 121 none).setIfInBounds 70 (some (.method ⟨12, 0⟩))).setIfInBounds 68 (some (.cls 12))
  statics := none }

def pool3 : Array CpInfo := pool [(1, .class_ 2), (0, u "java/io/Serializable"), (0, .class_ 4), (0, u "java/lang/Object")] 2

/-- java/io/Serializable -/
def k3 : Class := { plain "java/io/Serializable" (some 0) with
  accessFlags := 1537
  interfaces := #[]
  cf := some (fileOf pool3 1 #[] #[] 1537 3 #[] #[])
  fields := #[]
  methods := #[]
  instanceTypes := #[]
  staticTypes := #[]
  resolved := Array.replicate 7 none
  statics := none }

def pool4 : Array CpInfo := pool [(1, .class_ 2), (0, u "java/lang/Comparable"), (0, .class_ 4), (0, u "java/lang/Object")] 7

/-- java/lang/Comparable -/
def k4 : Class := { plain "java/lang/Comparable" (some 0) with
  accessFlags := 1537
  interfaces := #[]
  cf := some (fileOf pool4 1 #[] #[] 1537 3 #[] #[])
  fields := #[]
  methods := #[]
  instanceTypes := #[]
  staticTypes := #[]
  resolved := Array.replicate 12 none
  statics := none }

def pool5 : Array CpInfo := pool [(2, .class_ 4), (1, u "java/lang/CharSequence"), (42, .class_ 48), (0, u "java/lang/CharSequence$1CodePointIterator"), (10, .class_ 60), (0, u "java/lang/CharSequence$1CharIterator"), (5, .class_ 67), (0, u "java/lang/Object")] 63

/-- java/lang/CharSequence -/
def k5 : Class := { plain "java/lang/CharSequence" (some 0) with
  accessFlags := 1537
  interfaces := #[]
  cf := some (fileOf pool5 2 #[.nestMembers #[47, 59]] #[] 1537 66 #[] #[])
  fields := #[]
  methods := #[]
  instanceTypes := #[]
  staticTypes := #[]
  resolved := Array.replicate 131 none
  statics := none }

def pool6 : Array CpInfo := pool [(1, .class_ 2), (0, u "java/lang/constant/Constable"), (0, .class_ 4), (0, u "java/lang/Object")] 6

/-- java/lang/constant/Constable -/
def k6 : Class := { plain "java/lang/constant/Constable" (some 0) with
  accessFlags := 1537
  interfaces := #[]
  cf := some (fileOf pool6 1 #[] #[] 1537 3 #[] #[])
  fields := #[]
  methods := #[]
  instanceTypes := #[]
  staticTypes := #[]
  resolved := Array.replicate 11 none
  statics := none }

def pool7 : Array CpInfo := pool [(1, .class_ 2), (0, u "java/lang/constant/ConstantDesc"), (0, .class_ 4), (0, u "java/lang/Object")] 32

/-- java/lang/constant/ConstantDesc -/
def k7 : Class := { plain "java/lang/constant/ConstantDesc" (some 0) with
  accessFlags := 1537
  interfaces := #[]
  cf := some (fileOf pool7 1 #[] #[] 1537 3 #[] #[])
  fields := #[]
  methods := #[]
  instanceTypes := #[]
  staticTypes := #[]
  resolved := Array.replicate 37 none
  statics := none }

def pool8 : Array CpInfo := pool [(2, .class_ 4), (1, u "java/lang/Object"), (0, u "<init>"), (0, u "()V"), (3, .class_ 12), (1, u "java/lang/String"), (0, u "value"), (0, u "[B"), (2, u "coder"), (0, u "B"), (2, u "hash"), (0, u "I"), (2, u "hashIsZero"), (0, u "Z"), (13, u "COMPACT_STRINGS"), (534, .class_ 576), (0, u "java/lang/CharSequence"), (22, u "CASE_INSENSITIVE_ORDER"), (0, u "Ljava/util/Comparator;"), (500, u "serialPersistentFields"), (0, u "[Ljava/io/ObjectStreamField;"), (0, .class_ 1104), (0, u "java/lang/String$CaseInsensitiveComparator"), (1, .class_ 1107), (0, u "java/io/Serializable"), (0, .class_ 1109), (0, u "java/lang/Comparable"), (0, .class_ 1111), (0, u "java/lang/constant/Constable"), (0, .class_ 1113), (0, u "java/lang/constant/ConstantDesc"), (2, u "serialVersionUID"), (0, u "J"), (3, u "REPL"), (0, u "C"), (2, u "LATIN1"), (1, u "UTF16")] 323

def k8m0 : Method := { name := "<init>", desc := "()V", sig := { parameters := [], returnType := none }, accessFlags := 1, code := none }
/-- java/lang/String -/
def k8 : Class := { plain "java/lang/String" (some 0) with
  accessFlags := 49
  interfaces := #[3, 4, 5, 6, 7]
  cf := some (fileOf pool8 10 #[.nestMembers #[1103]] #[{ accessFlags := 1, nameIndex := 5, descriptorIndex := 6, attributes := #[] }] 49 2 #[1106, 1108, 575, 1110, 1112] #[{ accessFlags := 18, nameIndex := 13, descriptorIndex := 14, attributes := #[] }, { accessFlags := 18, nameIndex := 17, descriptorIndex := 18, attributes := #[] }, { accessFlags := 2, nameIndex := 21, descriptorIndex := 22, attributes := #[] }, { accessFlags := 2, nameIndex := 25, descriptorIndex := 26, attributes := #[] }, { accessFlags := 26, nameIndex := 1116, descriptorIndex := 1117, attributes := #[] }, { accessFlags := 24, nameIndex := 40, descriptorIndex := 26, attributes := #[] }, { accessFlags := 26, nameIndex := 1101, descriptorIndex := 1102, attributes := #[] }, { accessFlags := 26, nameIndex := 1121, descriptorIndex := 1122, attributes := #[] }, { accessFlags := 25, nameIndex := 599, descriptorIndex := 600, attributes := #[] }, { accessFlags := 24, nameIndex := 1125, descriptorIndex := 18, attributes := #[] }, { accessFlags := 24, nameIndex := 1127, descriptorIndex := 18, attributes := #[] }])
  fields := #[{ name := "value", type := (.array .byte), accessFlags := 18, slot := 0, constantValue := 0 }, { name := "coder", type := .byte, accessFlags := 18, slot := 1, constantValue := 0 }, { name := "hash", type := .int, accessFlags := 2, slot := 2, constantValue := 0 }, { name := "hashIsZero", type := .boolean, accessFlags := 2, slot := 3, constantValue := 0 }, { name := "serialVersionUID", type := .long, accessFlags := 26, slot := 0, constantValue := 0 }, { name := "COMPACT_STRINGS", type := .boolean, accessFlags := 24, slot := 1, constantValue := 0 }, { name := "serialPersistentFields", type := (.array (.object "java/io/ObjectStreamField")), accessFlags := 26, slot := 2, constantValue := 0 }, { name := "REPL", type := .char, accessFlags := 26, slot := 3, constantValue := 0 }, { name := "CASE_INSENSITIVE_ORDER", type := (.object "java/util/Comparator"), accessFlags := 25, slot := 4, constantValue := 0 }, { name := "LATIN1", type := .byte, accessFlags := 24, slot := 5, constantValue := 0 }, { name := "UTF16", type := .byte, accessFlags := 24, slot := 6, constantValue := 0 }]
  methods := #[k8m0]
  instanceTypes := #[(.array .byte), .byte, .int, .boolean]
  staticTypes := #[.long, .boolean, (.array (.object "java/io/ObjectStreamField")), .char, (.object "java/util/Comparator"), .byte, .byte]
  resolved := Array.replicate 1451 none
  statics := none }

def pool9 : Array CpInfo := pool [(2, .class_ 4), (1, u "java/lang/Object"), (0, u "<init>"), (0, u "()V"), (7, .class_ 16), (1, u "java/util/Arrays"), (57, .class_ 76), (1, u "java/util/Arrays$NaturalOrder"), (32, u "()Ljava/lang/Object;"), (3, .class_ 115), (1, u "java/util/Arrays$LegacyMergeSort"), (1, u "Z"), (10, .nameAndType 129 109), (0, u "clone"), (9, u "copyOfRange"), (10, .methodref 151 152), (0, .class_ 153), (0, .nameAndType 154 155), (0, u "java/lang/System"), (0, u "arraycopy"), (0, u "(Ljava/lang/Object;ILjava/lang/Object;II)V"), (146, u "copyOf"), (1, .methodref 305 306), (0, .class_ 307), (0, .nameAndType 308 309), (0, u "java/lang/Math"), (0, u "min"), (0, u "(II)I"), (6, .methodref 317 128), (0, .class_ 318), (0, u "[I"), (24, .methodref 14 344), (0, .nameAndType 345 346), (0, u "checkLength"), (0, u "(II)V"), (4, .methodref 14 352), (0, .nameAndType 353 354), (0, u "copyOfRangeInt"), (0, u "([III)[I"), (20, .class_ 376), (0, u "java/util/Arrays$ArrayList"), (68, u "$assertionsDisabled"), (269, u "MIN_ARRAY_SORT_GRAN"), (0, u "I"), (2, u "INSERTIONSORT_THRESHOLD"), (151, u "([II)[I"), (103, .class_ 976), (0, u "java/util/Arrays$ArrayItr")] 52

def k9m0 : Method := { name := "<init>", desc := "()V", sig := { parameters := [], returnType := none }, accessFlags := 2, code := none }
def k9c1 : Code := { maxStack := 6, maxLocals := 3, code := jdk_65_method_123_code, exceptionTable := #[], attributes := #[] }
def k9m1 : Method := { name := "copyOf", desc := "([II)[I", sig := { parameters := [(.array .int), .int], returnType := some (.array .int) }, accessFlags := 9, code := some k9c1 }
def k9c2 : Code := { maxStack := 4, maxLocals := 2, code := jdk_65_method_131_code, exceptionTable := #[], attributes := #[] }
def k9m2 : Method := { name := "checkLength", desc := "(II)V", sig := { parameters := [.int, .int], returnType := none }, accessFlags := 10, code := some k9c2 }
def k9c3 : Code := { maxStack := 3, maxLocals := 3, code := jdk_65_method_136_code, exceptionTable := #[], attributes := #[] }
def k9m3 : Method := { name := "copyOfRange", desc := "([III)[I", sig := { parameters := [(.array .int), .int, .int], returnType := some (.array .int) }, accessFlags := 9, code := some k9c3 }
def k9c4 : Code := { maxStack := 6, maxLocals := 5, code := jdk_65_method_137_code, exceptionTable := #[], attributes := #[] }
def k9m4 : Method := { name := "copyOfRangeInt", desc := "([III)[I", sig := { parameters := [(.array .int), .int, .int], returnType := some (.array .int) }, accessFlags := 10, code := some k9c4 }
/-- java/util/Arrays -/
def k9 : Class := { plain "java/util/Arrays" (some 0) with
  accessFlags := 49
  interfaces := #[]
  cf := some (fileOf pool9 14 #[.nestMembers #[975, 375, 113, 74]] #[{ accessFlags := 2, nameIndex := 5, descriptorIndex := 6, attributes := #[] }, { accessFlags := 9, nameIndex := 302, descriptorIndex := 871, attributes := #[] }, { accessFlags := 10, nameIndex := 345, descriptorIndex := 346, attributes := #[] }, { accessFlags := 9, nameIndex := 139, descriptorIndex := 354, attributes := #[] }, { accessFlags := 10, nameIndex := 353, descriptorIndex := 354, attributes := #[] }] 49 2 #[] #[{ accessFlags := 26, nameIndex := 715, descriptorIndex := 716, attributes := #[] }, { accessFlags := 26, nameIndex := 719, descriptorIndex := 716, attributes := #[] }, { accessFlags := 4120, nameIndex := 445, descriptorIndex := 117, attributes := #[] }])
  fields := #[{ name := "MIN_ARRAY_SORT_GRAN", type := .int, accessFlags := 26, slot := 0, constantValue := 0 }, { name := "INSERTIONSORT_THRESHOLD", type := .int, accessFlags := 26, slot := 1, constantValue := 0 }, { name := "$assertionsDisabled", type := .boolean, accessFlags := 4120, slot := 2, constantValue := 0 }]
  methods := #[k9m0, k9m1, k9m2, k9m3, k9m4]
  instanceTypes := #[]
  staticTypes := #[.int, .int, .boolean]
  resolved := Array.replicate 1029 none
  statics := none }

def pool10 : Array CpInfo := pool [(1, .class_ 2), (0, u "java/lang/Math"), (1, .class_ 6), (1, u "java/lang/Object"), (0, u "<init>"), (0, u "()V"), (89, .class_ 100), (1, u "java/lang/Math$RandomNumberGeneratorHolder"), (71, u "negativeZeroFloatBits"), (0, u "J"), (2, u "negativeZeroDoubleBits"), (24, u "min"), (43, u "$assertionsDisabled"), (0, u "Z"), (88, u "(II)I"), (2, u "twoToTheDoubleScaleDown"), (0, u "D"), (4, u "twoToTheDoubleScaleUp"), (9, u "E"), (3, u "PI"), (2, u "TAU"), (2, u "DEGREES_TO_RADIANS"), (0, u "RADIANS_TO_DEGREES")] 94

def k10m0 : Method := { name := "<init>", desc := "()V", sig := { parameters := [], returnType := none }, accessFlags := 2, code := none }
def k10c1 : Code := { maxStack := 2, maxLocals := 2, code := jdk_29_method_69_code, exceptionTable := #[], attributes := #[] }
def k10m1 : Method := { name := "min", desc := "(II)I", sig := { parameters := [.int, .int], returnType := some .int }, accessFlags := 9, code := some k10c1 }
/-- java/lang/Math -/
def k10 : Class := { plain "java/lang/Math" (some 0) with
  accessFlags := 49
  interfaces := #[]
  cf := some (fileOf pool10 1 #[.nestMembers #[98]] #[{ accessFlags := 2, nameIndex := 7, descriptorIndex := 8, attributes := #[] }, { accessFlags := 9, nameIndex := 201, descriptorIndex := 335, attributes := #[] }] 49 4 #[] #[{ accessFlags := 25, nameIndex := 354, descriptorIndex := 339, attributes := #[] }, { accessFlags := 25, nameIndex := 358, descriptorIndex := 339, attributes := #[] }, { accessFlags := 25, nameIndex := 361, descriptorIndex := 339, attributes := #[] }, { accessFlags := 26, nameIndex := 364, descriptorIndex := 339, attributes := #[] }, { accessFlags := 26, nameIndex := 365, descriptorIndex := 339, attributes := #[] }, { accessFlags := 26, nameIndex := 172, descriptorIndex := 173, attributes := #[] }, { accessFlags := 26, nameIndex := 176, descriptorIndex := 173, attributes := #[] }, { accessFlags := 8, nameIndex := 344, descriptorIndex := 339, attributes := #[] }, { accessFlags := 8, nameIndex := 338, descriptorIndex := 339, attributes := #[] }, { accessFlags := 4120, nameIndex := 245, descriptorIndex := 246, attributes := #[] }])
  fields := #[{ name := "E", type := .double, accessFlags := 25, slot := 0, constantValue := 0 }, { name := "PI", type := .double, accessFlags := 25, slot := 1, constantValue := 0 }, { name := "TAU", type := .double, accessFlags := 25, slot := 2, constantValue := 0 }, { name := "DEGREES_TO_RADIANS", type := .double, accessFlags := 26, slot := 3, constantValue := 0 }, { name := "RADIANS_TO_DEGREES", type := .double, accessFlags := 26, slot := 4, constantValue := 0 }, { name := "negativeZeroFloatBits", type := .long, accessFlags := 26, slot := 5, constantValue := 0 }, { name := "negativeZeroDoubleBits", type := .long, accessFlags := 26, slot := 6, constantValue := 0 }, { name := "twoToTheDoubleScaleUp", type := .double, accessFlags := 8, slot := 7, constantValue := 0 }, { name := "twoToTheDoubleScaleDown", type := .double, accessFlags := 8, slot := 8, constantValue := 0 }, { name := "$assertionsDisabled", type := .boolean, accessFlags := 4120, slot := 9, constantValue := 0 }]
  methods := #[k10m0, k10m1]
  instanceTypes := #[]
  staticTypes := #[.double, .double, .double, .double, .double, .long, .long, .double, .double, .boolean]
  resolved := Array.replicate 460 none
  statics := none }

def pool11 : Array CpInfo := pool [(2, .class_ 4), (1, u "java/lang/Object"), (0, u "<init>"), (0, u "()V"), (1, .class_ 10), (1, u "java/lang/System"), (0, u "allowSecurityManager"), (0, u "I"), (16, u "cons"), (0, u "Ljava/io/Console;"), (77, .class_ 110), (1, u "java/lang/System$CallersHolder"), (43, u "initialErrStream"), (0, u "Ljava/io/PrintStream;"), (19, u "security"), (0, u "Ljava/lang/SecurityManager;"), (31, .class_ 209), (0, u "java/lang/System$1"), (7, u "props"), (0, u "Ljava/util/Properties;"), (2, u "lineSeparator"), (0, u "Ljava/lang/String;"), (96, .class_ 321), (1, u "java/lang/System$LoggerFinder"), (5, .class_ 328), (0, u "java/lang/System$Logger"), (67, u "err"), (2, u "out"), (91, u "notSupportedJnuEncoding"), (15, u "in"), (17, u "initialIn"), (0, u "Ljava/io/InputStream;"), (35, u "bootLayer"), (0, u "Ljava/lang/ModuleLayer;"), (99, .class_ 664), (0, u "java/lang/System$2"), (9, u "NEVER"), (2, u "MAYBE"), (49, u "arraycopy"), (0, u "(Ljava/lang/Object;ILjava/lang/Object;II)V"), (72, .class_ 802), (0, u "java/lang/System$Logger$Level")] 31

def k11m0 : Method := { name := "<init>", desc := "()V", sig := { parameters := [], returnType := none }, accessFlags := 2, code := none }
def k11m1 : Method := { name := "arraycopy", desc := "(Ljava/lang/Object;ILjava/lang/Object;II)V", sig := { parameters := [(.object "java/lang/Object"), .int, (.object "java/lang/Object"), .int, .int], returnType := none }, accessFlags := 265, code := none }
/-- java/lang/System -/
def k11 : Class := { plain "java/lang/System" (some 0) with
  accessFlags := 49
  interfaces := #[]
  cf := some (fileOf pool11 8 #[.nestMembers #[319, 327, 801, 108, 663, 208]] #[{ accessFlags := 2, nameIndex := 5, descriptorIndex := 6, attributes := #[] }, { accessFlags := 265, nameIndex := 727, descriptorIndex := 728, attributes := #[] }] 49 2 #[] #[{ accessFlags := 25, nameIndex := 507, descriptorIndex := 526, attributes := #[] }, { accessFlags := 25, nameIndex := 399, descriptorIndex := 155, attributes := #[] }, { accessFlags := 25, nameIndex := 396, descriptorIndex := 155, attributes := #[] }, { accessFlags := 10, nameIndex := 525, descriptorIndex := 526, attributes := #[] }, { accessFlags := 26, nameIndex := 674, descriptorIndex := 12, attributes := #[] }, { accessFlags := 26, nameIndex := 677, descriptorIndex := 12, attributes := #[] }, { accessFlags := 10, nameIndex := 11, descriptorIndex := 12, attributes := #[] }, { accessFlags := 74, nameIndex := 175, descriptorIndex := 176, attributes := #[] }, { accessFlags := 10, nameIndex := 491, descriptorIndex := 222, attributes := #[] }, { accessFlags := 74, nameIndex := 29, descriptorIndex := 30, attributes := #[] }, { accessFlags := 74, nameIndex := 154, descriptorIndex := 155, attributes := #[] }, { accessFlags := 10, nameIndex := 217, descriptorIndex := 218, attributes := #[] }, { accessFlags := 10, nameIndex := 221, descriptorIndex := 222, attributes := #[] }, { accessFlags := 8, nameIndex := 562, descriptorIndex := 563, attributes := #[] }])
  fields := #[{ name := "in", type := (.object "java/io/InputStream"), accessFlags := 25, slot := 0, constantValue := 0 }, { name := "out", type := (.object "java/io/PrintStream"), accessFlags := 25, slot := 1, constantValue := 0 }, { name := "err", type := (.object "java/io/PrintStream"), accessFlags := 25, slot := 2, constantValue := 0 }, { name := "initialIn", type := (.object "java/io/InputStream"), accessFlags := 10, slot := 3, constantValue := 0 }, { name := "NEVER", type := .int, accessFlags := 26, slot := 4, constantValue := 0 }, { name := "MAYBE", type := .int, accessFlags := 26, slot := 5, constantValue := 0 }, { name := "allowSecurityManager", type := .int, accessFlags := 10, slot := 6, constantValue := 0 }, { name := "security", type := (.object "java/lang/SecurityManager"), accessFlags := 74, slot := 7, constantValue := 0 }, { name := "notSupportedJnuEncoding", type := (.object "java/lang/String"), accessFlags := 10, slot := 8, constantValue := 0 }, { name := "cons", type := (.object "java/io/Console"), accessFlags := 74, slot := 9, constantValue := 0 }, { name := "initialErrStream", type := (.object "java/io/PrintStream"), accessFlags := 74, slot := 10, constantValue := 0 }, { name := "props", type := (.object "java/util/Properties"), accessFlags := 10, slot := 11, constantValue := 0 }, { name := "lineSeparator", type := (.object "java/lang/String"), accessFlags := 10, slot := 12, constantValue := 0 }, { name := "bootLayer", type := (.object "java/lang/ModuleLayer"), accessFlags := 8, slot := 13, constantValue := 0 }]
  methods := #[k11m0, k11m1]
  instanceTypes := #[]
  staticTypes := #[(.object "java/io/InputStream"), (.object "java/io/PrintStream"), (.object "java/io/PrintStream"), (.object "java/io/InputStream"), .int, .int, .int, (.object "java/lang/SecurityManager"), (.object "java/lang/String"), (.object "java/io/Console"), (.object "java/io/PrintStream"), (.object "java/util/Properties"), (.object "java/lang/String"), (.object "java/lang/ModuleLayer")]
  resolved := Array.replicate 834 none
  statics := none }

def pool12 : Array CpInfo := pool [(1, .methodref 2 3), (0, .class_ 4), (0, .nameAndType 5 6), (0, u "java/lang/Object"), (0, u "<init>"), (0, u "()V"), (0, .fieldref 8 9), (0, .class_ 10), (0, .nameAndType 11 12), (0, u "com/example/vestwright/vestwright/cli/TableRows$ByKey"), (0, u "starts"), (0, u "[I"), (0, .fieldref 8 14), (0, .nameAndType 15 12), (0, u "rows"), (0, .methodref 17 18), (0, .class_ 19), (0, .nameAndType 20 21), (0, u "java/util/Arrays"), (0, u "copyOfRange"), (0, u "([III)[I"), (0, u "([I[I)V"), (2, u "(I)[I"), (3, .class_ 30), (0, u "com/example/vestwright/vestwright/cli/TableRows")] 2

def k12c0 : Code := { maxStack := 2, maxLocals := 3, code := prog_16_method_1_code, exceptionTable := #[], attributes := #[] }
def k12m0 : Method := { name := "<init>", desc := "([I[I)V", sig := { parameters := [(.array .int), (.array .int)], returnType := none }, accessFlags := 2, code := some k12c0 }
def k12c1 : Code := { maxStack := 5, maxLocals := 2, code := prog_16_method_2_code, exceptionTable := #[], attributes := #[] }
def k12m1 : Method := { name := "rows", desc := "(I)[I", sig := { parameters := [.int], returnType := some (.array .int) }, accessFlags := 0, code := some k12c1 }
/-- com/example/vestwright/vestwright/cli/TableRows$ByKey -/
def k12 : Class := { plain "com/example/vestwright/vestwright/cli/TableRows$ByKey" (some 0) with
  accessFlags := 48
  interfaces := #[]
  cf := some (fileOf pool12 8 #[.nestHost 29] #[{ accessFlags := 2, nameIndex := 5, descriptorIndex := 22, attributes := #[] }, { accessFlags := 0, nameIndex := 15, descriptorIndex := 25, attributes := #[] }] 48 2 #[] #[{ accessFlags := 18, nameIndex := 11, descriptorIndex := 12, attributes := #[] }, { accessFlags := 18, nameIndex := 15, descriptorIndex := 12, attributes := #[] }])
  fields := #[{ name := "starts", type := (.array .int), accessFlags := 18, slot := 0, constantValue := 0 }, { name := "rows", type := (.array .int), accessFlags := 18, slot := 1, constantValue := 0 }]
  methods := #[k12m0, k12m1]
  instanceTypes := #[(.array .int), (.array .int)]
  staticTypes := #[]
  resolved := Array.replicate 33 none
  statics := none }

def pool13 : Array CpInfo := pool [(1, .class_ 2), (0, u "java/lang/Cloneable"), (0, .class_ 4), (0, u "java/lang/Object")] 2

/-- java/lang/Cloneable -/
def k13 : Class := { plain "java/lang/Cloneable" (some 0) with
  accessFlags := 1537
  interfaces := #[]
  cf := some (fileOf pool13 1 #[] #[] 1537 3 #[] #[])
  fields := #[]
  methods := #[]
  instanceTypes := #[]
  staticTypes := #[]
  resolved := Array.replicate 7 none
  statics := none }

/-- the primitive byte -/
def k14 : Class := { plain "byte" none with kind := .primitive 'B', accessFlags := 0x411 }
/-- [B -/
def k15 : Class := { plain "[B" (some 0) with kind := .array 14 .byte, interfaces := #[13, 3], accessFlags := 1041 }

/-- the primitive int -/
def k16 : Class := { plain "int" none with kind := .primitive 'I', accessFlags := 0x411 }
/-- [I -/
def k17 : Class := { plain "[I" (some 0) with kind := .array 16 .int, interfaces := #[13, 3], accessFlags := 1041 }

/-- [[B -/
def k18 : Class := { plain "[[B" (some 0) with kind := .array 15 (.array .byte), interfaces := #[13, 3], accessFlags := 1041 }

/-- [Ljava/lang/String; -/
def k19 : Class := { plain "[Ljava/lang/String;" (some 0) with kind := .array 8 (.object "java/lang/String"), interfaces := #[13, 3], accessFlags := 1041 }

def heap : Heap := #[{ cls := 18, slots := #[], vm := .none }]
def classes : Array Class := #[k0, k1, k2, k3, k4, k5, k6, k7, k8, k9, k10, k11, k12, k13, k14, k15, k16, k17, k18, k19]
def interned : List (Array UInt16 × Addr) := []
def slotsUsed : Nat := 0
def theMethod : MethodId := ⟨1, 1⟩
def args0 : Array Value := #[.int 12, .int 7, .int 3, .int 4, .int 5]
def aboutOver (below : List Frame) : State where
  vm := { classes := classes, interned := interned.toArray }
  heap := heap
  slotsUsed := slotsUsed
  threads := #[{ frames := .invoking theMethod args0 :: below }]
def below0 : List Frame := [.native { method := ⟨0, 0⟩, args := #[] }]
def about1 : State := aboutOver below0
def p0 : Program := .bare "" "" ""
def e0 : Env := launch0.env 0 0 0
theorem w_frames : about1.frames = Frame.invoking theMethod args0 :: below0 := rfl
set_option maxRecDepth 65536 in
theorem w_args : argsFit about1.vm theMethod args0 = true := by decide +kernel
set_option maxRecDepth 65536 in
theorem w_heap : heapFits about1 = true := by decide +kernel
set_option maxRecDepth 65536 in
theorem w_runnable : about1.curStatus? = some .runnable := by decide +kernel
set_option maxRecDepth 65536 in
theorem w_alone : about1.alone = true := by decide +kernel
set_option maxRecDepth 65536 in
theorem w_named : about1.methodNamed? x = some theMethod := by decide +kernel
set_option maxRecDepth 65536 in
theorem w_hears : about1.hears theMethod below0 = true := by decide +kernel
set_option maxRecDepth 65536 in
theorem w_ripe : about1.ripe theMethod args0 below0 = true := by decide +kernel
theorem w_running : about1.status = .running := rfl
set_option maxRecDepth 65536 in
theorem w_room : about1.hasRoom e0.platform room_1 = true :=
  launch0.hasRoom_least _ room_1 (by decide +kernel) (by decide +kernel) (by decide +kernel) (by decide +kernel) (by decide +kernel) (by decide +kernel)
theorem allAtoms_all (ts : List Jvm.Cond) (a : Array Jvm.Value) (st : Jvm.State) : (allAtoms ts).before a st = ts.all (fun c => c.before a st) := by
  induction ts with
  | nil => rfl
  | cons c t ih =>
    show (Jvm.Cond.and c (allAtoms t)).before a st = _
    rw [Jvm.Cond.before_and, ih, List.all_cons]
def words1 : List Jvm.Cond := Jvm.Cond.code x code maxLocals ret :: tables_1
/-- a 'code' word, met by the world's own term for the bytes: nothing is compared byte by byte -/
theorem code_word {y : MethodName} {bytes : ByteArray} {mx : Nat} {rt : Option FieldType} {a : Array Value} {s : State} {m : MethodId} {meth : Method} {c : Code} (h1 : s.methodNamed? y = some m) (h2 : s.vm.method? m = some meth) (h3 : meth.code = some c) (h4 : c.code = bytes)
    (h5 : (c.maxLocals == mx && c.exceptionTable.isEmpty && decide (c.maxStack ≤ mostOperands) && decide (meth.sig.returnType = rt) && !meth.locks && decide (parseMethodDescriptor y.desc = some meth.sig)) = true) : (Jvm.Cond.code y bytes mx rt).before a s = true := by
  simp only [Bool.and_eq_true, beq_iff_eq, Bool.not_eq_true', decide_eq_true_eq] at h5
  obtain ⟨⟨⟨⟨⟨g1, g2⟩, g3⟩, g4⟩, g5⟩, g6⟩ := h5
  simp [Cond.before, Cond.holds, Cond.value, h1, h2, h3, h4, g1, g2, g3, g4, g5, g6]
def isCode : Jvm.Cond → Bool
  | .code _ _ _ _ => true
  | _ => false
theorem all_split {L : List Jvm.Cond} {P : Jvm.Cond → Bool} (h1 : L.all (fun c => isCode c || P c) = true) (h2 : ∀ c ∈ L.filter isCode, P c = true) : L.all P = true := by
  refine List.all_eq_true.mpr fun c hc => ?_
  have h := List.all_eq_true.mp h1 c hc
  rcases Bool.eq_false_or_eq_true (isCode c) with hi | hi
  · exact h2 c (List.mem_filter.mpr ⟨hc, hi⟩)
  · simpa [hi] using h
set_option maxRecDepth 65536 in
theorem w_c0 : (Jvm.Cond.code x code maxLocals ret).before args0 about1 = true := code_word (m := ⟨1, 1⟩) (meth := k1m1) (c := k1c1) (by decide +kernel) rfl rfl rfl (by decide +kernel)
set_option maxRecDepth 65536 in
theorem w_c1 : (Jvm.Cond.code ({ cls := "com/example/vestwright/vestwright/cli/TableRows", name := "<init>", desc := "(I)V" } : Jvm.MethodName) prog_15_method_1_code (2 : Nat) (Option.none : Option Jvm.ClassFile.FieldType)).before args0 about1 = true := code_word (m := ⟨2, 0⟩) (meth := k2m0) (c := k2c0) (by decide +kernel) rfl rfl rfl (by decide +kernel)
set_option maxRecDepth 65536 in
theorem w_c2 : (Jvm.Cond.code ({ cls := "java/lang/Object", name := "<init>", desc := "()V" } : Jvm.MethodName) object_method_1_code (1 : Nat) (Option.none : Option Jvm.ClassFile.FieldType)).before args0 about1 = true := code_word (m := ⟨0, 0⟩) (meth := k0m0) (c := k0c0) (by decide +kernel) rfl rfl rfl (by decide +kernel)
set_option maxRecDepth 65536 in
theorem w_c3 : (Jvm.Cond.code ({ cls := "com/example/vestwright/vestwright/cli/TableRows", name := "byKey", desc := "(I)Lcom/example/vestwright/vestwright/cli/TableRows$ByKey;" } : Jvm.MethodName) prog_15_method_6_code (6 : Nat) (Option.some (Jvm.ClassFile.FieldType.object "com/example/vestwright/vestwright/cli/TableRows$ByKey"))).before args0 about1 = true := code_word (m := ⟨2, 2⟩) (meth := k2m2) (c := k2c2) (by decide +kernel) rfl rfl rfl (by decide +kernel)
set_option maxRecDepth 65536 in
theorem w_c4 : (Jvm.Cond.code ({ cls := "java/util/Arrays", name := "copyOf", desc := "([II)[I" } : Jvm.MethodName) jdk_65_method_123_code (3 : Nat) (Option.some (Jvm.ClassFile.FieldType.array Jvm.ClassFile.FieldType.int))).before args0 about1 = true := code_word (m := ⟨9, 1⟩) (meth := k9m1) (c := k9c1) (by decide +kernel) rfl rfl rfl (by decide +kernel)
set_option maxRecDepth 65536 in
theorem w_c5 : (Jvm.Cond.code ({ cls := "java/lang/Math", name := "min", desc := "(II)I" } : Jvm.MethodName) jdk_29_method_69_code (2 : Nat) (Option.some Jvm.ClassFile.FieldType.int)).before args0 about1 = true := code_word (m := ⟨10, 1⟩) (meth := k10m1) (c := k10c1) (by decide +kernel) rfl rfl rfl (by decide +kernel)
set_option maxRecDepth 65536 in
theorem w_c6 : (Jvm.Cond.code ({ cls := "com/example/vestwright/vestwright/cli/TableRows$ByKey", name := "<init>", desc := "([I[I)V" } : Jvm.MethodName) prog_16_method_1_code (3 : Nat) (Option.none : Option Jvm.ClassFile.FieldType)).before args0 about1 = true := code_word (m := ⟨12, 0⟩) (meth := k12m0) (c := k12c0) (by decide +kernel) rfl rfl rfl (by decide +kernel)
set_option maxRecDepth 65536 in
theorem w_c7 : (Jvm.Cond.code ({ cls := "com/example/vestwright/vestwright/cli/TableRows$ByKey", name := "rows", desc := "(I)[I" } : Jvm.MethodName) prog_16_method_2_code (2 : Nat) (Option.some (Jvm.ClassFile.FieldType.array Jvm.ClassFile.FieldType.int))).before args0 about1 = true := code_word (m := ⟨12, 1⟩) (meth := k12m1) (c := k12c1) (by decide +kernel) rfl rfl rfl (by decide +kernel)
set_option maxRecDepth 65536 in
theorem w_c8 : (Jvm.Cond.code ({ cls := "java/util/Arrays", name := "copyOfRange", desc := "([III)[I" } : Jvm.MethodName) jdk_65_method_136_code (3 : Nat) (Option.some (Jvm.ClassFile.FieldType.array Jvm.ClassFile.FieldType.int))).before args0 about1 = true := code_word (m := ⟨9, 3⟩) (meth := k9m3) (c := k9c3) (by decide +kernel) rfl rfl rfl (by decide +kernel)
set_option maxRecDepth 65536 in
theorem w_c9 : (Jvm.Cond.code ({ cls := "com/example/vestwright/vestwright/cli/TableRowsByKeyPinLaw", name := "same", desc := "([I[III)Z" } : Jvm.MethodName) method_3_code (6 : Nat) (Option.some Jvm.ClassFile.FieldType.boolean)).before args0 about1 = true := code_word (m := ⟨1, 2⟩) (meth := k1m2) (c := k1c2) (by decide +kernel) rfl rfl rfl (by decide +kernel)
set_option maxRecDepth 65536 in
theorem w_c10 : (Jvm.Cond.code ({ cls := "com/example/vestwright/vestwright/cli/TableRows", name := "add", desc := "([Ljava/lang/String;I)Z" } : Jvm.MethodName) prog_15_method_2_code (11 : Nat) (Option.some Jvm.ClassFile.FieldType.boolean)).before args0 about1 = true := code_word (m := ⟨2, 1⟩) (meth := k2m1) (c := k2c1) (by decide +kernel) rfl rfl rfl (by decide +kernel)
set_option maxRecDepth 65536 in
theorem w_c11 : (Jvm.Cond.code ({ cls := "com/example/vestwright/vestwright/cli/TableRows", name := "ensureRoom", desc := "(I)V" } : Jvm.MethodName) prog_15_method_8_code (3 : Nat) (Option.none : Option Jvm.ClassFile.FieldType)).before args0 about1 = true := code_word (m := ⟨2, 3⟩) (meth := k2m3) (c := k2c3) (by decide +kernel) rfl rfl rfl (by decide +kernel)
set_option maxRecDepth 65536 in
theorem w_c12 : (Jvm.Cond.code ({ cls := "java/util/Arrays", name := "copyOfRangeInt", desc := "([III)[I" } : Jvm.MethodName) jdk_65_method_137_code (5 : Nat) (Option.some (Jvm.ClassFile.FieldType.array Jvm.ClassFile.FieldType.int))).before args0 about1 = true := code_word (m := ⟨9, 4⟩) (meth := k9m4) (c := k9c4) (by decide +kernel) rfl rfl rfl (by decide +kernel)
set_option maxRecDepth 65536 in
theorem w_c13 : (Jvm.Cond.code ({ cls := "java/util/Arrays", name := "checkLength", desc := "(II)V" } : Jvm.MethodName) jdk_65_method_131_code (2 : Nat) (Option.none : Option Jvm.ClassFile.FieldType)).before args0 about1 = true := code_word (m := ⟨9, 2⟩) (meth := k9m2) (c := k9c2) (by decide +kernel) rfl rfl rfl (by decide +kernel)
def codes1 : List Jvm.Cond := [Jvm.Cond.code x code maxLocals ret, Jvm.Cond.code ({ cls := "com/example/vestwright/vestwright/cli/TableRows", name := "<init>", desc := "(I)V" } : Jvm.MethodName) prog_15_method_1_code (2 : Nat) (Option.none : Option Jvm.ClassFile.FieldType), Jvm.Cond.code ({ cls := "java/lang/Object", name := "<init>", desc := "()V" } : Jvm.MethodName) object_method_1_code (1 : Nat) (Option.none : Option Jvm.ClassFile.FieldType), Jvm.Cond.code ({ cls := "com/example/vestwright/vestwright/cli/TableRows", name := "byKey", desc := "(I)Lcom/example/vestwright/vestwright/cli/TableRows$ByKey;" } : Jvm.MethodName) prog_15_method_6_code (6 : Nat) (Option.some (Jvm.ClassFile.FieldType.object "com/example/vestwright/vestwright/cli/TableRows$ByKey")), Jvm.Cond.code ({ cls := "java/util/Arrays", name := "copyOf", desc := "([II)[I" } : Jvm.MethodName) jdk_65_method_123_code (3 : Nat) (Option.some (Jvm.ClassFile.FieldType.array Jvm.ClassFile.FieldType.int)), Jvm.Cond.code ({ cls := "java/lang/Math", name := "min", desc := "(II)I" } : Jvm.MethodName) jdk_29_method_69_code (2 : Nat) (Option.some Jvm.ClassFile.FieldType.int), Jvm.Cond.code ({ cls := "com/example/vestwright/vestwright/cli/TableRows$ByKey", name := "<init>", desc := "([I[I)V" } : Jvm.MethodName) prog_16_method_1_code (3 : Nat) (Option.none : Option Jvm.ClassFile.FieldType), Jvm.Cond.code ({ cls := "com/example/vestwright/vestwright/cli/TableRows$ByKey", name := "rows", desc := "(I)[I" } : Jvm.MethodName) prog_16_method_2_code (2 : Nat) (Option.some (Jvm.ClassFile.FieldType.array Jvm.ClassFile.FieldType.int)), Jvm.Cond.code ({ cls := "java/util/Arrays", name := "copyOfRange", desc := "([III)[I" } : Jvm.MethodName) jdk_65_method_136_code (3 : Nat) (Option.some (Jvm.ClassFile.FieldType.array Jvm.ClassFile.FieldType.int)), Jvm.Cond.code ({ cls := "com/example/vestwright/vestwright/cli/TableRowsByKeyPinLaw", name := "same", desc := "([I[III)Z" } : Jvm.MethodName) method_3_code (6 : Nat) (Option.some Jvm.ClassFile.FieldType.boolean), Jvm.Cond.code ({ cls := "com/example/vestwright/vestwright/cli/TableRows", name := "add", desc := "([Ljava/lang/String;I)Z" } : Jvm.MethodName) prog_15_method_2_code (11 : Nat) (Option.some Jvm.ClassFile.FieldType.boolean), Jvm.Cond.code ({ cls := "com/example/vestwright/vestwright/cli/TableRows", name := "ensureRoom", desc := "(I)V" } : Jvm.MethodName) prog_15_method_8_code (3 : Nat) (Option.none : Option Jvm.ClassFile.FieldType), Jvm.Cond.code ({ cls := "java/util/Arrays", name := "copyOfRangeInt", desc := "([III)[I" } : Jvm.MethodName) jdk_65_method_137_code (5 : Nat) (Option.some (Jvm.ClassFile.FieldType.array Jvm.ClassFile.FieldType.int)), Jvm.Cond.code ({ cls := "java/util/Arrays", name := "checkLength", desc := "(II)V" } : Jvm.MethodName) jdk_65_method_131_code (2 : Nat) (Option.none : Option Jvm.ClassFile.FieldType)]
set_option maxRecDepth 65536 in
theorem codes_eq : words1.filter isCode = codes1 := rfl
theorem w_codes : ∀ c ∈ words1.filter isCode, c.before args0 about1 = true := by
  rw [codes_eq]
  intro c hc
  simp only [codes1, List.mem_cons, List.not_mem_nil, or_false] at hc
  rcases hc with rfl | rfl | rfl | rfl | rfl | rfl | rfl | rfl | rfl | rfl | rfl | rfl | rfl | rfl
  · exact w_c0
  · exact w_c1
  · exact w_c2
  · exact w_c3
  · exact w_c4
  · exact w_c5
  · exact w_c6
  · exact w_c7
  · exact w_c8
  · exact w_c9
  · exact w_c10
  · exact w_c11
  · exact w_c12
  · exact w_c13
set_option maxRecDepth 65536 in
theorem w_t1 : (words1.take 24).all (fun c => isCode c || c.before args0 about1) = true := by decide +kernel
set_option maxRecDepth 65536 in
theorem w_t2 : ((words1.drop 24).take 24).all (fun c => isCode c || c.before args0 about1) = true := by decide +kernel
set_option maxRecDepth 65536 in
theorem w_t3 : (((words1.drop 24).drop 24).take 24).all (fun c => isCode c || c.before args0 about1) = true := by decide +kernel
set_option maxRecDepth 65536 in
theorem w_t4 : (((words1.drop 24).drop 24).drop 24).all (fun c => isCode c || c.before args0 about1) = true := by decide +kernel
theorem w_tables : (allAtoms (Jvm.Cond.code x code maxLocals ret :: tables_1)).before args0 about1 = true := by
  rw [allAtoms_all]
  show words1.all (fun c => c.before args0 about1) = true
  refine all_split ?_ w_codes
  rw [← List.take_append_drop 24 words1, List.all_append, w_t1, ← List.take_append_drop 24 (words1.drop 24), List.all_append, w_t2, ← List.take_append_drop 24 ((words1.drop 24).drop 24), List.all_append, w_t3, w_t4]
  rfl
set_option maxRecDepth 65536 in
theorem w_case : (Jvm.Cond.and given_1 narrow_1).before args0 about1 = true := by decide +kernel
theorem w_applies : (headSpec (Jvm.Cond.code x code maxLocals ret :: tables_1) room_1).applies x e0.platform about1 = true :=
  (Spec.applies_iff w_frames).mpr ⟨w_running, w_runnable, w_alone, w_named, w_hears, w_ripe, w_room, w_tables⟩
theorem atStart : AtStart classFile x code maxLocals ret World_1 tables_1 room_1 Calls_1 rest_1 Pre_1 launch0 p0 e0 about1 theMethod args0 below0 :=
  ⟨lists_1, trivial, launch0.admits_env _ _ _, launch0.least_env, fairChoices_fair.cas, fairChoices_fair.clock, w_frames, w_args, w_heap, w_applies, trivial, trivial, w_case⟩
end start1
theorem witness_1 : WitnessClaimed_1 := ⟨start1.p0, start1.e0, start1.about1, start1.theMethod, start1.args0, start1.below0, start1.atStart⟩
end Jvm.Pilot.@@N@@
