import JvmDerived
import JvmDerived.Pilot.@@N@@Statement
import JvmDerived.Pilot.@@N@@Code
set_option linter.unusedVariables false
set_option linter.unusedSimpArgs false
namespace Jvm.Pilot.@@N@@
open Jvm Jvm.ClassFile Sem Op Lib Jvm.Free Jvm.Stand Jvm.LawKit Jvm.RoadKit Bundle Jvm.Pilot.@@N@@.Jvm.D
section Own
variable {p : Program} {l : Launch} {e : Env} {R : Room} {s : State} {m : MethodId} {args : Array Value} {below : List Frame} {meth : Method} {c : Code} {T : State} {locs : List Loc} {cells slots : Nat} {Z : State} {a0 : Array Value} {h h' : Heap}
/-- the walk's goal: from S the method comes back with what Q says -/
def own_G (p : Program) (e : Env) (s : State) (below : List Frame) (Q : Option Value → Heap → List Loc → Prop) (kc ks : Nat) (S : State) : Prop :=
  ∃ s₂ o, Steps p.tables e below S s₂ ∧ s₂.status = .running ∧ Ended s₂ below o ∧ ∃ v L, o = .returned v ∧ Q v s₂.heap L ∧ FrameEnd s o s₂ L kc ks
theorem own_go {Q : Option Value → Heap → List Loc → Prop} {kc ks : Nat} {S S' : State} (k : ∀ t, Steps p.tables e below S' t → Steps p.tables e below S t) (g : own_G p e s below Q kc ks S') : own_G p e s below Q kc ks S := by
  obtain ⟨s2, o, h1, h2⟩ := g
  exact ⟨s2, o, k _ h1, h2⟩
theorem own_retI {Q : Option Value → Heap → List Loc → Prop} {kc ks : Nat} (X : Stand p l e R s m args below meth c T locs cells slots) (hx : p.tables.exec = Jvm.exec) (hlk : meth.locks = false) (hret : meth.sig.returnType = some .int) {pc : Nat} {Ls : Array Slot} {z : Int32} {rest : List Value} (hd : decode c.code pc = .ok (.ireturn, 1)) (hc : cells ≤ kc) (hs : slots ≤ ks) (hQ : Q (some (.int z)) T.heap locs) :
    own_G p e s below Q kc ks (T.setTop (mkF m pc Ls (.int z :: rest))) := by
  obtain ⟨fs, hr, hrun, hended, hW, hsame⟩ := X.leave (v := some (.int z)) (fun h => by rw [hret] at h; cases h) hlk
  exact ⟨_, _, retOut X hx hret rfl (Or.inl ⟨rfl, Or.inl rfl, z, rfl⟩) hd hr, hrun, hended, _, _, rfl, hQ, ⟨_, rfl⟩, hW, hsame.mono hc hs⟩
theorem own_retN {Q : Option Value → Heap → List Loc → Prop} {kc ks : Nat} (X : Stand p l e R s m args below meth c T locs cells slots) (hx : p.tables.exec = Jvm.exec) (hlk : meth.locks = false) {t : FieldType} (hret : meth.sig.returnType = some t) (ht : t = .boolean ∨ t = .byte ∨ t = .char ∨ t = .short) {pc : Nat} {Ls : Array Slot} {z : Int32} {rest : List Value} (hd : decode c.code pc = .ok (.ireturn, 1)) (hc : cells ≤ kc) (hs : slots ≤ ks) (hQ : Q (some (.int (nar t z))) T.heap locs) :
    own_G p e s below Q kc ks (T.setTop (mkF m pc Ls (.int z :: rest))) := by
  obtain ⟨fs, hr, hrun, hended, hW, hsame⟩ := X.leave (v := some (.int (nar t z))) (fun h => by rw [hret] at h; cases h) hlk
  exact ⟨_, _, retN X hx hret ht hd hr, hrun, hended, _, _, rfl, hQ, ⟨_, rfl⟩, hW, hsame.mono hc hs⟩
theorem own_retA {Q : Option Value → Heap → List Loc → Prop} {kc ks : Nat} (X : Stand p l e R s m args below meth c T locs cells slots) (hx : p.tables.exec = Jvm.exec) (hlk : meth.locks = false) {t : FieldType} (hret : meth.sig.returnType = some t) (ht : t.isReference = true) {pc : Nat} {Ls : Array Slot} {w : Value} (hv : w.isRef = true) {rest : List Value} (hd : decode c.code pc = .ok (.areturn, 1)) (hc : cells ≤ kc) (hs : slots ≤ ks) (hQ : Q (some w) T.heap locs) :
    own_G p e s below Q kc ks (T.setTop (mkF m pc Ls (w :: rest))) := by
  obtain ⟨fs, hr, hrun, hended, hW, hsame⟩ := X.leave (v := some w) (fun h => by rw [hret] at h; cases h) hlk
  have hn : narrow t w = w := by rcases ref_cases hv with rfl | ⟨z, rfl⟩ <;> cases t <;> rfl
  exact ⟨_, _, retOut X hx hret hn (Or.inr (Or.inr (Or.inr (Or.inr ⟨rfl, ht, hv⟩)))) hd hr, hrun, hended, _, _, rfl, hQ, ⟨_, rfl⟩, hW, hsame.mono hc hs⟩
theorem own_retJ {Q : Option Value → Heap → List Loc → Prop} {kc ks : Nat} (X : Stand p l e R s m args below meth c T locs cells slots) (hx : p.tables.exec = Jvm.exec) (hlk : meth.locks = false) (hret : meth.sig.returnType = some .long) {pc : Nat} {Ls : Array Slot} {z : Int64} {rest : List Value} (hd : decode c.code pc = .ok (.lreturn, 1)) (hc : cells ≤ kc) (hs : slots ≤ ks) (hQ : Q (some (.long z)) T.heap locs) :
    own_G p e s below Q kc ks (T.setTop (mkF m pc Ls (.long z :: rest))) := by
  obtain ⟨fs, hr, hrun, hended, hW, hsame⟩ := X.leave (v := some (.long z)) (fun h => by rw [hret] at h; cases h) hlk
  exact ⟨_, _, retOut X hx hret rfl (Or.inr (Or.inl ⟨rfl, rfl, z, rfl⟩)) hd hr, hrun, hended, _, _, rfl, hQ, ⟨_, rfl⟩, hW, hsame.mono hc hs⟩
theorem own_retV {Q : Option Value → Heap → List Loc → Prop} {kc ks : Nat} (X : Stand p l e R s m args below meth c T locs cells slots) (hx : p.tables.exec = Jvm.exec) (hlk : meth.locks = false) (hret : meth.sig.returnType = none) {pc : Nat} {Ls : Array Slot} (hd : decode c.code pc = .ok (.return_, 1)) (hc : cells ≤ kc) (hs : slots ≤ ks) (hQ : Q none T.heap locs) :
    own_G p e s below Q kc ks (T.setTop (mkF m pc Ls [])) := by
  obtain ⟨fs, hr, hrun, hended, hW, hsame⟩ := X.leave (v := none) (fun _ => rfl) hlk
  exact ⟨_, _, X.returnOut hx hret hd hr, hrun, hended, _, _, rfl, hQ, ⟨_, rfl⟩, hW, hsame.mono hc hs⟩
theorem own_osz {n0 : Nat} (O : Old Z n0 h) : n0 ≤ h.size := O.1 ▸ O.2.1
end Own
section Own2
variable {Z : State} {h h' : Heap} {a b : Addr} {k : ClassId} {ty : FieldType} {vs : List Value} {sl : Nat} {v w : Value} {ws : List Addr} {c : Cell} {j : Int32}
/-- an array and what it holds -/
def own_Ar (Z : State) (h : Heap) (a : Addr) (k : ClassId) (ty : FieldType) (vs : List Value) : Prop := ∃ c : Cell, Arr Z h a c ty ∧ c.cls = k ∧ c.slots = vs.toArray ∧ vs.length < 2 ^ 31
theorem own_Ar.lt (F : own_Ar Z h a k ty vs) : a < h.size := by obtain ⟨c, A, -⟩ := F; exact A.lt
theorem own_Ar.ext (F : own_Ar Z h a k ty vs) (E : Ext h h') : own_Ar Z h' a k ty vs := by obtain ⟨c, A, r⟩ := F; exact ⟨c, A.ext E, r⟩
theorem own_Ar.other (F : own_Ar Z h b k ty vs) (W : Wr h h' a sl v) (q : b ≠ a) : own_Ar Z h' b k ty vs := by obtain ⟨c, A, r⟩ := F; exact ⟨c, A.other W q, r⟩
theorem own_Ar.keep (F : own_Ar Z h a k ty vs) (K : Keep h h' ws) (q : a ∉ ws) : own_Ar Z h' a k ty vs := by obtain ⟨c, A, r⟩ := F; exact ⟨c, ⟨K.2.1 a c A.1 q, A.2⟩, r⟩
theorem own_Ar.at (F : own_Ar Z h a k ty vs) (hj : ¬ j < 0) (hv : vs[j.toNatClampNeg]? = some v) : ∃ c : Cell, Arr Z h a c ty ∧ c.cls = k ∧ c.slots = vs.toArray ∧ ¬ (j < 0 ∨ c.slots.size ≤ j.toNatClampNeg) ∧ c.slots[j.toNatClampNeg]? = some v := by
  obtain ⟨c, A, q, e, r⟩ := F
  have hl := (List.getElem?_eq_some_iff.mp hv).1
  refine ⟨c, A, q, e, ?_, ?_⟩
  · rintro (q | q)
    · exact hj q
    · rw [e] at q; simp at q; omega
  · rw [e]; simpa using hv
theorem own_Ar.set (A : Arr Z h a c ty) (q : c.cls = k) (e : c.slots = vs.toArray) (hl : vs.length < 2 ^ 31) {i : Nat} (W : Wr h h' a i v) : own_Ar Z h' a k ty (vs.set i v) := by
  refine ⟨c.setSlot i v, A.same W, q, ?_, by simpa using hl⟩
  show (c.slots.setIfInBounds i v) = _
  rw [e]; simp
theorem own_Ar.small (F : own_Ar Z h a k ty vs) : vs.length < 2 ^ 31 := F.choose_spec.2.2.2
theorem own_Ar.len (F : own_Ar Z h a k ty vs) : ∃ c : Cell, Arr Z h a c ty ∧ c.slots.size.toInt32 = Int32.ofNat vs.length := by
  obtain ⟨c, A, q, e, r⟩ := F
  exact ⟨c, A, by rw [e]; simp⟩
theorem own_Ar.new {n : Int32} (A : Arr Z h a (newA k ty n) ty) (q : ¬ n < 0) : own_Ar Z h a k ty (List.replicate n.toNatClampNeg (defaultValue ty)) :=
  ⟨_, A, rfl, by simp [newA], by rw [List.length_replicate]; exact (back32 q).2⟩
theorem own_nat {n : Nat} (hn : n < 2 ^ 31) : (Int32.ofNat n).toInt = n := Int32.toInt_ofNat_of_lt hn
theorem own_clamp {n : Nat} (hn : n < 2 ^ 31) : (Int32.ofNat n).toNatClampNeg = n := by
  show (Int32.ofNat n).toInt.toNat = n
  rw [own_nat hn]; simp
theorem own_pos {n : Nat} (hn : n < 2 ^ 31) : ¬ Int32.ofNat n < 0 := by
  rw [Int32.lt_iff_toInt_lt, own_nat hn]; simp
theorem own_lt {a b : Nat} (ha : a < 2 ^ 31) (hb : b < 2 ^ 31) : Int32.ofNat a < Int32.ofNat b ↔ a < b := by
  rw [Int32.lt_iff_toInt_lt, own_nat ha, own_nat hb]; omega
theorem own_succ (a : Nat) : Int32.ofNat a + 1 = Int32.ofNat (a + 1) := by rw [Int32.ofNat_add]; rfl
theorem own_eqN {a b : Nat} (ha : a < 2 ^ 31) (hb : b < 2 ^ 31) : Int32.ofNat a = Int32.ofNat b ↔ a = b := by
  rw [← Int32.toInt_inj, own_nat ha, own_nat hb]; omega
theorem own_eqI {args : Array Value} {first s : State} {o : Option Outcome} {idx : List Nat} {a : Term} {n : Int32} (h : (Cond.eq a (.int n)).value args first o s idx = some true) : a.eval args first o idx s = some (.int n) := by
  simp only [Cond.value, Term.eval] at h
  cases ha : a.eval args first o idx s with
  | none => simp [ha] at h
  | some x => cases x <;> simp [ha] at h ⊢; exact h
end Own2
section Own3
variable {p : Program} {l : Launch} {e : Env} {R : Room} {s : State} {m : MethodId} {args : Array Value} {below : List Frame} {meth : Method} {c : Code} {T : State} {locs : List Loc} {cells slots : Nat} {Z : State} {a0 : Array Value} {h : Heap} {a b : Addr} {k k' : ClassId} {ty : FieldType} {vs vd : List Value} {d : Value}
theorem own_Ar.arv (F : own_Ar Z h a k ty vs) (hf : ∀ v ∈ vs, fits ty v = true) (d : Value) : Arv Z h a k ty (Int32.ofNat vs.length) vs d := by
  obtain ⟨c, A, q, e, hl⟩ := F
  refine ⟨c, A, q, by rw [e, own_clamp hl]; simp, own_pos hl, fun i hi => ?_, fun i hi => ?_⟩
  · rw [e] at hi ⊢
    have hi' : i < vs.length := by simpa using hi
    simp [List.getD, hi']
  · rw [e] at hi
    have hi' : i < vs.length := by simpa using hi
    have : vs.getD i d = vs[i] := by simp [List.getD, hi']
    rw [this]; exact hf _ (List.getElem_mem hi')
theorem own_of_arv {z : Int32} (F : Arv Z h a k ty z vs d) (hz : z.toNatClampNeg = vs.length) : own_Ar Z h a k ty vs := by
  obtain ⟨c, A, q, S, nz, H, G⟩ := F
  refine ⟨c, A, q, ?_, by rw [← hz]; exact (back32 nz).2⟩
  apply Array.ext
  · rw [S, hz]; simp
  · intro i h1 h2
    have h3 := H i h1
    have h4 : i < vs.length := by simpa using h2
    rw [Array.getElem?_eq_getElem h1] at h3
    have : vs.getD i d = vs[i] := by simp [List.getD, h4]
    rw [this] at h3
    simpa using Option.some.inj h3
theorem own_us (vs : List Value) (dv : Value) (sp n : Nat) (hl : sp + n ≤ vs.length) : ((List.range n).map fun i => vs.getD (sp + i) dv) = (vs.drop sp).take n := by
  apply List.ext_getElem
  · simp; omega
  · intro i h1 h2
    simp at h1
    have : sp + i < vs.length := by omega
    simp [List.getD, this]
/-- System.arraycopy between two arrays of one primitive kind -/
theorem own_cp (X : Stand p l e R s m args below meth c T locs cells slots) (hx : p.tables.exec = Jvm.exec) (hZ : Z.Warmed39 s.vm) {own : String} {index : Nat} (hown : s.vm.findClass own = some m.cls)
    (w1 : (Cond.methodLink own index Jvm.Stand.acN).before a0 Z = true) (w2 : (Cond.native Jvm.Stand.acN).before a0 Z = true) (w3 : (Cond.static Jvm.Stand.acN).before a0 Z = true) (w4 : (Cond.initialized "java/lang/System").before a0 Z = true) (eT : T.heap = h)
    {sp dp nn : Int32} (A : own_Ar Z h a k ty vs) (B : own_Ar Z h b k' ty vd) (hty : refKind ty = false) (fa : ∀ v ∈ vs, fits ty v = true) (fb : ∀ v ∈ vd, fits ty v = true)
    (h1 : ¬ sp < 0) (h2 : ¬ dp < 0) (h3 : ¬ nn < 0) (h4 : sp.toNatClampNeg + nn.toNatClampNeg ≤ vs.length) (h5 : dp.toNatClampNeg + nn.toNatClampNeg ≤ vd.length) {n0 : Nat} (N : Fr n0 locs) (ge : n0 ≤ b)
    {g : JFrame} (hg : g.method = m) (hsize : g.locals.size = c.maxLocals) {rest : List Value} (hs : g.stack = .int nn :: .int dp :: .ref b :: .int sp :: .ref a :: rest) (hd : decode c.code g.pc = .ok (.invokestatic index, 3))
    (hf : 1 ≤ R.frames) {W : Nat} (hW : 2 * g.monitorRoom + (rest.map fun v => v.category).sum ≤ W) (hlo : W + (nativeFrameWords "java/lang/System" "arraycopy" 5 + 11) ≤ R.locals) :
    ∃ T' h' L, Stand p l e R s m args below meth c T' L cells slots ∧ T'.heap = h' ∧ Fr n0 L ∧ Keep h h' [b] ∧ own_Ar Z h' b k' ty (vd.take dp.toNatClampNeg ++ (vs.drop sp.toNatClampNeg).take nn.toNatClampNeg ++ vd.drop (dp.toNatClampNeg + nn.toNatClampNeg)) ∧
      ∀ target, Steps p.tables e below (T'.setTop { g with pc := g.pc + 3, stack := rest }) target → Steps p.tables e below (T.setTop g) target := by
  have ha := A.small
  have hb := B.small
  obtain ⟨T', h', L, X', e', N', K', V', st⟩ := cpA X hx hZ hown w1 w2 w3 w4 eT (A.arv fa .null) (B.arv fb .null) (Or.inl ⟨rfl, hty⟩) h1 h2 h3 (by rw [own_clamp ha]; exact h4) (by rw [own_clamp hb]; exact h5) (us := (List.range nn.toNatClampNeg).map fun i => vs.getD (sp.toNatClampNeg + i) .null) rfl h5 N ge hg hsize hs hd hf hW hlo
  refine ⟨T', h', L, X', e', N', K', ?_, st⟩
  rw [own_us _ _ _ _ h4] at V'
  exact own_of_arv V' (by rw [own_clamp hb]; simp; omega)
theorem own_selfsel {y : MethodName} {n : Nat} (hZ : Z.Warmed39 s.vm) (wi : (Cond.instantiable y.cls n).before a0 Z = true) (wp : (Cond.privateMethod y).before a0 Z = true) (wm : (Cond.instanceMethod y).before a0 Z = true) (hy : y.cls ≠ "java/lang/invoke/MethodHandle" ∧ y.cls ≠ "java/lang/invoke/VarHandle") : (Cond.selects y.cls y y).before args s = true := by
  obtain ⟨c2, k2, i1, i2, i3, i4⟩ := Cond.instantiable_spec (mvT hZ wi (args := args))
  exact selects_self_of_private i1 i2 (by have q := i4.1; simp only [Bool.or_eq_false_iff] at q; exact q.1) (Cond.privateMethod_at (mvP hZ wp (args := #[]))) (mvT hZ wm) hy
end Own3
def own_fits (w n : Int32) : Int32 := if w = 0 then 1 else if w = n then 1 else 0
def own_exp (w n : Int32) : Int32 := if w = 0 then 1 else if n = w then 1 else 0
theorem own_same (w n : Int32) : own_fits w n = own_exp w n := by
  unfold own_fits own_exp
  by_cases h : w = n
  · subst h; rfl
  · simp [h, Ne.symm h]
theorem own_and1 (w n : Int32) : own_fits w n &&& 1 = own_fits w n := by
  unfold own_fits; split
  · rfl
  · split <;> rfl
theorem own_14 (x : Int32) : ((x &&& (2147483647 : Int32)) % (14 : Int32)) = (0 : Int32) ∨ ((x &&& (2147483647 : Int32)) % (14 : Int32)) = (1 : Int32) ∨ ((x &&& (2147483647 : Int32)) % (14 : Int32)) = (2 : Int32) ∨ ((x &&& (2147483647 : Int32)) % (14 : Int32)) = (3 : Int32) ∨ ((x &&& (2147483647 : Int32)) % (14 : Int32)) = (4 : Int32) ∨ ((x &&& (2147483647 : Int32)) % (14 : Int32)) = (5 : Int32) ∨ ((x &&& (2147483647 : Int32)) % (14 : Int32)) = (6 : Int32) ∨ ((x &&& (2147483647 : Int32)) % (14 : Int32)) = (7 : Int32) ∨ ((x &&& (2147483647 : Int32)) % (14 : Int32)) = (8 : Int32) ∨ ((x &&& (2147483647 : Int32)) % (14 : Int32)) = (9 : Int32) ∨ ((x &&& (2147483647 : Int32)) % (14 : Int32)) = (10 : Int32) ∨ ((x &&& (2147483647 : Int32)) % (14 : Int32)) = (11 : Int32) ∨ ((x &&& (2147483647 : Int32)) % (14 : Int32)) = (12 : Int32) ∨ ((x &&& (2147483647 : Int32)) % (14 : Int32)) = (13 : Int32) := by
  have h1 := c_mask x 2147483647 31 (by decide) (by decide)
  have h2 := (c_irem (x &&& 2147483647) 14 14 (by decide)).1 (by rw [h1]; omega)
  have h3 : ((x &&& 2147483647) % 14).toInt = 0 ∨ ((x &&& 2147483647) % 14).toInt = 1 ∨ ((x &&& 2147483647) % 14).toInt = 2 ∨ ((x &&& 2147483647) % 14).toInt = 3 ∨ ((x &&& 2147483647) % 14).toInt = 4 ∨ ((x &&& 2147483647) % 14).toInt = 5 ∨ ((x &&& 2147483647) % 14).toInt = 6 ∨ ((x &&& 2147483647) % 14).toInt = 7 ∨ ((x &&& 2147483647) % 14).toInt = 8 ∨ ((x &&& 2147483647) % 14).toInt = 9 ∨ ((x &&& 2147483647) % 14).toInt = 10 ∨ ((x &&& 2147483647) % 14).toInt = 11 ∨ ((x &&& 2147483647) % 14).toInt = 12 ∨ ((x &&& 2147483647) % 14).toInt = 13 := by omega
  rcases h3 with h | h | h | h | h | h | h | h | h | h | h | h | h | h
  · exact Or.inl (Int32.toInt_inj.mp (by rw [h]; decide))
  · exact Or.inr (Or.inl (Int32.toInt_inj.mp (by rw [h]; decide)))
  · exact Or.inr (Or.inr (Or.inl (Int32.toInt_inj.mp (by rw [h]; decide))))
  · exact Or.inr (Or.inr (Or.inr (Or.inl (Int32.toInt_inj.mp (by rw [h]; decide)))))
  · exact Or.inr (Or.inr (Or.inr (Or.inr (Or.inl (Int32.toInt_inj.mp (by rw [h]; decide))))))
  · exact Or.inr (Or.inr (Or.inr (Or.inr (Or.inr (Or.inl (Int32.toInt_inj.mp (by rw [h]; decide)))))))
  · exact Or.inr (Or.inr (Or.inr (Or.inr (Or.inr (Or.inr (Or.inl (Int32.toInt_inj.mp (by rw [h]; decide))))))))
  · exact Or.inr (Or.inr (Or.inr (Or.inr (Or.inr (Or.inr (Or.inr (Or.inl (Int32.toInt_inj.mp (by rw [h]; decide)))))))))
  · exact Or.inr (Or.inr (Or.inr (Or.inr (Or.inr (Or.inr (Or.inr (Or.inr (Or.inl (Int32.toInt_inj.mp (by rw [h]; decide))))))))))
  · exact Or.inr (Or.inr (Or.inr (Or.inr (Or.inr (Or.inr (Or.inr (Or.inr (Or.inr (Or.inl (Int32.toInt_inj.mp (by rw [h]; decide)))))))))))
  · exact Or.inr (Or.inr (Or.inr (Or.inr (Or.inr (Or.inr (Or.inr (Or.inr (Or.inr (Or.inr (Or.inl (Int32.toInt_inj.mp (by rw [h]; decide))))))))))))
  · exact Or.inr (Or.inr (Or.inr (Or.inr (Or.inr (Or.inr (Or.inr (Or.inr (Or.inr (Or.inr (Or.inr (Or.inl (Int32.toInt_inj.mp (by rw [h]; decide)))))))))))))
  · exact Or.inr (Or.inr (Or.inr (Or.inr (Or.inr (Or.inr (Or.inr (Or.inr (Or.inr (Or.inr (Or.inr (Or.inr (Or.inl (Int32.toInt_inj.mp (by rw [h]; decide))))))))))))))
  · exact Or.inr (Or.inr (Or.inr (Or.inr (Or.inr (Or.inr (Or.inr (Or.inr (Or.inr (Or.inr (Or.inr (Or.inr (Or.inr ((Int32.toInt_inj.mp (by rw [h]; decide)))))))))))))))
theorem d1_0 : decode prog_37_method_6_code 0 = .ok (.aload_n 0, 1) := by decide +kernel
theorem d1_1 : decode prog_37_method_6_code 1 = .ok (.getfield 65, 3) := by decide +kernel
theorem d1_4 : decode prog_37_method_6_code 4 = .ok (.ifCond .eq 11, 3) := by decide +kernel
theorem d1_15 : decode prog_37_method_6_code 15 = .ok (.iconst 1, 1) := by decide +kernel
theorem d1_16 : decode prog_37_method_6_code 16 = .ok (.goto 4, 3) := by decide +kernel
theorem d1_20 : decode prog_37_method_6_code 20 = .ok (.ireturn, 1) := by decide +kernel
theorem d1_7 : decode prog_37_method_6_code 7 = .ok (.aload_n 0, 1) := by decide +kernel
theorem d1_8 : decode prog_37_method_6_code 8 = .ok (.getfield 65, 3) := by decide +kernel
theorem d1_11 : decode prog_37_method_6_code 11 = .ok (.iload_n 1, 1) := by decide +kernel
theorem d1_12 : decode prog_37_method_6_code 12 = .ok (.if_icmp .ne 7, 3) := by decide +kernel
theorem d1_19 : decode prog_37_method_6_code 19 = .ok (.iconst 0, 1) := by decide +kernel
theorem pd_0 : parseMethodDescriptor "(I)Z" = some ⟨[.int], some .boolean⟩ := by decide +kernel
theorem pn_rm1 : plainName "com/example/davka/davka/FieldKind" = true := by first | (simp [plainName, overriddenIn]; done) | decide +kernel
theorem ef_rm1 (m : MethodId) (a : Addr) (n : Int32) (wd : Int32) : entryFrame m #[(.ref a), (.int n)] 2 = mkF m 0 #[.val (.ref a), .val (.int n)] [] := by first | (simp [entryFrame, mkF, argsToLocals, Value.category]; done) | rfl
def Q_rm1 (Z : State) (h0 : Heap) (n0 : Nat) (a : Addr) (n : Int32) (wd : Int32) (v : Option Value) (h : Heap) (L : List Loc) : Prop := v = some (.int (own_fits wd n)) ∧ Fr n0 L ∧ h = h0
set_option maxRecDepth 65536 in
set_option maxHeartbeats 40000000 in
theorem rm1 (l : Launch) (Z : State) (a0 : Array Value) (hw : ∀ d ∈ tables_1, d.before a0 Z = true) (ws : List Jvm.Cond) (h0 : Heap) (n0 : Nat) (O0 : Old Z n0 h0) (a : Addr) (n : Int32) (wd : Int32) (Fa : Fld Z h0 a "com/example/davka/davka/FieldKind" "width" "I" (.int wd)) :
    MetFree l (⟨"com/example/davka/davka/FieldKind", "fits", "(I)Z"⟩ : MethodName) (head1 (Jvm.Cond.code (⟨"com/example/davka/davka/FieldKind", "fits", "(I)Z"⟩ : MethodName) prog_37_method_6_code 2 (some .boolean) :: ws) ({ frames := 0, cells := 0, slots := 0, locals := 0 } : Room)) (fun aq U => aq = #[(.ref a), (.int n)] ∧ Z.Warmed39 U.vm ∧ U.heap = h0) (fun _ _ _ _ _ => True) (fun _ U o U' => ∃ v L, o = .returned v ∧ Q_rm1 Z h0 n0 a n wd v U'.heap L ∧ FrameEnd U o U' L ({ frames := 0, cells := 0, slots := 0, locals := 0 } : Room).cells ({ frames := 0, cells := 0, slots := 0, locals := 0 } : Room).slots) := by
  refine MetFree.of_bodySF (plainFor_of_name pn_rm1) hisR ?_
  intro p e s m args below meth c s₁ Bd hml0 hP hK
  obtain ⟨rfl, hZ, hh⟩ := hP
  have hx := Bd.exec
  have hby := Bd.bytes
  have hml : c.maxLocals = 2 := hml0
  have hown : s.vm.findClass "com/example/davka/davka/FieldKind" = some m.cls := findClass_of_methodNamed Bd.named
  have hnm := (name_of_methodNamed Bd.named Bd.method).1
  have hlk := Bd.notSynchronized
  have hret := Bd.returns
  have X0 : Stand p l e ({ frames := 0, cells := 0, slots := 0, locals := 0 } : Room) s m #[(.ref a), (.int n)] below meth c s₁ [] 0 0 := Stand.of_body Bd
  have e0 : s₁.heap = h0 := by rw [← hh, Bd.state]; rfl
  have N0 := Fr.nil n0
  have K0 := Keep.refl h0 []
  refine own_go (S' := (s₁.setTop (mkF m 0 #[.val (.ref a), .val (.int n)] []))) (fun tq kq => castTop (ef_rm1 m a n wd) kq) ?_
  show own_G p e s below (Q_rm1 Z h0 n0 a n wd) _ _ _
  refine own_go (S' := (s₁.setTop (mkF m 1 #[.val (.ref a), .val (.int n)] [(.ref a)]))) (fun tq kq => XS.aloadN X0.here hx rfl (hb hby d1_0) rfl rfl kq) ?_
  obtain ⟨T101, X101, e101, st101⟩ := getF X0 hx hZ hown (host := "") (Or.inl (hw _ (List.mem_of_getElem? (i := 52) rfl))) Via.refl e0 Fa (g := (mkF m 1 #[.val (.ref a), .val (.int n)] [(.ref a)])) rfl rfl (hb hby d1_1)
  refine own_go (S' := (T101.setTop (mkF m 4 #[.val (.ref a), .val (.int n)] [(.int wd)]))) (fun tq kq => st101 tq kq) ?_
  by_cases hc102 : wd = (0 : Int32)
  · refine own_go (S' := (T101.setTop (mkF m 20 #[.val (.ref a), .val (.int n)] [(.int (1 : Int32))]))) (fun tq kq => XS.ifYes X101.here hx rfl (pc0 := 4) (pc' := 15) rfl (hb hby d1_4) rfl ((if0 _ _).trans (teq hc102).1) (by decide) (by decide) (XS.iconst X101.here hx rfl (hb hby d1_15) (XS.goto X101.here hx rfl (pc0 := 16) (pc' := 20) rfl (hb hby d1_16) (by decide) (by decide) kq))) ?_
    refine own_retN X101 hx hlk hret (by simp) (hb hby d1_20) (by decide) (by decide) ?_
    exact ⟨by simp only [own_fits, if_pos hc102]; rfl, N0, e101⟩
  · refine own_go (S' := (T101.setTop (mkF m 8 #[.val (.ref a), .val (.int n)] [(.ref a)]))) (fun tq kq => XS.ifNo X101.here hx rfl (hb hby d1_4) rfl ((if0 _ _).trans (feq hc102).1) (XS.aloadN X101.here hx rfl (hb hby d1_7) rfl rfl kq)) ?_
    obtain ⟨T103, X103, e103, st103⟩ := getF X101 hx hZ hown (host := "") (Or.inl (hw _ (List.mem_of_getElem? (i := 52) rfl))) Via.refl e101 Fa (g := (mkF m 8 #[.val (.ref a), .val (.int n)] [(.ref a)])) rfl rfl (hb hby d1_8)
    refine own_go (S' := (T103.setTop (mkF m 12 #[.val (.ref a), .val (.int n)] [(.int n), (.int wd)]))) (fun tq kq => st103 tq (XS.iloadN X103.here hx rfl (hb hby d1_11) rfl kq)) ?_
    by_cases hc104 : wd = n
    · refine own_go (S' := (T103.setTop (mkF m 20 #[.val (.ref a), .val (.int n)] [(.int (1 : Int32))]))) (fun tq kq => XS.icmpNo X103.here hx rfl (hb hby d1_12) rfl (teq hc104).2 (XS.iconst X103.here hx rfl (hb hby d1_15) (XS.goto X103.here hx rfl (pc0 := 16) (pc' := 20) rfl (hb hby d1_16) (by decide) (by decide) kq))) ?_
      refine own_retN X103 hx hlk hret (by simp) (hb hby d1_20) (by decide) (by decide) ?_
      exact ⟨by simp only [own_fits, if_neg hc102, if_pos hc104]; rfl, N0, e103⟩
    · refine own_go (S' := (T103.setTop (mkF m 20 #[.val (.ref a), .val (.int n)] [(.int (0 : Int32))]))) (fun tq kq => XS.icmpYes X103.here hx rfl (pc0 := 12) (pc' := 19) rfl (hb hby d1_12) rfl (feq hc104).2 (by decide) (by decide) (XS.iconst X103.here hx rfl (hb hby d1_19) kq)) ?_
      refine own_retN X103 hx hlk hret (by simp) (hb hby d1_20) (by decide) (by decide) ?_
      exact ⟨by simp only [own_fits, if_neg hc102, if_neg hc104]; rfl, N0, e103⟩
set_option maxRecDepth 65536 in
set_option maxHeartbeats 40000000 in
theorem tail0 {p : Program} {l : Launch} {e : Env} {s : State} {m : MethodId} {args : Array Value} {below : List Frame} {meth : Method} {c : Code} {Z : State} {a0 : Array Value} {h0 : Heap} {n0 : Nat}  (hlk : meth.locks = false) (hret : meth.sig.returnType = some .boolean) (hx : p.tables.exec = Jvm.exec) (hZ : Z.Warmed39 s.vm) (hw : ∀ d ∈ tables_1, d.before a0 Z = true) (hby : c.code = code) (hml : c.maxLocals = 9) (hown : s.vm.findClass "com/example/davka/davka/FieldKindFitsPinLaw" = some m.cls) (hnm : meth.name = "law") (p0 : Int32) (p1 : Int32) (p2 : Int32) (bk : Addr) (bw : Addr) (kk : Int32) (a : Addr) (C : String) (wd : Int32) (cl0 : Cell) (QQ : Option Value → Heap → List Loc → Prop) (hQ : ∀ h L, Fr n0 L → QQ (some (.int 1)) h L)
    {Tp : State} {locs : List Loc} {hp : Heap} (Xp : Stand p l e room_1 s m args below meth c Tp locs 2 28) (ep : Tp.heap = hp) (Np : Fr n0 locs) (Op : Old Z n0 hp) (Kp : Keep h0 hp []) (Ar : Arr Z hp bk cl0 (.object "com/example/davka/davka/FieldKind")) (hin : ¬ (kk < 0 ∨ cl0.slots.size ≤ kk.toNatClampNeg)) (hat : cl0.slots[kk.toNatClampNeg]? = some (.ref a)) (Ea : Exa Z hp a C) (Fa : Fld Z hp a "com/example/davka/davka/FieldKind" "width" "I" (.int wd)) (hsel : (Jvm.Cond.selects C ({ cls := "com/example/davka/davka/FieldKind", name := "fits", desc := "(I)Z" } : Jvm.MethodName) ({ cls := "com/example/davka/davka/FieldKind", name := "fits", desc := "(I)Z" } : Jvm.MethodName)).before a0 Z = true) :
    own_G p e s below (QQ) room_1.cells room_1.slots (Tp.setTop (mkF m 187 #[.val (.int p0), .val (.int p1), .val (.int p2), .val (.ref bk), .val (.ref bw), .val (.int kk), .unset, .unset, .unset] [(.int wd)])) := by
  refine own_go (S' := (Tp.setTop (mkF m 192 #[.val (.int p0), .val (.int p1), .val (.int p2), .val (.ref bk), .val (.ref bw), .val (.int kk), .val (.int wd), .unset, .unset] [(.int (p2 &&& (3 : Int32)))]))) (fun tq kq => XS.istore Xp.here hx rfl (hb hby at_187) rfl (l' := #[.val (.int p0), .val (.int p1), .val (.int p2), .val (.ref bk), .val (.ref bw), .val (.int kk), .val (.int wd), .unset, .unset]) rfl (XS.iloadN Xp.here hx rfl (hb hby at_189) rfl (XS.iconst Xp.here hx rfl (hb hby at_190) (XS.iand Xp.here hx rfl (hb hby at_191) rfl kq)))) ?_
  by_cases hc101 : (p2 &&& (3 : Int32)) = (0 : Int32)
  · refine own_go (S' := (Tp.setTop (mkF m 213 #[.val (.int p0), .val (.int p1), .val (.int p2), .val (.ref bk), .val (.ref bw), .val (.int kk), .val (.int wd), .val (.int p1), .unset] [(.int wd)]))) (fun tq kq => XS.ifNo Xp.here hx rfl (hb hby at_192) rfl ((if0 _ _).trans (teq hc101).2) (XS.iloadN Xp.here hx rfl (hb hby at_195) rfl (XS.goto Xp.here hx rfl (pc0 := 196) (pc' := 209) rfl (hb hby at_196) (by decide) (by decide) (XS.istore Xp.here hx rfl (hb hby at_209) rfl (l' := #[.val (.int p0), .val (.int p1), .val (.int p2), .val (.ref bk), .val (.ref bw), .val (.int kk), .val (.int wd), .val (.int p1), .unset]) rfl (XS.iload Xp.here hx rfl (hb hby at_211) rfl kq))))) ?_
    by_cases hc102 : wd = (0 : Int32)
    · refine own_go (S' := (Tp.setTop (mkF m 236 #[.val (.int p0), .val (.int p1), .val (.int p2), .val (.ref bk), .val (.ref bw), .val (.int kk), .val (.int wd), .val (.int p1), .val (.int (1 : Int32))] [(.int p1), (.ref a)]))) (fun tq kq => XS.ifYes Xp.here hx rfl (pc0 := 213) (pc' := 223) rfl (hb hby at_213) rfl ((if0 _ _).trans (teq hc102).1) (by decide) (by decide) (XS.iconst Xp.here hx rfl (hb hby at_223) (XS.goto Xp.here hx rfl (pc0 := 224) (pc' := 228) rfl (hb hby at_224) (by decide) (by decide) (XS.istore Xp.here hx rfl (hb hby at_228) rfl (l' := #[.val (.int p0), .val (.int p1), .val (.int p2), .val (.ref bk), .val (.ref bw), .val (.int kk), .val (.int wd), .val (.int p1), .val (.int (1 : Int32))]) rfl (XS.aloadN Xp.here hx rfl (hb hby at_230) rfl rfl (XS.iload Xp.here hx rfl (hb hby at_231) rfl (Xp.aaload hx (j := kk) (v := (.ref a)) (by rw [ep]; exact Ar.1) (State.isArrayOf_alike hZ.alike Ar.2.1) rfl Ar.2.2 hin hat (g := (mkF m 233 #[.val (.int p0), .val (.int p1), .val (.int p2), .val (.ref bk), .val (.ref bw), .val (.int kk), .val (.int wd), .val (.int p1), .val (.int (1 : Int32))] [(.int kk), (.ref bk)])) rfl rfl (hb hby at_233) tq (XS.iload Xp.here hx rfl (hb hby at_234) rfl kq)))))))) ?_
      obtain ⟨cq103, kq103, q103a, q103b, q103c⟩ := isOf hZ ep Ea
      obtain ⟨_, _, ⟨T103, L103, k103, n103⟩, -, X103, ⟨Lc103, hQ103, l103, y103, z103⟩, st103⟩ := Xp.virtualBack hx (y := (⟨"com/example/davka/davka/FieldKind", "fits", "(I)Z"⟩ : MethodName)) (z := (⟨"com/example/davka/davka/FieldKind", "fits", "(I)Z"⟩ : MethodName)) hown (mvT hZ (hw _ (List.mem_of_getElem? (i := 47) rfl))) (mvT hZ (hw _ (List.mem_of_getElem? (i := 48) rfl))) (notFace_of_selects (args := #[]) (mvT hZ hsel)) (mvT hZ hsel) (mvT hZ (hw _ (List.mem_of_getElem? (i := 49) rfl))) (by decide) (backOf (W := 0) (rm1 l Z a0 hw [] hp n0 Op a p1 wd Fa) hZ (hw _ (List.mem_of_getElem? (i := 51) rfl)) (hw _ (List.mem_of_getElem? (i := 3) rfl)) (by decide) (by decide)) q103a q103c (g := (mkF m 236 #[.val (.int p0), .val (.int p1), .val (.int p2), .val (.ref bk), .val (.ref bw), .val (.int kk), .val (.int wd), .val (.int p1), .val (.int (1 : Int32))] [(.int p1), (.ref a)])) rfl (by rw [hml]; rfl) (Steps.refl _) (argsL := [(.int p1)]) (rest := []) (lenOf pd_0 rfl) rfl (by show 2 * 0 + _ ≤ _; exact Nat.le_of_eq rfl) (hb hby at_236) (fun _ _ => ⟨rfl, ep, (by decide : 2 + 0 ≤ _), (by decide : 28 + 0 ≤ _)⟩)
      dsimp only [Pt.U, Pt.locs, Pt.cells, Pt.slots] at X103 l103 y103 z103 st103 hQ103
      subst l103 y103 z103
      obtain ⟨rfl, N103, eh103⟩ := hQ103
      have Nf103 := Fr.app Np N103
      refine own_go (S' := (T103.setTop (mkF m 249 #[.val (.int p0), .val (.int p1), .val (.int p2), .val (.ref bk), .val (.ref bw), .val (.int kk), .val (.int wd), .val (.int p1), .val (.int (1 : Int32))] [(.int (1 : Int32))]))) (fun tq kq => st103.trans (XS.iload X103.here hx rfl (hb hby at_239) rfl (XS.icmpNo X103.here hx rfl (hb hby at_241) rfl (teq (by rw [own_same]; simp only [own_exp, if_pos hc101, if_pos hc102])).2 (XS.iconst X103.here hx rfl (hb hby at_244) (XS.goto X103.here hx rfl (pc0 := 245) (pc' := 249) rfl (hb hby at_245) (by decide) (by decide) kq))))) ?_
      refine own_retN X103 hx hlk hret (by simp) (hb hby at_249) (by decide) (by decide) ?_
      exact hQ _ _ Nf103
    · refine own_go (S' := (Tp.setTop (mkF m 220 #[.val (.int p0), .val (.int p1), .val (.int p2), .val (.ref bk), .val (.ref bw), .val (.int kk), .val (.int wd), .val (.int p1), .unset] [(.int wd), (.int p1)]))) (fun tq kq => XS.ifNo Xp.here hx rfl (hb hby at_213) rfl ((if0 _ _).trans (feq hc102).1) (XS.iload Xp.here hx rfl (hb hby at_216) rfl (XS.iload Xp.here hx rfl (hb hby at_218) rfl kq))) ?_
      by_cases hc104 : p1 = wd
      · refine own_go (S' := (Tp.setTop (mkF m 236 #[.val (.int p0), .val (.int p1), .val (.int p2), .val (.ref bk), .val (.ref bw), .val (.int kk), .val (.int wd), .val (.int p1), .val (.int (1 : Int32))] [(.int p1), (.ref a)]))) (fun tq kq => XS.icmpNo Xp.here hx rfl (hb hby at_220) rfl (teq hc104).2 (XS.iconst Xp.here hx rfl (hb hby at_223) (XS.goto Xp.here hx rfl (pc0 := 224) (pc' := 228) rfl (hb hby at_224) (by decide) (by decide) (XS.istore Xp.here hx rfl (hb hby at_228) rfl (l' := #[.val (.int p0), .val (.int p1), .val (.int p2), .val (.ref bk), .val (.ref bw), .val (.int kk), .val (.int wd), .val (.int p1), .val (.int (1 : Int32))]) rfl (XS.aloadN Xp.here hx rfl (hb hby at_230) rfl rfl (XS.iload Xp.here hx rfl (hb hby at_231) rfl (Xp.aaload hx (j := kk) (v := (.ref a)) (by rw [ep]; exact Ar.1) (State.isArrayOf_alike hZ.alike Ar.2.1) rfl Ar.2.2 hin hat (g := (mkF m 233 #[.val (.int p0), .val (.int p1), .val (.int p2), .val (.ref bk), .val (.ref bw), .val (.int kk), .val (.int wd), .val (.int p1), .val (.int (1 : Int32))] [(.int kk), (.ref bk)])) rfl rfl (hb hby at_233) tq (XS.iload Xp.here hx rfl (hb hby at_234) rfl kq)))))))) ?_
        obtain ⟨cq105, kq105, q105a, q105b, q105c⟩ := isOf hZ ep Ea
        obtain ⟨_, _, ⟨T105, L105, k105, n105⟩, -, X105, ⟨Lc105, hQ105, l105, y105, z105⟩, st105⟩ := Xp.virtualBack hx (y := (⟨"com/example/davka/davka/FieldKind", "fits", "(I)Z"⟩ : MethodName)) (z := (⟨"com/example/davka/davka/FieldKind", "fits", "(I)Z"⟩ : MethodName)) hown (mvT hZ (hw _ (List.mem_of_getElem? (i := 47) rfl))) (mvT hZ (hw _ (List.mem_of_getElem? (i := 48) rfl))) (notFace_of_selects (args := #[]) (mvT hZ hsel)) (mvT hZ hsel) (mvT hZ (hw _ (List.mem_of_getElem? (i := 49) rfl))) (by decide) (backOf (W := 0) (rm1 l Z a0 hw [] hp n0 Op a p1 wd Fa) hZ (hw _ (List.mem_of_getElem? (i := 51) rfl)) (hw _ (List.mem_of_getElem? (i := 3) rfl)) (by decide) (by decide)) q105a q105c (g := (mkF m 236 #[.val (.int p0), .val (.int p1), .val (.int p2), .val (.ref bk), .val (.ref bw), .val (.int kk), .val (.int wd), .val (.int p1), .val (.int (1 : Int32))] [(.int p1), (.ref a)])) rfl (by rw [hml]; rfl) (Steps.refl _) (argsL := [(.int p1)]) (rest := []) (lenOf pd_0 rfl) rfl (by show 2 * 0 + _ ≤ _; exact Nat.le_of_eq rfl) (hb hby at_236) (fun _ _ => ⟨rfl, ep, (by decide : 2 + 0 ≤ _), (by decide : 28 + 0 ≤ _)⟩)
        dsimp only [Pt.U, Pt.locs, Pt.cells, Pt.slots] at X105 l105 y105 z105 st105 hQ105
        subst l105 y105 z105
        obtain ⟨rfl, N105, eh105⟩ := hQ105
        have Nf105 := Fr.app Np N105
        refine own_go (S' := (T105.setTop (mkF m 249 #[.val (.int p0), .val (.int p1), .val (.int p2), .val (.ref bk), .val (.ref bw), .val (.int kk), .val (.int wd), .val (.int p1), .val (.int (1 : Int32))] [(.int (1 : Int32))]))) (fun tq kq => st105.trans (XS.iload X105.here hx rfl (hb hby at_239) rfl (XS.icmpNo X105.here hx rfl (hb hby at_241) rfl (teq (by rw [own_same]; simp only [own_exp, if_pos hc101, if_neg hc102, if_pos hc104])).2 (XS.iconst X105.here hx rfl (hb hby at_244) (XS.goto X105.here hx rfl (pc0 := 245) (pc' := 249) rfl (hb hby at_245) (by decide) (by decide) kq))))) ?_
        refine own_retN X105 hx hlk hret (by simp) (hb hby at_249) (by decide) (by decide) ?_
        exact hQ _ _ Nf105
      · refine own_go (S' := (Tp.setTop (mkF m 236 #[.val (.int p0), .val (.int p1), .val (.int p2), .val (.ref bk), .val (.ref bw), .val (.int kk), .val (.int wd), .val (.int p1), .val (.int (0 : Int32))] [(.int p1), (.ref a)]))) (fun tq kq => XS.icmpYes Xp.here hx rfl (pc0 := 220) (pc' := 227) rfl (hb hby at_220) rfl (feq hc104).2 (by decide) (by decide) (XS.iconst Xp.here hx rfl (hb hby at_227) (XS.istore Xp.here hx rfl (hb hby at_228) rfl (l' := #[.val (.int p0), .val (.int p1), .val (.int p2), .val (.ref bk), .val (.ref bw), .val (.int kk), .val (.int wd), .val (.int p1), .val (.int (0 : Int32))]) rfl (XS.aloadN Xp.here hx rfl (hb hby at_230) rfl rfl (XS.iload Xp.here hx rfl (hb hby at_231) rfl (Xp.aaload hx (j := kk) (v := (.ref a)) (by rw [ep]; exact Ar.1) (State.isArrayOf_alike hZ.alike Ar.2.1) rfl Ar.2.2 hin hat (g := (mkF m 233 #[.val (.int p0), .val (.int p1), .val (.int p2), .val (.ref bk), .val (.ref bw), .val (.int kk), .val (.int wd), .val (.int p1), .val (.int (0 : Int32))] [(.int kk), (.ref bk)])) rfl rfl (hb hby at_233) tq (XS.iload Xp.here hx rfl (hb hby at_234) rfl kq))))))) ?_
        obtain ⟨cq106, kq106, q106a, q106b, q106c⟩ := isOf hZ ep Ea
        obtain ⟨_, _, ⟨T106, L106, k106, n106⟩, -, X106, ⟨Lc106, hQ106, l106, y106, z106⟩, st106⟩ := Xp.virtualBack hx (y := (⟨"com/example/davka/davka/FieldKind", "fits", "(I)Z"⟩ : MethodName)) (z := (⟨"com/example/davka/davka/FieldKind", "fits", "(I)Z"⟩ : MethodName)) hown (mvT hZ (hw _ (List.mem_of_getElem? (i := 47) rfl))) (mvT hZ (hw _ (List.mem_of_getElem? (i := 48) rfl))) (notFace_of_selects (args := #[]) (mvT hZ hsel)) (mvT hZ hsel) (mvT hZ (hw _ (List.mem_of_getElem? (i := 49) rfl))) (by decide) (backOf (W := 0) (rm1 l Z a0 hw [] hp n0 Op a p1 wd Fa) hZ (hw _ (List.mem_of_getElem? (i := 51) rfl)) (hw _ (List.mem_of_getElem? (i := 3) rfl)) (by decide) (by decide)) q106a q106c (g := (mkF m 236 #[.val (.int p0), .val (.int p1), .val (.int p2), .val (.ref bk), .val (.ref bw), .val (.int kk), .val (.int wd), .val (.int p1), .val (.int (0 : Int32))] [(.int p1), (.ref a)])) rfl (by rw [hml]; rfl) (Steps.refl _) (argsL := [(.int p1)]) (rest := []) (lenOf pd_0 rfl) rfl (by show 2 * 0 + _ ≤ _; exact Nat.le_of_eq rfl) (hb hby at_236) (fun _ _ => ⟨rfl, ep, (by decide : 2 + 0 ≤ _), (by decide : 28 + 0 ≤ _)⟩)
        dsimp only [Pt.U, Pt.locs, Pt.cells, Pt.slots] at X106 l106 y106 z106 st106 hQ106
        subst l106 y106 z106
        obtain ⟨rfl, N106, eh106⟩ := hQ106
        have Nf106 := Fr.app Np N106
        refine own_go (S' := (T106.setTop (mkF m 249 #[.val (.int p0), .val (.int p1), .val (.int p2), .val (.ref bk), .val (.ref bw), .val (.int kk), .val (.int wd), .val (.int p1), .val (.int (0 : Int32))] [(.int (1 : Int32))]))) (fun tq kq => st106.trans (XS.iload X106.here hx rfl (hb hby at_239) rfl (XS.icmpNo X106.here hx rfl (hb hby at_241) rfl (teq (by rw [own_same]; simp only [own_exp, if_pos hc101, if_neg hc102, if_neg hc104])).2 (XS.iconst X106.here hx rfl (hb hby at_244) (XS.goto X106.here hx rfl (pc0 := 245) (pc' := 249) rfl (hb hby at_245) (by decide) (by decide) kq))))) ?_
        refine own_retN X106 hx hlk hret (by simp) (hb hby at_249) (by decide) (by decide) ?_
        exact hQ _ _ Nf106
  · refine own_go (S' := (Tp.setTop (mkF m 209 #[.val (.int p0), .val (.int p1), .val (.int p2), .val (.ref bk), .val (.ref bw), .val (.int kk), .val (.int wd), .unset, .unset] [(.int ((wd + (((p2.toUInt32 >>> ((2 : Int32) &&& 31).toUInt32).toInt32) &&& (3 : Int32))) - (1 : Int32)))]))) (fun tq kq => XS.ifYes Xp.here hx rfl (pc0 := 192) (pc' := 199) rfl (hb hby at_192) rfl ((if0 _ _).trans (feq hc101).2) (by decide) (by decide) (XS.iload Xp.here hx rfl (hb hby at_199) rfl (XS.iloadN Xp.here hx rfl (hb hby at_201) rfl (XS.iconst Xp.here hx rfl (hb hby at_202) (XS.iushr Xp.here hx rfl (hb hby at_203) rfl (XS.iconst Xp.here hx rfl (hb hby at_204) (XS.iand Xp.here hx rfl (hb hby at_205) rfl (XS.iadd Xp.here hx rfl (hb hby at_206) rfl (XS.iconst Xp.here hx rfl (hb hby at_207) (XS.isub Xp.here hx rfl (hb hby at_208) rfl kq)))))))))) ?_
    refine own_go (S' := (Tp.setTop (mkF m 213 #[.val (.int p0), .val (.int p1), .val (.int p2), .val (.ref bk), .val (.ref bw), .val (.int kk), .val (.int wd), .val (.int ((wd + (((p2.toUInt32 >>> ((2 : Int32) &&& 31).toUInt32).toInt32) &&& (3 : Int32))) - (1 : Int32))), .unset] [(.int wd)]))) (fun tq kq => XS.istore Xp.here hx rfl (hb hby at_209) rfl (l' := #[.val (.int p0), .val (.int p1), .val (.int p2), .val (.ref bk), .val (.ref bw), .val (.int kk), .val (.int wd), .val (.int ((wd + (((p2.toUInt32 >>> ((2 : Int32) &&& 31).toUInt32).toInt32) &&& (3 : Int32))) - (1 : Int32))), .unset]) rfl (XS.iload Xp.here hx rfl (hb hby at_211) rfl kq)) ?_
    by_cases hc107 : wd = (0 : Int32)
    · refine own_go (S' := (Tp.setTop (mkF m 236 #[.val (.int p0), .val (.int p1), .val (.int p2), .val (.ref bk), .val (.ref bw), .val (.int kk), .val (.int wd), .val (.int ((wd + (((p2.toUInt32 >>> ((2 : Int32) &&& 31).toUInt32).toInt32) &&& (3 : Int32))) - (1 : Int32))), .val (.int (1 : Int32))] [(.int ((wd + (((p2.toUInt32 >>> ((2 : Int32) &&& 31).toUInt32).toInt32) &&& (3 : Int32))) - (1 : Int32))), (.ref a)]))) (fun tq kq => XS.ifYes Xp.here hx rfl (pc0 := 213) (pc' := 223) rfl (hb hby at_213) rfl ((if0 _ _).trans (teq hc107).1) (by decide) (by decide) (XS.iconst Xp.here hx rfl (hb hby at_223) (XS.goto Xp.here hx rfl (pc0 := 224) (pc' := 228) rfl (hb hby at_224) (by decide) (by decide) (XS.istore Xp.here hx rfl (hb hby at_228) rfl (l' := #[.val (.int p0), .val (.int p1), .val (.int p2), .val (.ref bk), .val (.ref bw), .val (.int kk), .val (.int wd), .val (.int ((wd + (((p2.toUInt32 >>> ((2 : Int32) &&& 31).toUInt32).toInt32) &&& (3 : Int32))) - (1 : Int32))), .val (.int (1 : Int32))]) rfl (XS.aloadN Xp.here hx rfl (hb hby at_230) rfl rfl (XS.iload Xp.here hx rfl (hb hby at_231) rfl (Xp.aaload hx (j := kk) (v := (.ref a)) (by rw [ep]; exact Ar.1) (State.isArrayOf_alike hZ.alike Ar.2.1) rfl Ar.2.2 hin hat (g := (mkF m 233 #[.val (.int p0), .val (.int p1), .val (.int p2), .val (.ref bk), .val (.ref bw), .val (.int kk), .val (.int wd), .val (.int ((wd + (((p2.toUInt32 >>> ((2 : Int32) &&& 31).toUInt32).toInt32) &&& (3 : Int32))) - (1 : Int32))), .val (.int (1 : Int32))] [(.int kk), (.ref bk)])) rfl rfl (hb hby at_233) tq (XS.iload Xp.here hx rfl (hb hby at_234) rfl kq)))))))) ?_
      obtain ⟨cq108, kq108, q108a, q108b, q108c⟩ := isOf hZ ep Ea
      obtain ⟨_, _, ⟨T108, L108, k108, n108⟩, -, X108, ⟨Lc108, hQ108, l108, y108, z108⟩, st108⟩ := Xp.virtualBack hx (y := (⟨"com/example/davka/davka/FieldKind", "fits", "(I)Z"⟩ : MethodName)) (z := (⟨"com/example/davka/davka/FieldKind", "fits", "(I)Z"⟩ : MethodName)) hown (mvT hZ (hw _ (List.mem_of_getElem? (i := 47) rfl))) (mvT hZ (hw _ (List.mem_of_getElem? (i := 48) rfl))) (notFace_of_selects (args := #[]) (mvT hZ hsel)) (mvT hZ hsel) (mvT hZ (hw _ (List.mem_of_getElem? (i := 49) rfl))) (by decide) (backOf (W := 0) (rm1 l Z a0 hw [] hp n0 Op a ((wd + (((p2.toUInt32 >>> ((2 : Int32) &&& 31).toUInt32).toInt32) &&& (3 : Int32))) - (1 : Int32)) wd Fa) hZ (hw _ (List.mem_of_getElem? (i := 51) rfl)) (hw _ (List.mem_of_getElem? (i := 3) rfl)) (by decide) (by decide)) q108a q108c (g := (mkF m 236 #[.val (.int p0), .val (.int p1), .val (.int p2), .val (.ref bk), .val (.ref bw), .val (.int kk), .val (.int wd), .val (.int ((wd + (((p2.toUInt32 >>> ((2 : Int32) &&& 31).toUInt32).toInt32) &&& (3 : Int32))) - (1 : Int32))), .val (.int (1 : Int32))] [(.int ((wd + (((p2.toUInt32 >>> ((2 : Int32) &&& 31).toUInt32).toInt32) &&& (3 : Int32))) - (1 : Int32))), (.ref a)])) rfl (by rw [hml]; rfl) (Steps.refl _) (argsL := [(.int ((wd + (((p2.toUInt32 >>> ((2 : Int32) &&& 31).toUInt32).toInt32) &&& (3 : Int32))) - (1 : Int32)))]) (rest := []) (lenOf pd_0 rfl) rfl (by show 2 * 0 + _ ≤ _; exact Nat.le_of_eq rfl) (hb hby at_236) (fun _ _ => ⟨rfl, ep, (by decide : 2 + 0 ≤ _), (by decide : 28 + 0 ≤ _)⟩)
      dsimp only [Pt.U, Pt.locs, Pt.cells, Pt.slots] at X108 l108 y108 z108 st108 hQ108
      subst l108 y108 z108
      obtain ⟨rfl, N108, eh108⟩ := hQ108
      have Nf108 := Fr.app Np N108
      refine own_go (S' := (T108.setTop (mkF m 249 #[.val (.int p0), .val (.int p1), .val (.int p2), .val (.ref bk), .val (.ref bw), .val (.int kk), .val (.int wd), .val (.int ((wd + (((p2.toUInt32 >>> ((2 : Int32) &&& 31).toUInt32).toInt32) &&& (3 : Int32))) - (1 : Int32))), .val (.int (1 : Int32))] [(.int (1 : Int32))]))) (fun tq kq => st108.trans (XS.iload X108.here hx rfl (hb hby at_239) rfl (XS.icmpNo X108.here hx rfl (hb hby at_241) rfl (teq (by rw [own_same]; simp only [own_exp, if_neg hc101, if_pos hc107])).2 (XS.iconst X108.here hx rfl (hb hby at_244) (XS.goto X108.here hx rfl (pc0 := 245) (pc' := 249) rfl (hb hby at_245) (by decide) (by decide) kq))))) ?_
      refine own_retN X108 hx hlk hret (by simp) (hb hby at_249) (by decide) (by decide) ?_
      exact hQ _ _ Nf108
    · refine own_go (S' := (Tp.setTop (mkF m 220 #[.val (.int p0), .val (.int p1), .val (.int p2), .val (.ref bk), .val (.ref bw), .val (.int kk), .val (.int wd), .val (.int ((wd + (((p2.toUInt32 >>> ((2 : Int32) &&& 31).toUInt32).toInt32) &&& (3 : Int32))) - (1 : Int32))), .unset] [(.int wd), (.int ((wd + (((p2.toUInt32 >>> ((2 : Int32) &&& 31).toUInt32).toInt32) &&& (3 : Int32))) - (1 : Int32)))]))) (fun tq kq => XS.ifNo Xp.here hx rfl (hb hby at_213) rfl ((if0 _ _).trans (feq hc107).1) (XS.iload Xp.here hx rfl (hb hby at_216) rfl (XS.iload Xp.here hx rfl (hb hby at_218) rfl kq))) ?_
      by_cases hc109 : ((wd + (((p2.toUInt32 >>> ((2 : Int32) &&& 31).toUInt32).toInt32) &&& (3 : Int32))) - (1 : Int32)) = wd
      · refine own_go (S' := (Tp.setTop (mkF m 236 #[.val (.int p0), .val (.int p1), .val (.int p2), .val (.ref bk), .val (.ref bw), .val (.int kk), .val (.int wd), .val (.int ((wd + (((p2.toUInt32 >>> ((2 : Int32) &&& 31).toUInt32).toInt32) &&& (3 : Int32))) - (1 : Int32))), .val (.int (1 : Int32))] [(.int ((wd + (((p2.toUInt32 >>> ((2 : Int32) &&& 31).toUInt32).toInt32) &&& (3 : Int32))) - (1 : Int32))), (.ref a)]))) (fun tq kq => XS.icmpNo Xp.here hx rfl (hb hby at_220) rfl (teq hc109).2 (XS.iconst Xp.here hx rfl (hb hby at_223) (XS.goto Xp.here hx rfl (pc0 := 224) (pc' := 228) rfl (hb hby at_224) (by decide) (by decide) (XS.istore Xp.here hx rfl (hb hby at_228) rfl (l' := #[.val (.int p0), .val (.int p1), .val (.int p2), .val (.ref bk), .val (.ref bw), .val (.int kk), .val (.int wd), .val (.int ((wd + (((p2.toUInt32 >>> ((2 : Int32) &&& 31).toUInt32).toInt32) &&& (3 : Int32))) - (1 : Int32))), .val (.int (1 : Int32))]) rfl (XS.aloadN Xp.here hx rfl (hb hby at_230) rfl rfl (XS.iload Xp.here hx rfl (hb hby at_231) rfl (Xp.aaload hx (j := kk) (v := (.ref a)) (by rw [ep]; exact Ar.1) (State.isArrayOf_alike hZ.alike Ar.2.1) rfl Ar.2.2 hin hat (g := (mkF m 233 #[.val (.int p0), .val (.int p1), .val (.int p2), .val (.ref bk), .val (.ref bw), .val (.int kk), .val (.int wd), .val (.int ((wd + (((p2.toUInt32 >>> ((2 : Int32) &&& 31).toUInt32).toInt32) &&& (3 : Int32))) - (1 : Int32))), .val (.int (1 : Int32))] [(.int kk), (.ref bk)])) rfl rfl (hb hby at_233) tq (XS.iload Xp.here hx rfl (hb hby at_234) rfl kq)))))))) ?_
        obtain ⟨cq110, kq110, q110a, q110b, q110c⟩ := isOf hZ ep Ea
        obtain ⟨_, _, ⟨T110, L110, k110, n110⟩, -, X110, ⟨Lc110, hQ110, l110, y110, z110⟩, st110⟩ := Xp.virtualBack hx (y := (⟨"com/example/davka/davka/FieldKind", "fits", "(I)Z"⟩ : MethodName)) (z := (⟨"com/example/davka/davka/FieldKind", "fits", "(I)Z"⟩ : MethodName)) hown (mvT hZ (hw _ (List.mem_of_getElem? (i := 47) rfl))) (mvT hZ (hw _ (List.mem_of_getElem? (i := 48) rfl))) (notFace_of_selects (args := #[]) (mvT hZ hsel)) (mvT hZ hsel) (mvT hZ (hw _ (List.mem_of_getElem? (i := 49) rfl))) (by decide) (backOf (W := 0) (rm1 l Z a0 hw [] hp n0 Op a ((wd + (((p2.toUInt32 >>> ((2 : Int32) &&& 31).toUInt32).toInt32) &&& (3 : Int32))) - (1 : Int32)) wd Fa) hZ (hw _ (List.mem_of_getElem? (i := 51) rfl)) (hw _ (List.mem_of_getElem? (i := 3) rfl)) (by decide) (by decide)) q110a q110c (g := (mkF m 236 #[.val (.int p0), .val (.int p1), .val (.int p2), .val (.ref bk), .val (.ref bw), .val (.int kk), .val (.int wd), .val (.int ((wd + (((p2.toUInt32 >>> ((2 : Int32) &&& 31).toUInt32).toInt32) &&& (3 : Int32))) - (1 : Int32))), .val (.int (1 : Int32))] [(.int ((wd + (((p2.toUInt32 >>> ((2 : Int32) &&& 31).toUInt32).toInt32) &&& (3 : Int32))) - (1 : Int32))), (.ref a)])) rfl (by rw [hml]; rfl) (Steps.refl _) (argsL := [(.int ((wd + (((p2.toUInt32 >>> ((2 : Int32) &&& 31).toUInt32).toInt32) &&& (3 : Int32))) - (1 : Int32)))]) (rest := []) (lenOf pd_0 rfl) rfl (by show 2 * 0 + _ ≤ _; exact Nat.le_of_eq rfl) (hb hby at_236) (fun _ _ => ⟨rfl, ep, (by decide : 2 + 0 ≤ _), (by decide : 28 + 0 ≤ _)⟩)
        dsimp only [Pt.U, Pt.locs, Pt.cells, Pt.slots] at X110 l110 y110 z110 st110 hQ110
        subst l110 y110 z110
        obtain ⟨rfl, N110, eh110⟩ := hQ110
        have Nf110 := Fr.app Np N110
        refine own_go (S' := (T110.setTop (mkF m 249 #[.val (.int p0), .val (.int p1), .val (.int p2), .val (.ref bk), .val (.ref bw), .val (.int kk), .val (.int wd), .val (.int ((wd + (((p2.toUInt32 >>> ((2 : Int32) &&& 31).toUInt32).toInt32) &&& (3 : Int32))) - (1 : Int32))), .val (.int (1 : Int32))] [(.int (1 : Int32))]))) (fun tq kq => st110.trans (XS.iload X110.here hx rfl (hb hby at_239) rfl (XS.icmpNo X110.here hx rfl (hb hby at_241) rfl (teq (by rw [own_same]; simp only [own_exp, if_neg hc101, if_neg hc107, if_pos hc109])).2 (XS.iconst X110.here hx rfl (hb hby at_244) (XS.goto X110.here hx rfl (pc0 := 245) (pc' := 249) rfl (hb hby at_245) (by decide) (by decide) kq))))) ?_
        refine own_retN X110 hx hlk hret (by simp) (hb hby at_249) (by decide) (by decide) ?_
        exact hQ _ _ Nf110
      · refine own_go (S' := (Tp.setTop (mkF m 236 #[.val (.int p0), .val (.int p1), .val (.int p2), .val (.ref bk), .val (.ref bw), .val (.int kk), .val (.int wd), .val (.int ((wd + (((p2.toUInt32 >>> ((2 : Int32) &&& 31).toUInt32).toInt32) &&& (3 : Int32))) - (1 : Int32))), .val (.int (0 : Int32))] [(.int ((wd + (((p2.toUInt32 >>> ((2 : Int32) &&& 31).toUInt32).toInt32) &&& (3 : Int32))) - (1 : Int32))), (.ref a)]))) (fun tq kq => XS.icmpYes Xp.here hx rfl (pc0 := 220) (pc' := 227) rfl (hb hby at_220) rfl (feq hc109).2 (by decide) (by decide) (XS.iconst Xp.here hx rfl (hb hby at_227) (XS.istore Xp.here hx rfl (hb hby at_228) rfl (l' := #[.val (.int p0), .val (.int p1), .val (.int p2), .val (.ref bk), .val (.ref bw), .val (.int kk), .val (.int wd), .val (.int ((wd + (((p2.toUInt32 >>> ((2 : Int32) &&& 31).toUInt32).toInt32) &&& (3 : Int32))) - (1 : Int32))), .val (.int (0 : Int32))]) rfl (XS.aloadN Xp.here hx rfl (hb hby at_230) rfl rfl (XS.iload Xp.here hx rfl (hb hby at_231) rfl (Xp.aaload hx (j := kk) (v := (.ref a)) (by rw [ep]; exact Ar.1) (State.isArrayOf_alike hZ.alike Ar.2.1) rfl Ar.2.2 hin hat (g := (mkF m 233 #[.val (.int p0), .val (.int p1), .val (.int p2), .val (.ref bk), .val (.ref bw), .val (.int kk), .val (.int wd), .val (.int ((wd + (((p2.toUInt32 >>> ((2 : Int32) &&& 31).toUInt32).toInt32) &&& (3 : Int32))) - (1 : Int32))), .val (.int (0 : Int32))] [(.int kk), (.ref bk)])) rfl rfl (hb hby at_233) tq (XS.iload Xp.here hx rfl (hb hby at_234) rfl kq))))))) ?_
        obtain ⟨cq111, kq111, q111a, q111b, q111c⟩ := isOf hZ ep Ea
        obtain ⟨_, _, ⟨T111, L111, k111, n111⟩, -, X111, ⟨Lc111, hQ111, l111, y111, z111⟩, st111⟩ := Xp.virtualBack hx (y := (⟨"com/example/davka/davka/FieldKind", "fits", "(I)Z"⟩ : MethodName)) (z := (⟨"com/example/davka/davka/FieldKind", "fits", "(I)Z"⟩ : MethodName)) hown (mvT hZ (hw _ (List.mem_of_getElem? (i := 47) rfl))) (mvT hZ (hw _ (List.mem_of_getElem? (i := 48) rfl))) (notFace_of_selects (args := #[]) (mvT hZ hsel)) (mvT hZ hsel) (mvT hZ (hw _ (List.mem_of_getElem? (i := 49) rfl))) (by decide) (backOf (W := 0) (rm1 l Z a0 hw [] hp n0 Op a ((wd + (((p2.toUInt32 >>> ((2 : Int32) &&& 31).toUInt32).toInt32) &&& (3 : Int32))) - (1 : Int32)) wd Fa) hZ (hw _ (List.mem_of_getElem? (i := 51) rfl)) (hw _ (List.mem_of_getElem? (i := 3) rfl)) (by decide) (by decide)) q111a q111c (g := (mkF m 236 #[.val (.int p0), .val (.int p1), .val (.int p2), .val (.ref bk), .val (.ref bw), .val (.int kk), .val (.int wd), .val (.int ((wd + (((p2.toUInt32 >>> ((2 : Int32) &&& 31).toUInt32).toInt32) &&& (3 : Int32))) - (1 : Int32))), .val (.int (0 : Int32))] [(.int ((wd + (((p2.toUInt32 >>> ((2 : Int32) &&& 31).toUInt32).toInt32) &&& (3 : Int32))) - (1 : Int32))), (.ref a)])) rfl (by rw [hml]; rfl) (Steps.refl _) (argsL := [(.int ((wd + (((p2.toUInt32 >>> ((2 : Int32) &&& 31).toUInt32).toInt32) &&& (3 : Int32))) - (1 : Int32)))]) (rest := []) (lenOf pd_0 rfl) rfl (by show 2 * 0 + _ ≤ _; exact Nat.le_of_eq rfl) (hb hby at_236) (fun _ _ => ⟨rfl, ep, (by decide : 2 + 0 ≤ _), (by decide : 28 + 0 ≤ _)⟩)
        dsimp only [Pt.U, Pt.locs, Pt.cells, Pt.slots] at X111 l111 y111 z111 st111 hQ111
        subst l111 y111 z111
        obtain ⟨rfl, N111, eh111⟩ := hQ111
        have Nf111 := Fr.app Np N111
        refine own_go (S' := (T111.setTop (mkF m 249 #[.val (.int p0), .val (.int p1), .val (.int p2), .val (.ref bk), .val (.ref bw), .val (.int kk), .val (.int wd), .val (.int ((wd + (((p2.toUInt32 >>> ((2 : Int32) &&& 31).toUInt32).toInt32) &&& (3 : Int32))) - (1 : Int32))), .val (.int (0 : Int32))] [(.int (1 : Int32))]))) (fun tq kq => st111.trans (XS.iload X111.here hx rfl (hb hby at_239) rfl (XS.icmpNo X111.here hx rfl (hb hby at_241) rfl (teq (by rw [own_same]; simp only [own_exp, if_neg hc101, if_neg hc107, if_neg hc109])).2 (XS.iconst X111.here hx rfl (hb hby at_244) (XS.goto X111.here hx rfl (pc0 := 245) (pc' := 249) rfl (hb hby at_245) (by decide) (by decide) kq))))) ?_
        refine own_retN X111 hx hlk hret (by simp) (hb hby at_249) (by decide) (by decide) ?_
        exact hQ _ _ Nf111
theorem pn_rm0 : plainName "com/example/davka/davka/FieldKindFitsPinLaw" = true := by first | (simp [plainName, overriddenIn]; done) | decide +kernel
theorem ef_rm0 (m : MethodId) (p0 : Int32) (p1 : Int32) (p2 : Int32) (a0 : Addr) (a1 : Addr) (a2 : Addr) (a3 : Addr) (a4 : Addr) (a5 : Addr) (a6 : Addr) (a7 : Addr) (a8 : Addr) (a9 : Addr) (a10 : Addr) (a11 : Addr) (a12 : Addr) (a13 : Addr) : entryFrame m #[(.int p0), (.int p1), (.int p2)] maxLocals = mkF m 0 #[.val (.int p0), .val (.int p1), .val (.int p2), .unset, .unset, .unset, .unset, .unset, .unset] [] := by first | (simp [entryFrame, mkF, argsToLocals, Value.category, maxLocals]; done) | rfl
def Q_rm0 (Z : State) (h0 : Heap) (n0 : Nat) (p0 : Int32) (p1 : Int32) (p2 : Int32) (a0 : Addr) (a1 : Addr) (a2 : Addr) (a3 : Addr) (a4 : Addr) (a5 : Addr) (a6 : Addr) (a7 : Addr) (a8 : Addr) (a9 : Addr) (a10 : Addr) (a11 : Addr) (a12 : Addr) (a13 : Addr) (v : Option Value) (h : Heap) (L : List Loc) : Prop := v = some (.int 1) ∧ Fr n0 L
set_option maxRecDepth 65536 in
set_option maxHeartbeats 40000000 in
theorem rm0 (l : Launch) (Z : State) (a0 : Array Value) (hw : ∀ d ∈ tables_1, d.before a0 Z = true) (ws : List Jvm.Cond) (h0 : Heap) (n0 : Nat) (O0 : Old Z n0 h0) (p0 : Int32) (p1 : Int32) (p2 : Int32) (a0 : Addr) (a1 : Addr) (a2 : Addr) (a3 : Addr) (a4 : Addr) (a5 : Addr) (a6 : Addr) (a7 : Addr) (a8 : Addr) (a9 : Addr) (a10 : Addr) (a11 : Addr) (a12 : Addr) (a13 : Addr) (S0 : Sta Z Z.heap "com/example/davka/davka/FieldKind" "TEXT" "Lcom/example/davka/davka/FieldKind;" (.ref a0)) (S1 : Sta Z Z.heap "com/example/davka/davka/FieldKind" "REQUIRED_TEXT" "Lcom/example/davka/davka/FieldKind;" (.ref a1)) (S2 : Sta Z Z.heap "com/example/davka/davka/FieldKind" "PRIORITY" "Lcom/example/davka/davka/FieldKind;" (.ref a2)) (S3 : Sta Z Z.heap "com/example/davka/davka/FieldKind" "DIGITS" "Lcom/example/davka/davka/FieldKind;" (.ref a3)) (S4 : Sta Z Z.heap "com/example/davka/davka/FieldKind" "NUMBER" "Lcom/example/davka/davka/FieldKind;" (.ref a4)) (S5 : Sta Z Z.heap "com/example/davka/davka/FieldKind" "SYMBOL" "Lcom/example/davka/davka/FieldKind;" (.ref a5)) (S6 : Sta Z Z.heap "com/example/davka/davka/FieldKind" "ACCOUNT" "Lcom/example/davka/davka/FieldKind;" (.ref a6)) (S7 : Sta Z Z.heap "com/example/davka/davka/FieldKind" "OPTIONAL_ACCOUNT" "Lcom/example/davka/davka/FieldKind;" (.ref a7)) (S8 : Sta Z Z.heap "com/example/davka/davka/FieldKind" "BANK_CODE" "Lcom/example/davka/davka/FieldKind;" (.ref a8)) (S9 : Sta Z Z.heap "com/example/davka/davka/FieldKind" "ACCOUNTING_CODE" "Lcom/example/davka/davka/FieldKind;" (.ref a9)) (S10 : Sta Z Z.heap "com/example/davka/davka/FieldKind" "AMOUNT" "Lcom/example/davka/davka/FieldKind;" (.ref a10)) (S11 : Sta Z Z.heap "com/example/davka/davka/FieldKind" "SIGNED_AMOUNT" "Lcom/example/davka/davka/FieldKind;" (.ref a11)) (S12 : Sta Z Z.heap "com/example/davka/davka/FieldKind" "DATE" "Lcom/example/davka/davka/FieldKind;" (.ref a12)) (S13 : Sta Z Z.heap "com/example/davka/davka/FieldKind" "SHORT_DATE" "Lcom/example/davka/davka/FieldKind;" (.ref a13)) (A0 : Exa Z Z.heap a0 "com/example/davka/davka/FieldKind$1") (A1 : Exa Z Z.heap a1 "com/example/davka/davka/FieldKind$2") (A2 : Exa Z Z.heap a2 "com/example/davka/davka/FieldKind$3") (A3 : Exa Z Z.heap a3 "com/example/davka/davka/FieldKind$4") (A4 : Exa Z Z.heap a4 "com/example/davka/davka/FieldKind$5") (A5 : Exa Z Z.heap a5 "com/example/davka/davka/FieldKind$6") (A6 : Exa Z Z.heap a6 "com/example/davka/davka/FieldKind$7") (A7 : Exa Z Z.heap a7 "com/example/davka/davka/FieldKind$8") (A8 : Exa Z Z.heap a8 "com/example/davka/davka/FieldKind$9") (A9 : Exa Z Z.heap a9 "com/example/davka/davka/FieldKind$10") (A10 : Exa Z Z.heap a10 "com/example/davka/davka/FieldKind$11") (A11 : Exa Z Z.heap a11 "com/example/davka/davka/FieldKind$12") (A12 : Exa Z Z.heap a12 "com/example/davka/davka/FieldKind$13") (A13 : Exa Z Z.heap a13 "com/example/davka/davka/FieldKind$14") (B0 : Fld Z Z.heap a0 "com/example/davka/davka/FieldKind" "width" "I" (.int (0 : Int32))) (B1 : Fld Z Z.heap a1 "com/example/davka/davka/FieldKind" "width" "I" (.int (0 : Int32))) (B2 : Fld Z Z.heap a2 "com/example/davka/davka/FieldKind" "width" "I" (.int (0 : Int32))) (B3 : Fld Z Z.heap a3 "com/example/davka/davka/FieldKind" "width" "I" (.int (0 : Int32))) (B4 : Fld Z Z.heap a4 "com/example/davka/davka/FieldKind" "width" "I" (.int (0 : Int32))) (B5 : Fld Z Z.heap a5 "com/example/davka/davka/FieldKind" "width" "I" (.int (0 : Int32))) (B6 : Fld Z Z.heap a6 "com/example/davka/davka/FieldKind" "width" "I" (.int (16 : Int32))) (B7 : Fld Z Z.heap a7 "com/example/davka/davka/FieldKind" "width" "I" (.int (16 : Int32))) (B8 : Fld Z Z.heap a8 "com/example/davka/davka/FieldKind" "width" "I" (.int (7 : Int32))) (B9 : Fld Z Z.heap a9 "com/example/davka/davka/FieldKind" "width" "I" (.int (1 : Int32))) (B10 : Fld Z Z.heap a10 "com/example/davka/davka/FieldKind" "width" "I" (.int (0 : Int32))) (B11 : Fld Z Z.heap a11 "com/example/davka/davka/FieldKind" "width" "I" (.int (0 : Int32))) (B12 : Fld Z Z.heap a12 "com/example/davka/davka/FieldKind" "width" "I" (.int (8 : Int32))) (B13 : Fld Z Z.heap a13 "com/example/davka/davka/FieldKind" "width" "I" (.int (6 : Int32))) :
    MetFree l x (head1 (Jvm.Cond.code x code maxLocals ret :: ws) room_1) (fun aq U => aq = #[(.int p0), (.int p1), (.int p2)] ∧ Z.Warmed39 U.vm ∧ U.heap = h0) (fun _ _ _ _ _ => True) (fun _ U o U' => ∃ v L, o = .returned v ∧ Q_rm0 Z h0 n0 p0 p1 p2 a0 a1 a2 a3 a4 a5 a6 a7 a8 a9 a10 a11 a12 a13 v U'.heap L ∧ FrameEnd U o U' L room_1.cells room_1.slots) := by
  refine MetFree.of_bodySF (plainFor_of_name pn_rm0) hisR ?_
  intro p e s m args below meth c s₁ Bd hml0 hP hK
  obtain ⟨rfl, hZ, hh⟩ := hP
  have hx := Bd.exec
  have hby := Bd.bytes
  have hml : c.maxLocals = 9 := hml0
  have hown : s.vm.findClass "com/example/davka/davka/FieldKindFitsPinLaw" = some m.cls := findClass_of_methodNamed Bd.named
  have hnm := (name_of_methodNamed Bd.named Bd.method).1
  have hlk := Bd.notSynchronized
  have hret := Bd.returns
  have X0 : Stand p l e room_1 s m #[(.int p0), (.int p1), (.int p2)] below meth c s₁ [] 0 0 := Stand.of_body Bd
  have e0 : s₁.heap = h0 := by rw [← hh, Bd.state]; rfl
  have N0 := Fr.nil n0
  have K0 := Keep.refl h0 []
  refine own_go (S' := (s₁.setTop (mkF m 0 #[.val (.int p0), .val (.int p1), .val (.int p2), .unset, .unset, .unset, .unset, .unset, .unset] []))) (fun tq kq => castTop (ef_rm0 m p0 p1 p2 a0 a1 a2 a3 a4 a5 a6 a7 a8 a9 a10 a11 a12 a13) kq) ?_
  show own_G p e s below (Q_rm0 Z h0 n0 p0 p1 p2 a0 a1 a2 a3 a4 a5 a6 a7 a8 a9 a10 a11 a12 a13) _ _ _
  refine own_go (S' := (s₁.setTop (mkF m 2 #[.val (.int p0), .val (.int p1), .val (.int p2), .unset, .unset, .unset, .unset, .unset, .unset] [(.int (14 : Int32))]))) (fun tq kq => XS.bipush X0.here hx rfl (hb hby at_0) kq) ?_
  obtain ⟨T101, h101, k101, X101, e101, E101, A101, Ov101, st101⟩ := newR X0 hx hZ hown (hw _ (List.mem_of_getElem? (i := 0) rfl)) (hw _ (List.mem_of_getElem? (i := 1) rfl)) e0 (g := (mkF m 2 #[.val (.int p0), .val (.int p1), .val (.int p2), .unset, .unset, .unset, .unset, .unset, .unset] [(.int (14 : Int32))])) rfl (hb hby at_2) rfl (by decide) (cap := 14) (by decide) (by decide) (by decide) (by decide)
  obtain ⟨b101, g101⟩ : ∃ z, z = h0.size := ⟨_, rfl⟩
  rw [← g101] at A101 st101
  have ne_a0_b101 : a0 ≠ b101 := Nat.ne_of_lt (Nat.lt_of_lt_of_le (A0.ext O0.2).lt (Nat.le_of_eq g101.symm))
  have ne_a1_b101 : a1 ≠ b101 := Nat.ne_of_lt (Nat.lt_of_lt_of_le (A1.ext O0.2).lt (Nat.le_of_eq g101.symm))
  have ne_a10_b101 : a10 ≠ b101 := Nat.ne_of_lt (Nat.lt_of_lt_of_le (A10.ext O0.2).lt (Nat.le_of_eq g101.symm))
  have ne_a11_b101 : a11 ≠ b101 := Nat.ne_of_lt (Nat.lt_of_lt_of_le (A11.ext O0.2).lt (Nat.le_of_eq g101.symm))
  have ne_a12_b101 : a12 ≠ b101 := Nat.ne_of_lt (Nat.lt_of_lt_of_le (A12.ext O0.2).lt (Nat.le_of_eq g101.symm))
  have ne_a13_b101 : a13 ≠ b101 := Nat.ne_of_lt (Nat.lt_of_lt_of_le (A13.ext O0.2).lt (Nat.le_of_eq g101.symm))
  have ne_a2_b101 : a2 ≠ b101 := Nat.ne_of_lt (Nat.lt_of_lt_of_le (A2.ext O0.2).lt (Nat.le_of_eq g101.symm))
  have ne_a3_b101 : a3 ≠ b101 := Nat.ne_of_lt (Nat.lt_of_lt_of_le (A3.ext O0.2).lt (Nat.le_of_eq g101.symm))
  have ne_a4_b101 : a4 ≠ b101 := Nat.ne_of_lt (Nat.lt_of_lt_of_le (A4.ext O0.2).lt (Nat.le_of_eq g101.symm))
  have ne_a5_b101 : a5 ≠ b101 := Nat.ne_of_lt (Nat.lt_of_lt_of_le (A5.ext O0.2).lt (Nat.le_of_eq g101.symm))
  have ne_a6_b101 : a6 ≠ b101 := Nat.ne_of_lt (Nat.lt_of_lt_of_le (A6.ext O0.2).lt (Nat.le_of_eq g101.symm))
  have ne_a7_b101 : a7 ≠ b101 := Nat.ne_of_lt (Nat.lt_of_lt_of_le (A7.ext O0.2).lt (Nat.le_of_eq g101.symm))
  have ne_a8_b101 : a8 ≠ b101 := Nat.ne_of_lt (Nat.lt_of_lt_of_le (A8.ext O0.2).lt (Nat.le_of_eq g101.symm))
  have ne_a9_b101 : a9 ≠ b101 := Nat.ne_of_lt (Nat.lt_of_lt_of_le (A9.ext O0.2).lt (Nat.le_of_eq g101.symm))
  have ge_b101 : n0 ≤ b101 := Nat.le_trans (own_osz O0) (Nat.le_of_eq g101.symm)
  have gk_b101 : h0.size ≤ b101 := Nat.le_trans K0.1 (Nat.le_of_eq g101.symm)
  have V101 : own_Ar Z h101 b101 k101 (.object "com/example/davka/davka/FieldKind") [.null, .null, .null, .null, .null, .null, .null, .null, .null, .null, .null, .null, .null, .null] := own_Ar.new A101 (by decide)
  have O101 := O0.ext E101
  have K101 := K0.ext E101
  refine own_go (S' := (T101.setTop (mkF m 7 #[.val (.int p0), .val (.int p1), .val (.int p2), .unset, .unset, .unset, .unset, .unset, .unset] [(.int (0 : Int32)), (.ref b101), (.ref b101)]))) (fun tq kq => st101 tq (XS.dup X101.here hx rfl (hb hby at_5) rfl rfl (XS.iconst X101.here hx rfl (hb hby at_6) kq))) ?_
  obtain ⟨T102, X102, e102, st102⟩ := getS2 X101 hx hZ hown (host := "") (Or.inl (hw _ (List.mem_of_getElem? (i := 2) rfl))) Via.refl e101 (S0.ext O101.2) (g := (mkF m 7 #[.val (.int p0), .val (.int p1), .val (.int p2), .unset, .unset, .unset, .unset, .unset, .unset] [(.int (0 : Int32)), (.ref b101), (.ref b101)])) rfl (hb hby at_7)
  refine own_go (S' := (T102.setTop (mkF m 10 #[.val (.int p0), .val (.int p1), .val (.int p2), .unset, .unset, .unset, .unset, .unset, .unset] [(.ref a0), (.int (0 : Int32)), (.ref b101), (.ref b101)]))) (fun tq kq => st102 tq kq) ?_
  obtain ⟨cl103, Ar103, qa103, sa103, hin103, -⟩ := V101.at (j := (0 : Int32)) (by decide) rfl
  obtain ⟨T103, h103, X103, e103, W103, st103⟩ := stR X102 hx hZ e102 Ar103 (j := (0 : Int32)) hin103 rfl (Sto.of Ar103 (qa103 ▸ Ov101) (Ins.of_exa (A0.ext O101.2) (hw _ (List.mem_of_getElem? (i := 5) rfl)))) (g := (mkF m 10 #[.val (.int p0), .val (.int p1), .val (.int p2), .unset, .unset, .unset, .unset, .unset, .unset] [(.ref a0), (.int (0 : Int32)), (.ref b101), (.ref b101)])) rfl rfl (hb hby at_10)
  have N103 := Fr.snoc X103 N0 ge_b101
  have O103 := O101.wr W103 ge_b101
  have K103 := K101.wr W103 (Or.inr gk_b101)
  have V103 : own_Ar Z h103 b101 k101 (.object "com/example/davka/davka/FieldKind") [(.ref a0), .null, .null, .null, .null, .null, .null, .null, .null, .null, .null, .null, .null, .null] := own_Ar.set Ar103 qa103 sa103 V101.small W103
  refine own_go (S' := (T103.setTop (mkF m 13 #[.val (.int p0), .val (.int p1), .val (.int p2), .unset, .unset, .unset, .unset, .unset, .unset] [(.int (1 : Int32)), (.ref b101), (.ref b101)]))) (fun tq kq => st103 tq (XS.dup X103.here hx rfl (hb hby at_11) rfl rfl (XS.iconst X103.here hx rfl (hb hby at_12) kq))) ?_
  obtain ⟨T104, X104, e104, st104⟩ := getS2 X103 hx hZ hown (host := "") (Or.inl (hw _ (List.mem_of_getElem? (i := 6) rfl))) Via.refl e103 (S1.ext O103.2) (g := (mkF m 13 #[.val (.int p0), .val (.int p1), .val (.int p2), .unset, .unset, .unset, .unset, .unset, .unset] [(.int (1 : Int32)), (.ref b101), (.ref b101)])) rfl (hb hby at_13)
  refine own_go (S' := (T104.setTop (mkF m 16 #[.val (.int p0), .val (.int p1), .val (.int p2), .unset, .unset, .unset, .unset, .unset, .unset] [(.ref a1), (.int (1 : Int32)), (.ref b101), (.ref b101)]))) (fun tq kq => st104 tq kq) ?_
  obtain ⟨cl105, Ar105, qa105, sa105, hin105, -⟩ := V103.at (j := (1 : Int32)) (by decide) rfl
  obtain ⟨T105, h105, X105, e105, W105, st105⟩ := stR X104 hx hZ e104 Ar105 (j := (1 : Int32)) hin105 rfl (Sto.of Ar105 (qa105 ▸ Ov101) (Ins.of_exa (A1.ext O103.2) (hw _ (List.mem_of_getElem? (i := 8) rfl)))) (g := (mkF m 16 #[.val (.int p0), .val (.int p1), .val (.int p2), .unset, .unset, .unset, .unset, .unset, .unset] [(.ref a1), (.int (1 : Int32)), (.ref b101), (.ref b101)])) rfl rfl (hb hby at_16)
  have N105 := Fr.snoc X105 N103 ge_b101
  have O105 := O103.wr W105 ge_b101
  have K105 := K103.wr W105 (Or.inr gk_b101)
  have V105 : own_Ar Z h105 b101 k101 (.object "com/example/davka/davka/FieldKind") [(.ref a0), (.ref a1), .null, .null, .null, .null, .null, .null, .null, .null, .null, .null, .null, .null] := own_Ar.set Ar105 qa105 sa105 V103.small W105
  refine own_go (S' := (T105.setTop (mkF m 19 #[.val (.int p0), .val (.int p1), .val (.int p2), .unset, .unset, .unset, .unset, .unset, .unset] [(.int (2 : Int32)), (.ref b101), (.ref b101)]))) (fun tq kq => st105 tq (XS.dup X105.here hx rfl (hb hby at_17) rfl rfl (XS.iconst X105.here hx rfl (hb hby at_18) kq))) ?_
  obtain ⟨T106, X106, e106, st106⟩ := getS2 X105 hx hZ hown (host := "") (Or.inl (hw _ (List.mem_of_getElem? (i := 9) rfl))) Via.refl e105 (S2.ext O105.2) (g := (mkF m 19 #[.val (.int p0), .val (.int p1), .val (.int p2), .unset, .unset, .unset, .unset, .unset, .unset] [(.int (2 : Int32)), (.ref b101), (.ref b101)])) rfl (hb hby at_19)
  refine own_go (S' := (T106.setTop (mkF m 22 #[.val (.int p0), .val (.int p1), .val (.int p2), .unset, .unset, .unset, .unset, .unset, .unset] [(.ref a2), (.int (2 : Int32)), (.ref b101), (.ref b101)]))) (fun tq kq => st106 tq kq) ?_
  obtain ⟨cl107, Ar107, qa107, sa107, hin107, -⟩ := V105.at (j := (2 : Int32)) (by decide) rfl
  obtain ⟨T107, h107, X107, e107, W107, st107⟩ := stR X106 hx hZ e106 Ar107 (j := (2 : Int32)) hin107 rfl (Sto.of Ar107 (qa107 ▸ Ov101) (Ins.of_exa (A2.ext O105.2) (hw _ (List.mem_of_getElem? (i := 11) rfl)))) (g := (mkF m 22 #[.val (.int p0), .val (.int p1), .val (.int p2), .unset, .unset, .unset, .unset, .unset, .unset] [(.ref a2), (.int (2 : Int32)), (.ref b101), (.ref b101)])) rfl rfl (hb hby at_22)
  have N107 := Fr.snoc X107 N105 ge_b101
  have O107 := O105.wr W107 ge_b101
  have K107 := K105.wr W107 (Or.inr gk_b101)
  have V107 : own_Ar Z h107 b101 k101 (.object "com/example/davka/davka/FieldKind") [(.ref a0), (.ref a1), (.ref a2), .null, .null, .null, .null, .null, .null, .null, .null, .null, .null, .null] := own_Ar.set Ar107 qa107 sa107 V105.small W107
  refine own_go (S' := (T107.setTop (mkF m 25 #[.val (.int p0), .val (.int p1), .val (.int p2), .unset, .unset, .unset, .unset, .unset, .unset] [(.int (3 : Int32)), (.ref b101), (.ref b101)]))) (fun tq kq => st107 tq (XS.dup X107.here hx rfl (hb hby at_23) rfl rfl (XS.iconst X107.here hx rfl (hb hby at_24) kq))) ?_
  obtain ⟨T108, X108, e108, st108⟩ := getS2 X107 hx hZ hown (host := "") (Or.inl (hw _ (List.mem_of_getElem? (i := 12) rfl))) Via.refl e107 (S3.ext O107.2) (g := (mkF m 25 #[.val (.int p0), .val (.int p1), .val (.int p2), .unset, .unset, .unset, .unset, .unset, .unset] [(.int (3 : Int32)), (.ref b101), (.ref b101)])) rfl (hb hby at_25)
  refine own_go (S' := (T108.setTop (mkF m 28 #[.val (.int p0), .val (.int p1), .val (.int p2), .unset, .unset, .unset, .unset, .unset, .unset] [(.ref a3), (.int (3 : Int32)), (.ref b101), (.ref b101)]))) (fun tq kq => st108 tq kq) ?_
  obtain ⟨cl109, Ar109, qa109, sa109, hin109, -⟩ := V107.at (j := (3 : Int32)) (by decide) rfl
  obtain ⟨T109, h109, X109, e109, W109, st109⟩ := stR X108 hx hZ e108 Ar109 (j := (3 : Int32)) hin109 rfl (Sto.of Ar109 (qa109 ▸ Ov101) (Ins.of_exa (A3.ext O107.2) (hw _ (List.mem_of_getElem? (i := 14) rfl)))) (g := (mkF m 28 #[.val (.int p0), .val (.int p1), .val (.int p2), .unset, .unset, .unset, .unset, .unset, .unset] [(.ref a3), (.int (3 : Int32)), (.ref b101), (.ref b101)])) rfl rfl (hb hby at_28)
  have N109 := Fr.snoc X109 N107 ge_b101
  have O109 := O107.wr W109 ge_b101
  have K109 := K107.wr W109 (Or.inr gk_b101)
  have V109 : own_Ar Z h109 b101 k101 (.object "com/example/davka/davka/FieldKind") [(.ref a0), (.ref a1), (.ref a2), (.ref a3), .null, .null, .null, .null, .null, .null, .null, .null, .null, .null] := own_Ar.set Ar109 qa109 sa109 V107.small W109
  refine own_go (S' := (T109.setTop (mkF m 31 #[.val (.int p0), .val (.int p1), .val (.int p2), .unset, .unset, .unset, .unset, .unset, .unset] [(.int (4 : Int32)), (.ref b101), (.ref b101)]))) (fun tq kq => st109 tq (XS.dup X109.here hx rfl (hb hby at_29) rfl rfl (XS.iconst X109.here hx rfl (hb hby at_30) kq))) ?_
  obtain ⟨T110, X110, e110, st110⟩ := getS2 X109 hx hZ hown (host := "") (Or.inl (hw _ (List.mem_of_getElem? (i := 15) rfl))) Via.refl e109 (S4.ext O109.2) (g := (mkF m 31 #[.val (.int p0), .val (.int p1), .val (.int p2), .unset, .unset, .unset, .unset, .unset, .unset] [(.int (4 : Int32)), (.ref b101), (.ref b101)])) rfl (hb hby at_31)
  refine own_go (S' := (T110.setTop (mkF m 34 #[.val (.int p0), .val (.int p1), .val (.int p2), .unset, .unset, .unset, .unset, .unset, .unset] [(.ref a4), (.int (4 : Int32)), (.ref b101), (.ref b101)]))) (fun tq kq => st110 tq kq) ?_
  obtain ⟨cl111, Ar111, qa111, sa111, hin111, -⟩ := V109.at (j := (4 : Int32)) (by decide) rfl
  obtain ⟨T111, h111, X111, e111, W111, st111⟩ := stR X110 hx hZ e110 Ar111 (j := (4 : Int32)) hin111 rfl (Sto.of Ar111 (qa111 ▸ Ov101) (Ins.of_exa (A4.ext O109.2) (hw _ (List.mem_of_getElem? (i := 17) rfl)))) (g := (mkF m 34 #[.val (.int p0), .val (.int p1), .val (.int p2), .unset, .unset, .unset, .unset, .unset, .unset] [(.ref a4), (.int (4 : Int32)), (.ref b101), (.ref b101)])) rfl rfl (hb hby at_34)
  have N111 := Fr.snoc X111 N109 ge_b101
  have O111 := O109.wr W111 ge_b101
  have K111 := K109.wr W111 (Or.inr gk_b101)
  have V111 : own_Ar Z h111 b101 k101 (.object "com/example/davka/davka/FieldKind") [(.ref a0), (.ref a1), (.ref a2), (.ref a3), (.ref a4), .null, .null, .null, .null, .null, .null, .null, .null, .null] := own_Ar.set Ar111 qa111 sa111 V109.small W111
  refine own_go (S' := (T111.setTop (mkF m 37 #[.val (.int p0), .val (.int p1), .val (.int p2), .unset, .unset, .unset, .unset, .unset, .unset] [(.int (5 : Int32)), (.ref b101), (.ref b101)]))) (fun tq kq => st111 tq (XS.dup X111.here hx rfl (hb hby at_35) rfl rfl (XS.iconst X111.here hx rfl (hb hby at_36) kq))) ?_
  obtain ⟨T112, X112, e112, st112⟩ := getS2 X111 hx hZ hown (host := "") (Or.inl (hw _ (List.mem_of_getElem? (i := 18) rfl))) Via.refl e111 (S5.ext O111.2) (g := (mkF m 37 #[.val (.int p0), .val (.int p1), .val (.int p2), .unset, .unset, .unset, .unset, .unset, .unset] [(.int (5 : Int32)), (.ref b101), (.ref b101)])) rfl (hb hby at_37)
  refine own_go (S' := (T112.setTop (mkF m 40 #[.val (.int p0), .val (.int p1), .val (.int p2), .unset, .unset, .unset, .unset, .unset, .unset] [(.ref a5), (.int (5 : Int32)), (.ref b101), (.ref b101)]))) (fun tq kq => st112 tq kq) ?_
  obtain ⟨cl113, Ar113, qa113, sa113, hin113, -⟩ := V111.at (j := (5 : Int32)) (by decide) rfl
  obtain ⟨T113, h113, X113, e113, W113, st113⟩ := stR X112 hx hZ e112 Ar113 (j := (5 : Int32)) hin113 rfl (Sto.of Ar113 (qa113 ▸ Ov101) (Ins.of_exa (A5.ext O111.2) (hw _ (List.mem_of_getElem? (i := 20) rfl)))) (g := (mkF m 40 #[.val (.int p0), .val (.int p1), .val (.int p2), .unset, .unset, .unset, .unset, .unset, .unset] [(.ref a5), (.int (5 : Int32)), (.ref b101), (.ref b101)])) rfl rfl (hb hby at_40)
  have N113 := Fr.snoc X113 N111 ge_b101
  have O113 := O111.wr W113 ge_b101
  have K113 := K111.wr W113 (Or.inr gk_b101)
  have V113 : own_Ar Z h113 b101 k101 (.object "com/example/davka/davka/FieldKind") [(.ref a0), (.ref a1), (.ref a2), (.ref a3), (.ref a4), (.ref a5), .null, .null, .null, .null, .null, .null, .null, .null] := own_Ar.set Ar113 qa113 sa113 V111.small W113
  refine own_go (S' := (T113.setTop (mkF m 44 #[.val (.int p0), .val (.int p1), .val (.int p2), .unset, .unset, .unset, .unset, .unset, .unset] [(.int (6 : Int32)), (.ref b101), (.ref b101)]))) (fun tq kq => st113 tq (XS.dup X113.here hx rfl (hb hby at_41) rfl rfl (XS.bipush X113.here hx rfl (hb hby at_42) kq))) ?_
  obtain ⟨T114, X114, e114, st114⟩ := getS2 X113 hx hZ hown (host := "") (Or.inl (hw _ (List.mem_of_getElem? (i := 21) rfl))) Via.refl e113 (S6.ext O113.2) (g := (mkF m 44 #[.val (.int p0), .val (.int p1), .val (.int p2), .unset, .unset, .unset, .unset, .unset, .unset] [(.int (6 : Int32)), (.ref b101), (.ref b101)])) rfl (hb hby at_44)
  refine own_go (S' := (T114.setTop (mkF m 47 #[.val (.int p0), .val (.int p1), .val (.int p2), .unset, .unset, .unset, .unset, .unset, .unset] [(.ref a6), (.int (6 : Int32)), (.ref b101), (.ref b101)]))) (fun tq kq => st114 tq kq) ?_
  obtain ⟨cl115, Ar115, qa115, sa115, hin115, -⟩ := V113.at (j := (6 : Int32)) (by decide) rfl
  obtain ⟨T115, h115, X115, e115, W115, st115⟩ := stR X114 hx hZ e114 Ar115 (j := (6 : Int32)) hin115 rfl (Sto.of Ar115 (qa115 ▸ Ov101) (Ins.of_exa (A6.ext O113.2) (hw _ (List.mem_of_getElem? (i := 23) rfl)))) (g := (mkF m 47 #[.val (.int p0), .val (.int p1), .val (.int p2), .unset, .unset, .unset, .unset, .unset, .unset] [(.ref a6), (.int (6 : Int32)), (.ref b101), (.ref b101)])) rfl rfl (hb hby at_47)
  have N115 := Fr.snoc X115 N113 ge_b101
  have O115 := O113.wr W115 ge_b101
  have K115 := K113.wr W115 (Or.inr gk_b101)
  have V115 : own_Ar Z h115 b101 k101 (.object "com/example/davka/davka/FieldKind") [(.ref a0), (.ref a1), (.ref a2), (.ref a3), (.ref a4), (.ref a5), (.ref a6), .null, .null, .null, .null, .null, .null, .null] := own_Ar.set Ar115 qa115 sa115 V113.small W115
  refine own_go (S' := (T115.setTop (mkF m 51 #[.val (.int p0), .val (.int p1), .val (.int p2), .unset, .unset, .unset, .unset, .unset, .unset] [(.int (7 : Int32)), (.ref b101), (.ref b101)]))) (fun tq kq => st115 tq (XS.dup X115.here hx rfl (hb hby at_48) rfl rfl (XS.bipush X115.here hx rfl (hb hby at_49) kq))) ?_
  obtain ⟨T116, X116, e116, st116⟩ := getS2 X115 hx hZ hown (host := "") (Or.inl (hw _ (List.mem_of_getElem? (i := 24) rfl))) Via.refl e115 (S7.ext O115.2) (g := (mkF m 51 #[.val (.int p0), .val (.int p1), .val (.int p2), .unset, .unset, .unset, .unset, .unset, .unset] [(.int (7 : Int32)), (.ref b101), (.ref b101)])) rfl (hb hby at_51)
  refine own_go (S' := (T116.setTop (mkF m 54 #[.val (.int p0), .val (.int p1), .val (.int p2), .unset, .unset, .unset, .unset, .unset, .unset] [(.ref a7), (.int (7 : Int32)), (.ref b101), (.ref b101)]))) (fun tq kq => st116 tq kq) ?_
  obtain ⟨cl117, Ar117, qa117, sa117, hin117, -⟩ := V115.at (j := (7 : Int32)) (by decide) rfl
  obtain ⟨T117, h117, X117, e117, W117, st117⟩ := stR X116 hx hZ e116 Ar117 (j := (7 : Int32)) hin117 rfl (Sto.of Ar117 (qa117 ▸ Ov101) (Ins.of_exa (A7.ext O115.2) (hw _ (List.mem_of_getElem? (i := 26) rfl)))) (g := (mkF m 54 #[.val (.int p0), .val (.int p1), .val (.int p2), .unset, .unset, .unset, .unset, .unset, .unset] [(.ref a7), (.int (7 : Int32)), (.ref b101), (.ref b101)])) rfl rfl (hb hby at_54)
  have N117 := Fr.snoc X117 N115 ge_b101
  have O117 := O115.wr W117 ge_b101
  have K117 := K115.wr W117 (Or.inr gk_b101)
  have V117 : own_Ar Z h117 b101 k101 (.object "com/example/davka/davka/FieldKind") [(.ref a0), (.ref a1), (.ref a2), (.ref a3), (.ref a4), (.ref a5), (.ref a6), (.ref a7), .null, .null, .null, .null, .null, .null] := own_Ar.set Ar117 qa117 sa117 V115.small W117
  refine own_go (S' := (T117.setTop (mkF m 58 #[.val (.int p0), .val (.int p1), .val (.int p2), .unset, .unset, .unset, .unset, .unset, .unset] [(.int (8 : Int32)), (.ref b101), (.ref b101)]))) (fun tq kq => st117 tq (XS.dup X117.here hx rfl (hb hby at_55) rfl rfl (XS.bipush X117.here hx rfl (hb hby at_56) kq))) ?_
  obtain ⟨T118, X118, e118, st118⟩ := getS2 X117 hx hZ hown (host := "") (Or.inl (hw _ (List.mem_of_getElem? (i := 27) rfl))) Via.refl e117 (S8.ext O117.2) (g := (mkF m 58 #[.val (.int p0), .val (.int p1), .val (.int p2), .unset, .unset, .unset, .unset, .unset, .unset] [(.int (8 : Int32)), (.ref b101), (.ref b101)])) rfl (hb hby at_58)
  refine own_go (S' := (T118.setTop (mkF m 61 #[.val (.int p0), .val (.int p1), .val (.int p2), .unset, .unset, .unset, .unset, .unset, .unset] [(.ref a8), (.int (8 : Int32)), (.ref b101), (.ref b101)]))) (fun tq kq => st118 tq kq) ?_
  obtain ⟨cl119, Ar119, qa119, sa119, hin119, -⟩ := V117.at (j := (8 : Int32)) (by decide) rfl
  obtain ⟨T119, h119, X119, e119, W119, st119⟩ := stR X118 hx hZ e118 Ar119 (j := (8 : Int32)) hin119 rfl (Sto.of Ar119 (qa119 ▸ Ov101) (Ins.of_exa (A8.ext O117.2) (hw _ (List.mem_of_getElem? (i := 29) rfl)))) (g := (mkF m 61 #[.val (.int p0), .val (.int p1), .val (.int p2), .unset, .unset, .unset, .unset, .unset, .unset] [(.ref a8), (.int (8 : Int32)), (.ref b101), (.ref b101)])) rfl rfl (hb hby at_61)
  have N119 := Fr.snoc X119 N117 ge_b101
  have O119 := O117.wr W119 ge_b101
  have K119 := K117.wr W119 (Or.inr gk_b101)
  have V119 : own_Ar Z h119 b101 k101 (.object "com/example/davka/davka/FieldKind") [(.ref a0), (.ref a1), (.ref a2), (.ref a3), (.ref a4), (.ref a5), (.ref a6), (.ref a7), (.ref a8), .null, .null, .null, .null, .null] := own_Ar.set Ar119 qa119 sa119 V117.small W119
  refine own_go (S' := (T119.setTop (mkF m 65 #[.val (.int p0), .val (.int p1), .val (.int p2), .unset, .unset, .unset, .unset, .unset, .unset] [(.int (9 : Int32)), (.ref b101), (.ref b101)]))) (fun tq kq => st119 tq (XS.dup X119.here hx rfl (hb hby at_62) rfl rfl (XS.bipush X119.here hx rfl (hb hby at_63) kq))) ?_
  obtain ⟨T120, X120, e120, st120⟩ := getS2 X119 hx hZ hown (host := "") (Or.inl (hw _ (List.mem_of_getElem? (i := 30) rfl))) Via.refl e119 (S9.ext O119.2) (g := (mkF m 65 #[.val (.int p0), .val (.int p1), .val (.int p2), .unset, .unset, .unset, .unset, .unset, .unset] [(.int (9 : Int32)), (.ref b101), (.ref b101)])) rfl (hb hby at_65)
  refine own_go (S' := (T120.setTop (mkF m 68 #[.val (.int p0), .val (.int p1), .val (.int p2), .unset, .unset, .unset, .unset, .unset, .unset] [(.ref a9), (.int (9 : Int32)), (.ref b101), (.ref b101)]))) (fun tq kq => st120 tq kq) ?_
  obtain ⟨cl121, Ar121, qa121, sa121, hin121, -⟩ := V119.at (j := (9 : Int32)) (by decide) rfl
  obtain ⟨T121, h121, X121, e121, W121, st121⟩ := stR X120 hx hZ e120 Ar121 (j := (9 : Int32)) hin121 rfl (Sto.of Ar121 (qa121 ▸ Ov101) (Ins.of_exa (A9.ext O119.2) (hw _ (List.mem_of_getElem? (i := 32) rfl)))) (g := (mkF m 68 #[.val (.int p0), .val (.int p1), .val (.int p2), .unset, .unset, .unset, .unset, .unset, .unset] [(.ref a9), (.int (9 : Int32)), (.ref b101), (.ref b101)])) rfl rfl (hb hby at_68)
  have N121 := Fr.snoc X121 N119 ge_b101
  have O121 := O119.wr W121 ge_b101
  have K121 := K119.wr W121 (Or.inr gk_b101)
  have V121 : own_Ar Z h121 b101 k101 (.object "com/example/davka/davka/FieldKind") [(.ref a0), (.ref a1), (.ref a2), (.ref a3), (.ref a4), (.ref a5), (.ref a6), (.ref a7), (.ref a8), (.ref a9), .null, .null, .null, .null] := own_Ar.set Ar121 qa121 sa121 V119.small W121
  refine own_go (S' := (T121.setTop (mkF m 72 #[.val (.int p0), .val (.int p1), .val (.int p2), .unset, .unset, .unset, .unset, .unset, .unset] [(.int (10 : Int32)), (.ref b101), (.ref b101)]))) (fun tq kq => st121 tq (XS.dup X121.here hx rfl (hb hby at_69) rfl rfl (XS.bipush X121.here hx rfl (hb hby at_70) kq))) ?_
  obtain ⟨T122, X122, e122, st122⟩ := getS2 X121 hx hZ hown (host := "") (Or.inl (hw _ (List.mem_of_getElem? (i := 33) rfl))) Via.refl e121 (S10.ext O121.2) (g := (mkF m 72 #[.val (.int p0), .val (.int p1), .val (.int p2), .unset, .unset, .unset, .unset, .unset, .unset] [(.int (10 : Int32)), (.ref b101), (.ref b101)])) rfl (hb hby at_72)
  refine own_go (S' := (T122.setTop (mkF m 75 #[.val (.int p0), .val (.int p1), .val (.int p2), .unset, .unset, .unset, .unset, .unset, .unset] [(.ref a10), (.int (10 : Int32)), (.ref b101), (.ref b101)]))) (fun tq kq => st122 tq kq) ?_
  obtain ⟨cl123, Ar123, qa123, sa123, hin123, -⟩ := V121.at (j := (10 : Int32)) (by decide) rfl
  obtain ⟨T123, h123, X123, e123, W123, st123⟩ := stR X122 hx hZ e122 Ar123 (j := (10 : Int32)) hin123 rfl (Sto.of Ar123 (qa123 ▸ Ov101) (Ins.of_exa (A10.ext O121.2) (hw _ (List.mem_of_getElem? (i := 35) rfl)))) (g := (mkF m 75 #[.val (.int p0), .val (.int p1), .val (.int p2), .unset, .unset, .unset, .unset, .unset, .unset] [(.ref a10), (.int (10 : Int32)), (.ref b101), (.ref b101)])) rfl rfl (hb hby at_75)
  have N123 := Fr.snoc X123 N121 ge_b101
  have O123 := O121.wr W123 ge_b101
  have K123 := K121.wr W123 (Or.inr gk_b101)
  have V123 : own_Ar Z h123 b101 k101 (.object "com/example/davka/davka/FieldKind") [(.ref a0), (.ref a1), (.ref a2), (.ref a3), (.ref a4), (.ref a5), (.ref a6), (.ref a7), (.ref a8), (.ref a9), (.ref a10), .null, .null, .null] := own_Ar.set Ar123 qa123 sa123 V121.small W123
  refine own_go (S' := (T123.setTop (mkF m 79 #[.val (.int p0), .val (.int p1), .val (.int p2), .unset, .unset, .unset, .unset, .unset, .unset] [(.int (11 : Int32)), (.ref b101), (.ref b101)]))) (fun tq kq => st123 tq (XS.dup X123.here hx rfl (hb hby at_76) rfl rfl (XS.bipush X123.here hx rfl (hb hby at_77) kq))) ?_
  obtain ⟨T124, X124, e124, st124⟩ := getS2 X123 hx hZ hown (host := "") (Or.inl (hw _ (List.mem_of_getElem? (i := 36) rfl))) Via.refl e123 (S11.ext O123.2) (g := (mkF m 79 #[.val (.int p0), .val (.int p1), .val (.int p2), .unset, .unset, .unset, .unset, .unset, .unset] [(.int (11 : Int32)), (.ref b101), (.ref b101)])) rfl (hb hby at_79)
  refine own_go (S' := (T124.setTop (mkF m 82 #[.val (.int p0), .val (.int p1), .val (.int p2), .unset, .unset, .unset, .unset, .unset, .unset] [(.ref a11), (.int (11 : Int32)), (.ref b101), (.ref b101)]))) (fun tq kq => st124 tq kq) ?_
  obtain ⟨cl125, Ar125, qa125, sa125, hin125, -⟩ := V123.at (j := (11 : Int32)) (by decide) rfl
  obtain ⟨T125, h125, X125, e125, W125, st125⟩ := stR X124 hx hZ e124 Ar125 (j := (11 : Int32)) hin125 rfl (Sto.of Ar125 (qa125 ▸ Ov101) (Ins.of_exa (A11.ext O123.2) (hw _ (List.mem_of_getElem? (i := 38) rfl)))) (g := (mkF m 82 #[.val (.int p0), .val (.int p1), .val (.int p2), .unset, .unset, .unset, .unset, .unset, .unset] [(.ref a11), (.int (11 : Int32)), (.ref b101), (.ref b101)])) rfl rfl (hb hby at_82)
  have N125 := Fr.snoc X125 N123 ge_b101
  have O125 := O123.wr W125 ge_b101
  have K125 := K123.wr W125 (Or.inr gk_b101)
  have V125 : own_Ar Z h125 b101 k101 (.object "com/example/davka/davka/FieldKind") [(.ref a0), (.ref a1), (.ref a2), (.ref a3), (.ref a4), (.ref a5), (.ref a6), (.ref a7), (.ref a8), (.ref a9), (.ref a10), (.ref a11), .null, .null] := own_Ar.set Ar125 qa125 sa125 V123.small W125
  refine own_go (S' := (T125.setTop (mkF m 86 #[.val (.int p0), .val (.int p1), .val (.int p2), .unset, .unset, .unset, .unset, .unset, .unset] [(.int (12 : Int32)), (.ref b101), (.ref b101)]))) (fun tq kq => st125 tq (XS.dup X125.here hx rfl (hb hby at_83) rfl rfl (XS.bipush X125.here hx rfl (hb hby at_84) kq))) ?_
  obtain ⟨T126, X126, e126, st126⟩ := getS2 X125 hx hZ hown (host := "") (Or.inl (hw _ (List.mem_of_getElem? (i := 39) rfl))) Via.refl e125 (S12.ext O125.2) (g := (mkF m 86 #[.val (.int p0), .val (.int p1), .val (.int p2), .unset, .unset, .unset, .unset, .unset, .unset] [(.int (12 : Int32)), (.ref b101), (.ref b101)])) rfl (hb hby at_86)
  refine own_go (S' := (T126.setTop (mkF m 89 #[.val (.int p0), .val (.int p1), .val (.int p2), .unset, .unset, .unset, .unset, .unset, .unset] [(.ref a12), (.int (12 : Int32)), (.ref b101), (.ref b101)]))) (fun tq kq => st126 tq kq) ?_
  obtain ⟨cl127, Ar127, qa127, sa127, hin127, -⟩ := V125.at (j := (12 : Int32)) (by decide) rfl
  obtain ⟨T127, h127, X127, e127, W127, st127⟩ := stR X126 hx hZ e126 Ar127 (j := (12 : Int32)) hin127 rfl (Sto.of Ar127 (qa127 ▸ Ov101) (Ins.of_exa (A12.ext O125.2) (hw _ (List.mem_of_getElem? (i := 41) rfl)))) (g := (mkF m 89 #[.val (.int p0), .val (.int p1), .val (.int p2), .unset, .unset, .unset, .unset, .unset, .unset] [(.ref a12), (.int (12 : Int32)), (.ref b101), (.ref b101)])) rfl rfl (hb hby at_89)
  have N127 := Fr.snoc X127 N125 ge_b101
  have O127 := O125.wr W127 ge_b101
  have K127 := K125.wr W127 (Or.inr gk_b101)
  have V127 : own_Ar Z h127 b101 k101 (.object "com/example/davka/davka/FieldKind") [(.ref a0), (.ref a1), (.ref a2), (.ref a3), (.ref a4), (.ref a5), (.ref a6), (.ref a7), (.ref a8), (.ref a9), (.ref a10), (.ref a11), (.ref a12), .null] := own_Ar.set Ar127 qa127 sa127 V125.small W127
  refine own_go (S' := (T127.setTop (mkF m 93 #[.val (.int p0), .val (.int p1), .val (.int p2), .unset, .unset, .unset, .unset, .unset, .unset] [(.int (13 : Int32)), (.ref b101), (.ref b101)]))) (fun tq kq => st127 tq (XS.dup X127.here hx rfl (hb hby at_90) rfl rfl (XS.bipush X127.here hx rfl (hb hby at_91) kq))) ?_
  obtain ⟨T128, X128, e128, st128⟩ := getS2 X127 hx hZ hown (host := "") (Or.inl (hw _ (List.mem_of_getElem? (i := 42) rfl))) Via.refl e127 (S13.ext O127.2) (g := (mkF m 93 #[.val (.int p0), .val (.int p1), .val (.int p2), .unset, .unset, .unset, .unset, .unset, .unset] [(.int (13 : Int32)), (.ref b101), (.ref b101)])) rfl (hb hby at_93)
  refine own_go (S' := (T128.setTop (mkF m 96 #[.val (.int p0), .val (.int p1), .val (.int p2), .unset, .unset, .unset, .unset, .unset, .unset] [(.ref a13), (.int (13 : Int32)), (.ref b101), (.ref b101)]))) (fun tq kq => st128 tq kq) ?_
  obtain ⟨cl129, Ar129, qa129, sa129, hin129, -⟩ := V127.at (j := (13 : Int32)) (by decide) rfl
  obtain ⟨T129, h129, X129, e129, W129, st129⟩ := stR X128 hx hZ e128 Ar129 (j := (13 : Int32)) hin129 rfl (Sto.of Ar129 (qa129 ▸ Ov101) (Ins.of_exa (A13.ext O127.2) (hw _ (List.mem_of_getElem? (i := 44) rfl)))) (g := (mkF m 96 #[.val (.int p0), .val (.int p1), .val (.int p2), .unset, .unset, .unset, .unset, .unset, .unset] [(.ref a13), (.int (13 : Int32)), (.ref b101), (.ref b101)])) rfl rfl (hb hby at_96)
  have N129 := Fr.snoc X129 N127 ge_b101
  have O129 := O127.wr W129 ge_b101
  have K129 := K127.wr W129 (Or.inr gk_b101)
  have V129 : own_Ar Z h129 b101 k101 (.object "com/example/davka/davka/FieldKind") [(.ref a0), (.ref a1), (.ref a2), (.ref a3), (.ref a4), (.ref a5), (.ref a6), (.ref a7), (.ref a8), (.ref a9), (.ref a10), (.ref a11), (.ref a12), (.ref a13)] := own_Ar.set Ar129 qa129 sa129 V127.small W129
  refine own_go (S' := (T129.setTop (mkF m 100 #[.val (.int p0), .val (.int p1), .val (.int p2), .val (.ref b101), .unset, .unset, .unset, .unset, .unset] [(.int (14 : Int32))]))) (fun tq kq => st129 tq (XS.astoreN X129.here hx rfl (hb hby at_97) rfl rfl (l' := #[.val (.int p0), .val (.int p1), .val (.int p2), .val (.ref b101), .unset, .unset, .unset, .unset, .unset]) rfl (XS.bipush X129.here hx rfl (hb hby at_98) kq))) ?_
  obtain ⟨T130, h130, k130, X130, e130, E130, A130, st130⟩ := newP X129 hx hZ (hw _ (List.mem_of_getElem? (i := 45) rfl)) e129 (g := (mkF m 100 #[.val (.int p0), .val (.int p1), .val (.int p2), .val (.ref b101), .unset, .unset, .unset, .unset, .unset] [(.int (14 : Int32))])) rfl (hb hby at_100) rfl (by decide) (cap := 14) (by decide) (by decide) (by decide) (by decide)
  obtain ⟨b130, g130⟩ : ∃ z, z = h129.size := ⟨_, rfl⟩
  rw [← g130] at A130 st130
  have ne_a0_b130 : a0 ≠ b130 := Nat.ne_of_lt (Nat.lt_of_lt_of_le (A0.ext O129.2).lt (Nat.le_of_eq g130.symm))
  have ne_a1_b130 : a1 ≠ b130 := Nat.ne_of_lt (Nat.lt_of_lt_of_le (A1.ext O129.2).lt (Nat.le_of_eq g130.symm))
  have ne_a10_b130 : a10 ≠ b130 := Nat.ne_of_lt (Nat.lt_of_lt_of_le (A10.ext O129.2).lt (Nat.le_of_eq g130.symm))
  have ne_a11_b130 : a11 ≠ b130 := Nat.ne_of_lt (Nat.lt_of_lt_of_le (A11.ext O129.2).lt (Nat.le_of_eq g130.symm))
  have ne_a12_b130 : a12 ≠ b130 := Nat.ne_of_lt (Nat.lt_of_lt_of_le (A12.ext O129.2).lt (Nat.le_of_eq g130.symm))
  have ne_a13_b130 : a13 ≠ b130 := Nat.ne_of_lt (Nat.lt_of_lt_of_le (A13.ext O129.2).lt (Nat.le_of_eq g130.symm))
  have ne_a2_b130 : a2 ≠ b130 := Nat.ne_of_lt (Nat.lt_of_lt_of_le (A2.ext O129.2).lt (Nat.le_of_eq g130.symm))
  have ne_a3_b130 : a3 ≠ b130 := Nat.ne_of_lt (Nat.lt_of_lt_of_le (A3.ext O129.2).lt (Nat.le_of_eq g130.symm))
  have ne_a4_b130 : a4 ≠ b130 := Nat.ne_of_lt (Nat.lt_of_lt_of_le (A4.ext O129.2).lt (Nat.le_of_eq g130.symm))
  have ne_a5_b130 : a5 ≠ b130 := Nat.ne_of_lt (Nat.lt_of_lt_of_le (A5.ext O129.2).lt (Nat.le_of_eq g130.symm))
  have ne_a6_b130 : a6 ≠ b130 := Nat.ne_of_lt (Nat.lt_of_lt_of_le (A6.ext O129.2).lt (Nat.le_of_eq g130.symm))
  have ne_a7_b130 : a7 ≠ b130 := Nat.ne_of_lt (Nat.lt_of_lt_of_le (A7.ext O129.2).lt (Nat.le_of_eq g130.symm))
  have ne_a8_b130 : a8 ≠ b130 := Nat.ne_of_lt (Nat.lt_of_lt_of_le (A8.ext O129.2).lt (Nat.le_of_eq g130.symm))
  have ne_a9_b130 : a9 ≠ b130 := Nat.ne_of_lt (Nat.lt_of_lt_of_le (A9.ext O129.2).lt (Nat.le_of_eq g130.symm))
  have ne_b101_b130 : b101 ≠ b130 := Nat.ne_of_lt (Nat.lt_of_lt_of_le V129.lt (Nat.le_of_eq g130.symm))
  have ge_b130 : n0 ≤ b130 := Nat.le_trans (own_osz O129) (Nat.le_of_eq g130.symm)
  have gk_b130 : h0.size ≤ b130 := Nat.le_trans K129.1 (Nat.le_of_eq g130.symm)
  have V130 : own_Ar Z h130 b130 k130 .int [(.int (0 : Int32)), (.int (0 : Int32)), (.int (0 : Int32)), (.int (0 : Int32)), (.int (0 : Int32)), (.int (0 : Int32)), (.int (0 : Int32)), (.int (0 : Int32)), (.int (0 : Int32)), (.int (0 : Int32)), (.int (0 : Int32)), (.int (0 : Int32)), (.int (0 : Int32)), (.int (0 : Int32))] := own_Ar.new A130 (by decide)
  have O130 := O129.ext E130
  have K130 := K129.ext E130
  refine own_go (S' := (T130.setTop (mkF m 105 #[.val (.int p0), .val (.int p1), .val (.int p2), .val (.ref b101), .unset, .unset, .unset, .unset, .unset] [(.int (0 : Int32)), (.int (0 : Int32)), (.ref b130), (.ref b130)]))) (fun tq kq => st130 tq (XS.dup X130.here hx rfl (hb hby at_102) rfl rfl (XS.iconst X130.here hx rfl (hb hby at_103) (XS.iconst X130.here hx rfl (hb hby at_104) kq)))) ?_
  obtain ⟨cl131, Ar131, qa131, sa131, hin131, -⟩ := V130.at (j := (0 : Int32)) (by decide) rfl
  obtain ⟨T131, h131, X131, e131, W131, st131⟩ := stI X130 hx hZ e130 Ar131 (j := (0 : Int32)) hin131 (g := (mkF m 105 #[.val (.int p0), .val (.int p1), .val (.int p2), .val (.ref b101), .unset, .unset, .unset, .unset, .unset] [(.int (0 : Int32)), (.int (0 : Int32)), (.ref b130), (.ref b130)])) rfl rfl (hb hby at_105)
  have N131 := Fr.snoc X131 N129 ge_b130
  have O131 := O130.wr W131 ge_b130
  have K131 := K130.wr W131 (Or.inr gk_b130)
  have V131 : own_Ar Z h131 b130 k130 .int [(.int (0 : Int32)), (.int (0 : Int32)), (.int (0 : Int32)), (.int (0 : Int32)), (.int (0 : Int32)), (.int (0 : Int32)), (.int (0 : Int32)), (.int (0 : Int32)), (.int (0 : Int32)), (.int (0 : Int32)), (.int (0 : Int32)), (.int (0 : Int32)), (.int (0 : Int32)), (.int (0 : Int32))] := own_Ar.set Ar131 qa131 sa131 V130.small W131
  refine own_go (S' := (T131.setTop (mkF m 109 #[.val (.int p0), .val (.int p1), .val (.int p2), .val (.ref b101), .unset, .unset, .unset, .unset, .unset] [(.int (0 : Int32)), (.int (1 : Int32)), (.ref b130), (.ref b130)]))) (fun tq kq => st131 tq (XS.dup X131.here hx rfl (hb hby at_106) rfl rfl (XS.iconst X131.here hx rfl (hb hby at_107) (XS.iconst X131.here hx rfl (hb hby at_108) kq)))) ?_
  obtain ⟨cl132, Ar132, qa132, sa132, hin132, -⟩ := V131.at (j := (1 : Int32)) (by decide) rfl
  obtain ⟨T132, h132, X132, e132, W132, st132⟩ := stI X131 hx hZ e131 Ar132 (j := (1 : Int32)) hin132 (g := (mkF m 109 #[.val (.int p0), .val (.int p1), .val (.int p2), .val (.ref b101), .unset, .unset, .unset, .unset, .unset] [(.int (0 : Int32)), (.int (1 : Int32)), (.ref b130), (.ref b130)])) rfl rfl (hb hby at_109)
  have N132 := Fr.snoc X132 N131 ge_b130
  have O132 := O131.wr W132 ge_b130
  have K132 := K131.wr W132 (Or.inr gk_b130)
  have V132 : own_Ar Z h132 b130 k130 .int [(.int (0 : Int32)), (.int (0 : Int32)), (.int (0 : Int32)), (.int (0 : Int32)), (.int (0 : Int32)), (.int (0 : Int32)), (.int (0 : Int32)), (.int (0 : Int32)), (.int (0 : Int32)), (.int (0 : Int32)), (.int (0 : Int32)), (.int (0 : Int32)), (.int (0 : Int32)), (.int (0 : Int32))] := own_Ar.set Ar132 qa132 sa132 V131.small W132
  refine own_go (S' := (T132.setTop (mkF m 113 #[.val (.int p0), .val (.int p1), .val (.int p2), .val (.ref b101), .unset, .unset, .unset, .unset, .unset] [(.int (0 : Int32)), (.int (2 : Int32)), (.ref b130), (.ref b130)]))) (fun tq kq => st132 tq (XS.dup X132.here hx rfl (hb hby at_110) rfl rfl (XS.iconst X132.here hx rfl (hb hby at_111) (XS.iconst X132.here hx rfl (hb hby at_112) kq)))) ?_
  obtain ⟨cl133, Ar133, qa133, sa133, hin133, -⟩ := V132.at (j := (2 : Int32)) (by decide) rfl
  obtain ⟨T133, h133, X133, e133, W133, st133⟩ := stI X132 hx hZ e132 Ar133 (j := (2 : Int32)) hin133 (g := (mkF m 113 #[.val (.int p0), .val (.int p1), .val (.int p2), .val (.ref b101), .unset, .unset, .unset, .unset, .unset] [(.int (0 : Int32)), (.int (2 : Int32)), (.ref b130), (.ref b130)])) rfl rfl (hb hby at_113)
  have N133 := Fr.snoc X133 N132 ge_b130
  have O133 := O132.wr W133 ge_b130
  have K133 := K132.wr W133 (Or.inr gk_b130)
  have V133 : own_Ar Z h133 b130 k130 .int [(.int (0 : Int32)), (.int (0 : Int32)), (.int (0 : Int32)), (.int (0 : Int32)), (.int (0 : Int32)), (.int (0 : Int32)), (.int (0 : Int32)), (.int (0 : Int32)), (.int (0 : Int32)), (.int (0 : Int32)), (.int (0 : Int32)), (.int (0 : Int32)), (.int (0 : Int32)), (.int (0 : Int32))] := own_Ar.set Ar133 qa133 sa133 V132.small W133
  refine own_go (S' := (T133.setTop (mkF m 117 #[.val (.int p0), .val (.int p1), .val (.int p2), .val (.ref b101), .unset, .unset, .unset, .unset, .unset] [(.int (0 : Int32)), (.int (3 : Int32)), (.ref b130), (.ref b130)]))) (fun tq kq => st133 tq (XS.dup X133.here hx rfl (hb hby at_114) rfl rfl (XS.iconst X133.here hx rfl (hb hby at_115) (XS.iconst X133.here hx rfl (hb hby at_116) kq)))) ?_
  obtain ⟨cl134, Ar134, qa134, sa134, hin134, -⟩ := V133.at (j := (3 : Int32)) (by decide) rfl
  obtain ⟨T134, h134, X134, e134, W134, st134⟩ := stI X133 hx hZ e133 Ar134 (j := (3 : Int32)) hin134 (g := (mkF m 117 #[.val (.int p0), .val (.int p1), .val (.int p2), .val (.ref b101), .unset, .unset, .unset, .unset, .unset] [(.int (0 : Int32)), (.int (3 : Int32)), (.ref b130), (.ref b130)])) rfl rfl (hb hby at_117)
  have N134 := Fr.snoc X134 N133 ge_b130
  have O134 := O133.wr W134 ge_b130
  have K134 := K133.wr W134 (Or.inr gk_b130)
  have V134 : own_Ar Z h134 b130 k130 .int [(.int (0 : Int32)), (.int (0 : Int32)), (.int (0 : Int32)), (.int (0 : Int32)), (.int (0 : Int32)), (.int (0 : Int32)), (.int (0 : Int32)), (.int (0 : Int32)), (.int (0 : Int32)), (.int (0 : Int32)), (.int (0 : Int32)), (.int (0 : Int32)), (.int (0 : Int32)), (.int (0 : Int32))] := own_Ar.set Ar134 qa134 sa134 V133.small W134
  refine own_go (S' := (T134.setTop (mkF m 121 #[.val (.int p0), .val (.int p1), .val (.int p2), .val (.ref b101), .unset, .unset, .unset, .unset, .unset] [(.int (0 : Int32)), (.int (4 : Int32)), (.ref b130), (.ref b130)]))) (fun tq kq => st134 tq (XS.dup X134.here hx rfl (hb hby at_118) rfl rfl (XS.iconst X134.here hx rfl (hb hby at_119) (XS.iconst X134.here hx rfl (hb hby at_120) kq)))) ?_
  obtain ⟨cl135, Ar135, qa135, sa135, hin135, -⟩ := V134.at (j := (4 : Int32)) (by decide) rfl
  obtain ⟨T135, h135, X135, e135, W135, st135⟩ := stI X134 hx hZ e134 Ar135 (j := (4 : Int32)) hin135 (g := (mkF m 121 #[.val (.int p0), .val (.int p1), .val (.int p2), .val (.ref b101), .unset, .unset, .unset, .unset, .unset] [(.int (0 : Int32)), (.int (4 : Int32)), (.ref b130), (.ref b130)])) rfl rfl (hb hby at_121)
  have N135 := Fr.snoc X135 N134 ge_b130
  have O135 := O134.wr W135 ge_b130
  have K135 := K134.wr W135 (Or.inr gk_b130)
  have V135 : own_Ar Z h135 b130 k130 .int [(.int (0 : Int32)), (.int (0 : Int32)), (.int (0 : Int32)), (.int (0 : Int32)), (.int (0 : Int32)), (.int (0 : Int32)), (.int (0 : Int32)), (.int (0 : Int32)), (.int (0 : Int32)), (.int (0 : Int32)), (.int (0 : Int32)), (.int (0 : Int32)), (.int (0 : Int32)), (.int (0 : Int32))] := own_Ar.set Ar135 qa135 sa135 V134.small W135
  refine own_go (S' := (T135.setTop (mkF m 125 #[.val (.int p0), .val (.int p1), .val (.int p2), .val (.ref b101), .unset, .unset, .unset, .unset, .unset] [(.int (0 : Int32)), (.int (5 : Int32)), (.ref b130), (.ref b130)]))) (fun tq kq => st135 tq (XS.dup X135.here hx rfl (hb hby at_122) rfl rfl (XS.iconst X135.here hx rfl (hb hby at_123) (XS.iconst X135.here hx rfl (hb hby at_124) kq)))) ?_
  obtain ⟨cl136, Ar136, qa136, sa136, hin136, -⟩ := V135.at (j := (5 : Int32)) (by decide) rfl
  obtain ⟨T136, h136, X136, e136, W136, st136⟩ := stI X135 hx hZ e135 Ar136 (j := (5 : Int32)) hin136 (g := (mkF m 125 #[.val (.int p0), .val (.int p1), .val (.int p2), .val (.ref b101), .unset, .unset, .unset, .unset, .unset] [(.int (0 : Int32)), (.int (5 : Int32)), (.ref b130), (.ref b130)])) rfl rfl (hb hby at_125)
  have N136 := Fr.snoc X136 N135 ge_b130
  have O136 := O135.wr W136 ge_b130
  have K136 := K135.wr W136 (Or.inr gk_b130)
  have V136 : own_Ar Z h136 b130 k130 .int [(.int (0 : Int32)), (.int (0 : Int32)), (.int (0 : Int32)), (.int (0 : Int32)), (.int (0 : Int32)), (.int (0 : Int32)), (.int (0 : Int32)), (.int (0 : Int32)), (.int (0 : Int32)), (.int (0 : Int32)), (.int (0 : Int32)), (.int (0 : Int32)), (.int (0 : Int32)), (.int (0 : Int32))] := own_Ar.set Ar136 qa136 sa136 V135.small W136
  refine own_go (S' := (T136.setTop (mkF m 131 #[.val (.int p0), .val (.int p1), .val (.int p2), .val (.ref b101), .unset, .unset, .unset, .unset, .unset] [(.int (16 : Int32)), (.int (6 : Int32)), (.ref b130), (.ref b130)]))) (fun tq kq => st136 tq (XS.dup X136.here hx rfl (hb hby at_126) rfl rfl (XS.bipush X136.here hx rfl (hb hby at_127) (XS.bipush X136.here hx rfl (hb hby at_129) kq)))) ?_
  obtain ⟨cl137, Ar137, qa137, sa137, hin137, -⟩ := V136.at (j := (6 : Int32)) (by decide) rfl
  obtain ⟨T137, h137, X137, e137, W137, st137⟩ := stI X136 hx hZ e136 Ar137 (j := (6 : Int32)) hin137 (g := (mkF m 131 #[.val (.int p0), .val (.int p1), .val (.int p2), .val (.ref b101), .unset, .unset, .unset, .unset, .unset] [(.int (16 : Int32)), (.int (6 : Int32)), (.ref b130), (.ref b130)])) rfl rfl (hb hby at_131)
  have N137 := Fr.snoc X137 N136 ge_b130
  have O137 := O136.wr W137 ge_b130
  have K137 := K136.wr W137 (Or.inr gk_b130)
  have V137 : own_Ar Z h137 b130 k130 .int [(.int (0 : Int32)), (.int (0 : Int32)), (.int (0 : Int32)), (.int (0 : Int32)), (.int (0 : Int32)), (.int (0 : Int32)), (.int (16 : Int32)), (.int (0 : Int32)), (.int (0 : Int32)), (.int (0 : Int32)), (.int (0 : Int32)), (.int (0 : Int32)), (.int (0 : Int32)), (.int (0 : Int32))] := own_Ar.set Ar137 qa137 sa137 V136.small W137
  refine own_go (S' := (T137.setTop (mkF m 137 #[.val (.int p0), .val (.int p1), .val (.int p2), .val (.ref b101), .unset, .unset, .unset, .unset, .unset] [(.int (16 : Int32)), (.int (7 : Int32)), (.ref b130), (.ref b130)]))) (fun tq kq => st137 tq (XS.dup X137.here hx rfl (hb hby at_132) rfl rfl (XS.bipush X137.here hx rfl (hb hby at_133) (XS.bipush X137.here hx rfl (hb hby at_135) kq)))) ?_
  obtain ⟨cl138, Ar138, qa138, sa138, hin138, -⟩ := V137.at (j := (7 : Int32)) (by decide) rfl
  obtain ⟨T138, h138, X138, e138, W138, st138⟩ := stI X137 hx hZ e137 Ar138 (j := (7 : Int32)) hin138 (g := (mkF m 137 #[.val (.int p0), .val (.int p1), .val (.int p2), .val (.ref b101), .unset, .unset, .unset, .unset, .unset] [(.int (16 : Int32)), (.int (7 : Int32)), (.ref b130), (.ref b130)])) rfl rfl (hb hby at_137)
  have N138 := Fr.snoc X138 N137 ge_b130
  have O138 := O137.wr W138 ge_b130
  have K138 := K137.wr W138 (Or.inr gk_b130)
  have V138 : own_Ar Z h138 b130 k130 .int [(.int (0 : Int32)), (.int (0 : Int32)), (.int (0 : Int32)), (.int (0 : Int32)), (.int (0 : Int32)), (.int (0 : Int32)), (.int (16 : Int32)), (.int (16 : Int32)), (.int (0 : Int32)), (.int (0 : Int32)), (.int (0 : Int32)), (.int (0 : Int32)), (.int (0 : Int32)), (.int (0 : Int32))] := own_Ar.set Ar138 qa138 sa138 V137.small W138
  refine own_go (S' := (T138.setTop (mkF m 143 #[.val (.int p0), .val (.int p1), .val (.int p2), .val (.ref b101), .unset, .unset, .unset, .unset, .unset] [(.int (7 : Int32)), (.int (8 : Int32)), (.ref b130), (.ref b130)]))) (fun tq kq => st138 tq (XS.dup X138.here hx rfl (hb hby at_138) rfl rfl (XS.bipush X138.here hx rfl (hb hby at_139) (XS.bipush X138.here hx rfl (hb hby at_141) kq)))) ?_
  obtain ⟨cl139, Ar139, qa139, sa139, hin139, -⟩ := V138.at (j := (8 : Int32)) (by decide) rfl
  obtain ⟨T139, h139, X139, e139, W139, st139⟩ := stI X138 hx hZ e138 Ar139 (j := (8 : Int32)) hin139 (g := (mkF m 143 #[.val (.int p0), .val (.int p1), .val (.int p2), .val (.ref b101), .unset, .unset, .unset, .unset, .unset] [(.int (7 : Int32)), (.int (8 : Int32)), (.ref b130), (.ref b130)])) rfl rfl (hb hby at_143)
  have N139 := Fr.snoc X139 N138 ge_b130
  have O139 := O138.wr W139 ge_b130
  have K139 := K138.wr W139 (Or.inr gk_b130)
  have V139 : own_Ar Z h139 b130 k130 .int [(.int (0 : Int32)), (.int (0 : Int32)), (.int (0 : Int32)), (.int (0 : Int32)), (.int (0 : Int32)), (.int (0 : Int32)), (.int (16 : Int32)), (.int (16 : Int32)), (.int (7 : Int32)), (.int (0 : Int32)), (.int (0 : Int32)), (.int (0 : Int32)), (.int (0 : Int32)), (.int (0 : Int32))] := own_Ar.set Ar139 qa139 sa139 V138.small W139
  refine own_go (S' := (T139.setTop (mkF m 148 #[.val (.int p0), .val (.int p1), .val (.int p2), .val (.ref b101), .unset, .unset, .unset, .unset, .unset] [(.int (1 : Int32)), (.int (9 : Int32)), (.ref b130), (.ref b130)]))) (fun tq kq => st139 tq (XS.dup X139.here hx rfl (hb hby at_144) rfl rfl (XS.bipush X139.here hx rfl (hb hby at_145) (XS.iconst X139.here hx rfl (hb hby at_147) kq)))) ?_
  obtain ⟨cl140, Ar140, qa140, sa140, hin140, -⟩ := V139.at (j := (9 : Int32)) (by decide) rfl
  obtain ⟨T140, h140, X140, e140, W140, st140⟩ := stI X139 hx hZ e139 Ar140 (j := (9 : Int32)) hin140 (g := (mkF m 148 #[.val (.int p0), .val (.int p1), .val (.int p2), .val (.ref b101), .unset, .unset, .unset, .unset, .unset] [(.int (1 : Int32)), (.int (9 : Int32)), (.ref b130), (.ref b130)])) rfl rfl (hb hby at_148)
  have N140 := Fr.snoc X140 N139 ge_b130
  have O140 := O139.wr W140 ge_b130
  have K140 := K139.wr W140 (Or.inr gk_b130)
  have V140 : own_Ar Z h140 b130 k130 .int [(.int (0 : Int32)), (.int (0 : Int32)), (.int (0 : Int32)), (.int (0 : Int32)), (.int (0 : Int32)), (.int (0 : Int32)), (.int (16 : Int32)), (.int (16 : Int32)), (.int (7 : Int32)), (.int (1 : Int32)), (.int (0 : Int32)), (.int (0 : Int32)), (.int (0 : Int32)), (.int (0 : Int32))] := own_Ar.set Ar140 qa140 sa140 V139.small W140
  refine own_go (S' := (T140.setTop (mkF m 153 #[.val (.int p0), .val (.int p1), .val (.int p2), .val (.ref b101), .unset, .unset, .unset, .unset, .unset] [(.int (0 : Int32)), (.int (10 : Int32)), (.ref b130), (.ref b130)]))) (fun tq kq => st140 tq (XS.dup X140.here hx rfl (hb hby at_149) rfl rfl (XS.bipush X140.here hx rfl (hb hby at_150) (XS.iconst X140.here hx rfl (hb hby at_152) kq)))) ?_
  obtain ⟨cl141, Ar141, qa141, sa141, hin141, -⟩ := V140.at (j := (10 : Int32)) (by decide) rfl
  obtain ⟨T141, h141, X141, e141, W141, st141⟩ := stI X140 hx hZ e140 Ar141 (j := (10 : Int32)) hin141 (g := (mkF m 153 #[.val (.int p0), .val (.int p1), .val (.int p2), .val (.ref b101), .unset, .unset, .unset, .unset, .unset] [(.int (0 : Int32)), (.int (10 : Int32)), (.ref b130), (.ref b130)])) rfl rfl (hb hby at_153)
  have N141 := Fr.snoc X141 N140 ge_b130
  have O141 := O140.wr W141 ge_b130
  have K141 := K140.wr W141 (Or.inr gk_b130)
  have V141 : own_Ar Z h141 b130 k130 .int [(.int (0 : Int32)), (.int (0 : Int32)), (.int (0 : Int32)), (.int (0 : Int32)), (.int (0 : Int32)), (.int (0 : Int32)), (.int (16 : Int32)), (.int (16 : Int32)), (.int (7 : Int32)), (.int (1 : Int32)), (.int (0 : Int32)), (.int (0 : Int32)), (.int (0 : Int32)), (.int (0 : Int32))] := own_Ar.set Ar141 qa141 sa141 V140.small W141
  refine own_go (S' := (T141.setTop (mkF m 158 #[.val (.int p0), .val (.int p1), .val (.int p2), .val (.ref b101), .unset, .unset, .unset, .unset, .unset] [(.int (0 : Int32)), (.int (11 : Int32)), (.ref b130), (.ref b130)]))) (fun tq kq => st141 tq (XS.dup X141.here hx rfl (hb hby at_154) rfl rfl (XS.bipush X141.here hx rfl (hb hby at_155) (XS.iconst X141.here hx rfl (hb hby at_157) kq)))) ?_
  obtain ⟨cl142, Ar142, qa142, sa142, hin142, -⟩ := V141.at (j := (11 : Int32)) (by decide) rfl
  obtain ⟨T142, h142, X142, e142, W142, st142⟩ := stI X141 hx hZ e141 Ar142 (j := (11 : Int32)) hin142 (g := (mkF m 158 #[.val (.int p0), .val (.int p1), .val (.int p2), .val (.ref b101), .unset, .unset, .unset, .unset, .unset] [(.int (0 : Int32)), (.int (11 : Int32)), (.ref b130), (.ref b130)])) rfl rfl (hb hby at_158)
  have N142 := Fr.snoc X142 N141 ge_b130
  have O142 := O141.wr W142 ge_b130
  have K142 := K141.wr W142 (Or.inr gk_b130)
  have V142 : own_Ar Z h142 b130 k130 .int [(.int (0 : Int32)), (.int (0 : Int32)), (.int (0 : Int32)), (.int (0 : Int32)), (.int (0 : Int32)), (.int (0 : Int32)), (.int (16 : Int32)), (.int (16 : Int32)), (.int (7 : Int32)), (.int (1 : Int32)), (.int (0 : Int32)), (.int (0 : Int32)), (.int (0 : Int32)), (.int (0 : Int32))] := own_Ar.set Ar142 qa142 sa142 V141.small W142
  refine own_go (S' := (T142.setTop (mkF m 164 #[.val (.int p0), .val (.int p1), .val (.int p2), .val (.ref b101), .unset, .unset, .unset, .unset, .unset] [(.int (8 : Int32)), (.int (12 : Int32)), (.ref b130), (.ref b130)]))) (fun tq kq => st142 tq (XS.dup X142.here hx rfl (hb hby at_159) rfl rfl (XS.bipush X142.here hx rfl (hb hby at_160) (XS.bipush X142.here hx rfl (hb hby at_162) kq)))) ?_
  obtain ⟨cl143, Ar143, qa143, sa143, hin143, -⟩ := V142.at (j := (12 : Int32)) (by decide) rfl
  obtain ⟨T143, h143, X143, e143, W143, st143⟩ := stI X142 hx hZ e142 Ar143 (j := (12 : Int32)) hin143 (g := (mkF m 164 #[.val (.int p0), .val (.int p1), .val (.int p2), .val (.ref b101), .unset, .unset, .unset, .unset, .unset] [(.int (8 : Int32)), (.int (12 : Int32)), (.ref b130), (.ref b130)])) rfl rfl (hb hby at_164)
  have N143 := Fr.snoc X143 N142 ge_b130
  have O143 := O142.wr W143 ge_b130
  have K143 := K142.wr W143 (Or.inr gk_b130)
  have V143 : own_Ar Z h143 b130 k130 .int [(.int (0 : Int32)), (.int (0 : Int32)), (.int (0 : Int32)), (.int (0 : Int32)), (.int (0 : Int32)), (.int (0 : Int32)), (.int (16 : Int32)), (.int (16 : Int32)), (.int (7 : Int32)), (.int (1 : Int32)), (.int (0 : Int32)), (.int (0 : Int32)), (.int (8 : Int32)), (.int (0 : Int32))] := own_Ar.set Ar143 qa143 sa143 V142.small W143
  refine own_go (S' := (T143.setTop (mkF m 170 #[.val (.int p0), .val (.int p1), .val (.int p2), .val (.ref b101), .unset, .unset, .unset, .unset, .unset] [(.int (6 : Int32)), (.int (13 : Int32)), (.ref b130), (.ref b130)]))) (fun tq kq => st143 tq (XS.dup X143.here hx rfl (hb hby at_165) rfl rfl (XS.bipush X143.here hx rfl (hb hby at_166) (XS.bipush X143.here hx rfl (hb hby at_168) kq)))) ?_
  obtain ⟨cl144, Ar144, qa144, sa144, hin144, -⟩ := V143.at (j := (13 : Int32)) (by decide) rfl
  obtain ⟨T144, h144, X144, e144, W144, st144⟩ := stI X143 hx hZ e143 Ar144 (j := (13 : Int32)) hin144 (g := (mkF m 170 #[.val (.int p0), .val (.int p1), .val (.int p2), .val (.ref b101), .unset, .unset, .unset, .unset, .unset] [(.int (6 : Int32)), (.int (13 : Int32)), (.ref b130), (.ref b130)])) rfl rfl (hb hby at_170)
  have N144 := Fr.snoc X144 N143 ge_b130
  have O144 := O143.wr W144 ge_b130
  have K144 := K143.wr W144 (Or.inr gk_b130)
  have V144 : own_Ar Z h144 b130 k130 .int [(.int (0 : Int32)), (.int (0 : Int32)), (.int (0 : Int32)), (.int (0 : Int32)), (.int (0 : Int32)), (.int (0 : Int32)), (.int (16 : Int32)), (.int (16 : Int32)), (.int (7 : Int32)), (.int (1 : Int32)), (.int (0 : Int32)), (.int (0 : Int32)), (.int (8 : Int32)), (.int (6 : Int32))] := own_Ar.set Ar144 qa144 sa144 V143.small W144
  refine own_go (S' := (T144.setTop (mkF m 186 #[.val (.int p0), .val (.int p1), .val (.int p2), .val (.ref b101), .val (.ref b130), .val (.int ((p0 &&& (2147483647 : Int32)) % (14 : Int32))), .unset, .unset, .unset] [(.int ((p0 &&& (2147483647 : Int32)) % (14 : Int32))), (.ref b130)]))) (fun tq kq => st144 tq (XS.astore X144.here hx rfl (hb hby at_171) rfl rfl (l' := #[.val (.int p0), .val (.int p1), .val (.int p2), .val (.ref b101), .val (.ref b130), .unset, .unset, .unset, .unset]) rfl (XS.iloadN X144.here hx rfl (hb hby at_173) rfl (X144.ldcInt hx hown (mvT hZ (hw _ (List.mem_of_getElem? (i := 46) rfl))) (g := (mkF m 174 #[.val (.int p0), .val (.int p1), .val (.int p2), .val (.ref b101), .val (.ref b130), .unset, .unset, .unset, .unset] [(.int p0)])) rfl (hb hby at_174) tq (XS.iand X144.here hx rfl (hb hby at_176) rfl (XS.bipush X144.here hx rfl (hb hby at_177) (iremM X144 hx rfl (hb hby at_179) rfl (by decide) (XS.istore X144.here hx rfl (hb hby at_180) rfl (l' := #[.val (.int p0), .val (.int p1), .val (.int p2), .val (.ref b101), .val (.ref b130), .val (.int ((p0 &&& (2147483647 : Int32)) % (14 : Int32))), .unset, .unset, .unset]) rfl (XS.aload X144.here hx rfl (hb hby at_182) rfl rfl (XS.iload X144.here hx rfl (hb hby at_184) rfl kq)))))))))) ?_
  have f145 := (((((((((((((((V129.ext E130).other W131 ne_b101_b130).other W132 ne_b101_b130).other W133 ne_b101_b130).other W134 ne_b101_b130).other W135 ne_b101_b130).other W136 ne_b101_b130).other W137 ne_b101_b130).other W138 ne_b101_b130).other W139 ne_b101_b130).other W140 ne_b101_b130).other W141 ne_b101_b130).other W142 ne_b101_b130).other W143 ne_b101_b130).other W144 ne_b101_b130)
  rcases own_14 p0 with hk | hk | hk | hk | hk | hk | hk | hk | hk | hk | hk | hk | hk | hk
  · rw [hk]
    obtain ⟨cl146, Ar146, -, -, hin146, hat146⟩ := V144.at (j := (0 : Int32)) (v := (.int (0 : Int32))) (by decide) rfl
    refine own_go (S' := (T144.setTop (mkF m 187 #[.val (.int p0), .val (.int p1), .val (.int p2), .val (.ref b101), .val (.ref b130), .val (.int (0 : Int32)), .unset, .unset, .unset] [(.int (0 : Int32))]))) (fun tq kq => X144.iaload hx (j := (0 : Int32)) (v := (.int (0 : Int32))) (by rw [e144]; exact Ar146.1) (State.isArrayOf_alike hZ.alike Ar146.2.1) Ar146.2.2 hin146 hat146 (g := (mkF m 186 #[.val (.int p0), .val (.int p1), .val (.int p2), .val (.ref b101), .val (.ref b130), .val (.int (0 : Int32)), .unset, .unset, .unset] [(.int (0 : Int32)), (.ref b130)])) rfl rfl (hb hby at_186) tq kq) ?_
    obtain ⟨cl147, Ar147, -, -, hin147, hat147⟩ := f145.at (j := (0 : Int32)) (v := (.ref a0)) (by decide) rfl
    exact tail0 hlk hret hx hZ hw hby hml hown hnm p0 p1 p2 b101 b130 (0 : Int32) a0 "com/example/davka/davka/FieldKind$1" (0 : Int32) cl147 _ (fun _ _ N => ⟨rfl, N⟩) X144 e144 N144 O144 K144 Ar147 hin147 hat147 (A0.ext O144.2) (B0.ext O144.2) (hw _ (List.mem_of_getElem? (i := 50) rfl))
  · rw [hk]
    obtain ⟨cl148, Ar148, -, -, hin148, hat148⟩ := V144.at (j := (1 : Int32)) (v := (.int (0 : Int32))) (by decide) rfl
    refine own_go (S' := (T144.setTop (mkF m 187 #[.val (.int p0), .val (.int p1), .val (.int p2), .val (.ref b101), .val (.ref b130), .val (.int (1 : Int32)), .unset, .unset, .unset] [(.int (0 : Int32))]))) (fun tq kq => X144.iaload hx (j := (1 : Int32)) (v := (.int (0 : Int32))) (by rw [e144]; exact Ar148.1) (State.isArrayOf_alike hZ.alike Ar148.2.1) Ar148.2.2 hin148 hat148 (g := (mkF m 186 #[.val (.int p0), .val (.int p1), .val (.int p2), .val (.ref b101), .val (.ref b130), .val (.int (1 : Int32)), .unset, .unset, .unset] [(.int (1 : Int32)), (.ref b130)])) rfl rfl (hb hby at_186) tq kq) ?_
    obtain ⟨cl149, Ar149, -, -, hin149, hat149⟩ := f145.at (j := (1 : Int32)) (v := (.ref a1)) (by decide) rfl
    exact tail0 hlk hret hx hZ hw hby hml hown hnm p0 p1 p2 b101 b130 (1 : Int32) a1 "com/example/davka/davka/FieldKind$2" (0 : Int32) cl149 _ (fun _ _ N => ⟨rfl, N⟩) X144 e144 N144 O144 K144 Ar149 hin149 hat149 (A1.ext O144.2) (B1.ext O144.2) (hw _ (List.mem_of_getElem? (i := 54) rfl))
  · rw [hk]
    obtain ⟨cl150, Ar150, -, -, hin150, hat150⟩ := V144.at (j := (2 : Int32)) (v := (.int (0 : Int32))) (by decide) rfl
    refine own_go (S' := (T144.setTop (mkF m 187 #[.val (.int p0), .val (.int p1), .val (.int p2), .val (.ref b101), .val (.ref b130), .val (.int (2 : Int32)), .unset, .unset, .unset] [(.int (0 : Int32))]))) (fun tq kq => X144.iaload hx (j := (2 : Int32)) (v := (.int (0 : Int32))) (by rw [e144]; exact Ar150.1) (State.isArrayOf_alike hZ.alike Ar150.2.1) Ar150.2.2 hin150 hat150 (g := (mkF m 186 #[.val (.int p0), .val (.int p1), .val (.int p2), .val (.ref b101), .val (.ref b130), .val (.int (2 : Int32)), .unset, .unset, .unset] [(.int (2 : Int32)), (.ref b130)])) rfl rfl (hb hby at_186) tq kq) ?_
    obtain ⟨cl151, Ar151, -, -, hin151, hat151⟩ := f145.at (j := (2 : Int32)) (v := (.ref a2)) (by decide) rfl
    exact tail0 hlk hret hx hZ hw hby hml hown hnm p0 p1 p2 b101 b130 (2 : Int32) a2 "com/example/davka/davka/FieldKind$3" (0 : Int32) cl151 _ (fun _ _ N => ⟨rfl, N⟩) X144 e144 N144 O144 K144 Ar151 hin151 hat151 (A2.ext O144.2) (B2.ext O144.2) (hw _ (List.mem_of_getElem? (i := 62) rfl))
  · rw [hk]
    obtain ⟨cl152, Ar152, -, -, hin152, hat152⟩ := V144.at (j := (3 : Int32)) (v := (.int (0 : Int32))) (by decide) rfl
    refine own_go (S' := (T144.setTop (mkF m 187 #[.val (.int p0), .val (.int p1), .val (.int p2), .val (.ref b101), .val (.ref b130), .val (.int (3 : Int32)), .unset, .unset, .unset] [(.int (0 : Int32))]))) (fun tq kq => X144.iaload hx (j := (3 : Int32)) (v := (.int (0 : Int32))) (by rw [e144]; exact Ar152.1) (State.isArrayOf_alike hZ.alike Ar152.2.1) Ar152.2.2 hin152 hat152 (g := (mkF m 186 #[.val (.int p0), .val (.int p1), .val (.int p2), .val (.ref b101), .val (.ref b130), .val (.int (3 : Int32)), .unset, .unset, .unset] [(.int (3 : Int32)), (.ref b130)])) rfl rfl (hb hby at_186) tq kq) ?_
    obtain ⟨cl153, Ar153, -, -, hin153, hat153⟩ := f145.at (j := (3 : Int32)) (v := (.ref a3)) (by decide) rfl
    exact tail0 hlk hret hx hZ hw hby hml hown hnm p0 p1 p2 b101 b130 (3 : Int32) a3 "com/example/davka/davka/FieldKind$4" (0 : Int32) cl153 _ (fun _ _ N => ⟨rfl, N⟩) X144 e144 N144 O144 K144 Ar153 hin153 hat153 (A3.ext O144.2) (B3.ext O144.2) (hw _ (List.mem_of_getElem? (i := 64) rfl))
  · rw [hk]
    obtain ⟨cl154, Ar154, -, -, hin154, hat154⟩ := V144.at (j := (4 : Int32)) (v := (.int (0 : Int32))) (by decide) rfl
    refine own_go (S' := (T144.setTop (mkF m 187 #[.val (.int p0), .val (.int p1), .val (.int p2), .val (.ref b101), .val (.ref b130), .val (.int (4 : Int32)), .unset, .unset, .unset] [(.int (0 : Int32))]))) (fun tq kq => X144.iaload hx (j := (4 : Int32)) (v := (.int (0 : Int32))) (by rw [e144]; exact Ar154.1) (State.isArrayOf_alike hZ.alike Ar154.2.1) Ar154.2.2 hin154 hat154 (g := (mkF m 186 #[.val (.int p0), .val (.int p1), .val (.int p2), .val (.ref b101), .val (.ref b130), .val (.int (4 : Int32)), .unset, .unset, .unset] [(.int (4 : Int32)), (.ref b130)])) rfl rfl (hb hby at_186) tq kq) ?_
    obtain ⟨cl155, Ar155, -, -, hin155, hat155⟩ := f145.at (j := (4 : Int32)) (v := (.ref a4)) (by decide) rfl
    exact tail0 hlk hret hx hZ hw hby hml hown hnm p0 p1 p2 b101 b130 (4 : Int32) a4 "com/example/davka/davka/FieldKind$5" (0 : Int32) cl155 _ (fun _ _ N => ⟨rfl, N⟩) X144 e144 N144 O144 K144 Ar155 hin155 hat155 (A4.ext O144.2) (B4.ext O144.2) (hw _ (List.mem_of_getElem? (i := 72) rfl))
  · rw [hk]
    obtain ⟨cl156, Ar156, -, -, hin156, hat156⟩ := V144.at (j := (5 : Int32)) (v := (.int (0 : Int32))) (by decide) rfl
    refine own_go (S' := (T144.setTop (mkF m 187 #[.val (.int p0), .val (.int p1), .val (.int p2), .val (.ref b101), .val (.ref b130), .val (.int (5 : Int32)), .unset, .unset, .unset] [(.int (0 : Int32))]))) (fun tq kq => X144.iaload hx (j := (5 : Int32)) (v := (.int (0 : Int32))) (by rw [e144]; exact Ar156.1) (State.isArrayOf_alike hZ.alike Ar156.2.1) Ar156.2.2 hin156 hat156 (g := (mkF m 186 #[.val (.int p0), .val (.int p1), .val (.int p2), .val (.ref b101), .val (.ref b130), .val (.int (5 : Int32)), .unset, .unset, .unset] [(.int (5 : Int32)), (.ref b130)])) rfl rfl (hb hby at_186) tq kq) ?_
    obtain ⟨cl157, Ar157, -, -, hin157, hat157⟩ := f145.at (j := (5 : Int32)) (v := (.ref a5)) (by decide) rfl
    exact tail0 hlk hret hx hZ hw hby hml hown hnm p0 p1 p2 b101 b130 (5 : Int32) a5 "com/example/davka/davka/FieldKind$6" (0 : Int32) cl157 _ (fun _ _ N => ⟨rfl, N⟩) X144 e144 N144 O144 K144 Ar157 hin157 hat157 (A5.ext O144.2) (B5.ext O144.2) (hw _ (List.mem_of_getElem? (i := 58) rfl))
  · rw [hk]
    obtain ⟨cl158, Ar158, -, -, hin158, hat158⟩ := V144.at (j := (6 : Int32)) (v := (.int (16 : Int32))) (by decide) rfl
    refine own_go (S' := (T144.setTop (mkF m 187 #[.val (.int p0), .val (.int p1), .val (.int p2), .val (.ref b101), .val (.ref b130), .val (.int (6 : Int32)), .unset, .unset, .unset] [(.int (16 : Int32))]))) (fun tq kq => X144.iaload hx (j := (6 : Int32)) (v := (.int (16 : Int32))) (by rw [e144]; exact Ar158.1) (State.isArrayOf_alike hZ.alike Ar158.2.1) Ar158.2.2 hin158 hat158 (g := (mkF m 186 #[.val (.int p0), .val (.int p1), .val (.int p2), .val (.ref b101), .val (.ref b130), .val (.int (6 : Int32)), .unset, .unset, .unset] [(.int (6 : Int32)), (.ref b130)])) rfl rfl (hb hby at_186) tq kq) ?_
    obtain ⟨cl159, Ar159, -, -, hin159, hat159⟩ := f145.at (j := (6 : Int32)) (v := (.ref a6)) (by decide) rfl
    exact tail0 hlk hret hx hZ hw hby hml hown hnm p0 p1 p2 b101 b130 (6 : Int32) a6 "com/example/davka/davka/FieldKind$7" (16 : Int32) cl159 _ (fun _ _ N => ⟨rfl, N⟩) X144 e144 N144 O144 K144 Ar159 hin159 hat159 (A6.ext O144.2) (B6.ext O144.2) (hw _ (List.mem_of_getElem? (i := 76) rfl))
  · rw [hk]
    obtain ⟨cl160, Ar160, -, -, hin160, hat160⟩ := V144.at (j := (7 : Int32)) (v := (.int (16 : Int32))) (by decide) rfl
    refine own_go (S' := (T144.setTop (mkF m 187 #[.val (.int p0), .val (.int p1), .val (.int p2), .val (.ref b101), .val (.ref b130), .val (.int (7 : Int32)), .unset, .unset, .unset] [(.int (16 : Int32))]))) (fun tq kq => X144.iaload hx (j := (7 : Int32)) (v := (.int (16 : Int32))) (by rw [e144]; exact Ar160.1) (State.isArrayOf_alike hZ.alike Ar160.2.1) Ar160.2.2 hin160 hat160 (g := (mkF m 186 #[.val (.int p0), .val (.int p1), .val (.int p2), .val (.ref b101), .val (.ref b130), .val (.int (7 : Int32)), .unset, .unset, .unset] [(.int (7 : Int32)), (.ref b130)])) rfl rfl (hb hby at_186) tq kq) ?_
    obtain ⟨cl161, Ar161, -, -, hin161, hat161⟩ := f145.at (j := (7 : Int32)) (v := (.ref a7)) (by decide) rfl
    exact tail0 hlk hret hx hZ hw hby hml hown hnm p0 p1 p2 b101 b130 (7 : Int32) a7 "com/example/davka/davka/FieldKind$8" (16 : Int32) cl161 _ (fun _ _ N => ⟨rfl, N⟩) X144 e144 N144 O144 K144 Ar161 hin161 hat161 (A7.ext O144.2) (B7.ext O144.2) (hw _ (List.mem_of_getElem? (i := 74) rfl))
  · rw [hk]
    obtain ⟨cl162, Ar162, -, -, hin162, hat162⟩ := V144.at (j := (8 : Int32)) (v := (.int (7 : Int32))) (by decide) rfl
    refine own_go (S' := (T144.setTop (mkF m 187 #[.val (.int p0), .val (.int p1), .val (.int p2), .val (.ref b101), .val (.ref b130), .val (.int (8 : Int32)), .unset, .unset, .unset] [(.int (7 : Int32))]))) (fun tq kq => X144.iaload hx (j := (8 : Int32)) (v := (.int (7 : Int32))) (by rw [e144]; exact Ar162.1) (State.isArrayOf_alike hZ.alike Ar162.2.1) Ar162.2.2 hin162 hat162 (g := (mkF m 186 #[.val (.int p0), .val (.int p1), .val (.int p2), .val (.ref b101), .val (.ref b130), .val (.int (8 : Int32)), .unset, .unset, .unset] [(.int (8 : Int32)), (.ref b130)])) rfl rfl (hb hby at_186) tq kq) ?_
    obtain ⟨cl163, Ar163, -, -, hin163, hat163⟩ := f145.at (j := (8 : Int32)) (v := (.ref a8)) (by decide) rfl
    exact tail0 hlk hret hx hZ hw hby hml hown hnm p0 p1 p2 b101 b130 (8 : Int32) a8 "com/example/davka/davka/FieldKind$9" (7 : Int32) cl163 _ (fun _ _ N => ⟨rfl, N⟩) X144 e144 N144 O144 K144 Ar163 hin163 hat163 (A8.ext O144.2) (B8.ext O144.2) (hw _ (List.mem_of_getElem? (i := 60) rfl))
  · rw [hk]
    obtain ⟨cl164, Ar164, -, -, hin164, hat164⟩ := V144.at (j := (9 : Int32)) (v := (.int (1 : Int32))) (by decide) rfl
    refine own_go (S' := (T144.setTop (mkF m 187 #[.val (.int p0), .val (.int p1), .val (.int p2), .val (.ref b101), .val (.ref b130), .val (.int (9 : Int32)), .unset, .unset, .unset] [(.int (1 : Int32))]))) (fun tq kq => X144.iaload hx (j := (9 : Int32)) (v := (.int (1 : Int32))) (by rw [e144]; exact Ar164.1) (State.isArrayOf_alike hZ.alike Ar164.2.1) Ar164.2.2 hin164 hat164 (g := (mkF m 186 #[.val (.int p0), .val (.int p1), .val (.int p2), .val (.ref b101), .val (.ref b130), .val (.int (9 : Int32)), .unset, .unset, .unset] [(.int (9 : Int32)), (.ref b130)])) rfl rfl (hb hby at_186) tq kq) ?_
    obtain ⟨cl165, Ar165, -, -, hin165, hat165⟩ := f145.at (j := (9 : Int32)) (v := (.ref a9)) (by decide) rfl
    exact tail0 hlk hret hx hZ hw hby hml hown hnm p0 p1 p2 b101 b130 (9 : Int32) a9 "com/example/davka/davka/FieldKind$10" (1 : Int32) cl165 _ (fun _ _ N => ⟨rfl, N⟩) X144 e144 N144 O144 K144 Ar165 hin165 hat165 (A9.ext O144.2) (B9.ext O144.2) (hw _ (List.mem_of_getElem? (i := 68) rfl))
  · rw [hk]
    obtain ⟨cl166, Ar166, -, -, hin166, hat166⟩ := V144.at (j := (10 : Int32)) (v := (.int (0 : Int32))) (by decide) rfl
    refine own_go (S' := (T144.setTop (mkF m 187 #[.val (.int p0), .val (.int p1), .val (.int p2), .val (.ref b101), .val (.ref b130), .val (.int (10 : Int32)), .unset, .unset, .unset] [(.int (0 : Int32))]))) (fun tq kq => X144.iaload hx (j := (10 : Int32)) (v := (.int (0 : Int32))) (by rw [e144]; exact Ar166.1) (State.isArrayOf_alike hZ.alike Ar166.2.1) Ar166.2.2 hin166 hat166 (g := (mkF m 186 #[.val (.int p0), .val (.int p1), .val (.int p2), .val (.ref b101), .val (.ref b130), .val (.int (10 : Int32)), .unset, .unset, .unset] [(.int (10 : Int32)), (.ref b130)])) rfl rfl (hb hby at_186) tq kq) ?_
    obtain ⟨cl167, Ar167, -, -, hin167, hat167⟩ := f145.at (j := (10 : Int32)) (v := (.ref a10)) (by decide) rfl
    exact tail0 hlk hret hx hZ hw hby hml hown hnm p0 p1 p2 b101 b130 (10 : Int32) a10 "com/example/davka/davka/FieldKind$11" (0 : Int32) cl167 _ (fun _ _ N => ⟨rfl, N⟩) X144 e144 N144 O144 K144 Ar167 hin167 hat167 (A10.ext O144.2) (B10.ext O144.2) (hw _ (List.mem_of_getElem? (i := 56) rfl))
  · rw [hk]
    obtain ⟨cl168, Ar168, -, -, hin168, hat168⟩ := V144.at (j := (11 : Int32)) (v := (.int (0 : Int32))) (by decide) rfl
    refine own_go (S' := (T144.setTop (mkF m 187 #[.val (.int p0), .val (.int p1), .val (.int p2), .val (.ref b101), .val (.ref b130), .val (.int (11 : Int32)), .unset, .unset, .unset] [(.int (0 : Int32))]))) (fun tq kq => X144.iaload hx (j := (11 : Int32)) (v := (.int (0 : Int32))) (by rw [e144]; exact Ar168.1) (State.isArrayOf_alike hZ.alike Ar168.2.1) Ar168.2.2 hin168 hat168 (g := (mkF m 186 #[.val (.int p0), .val (.int p1), .val (.int p2), .val (.ref b101), .val (.ref b130), .val (.int (11 : Int32)), .unset, .unset, .unset] [(.int (11 : Int32)), (.ref b130)])) rfl rfl (hb hby at_186) tq kq) ?_
    obtain ⟨cl169, Ar169, -, -, hin169, hat169⟩ := f145.at (j := (11 : Int32)) (v := (.ref a11)) (by decide) rfl
    exact tail0 hlk hret hx hZ hw hby hml hown hnm p0 p1 p2 b101 b130 (11 : Int32) a11 "com/example/davka/davka/FieldKind$12" (0 : Int32) cl169 _ (fun _ _ N => ⟨rfl, N⟩) X144 e144 N144 O144 K144 Ar169 hin169 hat169 (A11.ext O144.2) (B11.ext O144.2) (hw _ (List.mem_of_getElem? (i := 66) rfl))
  · rw [hk]
    obtain ⟨cl170, Ar170, -, -, hin170, hat170⟩ := V144.at (j := (12 : Int32)) (v := (.int (8 : Int32))) (by decide) rfl
    refine own_go (S' := (T144.setTop (mkF m 187 #[.val (.int p0), .val (.int p1), .val (.int p2), .val (.ref b101), .val (.ref b130), .val (.int (12 : Int32)), .unset, .unset, .unset] [(.int (8 : Int32))]))) (fun tq kq => X144.iaload hx (j := (12 : Int32)) (v := (.int (8 : Int32))) (by rw [e144]; exact Ar170.1) (State.isArrayOf_alike hZ.alike Ar170.2.1) Ar170.2.2 hin170 hat170 (g := (mkF m 186 #[.val (.int p0), .val (.int p1), .val (.int p2), .val (.ref b101), .val (.ref b130), .val (.int (12 : Int32)), .unset, .unset, .unset] [(.int (12 : Int32)), (.ref b130)])) rfl rfl (hb hby at_186) tq kq) ?_
    obtain ⟨cl171, Ar171, -, -, hin171, hat171⟩ := f145.at (j := (12 : Int32)) (v := (.ref a12)) (by decide) rfl
    exact tail0 hlk hret hx hZ hw hby hml hown hnm p0 p1 p2 b101 b130 (12 : Int32) a12 "com/example/davka/davka/FieldKind$13" (8 : Int32) cl171 _ (fun _ _ N => ⟨rfl, N⟩) X144 e144 N144 O144 K144 Ar171 hin171 hat171 (A12.ext O144.2) (B12.ext O144.2) (hw _ (List.mem_of_getElem? (i := 78) rfl))
  · rw [hk]
    obtain ⟨cl172, Ar172, -, -, hin172, hat172⟩ := V144.at (j := (13 : Int32)) (v := (.int (6 : Int32))) (by decide) rfl
    refine own_go (S' := (T144.setTop (mkF m 187 #[.val (.int p0), .val (.int p1), .val (.int p2), .val (.ref b101), .val (.ref b130), .val (.int (13 : Int32)), .unset, .unset, .unset] [(.int (6 : Int32))]))) (fun tq kq => X144.iaload hx (j := (13 : Int32)) (v := (.int (6 : Int32))) (by rw [e144]; exact Ar172.1) (State.isArrayOf_alike hZ.alike Ar172.2.1) Ar172.2.2 hin172 hat172 (g := (mkF m 186 #[.val (.int p0), .val (.int p1), .val (.int p2), .val (.ref b101), .val (.ref b130), .val (.int (13 : Int32)), .unset, .unset, .unset] [(.int (13 : Int32)), (.ref b130)])) rfl rfl (hb hby at_186) tq kq) ?_
    obtain ⟨cl173, Ar173, -, -, hin173, hat173⟩ := f145.at (j := (13 : Int32)) (v := (.ref a13)) (by decide) rfl
    exact tail0 hlk hret hx hZ hw hby hml hown hnm p0 p1 p2 b101 b130 (13 : Int32) a13 "com/example/davka/davka/FieldKind$14" (6 : Int32) cl173 _ (fun _ _ N => ⟨rfl, N⟩) X144 e144 N144 O144 K144 Ar173 hin173 hat173 (A13.ext O144.2) (B13.ext O144.2) (hw _ (List.mem_of_getElem? (i := 70) rfl))
set_option maxRecDepth 65536 in
set_option maxHeartbeats 40000000 in
theorem comes_1 {Post : Tables → Env → Array Value → State → Outcome → State → Prop} (hpost : ∀ tb e args s v u, (limb_1_1.after args s (.returned v) u = true ∧ limb_1_2.after args s (.returned v) u = true ∧ True) → FrameEnd s (.returned v) u (Jvm.fieldLocs frame_1_writes args s ++ Jvm.arrayLocs frame_1_arrays args s ++ Jvm.staticLocs frame_1_statics s) 16 128 → Post tb e args s (.returned v) u) :
    ArmFor flags0 classFile x code maxLocals ret World_1 tables_1 room_1 Calls_1 rest_1 Pre_1 Post := by
  intro l hfl _ _ p e ha hc hk s m args below hf hA hF happ hP
  obtain ⟨hcalls, hrest, hpre⟩ := hP
  obtain ⟨-, -, -, hnamed, -, -, -, hat⟩ := (Spec.applies_iff hf).mp happ
  obtain ⟨hg, hn⟩ := and_e (Cond.before_iff.mp (show (Jvm.Cond.and given_1 narrow_1).before args s = true from hpre))
  obtain ⟨hcount, hg0⟩ := and_e hg
  obtain ⟨ga0, hg1⟩ := and_e hg0
  obtain ⟨ga1, hg2⟩ := and_e hg1
  have ga2 := hg2
  obtain ⟨w0, w1, w2, rfl⟩ : ∃ w0 w1 w2 : Value, args = #[w0, w1, w2] := by
    have hs : args.size = 3 := by simpa [Cond.value, given_1] using hcount
    obtain ⟨L⟩ := args
    match L, hs with
    | [w0, w1, w2], _ => exact ⟨w0, w1, w2, rfl⟩
  have hw := fun d (hd : d ∈ tables_1) => atoms_spec (ws := Jvm.Cond.code x code maxLocals ret :: tables_1) hat d (List.mem_cons_of_mem _ hd)
  have hfit : Fit s := fun {y c} hc i hi => by
    obtain ⟨ha, rfl⟩ := Array.getElem?_eq_some_iff.mp hc
    have q := List.all_eq_true.mp ((Array.all_eq_true_iff_forall_mem.mp hF) _ (Array.getElem_mem ha)) i (List.mem_range.mpr hi)
    simpa [Array.getElem?_eq_getElem hi] using q
  obtain ⟨i0, ei0⟩ := is_v ga0
  obtain rfl : w0 = (.int i0) := Option.some.inj ei0
  obtain ⟨i1, ei1⟩ := is_v ga1
  obtain rfl : w1 = (.int i1) := Option.some.inj ei1
  obtain ⟨i2, ei2⟩ := is_v ga2
  obtain rfl : w2 = (.int i2) := Option.some.inj ei2
  obtain ⟨n0, hn⟩ := and_e hn
  obtain ⟨n1, hn⟩ := and_e hn
  obtain ⟨n2, hn⟩ := and_e hn
  obtain ⟨n3, hn⟩ := and_e hn
  obtain ⟨n4, hn⟩ := and_e hn
  obtain ⟨n5, hn⟩ := and_e hn
  obtain ⟨n6, hn⟩ := and_e hn
  obtain ⟨n7, hn⟩ := and_e hn
  obtain ⟨n8, hn⟩ := and_e hn
  obtain ⟨n9, hn⟩ := and_e hn
  obtain ⟨n10, hn⟩ := and_e hn
  obtain ⟨n11, hn⟩ := and_e hn
  obtain ⟨n12, hn⟩ := and_e hn
  obtain ⟨n13, hn⟩ := and_e hn
  obtain ⟨n14, hn⟩ := and_e hn
  obtain ⟨n15, hn⟩ := and_e hn
  obtain ⟨n16, hn⟩ := and_e hn
  obtain ⟨n17, hn⟩ := and_e hn
  obtain ⟨n18, hn⟩ := and_e hn
  obtain ⟨n19, hn⟩ := and_e hn
  obtain ⟨n20, hn⟩ := and_e hn
  obtain ⟨n21, hn⟩ := and_e hn
  obtain ⟨n22, hn⟩ := and_e hn
  obtain ⟨n23, hn⟩ := and_e hn
  obtain ⟨n24, hn⟩ := and_e hn
  obtain ⟨n25, hn⟩ := and_e hn
  obtain ⟨n26, hn⟩ := and_e hn
  have n27 := hn
  obtain ⟨a0, ea0⟩ := exa_v n0
  have S0 := Sta.start ea0 (Or.inr ⟨(hw _ (List.mem_of_getElem? (i := 3) rfl)), (hw _ (List.mem_of_getElem? (i := 4) rfl))⟩)
  have A0 := Exa.start ea0 n0
  have B0 := Fld.start ((fld_at ea0).symm.trans (own_eqI n14))
  obtain ⟨a1, ea1⟩ := exa_v n1
  have S1 := Sta.start ea1 (Or.inr ⟨(hw _ (List.mem_of_getElem? (i := 3) rfl)), (hw _ (List.mem_of_getElem? (i := 7) rfl))⟩)
  have A1 := Exa.start ea1 n1
  have B1 := Fld.start ((fld_at ea1).symm.trans (own_eqI n15))
  obtain ⟨a2, ea2⟩ := exa_v n2
  have S2 := Sta.start ea2 (Or.inr ⟨(hw _ (List.mem_of_getElem? (i := 3) rfl)), (hw _ (List.mem_of_getElem? (i := 10) rfl))⟩)
  have A2 := Exa.start ea2 n2
  have B2 := Fld.start ((fld_at ea2).symm.trans (own_eqI n19))
  obtain ⟨a3, ea3⟩ := exa_v n3
  have S3 := Sta.start ea3 (Or.inr ⟨(hw _ (List.mem_of_getElem? (i := 3) rfl)), (hw _ (List.mem_of_getElem? (i := 13) rfl))⟩)
  have A3 := Exa.start ea3 n3
  have B3 := Fld.start ((fld_at ea3).symm.trans (own_eqI n20))
  obtain ⟨a4, ea4⟩ := exa_v n4
  have S4 := Sta.start ea4 (Or.inr ⟨(hw _ (List.mem_of_getElem? (i := 3) rfl)), (hw _ (List.mem_of_getElem? (i := 16) rfl))⟩)
  have A4 := Exa.start ea4 n4
  have B4 := Fld.start ((fld_at ea4).symm.trans (own_eqI n24))
  obtain ⟨a5, ea5⟩ := exa_v n5
  have S5 := Sta.start ea5 (Or.inr ⟨(hw _ (List.mem_of_getElem? (i := 3) rfl)), (hw _ (List.mem_of_getElem? (i := 19) rfl))⟩)
  have A5 := Exa.start ea5 n5
  have B5 := Fld.start ((fld_at ea5).symm.trans (own_eqI n17))
  obtain ⟨a6, ea6⟩ := exa_v n6
  have S6 := Sta.start ea6 (Or.inr ⟨(hw _ (List.mem_of_getElem? (i := 3) rfl)), (hw _ (List.mem_of_getElem? (i := 22) rfl))⟩)
  have A6 := Exa.start ea6 n6
  have B6 := Fld.start ((fld_at ea6).symm.trans (own_eqI n26))
  obtain ⟨a7, ea7⟩ := exa_v n7
  have S7 := Sta.start ea7 (Or.inr ⟨(hw _ (List.mem_of_getElem? (i := 3) rfl)), (hw _ (List.mem_of_getElem? (i := 25) rfl))⟩)
  have A7 := Exa.start ea7 n7
  have B7 := Fld.start ((fld_at ea7).symm.trans (own_eqI n25))
  obtain ⟨a8, ea8⟩ := exa_v n8
  have S8 := Sta.start ea8 (Or.inr ⟨(hw _ (List.mem_of_getElem? (i := 3) rfl)), (hw _ (List.mem_of_getElem? (i := 28) rfl))⟩)
  have A8 := Exa.start ea8 n8
  have B8 := Fld.start ((fld_at ea8).symm.trans (own_eqI n18))
  obtain ⟨a9, ea9⟩ := exa_v n9
  have S9 := Sta.start ea9 (Or.inr ⟨(hw _ (List.mem_of_getElem? (i := 3) rfl)), (hw _ (List.mem_of_getElem? (i := 31) rfl))⟩)
  have A9 := Exa.start ea9 n9
  have B9 := Fld.start ((fld_at ea9).symm.trans (own_eqI n22))
  obtain ⟨a10, ea10⟩ := exa_v n10
  have S10 := Sta.start ea10 (Or.inr ⟨(hw _ (List.mem_of_getElem? (i := 3) rfl)), (hw _ (List.mem_of_getElem? (i := 34) rfl))⟩)
  have A10 := Exa.start ea10 n10
  have B10 := Fld.start ((fld_at ea10).symm.trans (own_eqI n16))
  obtain ⟨a11, ea11⟩ := exa_v n11
  have S11 := Sta.start ea11 (Or.inr ⟨(hw _ (List.mem_of_getElem? (i := 3) rfl)), (hw _ (List.mem_of_getElem? (i := 37) rfl))⟩)
  have A11 := Exa.start ea11 n11
  have B11 := Fld.start ((fld_at ea11).symm.trans (own_eqI n21))
  obtain ⟨a12, ea12⟩ := exa_v n12
  have S12 := Sta.start ea12 (Or.inr ⟨(hw _ (List.mem_of_getElem? (i := 3) rfl)), (hw _ (List.mem_of_getElem? (i := 40) rfl))⟩)
  have A12 := Exa.start ea12 n12
  have B12 := Fld.start ((fld_at ea12).symm.trans (own_eqI n27))
  obtain ⟨a13, ea13⟩ := exa_v n13
  have S13 := Sta.start ea13 (Or.inr ⟨(hw _ (List.mem_of_getElem? (i := 3) rfl)), (hw _ (List.mem_of_getElem? (i := 43) rfl))⟩)
  have A13 := Exa.start ea13 n13
  have B13 := Fld.start ((fld_at ea13).symm.trans (own_eqI n23))
  obtain ⟨n, o, h1, h2, h3, _, L, rfl, ⟨rfl, N⟩, hq⟩ := rm0 l s _ hw tables_1 s.heap s.heap.size (Old.start s) i0 i1 i2 a0 a1 a2 a3 a4 a5 a6 a7 a8 a9 a10 a11 a12 a13 S0 S1 S2 S3 S4 S5 S6 S7 S8 S9 S10 S11 S12 S13 A0 A1 A2 A3 A4 A5 A6 A7 A8 A9 A10 A11 A12 A13 B0 B1 B2 B3 B4 B5 B6 B7 B8 B9 B10 B11 B12 B13 p e ha hc hk s m _ below hf ((Spec.applies_iff_loose hf).mp happ).1 ⟨rfl, State.Warmed39.refl s, rfl⟩ trivial
  refine ⟨n, _, h1, h2, h3, hpost _ _ _ _ _ _ ⟨Cond.after_iff.mpr rfl, Cond.after_iff.mpr (eq_i res_at (Term.int_eval (1)) rfl), trivial⟩ ⟨hq.1, hq.2.1, (hq.2.2.sift fun y hy => Or.inr (N y hy)).mono (by decide) (by decide)⟩⟩
theorem main_1_1 : Claimed_1_1 := comes_1 fun _ _ _ _ _ _ h hF => ⟨h.1, hF⟩
theorem main_1_2 : Claimed_1_2 := comes_1 fun _ _ _ _ _ _ h hF => ⟨h.2.1, hF⟩
end Jvm.Pilot.@@N@@
namespace Jvm.Pilot.@@N@@
open Jvm Jvm.ClassFile Sem Op Lib Jvm.Free Jvm.Stand Jvm.Pilot.@@N@@.Jvm.D
/-! MADE BY PROGRAM (witnessworld.py) out of the Statement's table words and the real class files: 27 classes; the members and pool entries that the words name. The judged class is class 1, her method 1. -/
namespace start1
open Jvm.ClassFile
def u (s : String) : CpInfo := .utf8 (stringToUtf16 s)
/-- a pool by its gaps: so many unusable entries, then the entry; so many at the end -/
def gap : Nat → List CpInfo → List CpInfo
  | 0, r => r
  | n + 1, r => .unusable :: gap n r
def poolList (es : List (Nat × CpInfo)) (last : Nat) : List CpInfo := es.foldr (fun e r => gap e.1 (e.2 :: r)) (gap last [])
def pool (es : List (Nat × CpInfo)) (last : Nat) : Array CpInfo := ⟨poolList es last⟩
def fileOf (pool : Array CpInfo) (this : Nat) (attrs : Array Attribute := #[]) (ms : Array MethodInfo := #[]) (fl : Nat := 33) (sup : Nat := 0) (ifs : Array Nat := #[]) (fds : Array FieldInfo := #[]) : ClassFile where
  minorVersion := 0
  majorVersion := 65
  constantPool := pool
  accessFlags := fl
  thisClass := this
  superClass := sup
  interfaces := ifs
  fields := fds
  methods := ms
  attributes := attrs
def plain (name : String) (sup : Option ClassId) : Class where
  name := name
  kind := .ordinary
  loader := none
  accessFlags := 33
  super := sup
  interfaces := #[]
  cf := none
  fields := #[]
  methods := #[]
  instanceTypes := #[]
  staticTypes := #[]
  resolved := #[]
  callSites := []
  init := .initialized
  statics := none
  mirror := none

def pool0 : Array CpInfo := pool [(5, u "<init>"), (0, u "()V"), (1, .class_ 10), (1, u "java/lang/Object")] 113

def k0m0 : Method := { name := "<init>", desc := "()V", sig := { parameters := [], returnType := none }, accessFlags := 1, code := none }
/-- java/lang/Object -/
def k0 : Class := { plain "java/lang/Object" none with
  accessFlags := 33
  interfaces := #[]
  cf := some (fileOf pool0 8 #[] #[{ accessFlags := 1, nameIndex := 5, descriptorIndex := 6, attributes := #[] }] 33 0 #[] #[])
  fields := #[]
  methods := #[k0m0]
  instanceTypes := #[]
  staticTypes := #[]
  resolved := Array.replicate 124 none
  statics := none }

def pool1 : Array CpInfo := pool [(2, .class_ 4), (1, u "java/lang/Object"), (0, u "<init>"), (0, u "()V"), (0, .class_ 8), (0, u "com/example/davka/davka/FieldKind"), (0, .fieldref 7 10), (0, .nameAndType 11 12), (0, u "TEXT"), (0, u "Lcom/example/davka/davka/FieldKind;"), (0, .fieldref 7 14), (0, .nameAndType 15 12), (0, u "REQUIRED_TEXT"), (0, .fieldref 7 17), (0, .nameAndType 18 12), (0, u "PRIORITY"), (0, .fieldref 7 20), (0, .nameAndType 21 12), (0, u "DIGITS"), (0, .fieldref 7 23), (0, .nameAndType 24 12), (0, u "NUMBER"), (0, .fieldref 7 26), (0, .nameAndType 27 12), (0, u "SYMBOL"), (0, .fieldref 7 29), (0, .nameAndType 30 12), (0, u "ACCOUNT"), (0, .fieldref 7 32), (0, .nameAndType 33 12), (0, u "OPTIONAL_ACCOUNT"), (0, .fieldref 7 35), (0, .nameAndType 36 12), (0, u "BANK_CODE"), (0, .fieldref 7 38), (0, .nameAndType 39 12), (0, u "ACCOUNTING_CODE"), (0, .fieldref 7 41), (0, .nameAndType 42 12), (0, u "AMOUNT"), (0, .fieldref 7 44), (0, .nameAndType 45 12), (0, u "SIGNED_AMOUNT"), (0, .fieldref 7 47), (0, .nameAndType 48 12), (0, u "DATE"), (0, .fieldref 7 50), (0, .nameAndType 51 12), (0, u "SHORT_DATE"), (0, .integer 2147483647), (0, .methodref 7 54), (0, .nameAndType 55 56), (0, u "fits"), (0, u "(I)Z"), (0, .class_ 58), (0, u "com/example/davka/davka/FieldKindFitsPinLaw"), (2, u "law"), (0, u "(III)Z")] 7

def k1m0 : Method := { name := "<init>", desc := "()V", sig := { parameters := [], returnType := none }, accessFlags := 1, code := none }
def k1c1 : Code := { maxStack := 4, maxLocals := 9, code := code, exceptionTable := #[], attributes := #[] }
def k1m1 : Method := { name := "law", desc := "(III)Z", sig := { parameters := [.int, .int, .int], returnType := some .boolean }, accessFlags := 9, code := some k1c1 }
/-- com/example/davka/davka/FieldKindFitsPinLaw -/
def k1 : Class := { plain "com/example/davka/davka/FieldKindFitsPinLaw" (some 0) with
  accessFlags := 49
  interfaces := #[]
  cf := some (fileOf pool1 57 #[] #[{ accessFlags := 1, nameIndex := 5, descriptorIndex := 6, attributes := #[] }, { accessFlags := 9, nameIndex := 61, descriptorIndex := 62, attributes := #[] }] 49 2 #[] #[])
  fields := #[]
  methods := #[k1m0, k1m1]
  instanceTypes := #[]
  staticTypes := #[]
  resolved := Array.replicate 70 none
  statics := none }

def pool2 : Array CpInfo := pool [(1, .class_ 2), (0, u "java/lang/constant/Constable"), (0, .class_ 4), (0, u "java/lang/Object")] 6

/-- java/lang/constant/Constable -/
def k2 : Class := { plain "java/lang/constant/Constable" (some 0) with
  accessFlags := 1537
  interfaces := #[]
  cf := some (fileOf pool2 1 #[] #[] 1537 3 #[] #[])
  fields := #[]
  methods := #[]
  instanceTypes := #[]
  staticTypes := #[]
  resolved := Array.replicate 11 none
  statics := none }

def pool3 : Array CpInfo := pool [(1, .class_ 2), (0, u "java/lang/Comparable"), (0, .class_ 4), (0, u "java/lang/Object")] 7

/-- java/lang/Comparable -/
def k3 : Class := { plain "java/lang/Comparable" (some 0) with
  accessFlags := 1537
  interfaces := #[]
  cf := some (fileOf pool3 1 #[] #[] 1537 3 #[] #[])
  fields := #[]
  methods := #[]
  instanceTypes := #[]
  staticTypes := #[]
  resolved := Array.replicate 12 none
  statics := none }

def pool4 : Array CpInfo := pool [(1, .class_ 2), (0, u "java/io/Serializable"), (0, .class_ 4), (0, u "java/lang/Object")] 2

/-- java/io/Serializable -/
def k4 : Class := { plain "java/io/Serializable" (some 0) with
  accessFlags := 1537
  interfaces := #[]
  cf := some (fileOf pool4 1 #[] #[] 1537 3 #[] #[])
  fields := #[]
  methods := #[]
  instanceTypes := #[]
  staticTypes := #[]
  resolved := Array.replicate 7 none
  statics := none }

def pool5 : Array CpInfo := pool [(2, .class_ 4), (1, u "java/lang/Enum"), (0, u "name"), (0, u "Ljava/lang/String;"), (2, u "ordinal"), (0, u "I"), (1, .class_ 14), (1, u "java/lang/Object"), (4, u "hash"), (86, .class_ 108), (1, u "java/lang/Enum$EnumDesc"), (2, .class_ 112), (0, u "java/lang/constant/Constable"), (0, .class_ 114), (0, u "java/lang/Comparable"), (0, .class_ 116), (0, u "java/io/Serializable")] 87

/-- java/lang/Enum -/
def k5 : Class := { plain "java/lang/Enum" (some 0) with
  accessFlags := 1057
  interfaces := #[2, 3, 4]
  cf := some (fileOf pool5 2 #[.nestMembers #[106]] #[] 1057 12 #[111, 113, 115] #[{ accessFlags := 18, nameIndex := 5, descriptorIndex := 6, attributes := #[] }, { accessFlags := 18, nameIndex := 9, descriptorIndex := 10, attributes := #[] }, { accessFlags := 2, nameIndex := 19, descriptorIndex := 10, attributes := #[] }])
  fields := #[{ name := "name", type := (.object "java/lang/String"), accessFlags := 18, slot := 0, constantValue := 0 }, { name := "ordinal", type := .int, accessFlags := 18, slot := 1, constantValue := 0 }, { name := "hash", type := .int, accessFlags := 2, slot := 2, constantValue := 0 }]
  methods := #[]
  instanceTypes := #[(.object "java/lang/String"), .int, .int]
  staticTypes := #[]
  resolved := Array.replicate 204 none
  statics := none }

def pool6 : Array CpInfo := pool [(1, .class_ 2), (0, u "com/example/davka/davka/FieldKind"), (2, u "TEXT"), (0, u "Lcom/example/davka/davka/FieldKind;"), (2, u "REQUIRED_TEXT"), (2, u "PRIORITY"), (2, u "DIGITS"), (2, u "NUMBER"), (2, u "SYMBOL"), (2, u "ACCOUNT"), (2, u "OPTIONAL_ACCOUNT"), (2, u "BANK_CODE"), (2, u "ACCOUNTING_CODE"), (2, u "AMOUNT"), (2, u "SIGNED_AMOUNT"), (2, u "DATE"), (2, u "SHORT_DATE"), (2, u "$VALUES"), (0, u "[Lcom/example/davka/davka/FieldKind;"), (6, .class_ 58), (1, u "java/lang/Enum"), (6, .fieldref 1 66), (0, .nameAndType 67 68), (0, u "width"), (0, u "I"), (2, u "type"), (0, u "Ljava/lang/Class;"), (214, u "(I)Z"), (6, .class_ 295), (0, u "com/example/davka/davka/FieldKind$1"), (4, .class_ 301), (0, u "com/example/davka/davka/FieldKind$2"), (2, .class_ 305), (0, u "com/example/davka/davka/FieldKind$3"), (2, .class_ 309), (0, u "com/example/davka/davka/FieldKind$4"), (2, .class_ 313), (0, u "com/example/davka/davka/FieldKind$5"), (2, .class_ 317), (0, u "com/example/davka/davka/FieldKind$6"), (2, .class_ 321), (0, u "com/example/davka/davka/FieldKind$7"), (2, .class_ 325), (0, u "com/example/davka/davka/FieldKind$8"), (2, .class_ 329), (0, u "com/example/davka/davka/FieldKind$9"), (2, .class_ 333), (0, u "com/example/davka/davka/FieldKind$10"), (2, .class_ 337), (0, u "com/example/davka/davka/FieldKind$11"), (4, .class_ 343), (0, u "com/example/davka/davka/FieldKind$12"), (2, .class_ 347), (0, u "com/example/davka/davka/FieldKind$13"), (2, .class_ 351), (0, u "com/example/davka/davka/FieldKind$14"), (19, u "fits")] 65

def k6c0 : Code := { maxStack := 2, maxLocals := 2, code := prog_37_method_6_code, exceptionTable := #[], attributes := #[] }
def k6m0 : Method := { name := "fits", desc := "(I)Z", sig := { parameters := [.int], returnType := some .boolean }, accessFlags := 0, code := some k6c0 }
/-- com/example/davka/davka/FieldKind -/
def k6 : Class := { plain "com/example/davka/davka/FieldKind" (some 5) with
  accessFlags := 17440
  interfaces := #[]
  cf := some (fileOf pool6 1 #[.nestMembers #[350, 346, 342, 336, 332, 328, 324, 320, 316, 312, 308, 304, 300, 294]] #[{ accessFlags := 0, nameIndex := 371, descriptorIndex := 287, attributes := #[] }] 17440 56 #[] #[{ accessFlags := 16409, nameIndex := 5, descriptorIndex := 6, attributes := #[] }, { accessFlags := 16409, nameIndex := 9, descriptorIndex := 6, attributes := #[] }, { accessFlags := 16409, nameIndex := 12, descriptorIndex := 6, attributes := #[] }, { accessFlags := 16409, nameIndex := 15, descriptorIndex := 6, attributes := #[] }, { accessFlags := 16409, nameIndex := 18, descriptorIndex := 6, attributes := #[] }, { accessFlags := 16409, nameIndex := 21, descriptorIndex := 6, attributes := #[] }, { accessFlags := 16409, nameIndex := 24, descriptorIndex := 6, attributes := #[] }, { accessFlags := 16409, nameIndex := 27, descriptorIndex := 6, attributes := #[] }, { accessFlags := 16409, nameIndex := 30, descriptorIndex := 6, attributes := #[] }, { accessFlags := 16409, nameIndex := 33, descriptorIndex := 6, attributes := #[] }, { accessFlags := 16409, nameIndex := 36, descriptorIndex := 6, attributes := #[] }, { accessFlags := 16409, nameIndex := 39, descriptorIndex := 6, attributes := #[] }, { accessFlags := 16409, nameIndex := 42, descriptorIndex := 6, attributes := #[] }, { accessFlags := 16409, nameIndex := 45, descriptorIndex := 6, attributes := #[] }, { accessFlags := 18, nameIndex := 67, descriptorIndex := 68, attributes := #[] }, { accessFlags := 18, nameIndex := 71, descriptorIndex := 72, attributes := #[] }, { accessFlags := 4122, nameIndex := 48, descriptorIndex := 49, attributes := #[] }])
  fields := #[{ name := "TEXT", type := (.object "com/example/davka/davka/FieldKind"), accessFlags := 16409, slot := 0, constantValue := 0 }, { name := "REQUIRED_TEXT", type := (.object "com/example/davka/davka/FieldKind"), accessFlags := 16409, slot := 1, constantValue := 0 }, { name := "PRIORITY", type := (.object "com/example/davka/davka/FieldKind"), accessFlags := 16409, slot := 2, constantValue := 0 }, { name := "DIGITS", type := (.object "com/example/davka/davka/FieldKind"), accessFlags := 16409, slot := 3, constantValue := 0 }, { name := "NUMBER", type := (.object "com/example/davka/davka/FieldKind"), accessFlags := 16409, slot := 4, constantValue := 0 }, { name := "SYMBOL", type := (.object "com/example/davka/davka/FieldKind"), accessFlags := 16409, slot := 5, constantValue := 0 }, { name := "ACCOUNT", type := (.object "com/example/davka/davka/FieldKind"), accessFlags := 16409, slot := 6, constantValue := 0 }, { name := "OPTIONAL_ACCOUNT", type := (.object "com/example/davka/davka/FieldKind"), accessFlags := 16409, slot := 7, constantValue := 0 }, { name := "BANK_CODE", type := (.object "com/example/davka/davka/FieldKind"), accessFlags := 16409, slot := 8, constantValue := 0 }, { name := "ACCOUNTING_CODE", type := (.object "com/example/davka/davka/FieldKind"), accessFlags := 16409, slot := 9, constantValue := 0 }, { name := "AMOUNT", type := (.object "com/example/davka/davka/FieldKind"), accessFlags := 16409, slot := 10, constantValue := 0 }, { name := "SIGNED_AMOUNT", type := (.object "com/example/davka/davka/FieldKind"), accessFlags := 16409, slot := 11, constantValue := 0 }, { name := "DATE", type := (.object "com/example/davka/davka/FieldKind"), accessFlags := 16409, slot := 12, constantValue := 0 }, { name := "SHORT_DATE", type := (.object "com/example/davka/davka/FieldKind"), accessFlags := 16409, slot := 13, constantValue := 0 }, { name := "width", type := .int, accessFlags := 18, slot := 3, constantValue := 0 }, { name := "type", type := (.object "java/lang/Class"), accessFlags := 18, slot := 4, constantValue := 0 }, { name := "$VALUES", type := (.array (.object "com/example/davka/davka/FieldKind")), accessFlags := 4122, slot := 14, constantValue := 0 }]
  methods := #[k6m0]
  instanceTypes := #[(.object "java/lang/String"), .int, .int, .int, (.object "java/lang/Class")]
  staticTypes := #[(.object "com/example/davka/davka/FieldKind"), (.object "com/example/davka/davka/FieldKind"), (.object "com/example/davka/davka/FieldKind"), (.object "com/example/davka/davka/FieldKind"), (.object "com/example/davka/davka/FieldKind"), (.object "com/example/davka/davka/FieldKind"), (.object "com/example/davka/davka/FieldKind"), (.object "com/example/davka/davka/FieldKind"), (.object "com/example/davka/davka/FieldKind"), (.object "com/example/davka/davka/FieldKind"), (.object "com/example/davka/davka/FieldKind"), (.object "com/example/davka/davka/FieldKind"), (.object "com/example/davka/davka/FieldKind"), (.object "com/example/davka/davka/FieldKind"), (.array (.object "com/example/davka/davka/FieldKind"))]
  resolved := Array.replicate 437 none
  statics := some 0 }

def pool7 : Array CpInfo := pool [(2, .class_ 4), (1, u "com/example/davka/davka/FieldKind"), (69, .class_ 75), (0, u "com/example/davka/davka/FieldKind$1")] 31

/-- com/example/davka/davka/FieldKind$1 -/
def k7 : Class := { plain "com/example/davka/davka/FieldKind$1" (some 6) with
  accessFlags := 16432
  interfaces := #[]
  cf := some (fileOf pool7 74 #[.nestHost 2] #[] 16432 2 #[] #[])
  fields := #[]
  methods := #[]
  instanceTypes := #[(.object "java/lang/String"), .int, .int, .int, (.object "java/lang/Class")]
  staticTypes := #[]
  resolved := Array.replicate 107 none
  statics := none }

def pool8 : Array CpInfo := pool [(2, .class_ 4), (1, u "com/example/davka/davka/FieldKind"), (19, .class_ 26), (1, u "com/example/davka/davka/FieldKind$2")] 45

/-- com/example/davka/davka/FieldKind$2 -/
def k8 : Class := { plain "com/example/davka/davka/FieldKind$2" (some 6) with
  accessFlags := 16432
  interfaces := #[]
  cf := some (fileOf pool8 24 #[.nestHost 2] #[] 16432 2 #[] #[])
  fields := #[]
  methods := #[]
  instanceTypes := #[(.object "java/lang/String"), .int, .int, .int, (.object "java/lang/Class")]
  staticTypes := #[]
  resolved := Array.replicate 72 none
  statics := none }

def pool9 : Array CpInfo := pool [(2, .class_ 4), (1, u "com/example/davka/davka/FieldKind"), (27, .class_ 34), (1, u "com/example/davka/davka/FieldKind$3")] 45

/-- com/example/davka/davka/FieldKind$3 -/
def k9 : Class := { plain "com/example/davka/davka/FieldKind$3" (some 6) with
  accessFlags := 16432
  interfaces := #[]
  cf := some (fileOf pool9 32 #[.nestHost 2] #[] 16432 2 #[] #[])
  fields := #[]
  methods := #[]
  instanceTypes := #[(.object "java/lang/String"), .int, .int, .int, (.object "java/lang/Class")]
  staticTypes := #[]
  resolved := Array.replicate 80 none
  statics := none }

def pool10 : Array CpInfo := pool [(2, .class_ 4), (1, u "com/example/davka/davka/FieldKind"), (16, .class_ 22), (0, u "com/example/davka/davka/FieldKind$4")] 14

/-- com/example/davka/davka/FieldKind$4 -/
def k10 : Class := { plain "com/example/davka/davka/FieldKind$4" (some 6) with
  accessFlags := 16432
  interfaces := #[]
  cf := some (fileOf pool10 21 #[.nestHost 2] #[] 16432 2 #[] #[])
  fields := #[]
  methods := #[]
  instanceTypes := #[(.object "java/lang/String"), .int, .int, .int, (.object "java/lang/Class")]
  staticTypes := #[]
  resolved := Array.replicate 37 none
  statics := none }

def pool11 : Array CpInfo := pool [(2, .class_ 4), (1, u "com/example/davka/davka/FieldKind"), (23, .class_ 29), (0, u "com/example/davka/davka/FieldKind$5")] 15

/-- com/example/davka/davka/FieldKind$5 -/
def k11 : Class := { plain "com/example/davka/davka/FieldKind$5" (some 6) with
  accessFlags := 16432
  interfaces := #[]
  cf := some (fileOf pool11 28 #[.nestHost 2] #[] 16432 2 #[] #[])
  fields := #[]
  methods := #[]
  instanceTypes := #[(.object "java/lang/String"), .int, .int, .int, (.object "java/lang/Class")]
  staticTypes := #[]
  resolved := Array.replicate 45 none
  statics := none }

def pool12 : Array CpInfo := pool [(2, .class_ 4), (1, u "com/example/davka/davka/FieldKind"), (20, .class_ 26), (0, u "com/example/davka/davka/FieldKind$6")] 14

/-- com/example/davka/davka/FieldKind$6 -/
def k12 : Class := { plain "com/example/davka/davka/FieldKind$6" (some 6) with
  accessFlags := 16432
  interfaces := #[]
  cf := some (fileOf pool12 25 #[.nestHost 2] #[] 16432 2 #[] #[])
  fields := #[]
  methods := #[]
  instanceTypes := #[(.object "java/lang/String"), .int, .int, .int, (.object "java/lang/Class")]
  staticTypes := #[]
  resolved := Array.replicate 41 none
  statics := none }

def pool13 : Array CpInfo := pool [(2, .class_ 4), (1, u "com/example/davka/davka/FieldKind"), (56, .class_ 62), (0, u "com/example/davka/davka/FieldKind$7")] 14

/-- com/example/davka/davka/FieldKind$7 -/
def k13 : Class := { plain "com/example/davka/davka/FieldKind$7" (some 6) with
  accessFlags := 16432
  interfaces := #[]
  cf := some (fileOf pool13 61 #[.nestHost 2] #[] 16432 2 #[] #[])
  fields := #[]
  methods := #[]
  instanceTypes := #[(.object "java/lang/String"), .int, .int, .int, (.object "java/lang/Class")]
  staticTypes := #[]
  resolved := Array.replicate 77 none
  statics := none }

def pool14 : Array CpInfo := pool [(2, .class_ 4), (1, u "com/example/davka/davka/FieldKind"), (3, .class_ 10), (1, u "com/example/davka/davka/FieldKind$8")] 30

/-- com/example/davka/davka/FieldKind$8 -/
def k14 : Class := { plain "com/example/davka/davka/FieldKind$8" (some 6) with
  accessFlags := 16432
  interfaces := #[]
  cf := some (fileOf pool14 8 #[.nestHost 2] #[] 16432 2 #[] #[])
  fields := #[]
  methods := #[]
  instanceTypes := #[(.object "java/lang/String"), .int, .int, .int, (.object "java/lang/Class")]
  staticTypes := #[]
  resolved := Array.replicate 41 none
  statics := none }

def pool15 : Array CpInfo := pool [(2, .class_ 4), (1, u "com/example/davka/davka/FieldKind"), (20, .class_ 26), (0, u "com/example/davka/davka/FieldKind$9")] 17

/-- com/example/davka/davka/FieldKind$9 -/
def k15 : Class := { plain "com/example/davka/davka/FieldKind$9" (some 6) with
  accessFlags := 16432
  interfaces := #[]
  cf := some (fileOf pool15 25 #[.nestHost 2] #[] 16432 2 #[] #[])
  fields := #[]
  methods := #[]
  instanceTypes := #[(.object "java/lang/String"), .int, .int, .int, (.object "java/lang/Class")]
  staticTypes := #[]
  resolved := Array.replicate 44 none
  statics := none }

def pool16 : Array CpInfo := pool [(2, .class_ 4), (1, u "com/example/davka/davka/FieldKind"), (22, .class_ 28), (0, u "com/example/davka/davka/FieldKind$10")] 15

/-- com/example/davka/davka/FieldKind$10 -/
def k16 : Class := { plain "com/example/davka/davka/FieldKind$10" (some 6) with
  accessFlags := 16432
  interfaces := #[]
  cf := some (fileOf pool16 27 #[.nestHost 2] #[] 16432 2 #[] #[])
  fields := #[]
  methods := #[]
  instanceTypes := #[(.object "java/lang/String"), .int, .int, .int, (.object "java/lang/Class")]
  staticTypes := #[]
  resolved := Array.replicate 44 none
  statics := none }

def pool17 : Array CpInfo := pool [(2, .class_ 4), (1, u "com/example/davka/davka/FieldKind"), (17, .class_ 24), (1, u "com/example/davka/davka/FieldKind$11")] 80

/-- com/example/davka/davka/FieldKind$11 -/
def k17 : Class := { plain "com/example/davka/davka/FieldKind$11" (some 6) with
  accessFlags := 16432
  interfaces := #[]
  cf := some (fileOf pool17 22 #[.nestHost 2] #[] 16432 2 #[] #[])
  fields := #[]
  methods := #[]
  instanceTypes := #[(.object "java/lang/String"), .int, .int, .int, (.object "java/lang/Class")]
  staticTypes := #[]
  resolved := Array.replicate 105 none
  statics := none }

def pool18 : Array CpInfo := pool [(2, .class_ 4), (1, u "com/example/davka/davka/FieldKind"), (13, .class_ 20), (1, u "com/example/davka/davka/FieldKind$12")] 71

/-- com/example/davka/davka/FieldKind$12 -/
def k18 : Class := { plain "com/example/davka/davka/FieldKind$12" (some 6) with
  accessFlags := 16432
  interfaces := #[]
  cf := some (fileOf pool18 18 #[.nestHost 2] #[] 16432 2 #[] #[])
  fields := #[]
  methods := #[]
  instanceTypes := #[(.object "java/lang/String"), .int, .int, .int, (.object "java/lang/Class")]
  staticTypes := #[]
  resolved := Array.replicate 92 none
  statics := none }

def pool19 : Array CpInfo := pool [(2, .class_ 4), (1, u "com/example/davka/davka/FieldKind"), (34, .class_ 40), (0, u "com/example/davka/davka/FieldKind$13")] 15

/-- com/example/davka/davka/FieldKind$13 -/
def k19 : Class := { plain "com/example/davka/davka/FieldKind$13" (some 6) with
  accessFlags := 16432
  interfaces := #[]
  cf := some (fileOf pool19 39 #[.nestHost 2] #[] 16432 2 #[] #[])
  fields := #[]
  methods := #[]
  instanceTypes := #[(.object "java/lang/String"), .int, .int, .int, (.object "java/lang/Class")]
  staticTypes := #[]
  resolved := Array.replicate 56 none
  statics := none }

def pool20 : Array CpInfo := pool [(2, .class_ 4), (1, u "com/example/davka/davka/FieldKind"), (49, .class_ 55), (0, u "com/example/davka/davka/FieldKind$14")] 28

/-- com/example/davka/davka/FieldKind$14 -/
def k20 : Class := { plain "com/example/davka/davka/FieldKind$14" (some 6) with
  accessFlags := 16432
  interfaces := #[]
  cf := some (fileOf pool20 54 #[.nestHost 2] #[] 16432 2 #[] #[])
  fields := #[]
  methods := #[]
  instanceTypes := #[(.object "java/lang/String"), .int, .int, .int, (.object "java/lang/Class")]
  staticTypes := #[]
  resolved := Array.replicate 84 none
  statics := none }

def pool21 : Array CpInfo := pool [(1, u "java/lang/Cloneable"), (0, .class_ 1), (0, u "java/lang/Object"), (0, .class_ 3)] 3

/-- java/lang/Cloneable -/
def k21 : Class := { plain "java/lang/Cloneable" (some 0) with
  accessFlags := 1537
  interfaces := #[]
  cf := some (fileOf pool21 2 #[] #[] 1537 4 #[] #[])
  fields := #[]
  methods := #[]
  instanceTypes := #[]
  staticTypes := #[]
  resolved := Array.replicate 8 none
  statics := none }

/-- the primitive byte -/
def k22 : Class := { plain "byte" none with kind := .primitive 'B', accessFlags := 0x411 }
/-- [B -/
def k23 : Class := { plain "[B" (some 0) with kind := .array 22 .byte, interfaces := #[21, 4], accessFlags := 1041 }

/-- the primitive int -/
def k24 : Class := { plain "int" none with kind := .primitive 'I', accessFlags := 0x411 }
/-- [I -/
def k25 : Class := { plain "[I" (some 0) with kind := .array 24 .int, interfaces := #[21, 4], accessFlags := 1041 }

/-- [Lcom/example/davka/davka/FieldKind; -/
def k26 : Class := { plain "[Lcom/example/davka/davka/FieldKind;" (some 0) with kind := .array 6 (.object "com/example/davka/davka/FieldKind"), interfaces := #[21, 4], accessFlags := 1041 }

def heap : Heap := #[{ cls := 6, slots := #[.ref 1, .ref 2, .ref 3, .ref 4, .ref 5, .ref 6, .ref 7, .ref 8, .ref 9, .ref 10, .ref 11, .ref 12, .ref 13, .ref 14, .null], vm := .statics 6 },
  { cls := 7, slots := #[.null, .int 0, .int 0, .int 0, .null], vm := .none },
  { cls := 8, slots := #[.null, .int 1, .int 0, .int 0, .null], vm := .none },
  { cls := 9, slots := #[.null, .int 2, .int 0, .int 0, .null], vm := .none },
  { cls := 10, slots := #[.null, .int 3, .int 0, .int 0, .null], vm := .none },
  { cls := 11, slots := #[.null, .int 4, .int 0, .int 0, .null], vm := .none },
  { cls := 12, slots := #[.null, .int 5, .int 0, .int 0, .null], vm := .none },
  { cls := 13, slots := #[.null, .int 6, .int 0, .int 16, .null], vm := .none },
  { cls := 14, slots := #[.null, .int 7, .int 0, .int 16, .null], vm := .none },
  { cls := 15, slots := #[.null, .int 8, .int 0, .int 7, .null], vm := .none },
  { cls := 16, slots := #[.null, .int 9, .int 0, .int 1, .null], vm := .none },
  { cls := 17, slots := #[.null, .int 10, .int 0, .int 0, .null], vm := .none },
  { cls := 18, slots := #[.null, .int 11, .int 0, .int 0, .null], vm := .none },
  { cls := 19, slots := #[.null, .int 12, .int 0, .int 8, .null], vm := .none },
  { cls := 20, slots := #[.null, .int 13, .int 0, .int 6, .null], vm := .none }]
def classes : Array Class := #[k0, k1, k2, k3, k4, k5, k6, k7, k8, k9, k10, k11, k12, k13, k14, k15, k16, k17, k18, k19, k20, k21, k22, k23, k24, k25, k26]
def interned : List (Array UInt16 × Addr) := []
def slotsUsed : Nat := 85
def theMethod : MethodId := ⟨1, 1⟩
def args0 : Array Value := #[.int 5, .int 7, .int 3]
def aboutOver (below : List Frame) : State where
  vm := { classes := classes, interned := interned.toArray }
  heap := heap
  slotsUsed := slotsUsed
  threads := #[{ frames := .invoking theMethod args0 :: below }]
def below0 : List Frame := [.native { method := ⟨0, 0⟩, args := #[] }]
def about1 : State := aboutOver below0
def p0 : Program := .bare "" "" ""
def e0 : Env := launch0.env 0 0 0
theorem w_frames : about1.frames = Frame.invoking theMethod args0 :: below0 := rfl
set_option maxRecDepth 65536 in
theorem w_args : argsFit about1.vm theMethod args0 = true := by decide +kernel
set_option maxRecDepth 65536 in
theorem w_heap : heapFits about1 = true := by decide +kernel
set_option maxRecDepth 65536 in
theorem w_runnable : about1.curStatus? = some .runnable := by decide +kernel
set_option maxRecDepth 65536 in
theorem w_alone : about1.alone = true := by decide +kernel
set_option maxRecDepth 65536 in
theorem w_named : about1.methodNamed? x = some theMethod := by decide +kernel
set_option maxRecDepth 65536 in
theorem w_hears : about1.hears theMethod below0 = true := by decide +kernel
set_option maxRecDepth 65536 in
theorem w_ripe : about1.ripe theMethod args0 below0 = true := by decide +kernel
theorem w_running : about1.status = .running := rfl
set_option maxRecDepth 65536 in
theorem w_room : about1.hasRoom e0.platform room_1 = true :=
  launch0.hasRoom_least _ room_1 (by decide +kernel) (by decide +kernel) (by decide +kernel) (by decide +kernel) (by decide +kernel) (by decide +kernel)
theorem allAtoms_all (ts : List Jvm.Cond) (a : Array Jvm.Value) (st : Jvm.State) : (allAtoms ts).before a st = ts.all (fun c => c.before a st) := by
  induction ts with
  | nil => rfl
  | cons c t ih =>
    show (Jvm.Cond.and c (allAtoms t)).before a st = _
    rw [Jvm.Cond.before_and, ih, List.all_cons]
def words1 : List Jvm.Cond := Jvm.Cond.code x code maxLocals ret :: tables_1
/-- a 'code' word, met by the world's own term for the bytes: nothing is compared byte by byte -/
theorem code_word {y : MethodName} {bytes : ByteArray} {mx : Nat} {rt : Option FieldType} {a : Array Value} {s : State} {m : MethodId} {meth : Method} {c : Code} (h1 : s.methodNamed? y = some m) (h2 : s.vm.method? m = some meth) (h3 : meth.code = some c) (h4 : c.code = bytes)
    (h5 : (c.maxLocals == mx && c.exceptionTable.isEmpty && decide (c.maxStack ≤ mostOperands) && decide (meth.sig.returnType = rt) && !meth.locks && decide (parseMethodDescriptor y.desc = some meth.sig)) = true) : (Jvm.Cond.code y bytes mx rt).before a s = true := by
  simp only [Bool.and_eq_true, beq_iff_eq, Bool.not_eq_true', decide_eq_true_eq] at h5
  obtain ⟨⟨⟨⟨⟨g1, g2⟩, g3⟩, g4⟩, g5⟩, g6⟩ := h5
  simp [Cond.before, Cond.holds, Cond.value, h1, h2, h3, h4, g1, g2, g3, g4, g5, g6]
def isCode : Jvm.Cond → Bool
  | .code _ _ _ _ => true
  | _ => false
theorem all_split {L : List Jvm.Cond} {P : Jvm.Cond → Bool} (h1 : L.all (fun c => isCode c || P c) = true) (h2 : ∀ c ∈ L.filter isCode, P c = true) : L.all P = true := by
  refine List.all_eq_true.mpr fun c hc => ?_
  have h := List.all_eq_true.mp h1 c hc
  rcases Bool.eq_false_or_eq_true (isCode c) with hi | hi
  · exact h2 c (List.mem_filter.mpr ⟨hc, hi⟩)
  · simpa [hi] using h
set_option maxRecDepth 65536 in
theorem w_c0 : (Jvm.Cond.code x code maxLocals ret).before args0 about1 = true := code_word (m := ⟨1, 1⟩) (meth := k1m1) (c := k1c1) (by decide +kernel) rfl rfl rfl (by decide +kernel)
set_option maxRecDepth 65536 in
theorem w_c1 : (Jvm.Cond.code ({ cls := "com/example/davka/davka/FieldKind", name := "fits", desc := "(I)Z" } : Jvm.MethodName) prog_37_method_6_code (2 : Nat) (Option.some Jvm.ClassFile.FieldType.boolean)).before args0 about1 = true := code_word (m := ⟨6, 0⟩) (meth := k6m0) (c := k6c0) (by decide +kernel) rfl rfl rfl (by decide +kernel)
def codes1 : List Jvm.Cond := [Jvm.Cond.code x code maxLocals ret, Jvm.Cond.code ({ cls := "com/example/davka/davka/FieldKind", name := "fits", desc := "(I)Z" } : Jvm.MethodName) prog_37_method_6_code (2 : Nat) (Option.some Jvm.ClassFile.FieldType.boolean)]
set_option maxRecDepth 65536 in
theorem codes_eq : words1.filter isCode = codes1 := rfl
theorem w_codes : ∀ c ∈ words1.filter isCode, c.before args0 about1 = true := by
  rw [codes_eq]
  intro c hc
  simp only [codes1, List.mem_cons, List.not_mem_nil, or_false] at hc
  rcases hc with rfl | rfl
  · exact w_c0
  · exact w_c1
set_option maxRecDepth 65536 in
theorem w_t1 : (words1.take 24).all (fun c => isCode c || c.before args0 about1) = true := by decide +kernel
set_option maxRecDepth 65536 in
theorem w_t2 : ((words1.drop 24).take 24).all (fun c => isCode c || c.before args0 about1) = true := by decide +kernel
set_option maxRecDepth 65536 in
theorem w_t3 : (((words1.drop 24).drop 24).take 24).all (fun c => isCode c || c.before args0 about1) = true := by decide +kernel
set_option maxRecDepth 65536 in
theorem w_t4 : (((words1.drop 24).drop 24).drop 24).all (fun c => isCode c || c.before args0 about1) = true := by decide +kernel
theorem w_tables : (allAtoms (Jvm.Cond.code x code maxLocals ret :: tables_1)).before args0 about1 = true := by
  rw [allAtoms_all]
  show words1.all (fun c => c.before args0 about1) = true
  refine all_split ?_ w_codes
  rw [← List.take_append_drop 24 words1, List.all_append, w_t1, ← List.take_append_drop 24 (words1.drop 24), List.all_append, w_t2, ← List.take_append_drop 24 ((words1.drop 24).drop 24), List.all_append, w_t3, w_t4]
  rfl
set_option maxRecDepth 65536 in
theorem w_case : (Jvm.Cond.and given_1 narrow_1).before args0 about1 = true := by decide +kernel
theorem w_applies : (headSpec (Jvm.Cond.code x code maxLocals ret :: tables_1) room_1).applies x e0.platform about1 = true :=
  (Spec.applies_iff w_frames).mpr ⟨w_running, w_runnable, w_alone, w_named, w_hears, w_ripe, w_room, w_tables⟩
theorem atStart : AtStart classFile x code maxLocals ret World_1 tables_1 room_1 Calls_1 rest_1 Pre_1 launch0 p0 e0 about1 theMethod args0 below0 :=
  ⟨lists_1, trivial, launch0.admits_env _ _ _, launch0.least_env, fairChoices_fair.cas, fairChoices_fair.clock, w_frames, w_args, w_heap, w_applies, trivial, trivial, w_case⟩
end start1
theorem witness_1 : WitnessClaimed_1 := ⟨start1.p0, start1.e0, start1.about1, start1.theMethod, start1.args0, start1.below0, start1.atStart⟩
end Jvm.Pilot.@@N@@
