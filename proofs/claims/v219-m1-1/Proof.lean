import JvmDerived
import JvmDerived.Pilot.@@N@@Statement
import JvmDerived.Pilot.@@N@@Code
set_option linter.unusedVariables false
set_option linter.unusedSimpArgs false
@@BLOCK:SetKit.lean.txt@@
namespace Jvm.Pilot.@@N@@
open Jvm Jvm.ClassFile Sem Op Lib Jvm.Free Jvm.Stand Jvm.LawKit Jvm.RoadKit Bundle Jvm.Pilot.@@N@@.Jvm.D
section Own
variable {p : Program} {l : Launch} {e : Env} {R : Room} {s : State} {m : MethodId} {args : Array Value} {below : List Frame} {meth : Method} {c : Code} {T : State} {locs : List Loc} {cells slots : Nat} {Z : State} {a0 : Array Value} {h h' : Heap}
/-- the walk's goal: from S the method comes back with what Q says -/
def own_G (p : Program) (e : Env) (s : State) (below : List Frame) (Q : Option Value → Heap → List Loc → Prop) (kc ks : Nat) (S : State) : Prop :=
  ∃ s₂ o, Steps p.tables e below S s₂ ∧ s₂.status = .running ∧ Ended s₂ below o ∧ ∃ v L, o = .returned v ∧ Q v s₂.heap L ∧ FrameEnd s o s₂ L kc ks
theorem own_go {Q : Option Value → Heap → List Loc → Prop} {kc ks : Nat} {S S' : State} (k : ∀ t, Steps p.tables e below S' t → Steps p.tables e below S t) (g : own_G p e s below Q kc ks S') : own_G p e s below Q kc ks S := by
  obtain ⟨s2, o, h1, h2⟩ := g
  exact ⟨s2, o, k _ h1, h2⟩
theorem own_retI {Q : Option Value → Heap → List Loc → Prop} {kc ks : Nat} (X : Stand p l e R s m args below meth c T locs cells slots) (hx : p.tables.exec = Jvm.exec) (hlk : meth.locks = false) (hret : meth.sig.returnType = some .int) {pc : Nat} {Ls : Array Slot} {z : Int32} {rest : List Value} (hd : decode c.code pc = .ok (.ireturn, 1)) (hc : cells ≤ kc) (hs : slots ≤ ks) (hQ : Q (some (.int z)) T.heap locs) :
    own_G p e s below Q kc ks (T.setTop (mkF m pc Ls (.int z :: rest))) := by
  obtain ⟨fs, hr, hrun, hended, hW, hsame⟩ := X.leave (v := some (.int z)) (fun h => by rw [hret] at h; cases h) hlk
  exact ⟨_, _, retOut X hx hret rfl (Or.inl ⟨rfl, Or.inl rfl, z, rfl⟩) hd hr, hrun, hended, _, _, rfl, hQ, ⟨_, rfl⟩, hW, hsame.mono hc hs⟩
theorem own_retN {Q : Option Value → Heap → List Loc → Prop} {kc ks : Nat} (X : Stand p l e R s m args below meth c T locs cells slots) (hx : p.tables.exec = Jvm.exec) (hlk : meth.locks = false) {t : FieldType} (hret : meth.sig.returnType = some t) (ht : t = .boolean ∨ t = .byte ∨ t = .char ∨ t = .short) {pc : Nat} {Ls : Array Slot} {z : Int32} {rest : List Value} (hd : decode c.code pc = .ok (.ireturn, 1)) (hc : cells ≤ kc) (hs : slots ≤ ks) (hQ : Q (some (.int (nar t z))) T.heap locs) :
    own_G p e s below Q kc ks (T.setTop (mkF m pc Ls (.int z :: rest))) := by
  obtain ⟨fs, hr, hrun, hended, hW, hsame⟩ := X.leave (v := some (.int (nar t z))) (fun h => by rw [hret] at h; cases h) hlk
  exact ⟨_, _, retN X hx hret ht hd hr, hrun, hended, _, _, rfl, hQ, ⟨_, rfl⟩, hW, hsame.mono hc hs⟩
theorem own_retA {Q : Option Value → Heap → List Loc → Prop} {kc ks : Nat} (X : Stand p l e R s m args below meth c T locs cells slots) (hx : p.tables.exec = Jvm.exec) (hlk : meth.locks = false) {t : FieldType} (hret : meth.sig.returnType = some t) (ht : t.isReference = true) {pc : Nat} {Ls : Array Slot} {w : Value} (hv : w.isRef = true) {rest : List Value} (hd : decode c.code pc = .ok (.areturn, 1)) (hc : cells ≤ kc) (hs : slots ≤ ks) (hQ : Q (some w) T.heap locs) :
    own_G p e s below Q kc ks (T.setTop (mkF m pc Ls (w :: rest))) := by
  obtain ⟨fs, hr, hrun, hended, hW, hsame⟩ := X.leave (v := some w) (fun h => by rw [hret] at h; cases h) hlk
  have hn : narrow t w = w := by rcases ref_cases hv with rfl | ⟨z, rfl⟩ <;> cases t <;> rfl
  exact ⟨_, _, retOut X hx hret hn (Or.inr (Or.inr (Or.inr (Or.inr ⟨rfl, ht, hv⟩)))) hd hr, hrun, hended, _, _, rfl, hQ, ⟨_, rfl⟩, hW, hsame.mono hc hs⟩
theorem own_retJ {Q : Option Value → Heap → List Loc → Prop} {kc ks : Nat} (X : Stand p l e R s m args below meth c T locs cells slots) (hx : p.tables.exec = Jvm.exec) (hlk : meth.locks = false) (hret : meth.sig.returnType = some .long) {pc : Nat} {Ls : Array Slot} {z : Int64} {rest : List Value} (hd : decode c.code pc = .ok (.lreturn, 1)) (hc : cells ≤ kc) (hs : slots ≤ ks) (hQ : Q (some (.long z)) T.heap locs) :
    own_G p e s below Q kc ks (T.setTop (mkF m pc Ls (.long z :: rest))) := by
  obtain ⟨fs, hr, hrun, hended, hW, hsame⟩ := X.leave (v := some (.long z)) (fun h => by rw [hret] at h; cases h) hlk
  exact ⟨_, _, retOut X hx hret rfl (Or.inr (Or.inl ⟨rfl, rfl, z, rfl⟩)) hd hr, hrun, hended, _, _, rfl, hQ, ⟨_, rfl⟩, hW, hsame.mono hc hs⟩
theorem own_retV {Q : Option Value → Heap → List Loc → Prop} {kc ks : Nat} (X : Stand p l e R s m args below meth c T locs cells slots) (hx : p.tables.exec = Jvm.exec) (hlk : meth.locks = false) (hret : meth.sig.returnType = none) {pc : Nat} {Ls : Array Slot} (hd : decode c.code pc = .ok (.return_, 1)) (hc : cells ≤ kc) (hs : slots ≤ ks) (hQ : Q none T.heap locs) :
    own_G p e s below Q kc ks (T.setTop (mkF m pc Ls [])) := by
  obtain ⟨fs, hr, hrun, hended, hW, hsame⟩ := X.leave (v := none) (fun _ => rfl) hlk
  exact ⟨_, _, X.returnOut hx hret hd hr, hrun, hended, _, _, rfl, hQ, ⟨_, rfl⟩, hW, hsame.mono hc hs⟩
theorem own_osz {n0 : Nat} (O : Old Z n0 h) : n0 ≤ h.size := O.1 ▸ O.2.1
end Own
section Own2
variable {Z : State} {h h' : Heap} {a b : Addr} {k : ClassId} {ty : FieldType} {vs : List Value} {sl : Nat} {v w : Value} {ws : List Addr} {c : Cell} {j : Int32}
/-- an array and what it holds -/
def own_Ar (Z : State) (h : Heap) (a : Addr) (k : ClassId) (ty : FieldType) (vs : List Value) : Prop := ∃ c : Cell, Arr Z h a c ty ∧ c.cls = k ∧ c.slots = vs.toArray ∧ vs.length < 2 ^ 31
theorem own_Ar.lt (F : own_Ar Z h a k ty vs) : a < h.size := by obtain ⟨c, A, -⟩ := F; exact A.lt
theorem own_Ar.ext (F : own_Ar Z h a k ty vs) (E : Ext h h') : own_Ar Z h' a k ty vs := by obtain ⟨c, A, r⟩ := F; exact ⟨c, A.ext E, r⟩
theorem own_Ar.other (F : own_Ar Z h b k ty vs) (W : Wr h h' a sl v) (q : b ≠ a) : own_Ar Z h' b k ty vs := by obtain ⟨c, A, r⟩ := F; exact ⟨c, A.other W q, r⟩
theorem own_Ar.keep (F : own_Ar Z h a k ty vs) (K : Keep h h' ws) (q : a ∉ ws) : own_Ar Z h' a k ty vs := by obtain ⟨c, A, r⟩ := F; exact ⟨c, ⟨K.2.1 a c A.1 q, A.2⟩, r⟩
theorem own_Ar.at (F : own_Ar Z h a k ty vs) (hj : ¬ j < 0) (hv : vs[j.toNatClampNeg]? = some v) : ∃ c : Cell, Arr Z h a c ty ∧ c.cls = k ∧ c.slots = vs.toArray ∧ ¬ (j < 0 ∨ c.slots.size ≤ j.toNatClampNeg) ∧ c.slots[j.toNatClampNeg]? = some v := by
  obtain ⟨c, A, q, e, r⟩ := F
  have hl := (List.getElem?_eq_some_iff.mp hv).1
  refine ⟨c, A, q, e, ?_, ?_⟩
  · rintro (q | q)
    · exact hj q
    · rw [e] at q; simp at q; omega
  · rw [e]; simpa using hv
theorem own_Ar.set (A : Arr Z h a c ty) (q : c.cls = k) (e : c.slots = vs.toArray) (hl : vs.length < 2 ^ 31) {i : Nat} (W : Wr h h' a i v) : own_Ar Z h' a k ty (vs.set i v) := by
  refine ⟨c.setSlot i v, A.same W, q, ?_, by simpa using hl⟩
  show (c.slots.setIfInBounds i v) = _
  rw [e]; simp
theorem own_Ar.small (F : own_Ar Z h a k ty vs) : vs.length < 2 ^ 31 := F.choose_spec.2.2.2
theorem own_Ar.len (F : own_Ar Z h a k ty vs) : ∃ c : Cell, Arr Z h a c ty ∧ c.slots.size.toInt32 = Int32.ofNat vs.length := by
  obtain ⟨c, A, q, e, r⟩ := F
  exact ⟨c, A, by rw [e]; simp⟩
theorem own_Ar.new {n : Int32} (A : Arr Z h a (newA k ty n) ty) (q : ¬ n < 0) : own_Ar Z h a k ty (List.replicate n.toNatClampNeg (defaultValue ty)) :=
  ⟨_, A, rfl, by simp [newA], by rw [List.length_replicate]; exact (back32 q).2⟩
theorem own_nat {n : Nat} (hn : n < 2 ^ 31) : (Int32.ofNat n).toInt = n := Int32.toInt_ofNat_of_lt hn
theorem own_clamp {n : Nat} (hn : n < 2 ^ 31) : (Int32.ofNat n).toNatClampNeg = n := by
  show (Int32.ofNat n).toInt.toNat = n
  rw [own_nat hn]; simp
theorem own_pos {n : Nat} (hn : n < 2 ^ 31) : ¬ Int32.ofNat n < 0 := by
  rw [Int32.lt_iff_toInt_lt, own_nat hn]; simp
theorem own_lt {a b : Nat} (ha : a < 2 ^ 31) (hb : b < 2 ^ 31) : Int32.ofNat a < Int32.ofNat b ↔ a < b := by
  rw [Int32.lt_iff_toInt_lt, own_nat ha, own_nat hb]; omega
theorem own_succ (a : Nat) : Int32.ofNat a + 1 = Int32.ofNat (a + 1) := by rw [Int32.ofNat_add]; rfl
theorem own_eqN {a b : Nat} (ha : a < 2 ^ 31) (hb : b < 2 ^ 31) : Int32.ofNat a = Int32.ofNat b ↔ a = b := by
  rw [← Int32.toInt_inj, own_nat ha, own_nat hb]; omega
theorem own_eqI {args : Array Value} {first s : State} {o : Option Outcome} {idx : List Nat} {a : Term} {n : Int32} (h : (Cond.eq a (.int n)).value args first o s idx = some true) : a.eval args first o idx s = some (.int n) := by
  simp only [Cond.value, Term.eval] at h
  cases ha : a.eval args first o idx s with
  | none => simp [ha] at h
  | some x => cases x <;> simp [ha] at h ⊢; exact h
end Own2
section Own3
variable {p : Program} {l : Launch} {e : Env} {R : Room} {s : State} {m : MethodId} {args : Array Value} {below : List Frame} {meth : Method} {c : Code} {T : State} {locs : List Loc} {cells slots : Nat} {Z : State} {a0 : Array Value} {h : Heap} {a b : Addr} {k k' : ClassId} {ty : FieldType} {vs vd : List Value} {d : Value}
theorem own_Ar.arv (F : own_Ar Z h a k ty vs) (hf : ∀ v ∈ vs, fits ty v = true) (d : Value) : Arv Z h a k ty (Int32.ofNat vs.length) vs d := by
  obtain ⟨c, A, q, e, hl⟩ := F
  refine ⟨c, A, q, by rw [e, own_clamp hl]; simp, own_pos hl, fun i hi => ?_, fun i hi => ?_⟩
  · rw [e] at hi ⊢
    have hi' : i < vs.length := by simpa using hi
    simp [List.getD, hi']
  · rw [e] at hi
    have hi' : i < vs.length := by simpa using hi
    have : vs.getD i d = vs[i] := by simp [List.getD, hi']
    rw [this]; exact hf _ (List.getElem_mem hi')
theorem own_of_arv {z : Int32} (F : Arv Z h a k ty z vs d) (hz : z.toNatClampNeg = vs.length) : own_Ar Z h a k ty vs := by
  obtain ⟨c, A, q, S, nz, H, G⟩ := F
  refine ⟨c, A, q, ?_, by rw [← hz]; exact (back32 nz).2⟩
  apply Array.ext
  · rw [S, hz]; simp
  · intro i h1 h2
    have h3 := H i h1
    have h4 : i < vs.length := by simpa using h2
    rw [Array.getElem?_eq_getElem h1] at h3
    have : vs.getD i d = vs[i] := by simp [List.getD, h4]
    rw [this] at h3
    simpa using Option.some.inj h3
theorem own_us (vs : List Value) (dv : Value) (sp n : Nat) (hl : sp + n ≤ vs.length) : ((List.range n).map fun i => vs.getD (sp + i) dv) = (vs.drop sp).take n := by
  apply List.ext_getElem
  · simp; omega
  · intro i h1 h2
    simp at h1
    have : sp + i < vs.length := by omega
    simp [List.getD, this]
/-- System.arraycopy between two arrays of one primitive kind -/
theorem own_cp (X : Stand p l e R s m args below meth c T locs cells slots) (hx : p.tables.exec = Jvm.exec) (hZ : Z.Warmed39 s.vm) {own : String} {index : Nat} (hown : s.vm.findClass own = some m.cls)
    (w1 : (Cond.methodLink own index Jvm.Stand.acN).before a0 Z = true) (w2 : (Cond.native Jvm.Stand.acN).before a0 Z = true) (w3 : (Cond.static Jvm.Stand.acN).before a0 Z = true) (w4 : (Cond.initialized "java/lang/System").before a0 Z = true) (eT : T.heap = h)
    {sp dp nn : Int32} (A : own_Ar Z h a k ty vs) (B : own_Ar Z h b k' ty vd) (hty : refKind ty = false) (fa : ∀ v ∈ vs, fits ty v = true) (fb : ∀ v ∈ vd, fits ty v = true)
    (h1 : ¬ sp < 0) (h2 : ¬ dp < 0) (h3 : ¬ nn < 0) (h4 : sp.toNatClampNeg + nn.toNatClampNeg ≤ vs.length) (h5 : dp.toNatClampNeg + nn.toNatClampNeg ≤ vd.length) {n0 : Nat} (N : Fr n0 locs) (ge : n0 ≤ b)
    {g : JFrame} (hg : g.method = m) (hsize : g.locals.size = c.maxLocals) {rest : List Value} (hs : g.stack = .int nn :: .int dp :: .ref b :: .int sp :: .ref a :: rest) (hd : decode c.code g.pc = .ok (.invokestatic index, 3))
    (hf : 1 ≤ R.frames) {W : Nat} (hW : 2 * g.monitorRoom + (rest.map fun v => v.category).sum ≤ W) (hlo : W + (nativeFrameWords "java/lang/System" "arraycopy" 5 + 11) ≤ R.locals) :
    ∃ T' h' L, Stand p l e R s m args below meth c T' L cells slots ∧ T'.heap = h' ∧ Fr n0 L ∧ Keep h h' [b] ∧ own_Ar Z h' b k' ty (vd.take dp.toNatClampNeg ++ (vs.drop sp.toNatClampNeg).take nn.toNatClampNeg ++ vd.drop (dp.toNatClampNeg + nn.toNatClampNeg)) ∧
      ∀ target, Steps p.tables e below (T'.setTop { g with pc := g.pc + 3, stack := rest }) target → Steps p.tables e below (T.setTop g) target := by
  have ha := A.small
  have hb := B.small
  obtain ⟨T', h', L, X', e', N', K', V', st⟩ := cpA X hx hZ hown w1 w2 w3 w4 eT (A.arv fa .null) (B.arv fb .null) (Or.inl ⟨rfl, hty⟩) h1 h2 h3 (by rw [own_clamp ha]; exact h4) (by rw [own_clamp hb]; exact h5) (us := (List.range nn.toNatClampNeg).map fun i => vs.getD (sp.toNatClampNeg + i) .null) rfl h5 N ge hg hsize hs hd hf hW hlo
  refine ⟨T', h', L, X', e', N', K', ?_, st⟩
  rw [own_us _ _ _ _ h4] at V'
  exact own_of_arv V' (by rw [own_clamp hb]; simp; omega)
theorem own_selfsel {y : MethodName} {n : Nat} (hZ : Z.Warmed39 s.vm) (wi : (Cond.instantiable y.cls n).before a0 Z = true) (wp : (Cond.privateMethod y).before a0 Z = true) (wm : (Cond.instanceMethod y).before a0 Z = true) (hy : y.cls ≠ "java/lang/invoke/MethodHandle" ∧ y.cls ≠ "java/lang/invoke/VarHandle") : (Cond.selects y.cls y y).before args s = true := by
  obtain ⟨c2, k2, i1, i2, i3, i4⟩ := Cond.instantiable_spec (mvT hZ wi (args := args))
  exact selects_self_of_private i1 i2 (by have q := i4.1; simp only [Bool.or_eq_false_iff] at q; exact q.1) (Cond.privateMethod_at (mvP hZ wp (args := #[]))) (mvT hZ wm) hy
end Own3
section OwnInt
open Jvm.Free.SBG
def own_sz (x : Int32) : Nat := Jvm.Free.SBG.digits x.toInt.natAbs + GetChars.sgn x
theorem own_neg (x : Int32) : x.toInt.natAbs ≤ 2 ^ 31 ∧ (if x < 0 then x else -x) = negI x.toInt.natAbs := by
  have h1 := rng32 x
  have hb : x.toInt.natAbs ≤ 2 ^ 31 := by omega
  refine ⟨hb, Int32.toInt_inj.mp ?_⟩
  rw [negI_toInt hb]
  by_cases hx : x < 0
  · rw [if_pos hx]; rw [Int32.lt_iff_toInt_lt] at hx; simp at hx; omega
  · rw [if_neg hx]; rw [Int32.lt_iff_toInt_lt] at hx; simp at hx
    have h2 := c_ineg x
    have h3 := rng32 (-x)
    omega
theorem own_ssz (x : Int32) : strSizeOf x = Int32.ofNat (own_sz x) := strSizeOf_eq (own_neg x).1 (own_neg x).2
theorem own_szb (x : Int32) : 1 ≤ own_sz x ∧ own_sz x ≤ 11 := by
  have := Jvm.Free.SBG.digits_pos x.toInt.natAbs
  have h2 : GetChars.sgn x ≤ 1 := by unfold GetChars.sgn; split <;> omega
  unfold own_sz; omega
def own_cs (D1 D2 : Cell) (x : Int32) : List Value := (GetChars.outCell ⟨x, x.toInt.natAbs, own_sz x, 0, newA 0 .byte (Int32.ofNat (own_sz x)), 0, 0, D1, 0, D2⟩).slots.toList
theorem own_puts (A : Cell) (i : Nat) (x : Int32) : (put A i x).slots = A.slots.setIfInBounds i (.int x.toInt8.toInt32) := rfl
theorem own_dl (D1 D2 : Cell) : ∀ (f : Nat) (A A' : Cell) (n i : Nat), A.slots = A'.slots → (digLoop D1 D2 f A n i).1.slots = (digLoop D1 D2 f A' n i).1.slots ∧ (digLoop D1 D2 f A n i).2 = (digLoop D1 D2 f A' n i).2 := by
  intro f
  induction f with
  | zero => intro A A' n i h; exact ⟨h, rfl⟩
  | succ f ih =>
    intro A A' n i h
    simp only [digLoop]
    by_cases h1 : 100 ≤ n
    · rw [if_pos h1, if_pos h1]
      exact ih _ _ _ _ (by rw [own_puts, own_puts, own_puts, own_puts, h])
    · rw [if_neg h1, if_neg h1]
      by_cases h2 : 9 < n
      · rw [if_pos h2, if_pos h2]; exact ⟨by rw [own_puts, own_puts, own_puts, own_puts, h], rfl⟩
      · rw [if_neg h2, if_neg h2]; exact ⟨by rw [own_puts, own_puts, h], rfl⟩
theorem own_outs {x : Int32} {n i : Nat} {da da' : Addr} {A A' : Cell} {st st' d1 d1' d2 d2' : Addr} {D1 D2 : Cell} (h : A.slots = A'.slots) : (GetChars.outCell ⟨x, n, i, da, A, st, d1, D1, d2, D2⟩).slots = (GetChars.outCell ⟨x, n, i, da', A', st', d1', D1, d2', D2⟩).slots := by
  obtain ⟨h1, h2⟩ := own_dl D1 D2 5 A A' n i h
  unfold GetChars.outCell
  by_cases hx : x < 0
  · simp only [if_pos hx, own_puts, h1, h2]
  · simp only [if_neg hx, h1]
theorem own_outf (g : GetChars.G) : (GetChars.outCell g).cls = g.A.cls ∧ (GetChars.outCell g).vm = g.A.vm ∧ (GetChars.outCell g).slots.size = g.A.slots.size := by
  obtain ⟨h1, h2, h3, -⟩ := digLoop_facts g.D1 g.D2 5 g.A g.n g.idx
  unfold GetChars.outCell
  by_cases hx : g.x < 0
  · rw [if_pos hx]
    obtain ⟨q1, q2, q3⟩ := put_facts (digLoop g.D1 g.D2 5 g.A g.n g.idx).1 ((digLoop g.D1 g.D2 5 g.A g.n g.idx).2 - 1) 45
    exact ⟨q1.trans h1, q2.trans h2, q3.trans h3⟩
  · rw [if_neg hx]; exact ⟨h1, h2, h3⟩
theorem own_gcK {h h' : Heap} {g : GetChars.G} (hA : h[g.da]? = some g.A) (h1 : h'[g.da]? = some (GetChars.outCell g)) (h2 : h'.size = h.size) (h3 : ∀ (y : Addr) (cy : Cell), y ≠ g.da → h[y]? = some cy → h'[y]? = some cy) : Keep h h' [g.da] := by
  refine ⟨Nat.le_of_eq h2.symm, fun x c q r => h3 x c (by simpa using r) q, fun x c q => ?_⟩
  by_cases e : x = g.da
  · subst e
    cases hA.symm.trans q
    exact ⟨_, h1, own_outf g⟩
  · exact ⟨c, h3 x c e q, rfl, rfl, rfl⟩
theorem own_gcA {Z : State} {h h' : Heap} {k : ClassId} {D1 D2 : Cell} {x : Int32} {da st d1 d2 : Addr} (A : Arr Z h da (newA k .byte (Int32.ofNat (own_sz x))) .byte) (h1 : h'[da]? = some (GetChars.outCell ⟨x, x.toInt.natAbs, own_sz x, da, newA k .byte (Int32.ofNat (own_sz x)), st, d1, D1, d2, D2⟩)) : own_Ar Z h' da k .byte (own_cs D1 D2 x) := by
  obtain ⟨f1, f2, f3⟩ := own_outf ⟨x, x.toInt.natAbs, own_sz x, da, newA k .byte (Int32.ofNat (own_sz x)), st, d1, D1, d2, D2⟩
  obtain ⟨a1, ⟨a2, kk, a3, cp, a4⟩, a5⟩ := A
  have es := own_outs (x := x) (n := x.toInt.natAbs) (i := own_sz x) (da := da) (da' := 0) (A := newA k .byte (Int32.ofNat (own_sz x))) (A' := newA 0 .byte (Int32.ofNat (own_sz x))) (st := st) (st' := 0) (d1 := d1) (d1' := 0) (d2 := d2) (d2' := 0) (D1 := D1) (D2 := D2) rfl
  refine ⟨_, ⟨h1, ⟨by rw [f2]; exact a2, kk, by rw [f1]; exact a3, cp, a4⟩, by rw [f2]; exact a5⟩, f1, ?_, ?_⟩
  · rw [es]; simp [own_cs]
  · have := own_szb x
    simp only [own_cs, Array.length_toList]
    rw [← es, f3]
    simp only [newA, Array.size_replicate, own_clamp (show own_sz x < 2 ^ 31 by omega)]
    omega
def own_AI (vs : List Value) : Prop := ∀ i, i < vs.length → ∃ x, vs[i]? = some (.int x)
theorem own_AIput {A : Cell} {i : Nat} {x : Int32} (h : own_AI A.slots.toList) : own_AI (put A i x).slots.toList := by
  intro j hj
  rw [own_puts] at hj ⊢
  simp only [Array.toList_setIfInBounds, List.length_set] at hj ⊢
  rw [List.getElem?_set]
  by_cases e : i = j
  · subst e; rw [if_pos rfl, if_pos hj]; exact ⟨_, rfl⟩
  · rw [if_neg e]; exact h j hj
theorem own_AIdl (D1 D2 : Cell) : ∀ (f : Nat) (A : Cell) (n i : Nat), own_AI A.slots.toList → own_AI (digLoop D1 D2 f A n i).1.slots.toList := by
  intro f
  induction f with
  | zero => intro A n i h; exact h
  | succ f ih =>
    intro A n i h
    simp only [digLoop]
    by_cases h1 : 100 ≤ n
    · rw [if_pos h1]; exact ih _ _ _ (own_AIput (own_AIput h))
    · rw [if_neg h1]
      by_cases h2 : 9 < n
      · rw [if_pos h2]; exact own_AIput (own_AIput h)
      · rw [if_neg h2]; exact own_AIput h
theorem own_AIcs (D1 D2 : Cell) (x : Int32) : own_AI (own_cs D1 D2 x) := by
  have h0 : own_AI (newA 0 .byte (Int32.ofNat (own_sz x))).slots.toList := by
    intro j hj
    simp only [newA, Array.toList_replicate, List.length_replicate] at hj ⊢
    exact ⟨0, by rw [List.getElem?_replicate, if_pos hj]; rfl⟩
  unfold own_cs GetChars.outCell
  by_cases hx : x < 0
  · simp only [if_pos hx]; exact own_AIput (own_AIdl _ _ _ _ _ _ h0)
  · simp only [if_neg hx]; exact own_AIdl _ _ _ _ _ _ h0
theorem own_gcP {Z U : State} {h : Heap} {n0 : Nat} {k : ClassId} {D1 D2 : Cell} {x : Int32} {da st d1 d2 : Addr} (hal : Z.vm.Alike U.vm) (eU : U.heap = h) (O : Old Z n0 h) (g : n0 ≤ da) (A : Arr Z h da (newA k .byte (Int32.ofNat (own_sz x))) .byte) (T1 : Tbl Z "DigitOnes" st d1 D1) (T2 : Tbl Z "DigitTens" st d2 D2) :
    GetChars.P ⟨x, x.toInt.natAbs, own_sz x, da, newA k .byte (Int32.ofNat (own_sz x)), st, d1, D1, d2, D2⟩ #[.int x, .int (Int32.ofNat (own_sz x)), .ref da] U := by
  have hs := own_szb x
  have hsz : (newA k .byte (Int32.ofNat (own_sz x))).slots.size = own_sz x := by simp only [newA, Array.size_replicate, own_clamp (show own_sz x < 2 ^ 31 by omega)]
  obtain ⟨_, _, _, _, cS1, -, -, -, -, s1, -, -, t1, -⟩ := id T1
  obtain ⟨_, _, _, _, cS2, -, -, -, -, s2, -, -, t2, -⟩ := id T2
  have lt : ∀ {y : Addr} {c : Cell}, Z.heap[y]? = some c → da ≠ y := fun hy e => by
    have := (Array.getElem?_eq_some_iff.mp hy).1
    rw [O.1, ← e] at this; omega
  refine ⟨rfl, by rw [eU]; exact A.1, State.isArrayOf_alike hal A.2.1, A.2.2, by rw [hsz]; omega, by rw [hsz]; exact Nat.le_refl _, (show _ ≤ own_sz x from Nat.le_refl _), (own_neg x).1, (own_neg x).2, T1.move hal (fun c hc => by rw [eU]; exact O.2.2 _ _ hc) (by rw [eU]; exact O.2.2 _ _ t1), T2.move hal (fun c hc => by rw [eU]; exact O.2.2 _ _ hc) (by rw [eU]; exact O.2.2 _ _ t2), lt s1, lt t1, lt t2⟩
end OwnInt

theorem own_gtab {Z s : State} {a0 args : Array Value} (hZ : Z.Warmed39 s.vm) (hw : ∀ d ∈ tables_1, d.before a0 Z = true) : Jvm.Free.SBG.GetChars.tab.before args s = true := by
  have h1 : (Jvm.Cond.code Jvm.Free.SBG.GetChars.gcN Jvm.Free.SBG.GetChars.gcB 7 (some .int)).before args s = true := mvT hZ (hw _ (List.mem_of_getElem? (i := 35) rfl))
  have h2 : (Jvm.Cond.fieldLink Jvm.Free.SBG.INT 83 Jvm.Free.SBG.INT "DigitOnes" "[B").before args s = true := mvT hZ (hw _ (List.mem_of_getElem? (i := 36) rfl))
  have h3 : (Jvm.Cond.fieldLink Jvm.Free.SBG.INT 87 Jvm.Free.SBG.INT "DigitTens" "[B").before args s = true := mvT hZ (hw _ (List.mem_of_getElem? (i := 59) rfl))
  simp only [Jvm.Free.SBG.GetChars.tab, Cond.before_and, Bool.and_eq_true]
  exact ⟨h1, h2, h3⟩

theorem own_nz {args : Array Value} {s : State} {t : Term} {z : Int32} (e : t.eval args s none [] s = some (.int z)) (h : (Cond.not (Cond.eq t (.int 0))).value args s none s [] = some true) : ¬ (z = (0 : Int32)) := by
  have h1 := not_v h
  intro q; subst q
  simp [Cond.value, e, Term.eval] at h1
theorem d1_0 : decode prog_49_method_1_code 0 = .ok (.aload_n 0, 1) := by decide +kernel
theorem d1_1 : decode prog_49_method_1_code 1 = .ok (.invokespecial 1, 3) := by decide +kernel
theorem d1_4 : decode prog_49_method_1_code 4 = .ok (.aload_n 0, 1) := by decide +kernel
theorem d1_5 : decode prog_49_method_1_code 5 = .ok (.iload_n 1, 1) := by decide +kernel
theorem d1_6 : decode prog_49_method_1_code 6 = .ok (.putfield 7, 3) := by decide +kernel
theorem d1_9 : decode prog_49_method_1_code 9 = .ok (.return_, 1) := by decide +kernel
theorem d3_0 : decode prog_49_method_2_code 0 = .ok (.new 8, 3) := by decide +kernel
theorem d3_3 : decode prog_49_method_2_code 3 = .ok (.dup, 1) := by decide +kernel
theorem d3_4 : decode prog_49_method_2_code 4 = .ok (.aload_n 0, 1) := by decide +kernel
theorem d3_5 : decode prog_49_method_2_code 5 = .ok (.getfield 7, 3) := by decide +kernel
theorem d3_8 : decode prog_49_method_2_code 8 = .ok (.iload_n 1, 1) := by decide +kernel
theorem d3_9 : decode prog_49_method_2_code 9 = .ok (.iadd, 1) := by decide +kernel
theorem d3_10 : decode prog_49_method_2_code 10 = .ok (.invokespecial 13, 3) := by decide +kernel
theorem d3_13 : decode prog_49_method_2_code 13 = .ok (.areturn, 1) := by decide +kernel
theorem d8_0 : decode jdk_42_method_151_code 0 = .ok (.aload_n 0, 1) := by decide +kernel
theorem d8_1 : decode jdk_42_method_151_code 1 = .ok (.invokespecial 1, 3) := by decide +kernel
theorem d8_4 : decode jdk_42_method_151_code 4 = .ok (.aload_n 0, 1) := by decide +kernel
theorem d8_5 : decode jdk_42_method_151_code 5 = .ok (.aload_n 1, 1) := by decide +kernel
theorem d8_6 : decode jdk_42_method_151_code 6 = .ok (.putfield 9, 3) := by decide +kernel
theorem d8_9 : decode jdk_42_method_151_code 9 = .ok (.aload_n 0, 1) := by decide +kernel
theorem d8_10 : decode jdk_42_method_151_code 10 = .ok (.iload_n 2, 1) := by decide +kernel
theorem d8_11 : decode jdk_42_method_151_code 11 = .ok (.putfield 15, 3) := by decide +kernel
theorem d8_14 : decode jdk_42_method_151_code 14 = .ok (.return_, 1) := by decide +kernel
theorem d5_0 : decode jdk_33_method_10_code 0 = .ok (.iload_n 0, 1) := by decide +kernel
theorem d5_1 : decode jdk_33_method_10_code 1 = .ok (.invokestatic 72, 3) := by decide +kernel
theorem d5_4 : decode jdk_33_method_10_code 4 = .ok (.istore_n 1, 1) := by decide +kernel
theorem d5_5 : decode jdk_33_method_10_code 5 = .ok (.getstatic 13, 3) := by decide +kernel
theorem d5_8 : decode jdk_33_method_10_code 8 = .ok (.ifCond .eq 24, 3) := by decide +kernel
theorem d5_11 : decode jdk_33_method_10_code 11 = .ok (.iload_n 1, 1) := by decide +kernel
theorem d5_12 : decode jdk_33_method_10_code 12 = .ok (.newarray .byte, 2) := by decide +kernel
theorem d5_14 : decode jdk_33_method_10_code 14 = .ok (.astore_n 2, 1) := by decide +kernel
theorem d5_15 : decode jdk_33_method_10_code 15 = .ok (.iload_n 0, 1) := by decide +kernel
theorem d5_16 : decode jdk_33_method_10_code 16 = .ok (.iload_n 1, 1) := by decide +kernel
theorem d5_17 : decode jdk_33_method_10_code 17 = .ok (.aload_n 2, 1) := by decide +kernel
theorem d5_18 : decode jdk_33_method_10_code 18 = .ok (.invokestatic 75, 3) := by decide +kernel
theorem d5_21 : decode jdk_33_method_10_code 21 = .ok (.pop, 1) := by decide +kernel
theorem d5_22 : decode jdk_33_method_10_code 22 = .ok (.new 5, 3) := by decide +kernel
theorem d5_25 : decode jdk_33_method_10_code 25 = .ok (.dup, 1) := by decide +kernel
theorem d5_26 : decode jdk_33_method_10_code 26 = .ok (.aload_n 2, 1) := by decide +kernel
theorem d5_27 : decode jdk_33_method_10_code 27 = .ok (.iconst 0, 1) := by decide +kernel
theorem d5_28 : decode jdk_33_method_10_code 28 = .ok (.invokespecial 65, 3) := by decide +kernel
theorem d5_31 : decode jdk_33_method_10_code 31 = .ok (.areturn, 1) := by decide +kernel
theorem d4_0 : decode prog_49_method_3_code 0 = .ok (.aload_n 0, 1) := by decide +kernel
theorem d4_1 : decode prog_49_method_3_code 1 = .ok (.getfield 7, 3) := by decide +kernel
theorem d4_4 : decode prog_49_method_3_code 4 = .ok (.invokestatic 16, 3) := by decide +kernel
theorem d4_7 : decode prog_49_method_3_code 7 = .ok (.areturn, 1) := by decide +kernel
theorem d10_9 : decode jdk_43_method_13_code 9 = .ok (.iload_n 2, 1) := by decide +kernel
theorem d10_10 : decode jdk_43_method_13_code 10 = .ok (.aload_n 0, 1) := by decide +kernel
theorem d10_11 : decode jdk_43_method_13_code 11 = .ok (.arraylength, 1) := by decide +kernel
theorem d10_12 : decode jdk_43_method_13_code 12 = .ok (.if_icmp .ge 20, 3) := by decide +kernel
theorem d10_32 : decode jdk_43_method_13_code 32 = .ok (.iconst 1, 1) := by decide +kernel
theorem d10_33 : decode jdk_43_method_13_code 33 = .ok (.ireturn, 1) := by decide +kernel
theorem d10_15 : decode jdk_43_method_13_code 15 = .ok (.aload_n 0, 1) := by decide +kernel
theorem d10_16 : decode jdk_43_method_13_code 16 = .ok (.iload_n 2, 1) := by decide +kernel
theorem d10_17 : decode jdk_43_method_13_code 17 = .ok (.baload, 1) := by decide +kernel
theorem d10_18 : decode jdk_43_method_13_code 18 = .ok (.aload_n 1, 1) := by decide +kernel
theorem d10_19 : decode jdk_43_method_13_code 19 = .ok (.iload_n 2, 1) := by decide +kernel
theorem d10_20 : decode jdk_43_method_13_code 20 = .ok (.baload, 1) := by decide +kernel
theorem d10_21 : decode jdk_43_method_13_code 21 = .ok (.if_icmp .eq 5, 3) := by decide +kernel
theorem d10_26 : decode jdk_43_method_13_code 26 = .ok (.iinc 2 1, 3) := by decide +kernel
theorem d10_29 : decode jdk_43_method_13_code 29 = .ok (.goto (-20), 3) := by decide +kernel
theorem d10_0 : decode jdk_43_method_13_code 0 = .ok (.aload_n 0, 1) := by decide +kernel
theorem d10_1 : decode jdk_43_method_13_code 1 = .ok (.arraylength, 1) := by decide +kernel
theorem d10_2 : decode jdk_43_method_13_code 2 = .ok (.aload_n 1, 1) := by decide +kernel
theorem d10_3 : decode jdk_43_method_13_code 3 = .ok (.arraylength, 1) := by decide +kernel
theorem d10_4 : decode jdk_43_method_13_code 4 = .ok (.if_icmp .ne 30, 3) := by decide +kernel
theorem d10_7 : decode jdk_43_method_13_code 7 = .ok (.iconst 0, 1) := by decide +kernel
theorem d10_8 : decode jdk_43_method_13_code 8 = .ok (.istore_n 2, 1) := by decide +kernel
theorem d9_0 : decode jdk_42_method_66_code 0 = .ok (.aload_n 0, 1) := by decide +kernel
theorem d9_1 : decode jdk_42_method_66_code 1 = .ok (.aload_n 1, 1) := by decide +kernel
theorem d9_2 : decode jdk_42_method_66_code 2 = .ok (.if_acmp .ne 5, 3) := by decide +kernel
theorem d9_5 : decode jdk_42_method_66_code 5 = .ok (.iconst 1, 1) := by decide +kernel
theorem d9_6 : decode jdk_42_method_66_code 6 = .ok (.ireturn, 1) := by decide +kernel
theorem d9_7 : decode jdk_42_method_66_code 7 = .ok (.aload_n 1, 1) := by decide +kernel
theorem d9_8 : decode jdk_42_method_66_code 8 = .ok (.instanceof 10, 3) := by decide +kernel
theorem d9_11 : decode jdk_42_method_66_code 11 = .ok (.ifCond .eq 43, 3) := by decide +kernel
theorem d9_14 : decode jdk_42_method_66_code 14 = .ok (.aload_n 1, 1) := by decide +kernel
theorem d9_15 : decode jdk_42_method_66_code 15 = .ok (.checkcast 10, 3) := by decide +kernel
theorem d9_18 : decode jdk_42_method_66_code 18 = .ok (.astore_n 2, 1) := by decide +kernel
theorem d9_19 : decode jdk_42_method_66_code 19 = .ok (.getstatic 38, 3) := by decide +kernel
theorem d9_22 : decode jdk_42_method_66_code 22 = .ok (.ifCond .eq 14, 3) := by decide +kernel
theorem d9_25 : decode jdk_42_method_66_code 25 = .ok (.aload_n 0, 1) := by decide +kernel
theorem d9_26 : decode jdk_42_method_66_code 26 = .ok (.getfield 15, 3) := by decide +kernel
theorem d9_29 : decode jdk_42_method_66_code 29 = .ok (.aload_n 2, 1) := by decide +kernel
theorem d9_30 : decode jdk_42_method_66_code 30 = .ok (.getfield 15, 3) := by decide +kernel
theorem d9_33 : decode jdk_42_method_66_code 33 = .ok (.if_icmp .ne 21, 3) := by decide +kernel
theorem d9_36 : decode jdk_42_method_66_code 36 = .ok (.aload_n 0, 1) := by decide +kernel
theorem d9_37 : decode jdk_42_method_66_code 37 = .ok (.getfield 9, 3) := by decide +kernel
theorem d9_40 : decode jdk_42_method_66_code 40 = .ok (.aload_n 2, 1) := by decide +kernel
theorem d9_41 : decode jdk_42_method_66_code 41 = .ok (.getfield 9, 3) := by decide +kernel
theorem d9_44 : decode jdk_42_method_66_code 44 = .ok (.invokestatic 541, 3) := by decide +kernel
theorem d9_47 : decode jdk_42_method_66_code 47 = .ok (.ifCond .eq 7, 3) := by decide +kernel
theorem d9_50 : decode jdk_42_method_66_code 50 = .ok (.iconst 1, 1) := by decide +kernel
theorem d9_51 : decode jdk_42_method_66_code 51 = .ok (.goto 4, 3) := by decide +kernel
theorem d9_55 : decode jdk_42_method_66_code 55 = .ok (.ireturn, 1) := by decide +kernel
theorem pd_0 : parseMethodDescriptor "(I)V" = some ⟨[.int], none⟩ := by decide +kernel
theorem pd_1 : parseMethodDescriptor "(I)I" = some ⟨[.int], some .int⟩ := by decide +kernel
theorem pd_2 : parseMethodDescriptor "(II[B)I" = some ⟨[.int, .int, (.array .byte)], some .int⟩ := by decide +kernel
theorem pd_3 : parseMethodDescriptor "([BB)V" = some ⟨[(.array .byte), .byte], none⟩ := by decide +kernel
theorem pd_4 : parseMethodDescriptor "(I)Ljava/lang/String;" = some ⟨[.int], some (.object "java/lang/String")⟩ := by decide +kernel
theorem pd_5 : parseMethodDescriptor "([B[B)Z" = some ⟨[(.array .byte), (.array .byte)], some .boolean⟩ := by decide +kernel
theorem pd_6 : parseMethodDescriptor "(I)Lcom/example/ratebook/ratebook/trueup/RateYear;" = some ⟨[.int], some (.object "com/example/ratebook/ratebook/trueup/RateYear")⟩ := by decide +kernel
theorem pd_7 : parseMethodDescriptor "()Ljava/lang/String;" = some ⟨[], some (.object "java/lang/String")⟩ := by decide +kernel
theorem pd_8 : parseMethodDescriptor "(Ljava/lang/Object;)Z" = some ⟨[(.object "java/lang/Object")], some .boolean⟩ := by decide +kernel
theorem pn_rm1 : plainName "com/example/ratebook/ratebook/trueup/RateYear" = true := by first | (simp [plainName, overriddenIn]; done) | decide +kernel
theorem ef_rm1 (m : MethodId) (a : Addr) (x : Int32) : entryFrame m #[(.ref a), (.int x)] 2 = mkF m 0 #[.val (.ref a), .val (.int x)] [] := by first | (simp [entryFrame, mkF, argsToLocals, Value.category]; done) | rfl
def Q_rm1 (Z : State) (h0 : Heap) (n0 : Nat) (a : Addr) (x : Int32) (v : Option Value) (h : Heap) (L : List Loc) : Prop := v = none ∧ Fr n0 L ∧ Keep h0 h [a] ∧ Fld Z h a "com/example/ratebook/ratebook/trueup/RateYear" "year" "I" (.int x)
set_option maxRecDepth 65536 in
set_option maxHeartbeats 40000000 in
theorem rm1 (l : Launch) (Z : State) (a0 : Array Value) (hw : ∀ d ∈ tables_1, d.before a0 Z = true) (ws : List Jvm.Cond) (h0 : Heap) (n0 : Nat) (O0 : Old Z n0 h0) (a : Addr) (x : Int32) (Ea : Exa Z h0 a "com/example/ratebook/ratebook/trueup/RateYear") (Fa : Fld Z h0 a "com/example/ratebook/ratebook/trueup/RateYear" "year" "I" (.int (0 : Int32))) (ga : n0 ≤ a) :
    MetFree l (⟨"com/example/ratebook/ratebook/trueup/RateYear", "<init>", "(I)V"⟩ : MethodName) (head1 (Jvm.Cond.code (⟨"com/example/ratebook/ratebook/trueup/RateYear", "<init>", "(I)V"⟩ : MethodName) prog_49_method_1_code 2 none :: ws) ({ frames := 1, cells := 0, slots := 0, locals := 12 } : Room)) (fun aq U => aq = #[(.ref a), (.int x)] ∧ Z.Warmed39 U.vm ∧ U.heap = h0) (fun _ _ _ _ _ => True) (fun _ U o U' => ∃ v L, o = .returned v ∧ Q_rm1 Z h0 n0 a x v U'.heap L ∧ FrameEnd U o U' L ({ frames := 1, cells := 0, slots := 0, locals := 12 } : Room).cells ({ frames := 1, cells := 0, slots := 0, locals := 12 } : Room).slots) := by
  refine MetFree.of_bodySF (plainFor_of_name pn_rm1) hisR ?_
  intro p e s m args below meth c s₁ Bd hml0 hP hK
  obtain ⟨rfl, hZ, hh⟩ := hP
  have hx := Bd.exec
  have hby := Bd.bytes
  have hml : c.maxLocals = 2 := hml0
  have hown : s.vm.findClass "com/example/ratebook/ratebook/trueup/RateYear" = some m.cls := findClass_of_methodNamed Bd.named
  have hnm := (name_of_methodNamed Bd.named Bd.method).1
  have hlk := Bd.notSynchronized
  have hret := Bd.returns
  have X0 : Stand p l e ({ frames := 1, cells := 0, slots := 0, locals := 12 } : Room) s m #[(.ref a), (.int x)] below meth c s₁ [] 0 0 := Stand.of_body Bd
  have e0 : s₁.heap = h0 := by rw [← hh, Bd.state]; rfl
  have N0 := Fr.nil n0
  have K0 := Keep.refl h0 [a]
  refine own_go (S' := (s₁.setTop (mkF m 0 #[.val (.ref a), .val (.int x)] []))) (fun tq kq => castTop (ef_rm1 m a x) kq) ?_
  show own_G p e s below (Q_rm1 Z h0 n0 a x) _ _ _
  refine own_go (S' := (s₁.setTop (mkF m 1 #[.val (.ref a), .val (.int x)] [(.ref a)]))) (fun tq kq => XS.aloadN X0.here hx rfl (hb hby d1_0) rfl rfl kq) ?_
  obtain ⟨T101, X101, e101, st101⟩ := initO X0 hx hZ hown (hw _ (List.mem_of_getElem? (i := 6) rfl)) (hw _ (List.mem_of_getElem? (i := 7) rfl)) (hw _ (List.mem_of_getElem? (i := 8) rfl)) e0 (g := (mkF m 1 #[.val (.ref a), .val (.int x)] [(.ref a)])) rfl (by rw [hml]; rfl) rfl (hb hby d1_1) (by decide) (W := 0) (by show 2 * 0 + _ ≤ _; exact Nat.le_of_eq rfl) (by decide)
  refine own_go (S' := (T101.setTop (mkF m 6 #[.val (.ref a), .val (.int x)] [(.int x), (.ref a)]))) (fun tq kq => st101 tq (XS.aloadN X101.here hx rfl (hb hby d1_4) rfl rfl (XS.iloadN X101.here hx rfl (hb hby d1_5) rfl kq))) ?_
  obtain ⟨T102, h102, X102, e102, W102, st102⟩ := putF X101 hx hZ hown (host := "") (Or.inl (hw _ (List.mem_of_getElem? (i := 9) rfl))) Via.refl e101 Fa Ea (Or.inr ⟨(hw _ (List.mem_of_getElem? (i := 10) rfl)), rfl, hnm⟩) (hw _ (List.mem_of_getElem? (i := 1) rfl)) (ty := .int) (by decide) rfl rfl (g := (mkF m 6 #[.val (.ref a), .val (.int x)] [(.int x), (.ref a)])) rfl rfl (hb hby d1_6)
  have N102 := Fr.snoc X102 N0 ga
  have O102 := O0.wr W102 ga
  have K102 := K0.wr W102 (Or.inl (List.mem_of_getElem? (i := 0) rfl))
  have F102 := Fa.same W102
  refine own_go (S' := (T102.setTop (mkF m 9 #[.val (.ref a), .val (.int x)] []))) (fun tq kq => st102 tq kq) ?_
  refine own_retV X102 hx hlk hret (hb hby d1_9) (by decide) (by decide) ?_
  rw [e102]
  exact ⟨rfl, N102, K102, F102⟩
theorem pn_rm3 : plainName "com/example/ratebook/ratebook/trueup/RateYear" = true := by first | (simp [plainName, overriddenIn]; done) | decide +kernel
theorem ef_rm3 (m : MethodId) (a : Addr) (y : Int32) (x : Int32) : entryFrame m #[(.ref a), (.int y)] 2 = mkF m 0 #[.val (.ref a), .val (.int y)] [] := by first | (simp [entryFrame, mkF, argsToLocals, Value.category]; done) | rfl
def Q_rm3 (Z : State) (h0 : Heap) (n0 : Nat) (a : Addr) (y : Int32) (x : Int32) (v : Option Value) (h : Heap) (L : List Loc) : Prop := ∃ b : Addr, v = some (.ref b) ∧ Fr n0 L ∧ Keep h0 h [] ∧ h0.size ≤ b ∧ Exa Z h b "com/example/ratebook/ratebook/trueup/RateYear" ∧ Fld Z h b "com/example/ratebook/ratebook/trueup/RateYear" "year" "I" (.int (x + y))
set_option maxRecDepth 65536 in
set_option maxHeartbeats 40000000 in
theorem rm3 (l : Launch) (Z : State) (a0 : Array Value) (hw : ∀ d ∈ tables_1, d.before a0 Z = true) (ws : List Jvm.Cond) (h0 : Heap) (n0 : Nat) (O0 : Old Z n0 h0) (a : Addr) (y : Int32) (x : Int32) (Fa : Fld Z h0 a "com/example/ratebook/ratebook/trueup/RateYear" "year" "I" (.int x)) :
    MetFree l (⟨"com/example/ratebook/ratebook/trueup/RateYear", "plus", "(I)Lcom/example/ratebook/ratebook/trueup/RateYear;"⟩ : MethodName) (head1 (Jvm.Cond.code (⟨"com/example/ratebook/ratebook/trueup/RateYear", "plus", "(I)Lcom/example/ratebook/ratebook/trueup/RateYear;"⟩ : MethodName) prog_49_method_2_code 2 (some (.object "com/example/ratebook/ratebook/trueup/RateYear")) :: ws) ({ frames := 2, cells := 1, slots := 1, locals := 26 } : Room)) (fun aq U => aq = #[(.ref a), (.int y)] ∧ Z.Warmed39 U.vm ∧ U.heap = h0) (fun _ _ _ _ _ => True) (fun _ U o U' => ∃ v L, o = .returned v ∧ Q_rm3 Z h0 n0 a y x v U'.heap L ∧ FrameEnd U o U' L ({ frames := 2, cells := 1, slots := 1, locals := 26 } : Room).cells ({ frames := 2, cells := 1, slots := 1, locals := 26 } : Room).slots) := by
  refine MetFree.of_bodySF (plainFor_of_name pn_rm3) hisR ?_
  intro p e s m args below meth c s₁ Bd hml0 hP hK
  obtain ⟨rfl, hZ, hh⟩ := hP
  have hx := Bd.exec
  have hby := Bd.bytes
  have hml : c.maxLocals = 2 := hml0
  have hown : s.vm.findClass "com/example/ratebook/ratebook/trueup/RateYear" = some m.cls := findClass_of_methodNamed Bd.named
  have hnm := (name_of_methodNamed Bd.named Bd.method).1
  have hlk := Bd.notSynchronized
  have hret := Bd.returns
  have X0 : Stand p l e ({ frames := 2, cells := 1, slots := 1, locals := 26 } : Room) s m #[(.ref a), (.int y)] below meth c s₁ [] 0 0 := Stand.of_body Bd
  have e0 : s₁.heap = h0 := by rw [← hh, Bd.state]; rfl
  have N0 := Fr.nil n0
  have K0 := Keep.refl h0 []
  refine own_go (S' := (s₁.setTop (mkF m 0 #[.val (.ref a), .val (.int y)] []))) (fun tq kq => castTop (ef_rm3 m a y x) kq) ?_
  show own_G p e s below (Q_rm3 Z h0 n0 a y x) _ _ _
  obtain ⟨T101, h101, X101, e101, E101, A101, D101, -, st101⟩ := newO X0 hx hZ hown (hw _ (List.mem_of_getElem? (i := 16) rfl)) (hw _ (List.mem_of_getElem? (i := 1) rfl)) (hw _ (List.mem_of_getElem? (i := 2) rfl)) e0 (g := (mkF m 0 #[.val (.ref a), .val (.int y)] [])) rfl (hb hby d3_0) (by decide) (by decide)
  obtain ⟨b101, g101⟩ : ∃ z, z = h0.size := ⟨_, rfl⟩
  rw [← g101] at A101 D101 st101
  have ne_a_b101 : a ≠ b101 := Nat.ne_of_lt (Nat.lt_of_lt_of_le Fa.lt (Nat.le_of_eq g101.symm))
  have ge_b101 : n0 ≤ b101 := Nat.le_trans (own_osz O0) (Nat.le_of_eq g101.symm)
  have gk_b101 : h0.size ≤ b101 := Nat.le_trans K0.1 (Nat.le_of_eq g101.symm)
  have O101 := O0.ext E101
  have K101 := K0.ext E101
  have F_year_b101 : Fld Z h101 b101 "com/example/ratebook/ratebook/trueup/RateYear" "year" "I" (.int (0 : Int32)) := D101 (Or.inr (hw _ (List.mem_of_getElem? (i := 10) rfl))) (ty := .int) (by decide)
  refine own_go (S' := (T101.setTop (mkF m 5 #[.val (.ref a), .val (.int y)] [(.ref a), (.ref b101), (.ref b101)]))) (fun tq kq => st101 tq (XS.dup X101.here hx rfl (hb hby d3_3) rfl rfl (XS.aloadN X101.here hx rfl (hb hby d3_4) rfl rfl kq))) ?_
  have f102 := (Fa.ext E101)
  obtain ⟨T103, X103, e103, st103⟩ := getF X101 hx hZ hown (host := "") (Or.inl (hw _ (List.mem_of_getElem? (i := 9) rfl))) Via.refl e101 f102 (g := (mkF m 5 #[.val (.ref a), .val (.int y)] [(.ref a), (.ref b101), (.ref b101)])) rfl rfl (hb hby d3_5)
  refine own_go (S' := (T103.setTop (mkF m 10 #[.val (.ref a), .val (.int y)] [(.int (x + y)), (.ref b101), (.ref b101)]))) (fun tq kq => st103 tq (XS.iloadN X103.here hx rfl (hb hby d3_8) rfl (XS.iadd X103.here hx rfl (hb hby d3_9) rfl kq))) ?_
  obtain ⟨_, _, ⟨T104, L104, k104, n104⟩, -, X104, ⟨Lc104, hQ104, l104, y104, z104⟩, st104⟩ := X103.specialBack hx (y := (⟨"com/example/ratebook/ratebook/trueup/RateYear", "<init>", "(I)V"⟩ : MethodName)) rfl hown (mvT hZ (hw _ (List.mem_of_getElem? (i := 17) rfl))) (mvT hZ (hw _ (List.mem_of_getElem? (i := 4) rfl))) (mvT hZ (hw _ (List.mem_of_getElem? (i := 5) rfl))) (by decide) (backOf (W := 1) (rm1 l Z a0 hw [] h101 n0 O101 b101 (x + y) A101 F_year_b101 ge_b101) hZ (hw _ (List.mem_of_getElem? (i := 5) rfl)) (hw _ (List.mem_of_getElem? (i := 2) rfl)) (by decide) (by decide)) (g := (mkF m 10 #[.val (.ref a), .val (.int y)] [(.int (x + y)), (.ref b101), (.ref b101)])) rfl (by rw [hml]; rfl) (Steps.refl _) (a := b101) (argsL := [(.int (x + y))]) (rest := [(.ref b101)]) (lenOf pd_0 rfl) rfl (by show 2 * 0 + _ ≤ _; exact Nat.le_of_eq rfl) (hb hby d3_10) (fun _ _ => ⟨rfl, e103, (by decide : 1 + 0 ≤ _), (by decide : 1 + 0 ≤ _)⟩)
  dsimp only [Pt.U, Pt.locs, Pt.cells, Pt.slots] at X104 l104 y104 z104 st104 hQ104
  subst l104 y104 z104
  obtain ⟨rfl, N104, K104, F104⟩ := hQ104
  have Nf104 := Fr.app N0 N104
  have O104 := O101.keep K104 (allS ge_b101 all0)
  have KK104 := K101.trans K104 (allS (Or.inr gk_b101) all0)
  refine own_go (S' := (T104.setTop (mkF m 13 #[.val (.ref a), .val (.int y)] [(.ref b101)]))) (fun tq kq => st104.trans kq) ?_
  refine own_retA X104 hx hlk hret rfl rfl (hb hby d3_13) (by decide) (by decide) ?_
  have f105 := (A101.keep K104)
  exact ⟨b101, rfl, Nf104, KK104, gk_b101, f105, F104⟩
theorem pn_rm8 : plainName "java/lang/String" = true := by first | (simp [plainName, overriddenIn]; done) | decide +kernel
theorem ef_rm8 (m : MethodId) (a : Addr) (d : Addr) : entryFrame m #[(.ref a), (.ref d), (.int (0 : Int32))] 3 = mkF m 0 #[.val (.ref a), .val (.ref d), .val (.int (0 : Int32))] [] := by first | (simp [entryFrame, mkF, argsToLocals, Value.category]; done) | rfl
def Q_rm8 (Z : State) (h0 : Heap) (n0 : Nat) (a : Addr) (d : Addr) (v : Option Value) (h : Heap) (L : List Loc) : Prop := v = none ∧ Fr n0 L ∧ Keep h0 h [a] ∧ Fld Z h a "java/lang/String" "value" "[B" (.ref d) ∧ Fld Z h a "java/lang/String" "coder" "B" (.int (0 : Int32))
set_option maxRecDepth 65536 in
set_option maxHeartbeats 40000000 in
theorem rm8 (l : Launch) (Z : State) (a0 : Array Value) (hw : ∀ d ∈ tables_1, d.before a0 Z = true) (ws : List Jvm.Cond) (h0 : Heap) (n0 : Nat) (O0 : Old Z n0 h0) (a : Addr) (d : Addr) (Ea : Exa Z h0 a "java/lang/String") (Fv : Fld Z h0 a "java/lang/String" "value" "[B" .null) (Fc : Fld Z h0 a "java/lang/String" "coder" "B" (.int (0 : Int32))) (ga : n0 ≤ a) :
    MetFree l (⟨"java/lang/String", "<init>", "([BB)V"⟩ : MethodName) (head1 (Jvm.Cond.code (⟨"java/lang/String", "<init>", "([BB)V"⟩ : MethodName) jdk_42_method_151_code 3 none :: ws) ({ frames := 1, cells := 0, slots := 0, locals := 12 } : Room)) (fun aq U => aq = #[(.ref a), (.ref d), (.int (0 : Int32))] ∧ Z.Warmed39 U.vm ∧ U.heap = h0) (fun _ _ _ _ _ => True) (fun _ U o U' => ∃ v L, o = .returned v ∧ Q_rm8 Z h0 n0 a d v U'.heap L ∧ FrameEnd U o U' L ({ frames := 1, cells := 0, slots := 0, locals := 12 } : Room).cells ({ frames := 1, cells := 0, slots := 0, locals := 12 } : Room).slots) := by
  refine MetFree.of_bodySF (plainFor_of_name pn_rm8) hisR ?_
  intro p e s m args below meth c s₁ Bd hml0 hP hK
  obtain ⟨rfl, hZ, hh⟩ := hP
  have hx := Bd.exec
  have hby := Bd.bytes
  have hml : c.maxLocals = 3 := hml0
  have hown : s.vm.findClass "java/lang/String" = some m.cls := findClass_of_methodNamed Bd.named
  have hnm := (name_of_methodNamed Bd.named Bd.method).1
  have hlk := Bd.notSynchronized
  have hret := Bd.returns
  have X0 : Stand p l e ({ frames := 1, cells := 0, slots := 0, locals := 12 } : Room) s m #[(.ref a), (.ref d), (.int (0 : Int32))] below meth c s₁ [] 0 0 := Stand.of_body Bd
  have e0 : s₁.heap = h0 := by rw [← hh, Bd.state]; rfl
  have N0 := Fr.nil n0
  have K0 := Keep.refl h0 [a]
  refine own_go (S' := (s₁.setTop (mkF m 0 #[.val (.ref a), .val (.ref d), .val (.int (0 : Int32))] []))) (fun tq kq => castTop (ef_rm8 m a d) kq) ?_
  show own_G p e s below (Q_rm8 Z h0 n0 a d) _ _ _
  refine own_go (S' := (s₁.setTop (mkF m 1 #[.val (.ref a), .val (.ref d), .val (.int (0 : Int32))] [(.ref a)]))) (fun tq kq => XS.aloadN X0.here hx rfl (hb hby d8_0) rfl rfl kq) ?_
  obtain ⟨T101, X101, e101, st101⟩ := initO X0 hx hZ hown (hw _ (List.mem_of_getElem? (i := 43) rfl)) (hw _ (List.mem_of_getElem? (i := 7) rfl)) (hw _ (List.mem_of_getElem? (i := 8) rfl)) e0 (g := (mkF m 1 #[.val (.ref a), .val (.ref d), .val (.int (0 : Int32))] [(.ref a)])) rfl (by rw [hml]; rfl) rfl (hb hby d8_1) (by decide) (W := 0) (by show 2 * 0 + _ ≤ _; exact Nat.le_of_eq rfl) (by decide)
  refine own_go (S' := (T101.setTop (mkF m 6 #[.val (.ref a), .val (.ref d), .val (.int (0 : Int32))] [(.ref d), (.ref a)]))) (fun tq kq => st101 tq (XS.aloadN X101.here hx rfl (hb hby d8_4) rfl rfl (XS.aloadN X101.here hx rfl (hb hby d8_5) rfl rfl kq))) ?_
  obtain ⟨T102, h102, X102, e102, W102, st102⟩ := putF X101 hx hZ hown (host := "") (Or.inl (hw _ (List.mem_of_getElem? (i := 44) rfl))) Via.refl e101 Fv Ea (Or.inr ⟨(hw _ (List.mem_of_getElem? (i := 45) rfl)), rfl, hnm⟩) (hw _ (List.mem_of_getElem? (i := 38) rfl)) (ty := (.array .byte)) (by decide) rfl rfl (g := (mkF m 6 #[.val (.ref a), .val (.ref d), .val (.int (0 : Int32))] [(.ref d), (.ref a)])) rfl rfl (hb hby d8_6)
  have N102 := Fr.snoc X102 N0 ga
  have O102 := O0.wr W102 ga
  have K102 := K0.wr W102 (Or.inl (List.mem_of_getElem? (i := 0) rfl))
  have F102 := Fv.same W102
  refine own_go (S' := (T102.setTop (mkF m 11 #[.val (.ref a), .val (.ref d), .val (.int (0 : Int32))] [(.int (0 : Int32)), (.ref a)]))) (fun tq kq => st102 tq (XS.aloadN X102.here hx rfl (hb hby d8_9) rfl rfl (XS.iloadN X102.here hx rfl (hb hby d8_10) rfl kq))) ?_
  have f103 := (Fc.other W102 (Or.inr (slot_ne (Or.inr (hw _ (List.mem_of_getElem? (i := 47) rfl))) (Or.inr (hw _ (List.mem_of_getElem? (i := 45) rfl))) (by decide) (t := .byte) (t' := (.array .byte)) (by decide) (by decide))))
  have f104 := (Ea.wr W102)
  obtain ⟨T105, h105, X105, e105, W105, st105⟩ := putFN X102 hx hZ hown (hw _ (List.mem_of_getElem? (i := 46) rfl)) Via.refl e102 f103 f104 (Or.inr ⟨(hw _ (List.mem_of_getElem? (i := 47) rfl)), rfl, hnm⟩) (hw _ (List.mem_of_getElem? (i := 38) rfl)) (ty := .byte) (v' := (.int (0 : Int32))) (by decide) rfl rfl (g := (mkF m 11 #[.val (.ref a), .val (.ref d), .val (.int (0 : Int32))] [(.int (0 : Int32)), (.ref a)])) rfl rfl (hb hby d8_11)
  have N105 := Fr.snoc X105 N102 ga
  have O105 := O102.wr W105 ga
  have K105 := K102.wr W105 (Or.inl (List.mem_of_getElem? (i := 0) rfl))
  have F105 := f103.same W105
  refine own_go (S' := (T105.setTop (mkF m 14 #[.val (.ref a), .val (.ref d), .val (.int (0 : Int32))] []))) (fun tq kq => st105 tq kq) ?_
  refine own_retV X105 hx hlk hret (hb hby d8_14) (by decide) (by decide) ?_
  have f106 := (F102.other W105 (Or.inr (slot_ne (Or.inr (hw _ (List.mem_of_getElem? (i := 45) rfl))) (Or.inr (hw _ (List.mem_of_getElem? (i := 47) rfl))) (by decide) (t := (.array .byte)) (t' := .byte) (by decide) (by decide))))
  rw [e105]
  exact ⟨rfl, N105, K105, f106, F105⟩
theorem pn_rm5 : plainName "java/lang/Integer" = true := by first | (simp [plainName, overriddenIn]; done) | decide +kernel
theorem ef_rm5 (m : MethodId) (x : Int32) (st : Addr) (d1 : Addr) (D1 : Cell) (d2 : Addr) (D2 : Cell) (z : Int32) : entryFrame m #[(.int x)] 3 = mkF m 0 #[.val (.int x), .unset, .unset] [] := by first | (simp [entryFrame, mkF, argsToLocals, Value.category]; done) | rfl
def Q_rm5 (Z : State) (h0 : Heap) (n0 : Nat) (x : Int32) (st : Addr) (d1 : Addr) (D1 : Cell) (d2 : Addr) (D2 : Cell) (z : Int32) (v : Option Value) (h : Heap) (L : List Loc) : Prop := ∃ b : Addr, v = some (.ref b) ∧ Fr n0 L ∧ Keep h0 h [] ∧ h0.size ≤ b ∧ ∃ (d : Addr) (k : ClassId), Exa Z h b "java/lang/String" ∧ Fld Z h b "java/lang/String" "coder" "B" (.int (0 : Int32)) ∧ Fld Z h b "java/lang/String" "value" "[B" (.ref d) ∧ own_Ar Z h d k .byte (own_cs D1 D2 x)
set_option maxRecDepth 65536 in
set_option maxHeartbeats 40000000 in
theorem rm5 (l : Launch) (Z : State) (a0 : Array Value) (hw : ∀ d ∈ tables_1, d.before a0 Z = true) (ws : List Jvm.Cond) (h0 : Heap) (n0 : Nat) (O0 : Old Z n0 h0) (x : Int32) (st : Addr) (d1 : Addr) (D1 : Cell) (d2 : Addr) (D2 : Cell) (z : Int32) (T1 : Jvm.Free.SBG.Tbl Z "DigitOnes" st d1 D1) (T2 : Jvm.Free.SBG.Tbl Z "DigitTens" st d2 D2) (SC : Sta Z Z.heap "java/lang/String" "COMPACT_STRINGS" "Z" (.int z)) (hz : ¬ (z = (0 : Int32))) :
    MetFree l (⟨"java/lang/Integer", "toString", "(I)Ljava/lang/String;"⟩ : MethodName) (head1 (Jvm.Cond.code (⟨"java/lang/Integer", "toString", "(I)Ljava/lang/String;"⟩ : MethodName) jdk_33_method_10_code 3 (some (.object "java/lang/String")) :: ws) ({ frames := 2, cells := 2, slots := 15, locals := 78 } : Room)) (fun aq U => aq = #[(.int x)] ∧ Z.Warmed39 U.vm ∧ U.heap = h0) (fun _ _ _ _ _ => True) (fun _ U o U' => ∃ v L, o = .returned v ∧ Q_rm5 Z h0 n0 x st d1 D1 d2 D2 z v U'.heap L ∧ FrameEnd U o U' L ({ frames := 2, cells := 2, slots := 15, locals := 78 } : Room).cells ({ frames := 2, cells := 2, slots := 15, locals := 78 } : Room).slots) := by
  refine MetFree.of_bodySF (plainFor_of_name pn_rm5) hisR ?_
  intro p e s m args below meth c s₁ Bd hml0 hP hK
  obtain ⟨rfl, hZ, hh⟩ := hP
  have hx := Bd.exec
  have hby := Bd.bytes
  have hml : c.maxLocals = 3 := hml0
  have hown : s.vm.findClass "java/lang/Integer" = some m.cls := findClass_of_methodNamed Bd.named
  have hnm := (name_of_methodNamed Bd.named Bd.method).1
  have hlk := Bd.notSynchronized
  have hret := Bd.returns
  have X0 : Stand p l e ({ frames := 2, cells := 2, slots := 15, locals := 78 } : Room) s m #[(.int x)] below meth c s₁ [] 0 0 := Stand.of_body Bd
  have e0 : s₁.heap = h0 := by rw [← hh, Bd.state]; rfl
  have N0 := Fr.nil n0
  have K0 := Keep.refl h0 []
  refine own_go (S' := (s₁.setTop (mkF m 0 #[.val (.int x), .unset, .unset] []))) (fun tq kq => castTop (ef_rm5 m x st d1 D1 d2 D2 z) kq) ?_
  show own_G p e s below (Q_rm5 Z h0 n0 x st d1 D1 d2 D2 z) _ _ _
  refine own_go (S' := (s₁.setTop (mkF m 1 #[.val (.int x), .unset, .unset] [(.int x)]))) (fun tq kq => XS.iloadN X0.here hx rfl (hb hby d5_0) rfl kq) ?_
  obtain ⟨_, _, ⟨T101, L101, k101, n101⟩, -, X101, ⟨⟨eh101, l101, y101, z101⟩, hv101⟩, st101⟩ := Jvm.LawKit.callS X0 hx (y := (⟨"java/lang/Integer", "stringSize", "(I)I"⟩ : MethodName)) hown (mvT hZ (hw _ (List.mem_of_getElem? (i := 27) rfl))) (mvT hZ (hw _ (List.mem_of_getElem? (i := 28) rfl))) (mvT hZ (hw _ (List.mem_of_getElem? (i := 25) rfl))) (mvT hZ (hw _ (List.mem_of_getElem? (i := 29) rfl))) (by decide) (Jvm.Free.SBG.StrSize.pays (W := 0) (by decide) (by decide) (mvT hZ (hw _ (List.mem_of_getElem? (i := 29) rfl))) (mvT hZ (hw _ (List.mem_of_getElem? (i := 25) rfl)))) (g := (mkF m 1 #[.val (.int x), .unset, .unset] [(.int x)])) rfl (by rw [hml]; rfl) (argsL := [(.int x)]) (rest := []) (lenOf pd_1 rfl) rfl (by show 2 * 0 + _ ≤ _; exact Nat.le_of_eq rfl) (hb hby d5_1) (fun _ _ => ⟨(by decide : 0 ≤ _), (by decide : 0 ≤ _), x, rfl⟩)
  dsimp only [Pt.U, Pt.locs, Pt.cells, Pt.slots] at X101 l101 y101 z101 st101 eh101
  subst l101 y101 z101
  obtain rfl := (hv101 x rfl).trans (by rw [own_ssz])
  have ef101 := eh101.trans e0
  refine own_go (S' := (T101.setTop (mkF m 5 #[.val (.int x), .val (.int (Int32.ofNat (own_sz x))), .unset] []))) (fun tq kq => st101 tq (XS.istoreN X101.here hx rfl (hb hby d5_4) rfl (l' := #[.val (.int x), .val (.int (Int32.ofNat (own_sz x))), .unset]) rfl kq)) ?_
  obtain ⟨T102, X102, e102, st102⟩ := getS2 X101 hx hZ hown (host := "") (Or.inl (hw _ (List.mem_of_getElem? (i := 30) rfl))) Via.refl ef101 (SC.ext O0.2) (g := (mkF m 5 #[.val (.int x), .val (.int (Int32.ofNat (own_sz x))), .unset] [])) rfl (hb hby d5_5)
  refine own_go (S' := (T102.setTop (mkF m 12 #[.val (.int x), .val (.int (Int32.ofNat (own_sz x))), .unset] [(.int (Int32.ofNat (own_sz x)))]))) (fun tq kq => st102 tq (XS.ifNo X102.here hx rfl (hb hby d5_8) rfl ((if0 _ _).trans (feq hz).1) (XS.iloadN X102.here hx rfl (hb hby d5_11) rfl kq))) ?_
  have hsz := own_szb x
  obtain ⟨T103, h103, k103, X103, e103, E103, A103, st103⟩ := newP X102 hx hZ (hw _ (List.mem_of_getElem? (i := 32) rfl)) e102 (g := (mkF m 12 #[.val (.int x), .val (.int (Int32.ofNat (own_sz x))), .unset] [(.int (Int32.ofNat (own_sz x)))])) rfl (hb hby d5_12) rfl (own_pos (by omega)) (cap := 11) (by rw [own_clamp (by omega)]; omega) (by decide) (by decide) (by decide)
  obtain ⟨b103, g103⟩ : ∃ z, z = h0.size := ⟨_, rfl⟩
  rw [← g103] at A103 st103
  have ge_b103 : n0 ≤ b103 := Nat.le_trans (own_osz O0) (Nat.le_of_eq g103.symm)
  have gk_b103 : h0.size ≤ b103 := Nat.le_trans K0.1 (Nat.le_of_eq g103.symm)
  have V103 : own_Ar Z h103 b103 k103 .byte (List.replicate (Int32.ofNat (own_sz x)).toNatClampNeg (.int (0 : Int32))) := own_Ar.new A103 (own_pos (by omega))
  have O103 := O0.ext E103
  have K103 := K0.ext E103
  refine own_go (S' := (T103.setTop (mkF m 18 #[.val (.int x), .val (.int (Int32.ofNat (own_sz x))), .val (.ref b103)] [(.ref b103), (.int (Int32.ofNat (own_sz x))), (.int x)]))) (fun tq kq => st103 tq (XS.astoreN X103.here hx rfl (hb hby d5_14) rfl rfl (l' := #[.val (.int x), .val (.int (Int32.ofNat (own_sz x))), .val (.ref b103)]) rfl (XS.iloadN X103.here hx rfl (hb hby d5_15) rfl (XS.iloadN X103.here hx rfl (hb hby d5_16) rfl (XS.aloadN X103.here hx rfl (hb hby d5_17) rfl rfl kq))))) ?_
  obtain ⟨_, vw104, ⟨T104, L104, k104, n104⟩, -, X104, ⟨rfl, ho104, y104, z104, hs104, hk104, Lc104, l104, hL104⟩, st104⟩ := Jvm.LawKit.callS X103 hx (y := (⟨"java/lang/Integer", "getChars", "(II[B)I"⟩ : MethodName)) hown (mvT hZ (hw _ (List.mem_of_getElem? (i := 33) rfl))) (mvT hZ (hw _ (List.mem_of_getElem? (i := 34) rfl))) (mvT hZ (hw _ (List.mem_of_getElem? (i := 25) rfl))) (mvT hZ (hw _ (List.mem_of_getElem? (i := 35) rfl))) (by decide) (Jvm.Free.SBG.GetChars.pays ⟨x, x.toInt.natAbs, own_sz x, b103, newA k103 .byte (Int32.ofNat (own_sz x)), st, d1, D1, d2, D2⟩ 0 (own_gtab hZ hw) (mvT hZ (hw _ (List.mem_of_getElem? (i := 25) rfl))) (by decide) (by decide)) (g := (mkF m 18 #[.val (.int x), .val (.int (Int32.ofNat (own_sz x))), .val (.ref b103)] [(.ref b103), (.int (Int32.ofNat (own_sz x))), (.int x)])) rfl (by rw [hml]; rfl) (argsL := [(.int x), (.int (Int32.ofNat (own_sz x))), (.ref b103)]) (rest := []) (lenOf pd_2 rfl) rfl (by show 2 * 0 + _ ≤ _; exact Nat.le_of_eq rfl) (hb hby d5_18) (fun _ hv => ⟨rfl, (by decide : 1 ≤ _), (by decide : 11 ≤ _), own_gcP (wtrans hZ hv).alike e103 O103 ge_b103 A103 T1 T2⟩)
  dsimp only [Pt.U, Pt.locs, Pt.cells, Pt.slots] at X104 l104 y104 z104 st104 ho104 hs104 hk104
  subst y104 z104
  have eT104 : (State.setVm T103 vw104).heap = h103 := e103
  rw [eT104] at hs104
  have K104 : Keep h103 T104.heap [b103] := own_gcK (g := ⟨x, x.toInt.natAbs, own_sz x, b103, newA k103 .byte (Int32.ofNat (own_sz x)), st, d1, D1, d2, D2⟩) A103.1 ho104 hs104 (fun y cy hy hc => hk104 y cy hy (eT104 ▸ hc))
  have Nf104 : Fr n0 L104 := by rw [l104]; exact Fr.app N0 (fun y hy => (hL104 y hy) ▸ ge_b103)
  have O104 := O103.keep K104 (allS ge_b103 all0)
  have KK104 := K103.trans K104 (allS (Or.inr gk_b103) all0)
  have V104 : own_Ar Z T104.heap b103 k103 .byte (own_cs D1 D2 x) := own_gcA A103 ho104
  refine own_go (S' := (T104.setTop (mkF m 22 #[.val (.int x), .val (.int (Int32.ofNat (own_sz x))), .val (.ref b103)] []))) (fun tq kq => st104 tq (XS.pop X104.here hx rfl (hb hby d5_21) rfl rfl kq)) ?_
  obtain ⟨T105, h105, X105, e105, E105, A105, D105, -, st105⟩ := newO X104 hx hZ hown (hw _ (List.mem_of_getElem? (i := 37) rfl)) (hw _ (List.mem_of_getElem? (i := 38) rfl)) (hw _ (List.mem_of_getElem? (i := 31) rfl)) rfl (g := (mkF m 22 #[.val (.int x), .val (.int (Int32.ofNat (own_sz x))), .val (.ref b103)] [])) rfl (hb hby d5_22) (by decide) (by decide)
  obtain ⟨b105, g105⟩ : ∃ z, z = T104.heap.size := ⟨_, rfl⟩
  rw [← g105] at A105 D105 st105
  have ne_b103_b105 : b103 ≠ b105 := Nat.ne_of_lt (Nat.lt_of_lt_of_le V104.lt (Nat.le_of_eq g105.symm))
  have ge_b105 : n0 ≤ b105 := Nat.le_trans (own_osz O104) (Nat.le_of_eq g105.symm)
  have gk_b105 : h0.size ≤ b105 := Nat.le_trans KK104.1 (Nat.le_of_eq g105.symm)
  have O105 := O104.ext E105
  have K105 := KK104.ext E105
  have F_value_b105 : Fld Z h105 b105 "java/lang/String" "value" "[B" .null := D105 (Or.inr (hw _ (List.mem_of_getElem? (i := 45) rfl))) (ty := (.array .byte)) (by decide)
  have F_coder_b105 : Fld Z h105 b105 "java/lang/String" "coder" "B" (.int (0 : Int32)) := D105 (Or.inr (hw _ (List.mem_of_getElem? (i := 47) rfl))) (ty := .byte) (by decide)
  refine own_go (S' := (T105.setTop (mkF m 28 #[.val (.int x), .val (.int (Int32.ofNat (own_sz x))), .val (.ref b103)] [(.int (0 : Int32)), (.ref b103), (.ref b105), (.ref b105)]))) (fun tq kq => st105 tq (XS.dup X105.here hx rfl (hb hby d5_25) rfl rfl (XS.aloadN X105.here hx rfl (hb hby d5_26) rfl rfl (XS.iconst X105.here hx rfl (hb hby d5_27) kq)))) ?_
  obtain ⟨_, _, ⟨T106, L106, k106, n106⟩, -, X106, ⟨Lc106, hQ106, l106, y106, z106⟩, st106⟩ := X105.specialBack hx (y := (⟨"java/lang/String", "<init>", "([BB)V"⟩ : MethodName)) rfl hown (mvT hZ (hw _ (List.mem_of_getElem? (i := 39) rfl))) (mvT hZ (hw _ (List.mem_of_getElem? (i := 40) rfl))) (mvT hZ (hw _ (List.mem_of_getElem? (i := 42) rfl))) (by decide) (backOf (W := 1) (rm8 l Z a0 hw [] h105 n0 O105 b105 b103 A105 F_value_b105 F_coder_b105 ge_b105) hZ (hw _ (List.mem_of_getElem? (i := 42) rfl)) (hw _ (List.mem_of_getElem? (i := 31) rfl)) (by decide) (by decide)) (g := (mkF m 28 #[.val (.int x), .val (.int (Int32.ofNat (own_sz x))), .val (.ref b103)] [(.int (0 : Int32)), (.ref b103), (.ref b105), (.ref b105)])) rfl (by rw [hml]; rfl) (Steps.refl _) (a := b105) (argsL := [(.ref b103), (.int (0 : Int32))]) (rest := [(.ref b105)]) (lenOf pd_3 rfl) rfl (by show 2 * 0 + _ ≤ _; exact Nat.le_of_eq rfl) (hb hby d5_28) (fun _ _ => ⟨rfl, e105, (by decide : 2 + 0 ≤ _), (by decide : 15 + 0 ≤ _)⟩)
  dsimp only [Pt.U, Pt.locs, Pt.cells, Pt.slots] at X106 l106 y106 z106 st106 hQ106
  subst l106 y106 z106
  obtain ⟨rfl, N106, K106, Fv106, Fc106⟩ := hQ106
  have Nf106 := Fr.app Nf104 N106
  have O106 := O105.keep K106 (allS ge_b105 all0)
  have KK106 := K105.trans K106 (allS (Or.inr gk_b105) all0)
  refine own_go (S' := (T106.setTop (mkF m 31 #[.val (.int x), .val (.int (Int32.ofNat (own_sz x))), .val (.ref b103)] [(.ref b105)]))) (fun tq kq => st106.trans kq) ?_
  refine own_retA X106 hx hlk hret rfl rfl (hb hby d5_31) (by decide) (by decide) ?_
  have f107 := (A105.keep K106)
  have f108 := ((V104.ext E105).keep K106 (ninS ne_b103_b105 nin0))
  exact ⟨b105, rfl, Nf106, KK106, gk_b105, b103, _, f107, Fc106, Fv106, f108⟩
theorem pn_rm4 : plainName "com/example/ratebook/ratebook/trueup/RateYear" = true := by first | (simp [plainName, overriddenIn]; done) | decide +kernel
theorem ef_rm4 (m : MethodId) (a : Addr) (x : Int32) (st : Addr) (d1 : Addr) (D1 : Cell) (d2 : Addr) (D2 : Cell) (z : Int32) : entryFrame m #[(.ref a)] 1 = mkF m 0 #[.val (.ref a)] [] := by first | (simp [entryFrame, mkF, argsToLocals, Value.category]; done) | rfl
def Q_rm4 (Z : State) (h0 : Heap) (n0 : Nat) (a : Addr) (x : Int32) (st : Addr) (d1 : Addr) (D1 : Cell) (d2 : Addr) (D2 : Cell) (z : Int32) (v : Option Value) (h : Heap) (L : List Loc) : Prop := ∃ b : Addr, v = some (.ref b) ∧ Fr n0 L ∧ Keep h0 h [] ∧ h0.size ≤ b ∧ ∃ (d : Addr) (k : ClassId), Exa Z h b "java/lang/String" ∧ Fld Z h b "java/lang/String" "coder" "B" (.int (0 : Int32)) ∧ Fld Z h b "java/lang/String" "value" "[B" (.ref d) ∧ own_Ar Z h d k .byte (own_cs D1 D2 x)
set_option maxRecDepth 65536 in
set_option maxHeartbeats 40000000 in
theorem rm4 (l : Launch) (Z : State) (a0 : Array Value) (hw : ∀ d ∈ tables_1, d.before a0 Z = true) (ws : List Jvm.Cond) (h0 : Heap) (n0 : Nat) (O0 : Old Z n0 h0) (a : Addr) (x : Int32) (st : Addr) (d1 : Addr) (D1 : Cell) (d2 : Addr) (D2 : Cell) (z : Int32) (T1 : Jvm.Free.SBG.Tbl Z "DigitOnes" st d1 D1) (T2 : Jvm.Free.SBG.Tbl Z "DigitTens" st d2 D2) (SC : Sta Z Z.heap "java/lang/String" "COMPACT_STRINGS" "Z" (.int z)) (hz : ¬ (z = (0 : Int32))) (Fa : Fld Z h0 a "com/example/ratebook/ratebook/trueup/RateYear" "year" "I" (.int x)) :
    MetFree l (⟨"com/example/ratebook/ratebook/trueup/RateYear", "toString", "()Ljava/lang/String;"⟩ : MethodName) (head1 (Jvm.Cond.code (⟨"com/example/ratebook/ratebook/trueup/RateYear", "toString", "()Ljava/lang/String;"⟩ : MethodName) prog_49_method_3_code 1 (some (.object "java/lang/String")) :: ws) ({ frames := 3, cells := 2, slots := 15, locals := 92 } : Room)) (fun aq U => aq = #[(.ref a)] ∧ Z.Warmed39 U.vm ∧ U.heap = h0) (fun _ _ _ _ _ => True) (fun _ U o U' => ∃ v L, o = .returned v ∧ Q_rm4 Z h0 n0 a x st d1 D1 d2 D2 z v U'.heap L ∧ FrameEnd U o U' L ({ frames := 3, cells := 2, slots := 15, locals := 92 } : Room).cells ({ frames := 3, cells := 2, slots := 15, locals := 92 } : Room).slots) := by
  refine MetFree.of_bodySF (plainFor_of_name pn_rm4) hisR ?_
  intro p e s m args below meth c s₁ Bd hml0 hP hK
  obtain ⟨rfl, hZ, hh⟩ := hP
  have hx := Bd.exec
  have hby := Bd.bytes
  have hml : c.maxLocals = 1 := hml0
  have hown : s.vm.findClass "com/example/ratebook/ratebook/trueup/RateYear" = some m.cls := findClass_of_methodNamed Bd.named
  have hnm := (name_of_methodNamed Bd.named Bd.method).1
  have hlk := Bd.notSynchronized
  have hret := Bd.returns
  have X0 : Stand p l e ({ frames := 3, cells := 2, slots := 15, locals := 92 } : Room) s m #[(.ref a)] below meth c s₁ [] 0 0 := Stand.of_body Bd
  have e0 : s₁.heap = h0 := by rw [← hh, Bd.state]; rfl
  have N0 := Fr.nil n0
  have K0 := Keep.refl h0 []
  refine own_go (S' := (s₁.setTop (mkF m 0 #[.val (.ref a)] []))) (fun tq kq => castTop (ef_rm4 m a x st d1 D1 d2 D2 z) kq) ?_
  show own_G p e s below (Q_rm4 Z h0 n0 a x st d1 D1 d2 D2 z) _ _ _
  refine own_go (S' := (s₁.setTop (mkF m 1 #[.val (.ref a)] [(.ref a)]))) (fun tq kq => XS.aloadN X0.here hx rfl (hb hby d4_0) rfl rfl kq) ?_
  obtain ⟨T101, X101, e101, st101⟩ := getF X0 hx hZ hown (host := "") (Or.inl (hw _ (List.mem_of_getElem? (i := 9) rfl))) Via.refl e0 Fa (g := (mkF m 1 #[.val (.ref a)] [(.ref a)])) rfl rfl (hb hby d4_1)
  refine own_go (S' := (T101.setTop (mkF m 4 #[.val (.ref a)] [(.int x)]))) (fun tq kq => st101 tq kq) ?_
  obtain ⟨_, _, ⟨T102, L102, k102, n102⟩, -, X102, ⟨Lc102, hQ102, l102, y102, z102⟩, st102⟩ := Jvm.LawKit.callS X101 hx (y := (⟨"java/lang/Integer", "toString", "(I)Ljava/lang/String;"⟩ : MethodName)) hown (mvT hZ (hw _ (List.mem_of_getElem? (i := 23) rfl))) (mvT hZ (hw _ (List.mem_of_getElem? (i := 24) rfl))) (mvT hZ (hw _ (List.mem_of_getElem? (i := 25) rfl))) (mvT hZ (hw _ (List.mem_of_getElem? (i := 26) rfl))) (by decide) (backOf (W := 0) (rm5 l Z a0 hw [] h0 n0 O0 x st d1 D1 d2 D2 z T1 T2 SC hz) hZ (hw _ (List.mem_of_getElem? (i := 26) rfl)) (hw _ (List.mem_of_getElem? (i := 25) rfl)) (by decide) (by decide)) (g := (mkF m 4 #[.val (.ref a)] [(.int x)])) rfl (by rw [hml]; rfl) (argsL := [(.int x)]) (rest := []) (lenOf pd_4 rfl) rfl (by show 2 * 0 + _ ≤ _; exact Nat.le_of_eq rfl) (hb hby d4_4) (fun _ _ => ⟨rfl, e101, (by decide : 0 + 2 ≤ _), (by decide : 0 + 15 ≤ _)⟩)
  dsimp only [Pt.U, Pt.locs, Pt.cells, Pt.slots] at X102 l102 y102 z102 st102 hQ102
  subst l102 y102 z102
  obtain ⟨b102, rfl, N102, K102, gb102, d102, kk102, A102, Fc102, Fv102, V102⟩ := hQ102
  have Nf102 := Fr.app N0 N102
  have O102 := O0.keep K102 all0
  have KK102 := K0.trans K102 all0
  have ne_a_b102 : a ≠ b102 := Nat.ne_of_lt (Nat.lt_of_lt_of_le Fa.lt gb102)
  have ge_b102 : n0 ≤ b102 := Nat.le_trans (own_osz O0) gb102
  have gk_b102 : h0.size ≤ b102 := Nat.le_trans K0.1 gb102
  refine own_go (S' := (T102.setTop (mkF m 7 #[.val (.ref a)] [(.ref b102)]))) (fun tq kq => st102 tq kq) ?_
  refine own_retA X102 hx hlk hret rfl rfl (hb hby d4_7) (by decide) (by decide) ?_
  exact ⟨b102, rfl, Nf102, KK102, gk_b102, d102, _, A102, Fc102, Fv102, V102⟩
set_option maxRecDepth 65536 in
set_option maxHeartbeats 40000000 in
theorem loop10 {p : Program} {l : Launch} {e : Env} {s : State} {m : MethodId} {args : Array Value} {below : List Frame} {meth : Method} {c : Code} {Z : State} {a0 : Array Value} {h0 : Heap} {n0 : Nat} (hlk : meth.locks = false) (hret : meth.sig.returnType = some .boolean) (hx : p.tables.exec = Jvm.exec) (hZ : Z.Warmed39 s.vm) (hw : ∀ d ∈ tables_1, d.before a0 Z = true) (hby : c.code = jdk_43_method_13_code) (hml : c.maxLocals = 3) (hown : s.vm.findClass "java/lang/StringLatin1" = some m.cls) (hnm : meth.name = "equals") (da : Addr) (db : Addr) (ka : ClassId) (kb : ClassId) (vs : List Value) :
    ∀ (kt : Nat) (i : Nat), i + kt = vs.length → ∀ {Tp : State} {locs : List Loc} {hp : Heap} (Xp : Stand p l e ({ frames := 0, cells := 0, slots := 0, locals := 0 } : Room) s m args below meth c Tp locs 0 0) (ep : Tp.heap = hp) (Np : Fr n0 locs) (Op : Old Z n0 hp) (Kp : Keep h0 hp []) (Va : own_Ar Z hp da ka .byte vs) (Vb : own_Ar Z hp db kb .byte vs) (hai : own_AI vs) (hpe : hp = h0), own_G p e s below (fun v h L => v = some (.int 1) ∧ Fr n0 L ∧ h = h0) ({ frames := 0, cells := 0, slots := 0, locals := 0 } : Room).cells ({ frames := 0, cells := 0, slots := 0, locals := 0 } : Room).slots (Tp.setTop (mkF m 9 #[.val (.ref da), .val (.ref db), .val (.int (Int32.ofNat i))] [])) := by
  intro kt
  induction kt with
  | zero =>
    intro i  hi Tp locs hp Xp ep Np Op Kp Va Vb hai hpe
    have hvl := Va.small
    have hnl : ¬ (Int32.ofNat i < Int32.ofNat vs.length) := by rw [own_lt (by omega) (by omega)]; omega
    refine own_go (S' := (Tp.setTop (mkF m 11 #[.val (.ref da), .val (.ref db), .val (.int (Int32.ofNat i))] [(.ref da), (.int (Int32.ofNat i))]))) (fun tq kq => XS.iloadN Xp.here hx rfl (hb hby d10_9) rfl (XS.aloadN Xp.here hx rfl (hb hby d10_10) rfl rfl kq)) ?_
    obtain ⟨cl101, Ar101, ln101⟩ := Va.len
    have lq101 : cl101.slots.size.toInt32 = (Int32.ofNat vs.length) := ln101.trans rfl
    refine own_go (S' := (Tp.setTop (mkF m 33 #[.val (.ref da), .val (.ref db), .val (.int (Int32.ofNat i))] [(.int (1 : Int32))]))) (fun tq kq => Xp.arraylength hx (by rw [ep]; exact Ar101.1) (State.isArrayOf_alike hZ.alike Ar101.2.1) (g := (mkF m 11 #[.val (.ref da), .val (.ref db), .val (.int (Int32.ofNat i))] [(.ref da), (.int (Int32.ofNat i))])) rfl rfl (hb hby d10_11) tq (by rw [lq101]; exact (XS.icmpYes Xp.here hx rfl (pc0 := 12) (pc' := 32) rfl (hb hby d10_12) rfl (flt hnl).2.1 (by decide) (by decide) (XS.iconst Xp.here hx rfl (hb hby d10_32) kq)))) ?_
    refine own_retN Xp hx hlk hret (by simp) (hb hby d10_33) (by decide) (by decide) ?_
    exact ⟨rfl, Np, ep.trans hpe⟩
  | succ kt ih =>
    intro i  hi Tp locs hp Xp ep Np Op Kp Va Vb hai hpe
    have hvl := Va.small
    have hlt : Int32.ofNat i < Int32.ofNat vs.length := by rw [own_lt (by omega) (by omega)]; omega
    obtain ⟨xv, hxv⟩ := hai i (by omega)
    refine own_go (S' := (Tp.setTop (mkF m 11 #[.val (.ref da), .val (.ref db), .val (.int (Int32.ofNat i))] [(.ref da), (.int (Int32.ofNat i))]))) (fun tq kq => XS.iloadN Xp.here hx rfl (hb hby d10_9) rfl (XS.aloadN Xp.here hx rfl (hb hby d10_10) rfl rfl kq)) ?_
    obtain ⟨cl101, Ar101, ln101⟩ := Va.len
    have lq101 : cl101.slots.size.toInt32 = (Int32.ofNat vs.length) := ln101.trans rfl
    refine own_go (S' := (Tp.setTop (mkF m 17 #[.val (.ref da), .val (.ref db), .val (.int (Int32.ofNat i))] [(.int (Int32.ofNat i)), (.ref da)]))) (fun tq kq => Xp.arraylength hx (by rw [ep]; exact Ar101.1) (State.isArrayOf_alike hZ.alike Ar101.2.1) (g := (mkF m 11 #[.val (.ref da), .val (.ref db), .val (.int (Int32.ofNat i))] [(.ref da), (.int (Int32.ofNat i))])) rfl rfl (hb hby d10_11) tq (by rw [lq101]; exact (XS.icmpNo Xp.here hx rfl (hb hby d10_12) rfl (tlt hlt).2.1 (XS.aloadN Xp.here hx rfl (hb hby d10_15) rfl rfl (XS.iloadN Xp.here hx rfl (hb hby d10_16) rfl kq))))) ?_
    obtain ⟨cl102, Ar102, -, -, hin102, hat102⟩ := Va.at (j := (Int32.ofNat i)) (v := (.int xv)) (own_pos (by omega)) (by rw [own_clamp (by omega)]; exact hxv)
    refine own_go (S' := (Tp.setTop (mkF m 20 #[.val (.ref da), .val (.ref db), .val (.int (Int32.ofNat i))] [(.int (Int32.ofNat i)), (.ref db), (.int xv)]))) (fun tq kq => Xp.baloadBytes hx (j := (Int32.ofNat i)) (v := (.int xv)) (by rw [ep]; exact Ar102.1) (State.isArrayOf_alike hZ.alike Ar102.2.1) Ar102.2.2 hin102 hat102 (g := (mkF m 17 #[.val (.ref da), .val (.ref db), .val (.int (Int32.ofNat i))] [(.int (Int32.ofNat i)), (.ref da)])) rfl rfl (hb hby d10_17) tq (XS.aloadN Xp.here hx rfl (hb hby d10_18) rfl rfl (XS.iloadN Xp.here hx rfl (hb hby d10_19) rfl kq))) ?_
    obtain ⟨cl103, Ar103, -, -, hin103, hat103⟩ := Vb.at (j := (Int32.ofNat i)) (v := (.int xv)) (own_pos (by omega)) (by rw [own_clamp (by omega)]; exact hxv)
    refine own_go (S' := (Tp.setTop (mkF m 9 #[.val (.ref da), .val (.ref db), .val (.int ((Int32.ofNat i) + (1 : Int32)))] []))) (fun tq kq => Xp.baloadBytes hx (j := (Int32.ofNat i)) (v := (.int xv)) (by rw [ep]; exact Ar103.1) (State.isArrayOf_alike hZ.alike Ar103.2.1) Ar103.2.2 hin103 hat103 (g := (mkF m 20 #[.val (.ref da), .val (.ref db), .val (.int (Int32.ofNat i))] [(.int (Int32.ofNat i)), (.ref db), (.int xv)])) rfl rfl (hb hby d10_20) tq (XS.icmpYes Xp.here hx rfl (pc0 := 21) (pc' := 26) rfl (hb hby d10_21) rfl (teq (rfl : xv = xv)).1 (by decide) (by decide) (XS.iinc Xp.here hx rfl (hb hby d10_26) rfl (l' := #[.val (.ref da), .val (.ref db), .val (.int ((Int32.ofNat i) + (1 : Int32)))]) rfl (XS.goto Xp.here hx rfl (pc0 := 29) (pc' := 9) rfl (hb hby d10_29) (by decide) (by decide) kq)))) ?_
    rw [own_succ]
    exact ih (i + 1) (by omega) Xp ep Np Op Kp Va Vb hai hpe
theorem pn_rm10 : plainName "java/lang/StringLatin1" = true := by first | (simp [plainName, overriddenIn]; done) | decide +kernel
theorem ef_rm10 (m : MethodId) (da : Addr) (db : Addr) (ka : ClassId) (kb : ClassId) (vs : List Value) : entryFrame m #[(.ref da), (.ref db)] 3 = mkF m 0 #[.val (.ref da), .val (.ref db), .unset] [] := by first | (simp [entryFrame, mkF, argsToLocals, Value.category]; done) | rfl
def Q_rm10 (Z : State) (h0 : Heap) (n0 : Nat) (da : Addr) (db : Addr) (ka : ClassId) (kb : ClassId) (vs : List Value) (v : Option Value) (h : Heap) (L : List Loc) : Prop := v = some (.int 1) ∧ Fr n0 L ∧ h = h0
set_option maxRecDepth 65536 in
set_option maxHeartbeats 40000000 in
theorem rm10 (l : Launch) (Z : State) (a0 : Array Value) (hw : ∀ d ∈ tables_1, d.before a0 Z = true) (ws : List Jvm.Cond) (h0 : Heap) (n0 : Nat) (O0 : Old Z n0 h0) (da : Addr) (db : Addr) (ka : ClassId) (kb : ClassId) (vs : List Value) (Va : own_Ar Z h0 da ka .byte vs) (Vb : own_Ar Z h0 db kb .byte vs) (hai : own_AI vs) :
    MetFree l (⟨"java/lang/StringLatin1", "equals", "([B[B)Z"⟩ : MethodName) (head1 (Jvm.Cond.code (⟨"java/lang/StringLatin1", "equals", "([B[B)Z"⟩ : MethodName) jdk_43_method_13_code 3 (some .boolean) :: ws) ({ frames := 0, cells := 0, slots := 0, locals := 0 } : Room)) (fun aq U => aq = #[(.ref da), (.ref db)] ∧ Z.Warmed39 U.vm ∧ U.heap = h0) (fun _ _ _ _ _ => True) (fun _ U o U' => ∃ v L, o = .returned v ∧ Q_rm10 Z h0 n0 da db ka kb vs v U'.heap L ∧ FrameEnd U o U' L ({ frames := 0, cells := 0, slots := 0, locals := 0 } : Room).cells ({ frames := 0, cells := 0, slots := 0, locals := 0 } : Room).slots) := by
  refine MetFree.of_bodySF (plainFor_of_name pn_rm10) hisR ?_
  intro p e s m args below meth c s₁ Bd hml0 hP hK
  obtain ⟨rfl, hZ, hh⟩ := hP
  have hx := Bd.exec
  have hby := Bd.bytes
  have hml : c.maxLocals = 3 := hml0
  have hown : s.vm.findClass "java/lang/StringLatin1" = some m.cls := findClass_of_methodNamed Bd.named
  have hnm := (name_of_methodNamed Bd.named Bd.method).1
  have hlk := Bd.notSynchronized
  have hret := Bd.returns
  have X0 : Stand p l e ({ frames := 0, cells := 0, slots := 0, locals := 0 } : Room) s m #[(.ref da), (.ref db)] below meth c s₁ [] 0 0 := Stand.of_body Bd
  have e0 : s₁.heap = h0 := by rw [← hh, Bd.state]; rfl
  have N0 := Fr.nil n0
  have K0 := Keep.refl h0 []
  refine own_go (S' := (s₁.setTop (mkF m 0 #[.val (.ref da), .val (.ref db), .unset] []))) (fun tq kq => castTop (ef_rm10 m da db ka kb vs) kq) ?_
  show own_G p e s below (Q_rm10 Z h0 n0 da db ka kb vs) _ _ _
  refine own_go (S' := (s₁.setTop (mkF m 1 #[.val (.ref da), .val (.ref db), .unset] [(.ref da)]))) (fun tq kq => XS.aloadN X0.here hx rfl (hb hby d10_0) rfl rfl kq) ?_
  obtain ⟨cl101, Ar101, ln101⟩ := Va.len
  have lq101 : cl101.slots.size.toInt32 = (Int32.ofNat vs.length) := ln101.trans rfl
  refine own_go (S' := (s₁.setTop (mkF m 3 #[.val (.ref da), .val (.ref db), .unset] [(.ref db), (.int (Int32.ofNat vs.length))]))) (fun tq kq => X0.arraylength hx (by rw [e0]; exact Ar101.1) (State.isArrayOf_alike hZ.alike Ar101.2.1) (g := (mkF m 1 #[.val (.ref da), .val (.ref db), .unset] [(.ref da)])) rfl rfl (hb hby d10_1) tq (by rw [lq101]; exact (XS.aloadN X0.here hx rfl (hb hby d10_2) rfl rfl kq))) ?_
  obtain ⟨cl102, Ar102, ln102⟩ := Vb.len
  have lq102 : cl102.slots.size.toInt32 = (Int32.ofNat vs.length) := ln102.trans rfl
  refine own_go (S' := (s₁.setTop (mkF m 9 #[.val (.ref da), .val (.ref db), .val (.int (0 : Int32))] []))) (fun tq kq => X0.arraylength hx (by rw [e0]; exact Ar102.1) (State.isArrayOf_alike hZ.alike Ar102.2.1) (g := (mkF m 3 #[.val (.ref da), .val (.ref db), .unset] [(.ref db), (.int (Int32.ofNat vs.length))])) rfl rfl (hb hby d10_3) tq (by rw [lq102]; exact (XS.icmpNo X0.here hx rfl (hb hby d10_4) rfl (teq (rfl : (Int32.ofNat vs.length) = (Int32.ofNat vs.length))).2 (XS.iconst X0.here hx rfl (hb hby d10_7) (XS.istoreN X0.here hx rfl (hb hby d10_8) rfl (l' := #[.val (.ref da), .val (.ref db), .val (.int (0 : Int32))]) rfl kq))))) ?_
  exact loop10 hlk hret hx hZ hw hby hml hown hnm da db ka kb vs (vs.length) (0)  (by omega) X0 e0 N0 O0 K0 Va Vb hai rfl
theorem pn_rm9 : plainName "java/lang/String" = true := by first | (simp [plainName, overriddenIn]; done) | decide +kernel
theorem ef_rm9 (m : MethodId) (a : Addr) (b : Addr) (z : Int32) (da : Addr) (db : Addr) (ka : ClassId) (kb : ClassId) (vs : List Value) : entryFrame m #[(.ref a), (.ref b)] 3 = mkF m 0 #[.val (.ref a), .val (.ref b), .unset] [] := by first | (simp [entryFrame, mkF, argsToLocals, Value.category]; done) | rfl
def Q_rm9 (Z : State) (h0 : Heap) (n0 : Nat) (a : Addr) (b : Addr) (z : Int32) (da : Addr) (db : Addr) (ka : ClassId) (kb : ClassId) (vs : List Value) (v : Option Value) (h : Heap) (L : List Loc) : Prop := v = some (.int 1) ∧ Fr n0 L ∧ h = h0
set_option maxRecDepth 65536 in
set_option maxHeartbeats 40000000 in
theorem rm9 (l : Launch) (Z : State) (a0 : Array Value) (hw : ∀ d ∈ tables_1, d.before a0 Z = true) (ws : List Jvm.Cond) (h0 : Heap) (n0 : Nat) (O0 : Old Z n0 h0) (a : Addr) (b : Addr) (z : Int32) (da : Addr) (db : Addr) (ka : ClassId) (kb : ClassId) (vs : List Value) (SC : Sta Z Z.heap "java/lang/String" "COMPACT_STRINGS" "Z" (.int z)) (hz : ¬ (z = (0 : Int32))) (Ea : Exa Z h0 a "java/lang/String") (Fca : Fld Z h0 a "java/lang/String" "coder" "B" (.int (0 : Int32))) (Fva : Fld Z h0 a "java/lang/String" "value" "[B" (.ref da)) (Eb : Exa Z h0 b "java/lang/String") (Fcb : Fld Z h0 b "java/lang/String" "coder" "B" (.int (0 : Int32))) (Fvb : Fld Z h0 b "java/lang/String" "value" "[B" (.ref db)) (Va : own_Ar Z h0 da ka .byte vs) (Vb : own_Ar Z h0 db kb .byte vs) (hai : own_AI vs) :
    MetFree l (⟨"java/lang/String", "equals", "(Ljava/lang/Object;)Z"⟩ : MethodName) (head1 (Jvm.Cond.code (⟨"java/lang/String", "equals", "(Ljava/lang/Object;)Z"⟩ : MethodName) jdk_42_method_66_code 3 (some .boolean) :: ws) ({ frames := 1, cells := 0, slots := 0, locals := 14 } : Room)) (fun aq U => aq = #[(.ref a), (.ref b)] ∧ Z.Warmed39 U.vm ∧ U.heap = h0) (fun _ _ _ _ _ => True) (fun _ U o U' => ∃ v L, o = .returned v ∧ Q_rm9 Z h0 n0 a b z da db ka kb vs v U'.heap L ∧ FrameEnd U o U' L ({ frames := 1, cells := 0, slots := 0, locals := 14 } : Room).cells ({ frames := 1, cells := 0, slots := 0, locals := 14 } : Room).slots) := by
  refine MetFree.of_bodySF (plainFor_of_name pn_rm9) hisR ?_
  intro p e s m args below meth c s₁ Bd hml0 hP hK
  obtain ⟨rfl, hZ, hh⟩ := hP
  have hx := Bd.exec
  have hby := Bd.bytes
  have hml : c.maxLocals = 3 := hml0
  have hown : s.vm.findClass "java/lang/String" = some m.cls := findClass_of_methodNamed Bd.named
  have hnm := (name_of_methodNamed Bd.named Bd.method).1
  have hlk := Bd.notSynchronized
  have hret := Bd.returns
  have X0 : Stand p l e ({ frames := 1, cells := 0, slots := 0, locals := 14 } : Room) s m #[(.ref a), (.ref b)] below meth c s₁ [] 0 0 := Stand.of_body Bd
  have e0 : s₁.heap = h0 := by rw [← hh, Bd.state]; rfl
  have N0 := Fr.nil n0
  have K0 := Keep.refl h0 []
  refine own_go (S' := (s₁.setTop (mkF m 0 #[.val (.ref a), .val (.ref b), .unset] []))) (fun tq kq => castTop (ef_rm9 m a b z da db ka kb vs) kq) ?_
  show own_G p e s below (Q_rm9 Z h0 n0 a b z da db ka kb vs) _ _ _
  refine own_go (S' := (s₁.setTop (mkF m 2 #[.val (.ref a), .val (.ref b), .unset] [(.ref b), (.ref a)]))) (fun tq kq => XS.aloadN X0.here hx rfl (hb hby d9_0) rfl rfl (XS.aloadN X0.here hx rfl (hb hby d9_1) rfl rfl kq)) ?_
  by_cases hc101 : a = b
  · refine own_go (S' := (s₁.setTop (mkF m 6 #[.val (.ref a), .val (.ref b), .unset] [(.int (1 : Int32))]))) (fun tq kq => Jvm.RoadKit.acmp (g := (mkF m 2 #[.val (.ref a), .val (.ref b), .unset] [(.ref b), (.ref a)])) X0 hx rfl rfl rfl (pc0 := 2) (pc' := 5) (same := true) rfl (hb hby d9_2) rfl (decide_eq_true (congrArg Value.ref hc101)) (by decide) (by decide) (XS.iconst X0.here hx rfl (hb hby d9_5) kq)) ?_
    refine own_retN X0 hx hlk hret (by simp) (hb hby d9_6) (by decide) (by decide) ?_
    exact ⟨rfl, N0, e0⟩
  · refine own_go (S' := (s₁.setTop (mkF m 8 #[.val (.ref a), .val (.ref b), .unset] [(.ref b)]))) (fun tq kq => Jvm.RoadKit.acmp (g := (mkF m 2 #[.val (.ref a), .val (.ref b), .unset] [(.ref b), (.ref a)])) X0 hx rfl rfl rfl (pc0 := 2) (pc' := 7) (same := false) rfl (hb hby d9_2) rfl (decide_eq_false fun q => hc101 (Value.ref.inj q)) (by decide) (by decide) (XS.aloadN X0.here hx rfl (hb hby d9_7) rfl rfl kq)) ?_
    obtain ⟨T102, X102, e102, st102⟩ := instY X0 hx hZ hown (hw _ (List.mem_of_getElem? (i := 53) rfl)) e0 (Ins.self Eb) (g := (mkF m 8 #[.val (.ref a), .val (.ref b), .unset] [(.ref b)])) rfl rfl (hb hby d9_8)
    refine own_go (S' := (T102.setTop (mkF m 15 #[.val (.ref a), .val (.ref b), .unset] [(.ref b)]))) (fun tq kq => st102 tq (XS.ifNo X102.here hx rfl (hb hby d9_11) rfl ((if0 _ _).trans (feq (by decide : ¬ ((1 : Int32) = (0 : Int32)))).1) (XS.aloadN X102.here hx rfl (hb hby d9_14) rfl rfl kq))) ?_
    obtain ⟨T103, X103, e103, st103⟩ := castY X102 hx hZ hown (hw _ (List.mem_of_getElem? (i := 53) rfl)) e102 (Ins.self Eb) (g := (mkF m 15 #[.val (.ref a), .val (.ref b), .unset] [(.ref b)])) rfl rfl (hb hby d9_15)
    refine own_go (S' := (T103.setTop (mkF m 19 #[.val (.ref a), .val (.ref b), .val (.ref b)] []))) (fun tq kq => st103 tq (XS.astoreN X103.here hx rfl (hb hby d9_18) rfl rfl (l' := #[.val (.ref a), .val (.ref b), .val (.ref b)]) rfl kq)) ?_
    obtain ⟨T104, X104, e104, st104⟩ := getS2 X103 hx hZ hown (host := "") (Or.inl (hw _ (List.mem_of_getElem? (i := 54) rfl))) Via.refl e103 (SC.ext O0.2) (g := (mkF m 19 #[.val (.ref a), .val (.ref b), .val (.ref b)] [])) rfl (hb hby d9_19)
    refine own_go (S' := (T104.setTop (mkF m 26 #[.val (.ref a), .val (.ref b), .val (.ref b)] [(.ref a)]))) (fun tq kq => st104 tq (XS.ifNo X104.here hx rfl (hb hby d9_22) rfl ((if0 _ _).trans (feq hz).1) (XS.aloadN X104.here hx rfl (hb hby d9_25) rfl rfl kq))) ?_
    obtain ⟨T105, X105, e105, st105⟩ := getF X104 hx hZ hown (host := "") (Or.inl (hw _ (List.mem_of_getElem? (i := 46) rfl))) Via.refl e104 Fca (g := (mkF m 26 #[.val (.ref a), .val (.ref b), .val (.ref b)] [(.ref a)])) rfl rfl (hb hby d9_26)
    refine own_go (S' := (T105.setTop (mkF m 30 #[.val (.ref a), .val (.ref b), .val (.ref b)] [(.ref b), (.int (0 : Int32))]))) (fun tq kq => st105 tq (XS.aloadN X105.here hx rfl (hb hby d9_29) rfl rfl kq)) ?_
    obtain ⟨T106, X106, e106, st106⟩ := getF X105 hx hZ hown (host := "") (Or.inl (hw _ (List.mem_of_getElem? (i := 46) rfl))) Via.refl e105 Fcb (g := (mkF m 30 #[.val (.ref a), .val (.ref b), .val (.ref b)] [(.ref b), (.int (0 : Int32))])) rfl rfl (hb hby d9_30)
    refine own_go (S' := (T106.setTop (mkF m 37 #[.val (.ref a), .val (.ref b), .val (.ref b)] [(.ref a)]))) (fun tq kq => st106 tq (XS.icmpNo X106.here hx rfl (hb hby d9_33) rfl (teq (by decide : (0 : Int32) = (0 : Int32))).2 (XS.aloadN X106.here hx rfl (hb hby d9_36) rfl rfl kq))) ?_
    obtain ⟨T107, X107, e107, st107⟩ := getF X106 hx hZ hown (host := "") (Or.inl (hw _ (List.mem_of_getElem? (i := 44) rfl))) Via.refl e106 Fva (g := (mkF m 37 #[.val (.ref a), .val (.ref b), .val (.ref b)] [(.ref a)])) rfl rfl (hb hby d9_37)
    refine own_go (S' := (T107.setTop (mkF m 41 #[.val (.ref a), .val (.ref b), .val (.ref b)] [(.ref b), (.ref da)]))) (fun tq kq => st107 tq (XS.aloadN X107.here hx rfl (hb hby d9_40) rfl rfl kq)) ?_
    obtain ⟨T108, X108, e108, st108⟩ := getF X107 hx hZ hown (host := "") (Or.inl (hw _ (List.mem_of_getElem? (i := 44) rfl))) Via.refl e107 Fvb (g := (mkF m 41 #[.val (.ref a), .val (.ref b), .val (.ref b)] [(.ref b), (.ref da)])) rfl rfl (hb hby d9_41)
    refine own_go (S' := (T108.setTop (mkF m 44 #[.val (.ref a), .val (.ref b), .val (.ref b)] [(.ref db), (.ref da)]))) (fun tq kq => st108 tq kq) ?_
    obtain ⟨_, _, ⟨T109, L109, k109, n109⟩, -, X109, ⟨Lc109, hQ109, l109, y109, z109⟩, st109⟩ := Jvm.LawKit.callS X108 hx (y := (⟨"java/lang/StringLatin1", "equals", "([B[B)Z"⟩ : MethodName)) hown (mvT hZ (hw _ (List.mem_of_getElem? (i := 55) rfl))) (mvT hZ (hw _ (List.mem_of_getElem? (i := 56) rfl))) (mvT hZ (hw _ (List.mem_of_getElem? (i := 57) rfl))) (mvT hZ (hw _ (List.mem_of_getElem? (i := 58) rfl))) (by decide) (backOf (W := 0) (rm10 l Z a0 hw [] h0 n0 O0 da db ka kb vs Va Vb hai) hZ (hw _ (List.mem_of_getElem? (i := 58) rfl)) (hw _ (List.mem_of_getElem? (i := 57) rfl)) (by decide) (by decide)) (g := (mkF m 44 #[.val (.ref a), .val (.ref b), .val (.ref b)] [(.ref db), (.ref da)])) rfl (by rw [hml]; rfl) (argsL := [(.ref da), (.ref db)]) (rest := []) (lenOf pd_5 rfl) rfl (by show 2 * 0 + _ ≤ _; exact Nat.le_of_eq rfl) (hb hby d9_44) (fun _ _ => ⟨rfl, e108, (by decide : 0 + 0 ≤ _), (by decide : 0 + 0 ≤ _)⟩)
    dsimp only [Pt.U, Pt.locs, Pt.cells, Pt.slots] at X109 l109 y109 z109 st109 hQ109
    subst l109 y109 z109
    obtain ⟨rfl, N109, eh109⟩ := hQ109
    have Nf109 := Fr.app N0 N109
    refine own_go (S' := (T109.setTop (mkF m 55 #[.val (.ref a), .val (.ref b), .val (.ref b)] [(.int (1 : Int32))]))) (fun tq kq => st109 tq (XS.ifNo X109.here hx rfl (hb hby d9_47) rfl ((if0 _ _).trans (feq (by decide : ¬ ((1 : Int32) = (0 : Int32)))).1) (XS.iconst X109.here hx rfl (hb hby d9_50) (XS.goto X109.here hx rfl (pc0 := 51) (pc' := 55) rfl (hb hby d9_51) (by decide) (by decide) kq)))) ?_
    refine own_retN X109 hx hlk hret (by simp) (hb hby d9_55) (by decide) (by decide) ?_
    exact ⟨rfl, Nf109, eh109⟩
theorem pn_rm0 : plainName "com/example/ratebook/ratebook/trueup/RateYearPlusPinLaw" = true := by first | (simp [plainName, overriddenIn]; done) | decide +kernel
theorem ef_rm0 (m : MethodId) (p0 : Int32) (p1 : Int32) (p2 : Int32) (st : Addr) (d1 : Addr) (D1 : Cell) (d2 : Addr) (D2 : Cell) (z : Int32) : entryFrame m #[(.int p0), (.int p1), (.int p2)] maxLocals = mkF m 0 #[.val (.int p0), .val (.int p1), .val (.int p2), .unset, .unset, .unset, .unset] [] := by first | (simp [entryFrame, mkF, argsToLocals, Value.category, maxLocals]; done) | rfl
def Q_rm0 (Z : State) (h0 : Heap) (n0 : Nat) (p0 : Int32) (p1 : Int32) (p2 : Int32) (st : Addr) (d1 : Addr) (D1 : Cell) (d2 : Addr) (D2 : Cell) (z : Int32) (v : Option Value) (h : Heap) (L : List Loc) : Prop := v = some (.int 1) ∧ Fr n0 L
set_option maxRecDepth 65536 in
set_option maxHeartbeats 40000000 in
theorem rm0 (l : Launch) (Z : State) (a0 : Array Value) (hw : ∀ d ∈ tables_1, d.before a0 Z = true) (ws : List Jvm.Cond) (h0 : Heap) (n0 : Nat) (O0 : Old Z n0 h0) (p0 : Int32) (p1 : Int32) (p2 : Int32) (st : Addr) (d1 : Addr) (D1 : Cell) (d2 : Addr) (D2 : Cell) (z : Int32) (T1 : Jvm.Free.SBG.Tbl Z "DigitOnes" st d1 D1) (T2 : Jvm.Free.SBG.Tbl Z "DigitTens" st d2 D2) (SC : Sta Z Z.heap "java/lang/String" "COMPACT_STRINGS" "Z" (.int z)) (hz : ¬ (z = (0 : Int32))) :
    MetFree l x (head1 (Jvm.Cond.code x code maxLocals ret :: ws) room_1) (fun aq U => aq = #[(.int p0), (.int p1), (.int p2)] ∧ Z.Warmed39 U.vm ∧ U.heap = h0) (fun _ _ _ _ _ => True) (fun _ U o U' => ∃ v L, o = .returned v ∧ Q_rm0 Z h0 n0 p0 p1 p2 st d1 D1 d2 D2 z v U'.heap L ∧ FrameEnd U o U' L room_1.cells room_1.slots) := by
  refine MetFree.of_bodySF (plainFor_of_name pn_rm0) hisR ?_
  intro p e s m args below meth c s₁ Bd hml0 hP hK
  obtain ⟨rfl, hZ, hh⟩ := hP
  have hx := Bd.exec
  have hby := Bd.bytes
  have hml : c.maxLocals = 7 := hml0
  have hown : s.vm.findClass "com/example/ratebook/ratebook/trueup/RateYearPlusPinLaw" = some m.cls := findClass_of_methodNamed Bd.named
  have hnm := (name_of_methodNamed Bd.named Bd.method).1
  have hlk := Bd.notSynchronized
  have hret := Bd.returns
  have X0 : Stand p l e room_1 s m #[(.int p0), (.int p1), (.int p2)] below meth c s₁ [] 0 0 := Stand.of_body Bd
  have e0 : s₁.heap = h0 := by rw [← hh, Bd.state]; rfl
  have N0 := Fr.nil n0
  have K0 := Keep.refl h0 []
  refine own_go (S' := (s₁.setTop (mkF m 0 #[.val (.int p0), .val (.int p1), .val (.int p2), .unset, .unset, .unset, .unset] []))) (fun tq kq => castTop (ef_rm0 m p0 p1 p2 st d1 D1 d2 D2 z) kq) ?_
  show own_G p e s below (Q_rm0 Z h0 n0 p0 p1 p2 st d1 D1 d2 D2 z) _ _ _
  obtain ⟨T101, h101, X101, e101, E101, A101, D101, -, st101⟩ := newO X0 hx hZ hown (hw _ (List.mem_of_getElem? (i := 0) rfl)) (hw _ (List.mem_of_getElem? (i := 1) rfl)) (hw _ (List.mem_of_getElem? (i := 2) rfl)) e0 (g := (mkF m 0 #[.val (.int p0), .val (.int p1), .val (.int p2), .unset, .unset, .unset, .unset] [])) rfl (hb hby at_0) (by decide) (by decide)
  obtain ⟨b101, g101⟩ : ∃ z, z = h0.size := ⟨_, rfl⟩
  rw [← g101] at A101 D101 st101
  have ge_b101 : n0 ≤ b101 := Nat.le_trans (own_osz O0) (Nat.le_of_eq g101.symm)
  have gk_b101 : h0.size ≤ b101 := Nat.le_trans K0.1 (Nat.le_of_eq g101.symm)
  have O101 := O0.ext E101
  have K101 := K0.ext E101
  have F_year_b101 : Fld Z h101 b101 "com/example/ratebook/ratebook/trueup/RateYear" "year" "I" (.int (0 : Int32)) := D101 (Or.inr (hw _ (List.mem_of_getElem? (i := 10) rfl))) (ty := .int) (by decide)
  refine own_go (S' := (T101.setTop (mkF m 5 #[.val (.int p0), .val (.int p1), .val (.int p2), .unset, .unset, .unset, .unset] [(.int p0), (.ref b101), (.ref b101)]))) (fun tq kq => st101 tq (XS.dup X101.here hx rfl (hb hby at_3) rfl rfl (XS.iloadN X101.here hx rfl (hb hby at_4) rfl kq))) ?_
  obtain ⟨_, _, ⟨T102, L102, k102, n102⟩, -, X102, ⟨Lc102, hQ102, l102, y102, z102⟩, st102⟩ := X101.specialBack hx (y := (⟨"com/example/ratebook/ratebook/trueup/RateYear", "<init>", "(I)V"⟩ : MethodName)) rfl hown (mvT hZ (hw _ (List.mem_of_getElem? (i := 3) rfl))) (mvT hZ (hw _ (List.mem_of_getElem? (i := 4) rfl))) (mvT hZ (hw _ (List.mem_of_getElem? (i := 5) rfl))) (by decide) (backOf (W := 1) (rm1 l Z a0 hw [] h101 n0 O101 b101 p0 A101 F_year_b101 ge_b101) hZ (hw _ (List.mem_of_getElem? (i := 5) rfl)) (hw _ (List.mem_of_getElem? (i := 2) rfl)) (by decide) (by decide)) (g := (mkF m 5 #[.val (.int p0), .val (.int p1), .val (.int p2), .unset, .unset, .unset, .unset] [(.int p0), (.ref b101), (.ref b101)])) rfl (by rw [hml]; rfl) (Steps.refl _) (a := b101) (argsL := [(.int p0)]) (rest := [(.ref b101)]) (lenOf pd_0 rfl) rfl (by show 2 * 0 + _ ≤ _; exact Nat.le_of_eq rfl) (hb hby at_5) (fun _ _ => ⟨rfl, e101, (by decide : 1 + 0 ≤ _), (by decide : 1 + 0 ≤ _)⟩)
  dsimp only [Pt.U, Pt.locs, Pt.cells, Pt.slots] at X102 l102 y102 z102 st102 hQ102
  subst l102 y102 z102
  obtain ⟨rfl, N102, K102, F102⟩ := hQ102
  have Nf102 := Fr.app N0 N102
  have O102 := O101.keep K102 (allS ge_b101 all0)
  have KK102 := K101.trans K102 (allS (Or.inr gk_b101) all0)
  refine own_go (S' := (T102.setTop (mkF m 11 #[.val (.int p0), .val (.int p1), .val (.int p2), .val (.ref b101), .unset, .unset, .unset] [(.int p1), (.ref b101)]))) (fun tq kq => st102.trans (XS.astoreN X102.here hx rfl (hb hby at_8) rfl rfl (l' := #[.val (.int p0), .val (.int p1), .val (.int p2), .val (.ref b101), .unset, .unset, .unset]) rfl (XS.aloadN X102.here hx rfl (hb hby at_9) rfl rfl (XS.iloadN X102.here hx rfl (hb hby at_10) rfl kq)))) ?_
  have f103 := (A101.keep K102)
  obtain ⟨cq104, kq104, q104a, q104b, q104c⟩ := isOf hZ rfl f103
  obtain ⟨_, _, ⟨T104, L104, k104, n104⟩, -, X104, ⟨Lc104, hQ104, l104, y104, z104⟩, st104⟩ := X102.virtualBack hx (y := (⟨"com/example/ratebook/ratebook/trueup/RateYear", "plus", "(I)Lcom/example/ratebook/ratebook/trueup/RateYear;"⟩ : MethodName)) (z := (⟨"com/example/ratebook/ratebook/trueup/RateYear", "plus", "(I)Lcom/example/ratebook/ratebook/trueup/RateYear;"⟩ : MethodName)) hown (mvT hZ (hw _ (List.mem_of_getElem? (i := 11) rfl))) (mvT hZ (hw _ (List.mem_of_getElem? (i := 12) rfl))) (notFace_of_selects (args := #[]) (mvT hZ (hw _ (List.mem_of_getElem? (i := 14) rfl)))) (mvT hZ (hw _ (List.mem_of_getElem? (i := 14) rfl))) (mvT hZ (hw _ (List.mem_of_getElem? (i := 13) rfl))) (by decide) (backOf (W := 0) (rm3 l Z a0 hw [] T102.heap n0 O102 b101 p1 p0 F102) hZ (hw _ (List.mem_of_getElem? (i := 15) rfl)) (hw _ (List.mem_of_getElem? (i := 2) rfl)) (by decide) (by decide)) q104a q104c (g := (mkF m 11 #[.val (.int p0), .val (.int p1), .val (.int p2), .val (.ref b101), .unset, .unset, .unset] [(.int p1), (.ref b101)])) rfl (by rw [hml]; rfl) (Steps.refl _) (argsL := [(.int p1)]) (rest := []) (lenOf pd_6 rfl) rfl (by show 2 * 0 + _ ≤ _; exact Nat.le_of_eq rfl) (hb hby at_11) (fun _ _ => ⟨rfl, rfl, (by decide : 1 + 1 ≤ _), (by decide : 1 + 1 ≤ _)⟩)
  dsimp only [Pt.U, Pt.locs, Pt.cells, Pt.slots] at X104 l104 y104 z104 st104 hQ104
  subst l104 y104 z104
  obtain ⟨b104, rfl, N104, K104, gb104, A104, F104⟩ := hQ104
  have Nf104 := Fr.app Nf102 N104
  have O104 := O102.keep K104 all0
  have KK104 := KK102.trans K104 all0
  have ne_b101_b104 : b101 ≠ b104 := Nat.ne_of_lt (Nat.lt_of_lt_of_le f103.lt gb104)
  have ge_b104 : n0 ≤ b104 := Nat.le_trans (own_osz O102) gb104
  have gk_b104 : h0.size ≤ b104 := Nat.le_trans KK102.1 gb104
  refine own_go (S' := (T104.setTop (mkF m 18 #[.val (.int p0), .val (.int p1), .val (.int p2), .val (.ref b101), .val (.ref b104), .unset, .unset] [(.ref b104)]))) (fun tq kq => st104.trans (XS.astore X104.here hx rfl (hb hby at_14) rfl rfl (l' := #[.val (.int p0), .val (.int p1), .val (.int p2), .val (.ref b101), .val (.ref b104), .unset, .unset]) rfl (XS.aload X104.here hx rfl (hb hby at_16) rfl rfl kq))) ?_
  have f105 := (f103.keep K104)
  obtain ⟨cq106, kq106, q106a, q106b, q106c⟩ := isOf hZ rfl A104
  obtain ⟨_, _, ⟨T106, L106, k106, n106⟩, -, X106, ⟨Lc106, hQ106, l106, y106, z106⟩, st106⟩ := X104.virtualBack hx (y := (⟨"com/example/ratebook/ratebook/trueup/RateYear", "toString", "()Ljava/lang/String;"⟩ : MethodName)) (z := (⟨"com/example/ratebook/ratebook/trueup/RateYear", "toString", "()Ljava/lang/String;"⟩ : MethodName)) hown (mvT hZ (hw _ (List.mem_of_getElem? (i := 18) rfl))) (mvT hZ (hw _ (List.mem_of_getElem? (i := 19) rfl))) (notFace_of_selects (args := #[]) (mvT hZ (hw _ (List.mem_of_getElem? (i := 21) rfl)))) (mvT hZ (hw _ (List.mem_of_getElem? (i := 21) rfl))) (mvT hZ (hw _ (List.mem_of_getElem? (i := 20) rfl))) (by decide) (backOf (W := 0) (rm4 l Z a0 hw [] T104.heap n0 O104 b104 (p0 + p1) st d1 D1 d2 D2 z T1 T2 SC hz F104) hZ (hw _ (List.mem_of_getElem? (i := 22) rfl)) (hw _ (List.mem_of_getElem? (i := 2) rfl)) (by decide) (by decide)) q106a q106c (g := (mkF m 18 #[.val (.int p0), .val (.int p1), .val (.int p2), .val (.ref b101), .val (.ref b104), .unset, .unset] [(.ref b104)])) rfl (by rw [hml]; rfl) (Steps.refl _) (argsL := []) (rest := []) (lenOf pd_7 rfl) rfl (by show 2 * 0 + _ ≤ _; exact Nat.le_of_eq rfl) (hb hby at_18) (fun _ _ => ⟨rfl, rfl, (by decide : 2 + 2 ≤ _), (by decide : 2 + 15 ≤ _)⟩)
  dsimp only [Pt.U, Pt.locs, Pt.cells, Pt.slots] at X106 l106 y106 z106 st106 hQ106
  subst l106 y106 z106
  obtain ⟨b106, rfl, N106, K106, gb106, d106, kk106, A106, Fc106, Fv106, V106⟩ := hQ106
  have Nf106 := Fr.app Nf104 N106
  have O106 := O104.keep K106 all0
  have KK106 := KK104.trans K106 all0
  have ne_b101_b106 : b101 ≠ b106 := Nat.ne_of_lt (Nat.lt_of_lt_of_le f105.lt gb106)
  have ne_b104_b106 : b104 ≠ b106 := Nat.ne_of_lt (Nat.lt_of_lt_of_le A104.lt gb106)
  have ge_b106 : n0 ≤ b106 := Nat.le_trans (own_osz O104) gb106
  have gk_b106 : h0.size ≤ b106 := Nat.le_trans KK104.1 gb106
  refine own_go (S' := (T106.setTop (mkF m 21 #[.val (.int p0), .val (.int p1), .val (.int p2), .val (.ref b101), .val (.ref b104), .unset, .unset] [(.ref b106)]))) (fun tq kq => st106.trans kq) ?_
  obtain ⟨T107, h107, X107, e107, E107, A107, D107, -, st107⟩ := newO X106 hx hZ hown (hw _ (List.mem_of_getElem? (i := 0) rfl)) (hw _ (List.mem_of_getElem? (i := 1) rfl)) (hw _ (List.mem_of_getElem? (i := 2) rfl)) rfl (g := (mkF m 21 #[.val (.int p0), .val (.int p1), .val (.int p2), .val (.ref b101), .val (.ref b104), .unset, .unset] [(.ref b106)])) rfl (hb hby at_21) (by decide) (by decide)
  obtain ⟨b107, g107⟩ : ∃ z, z = T106.heap.size := ⟨_, rfl⟩
  rw [← g107] at A107 D107 st107
  have f108 := (f105.keep K106)
  have ne_b101_b107 : b101 ≠ b107 := Nat.ne_of_lt (Nat.lt_of_lt_of_le f108.lt (Nat.le_of_eq g107.symm))
  have f109 := (A104.keep K106)
  have ne_b104_b107 : b104 ≠ b107 := Nat.ne_of_lt (Nat.lt_of_lt_of_le f109.lt (Nat.le_of_eq g107.symm))
  have ne_b106_b107 : b106 ≠ b107 := Nat.ne_of_lt (Nat.lt_of_lt_of_le A106.lt (Nat.le_of_eq g107.symm))
  have ne_d106_b107 : d106 ≠ b107 := Nat.ne_of_lt (Nat.lt_of_lt_of_le V106.lt (Nat.le_of_eq g107.symm))
  have ge_b107 : n0 ≤ b107 := Nat.le_trans (own_osz O106) (Nat.le_of_eq g107.symm)
  have gk_b107 : h0.size ≤ b107 := Nat.le_trans KK106.1 (Nat.le_of_eq g107.symm)
  have O107 := O106.ext E107
  have K107 := KK106.ext E107
  have F_year_b107 : Fld Z h107 b107 "com/example/ratebook/ratebook/trueup/RateYear" "year" "I" (.int (0 : Int32)) := D107 (Or.inr (hw _ (List.mem_of_getElem? (i := 10) rfl))) (ty := .int) (by decide)
  refine own_go (S' := (T107.setTop (mkF m 28 #[.val (.int p0), .val (.int p1), .val (.int p2), .val (.ref b101), .val (.ref b104), .unset, .unset] [(.int (p0 + p1)), (.ref b107), (.ref b107), (.ref b106)]))) (fun tq kq => st107 tq (XS.dup X107.here hx rfl (hb hby at_24) rfl rfl (XS.iloadN X107.here hx rfl (hb hby at_25) rfl (XS.iloadN X107.here hx rfl (hb hby at_26) rfl (XS.iadd X107.here hx rfl (hb hby at_27) rfl kq))))) ?_
  obtain ⟨_, _, ⟨T110, L110, k110, n110⟩, -, X110, ⟨Lc110, hQ110, l110, y110, z110⟩, st110⟩ := X107.specialBack hx (y := (⟨"com/example/ratebook/ratebook/trueup/RateYear", "<init>", "(I)V"⟩ : MethodName)) rfl hown (mvT hZ (hw _ (List.mem_of_getElem? (i := 3) rfl))) (mvT hZ (hw _ (List.mem_of_getElem? (i := 4) rfl))) (mvT hZ (hw _ (List.mem_of_getElem? (i := 5) rfl))) (by decide) (backOf (W := 2) (rm1 l Z a0 hw [] h107 n0 O107 b107 (p0 + p1) A107 F_year_b107 ge_b107) hZ (hw _ (List.mem_of_getElem? (i := 5) rfl)) (hw _ (List.mem_of_getElem? (i := 2) rfl)) (by decide) (by decide)) (g := (mkF m 28 #[.val (.int p0), .val (.int p1), .val (.int p2), .val (.ref b101), .val (.ref b104), .unset, .unset] [(.int (p0 + p1)), (.ref b107), (.ref b107), (.ref b106)])) rfl (by rw [hml]; rfl) (Steps.refl _) (a := b107) (argsL := [(.int (p0 + p1))]) (rest := [(.ref b107), (.ref b106)]) (lenOf pd_0 rfl) rfl (by show 2 * 0 + _ ≤ _; exact Nat.le_of_eq rfl) (hb hby at_28) (fun _ _ => ⟨rfl, e107, (by decide : 5 + 0 ≤ _), (by decide : 18 + 0 ≤ _)⟩)
  dsimp only [Pt.U, Pt.locs, Pt.cells, Pt.slots] at X110 l110 y110 z110 st110 hQ110
  subst l110 y110 z110
  obtain ⟨rfl, N110, K110, F110⟩ := hQ110
  have Nf110 := Fr.app Nf106 N110
  have O110 := O107.keep K110 (allS ge_b107 all0)
  have KK110 := K107.trans K110 (allS (Or.inr gk_b107) all0)
  refine own_go (S' := (T110.setTop (mkF m 31 #[.val (.int p0), .val (.int p1), .val (.int p2), .val (.ref b101), .val (.ref b104), .unset, .unset] [(.ref b107), (.ref b106)]))) (fun tq kq => st110.trans kq) ?_
  have f111 := ((f108.ext E107).keep K110)
  have f112 := ((f109.ext E107).keep K110)
  have f113 := ((A106.ext E107).keep K110)
  have f114 := (A107.keep K110)
  have f115 := ((V106.ext E107).keep K110 (ninS ne_d106_b107 nin0))
  obtain ⟨cq116, kq116, q116a, q116b, q116c⟩ := isOf hZ rfl f114
  obtain ⟨_, _, ⟨T116, L116, k116, n116⟩, -, X116, ⟨Lc116, hQ116, l116, y116, z116⟩, st116⟩ := X110.virtualBack hx (y := (⟨"com/example/ratebook/ratebook/trueup/RateYear", "toString", "()Ljava/lang/String;"⟩ : MethodName)) (z := (⟨"com/example/ratebook/ratebook/trueup/RateYear", "toString", "()Ljava/lang/String;"⟩ : MethodName)) hown (mvT hZ (hw _ (List.mem_of_getElem? (i := 18) rfl))) (mvT hZ (hw _ (List.mem_of_getElem? (i := 19) rfl))) (notFace_of_selects (args := #[]) (mvT hZ (hw _ (List.mem_of_getElem? (i := 21) rfl)))) (mvT hZ (hw _ (List.mem_of_getElem? (i := 21) rfl))) (mvT hZ (hw _ (List.mem_of_getElem? (i := 20) rfl))) (by decide) (backOf (W := 1) (rm4 l Z a0 hw [] T110.heap n0 O110 b107 (p0 + p1) st d1 D1 d2 D2 z T1 T2 SC hz F110) hZ (hw _ (List.mem_of_getElem? (i := 22) rfl)) (hw _ (List.mem_of_getElem? (i := 2) rfl)) (by decide) (by decide)) q116a q116c (g := (mkF m 31 #[.val (.int p0), .val (.int p1), .val (.int p2), .val (.ref b101), .val (.ref b104), .unset, .unset] [(.ref b107), (.ref b106)])) rfl (by rw [hml]; rfl) (Steps.refl _) (argsL := []) (rest := [(.ref b106)]) (lenOf pd_7 rfl) rfl (by show 2 * 0 + _ ≤ _; exact Nat.le_of_eq rfl) (hb hby at_31) (fun _ _ => ⟨rfl, rfl, (by decide : 5 + 2 ≤ _), (by decide : 18 + 15 ≤ _)⟩)
  dsimp only [Pt.U, Pt.locs, Pt.cells, Pt.slots] at X116 l116 y116 z116 st116 hQ116
  subst l116 y116 z116
  obtain ⟨b116, rfl, N116, K116, gb116, d116, kk116, A116, Fc116, Fv116, V116⟩ := hQ116
  have Nf116 := Fr.app Nf110 N116
  have O116 := O110.keep K116 all0
  have KK116 := KK110.trans K116 all0
  have ne_b101_b116 : b101 ≠ b116 := Nat.ne_of_lt (Nat.lt_of_lt_of_le f111.lt gb116)
  have ne_b104_b116 : b104 ≠ b116 := Nat.ne_of_lt (Nat.lt_of_lt_of_le f112.lt gb116)
  have ne_b106_b116 : b106 ≠ b116 := Nat.ne_of_lt (Nat.lt_of_lt_of_le f113.lt gb116)
  have ne_b107_b116 : b107 ≠ b116 := Nat.ne_of_lt (Nat.lt_of_lt_of_le f114.lt gb116)
  have ne_d106_b116 : d106 ≠ b116 := Nat.ne_of_lt (Nat.lt_of_lt_of_le f115.lt gb116)
  have ge_b116 : n0 ≤ b116 := Nat.le_trans (own_osz O110) gb116
  have gk_b116 : h0.size ≤ b116 := Nat.le_trans KK110.1 gb116
  refine own_go (S' := (T116.setTop (mkF m 34 #[.val (.int p0), .val (.int p1), .val (.int p2), .val (.ref b101), .val (.ref b104), .unset, .unset] [(.ref b116), (.ref b106)]))) (fun tq kq => st116.trans kq) ?_
  have f117 := (f113.keep K116)
  have f118 := (((Fc106.ext E107).keep K110 (ninS ne_b106_b107 nin0)).keep K116 nin0)
  have f119 := (((Fv106.ext E107).keep K110 (ninS ne_b106_b107 nin0)).keep K116 nin0)
  have f120 := (f115.keep K116 nin0)
  obtain ⟨cq121, kq121, q121a, q121b, q121c⟩ := isOf hZ rfl f117
  obtain ⟨_, _, ⟨T121, L121, k121, n121⟩, -, X121, ⟨Lc121, hQ121, l121, y121, z121⟩, st121⟩ := X116.virtualBack hx (y := (⟨"java/lang/String", "equals", "(Ljava/lang/Object;)Z"⟩ : MethodName)) (z := (⟨"java/lang/String", "equals", "(Ljava/lang/Object;)Z"⟩ : MethodName)) hown (mvT hZ (hw _ (List.mem_of_getElem? (i := 48) rfl))) (mvT hZ (hw _ (List.mem_of_getElem? (i := 49) rfl))) (notFace_of_selects (args := #[]) (mvT hZ (hw _ (List.mem_of_getElem? (i := 51) rfl)))) (mvT hZ (hw _ (List.mem_of_getElem? (i := 51) rfl))) (mvT hZ (hw _ (List.mem_of_getElem? (i := 50) rfl))) (by decide) (backOf (W := 0) (rm9 l Z a0 hw [] T116.heap n0 O116 b106 b116 z d106 d116 _ _ (own_cs D1 D2 (p0 + p1)) SC hz f117 f118 f119 A116 Fc116 Fv116 f120 V116 (own_AIcs _ _ _)) hZ (hw _ (List.mem_of_getElem? (i := 52) rfl)) (hw _ (List.mem_of_getElem? (i := 31) rfl)) (by decide) (by decide)) q121a q121c (g := (mkF m 34 #[.val (.int p0), .val (.int p1), .val (.int p2), .val (.ref b101), .val (.ref b104), .unset, .unset] [(.ref b116), (.ref b106)])) rfl (by rw [hml]; rfl) (Steps.refl _) (argsL := [(.ref b116)]) (rest := []) (lenOf pd_8 rfl) rfl (by show 2 * 0 + _ ≤ _; exact Nat.le_of_eq rfl) (hb hby at_34) (fun _ _ => ⟨rfl, rfl, (by decide : 7 + 0 ≤ _), (by decide : 33 + 0 ≤ _)⟩)
  dsimp only [Pt.U, Pt.locs, Pt.cells, Pt.slots] at X121 l121 y121 z121 st121 hQ121
  subst l121 y121 z121
  obtain ⟨rfl, N121, eh121⟩ := hQ121
  have Nf121 := Fr.app Nf116 N121
  refine own_go (S' := (T121.setTop (mkF m 42 #[.val (.int p0), .val (.int p1), .val (.int p2), .val (.ref b101), .val (.ref b104), .val (.int (1 : Int32)), .unset] [(.int p2), (.ref b104)]))) (fun tq kq => st121.trans (XS.istore X121.here hx rfl (hb hby at_37) rfl (l' := #[.val (.int p0), .val (.int p1), .val (.int p2), .val (.ref b101), .val (.ref b104), .val (.int (1 : Int32)), .unset]) rfl (XS.aload X121.here hx rfl (hb hby at_39) rfl rfl (XS.iloadN X121.here hx rfl (hb hby at_41) rfl kq)))) ?_
  have f122 := ((((F104.keep K106 nin0).ext E107).keep K110 (ninS ne_b104_b107 nin0)).keep K116 nin0)
  have f123 := (f111.keep K116)
  have f124 := (f112.keep K116)
  have f125 := (f114.keep K116)
  obtain ⟨cq126, kq126, q126a, q126b, q126c⟩ := isOf hZ eh121 f124
  obtain ⟨_, _, ⟨T126, L126, k126, n126⟩, -, X126, ⟨Lc126, hQ126, l126, y126, z126⟩, st126⟩ := X121.virtualBack hx (y := (⟨"com/example/ratebook/ratebook/trueup/RateYear", "plus", "(I)Lcom/example/ratebook/ratebook/trueup/RateYear;"⟩ : MethodName)) (z := (⟨"com/example/ratebook/ratebook/trueup/RateYear", "plus", "(I)Lcom/example/ratebook/ratebook/trueup/RateYear;"⟩ : MethodName)) hown (mvT hZ (hw _ (List.mem_of_getElem? (i := 11) rfl))) (mvT hZ (hw _ (List.mem_of_getElem? (i := 12) rfl))) (notFace_of_selects (args := #[]) (mvT hZ (hw _ (List.mem_of_getElem? (i := 14) rfl)))) (mvT hZ (hw _ (List.mem_of_getElem? (i := 14) rfl))) (mvT hZ (hw _ (List.mem_of_getElem? (i := 13) rfl))) (by decide) (backOf (W := 0) (rm3 l Z a0 hw [] T116.heap n0 O116 b104 p2 (p0 + p1) f122) hZ (hw _ (List.mem_of_getElem? (i := 15) rfl)) (hw _ (List.mem_of_getElem? (i := 2) rfl)) (by decide) (by decide)) q126a q126c (g := (mkF m 42 #[.val (.int p0), .val (.int p1), .val (.int p2), .val (.ref b101), .val (.ref b104), .val (.int (1 : Int32)), .unset] [(.int p2), (.ref b104)])) rfl (by rw [hml]; rfl) (Steps.refl _) (argsL := [(.int p2)]) (rest := []) (lenOf pd_6 rfl) rfl (by show 2 * 0 + _ ≤ _; exact Nat.le_of_eq rfl) (hb hby at_42) (fun _ _ => ⟨rfl, eh121, (by decide : 7 + 1 ≤ _), (by decide : 33 + 1 ≤ _)⟩)
  dsimp only [Pt.U, Pt.locs, Pt.cells, Pt.slots] at X126 l126 y126 z126 st126 hQ126
  subst l126 y126 z126
  obtain ⟨b126, rfl, N126, K126, gb126, A126, F126⟩ := hQ126
  have Nf126 := Fr.app Nf121 N126
  have O126 := O116.keep K126 all0
  have KK126 := KK116.trans K126 all0
  have ne_b101_b126 : b101 ≠ b126 := Nat.ne_of_lt (Nat.lt_of_lt_of_le f123.lt gb126)
  have ne_b104_b126 : b104 ≠ b126 := Nat.ne_of_lt (Nat.lt_of_lt_of_le f124.lt gb126)
  have ne_b106_b126 : b106 ≠ b126 := Nat.ne_of_lt (Nat.lt_of_lt_of_le f117.lt gb126)
  have ne_b107_b126 : b107 ≠ b126 := Nat.ne_of_lt (Nat.lt_of_lt_of_le f125.lt gb126)
  have ne_b116_b126 : b116 ≠ b126 := Nat.ne_of_lt (Nat.lt_of_lt_of_le A116.lt gb126)
  have ne_d106_b126 : d106 ≠ b126 := Nat.ne_of_lt (Nat.lt_of_lt_of_le f120.lt gb126)
  have ne_d116_b126 : d116 ≠ b126 := Nat.ne_of_lt (Nat.lt_of_lt_of_le V116.lt gb126)
  have ge_b126 : n0 ≤ b126 := Nat.le_trans (own_osz O116) gb126
  have gk_b126 : h0.size ≤ b126 := Nat.le_trans KK116.1 gb126
  refine own_go (S' := (T126.setTop (mkF m 45 #[.val (.int p0), .val (.int p1), .val (.int p2), .val (.ref b101), .val (.ref b104), .val (.int (1 : Int32)), .unset] [(.ref b126)]))) (fun tq kq => st126.trans kq) ?_
  have f127 := (f123.keep K126)
  have f128 := (f124.keep K126)
  have f129 := (f117.keep K126)
  have f130 := (f125.keep K126)
  have f131 := (A116.keep K126)
  have f132 := (f120.keep K126 nin0)
  have f133 := (V116.keep K126 nin0)
  obtain ⟨cq134, kq134, q134a, q134b, q134c⟩ := isOf hZ rfl A126
  obtain ⟨_, _, ⟨T134, L134, k134, n134⟩, -, X134, ⟨Lc134, hQ134, l134, y134, z134⟩, st134⟩ := X126.virtualBack hx (y := (⟨"com/example/ratebook/ratebook/trueup/RateYear", "toString", "()Ljava/lang/String;"⟩ : MethodName)) (z := (⟨"com/example/ratebook/ratebook/trueup/RateYear", "toString", "()Ljava/lang/String;"⟩ : MethodName)) hown (mvT hZ (hw _ (List.mem_of_getElem? (i := 18) rfl))) (mvT hZ (hw _ (List.mem_of_getElem? (i := 19) rfl))) (notFace_of_selects (args := #[]) (mvT hZ (hw _ (List.mem_of_getElem? (i := 21) rfl)))) (mvT hZ (hw _ (List.mem_of_getElem? (i := 21) rfl))) (mvT hZ (hw _ (List.mem_of_getElem? (i := 20) rfl))) (by decide) (backOf (W := 0) (rm4 l Z a0 hw [] T126.heap n0 O126 b126 ((p0 + p1) + p2) st d1 D1 d2 D2 z T1 T2 SC hz F126) hZ (hw _ (List.mem_of_getElem? (i := 22) rfl)) (hw _ (List.mem_of_getElem? (i := 2) rfl)) (by decide) (by decide)) q134a q134c (g := (mkF m 45 #[.val (.int p0), .val (.int p1), .val (.int p2), .val (.ref b101), .val (.ref b104), .val (.int (1 : Int32)), .unset] [(.ref b126)])) rfl (by rw [hml]; rfl) (Steps.refl _) (argsL := []) (rest := []) (lenOf pd_7 rfl) rfl (by show 2 * 0 + _ ≤ _; exact Nat.le_of_eq rfl) (hb hby at_45) (fun _ _ => ⟨rfl, rfl, (by decide : 8 + 2 ≤ _), (by decide : 34 + 15 ≤ _)⟩)
  dsimp only [Pt.U, Pt.locs, Pt.cells, Pt.slots] at X134 l134 y134 z134 st134 hQ134
  subst l134 y134 z134
  obtain ⟨b134, rfl, N134, K134, gb134, d134, kk134, A134, Fc134, Fv134, V134⟩ := hQ134
  have Nf134 := Fr.app Nf126 N134
  have O134 := O126.keep K134 all0
  have KK134 := KK126.trans K134 all0
  have ne_b101_b134 : b101 ≠ b134 := Nat.ne_of_lt (Nat.lt_of_lt_of_le f127.lt gb134)
  have ne_b104_b134 : b104 ≠ b134 := Nat.ne_of_lt (Nat.lt_of_lt_of_le f128.lt gb134)
  have ne_b106_b134 : b106 ≠ b134 := Nat.ne_of_lt (Nat.lt_of_lt_of_le f129.lt gb134)
  have ne_b107_b134 : b107 ≠ b134 := Nat.ne_of_lt (Nat.lt_of_lt_of_le f130.lt gb134)
  have ne_b116_b134 : b116 ≠ b134 := Nat.ne_of_lt (Nat.lt_of_lt_of_le f131.lt gb134)
  have ne_b126_b134 : b126 ≠ b134 := Nat.ne_of_lt (Nat.lt_of_lt_of_le A126.lt gb134)
  have ne_d106_b134 : d106 ≠ b134 := Nat.ne_of_lt (Nat.lt_of_lt_of_le f132.lt gb134)
  have ne_d116_b134 : d116 ≠ b134 := Nat.ne_of_lt (Nat.lt_of_lt_of_le f133.lt gb134)
  have ge_b134 : n0 ≤ b134 := Nat.le_trans (own_osz O126) gb134
  have gk_b134 : h0.size ≤ b134 := Nat.le_trans KK126.1 gb134
  refine own_go (S' := (T134.setTop (mkF m 52 #[.val (.int p0), .val (.int p1), .val (.int p2), .val (.ref b101), .val (.ref b104), .val (.int (1 : Int32)), .unset] [(.int (p1 + p2)), (.ref b101), (.ref b134)]))) (fun tq kq => st134.trans (XS.aloadN X134.here hx rfl (hb hby at_48) rfl rfl (XS.iloadN X134.here hx rfl (hb hby at_49) rfl (XS.iloadN X134.here hx rfl (hb hby at_50) rfl (XS.iadd X134.here hx rfl (hb hby at_51) rfl kq))))) ?_
  have f135 := (((((((F102.keep K104 nin0).keep K106 nin0).ext E107).keep K110 (ninS ne_b101_b107 nin0)).keep K116 nin0).keep K126 nin0).keep K134 nin0)
  have f136 := (f127.keep K134)
  have f137 := (f128.keep K134)
  have f138 := (f129.keep K134)
  have f139 := (f130.keep K134)
  have f140 := (f131.keep K134)
  have f141 := (A126.keep K134)
  have f142 := (f132.keep K134 nin0)
  have f143 := (f133.keep K134 nin0)
  obtain ⟨cq144, kq144, q144a, q144b, q144c⟩ := isOf hZ rfl f136
  obtain ⟨_, _, ⟨T144, L144, k144, n144⟩, -, X144, ⟨Lc144, hQ144, l144, y144, z144⟩, st144⟩ := X134.virtualBack hx (y := (⟨"com/example/ratebook/ratebook/trueup/RateYear", "plus", "(I)Lcom/example/ratebook/ratebook/trueup/RateYear;"⟩ : MethodName)) (z := (⟨"com/example/ratebook/ratebook/trueup/RateYear", "plus", "(I)Lcom/example/ratebook/ratebook/trueup/RateYear;"⟩ : MethodName)) hown (mvT hZ (hw _ (List.mem_of_getElem? (i := 11) rfl))) (mvT hZ (hw _ (List.mem_of_getElem? (i := 12) rfl))) (notFace_of_selects (args := #[]) (mvT hZ (hw _ (List.mem_of_getElem? (i := 14) rfl)))) (mvT hZ (hw _ (List.mem_of_getElem? (i := 14) rfl))) (mvT hZ (hw _ (List.mem_of_getElem? (i := 13) rfl))) (by decide) (backOf (W := 1) (rm3 l Z a0 hw [] T134.heap n0 O134 b101 (p1 + p2) p0 f135) hZ (hw _ (List.mem_of_getElem? (i := 15) rfl)) (hw _ (List.mem_of_getElem? (i := 2) rfl)) (by decide) (by decide)) q144a q144c (g := (mkF m 52 #[.val (.int p0), .val (.int p1), .val (.int p2), .val (.ref b101), .val (.ref b104), .val (.int (1 : Int32)), .unset] [(.int (p1 + p2)), (.ref b101), (.ref b134)])) rfl (by rw [hml]; rfl) (Steps.refl _) (argsL := [(.int (p1 + p2))]) (rest := [(.ref b134)]) (lenOf pd_6 rfl) rfl (by show 2 * 0 + _ ≤ _; exact Nat.le_of_eq rfl) (hb hby at_52) (fun _ _ => ⟨rfl, rfl, (by decide : 10 + 1 ≤ _), (by decide : 49 + 1 ≤ _)⟩)
  dsimp only [Pt.U, Pt.locs, Pt.cells, Pt.slots] at X144 l144 y144 z144 st144 hQ144
  subst l144 y144 z144
  obtain ⟨b144, rfl, N144, K144, gb144, A144, F144⟩ := hQ144
  have Nf144 := Fr.app Nf134 N144
  have O144 := O134.keep K144 all0
  have KK144 := KK134.trans K144 all0
  have ne_b101_b144 : b101 ≠ b144 := Nat.ne_of_lt (Nat.lt_of_lt_of_le f136.lt gb144)
  have ne_b104_b144 : b104 ≠ b144 := Nat.ne_of_lt (Nat.lt_of_lt_of_le f137.lt gb144)
  have ne_b106_b144 : b106 ≠ b144 := Nat.ne_of_lt (Nat.lt_of_lt_of_le f138.lt gb144)
  have ne_b107_b144 : b107 ≠ b144 := Nat.ne_of_lt (Nat.lt_of_lt_of_le f139.lt gb144)
  have ne_b116_b144 : b116 ≠ b144 := Nat.ne_of_lt (Nat.lt_of_lt_of_le f140.lt gb144)
  have ne_b126_b144 : b126 ≠ b144 := Nat.ne_of_lt (Nat.lt_of_lt_of_le f141.lt gb144)
  have ne_b134_b144 : b134 ≠ b144 := Nat.ne_of_lt (Nat.lt_of_lt_of_le A134.lt gb144)
  have ne_d106_b144 : d106 ≠ b144 := Nat.ne_of_lt (Nat.lt_of_lt_of_le f142.lt gb144)
  have ne_d116_b144 : d116 ≠ b144 := Nat.ne_of_lt (Nat.lt_of_lt_of_le f143.lt gb144)
  have ne_d134_b144 : d134 ≠ b144 := Nat.ne_of_lt (Nat.lt_of_lt_of_le V134.lt gb144)
  have ge_b144 : n0 ≤ b144 := Nat.le_trans (own_osz O134) gb144
  have gk_b144 : h0.size ≤ b144 := Nat.le_trans KK134.1 gb144
  refine own_go (S' := (T144.setTop (mkF m 55 #[.val (.int p0), .val (.int p1), .val (.int p2), .val (.ref b101), .val (.ref b104), .val (.int (1 : Int32)), .unset] [(.ref b144), (.ref b134)]))) (fun tq kq => st144.trans kq) ?_
  have f145 := (f136.keep K144)
  have f146 := (f137.keep K144)
  have f147 := (f138.keep K144)
  have f148 := (f139.keep K144)
  have f149 := (f140.keep K144)
  have f150 := (f141.keep K144)
  have f151 := (A134.keep K144)
  have f152 := (f142.keep K144 nin0)
  have f153 := (f143.keep K144 nin0)
  have f154 := (V134.keep K144 nin0)
  obtain ⟨cq155, kq155, q155a, q155b, q155c⟩ := isOf hZ rfl A144
  obtain ⟨_, _, ⟨T155, L155, k155, n155⟩, -, X155, ⟨Lc155, hQ155, l155, y155, z155⟩, st155⟩ := X144.virtualBack hx (y := (⟨"com/example/ratebook/ratebook/trueup/RateYear", "toString", "()Ljava/lang/String;"⟩ : MethodName)) (z := (⟨"com/example/ratebook/ratebook/trueup/RateYear", "toString", "()Ljava/lang/String;"⟩ : MethodName)) hown (mvT hZ (hw _ (List.mem_of_getElem? (i := 18) rfl))) (mvT hZ (hw _ (List.mem_of_getElem? (i := 19) rfl))) (notFace_of_selects (args := #[]) (mvT hZ (hw _ (List.mem_of_getElem? (i := 21) rfl)))) (mvT hZ (hw _ (List.mem_of_getElem? (i := 21) rfl))) (mvT hZ (hw _ (List.mem_of_getElem? (i := 20) rfl))) (by decide) (backOf (W := 1) (rm4 l Z a0 hw [] T144.heap n0 O144 b144 (p0 + (p1 + p2)) st d1 D1 d2 D2 z T1 T2 SC hz F144) hZ (hw _ (List.mem_of_getElem? (i := 22) rfl)) (hw _ (List.mem_of_getElem? (i := 2) rfl)) (by decide) (by decide)) q155a q155c (g := (mkF m 55 #[.val (.int p0), .val (.int p1), .val (.int p2), .val (.ref b101), .val (.ref b104), .val (.int (1 : Int32)), .unset] [(.ref b144), (.ref b134)])) rfl (by rw [hml]; rfl) (Steps.refl _) (argsL := []) (rest := [(.ref b134)]) (lenOf pd_7 rfl) rfl (by show 2 * 0 + _ ≤ _; exact Nat.le_of_eq rfl) (hb hby at_55) (fun _ _ => ⟨rfl, rfl, (by decide : 11 + 2 ≤ _), (by decide : 50 + 15 ≤ _)⟩)
  dsimp only [Pt.U, Pt.locs, Pt.cells, Pt.slots] at X155 l155 y155 z155 st155 hQ155
  subst l155 y155 z155
  obtain ⟨b155, rfl, N155, K155, gb155, d155, kk155, A155, Fc155, Fv155, V155⟩ := hQ155
  have Nf155 := Fr.app Nf144 N155
  have O155 := O144.keep K155 all0
  have KK155 := KK144.trans K155 all0
  have ne_b101_b155 : b101 ≠ b155 := Nat.ne_of_lt (Nat.lt_of_lt_of_le f145.lt gb155)
  have ne_b104_b155 : b104 ≠ b155 := Nat.ne_of_lt (Nat.lt_of_lt_of_le f146.lt gb155)
  have ne_b106_b155 : b106 ≠ b155 := Nat.ne_of_lt (Nat.lt_of_lt_of_le f147.lt gb155)
  have ne_b107_b155 : b107 ≠ b155 := Nat.ne_of_lt (Nat.lt_of_lt_of_le f148.lt gb155)
  have ne_b116_b155 : b116 ≠ b155 := Nat.ne_of_lt (Nat.lt_of_lt_of_le f149.lt gb155)
  have ne_b126_b155 : b126 ≠ b155 := Nat.ne_of_lt (Nat.lt_of_lt_of_le f150.lt gb155)
  have ne_b134_b155 : b134 ≠ b155 := Nat.ne_of_lt (Nat.lt_of_lt_of_le f151.lt gb155)
  have ne_b144_b155 : b144 ≠ b155 := Nat.ne_of_lt (Nat.lt_of_lt_of_le A144.lt gb155)
  have ne_d106_b155 : d106 ≠ b155 := Nat.ne_of_lt (Nat.lt_of_lt_of_le f152.lt gb155)
  have ne_d116_b155 : d116 ≠ b155 := Nat.ne_of_lt (Nat.lt_of_lt_of_le f153.lt gb155)
  have ne_d134_b155 : d134 ≠ b155 := Nat.ne_of_lt (Nat.lt_of_lt_of_le f154.lt gb155)
  have ge_b155 : n0 ≤ b155 := Nat.le_trans (own_osz O144) gb155
  have gk_b155 : h0.size ≤ b155 := Nat.le_trans KK144.1 gb155
  refine own_go (S' := (T155.setTop (mkF m 58 #[.val (.int p0), .val (.int p1), .val (.int p2), .val (.ref b101), .val (.ref b104), .val (.int (1 : Int32)), .unset] [(.ref b155), (.ref b134)]))) (fun tq kq => st155.trans kq) ?_
  have f156 := (f151.keep K155)
  have f157 := ((Fc134.keep K144 nin0).keep K155 nin0)
  have f158 := ((Fv134.keep K144 nin0).keep K155 nin0)
  have f159 := (f154.keep K155 nin0)
  obtain ⟨cq160, kq160, q160a, q160b, q160c⟩ := isOf hZ rfl f156
  obtain ⟨_, _, ⟨T160, L160, k160, n160⟩, -, X160, ⟨Lc160, hQ160, l160, y160, z160⟩, st160⟩ := X155.virtualBack hx (y := (⟨"java/lang/String", "equals", "(Ljava/lang/Object;)Z"⟩ : MethodName)) (z := (⟨"java/lang/String", "equals", "(Ljava/lang/Object;)Z"⟩ : MethodName)) hown (mvT hZ (hw _ (List.mem_of_getElem? (i := 48) rfl))) (mvT hZ (hw _ (List.mem_of_getElem? (i := 49) rfl))) (notFace_of_selects (args := #[]) (mvT hZ (hw _ (List.mem_of_getElem? (i := 51) rfl)))) (mvT hZ (hw _ (List.mem_of_getElem? (i := 51) rfl))) (mvT hZ (hw _ (List.mem_of_getElem? (i := 50) rfl))) (by decide) (backOf (W := 0) (rm9 l Z a0 hw [] T155.heap n0 O155 b134 b155 z d134 d155 _ _ (own_cs D1 D2 ((p0 + p1) + p2)) SC hz f156 f157 f158 A155 Fc155 Fv155 f159 (by rw [Int32.add_assoc]; exact V155) (own_AIcs _ _ _)) hZ (hw _ (List.mem_of_getElem? (i := 52) rfl)) (hw _ (List.mem_of_getElem? (i := 31) rfl)) (by decide) (by decide)) q160a q160c (g := (mkF m 58 #[.val (.int p0), .val (.int p1), .val (.int p2), .val (.ref b101), .val (.ref b104), .val (.int (1 : Int32)), .unset] [(.ref b155), (.ref b134)])) rfl (by rw [hml]; rfl) (Steps.refl _) (argsL := [(.ref b155)]) (rest := []) (lenOf pd_8 rfl) rfl (by show 2 * 0 + _ ≤ _; exact Nat.le_of_eq rfl) (hb hby at_58) (fun _ _ => ⟨rfl, rfl, (by decide : 13 + 0 ≤ _), (by decide : 65 + 0 ≤ _)⟩)
  dsimp only [Pt.U, Pt.locs, Pt.cells, Pt.slots] at X160 l160 y160 z160 st160 hQ160
  subst l160 y160 z160
  obtain ⟨rfl, N160, eh160⟩ := hQ160
  have Nf160 := Fr.app Nf155 N160
  refine own_go (S' := (T160.setTop (mkF m 78 #[.val (.int p0), .val (.int p1), .val (.int p2), .val (.ref b101), .val (.ref b104), .val (.int (1 : Int32)), .val (.int (1 : Int32))] [(.int (1 : Int32))]))) (fun tq kq => st160.trans (XS.istore X160.here hx rfl (hb hby at_61) rfl (l' := #[.val (.int p0), .val (.int p1), .val (.int p2), .val (.ref b101), .val (.ref b104), .val (.int (1 : Int32)), .val (.int (1 : Int32))]) rfl (XS.iload X160.here hx rfl (hb hby at_63) rfl (XS.ifNo X160.here hx rfl (hb hby at_65) rfl ((if0 _ _).trans (feq (by decide : ¬ ((1 : Int32) = (0 : Int32)))).1) (XS.iload X160.here hx rfl (hb hby at_68) rfl (XS.ifNo X160.here hx rfl (hb hby at_70) rfl ((if0 _ _).trans (feq (by decide : ¬ ((1 : Int32) = (0 : Int32)))).1) (XS.iconst X160.here hx rfl (hb hby at_73) (XS.goto X160.here hx rfl (pc0 := 74) (pc' := 78) rfl (hb hby at_74) (by decide) (by decide) kq)))))))) ?_
  refine own_retN X160 hx hlk hret (by simp) (hb hby at_78) (by decide) (by decide) ?_
  exact ⟨rfl, Nf160⟩
set_option maxRecDepth 65536 in
set_option maxHeartbeats 40000000 in
theorem comes_1 {Post : Tables → Env → Array Value → State → Outcome → State → Prop} (hpost : ∀ tb e args s v u, (limb_1_1.after args s (.returned v) u = true ∧ limb_1_2.after args s (.returned v) u = true ∧ True) → FrameEnd s (.returned v) u (Jvm.fieldLocs frame_1_writes args s ++ Jvm.arrayLocs frame_1_arrays args s ++ Jvm.staticLocs frame_1_statics s) 40 256 → Post tb e args s (.returned v) u) :
    ArmFor flags0 classFile x code maxLocals ret World_1 tables_1 room_1 Calls_1 rest_1 Pre_1 Post := by
  intro l hfl _ _ p e ha hc hk s m args below hf hA hF happ hP
  obtain ⟨hcalls, hrest, hpre⟩ := hP
  obtain ⟨-, -, -, hnamed, -, -, -, hat⟩ := (Spec.applies_iff hf).mp happ
  obtain ⟨hg, hn⟩ := and_e (Cond.before_iff.mp (show (Jvm.Cond.and given_1 narrow_1).before args s = true from hpre))
  obtain ⟨hcount, hg0⟩ := and_e hg
  obtain ⟨ga0, hg1⟩ := and_e hg0
  obtain ⟨ga1, hg2⟩ := and_e hg1
  have ga2 := hg2
  obtain ⟨w0, w1, w2, rfl⟩ : ∃ w0 w1 w2 : Value, args = #[w0, w1, w2] := by
    have hs : args.size = 3 := by simpa [Cond.value, given_1] using hcount
    obtain ⟨L⟩ := args
    match L, hs with
    | [w0, w1, w2], _ => exact ⟨w0, w1, w2, rfl⟩
  have hw := fun d (hd : d ∈ tables_1) => atoms_spec (ws := Jvm.Cond.code x code maxLocals ret :: tables_1) hat d (List.mem_cons_of_mem _ hd)
  have hfit : Fit s := fun {y c} hc i hi => by
    obtain ⟨ha, rfl⟩ := Array.getElem?_eq_some_iff.mp hc
    have q := List.all_eq_true.mp ((Array.all_eq_true_iff_forall_mem.mp hF) _ (Array.getElem_mem ha)) i (List.mem_range.mpr hi)
    simpa [Array.getElem?_eq_getElem hi] using q
  obtain ⟨hsets, hown0⟩ := atoms_of _ (rest_1_c_eq ▸ (show rest_1_c.before _ s = true from hrest))
  have hr0 := Cond.before_iff.mp hown0
  obtain ⟨i0, ei0⟩ := is_v ga0
  obtain rfl : w0 = (.int i0) := Option.some.inj ei0
  obtain ⟨i1, ei1⟩ := is_v ga1
  obtain rfl : w1 = (.int i1) := Option.some.inj ei1
  obtain ⟨i2, ei2⟩ := is_v ga2
  obtain rfl : w2 = (.int i2) := Option.some.inj ei2
  obtain ⟨z, ez⟩ := is_v (Cond.before_iff.mp (hsets _ (List.mem_of_getElem? (i := 1) rfl)))
  have SC := Sta.start ez (Or.inl (hsets _ (List.mem_of_getElem? (i := 0) rfl)))
  have hz : ¬ (z = (0 : Int32)) := own_nz ez (Cond.before_iff.mp (hsets _ (List.mem_of_getElem? (i := 2) rfl)))
  obtain ⟨st, d1, D1, d2, D2, T1, -, T2, -⟩ := Jvm.SetKit.digits_of hfit (hw _ (List.mem_of_getElem? (i := 32) rfl)) (hw _ (List.mem_of_getElem? (i := 25) rfl)) (hsets _ (List.mem_of_getElem? (i := 10) rfl)) (hsets _ (List.mem_of_getElem? (i := 12) rfl)) (hsets _ (List.mem_of_getElem? (i := 13) rfl)) (hsets _ (List.mem_of_getElem? (i := 14) rfl)) (hsets _ (List.mem_of_getElem? (i := 15) rfl)) (hsets _ (List.mem_of_getElem? (i := 17) rfl)) (hsets _ (List.mem_of_getElem? (i := 18) rfl)) (hsets _ (List.mem_of_getElem? (i := 19) rfl))
  obtain ⟨n, o, h1, h2, h3, _, L, rfl, ⟨rfl, N⟩, hq⟩ := rm0 l s _ hw tables_1 s.heap s.heap.size (Old.start s) i0 i1 i2 st d1 D1 d2 D2 z T1 T2 SC hz p e ha hc hk s m _ below hf ((Spec.applies_iff_loose hf).mp happ).1 ⟨rfl, State.Warmed39.refl s, rfl⟩ trivial
  refine ⟨n, _, h1, h2, h3, hpost _ _ _ _ _ _ ⟨Cond.after_iff.mpr rfl, Cond.after_iff.mpr (eq_i res_at (Term.int_eval (1)) rfl), trivial⟩ ⟨hq.1, hq.2.1, (hq.2.2.sift fun y hy => Or.inr (N y hy)).mono (by decide) (by decide)⟩⟩
theorem main_1_1 : Claimed_1_1 := comes_1 fun _ _ _ _ _ _ h hF => ⟨h.1, hF⟩
theorem main_1_2 : Claimed_1_2 := comes_1 fun _ _ _ _ _ _ h hF => ⟨h.2.1, hF⟩
end Jvm.Pilot.@@N@@
namespace Jvm.Pilot.@@N@@
open Jvm Jvm.ClassFile Sem Op Lib Jvm.Free Jvm.Stand Jvm.Pilot.@@N@@.Jvm.D
/-! MADE BY PROGRAM (witnessworld.py) out of the Statement's table words and the real class files: 20 classes; the members and pool entries that the words name. The judged class is class 1, her method 1. -/
namespace start1
open Jvm.ClassFile
def u (s : String) : CpInfo := .utf8 (stringToUtf16 s)
/-- a pool by its gaps: so many unusable entries, then the entry; so many at the end -/
def gap : Nat → List CpInfo → List CpInfo
  | 0, r => r
  | n + 1, r => .unusable :: gap n r
def poolList (es : List (Nat × CpInfo)) (last : Nat) : List CpInfo := es.foldr (fun e r => gap e.1 (e.2 :: r)) (gap last [])
def pool (es : List (Nat × CpInfo)) (last : Nat) : Array CpInfo := ⟨poolList es last⟩
def fileOf (pool : Array CpInfo) (this : Nat) (attrs : Array Attribute := #[]) (ms : Array MethodInfo := #[]) (fl : Nat := 33) (sup : Nat := 0) (ifs : Array Nat := #[]) (fds : Array FieldInfo := #[]) : ClassFile where
  minorVersion := 0
  majorVersion := 65
  constantPool := pool
  accessFlags := fl
  thisClass := this
  superClass := sup
  interfaces := ifs
  fields := fds
  methods := ms
  attributes := attrs
def plain (name : String) (sup : Option ClassId) : Class where
  name := name
  kind := .ordinary
  loader := none
  accessFlags := 33
  super := sup
  interfaces := #[]
  cf := none
  fields := #[]
  methods := #[]
  instanceTypes := #[]
  staticTypes := #[]
  resolved := #[]
  callSites := []
  init := .initialized
  statics := none
  mirror := none

def pool0 : Array CpInfo := pool [(5, u "<init>"), (0, u "()V"), (1, .class_ 10), (1, u "java/lang/Object")] 113

def k0c0 : Code := { maxStack := 0, maxLocals := 1, code := object_method_1_code, exceptionTable := #[], attributes := #[] }
def k0m0 : Method := { name := "<init>", desc := "()V", sig := { parameters := [], returnType := none }, accessFlags := 1, code := some k0c0 }
/-- java/lang/Object -/
def k0 : Class := { plain "java/lang/Object" none with
  accessFlags := 33
  interfaces := #[]
  cf := some (fileOf pool0 8 #[] #[{ accessFlags := 1, nameIndex := 5, descriptorIndex := 6, attributes := #[] }] 33 0 #[] #[])
  fields := #[]
  methods := #[k0m0]
  instanceTypes := #[]
  staticTypes := #[]
  resolved := Array.replicate 124 none
  statics := none }

def pool1 : Array CpInfo := pool [(2, .class_ 4), (1, u "java/lang/Object"), (0, u "<init>"), (0, u "()V"), (0, .class_ 8), (0, u "com/example/ratebook/ratebook/trueup/RateYear"), (0, .methodref 7 10), (0, .nameAndType 5 11), (0, u "(I)V"), (0, .methodref 7 13), (0, .nameAndType 14 15), (0, u "plus"), (0, u "(I)Lcom/example/ratebook/ratebook/trueup/RateYear;"), (0, .methodref 7 17), (0, .nameAndType 18 19), (0, u "toString"), (0, u "()Ljava/lang/String;"), (0, .methodref 21 22), (0, .class_ 23), (0, .nameAndType 24 25), (0, u "java/lang/String"), (0, u "equals"), (0, u "(Ljava/lang/Object;)Z"), (0, .class_ 27), (0, u "com/example/ratebook/ratebook/trueup/RateYearPlusPinLaw"), (2, u "law"), (0, u "(III)Z")] 3

def k1m0 : Method := { name := "<init>", desc := "()V", sig := { parameters := [], returnType := none }, accessFlags := 1, code := none }
def k1c1 : Code := { maxStack := 5, maxLocals := 7, code := code, exceptionTable := #[], attributes := #[] }
def k1m1 : Method := { name := "law", desc := "(III)Z", sig := { parameters := [.int, .int, .int], returnType := some .boolean }, accessFlags := 9, code := some k1c1 }
/-- com/example/ratebook/ratebook/trueup/RateYearPlusPinLaw -/
def k1 : Class := { plain "com/example/ratebook/ratebook/trueup/RateYearPlusPinLaw" (some 0) with
  accessFlags := 49
  interfaces := #[]
  cf := some (fileOf pool1 26 #[] #[{ accessFlags := 1, nameIndex := 5, descriptorIndex := 6, attributes := #[] }, { accessFlags := 9, nameIndex := 30, descriptorIndex := 31, attributes := #[] }] 49 2 #[] #[])
  fields := #[]
  methods := #[k1m0, k1m1]
  instanceTypes := #[]
  staticTypes := #[]
  resolved := Array.replicate 35 none
  statics := none }

def pool2 : Array CpInfo := pool [(1, .class_ 2), (0, u "com/example/ratebook/ratebook/StatementPeriod"), (0, .class_ 4), (0, u "java/lang/Object")] 4

/-- com/example/ratebook/ratebook/StatementPeriod -/
def k2 : Class := { plain "com/example/ratebook/ratebook/StatementPeriod" (some 0) with
  accessFlags := 1537
  interfaces := #[]
  cf := some (fileOf pool2 1 #[] #[] 1537 3 #[] #[])
  fields := #[]
  methods := #[]
  instanceTypes := #[]
  staticTypes := #[]
  resolved := Array.replicate 9 none
  statics := none }

def pool3 : Array CpInfo := pool [(1, .methodref 2 3), (0, .class_ 4), (0, .nameAndType 5 6), (0, u "java/lang/Object"), (0, u "<init>"), (0, u "()V"), (0, .fieldref 8 9), (0, .class_ 10), (0, .nameAndType 11 12), (0, u "com/example/ratebook/ratebook/trueup/RateYear"), (0, u "year"), (0, u "I"), (0, .methodref 8 14), (0, .nameAndType 5 15), (0, u "(I)V"), (0, .methodref 17 18), (0, .class_ 19), (0, .nameAndType 20 21), (0, u "java/lang/Integer"), (0, u "toString"), (0, u "(I)Ljava/lang/String;"), (0, .class_ 23), (0, u "com/example/ratebook/ratebook/StatementPeriod"), (2, u "plus"), (0, u "(I)Lcom/example/ratebook/ratebook/trueup/RateYear;"), (0, u "()Ljava/lang/String;")] 2

def k3c0 : Code := { maxStack := 2, maxLocals := 2, code := prog_49_method_1_code, exceptionTable := #[], attributes := #[] }
def k3m0 : Method := { name := "<init>", desc := "(I)V", sig := { parameters := [.int], returnType := none }, accessFlags := 0, code := some k3c0 }
def k3c1 : Code := { maxStack := 4, maxLocals := 2, code := prog_49_method_2_code, exceptionTable := #[], attributes := #[] }
def k3m1 : Method := { name := "plus", desc := "(I)Lcom/example/ratebook/ratebook/trueup/RateYear;", sig := { parameters := [.int], returnType := some (.object "com/example/ratebook/ratebook/trueup/RateYear") }, accessFlags := 0, code := some k3c1 }
def k3c2 : Code := { maxStack := 1, maxLocals := 1, code := prog_49_method_3_code, exceptionTable := #[], attributes := #[] }
def k3m2 : Method := { name := "toString", desc := "()Ljava/lang/String;", sig := { parameters := [], returnType := some (.object "java/lang/String") }, accessFlags := 1, code := some k3c2 }
/-- com/example/ratebook/ratebook/trueup/RateYear -/
def k3 : Class := { plain "com/example/ratebook/ratebook/trueup/RateYear" (some 0) with
  accessFlags := 48
  interfaces := #[2]
  cf := some (fileOf pool3 8 #[] #[{ accessFlags := 0, nameIndex := 5, descriptorIndex := 15, attributes := #[] }, { accessFlags := 0, nameIndex := 26, descriptorIndex := 27, attributes := #[] }, { accessFlags := 1, nameIndex := 20, descriptorIndex := 28, attributes := #[] }] 48 2 #[22] #[{ accessFlags := 18, nameIndex := 11, descriptorIndex := 12, attributes := #[] }])
  fields := #[{ name := "year", type := .int, accessFlags := 18, slot := 0, constantValue := 0 }]
  methods := #[k3m0, k3m1, k3m2]
  instanceTypes := #[.int]
  staticTypes := #[]
  resolved := Array.replicate 31 none
  statics := none }

def pool4 : Array CpInfo := pool [(1, .class_ 2), (0, u "java/io/Serializable"), (0, .class_ 4), (0, u "java/lang/Object")] 2

/-- java/io/Serializable -/
def k4 : Class := { plain "java/io/Serializable" (some 0) with
  accessFlags := 1537
  interfaces := #[]
  cf := some (fileOf pool4 1 #[] #[] 1537 3 #[] #[])
  fields := #[]
  methods := #[]
  instanceTypes := #[]
  staticTypes := #[]
  resolved := Array.replicate 7 none
  statics := none }

def pool5 : Array CpInfo := pool [(2, .class_ 4), (1, u "java/lang/Object"), (0, u "<init>"), (0, u "()V"), (1, .class_ 10), (1, u "java/lang/Number"), (2, .class_ 14), (0, u "java/io/Serializable"), (0, u "serialVersionUID"), (0, u "J")] 20

def k5m0 : Method := { name := "<init>", desc := "()V", sig := { parameters := [], returnType := none }, accessFlags := 1, code := none }
/-- java/lang/Number -/
def k5 : Class := { plain "java/lang/Number" (some 0) with
  accessFlags := 1057
  interfaces := #[4]
  cf := some (fileOf pool5 8 #[] #[{ accessFlags := 1, nameIndex := 5, descriptorIndex := 6, attributes := #[] }] 1057 2 #[13] #[{ accessFlags := 26, nameIndex := 15, descriptorIndex := 16, attributes := #[] }])
  fields := #[{ name := "serialVersionUID", type := .long, accessFlags := 26, slot := 0, constantValue := 0 }]
  methods := #[k5m0]
  instanceTypes := #[]
  staticTypes := #[.long]
  resolved := Array.replicate 37 none
  statics := none }

def pool6 : Array CpInfo := pool [(1, .class_ 2), (0, u "java/lang/Comparable"), (0, .class_ 4), (0, u "java/lang/Object")] 7

/-- java/lang/Comparable -/
def k6 : Class := { plain "java/lang/Comparable" (some 0) with
  accessFlags := 1537
  interfaces := #[]
  cf := some (fileOf pool6 1 #[] #[] 1537 3 #[] #[])
  fields := #[]
  methods := #[]
  instanceTypes := #[]
  staticTypes := #[]
  resolved := Array.replicate 12 none
  statics := none }

def pool7 : Array CpInfo := pool [(1, .class_ 2), (0, u "java/lang/constant/Constable"), (0, .class_ 4), (0, u "java/lang/Object")] 6

/-- java/lang/constant/Constable -/
def k7 : Class := { plain "java/lang/constant/Constable" (some 0) with
  accessFlags := 1537
  interfaces := #[]
  cf := some (fileOf pool7 1 #[] #[] 1537 3 #[] #[])
  fields := #[]
  methods := #[]
  instanceTypes := #[]
  staticTypes := #[]
  resolved := Array.replicate 11 none
  statics := none }

def pool8 : Array CpInfo := pool [(1, .class_ 2), (0, u "java/lang/constant/ConstantDesc"), (0, .class_ 4), (0, u "java/lang/Object")] 32

/-- java/lang/constant/ConstantDesc -/
def k8 : Class := { plain "java/lang/constant/ConstantDesc" (some 0) with
  accessFlags := 1537
  interfaces := #[]
  cf := some (fileOf pool8 1 #[] #[] 1537 3 #[] #[])
  fields := #[]
  methods := #[]
  instanceTypes := #[]
  staticTypes := #[]
  resolved := Array.replicate 37 none
  statics := none }

def pool9 : Array CpInfo := pool [(1, .class_ 2), (0, u "java/lang/Integer"), (2, .class_ 6), (0, u "java/lang/String"), (4, u "toString"), (0, u "(I)Ljava/lang/String;"), (0, .fieldref 5 14), (0, .nameAndType 15 16), (0, u "COMPACT_STRINGS"), (0, u "Z"), (2, u "digits"), (0, u "[C"), (33, u "(I)I"), (10, .methodref 5 66), (0, .nameAndType 67 68), (0, u "<init>"), (0, u "([BB)V"), (3, .methodref 1 73), (0, .nameAndType 74 54), (0, u "stringSize"), (0, .methodref 1 76), (0, .nameAndType 77 78), (0, u "getChars"), (0, u "(II[B)I"), (4, .fieldref 1 84), (0, .nameAndType 85 86), (0, u "DigitOnes"), (0, u "[B"), (0, .fieldref 1 88), (0, .nameAndType 89 86), (0, u "DigitTens"), (99, .class_ 190), (0, u "java/lang/Integer$IntegerCache"), (3, u "I"), (8, .class_ 204), (0, u "java/lang/Number"), (2, u "value"), (94, u "TYPE"), (0, u "Ljava/lang/Class;"), (0, .class_ 305), (0, u "java/lang/Comparable"), (0, .class_ 307), (0, u "java/lang/constant/Constable"), (0, .class_ 309), (0, u "java/lang/constant/ConstantDesc"), (0, u "MIN_VALUE"), (1, u "MAX_VALUE"), (3, u "SIZE"), (1, u "BYTES"), (1, u "serialVersionUID"), (0, u "J")] 131

def k9c0 : Code := { maxStack := 4, maxLocals := 3, code := jdk_33_method_10_code, exceptionTable := #[], attributes := #[] }
def k9m0 : Method := { name := "toString", desc := "(I)Ljava/lang/String;", sig := { parameters := [.int], returnType := some (.object "java/lang/String") }, accessFlags := 9, code := some k9c0 }
def k9c1 : Code := { maxStack := 4, maxLocals := 7, code := jdk_33_method_12_code, exceptionTable := #[], attributes := #[] }
def k9m1 : Method := { name := "getChars", desc := "(II[B)I", sig := { parameters := [.int, .int, (.array .byte)], returnType := some .int }, accessFlags := 8, code := some k9c1 }
def k9c2 : Code := { maxStack := 2, maxLocals := 4, code := jdk_33_method_13_code, exceptionTable := #[], attributes := #[] }
def k9m2 : Method := { name := "stringSize", desc := "(I)I", sig := { parameters := [.int], returnType := some .int }, accessFlags := 8, code := some k9c2 }
/-- java/lang/Integer -/
def k9 : Class := { plain "java/lang/Integer" (some 5) with
  accessFlags := 49
  interfaces := #[6, 7, 8]
  cf := some (fileOf pool9 1 #[.nestMembers #[189]] #[{ accessFlags := 9, nameIndex := 11, descriptorIndex := 12, attributes := #[] }, { accessFlags := 8, nameIndex := 77, descriptorIndex := 78, attributes := #[] }, { accessFlags := 8, nameIndex := 74, descriptorIndex := 54, attributes := #[] }] 49 203 #[304, 306, 308] #[{ accessFlags := 25, nameIndex := 310, descriptorIndex := 194, attributes := #[] }, { accessFlags := 25, nameIndex := 312, descriptorIndex := 194, attributes := #[] }, { accessFlags := 25, nameIndex := 302, descriptorIndex := 303, attributes := #[] }, { accessFlags := 24, nameIndex := 19, descriptorIndex := 20, attributes := #[] }, { accessFlags := 24, nameIndex := 89, descriptorIndex := 86, attributes := #[] }, { accessFlags := 24, nameIndex := 85, descriptorIndex := 86, attributes := #[] }, { accessFlags := 18, nameIndex := 207, descriptorIndex := 194, attributes := #[] }, { accessFlags := 25, nameIndex := 316, descriptorIndex := 194, attributes := #[] }, { accessFlags := 25, nameIndex := 318, descriptorIndex := 194, attributes := #[] }, { accessFlags := 26, nameIndex := 320, descriptorIndex := 321, attributes := #[] }])
  fields := #[{ name := "MIN_VALUE", type := .int, accessFlags := 25, slot := 0, constantValue := 0 }, { name := "MAX_VALUE", type := .int, accessFlags := 25, slot := 1, constantValue := 0 }, { name := "TYPE", type := (.object "java/lang/Class"), accessFlags := 25, slot := 2, constantValue := 0 }, { name := "digits", type := (.array .char), accessFlags := 24, slot := 3, constantValue := 0 }, { name := "DigitTens", type := (.array .byte), accessFlags := 24, slot := 4, constantValue := 0 }, { name := "DigitOnes", type := (.array .byte), accessFlags := 24, slot := 5, constantValue := 0 }, { name := "value", type := .int, accessFlags := 18, slot := 0, constantValue := 0 }, { name := "SIZE", type := .int, accessFlags := 25, slot := 6, constantValue := 0 }, { name := "BYTES", type := .int, accessFlags := 25, slot := 7, constantValue := 0 }, { name := "serialVersionUID", type := .long, accessFlags := 26, slot := 8, constantValue := 0 }]
  methods := #[k9m0, k9m1, k9m2]
  instanceTypes := #[.int]
  staticTypes := #[.int, .int, (.object "java/lang/Class"), (.array .char), (.array .byte), (.array .byte), .int, .int, .long]
  resolved := Array.replicate 453 none
  statics := some 0 }

def pool10 : Array CpInfo := pool [(2, .class_ 4), (1, u "java/lang/CharSequence"), (42, .class_ 48), (0, u "java/lang/CharSequence$1CodePointIterator"), (10, .class_ 60), (0, u "java/lang/CharSequence$1CharIterator"), (5, .class_ 67), (0, u "java/lang/Object")] 63

/-- java/lang/CharSequence -/
def k10 : Class := { plain "java/lang/CharSequence" (some 0) with
  accessFlags := 1537
  interfaces := #[]
  cf := some (fileOf pool10 2 #[.nestMembers #[47, 59]] #[] 1537 66 #[] #[])
  fields := #[]
  methods := #[]
  instanceTypes := #[]
  staticTypes := #[]
  resolved := Array.replicate 131 none
  statics := none }

def pool11 : Array CpInfo := pool [(1, .methodref 2 3), (0, .class_ 4), (0, .nameAndType 5 6), (0, u "java/lang/Object"), (0, u "<init>"), (0, u "()V"), (2, .fieldref 10 11), (0, .class_ 12), (0, .nameAndType 13 14), (0, u "java/lang/String"), (0, u "value"), (0, u "[B"), (0, .fieldref 10 16), (0, .nameAndType 17 18), (0, u "coder"), (0, u "B"), (2, u "hash"), (0, u "I"), (2, u "hashIsZero"), (0, u "Z"), (11, .fieldref 10 39), (0, .nameAndType 40 26), (0, u "COMPACT_STRINGS"), (66, .class_ 109), (1, u "java/lang/StringLatin1"), (101, u "([BB)V"), (329, .methodref 107 542), (0, .nameAndType 543 544), (0, u "equals"), (0, u "([B[B)Z"), (28, u "(Ljava/lang/Object;)Z"), (1, .class_ 576), (0, u "java/lang/CharSequence"), (22, u "CASE_INSENSITIVE_ORDER"), (0, u "Ljava/util/Comparator;"), (500, u "serialPersistentFields"), (0, u "[Ljava/io/ObjectStreamField;"), (0, .class_ 1104), (0, u "java/lang/String$CaseInsensitiveComparator"), (1, .class_ 1107), (0, u "java/io/Serializable"), (0, .class_ 1109), (0, u "java/lang/Comparable"), (0, .class_ 1111), (0, u "java/lang/constant/Constable"), (0, .class_ 1113), (0, u "java/lang/constant/ConstantDesc"), (2, u "serialVersionUID"), (0, u "J"), (3, u "REPL"), (0, u "C"), (2, u "LATIN1"), (1, u "UTF16")] 323

def k11m0 : Method := { name := "<init>", desc := "()V", sig := { parameters := [], returnType := none }, accessFlags := 1, code := none }
def k11c1 : Code := { maxStack := 2, maxLocals := 3, code := jdk_42_method_66_code, exceptionTable := #[], attributes := #[] }
def k11m1 : Method := { name := "equals", desc := "(Ljava/lang/Object;)Z", sig := { parameters := [(.object "java/lang/Object")], returnType := some .boolean }, accessFlags := 1, code := some k11c1 }
def k11c2 : Code := { maxStack := 2, maxLocals := 3, code := jdk_42_method_151_code, exceptionTable := #[], attributes := #[] }
def k11m2 : Method := { name := "<init>", desc := "([BB)V", sig := { parameters := [(.array .byte), .byte], returnType := none }, accessFlags := 0, code := some k11c2 }
/-- java/lang/String -/
def k11 : Class := { plain "java/lang/String" (some 0) with
  accessFlags := 49
  interfaces := #[4, 6, 10, 7, 8]
  cf := some (fileOf pool11 10 #[.nestMembers #[1103]] #[{ accessFlags := 1, nameIndex := 5, descriptorIndex := 6, attributes := #[] }, { accessFlags := 1, nameIndex := 543, descriptorIndex := 573, attributes := #[] }, { accessFlags := 0, nameIndex := 5, descriptorIndex := 211, attributes := #[] }] 49 2 #[1106, 1108, 575, 1110, 1112] #[{ accessFlags := 18, nameIndex := 13, descriptorIndex := 14, attributes := #[] }, { accessFlags := 18, nameIndex := 17, descriptorIndex := 18, attributes := #[] }, { accessFlags := 2, nameIndex := 21, descriptorIndex := 22, attributes := #[] }, { accessFlags := 2, nameIndex := 25, descriptorIndex := 26, attributes := #[] }, { accessFlags := 26, nameIndex := 1116, descriptorIndex := 1117, attributes := #[] }, { accessFlags := 24, nameIndex := 40, descriptorIndex := 26, attributes := #[] }, { accessFlags := 26, nameIndex := 1101, descriptorIndex := 1102, attributes := #[] }, { accessFlags := 26, nameIndex := 1121, descriptorIndex := 1122, attributes := #[] }, { accessFlags := 25, nameIndex := 599, descriptorIndex := 600, attributes := #[] }, { accessFlags := 24, nameIndex := 1125, descriptorIndex := 18, attributes := #[] }, { accessFlags := 24, nameIndex := 1127, descriptorIndex := 18, attributes := #[] }])
  fields := #[{ name := "value", type := (.array .byte), accessFlags := 18, slot := 0, constantValue := 0 }, { name := "coder", type := .byte, accessFlags := 18, slot := 1, constantValue := 0 }, { name := "hash", type := .int, accessFlags := 2, slot := 2, constantValue := 0 }, { name := "hashIsZero", type := .boolean, accessFlags := 2, slot := 3, constantValue := 0 }, { name := "serialVersionUID", type := .long, accessFlags := 26, slot := 0, constantValue := 0 }, { name := "COMPACT_STRINGS", type := .boolean, accessFlags := 24, slot := 1, constantValue := 0 }, { name := "serialPersistentFields", type := (.array (.object "java/io/ObjectStreamField")), accessFlags := 26, slot := 2, constantValue := 0 }, { name := "REPL", type := .char, accessFlags := 26, slot := 3, constantValue := 0 }, { name := "CASE_INSENSITIVE_ORDER", type := (.object "java/util/Comparator"), accessFlags := 25, slot := 4, constantValue := 0 }, { name := "LATIN1", type := .byte, accessFlags := 24, slot := 5, constantValue := 0 }, { name := "UTF16", type := .byte, accessFlags := 24, slot := 6, constantValue := 0 }]
  methods := #[k11m0, k11m1, k11m2]
  instanceTypes := #[(.array .byte), .byte, .int, .boolean]
  staticTypes := #[.long, .boolean, (.array (.object "java/io/ObjectStreamField")), .char, (.object "java/util/Comparator"), .byte, .byte]
  resolved := Array.replicate 1451 none
  statics := some 1 }

def pool12 : Array CpInfo := pool [(4, .class_ 6), (1, u "java/lang/Object"), (0, u "<init>"), (0, u "()V"), (5, .class_ 16), (1, u "java/lang/StringLatin1"), (104, u "$assertionsDisabled"), (0, u "Z"), (98, .class_ 223), (1, u "java/lang/StringLatin1$LinesSpliterator"), (57, u "equals"), (0, u "([B[B)Z"), (107, .class_ 391), (0, u "java/lang/StringLatin1$CharsSpliterator")] 3

def k12m0 : Method := { name := "<init>", desc := "()V", sig := { parameters := [], returnType := none }, accessFlags := 0, code := none }
def k12c1 : Code := { maxStack := 3, maxLocals := 3, code := jdk_43_method_13_code, exceptionTable := #[], attributes := #[] }
def k12m1 : Method := { name := "equals", desc := "([B[B)Z", sig := { parameters := [(.array .byte), (.array .byte)], returnType := some .boolean }, accessFlags := 9, code := some k12c1 }
/-- java/lang/StringLatin1 -/
def k12 : Class := { plain "java/lang/StringLatin1" (some 0) with
  accessFlags := 48
  interfaces := #[]
  cf := some (fileOf pool12 14 #[.nestMembers #[390, 221]] #[{ accessFlags := 0, nameIndex := 7, descriptorIndex := 8, attributes := #[] }, { accessFlags := 9, nameIndex := 281, descriptorIndex := 282, attributes := #[] }] 48 4 #[] #[{ accessFlags := 4120, nameIndex := 121, descriptorIndex := 122, attributes := #[] }])
  fields := #[{ name := "$assertionsDisabled", type := .boolean, accessFlags := 4120, slot := 0, constantValue := 0 }]
  methods := #[k12m0, k12m1]
  instanceTypes := #[]
  staticTypes := #[.boolean]
  resolved := Array.replicate 395 none
  statics := none }

def pool13 : Array CpInfo := pool [(2, .class_ 4), (1, u "java/lang/Object"), (0, u "<init>"), (0, u "()V"), (17, .class_ 26), (1, u "jdk/internal/util/Preconditions"), (28, .class_ 56), (0, u "jdk/internal/util/Preconditions$4"), (57, .class_ 115), (0, u "jdk/internal/util/Preconditions$1"), (7, u "SIOOBE_FORMATTER"), (0, u "Ljava/util/function/BiFunction;"), (0, .class_ 126), (0, u "jdk/internal/util/Preconditions$2"), (3, u "AIOOBE_FORMATTER"), (0, .class_ 132), (0, u "jdk/internal/util/Preconditions$3"), (3, u "IOOBE_FORMATTER")] 57

def k13m0 : Method := { name := "<init>", desc := "()V", sig := { parameters := [], returnType := none }, accessFlags := 1, code := none }
/-- jdk/internal/util/Preconditions -/
def k13 : Class := { plain "jdk/internal/util/Preconditions" (some 0) with
  accessFlags := 33
  interfaces := #[]
  cf := some (fileOf pool13 24 #[.nestMembers #[55, 131, 125, 114]] #[{ accessFlags := 1, nameIndex := 5, descriptorIndex := 6, attributes := #[] }] 33 2 #[] #[{ accessFlags := 25, nameIndex := 123, descriptorIndex := 124, attributes := #[] }, { accessFlags := 25, nameIndex := 130, descriptorIndex := 124, attributes := #[] }, { accessFlags := 25, nameIndex := 136, descriptorIndex := 124, attributes := #[] }])
  fields := #[{ name := "SIOOBE_FORMATTER", type := (.object "java/util/function/BiFunction"), accessFlags := 25, slot := 0, constantValue := 0 }, { name := "AIOOBE_FORMATTER", type := (.object "java/util/function/BiFunction"), accessFlags := 25, slot := 1, constantValue := 0 }, { name := "IOOBE_FORMATTER", type := (.object "java/util/function/BiFunction"), accessFlags := 25, slot := 2, constantValue := 0 }]
  methods := #[k13m0]
  instanceTypes := #[]
  staticTypes := #[(.object "java/util/function/BiFunction"), (.object "java/util/function/BiFunction"), (.object "java/util/function/BiFunction")]
  resolved := Array.replicate 194 none
  statics := some 2 }

def pool14 : Array CpInfo := pool [(9, u "<init>"), (6, .class_ 18), (1, u "java/lang/Object"), (0, u "()V"), (1, .class_ 23), (1, u "jdk/internal/util/ArraysSupport"), (0, u "LOG2_ARRAY_LONG_INDEX_SCALE"), (0, u "I"), (2, u "U"), (0, u "Ljdk/internal/misc/Unsafe;"), (8, u "BIG_ENDIAN"), (0, u "Z"), (8, u "LOG2_BYTE_BIT_SIZE"), (4, u "LOG2_ARRAY_INT_INDEX_SCALE"), (54, u "JLA"), (0, u "Ljdk/internal/access/JavaLangAccess;"), (11, u "LOG2_ARRAY_BOOLEAN_INDEX_SCALE"), (9, u "LOG2_ARRAY_BYTE_INDEX_SCALE"), (5, u "LOG2_ARRAY_CHAR_INDEX_SCALE"), (5, u "LOG2_ARRAY_SHORT_INDEX_SCALE"), (18, u "LOG2_ARRAY_FLOAT_INDEX_SCALE"), (24, u "LOG2_ARRAY_DOUBLE_INDEX_SCALE"), (89, u "T_BOOLEAN"), (2, u "T_CHAR"), (1, u "T_FLOAT"), (1, u "T_DOUBLE"), (1, u "T_BYTE"), (1, u "T_SHORT"), (1, u "T_INT"), (1, u "T_LONG"), (1, u "SOFT_MAX_ARRAY_LENGTH")] 83

def k14m0 : Method := { name := "<init>", desc := "()V", sig := { parameters := [], returnType := none }, accessFlags := 2, code := none }
/-- jdk/internal/util/ArraysSupport -/
def k14 : Class := { plain "jdk/internal/util/ArraysSupport" (some 0) with
  accessFlags := 33
  interfaces := #[]
  cf := some (fileOf pool14 21 #[] #[{ accessFlags := 2, nameIndex := 9, descriptorIndex := 19, attributes := #[] }] 33 16 #[] #[{ accessFlags := 24, nameIndex := 28, descriptorIndex := 29, attributes := #[] }, { accessFlags := 26, nameIndex := 38, descriptorIndex := 39, attributes := #[] }, { accessFlags := 25, nameIndex := 121, descriptorIndex := 25, attributes := #[] }, { accessFlags := 25, nameIndex := 131, descriptorIndex := 25, attributes := #[] }, { accessFlags := 25, nameIndex := 137, descriptorIndex := 25, attributes := #[] }, { accessFlags := 25, nameIndex := 143, descriptorIndex := 25, attributes := #[] }, { accessFlags := 25, nameIndex := 53, descriptorIndex := 25, attributes := #[] }, { accessFlags := 25, nameIndex := 24, descriptorIndex := 25, attributes := #[] }, { accessFlags := 25, nameIndex := 162, descriptorIndex := 25, attributes := #[] }, { accessFlags := 25, nameIndex := 187, descriptorIndex := 25, attributes := #[] }, { accessFlags := 26, nameIndex := 48, descriptorIndex := 25, attributes := #[] }, { accessFlags := 25, nameIndex := 277, descriptorIndex := 25, attributes := #[] }, { accessFlags := 25, nameIndex := 280, descriptorIndex := 25, attributes := #[] }, { accessFlags := 25, nameIndex := 282, descriptorIndex := 25, attributes := #[] }, { accessFlags := 25, nameIndex := 284, descriptorIndex := 25, attributes := #[] }, { accessFlags := 25, nameIndex := 286, descriptorIndex := 25, attributes := #[] }, { accessFlags := 25, nameIndex := 288, descriptorIndex := 25, attributes := #[] }, { accessFlags := 25, nameIndex := 290, descriptorIndex := 25, attributes := #[] }, { accessFlags := 25, nameIndex := 292, descriptorIndex := 25, attributes := #[] }, { accessFlags := 26, nameIndex := 108, descriptorIndex := 109, attributes := #[] }, { accessFlags := 25, nameIndex := 294, descriptorIndex := 25, attributes := #[] }])
  fields := #[{ name := "U", type := (.object "jdk/internal/misc/Unsafe"), accessFlags := 24, slot := 0, constantValue := 0 }, { name := "BIG_ENDIAN", type := .boolean, accessFlags := 26, slot := 1, constantValue := 0 }, { name := "LOG2_ARRAY_BOOLEAN_INDEX_SCALE", type := .int, accessFlags := 25, slot := 2, constantValue := 0 }, { name := "LOG2_ARRAY_BYTE_INDEX_SCALE", type := .int, accessFlags := 25, slot := 3, constantValue := 0 }, { name := "LOG2_ARRAY_CHAR_INDEX_SCALE", type := .int, accessFlags := 25, slot := 4, constantValue := 0 }, { name := "LOG2_ARRAY_SHORT_INDEX_SCALE", type := .int, accessFlags := 25, slot := 5, constantValue := 0 }, { name := "LOG2_ARRAY_INT_INDEX_SCALE", type := .int, accessFlags := 25, slot := 6, constantValue := 0 }, { name := "LOG2_ARRAY_LONG_INDEX_SCALE", type := .int, accessFlags := 25, slot := 7, constantValue := 0 }, { name := "LOG2_ARRAY_FLOAT_INDEX_SCALE", type := .int, accessFlags := 25, slot := 8, constantValue := 0 }, { name := "LOG2_ARRAY_DOUBLE_INDEX_SCALE", type := .int, accessFlags := 25, slot := 9, constantValue := 0 }, { name := "LOG2_BYTE_BIT_SIZE", type := .int, accessFlags := 26, slot := 10, constantValue := 0 }, { name := "T_BOOLEAN", type := .int, accessFlags := 25, slot := 11, constantValue := 0 }, { name := "T_CHAR", type := .int, accessFlags := 25, slot := 12, constantValue := 0 }, { name := "T_FLOAT", type := .int, accessFlags := 25, slot := 13, constantValue := 0 }, { name := "T_DOUBLE", type := .int, accessFlags := 25, slot := 14, constantValue := 0 }, { name := "T_BYTE", type := .int, accessFlags := 25, slot := 15, constantValue := 0 }, { name := "T_SHORT", type := .int, accessFlags := 25, slot := 16, constantValue := 0 }, { name := "T_INT", type := .int, accessFlags := 25, slot := 17, constantValue := 0 }, { name := "T_LONG", type := .int, accessFlags := 25, slot := 18, constantValue := 0 }, { name := "JLA", type := (.object "jdk/internal/access/JavaLangAccess"), accessFlags := 26, slot := 19, constantValue := 0 }, { name := "SOFT_MAX_ARRAY_LENGTH", type := .int, accessFlags := 25, slot := 20, constantValue := 0 }]
  methods := #[k14m0]
  instanceTypes := #[]
  staticTypes := #[(.object "jdk/internal/misc/Unsafe"), .boolean, .int, .int, .int, .int, .int, .int, .int, .int, .int, .int, .int, .int, .int, .int, .int, .int, .int, (.object "jdk/internal/access/JavaLangAccess"), .int]
  resolved := Array.replicate 378 none
  statics := none }

def pool15 : Array CpInfo := pool [(1, u "java/lang/Cloneable"), (0, .class_ 1), (0, u "java/lang/Object"), (0, .class_ 3)] 3

/-- java/lang/Cloneable -/
def k15 : Class := { plain "java/lang/Cloneable" (some 0) with
  accessFlags := 1537
  interfaces := #[]
  cf := some (fileOf pool15 2 #[] #[] 1537 4 #[] #[])
  fields := #[]
  methods := #[]
  instanceTypes := #[]
  staticTypes := #[]
  resolved := Array.replicate 8 none
  statics := none }

/-- the primitive byte -/
def k16 : Class := { plain "byte" none with kind := .primitive 'B', accessFlags := 0x411 }
/-- [B -/
def k17 : Class := { plain "[B" (some 0) with kind := .array 16 .byte, interfaces := #[15, 4], accessFlags := 1041 }

/-- the primitive int -/
def k18 : Class := { plain "int" none with kind := .primitive 'I', accessFlags := 0x411 }
/-- [I -/
def k19 : Class := { plain "[I" (some 0) with kind := .array 18 .int, interfaces := #[15, 4], accessFlags := 1041 }

def heap : Heap := #[{ cls := 9, slots := #[.int 0, .int 0, .null, .null, .ref 4, .ref 3, .int 0, .int 0, .long 0], vm := .statics 9 },
  { cls := 11, slots := #[.long 0, .int 1, .null, .int 0, .null, .int 0, .int 0], vm := .statics 11 },
  { cls := 13, slots := #[.null, .null, .null], vm := .statics 13 },
  { cls := 17, slots := #[.int 48, .int 49, .int 50, .int 51, .int 52, .int 53, .int 54, .int 55, .int 56, .int 57, .int 48, .int 49, .int 50, .int 51, .int 52, .int 53, .int 54, .int 55, .int 56, .int 57, .int 48, .int 49, .int 50, .int 51, .int 52, .int 53, .int 54, .int 55, .int 56, .int 57, .int 48, .int 49, .int 50, .int 51, .int 52, .int 53, .int 54, .int 55, .int 56, .int 57, .int 48, .int 49, .int 50, .int 51, .int 52, .int 53, .int 54, .int 55, .int 56, .int 57, .int 48, .int 49, .int 50, .int 51, .int 52, .int 53, .int 54, .int 55, .int 56, .int 57, .int 48, .int 49, .int 50, .int 51, .int 52, .int 53, .int 54, .int 55, .int 56, .int 57, .int 48, .int 49, .int 50, .int 51, .int 52, .int 53, .int 54, .int 55, .int 56, .int 57, .int 48, .int 49, .int 50, .int 51, .int 52, .int 53, .int 54, .int 55, .int 56, .int 57, .int 48, .int 49, .int 50, .int 51, .int 52, .int 53, .int 54, .int 55, .int 56, .int 57], vm := .none },
  { cls := 17, slots := #[.int 48, .int 48, .int 48, .int 48, .int 48, .int 48, .int 48, .int 48, .int 48, .int 48, .int 49, .int 49, .int 49, .int 49, .int 49, .int 49, .int 49, .int 49, .int 49, .int 49, .int 50, .int 50, .int 50, .int 50, .int 50, .int 50, .int 50, .int 50, .int 50, .int 50, .int 51, .int 51, .int 51, .int 51, .int 51, .int 51, .int 51, .int 51, .int 51, .int 51, .int 52, .int 52, .int 52, .int 52, .int 52, .int 52, .int 52, .int 52, .int 52, .int 52, .int 53, .int 53, .int 53, .int 53, .int 53, .int 53, .int 53, .int 53, .int 53, .int 53, .int 54, .int 54, .int 54, .int 54, .int 54, .int 54, .int 54, .int 54, .int 54, .int 54, .int 55, .int 55, .int 55, .int 55, .int 55, .int 55, .int 55, .int 55, .int 55, .int 55, .int 56, .int 56, .int 56, .int 56, .int 56, .int 56, .int 56, .int 56, .int 56, .int 56, .int 57, .int 57, .int 57, .int 57, .int 57, .int 57, .int 57, .int 57, .int 57, .int 57], vm := .none }]
def classes : Array Class := #[k0, k1, k2, k3, k4, k5, k6, k7, k8, k9, k10, k11, k12, k13, k14, k15, k16, k17, k18, k19]
def interned : List (Array UInt16 × Addr) := []
def slotsUsed : Nat := 219
def theMethod : MethodId := ⟨1, 1⟩
def args0 : Array Value := #[.int 2020, .int 7, .int 3]
def aboutOver (below : List Frame) : State where
  vm := { classes := classes, interned := interned.toArray }
  heap := heap
  slotsUsed := slotsUsed
  threads := #[{ frames := .invoking theMethod args0 :: below }]
def below0 : List Frame := [.native { method := ⟨0, 0⟩, args := #[] }]
def about1 : State := aboutOver below0
def p0 : Program := .bare "" "" ""
def e0 : Env := launch0.env 0 0 0
theorem w_frames : about1.frames = Frame.invoking theMethod args0 :: below0 := rfl
set_option maxRecDepth 65536 in
theorem w_args : argsFit about1.vm theMethod args0 = true := by decide +kernel
set_option maxRecDepth 65536 in
theorem w_heap : heapFits about1 = true := by decide +kernel
set_option maxRecDepth 65536 in
theorem w_runnable : about1.curStatus? = some .runnable := by decide +kernel
set_option maxRecDepth 65536 in
theorem w_alone : about1.alone = true := by decide +kernel
set_option maxRecDepth 65536 in
theorem w_named : about1.methodNamed? x = some theMethod := by decide +kernel
set_option maxRecDepth 65536 in
theorem w_hears : about1.hears theMethod below0 = true := by decide +kernel
set_option maxRecDepth 65536 in
theorem w_ripe : about1.ripe theMethod args0 below0 = true := by decide +kernel
theorem w_running : about1.status = .running := rfl
set_option maxRecDepth 65536 in
theorem w_room : about1.hasRoom e0.platform room_1 = true :=
  launch0.hasRoom_least _ room_1 (by decide +kernel) (by decide +kernel) (by decide +kernel) (by decide +kernel) (by decide +kernel) (by decide +kernel)
theorem allAtoms_all (ts : List Jvm.Cond) (a : Array Jvm.Value) (st : Jvm.State) : (allAtoms ts).before a st = ts.all (fun c => c.before a st) := by
  induction ts with
  | nil => rfl
  | cons c t ih =>
    show (Jvm.Cond.and c (allAtoms t)).before a st = _
    rw [Jvm.Cond.before_and, ih, List.all_cons]
def words1 : List Jvm.Cond := Jvm.Cond.code x code maxLocals ret :: tables_1
/-- a 'code' word, met by the world's own term for the bytes: nothing is compared byte by byte -/
theorem code_word {y : MethodName} {bytes : ByteArray} {mx : Nat} {rt : Option FieldType} {a : Array Value} {s : State} {m : MethodId} {meth : Method} {c : Code} (h1 : s.methodNamed? y = some m) (h2 : s.vm.method? m = some meth) (h3 : meth.code = some c) (h4 : c.code = bytes)
    (h5 : (c.maxLocals == mx && c.exceptionTable.isEmpty && decide (c.maxStack ≤ mostOperands) && decide (meth.sig.returnType = rt) && !meth.locks && decide (parseMethodDescriptor y.desc = some meth.sig)) = true) : (Jvm.Cond.code y bytes mx rt).before a s = true := by
  simp only [Bool.and_eq_true, beq_iff_eq, Bool.not_eq_true', decide_eq_true_eq] at h5
  obtain ⟨⟨⟨⟨⟨g1, g2⟩, g3⟩, g4⟩, g5⟩, g6⟩ := h5
  simp [Cond.before, Cond.holds, Cond.value, h1, h2, h3, h4, g1, g2, g3, g4, g5, g6]
def isCode : Jvm.Cond → Bool
  | .code _ _ _ _ => true
  | _ => false
theorem all_split {L : List Jvm.Cond} {P : Jvm.Cond → Bool} (h1 : L.all (fun c => isCode c || P c) = true) (h2 : ∀ c ∈ L.filter isCode, P c = true) : L.all P = true := by
  refine List.all_eq_true.mpr fun c hc => ?_
  have h := List.all_eq_true.mp h1 c hc
  rcases Bool.eq_false_or_eq_true (isCode c) with hi | hi
  · exact h2 c (List.mem_filter.mpr ⟨hc, hi⟩)
  · simpa [hi] using h
set_option maxRecDepth 65536 in
theorem w_c0 : (Jvm.Cond.code x code maxLocals ret).before args0 about1 = true := code_word (m := ⟨1, 1⟩) (meth := k1m1) (c := k1c1) (by decide +kernel) rfl rfl rfl (by decide +kernel)
set_option maxRecDepth 65536 in
theorem w_c1 : (Jvm.Cond.code ({ cls := "com/example/ratebook/ratebook/trueup/RateYear", name := "<init>", desc := "(I)V" } : Jvm.MethodName) prog_49_method_1_code (2 : Nat) (Option.none : Option Jvm.ClassFile.FieldType)).before args0 about1 = true := code_word (m := ⟨3, 0⟩) (meth := k3m0) (c := k3c0) (by decide +kernel) rfl rfl rfl (by decide +kernel)
set_option maxRecDepth 65536 in
theorem w_c2 : (Jvm.Cond.code ({ cls := "java/lang/Object", name := "<init>", desc := "()V" } : Jvm.MethodName) object_method_1_code (1 : Nat) (Option.none : Option Jvm.ClassFile.FieldType)).before args0 about1 = true := code_word (m := ⟨0, 0⟩) (meth := k0m0) (c := k0c0) (by decide +kernel) rfl rfl rfl (by decide +kernel)
set_option maxRecDepth 65536 in
theorem w_c3 : (Jvm.Cond.code ({ cls := "com/example/ratebook/ratebook/trueup/RateYear", name := "plus", desc := "(I)Lcom/example/ratebook/ratebook/trueup/RateYear;" } : Jvm.MethodName) prog_49_method_2_code (2 : Nat) (Option.some (Jvm.ClassFile.FieldType.object "com/example/ratebook/ratebook/trueup/RateYear"))).before args0 about1 = true := code_word (m := ⟨3, 1⟩) (meth := k3m1) (c := k3c1) (by decide +kernel) rfl rfl rfl (by decide +kernel)
set_option maxRecDepth 65536 in
theorem w_c4 : (Jvm.Cond.code ({ cls := "com/example/ratebook/ratebook/trueup/RateYear", name := "toString", desc := "()Ljava/lang/String;" } : Jvm.MethodName) prog_49_method_3_code (1 : Nat) (Option.some (Jvm.ClassFile.FieldType.object "java/lang/String"))).before args0 about1 = true := code_word (m := ⟨3, 2⟩) (meth := k3m2) (c := k3c2) (by decide +kernel) rfl rfl rfl (by decide +kernel)
set_option maxRecDepth 65536 in
theorem w_c5 : (Jvm.Cond.code ({ cls := "java/lang/Integer", name := "toString", desc := "(I)Ljava/lang/String;" } : Jvm.MethodName) jdk_33_method_10_code (3 : Nat) (Option.some (Jvm.ClassFile.FieldType.object "java/lang/String"))).before args0 about1 = true := code_word (m := ⟨9, 0⟩) (meth := k9m0) (c := k9c0) (by decide +kernel) rfl rfl rfl (by decide +kernel)
set_option maxRecDepth 65536 in
theorem w_c6 : (Jvm.Cond.code ({ cls := "java/lang/Integer", name := "stringSize", desc := "(I)I" } : Jvm.MethodName) jdk_33_method_13_code (4 : Nat) (Option.some Jvm.ClassFile.FieldType.int)).before args0 about1 = true := code_word (m := ⟨9, 2⟩) (meth := k9m2) (c := k9c2) (by decide +kernel) rfl rfl rfl (by decide +kernel)
set_option maxRecDepth 65536 in
theorem w_c7 : (Jvm.Cond.code ({ cls := "java/lang/Integer", name := "getChars", desc := "(II[B)I" } : Jvm.MethodName) jdk_33_method_12_code (7 : Nat) (Option.some Jvm.ClassFile.FieldType.int)).before args0 about1 = true := code_word (m := ⟨9, 1⟩) (meth := k9m1) (c := k9c1) (by decide +kernel) rfl rfl rfl (by decide +kernel)
set_option maxRecDepth 65536 in
theorem w_c8 : (Jvm.Cond.code ({ cls := "java/lang/String", name := "<init>", desc := "([BB)V" } : Jvm.MethodName) jdk_42_method_151_code (3 : Nat) (Option.none : Option Jvm.ClassFile.FieldType)).before args0 about1 = true := code_word (m := ⟨11, 2⟩) (meth := k11m2) (c := k11c2) (by decide +kernel) rfl rfl rfl (by decide +kernel)
set_option maxRecDepth 65536 in
theorem w_c9 : (Jvm.Cond.code ({ cls := "java/lang/String", name := "equals", desc := "(Ljava/lang/Object;)Z" } : Jvm.MethodName) jdk_42_method_66_code (3 : Nat) (Option.some Jvm.ClassFile.FieldType.boolean)).before args0 about1 = true := code_word (m := ⟨11, 1⟩) (meth := k11m1) (c := k11c1) (by decide +kernel) rfl rfl rfl (by decide +kernel)
set_option maxRecDepth 65536 in
theorem w_c10 : (Jvm.Cond.code ({ cls := "java/lang/StringLatin1", name := "equals", desc := "([B[B)Z" } : Jvm.MethodName) jdk_43_method_13_code (3 : Nat) (Option.some Jvm.ClassFile.FieldType.boolean)).before args0 about1 = true := code_word (m := ⟨12, 1⟩) (meth := k12m1) (c := k12c1) (by decide +kernel) rfl rfl rfl (by decide +kernel)
def codes1 : List Jvm.Cond := [Jvm.Cond.code x code maxLocals ret, Jvm.Cond.code ({ cls := "com/example/ratebook/ratebook/trueup/RateYear", name := "<init>", desc := "(I)V" } : Jvm.MethodName) prog_49_method_1_code (2 : Nat) (Option.none : Option Jvm.ClassFile.FieldType), Jvm.Cond.code ({ cls := "java/lang/Object", name := "<init>", desc := "()V" } : Jvm.MethodName) object_method_1_code (1 : Nat) (Option.none : Option Jvm.ClassFile.FieldType), Jvm.Cond.code ({ cls := "com/example/ratebook/ratebook/trueup/RateYear", name := "plus", desc := "(I)Lcom/example/ratebook/ratebook/trueup/RateYear;" } : Jvm.MethodName) prog_49_method_2_code (2 : Nat) (Option.some (Jvm.ClassFile.FieldType.object "com/example/ratebook/ratebook/trueup/RateYear")), Jvm.Cond.code ({ cls := "com/example/ratebook/ratebook/trueup/RateYear", name := "toString", desc := "()Ljava/lang/String;" } : Jvm.MethodName) prog_49_method_3_code (1 : Nat) (Option.some (Jvm.ClassFile.FieldType.object "java/lang/String")), Jvm.Cond.code ({ cls := "java/lang/Integer", name := "toString", desc := "(I)Ljava/lang/String;" } : Jvm.MethodName) jdk_33_method_10_code (3 : Nat) (Option.some (Jvm.ClassFile.FieldType.object "java/lang/String")), Jvm.Cond.code ({ cls := "java/lang/Integer", name := "stringSize", desc := "(I)I" } : Jvm.MethodName) jdk_33_method_13_code (4 : Nat) (Option.some Jvm.ClassFile.FieldType.int), Jvm.Cond.code ({ cls := "java/lang/Integer", name := "getChars", desc := "(II[B)I" } : Jvm.MethodName) jdk_33_method_12_code (7 : Nat) (Option.some Jvm.ClassFile.FieldType.int), Jvm.Cond.code ({ cls := "java/lang/String", name := "<init>", desc := "([BB)V" } : Jvm.MethodName) jdk_42_method_151_code (3 : Nat) (Option.none : Option Jvm.ClassFile.FieldType), Jvm.Cond.code ({ cls := "java/lang/String", name := "equals", desc := "(Ljava/lang/Object;)Z" } : Jvm.MethodName) jdk_42_method_66_code (3 : Nat) (Option.some Jvm.ClassFile.FieldType.boolean), Jvm.Cond.code ({ cls := "java/lang/StringLatin1", name := "equals", desc := "([B[B)Z" } : Jvm.MethodName) jdk_43_method_13_code (3 : Nat) (Option.some Jvm.ClassFile.FieldType.boolean)]
set_option maxRecDepth 65536 in
theorem codes_eq : words1.filter isCode = codes1 := rfl
theorem w_codes : ∀ c ∈ words1.filter isCode, c.before args0 about1 = true := by
  rw [codes_eq]
  intro c hc
  simp only [codes1, List.mem_cons, List.not_mem_nil, or_false] at hc
  rcases hc with rfl | rfl | rfl | rfl | rfl | rfl | rfl | rfl | rfl | rfl | rfl
  · exact w_c0
  · exact w_c1
  · exact w_c2
  · exact w_c3
  · exact w_c4
  · exact w_c5
  · exact w_c6
  · exact w_c7
  · exact w_c8
  · exact w_c9
  · exact w_c10
set_option maxRecDepth 65536 in
theorem w_t1 : (words1.take 24).all (fun c => isCode c || c.before args0 about1) = true := by decide +kernel
set_option maxRecDepth 65536 in
theorem w_t2 : ((words1.drop 24).take 24).all (fun c => isCode c || c.before args0 about1) = true := by decide +kernel
set_option maxRecDepth 65536 in
theorem w_t3 : ((words1.drop 24).drop 24).all (fun c => isCode c || c.before args0 about1) = true := by decide +kernel
theorem w_tables : (allAtoms (Jvm.Cond.code x code maxLocals ret :: tables_1)).before args0 about1 = true := by
  rw [allAtoms_all]
  show words1.all (fun c => c.before args0 about1) = true
  refine all_split ?_ w_codes
  rw [← List.take_append_drop 24 words1, List.all_append, w_t1, ← List.take_append_drop 24 (words1.drop 24), List.all_append, w_t2, w_t3]
  rfl
set_option maxRecDepth 65536 in
theorem w_rest : rest_1_c.before args0 about1 = true := by decide +kernel
set_option maxRecDepth 65536 in
theorem w_case : (Jvm.Cond.and given_1 narrow_1).before args0 about1 = true := by decide +kernel
theorem w_applies : (headSpec (Jvm.Cond.code x code maxLocals ret :: tables_1) room_1).applies x e0.platform about1 = true :=
  (Spec.applies_iff w_frames).mpr ⟨w_running, w_runnable, w_alone, w_named, w_hears, w_ripe, w_room, w_tables⟩
theorem atStart : AtStart classFile x code maxLocals ret World_1 tables_1 room_1 Calls_1 rest_1 Pre_1 launch0 p0 e0 about1 theMethod args0 below0 :=
  ⟨lists_1, trivial, launch0.admits_env _ _ _, launch0.least_env, fairChoices_fair.cas, fairChoices_fair.clock, w_frames, w_args, w_heap, w_applies, trivial, w_rest, w_case⟩
end start1
theorem witness_1 : WitnessClaimed_1 := ⟨start1.p0, start1.e0, start1.about1, start1.theMethod, start1.args0, start1.below0, start1.atStart⟩
end Jvm.Pilot.@@N@@
