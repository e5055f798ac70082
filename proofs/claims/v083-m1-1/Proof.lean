import JvmDerived
import JvmDerived.Pilot.@@N@@Statement
import JvmDerived.Pilot.@@N@@Code
set_option linter.unusedVariables false
set_option linter.unusedSimpArgs false
namespace Jvm.Pilot.@@N@@
open Jvm Jvm.ClassFile Sem Op Lib Jvm.Free Jvm.Stand Jvm.LawKit Jvm.RoadKit Bundle Jvm.Pilot.@@N@@.Jvm.D
section Own
variable {p : Program} {l : Launch} {e : Env} {R : Room} {s : State} {m : MethodId} {args : Array Value} {below : List Frame} {meth : Method} {c : Code} {T : State} {locs : List Loc} {cells slots : Nat} {Z : State} {a0 : Array Value} {h h' : Heap}
/-- the walk's goal: from S the method comes back with what Q says -/
def own_G (p : Program) (e : Env) (s : State) (below : List Frame) (Q : Option Value → Heap → List Loc → Prop) (kc ks : Nat) (S : State) : Prop :=
  ∃ s₂ o, Steps p.tables e below S s₂ ∧ s₂.status = .running ∧ Ended s₂ below o ∧ ∃ v L, o = .returned v ∧ Q v s₂.heap L ∧ FrameEnd s o s₂ L kc ks
theorem own_go {Q : Option Value → Heap → List Loc → Prop} {kc ks : Nat} {S S' : State} (k : ∀ t, Steps p.tables e below S' t → Steps p.tables e below S t) (g : own_G p e s below Q kc ks S') : own_G p e s below Q kc ks S := by
  obtain ⟨s2, o, h1, h2⟩ := g
  exact ⟨s2, o, k _ h1, h2⟩
theorem own_retI {Q : Option Value → Heap → List Loc → Prop} {kc ks : Nat} (X : Stand p l e R s m args below meth c T locs cells slots) (hx : p.tables.exec = Jvm.exec) (hlk : meth.locks = false) (hret : meth.sig.returnType = some .int) {pc : Nat} {Ls : Array Slot} {z : Int32} {rest : List Value} (hd : decode c.code pc = .ok (.ireturn, 1)) (hc : cells ≤ kc) (hs : slots ≤ ks) (hQ : Q (some (.int z)) T.heap locs) :
    own_G p e s below Q kc ks (T.setTop (mkF m pc Ls (.int z :: rest))) := by
  obtain ⟨fs, hr, hrun, hended, hW, hsame⟩ := X.leave (v := some (.int z)) (fun h => by rw [hret] at h; cases h) hlk
  exact ⟨_, _, retOut X hx hret rfl (Or.inl ⟨rfl, Or.inl rfl, z, rfl⟩) hd hr, hrun, hended, _, _, rfl, hQ, ⟨_, rfl⟩, hW, hsame.mono hc hs⟩
theorem own_retN {Q : Option Value → Heap → List Loc → Prop} {kc ks : Nat} (X : Stand p l e R s m args below meth c T locs cells slots) (hx : p.tables.exec = Jvm.exec) (hlk : meth.locks = false) {t : FieldType} (hret : meth.sig.returnType = some t) (ht : t = .boolean ∨ t = .byte ∨ t = .char ∨ t = .short) {pc : Nat} {Ls : Array Slot} {z : Int32} {rest : List Value} (hd : decode c.code pc = .ok (.ireturn, 1)) (hc : cells ≤ kc) (hs : slots ≤ ks) (hQ : Q (some (.int (nar t z))) T.heap locs) :
    own_G p e s below Q kc ks (T.setTop (mkF m pc Ls (.int z :: rest))) := by
  obtain ⟨fs, hr, hrun, hended, hW, hsame⟩ := X.leave (v := some (.int (nar t z))) (fun h => by rw [hret] at h; cases h) hlk
  exact ⟨_, _, retN X hx hret ht hd hr, hrun, hended, _, _, rfl, hQ, ⟨_, rfl⟩, hW, hsame.mono hc hs⟩
theorem own_retA {Q : Option Value → Heap → List Loc → Prop} {kc ks : Nat} (X : Stand p l e R s m args below meth c T locs cells slots) (hx : p.tables.exec = Jvm.exec) (hlk : meth.locks = false) {t : FieldType} (hret : meth.sig.returnType = some t) (ht : t.isReference = true) {pc : Nat} {Ls : Array Slot} {w : Value} (hv : w.isRef = true) {rest : List Value} (hd : decode c.code pc = .ok (.areturn, 1)) (hc : cells ≤ kc) (hs : slots ≤ ks) (hQ : Q (some w) T.heap locs) :
    own_G p e s below Q kc ks (T.setTop (mkF m pc Ls (w :: rest))) := by
  obtain ⟨fs, hr, hrun, hended, hW, hsame⟩ := X.leave (v := some w) (fun h => by rw [hret] at h; cases h) hlk
  have hn : narrow t w = w := by rcases ref_cases hv with rfl | ⟨z, rfl⟩ <;> cases t <;> rfl
  exact ⟨_, _, retOut X hx hret hn (Or.inr (Or.inr (Or.inr (Or.inr ⟨rfl, ht, hv⟩)))) hd hr, hrun, hended, _, _, rfl, hQ, ⟨_, rfl⟩, hW, hsame.mono hc hs⟩
theorem own_retJ {Q : Option Value → Heap → List Loc → Prop} {kc ks : Nat} (X : Stand p l e R s m args below meth c T locs cells slots) (hx : p.tables.exec = Jvm.exec) (hlk : meth.locks = false) (hret : meth.sig.returnType = some .long) {pc : Nat} {Ls : Array Slot} {z : Int64} {rest : List Value} (hd : decode c.code pc = .ok (.lreturn, 1)) (hc : cells ≤ kc) (hs : slots ≤ ks) (hQ : Q (some (.long z)) T.heap locs) :
    own_G p e s below Q kc ks (T.setTop (mkF m pc Ls (.long z :: rest))) := by
  obtain ⟨fs, hr, hrun, hended, hW, hsame⟩ := X.leave (v := some (.long z)) (fun h => by rw [hret] at h; cases h) hlk
  exact ⟨_, _, retOut X hx hret rfl (Or.inr (Or.inl ⟨rfl, rfl, z, rfl⟩)) hd hr, hrun, hended, _, _, rfl, hQ, ⟨_, rfl⟩, hW, hsame.mono hc hs⟩
theorem own_retV {Q : Option Value → Heap → List Loc → Prop} {kc ks : Nat} (X : Stand p l e R s m args below meth c T locs cells slots) (hx : p.tables.exec = Jvm.exec) (hlk : meth.locks = false) (hret : meth.sig.returnType = none) {pc : Nat} {Ls : Array Slot} (hd : decode c.code pc = .ok (.return_, 1)) (hc : cells ≤ kc) (hs : slots ≤ ks) (hQ : Q none T.heap locs) :
    own_G p e s below Q kc ks (T.setTop (mkF m pc Ls [])) := by
  obtain ⟨fs, hr, hrun, hended, hW, hsame⟩ := X.leave (v := none) (fun _ => rfl) hlk
  exact ⟨_, _, X.returnOut hx hret hd hr, hrun, hended, _, _, rfl, hQ, ⟨_, rfl⟩, hW, hsame.mono hc hs⟩
theorem own_osz {n0 : Nat} (O : Old Z n0 h) : n0 ≤ h.size := O.1 ▸ O.2.1
end Own
section Own2
variable {Z : State} {h h' : Heap} {a b : Addr} {k : ClassId} {ty : FieldType} {vs : List Value} {sl : Nat} {v w : Value} {ws : List Addr} {c : Cell} {j : Int32}
/-- an array and what it holds -/
def own_Ar (Z : State) (h : Heap) (a : Addr) (k : ClassId) (ty : FieldType) (vs : List Value) : Prop := ∃ c : Cell, Arr Z h a c ty ∧ c.cls = k ∧ c.slots = vs.toArray ∧ vs.length < 2 ^ 31
theorem own_Ar.lt (F : own_Ar Z h a k ty vs) : a < h.size := by obtain ⟨c, A, -⟩ := F; exact A.lt
theorem own_Ar.ext (F : own_Ar Z h a k ty vs) (E : Ext h h') : own_Ar Z h' a k ty vs := by obtain ⟨c, A, r⟩ := F; exact ⟨c, A.ext E, r⟩
theorem own_Ar.other (F : own_Ar Z h b k ty vs) (W : Wr h h' a sl v) (q : b ≠ a) : own_Ar Z h' b k ty vs := by obtain ⟨c, A, r⟩ := F; exact ⟨c, A.other W q, r⟩
theorem own_Ar.keep (F : own_Ar Z h a k ty vs) (K : Keep h h' ws) (q : a ∉ ws) : own_Ar Z h' a k ty vs := by obtain ⟨c, A, r⟩ := F; exact ⟨c, ⟨K.2.1 a c A.1 q, A.2⟩, r⟩
theorem own_Ar.at (F : own_Ar Z h a k ty vs) (hj : ¬ j < 0) (hv : vs[j.toNatClampNeg]? = some v) : ∃ c : Cell, Arr Z h a c ty ∧ c.cls = k ∧ c.slots = vs.toArray ∧ ¬ (j < 0 ∨ c.slots.size ≤ j.toNatClampNeg) ∧ c.slots[j.toNatClampNeg]? = some v := by
  obtain ⟨c, A, q, e, r⟩ := F
  have hl := (List.getElem?_eq_some_iff.mp hv).1
  refine ⟨c, A, q, e, ?_, ?_⟩
  · rintro (q | q)
    · exact hj q
    · rw [e] at q; simp at q; omega
  · rw [e]; simpa using hv
theorem own_Ar.set (A : Arr Z h a c ty) (q : c.cls = k) (e : c.slots = vs.toArray) (hl : vs.length < 2 ^ 31) {i : Nat} (W : Wr h h' a i v) : own_Ar Z h' a k ty (vs.set i v) := by
  refine ⟨c.setSlot i v, A.same W, q, ?_, by simpa using hl⟩
  show (c.slots.setIfInBounds i v) = _
  rw [e]; simp
theorem own_Ar.small (F : own_Ar Z h a k ty vs) : vs.length < 2 ^ 31 := F.choose_spec.2.2.2
theorem own_Ar.len (F : own_Ar Z h a k ty vs) : ∃ c : Cell, Arr Z h a c ty ∧ c.slots.size.toInt32 = Int32.ofNat vs.length := by
  obtain ⟨c, A, q, e, r⟩ := F
  exact ⟨c, A, by rw [e]; simp⟩
theorem own_Ar.new {n : Int32} (A : Arr Z h a (newA k ty n) ty) (q : ¬ n < 0) : own_Ar Z h a k ty (List.replicate n.toNatClampNeg (defaultValue ty)) :=
  ⟨_, A, rfl, by simp [newA], by rw [List.length_replicate]; exact (back32 q).2⟩
theorem own_nat {n : Nat} (hn : n < 2 ^ 31) : (Int32.ofNat n).toInt = n := Int32.toInt_ofNat_of_lt hn
theorem own_clamp {n : Nat} (hn : n < 2 ^ 31) : (Int32.ofNat n).toNatClampNeg = n := by
  show (Int32.ofNat n).toInt.toNat = n
  rw [own_nat hn]; simp
theorem own_pos {n : Nat} (hn : n < 2 ^ 31) : ¬ Int32.ofNat n < 0 := by
  rw [Int32.lt_iff_toInt_lt, own_nat hn]; simp
theorem own_lt {a b : Nat} (ha : a < 2 ^ 31) (hb : b < 2 ^ 31) : Int32.ofNat a < Int32.ofNat b ↔ a < b := by
  rw [Int32.lt_iff_toInt_lt, own_nat ha, own_nat hb]; omega
theorem own_succ (a : Nat) : Int32.ofNat a + 1 = Int32.ofNat (a + 1) := by rw [Int32.ofNat_add]; rfl
theorem own_eqN {a b : Nat} (ha : a < 2 ^ 31) (hb : b < 2 ^ 31) : Int32.ofNat a = Int32.ofNat b ↔ a = b := by
  rw [← Int32.toInt_inj, own_nat ha, own_nat hb]; omega
theorem own_eqI {args : Array Value} {first s : State} {o : Option Outcome} {idx : List Nat} {a : Term} {n : Int32} (h : (Cond.eq a (.int n)).value args first o s idx = some true) : a.eval args first o idx s = some (.int n) := by
  simp only [Cond.value, Term.eval] at h
  cases ha : a.eval args first o idx s with
  | none => simp [ha] at h
  | some x => cases x <;> simp [ha] at h ⊢; exact h
end Own2
section Own3
variable {p : Program} {l : Launch} {e : Env} {R : Room} {s : State} {m : MethodId} {args : Array Value} {below : List Frame} {meth : Method} {c : Code} {T : State} {locs : List Loc} {cells slots : Nat} {Z : State} {a0 : Array Value} {h : Heap} {a b : Addr} {k k' : ClassId} {ty : FieldType} {vs vd : List Value} {d : Value}
theorem own_Ar.arv (F : own_Ar Z h a k ty vs) (hf : ∀ v ∈ vs, fits ty v = true) (d : Value) : Arv Z h a k ty (Int32.ofNat vs.length) vs d := by
  obtain ⟨c, A, q, e, hl⟩ := F
  refine ⟨c, A, q, by rw [e, own_clamp hl]; simp, own_pos hl, fun i hi => ?_, fun i hi => ?_⟩
  · rw [e] at hi ⊢
    have hi' : i < vs.length := by simpa using hi
    simp [List.getD, hi']
  · rw [e] at hi
    have hi' : i < vs.length := by simpa using hi
    have : vs.getD i d = vs[i] := by simp [List.getD, hi']
    rw [this]; exact hf _ (List.getElem_mem hi')
theorem own_of_arv {z : Int32} (F : Arv Z h a k ty z vs d) (hz : z.toNatClampNeg = vs.length) : own_Ar Z h a k ty vs := by
  obtain ⟨c, A, q, S, nz, H, G⟩ := F
  refine ⟨c, A, q, ?_, by rw [← hz]; exact (back32 nz).2⟩
  apply Array.ext
  · rw [S, hz]; simp
  · intro i h1 h2
    have h3 := H i h1
    have h4 : i < vs.length := by simpa using h2
    rw [Array.getElem?_eq_getElem h1] at h3
    have : vs.getD i d = vs[i] := by simp [List.getD, h4]
    rw [this] at h3
    simpa using Option.some.inj h3
theorem own_us (vs : List Value) (dv : Value) (sp n : Nat) (hl : sp + n ≤ vs.length) : ((List.range n).map fun i => vs.getD (sp + i) dv) = (vs.drop sp).take n := by
  apply List.ext_getElem
  · simp; omega
  · intro i h1 h2
    simp at h1
    have : sp + i < vs.length := by omega
    simp [List.getD, this]
/-- System.arraycopy between two arrays of one primitive kind -/
theorem own_cp (X : Stand p l e R s m args below meth c T locs cells slots) (hx : p.tables.exec = Jvm.exec) (hZ : Z.Warmed39 s.vm) {own : String} {index : Nat} (hown : s.vm.findClass own = some m.cls)
    (w1 : (Cond.methodLink own index Jvm.Stand.acN).before a0 Z = true) (w2 : (Cond.native Jvm.Stand.acN).before a0 Z = true) (w3 : (Cond.static Jvm.Stand.acN).before a0 Z = true) (w4 : (Cond.initialized "java/lang/System").before a0 Z = true) (eT : T.heap = h)
    {sp dp nn : Int32} (A : own_Ar Z h a k ty vs) (B : own_Ar Z h b k' ty vd) (hty : refKind ty = false) (fa : ∀ v ∈ vs, fits ty v = true) (fb : ∀ v ∈ vd, fits ty v = true)
    (h1 : ¬ sp < 0) (h2 : ¬ dp < 0) (h3 : ¬ nn < 0) (h4 : sp.toNatClampNeg + nn.toNatClampNeg ≤ vs.length) (h5 : dp.toNatClampNeg + nn.toNatClampNeg ≤ vd.length) {n0 : Nat} (N : Fr n0 locs) (ge : n0 ≤ b)
    {g : JFrame} (hg : g.method = m) (hsize : g.locals.size = c.maxLocals) {rest : List Value} (hs : g.stack = .int nn :: .int dp :: .ref b :: .int sp :: .ref a :: rest) (hd : decode c.code g.pc = .ok (.invokestatic index, 3))
    (hf : 1 ≤ R.frames) {W : Nat} (hW : 2 * g.monitorRoom + (rest.map fun v => v.category).sum ≤ W) (hlo : W + (nativeFrameWords "java/lang/System" "arraycopy" 5 + 11) ≤ R.locals) :
    ∃ T' h' L, Stand p l e R s m args below meth c T' L cells slots ∧ T'.heap = h' ∧ Fr n0 L ∧ Keep h h' [b] ∧ own_Ar Z h' b k' ty (vd.take dp.toNatClampNeg ++ (vs.drop sp.toNatClampNeg).take nn.toNatClampNeg ++ vd.drop (dp.toNatClampNeg + nn.toNatClampNeg)) ∧
      ∀ target, Steps p.tables e below (T'.setTop { g with pc := g.pc + 3, stack := rest }) target → Steps p.tables e below (T.setTop g) target := by
  have ha := A.small
  have hb := B.small
  obtain ⟨T', h', L, X', e', N', K', V', st⟩ := cpA X hx hZ hown w1 w2 w3 w4 eT (A.arv fa .null) (B.arv fb .null) (Or.inl ⟨rfl, hty⟩) h1 h2 h3 (by rw [own_clamp ha]; exact h4) (by rw [own_clamp hb]; exact h5) (us := (List.range nn.toNatClampNeg).map fun i => vs.getD (sp.toNatClampNeg + i) .null) rfl h5 N ge hg hsize hs hd hf hW hlo
  refine ⟨T', h', L, X', e', N', K', ?_, st⟩
  rw [own_us _ _ _ _ h4] at V'
  exact own_of_arv V' (by rw [own_clamp hb]; simp; omega)
theorem own_selfsel {y : MethodName} {n : Nat} (hZ : Z.Warmed39 s.vm) (wi : (Cond.instantiable y.cls n).before a0 Z = true) (wp : (Cond.privateMethod y).before a0 Z = true) (wm : (Cond.instanceMethod y).before a0 Z = true) (hy : y.cls ≠ "java/lang/invoke/MethodHandle" ∧ y.cls ≠ "java/lang/invoke/VarHandle") : (Cond.selects y.cls y y).before args s = true := by
  obtain ⟨c2, k2, i1, i2, i3, i4⟩ := Cond.instantiable_spec (mvT hZ wi (args := args))
  exact selects_self_of_private i1 i2 (by have q := i4.1; simp only [Bool.or_eq_false_iff] at q; exact q.1) (Cond.privateMethod_at (mvP hZ wp (args := #[]))) (mvT hZ wm) hy
end Own3
/-- a char as two bytes (little end first), and back -/
def own_b0 (c : Int32) : Int32 := ((c >>> ((0 : Int32) &&& 31)).toInt8.toInt32).toInt8.toInt32
def own_b1 (c : Int32) : Int32 := ((c >>> ((8 : Int32) &&& 31)).toInt8.toInt32).toInt8.toInt32
def own_lb (c : Int32) : Int32 := (c.toInt8.toInt32).toInt8.toInt32
def own_gc (x y : Int32) : Int32 := nar .char ((((x &&& (255 : Int32)) <<< ((0 : Int32) &&& 31)) ||| ((y &&& (255 : Int32)) <<< ((8 : Int32) &&& 31))).toUInt32.toUInt16.toUInt32.toInt32)
def own_l1 (x : Int32) : Int32 := nar .char ((x &&& (255 : Int32)).toUInt32.toUInt16.toUInt32.toInt32)
theorem own_i2c {x : Int32} (h0 : 0 ≤ x.toInt) (h1 : x.toInt < 65536) : x.toUInt32.toUInt16.toUInt32.toInt32 = x := by
  obtain ⟨a, b, c⟩ := c_i2c x
  exact Int32.toInt_inj.mp (by omega)
theorem own_l1c {c : Int32} (h0 : 0 ≤ c.toInt) (h : ¬ ((255 : Int32) < c)) : own_l1 (own_lb c) = c := by
  have e : (255 : Int32).toInt = 255 := by decide
  rw [Int32.lt_iff_toInt_lt, e] at h
  obtain ⟨a1, a2, a3⟩ := c_i2b c
  obtain ⟨b1, b2, b3⟩ := c_i2b (c.toInt8.toInt32)
  have m := c_mask (own_lb c) 255 8 (by decide) (by decide)
  have hm : (own_lb c &&& 255).toInt = c.toInt := by rw [m]; show (c.toInt8.toInt32.toInt8.toInt32).toInt % _ = _; omega
  show ((own_lb c &&& 255).toUInt32.toUInt16.toUInt32.toInt32).toUInt32.toUInt16.toUInt32.toInt32 = c
  rw [own_i2c (x := own_lb c &&& 255) (by omega) (by omega), own_i2c (by omega) (by omega)]
  exact Int32.toInt_inj.mp hm
theorem own_gcc {c : Int32} (h0 : 0 ≤ c.toInt) (h1 : c.toInt < 65536) : own_gc (own_b0 c) (own_b1 c) = c := by
  have s0 := c_ishr c 0 0 (by decide)
  have s8 := c_ishr c 8 8 (by decide)
  obtain ⟨a1, a2, a3⟩ := c_i2b (c >>> ((0 : Int32) &&& 31))
  obtain ⟨b1, b2, b3⟩ := c_i2b ((c >>> ((0 : Int32) &&& 31)).toInt8.toInt32)
  obtain ⟨d1, d2, d3⟩ := c_i2b (c >>> ((8 : Int32) &&& 31))
  obtain ⟨e1, e2, e3⟩ := c_i2b ((c >>> ((8 : Int32) &&& 31)).toInt8.toInt32)
  have m0 : (own_b0 c &&& 255).toInt = c.toInt % 256 := by
    have m := c_mask (own_b0 c) 255 8 (by decide) (by decide)
    rw [m]; show ((c >>> ((0 : Int32) &&& 31)).toInt8.toInt32.toInt8.toInt32).toInt % _ = _
    simp only [Nat.pow_zero, Int.natCast_one, Int.ediv_one] at s0
    omega
  have m8 : (own_b1 c &&& 255).toInt = c.toInt / 256 := by
    have m := c_mask (own_b1 c) 255 8 (by decide) (by decide)
    rw [m]; show ((c >>> ((8 : Int32) &&& 31)).toInt8.toInt32.toInt8.toInt32).toInt % _ = _
    omega
  have l0 : ((own_b0 c &&& 255) <<< ((0 : Int32) &&& 31)).toInt = c.toInt % 256 := by
    have q := c_ishl (own_b0 c &&& 255) 0 0 (by decide)
    have r := rng32 ((own_b0 c &&& 255) <<< ((0 : Int32) &&& 31))
    simp only [Nat.pow_zero, Int.natCast_one, Int.mul_one] at q
    omega
  have l8 : ((own_b1 c &&& 255) <<< ((8 : Int32) &&& 31)).toInt = (c.toInt / 256) * 256 := by
    have q := c_ishl (own_b1 c &&& 255) 8 8 (by decide)
    have r := rng32 ((own_b1 c &&& 255) <<< ((8 : Int32) &&& 31))
    omega
  have ho := c_or' ((own_b0 c &&& 255) <<< ((0 : Int32) &&& 31)) ((own_b1 c &&& 255) <<< ((8 : Int32) &&& 31)) 8 (by decide) 256 (by decide) (by omega) (by omega) (by omega)
  have hr := rng32 (((own_b0 c &&& 255) <<< ((0 : Int32) &&& 31)) ||| ((own_b1 c &&& 255) <<< ((8 : Int32) &&& 31)))
  have hv : (((own_b0 c &&& 255) <<< ((0 : Int32) &&& 31)) ||| ((own_b1 c &&& 255) <<< ((8 : Int32) &&& 31))).toInt = c.toInt := by omega
  show ((((own_b0 c &&& 255) <<< ((0 : Int32) &&& 31)) ||| ((own_b1 c &&& 255) <<< ((8 : Int32) &&& 31))).toUInt32.toUInt16.toUInt32.toInt32).toUInt32.toUInt16.toUInt32.toInt32 = c
  rw [own_i2c (x := ((own_b0 c &&& 255) <<< ((0 : Int32) &&& 31)) ||| ((own_b1 c &&& 255) <<< ((8 : Int32) &&& 31))) (by omega) (by omega), own_i2c (by omega) (by omega)]
  exact Int32.toInt_inj.mp hv
def own_cnt2 (c0 c1 : Int32) : Int32 := if (255 : Int32) < c0 then 0 else if (255 : Int32) < c1 then 1 else 2
def own_cnt3 (c0 c1 c2 : Int32) : Int32 := if (255 : Int32) < c0 then 0 else if (255 : Int32) < c1 then 1 else if (255 : Int32) < c2 then 2 else 3
def own_can (c : Int32) : Int32 := if (255 : Int32) < c then 0 else 1

section OwnW
variable {p : Program} {l : Launch} {e : Env} {R : Room} {s : State} {m : MethodId} {args : Array Value} {below : List Frame} {meth : Method} {c : Code} {T : State} {locs : List Loc} {cells slots : Nat} {Z : State} {a0 : Array Value} {h h' : Heap} {vm0 : Vm}
/-- the walk's goal where a String constant may have been interned on the way -/
def own_GW (p : Program) (e : Env) (s : State) (below : List Frame) (Q : Option Value → Heap → List Loc → Prop) (kc ks : Nat) (S : State) : Prop :=
  ∃ s₂ o, Steps p.tables e below S s₂ ∧ s₂.status = .running ∧ Ended s₂ below o ∧ ∃ v L, o = .returned v ∧ Q v s₂.heap L ∧ ReturnedEndW s o s₂ L kc ks
theorem own_goW {Q : Option Value → Heap → List Loc → Prop} {kc ks : Nat} {S S' : State} (k : ∀ t, Steps p.tables e below S' t → Steps p.tables e below S t) (g : own_GW p e s below Q kc ks S') : own_GW p e s below Q kc ks S := by
  obtain ⟨s2, o, h1, h2⟩ := g
  exact ⟨s2, o, k _ h1, h2⟩
theorem own_wide {Q : Option Value → Heap → List Loc → Prop} {kc ks : Nat} {S : State} (g : own_G p e s below Q kc ks S) : own_GW p e s below Q kc ks S := by
  obtain ⟨s2, o, h1, h2, h3, v, L, h4, h5, h6⟩ := g
  exact ⟨s2, o, h1, h2, h3, v, L, h4, h5, ReturnedEndW.of_narrow h6.1 h6.2.1 h6.2.2⟩
theorem own_endW {kc ks : Nat} {v : Option Value} {fs : List Frame} {k0 : Nat} (hS : s.Since vm0 k0) (hk : k0 ≤ T.heap.size) (hW : (s.setVm vm0).WarmedH (T.setFrames fs).vm) (hsame : (s.setVm vm0).sameButNew ({ T.setFrames fs with vm := (s.setVm vm0).vm } : State) locs cells slots) (hc : cells ≤ kc) (hs : slots ≤ ks) : ReturnedEndW s (.returned v) (T.setFrames fs) locs kc ks := by
  obtain ⟨q1, q2, q3⟩ := hS.ended (U := T.setFrames fs) hW hk hsame
  exact ⟨⟨_, rfl⟩, q1, q2, q3.mono hc hs⟩
theorem own_retVW {Q : Option Value → Heap → List Loc → Prop} {kc ks : Nat} (X : Stand p l e R (s.setVm vm0) m args below meth c T locs cells slots) {k0 : Nat} (hS : s.Since vm0 k0) (hk : k0 ≤ T.heap.size) (hx : p.tables.exec = Jvm.exec) (hlk : meth.locks = false) (hret : meth.sig.returnType = none) {pc : Nat} {Ls : Array Slot} (hd : decode c.code pc = .ok (.return_, 1)) (hc : cells ≤ kc) (hs : slots ≤ ks) (hQ : Q none T.heap locs) :
    own_GW p e s below Q kc ks (T.setTop (mkF m pc Ls [])) := by
  obtain ⟨fs, hr, hrun, hended, hW, hsame⟩ := X.leave (v := none) (fun _ => rfl) hlk
  exact ⟨_, _, X.returnOut hx hret hd hr, hrun, hended, _, _, rfl, hQ, own_endW hS hk hW hsame hc hs⟩
theorem own_retNW {Q : Option Value → Heap → List Loc → Prop} {kc ks : Nat} (X : Stand p l e R (s.setVm vm0) m args below meth c T locs cells slots) {k0 : Nat} (hS : s.Since vm0 k0) (hk : k0 ≤ T.heap.size) (hx : p.tables.exec = Jvm.exec) (hlk : meth.locks = false) {t : FieldType} (hret : meth.sig.returnType = some t) (ht : t = .boolean ∨ t = .byte ∨ t = .char ∨ t = .short) {pc : Nat} {Ls : Array Slot} {z : Int32} {rest : List Value} (hd : decode c.code pc = .ok (.ireturn, 1)) (hc : cells ≤ kc) (hs : slots ≤ ks) (hQ : Q (some (.int (nar t z))) T.heap locs) :
    own_GW p e s below Q kc ks (T.setTop (mkF m pc Ls (.int z :: rest))) := by
  obtain ⟨fs, hr, hrun, hended, hW, hsame⟩ := X.leave (v := some (.int (nar t z))) (fun h => by rw [hret] at h; cases h) hlk
  exact ⟨_, _, retN X hx hret ht hd hr, hrun, hended, _, _, rfl, hQ, own_endW hS hk hW hsame hc hs⟩
theorem own_retAW {Q : Option Value → Heap → List Loc → Prop} {kc ks : Nat} (X : Stand p l e R (s.setVm vm0) m args below meth c T locs cells slots) {k0 : Nat} (hS : s.Since vm0 k0) (hk : k0 ≤ T.heap.size) (hx : p.tables.exec = Jvm.exec) (hlk : meth.locks = false) {t : FieldType} (hret : meth.sig.returnType = some t) (ht : t.isReference = true) {pc : Nat} {Ls : Array Slot} {w : Value} (hv : w.isRef = true) {rest : List Value} (hd : decode c.code pc = .ok (.areturn, 1)) (hc : cells ≤ kc) (hs : slots ≤ ks) (hQ : Q (some w) T.heap locs) :
    own_GW p e s below Q kc ks (T.setTop (mkF m pc Ls (w :: rest))) := by
  obtain ⟨fs, hr, hrun, hended, hW, hsame⟩ := X.leave (v := some w) (fun h => by rw [hret] at h; cases h) hlk
  have hn : narrow t w = w := by rcases ref_cases hv with rfl | ⟨z, rfl⟩ <;> cases t <;> rfl
  exact ⟨_, _, retOut X hx hret hn (Or.inr (Or.inr (Or.inr (Or.inr ⟨rfl, ht, hv⟩)))) hd hr, hrun, hended, _, _, rfl, hQ, own_endW hS hk hW hsame hc hs⟩
/-- a callee that may intern, its texts known: its theorem pays a BackS -/
theorem own_backS {y : MethodName} {bytes : ByteArray} {maxL : Nat} {ret : Option FieldType} {rm : Room} {len W : Nat} {as' : Array Value} {Q : Option Value → Heap → List Loc → Prop} {Ts : List String}
    (hM : MetFree l y (head1 [Cond.code y bytes maxL ret] rm) (fun a U => a = as' ∧ Z.Warmed39 U.vm ∧ U.heap = h ∧ IB Z U.vm Ts) (fun _ _ _ _ _ => True) (fun _ U o U' => ∃ v L, o = .returned v ∧ Q v U'.heap L ∧ ReturnedEndW U o U' L rm.cells rm.slots))
    (hZ : Z.Warmed39 s.vm) (I : IB Z s.vm Ts) (wc : (Cond.code y bytes maxL ret).before a0 Z = true) (wz : (Cond.initialized y.cls).before a0 Z = true) (hf : rm.frames + 1 ≤ R.frames) (hl : W + (maxL + 11) + rm.locals ≤ R.locals) :
    BackS l R p e below s args y len W (fun A a => a = as' ∧ A.U.heap = h ∧ A.cells + rm.cells ≤ R.cells ∧ A.slots + rm.slots ≤ R.slots)
      (fun A _ v B => ∃ L, Q v B.U.heap L ∧ B.locs = A.locs ++ L ∧ B.cells = A.cells + rm.cells ∧ B.slots = A.slots + rm.slots) :=
  BackS.of_freeW (bytes := bytes) (maxL := maxL) (ret := ret) (E := fun _ _ o t L k n => k = rm.cells ∧ n = rm.slots ∧ ∃ v, o = .returned v ∧ Q v t.heap L) hM hf hl
    (fun m meth c A a Y hp => have hU : Z.Warmed39 A.U.vm := wtrans hZ Y.warmed
      ⟨by show (Cond.and _ .tt).before a A.U = true; rw [Cond.before_and, mv hU wc]; rfl, mv hU wc, mv hU wz, hp.2.2.1, hp.2.2.2⟩)
    (fun m meth c A a g mk Y hp => ⟨hp.1, wtrans hZ Y.warmed, hp.2.1, by obtain ⟨more, q1, q2⟩ := I; exact ⟨more, Y.warmed.interned_eq.trans q1, q2⟩⟩) (fun _ _ _ _ _ _ _ _ _ => trivial)
    (fun _ _ _ _ ⟨v, L, h1, h2, h3⟩ => ⟨L, _, _, h3, rfl, rfl, v, h1, h2⟩)
    (fun m meth c A a g mk v t L k n Y hp _ _ ⟨e1, e2, v', e3, e4⟩ => by cases e3; subst e1 e2; exact ⟨L, e4, rfl, rfl, rfl⟩)
end OwnW

section OwnCodes
variable {args : Array Value} {first s Z : State} {o : Option Outcome} {idx : List Nat} {a b : Term} {h : Heap}
theorem own_eqR {x : Addr} (h : (Cond.eq a b).value args first o s idx = some true) (hb : b.eval args first o idx s = some (.ref x)) : a.eval args first o idx s = some (.ref x) := by
  simp only [Cond.value] at h
  cases ha : a.eval args first o idx s with
  | none => simp [ha] at h
  | some y => cases y <;> simp [ha, hb] at h ⊢; exact h
theorem own_eqNul (h : (Cond.eq a .null).value args first o s idx = some true) : a.eval args first o idx s = some .null := by
  simp only [Cond.value, Term.eval] at h
  cases ha : a.eval args first o idx s with
  | none => simp [ha] at h
  | some y => cases y <;> simp [ha] at h ⊢
theorem own_nz {t : Term} {z : Int32} (e : t.eval args s none [] s = some (.int z)) (h : (Cond.not (Cond.eq t (.int 0))).value args s none s [] = some true) : ¬ (z = (0 : Int32)) := by
  have h1 := not_v h
  intro q; subst q
  simp [Cond.value, e, Term.eval] at h1
theorem own_four (x : Int32) : (x &&& (3 : Int32)) = 0 ∨ (x &&& (3 : Int32)) = 1 ∨ (x &&& (3 : Int32)) = 2 ∨ (x &&& (3 : Int32)) = 3 := by
  have h1 := c_mask x 3 2 (by decide) (by decide)
  have h2 : ∀ k : Int32, (x &&& 3).toInt = k.toInt → x &&& 3 = k := fun k q => Int32.toInt_inj.mp q
  have h3 : (x &&& 3).toInt = 0 ∨ (x &&& 3).toInt = 1 ∨ (x &&& 3).toInt = 2 ∨ (x &&& 3).toInt = 3 := by omega
  rcases h3 with q | q | q | q
  · exact Or.inl (h2 0 q)
  · exact Or.inr (Or.inl (h2 1 q))
  · exact Or.inr (Or.inr (Or.inl (h2 2 q)))
  · exact Or.inr (Or.inr (Or.inr (h2 3 q)))
theorem own_charR (x : Int32) : 0 ≤ (nar .char x).toInt ∧ (nar .char x).toInt < 65536 := by
  obtain ⟨-, q1, q2⟩ := c_i2c x
  exact ⟨q1, q2⟩
theorem own_five (x : Int32) : x = 48 ∨ x = 49 ∨ x = 50 ∨ x = 51 ∨ (¬ ((48 : Int32) = x) ∧ ¬ ((49 : Int32) = x) ∧ ¬ ((50 : Int32) = x) ∧ ¬ ((51 : Int32) = x)) := by
  by_cases h0 : x = 48
  · exact Or.inl h0
  by_cases h1 : x = 49
  · exact Or.inr (Or.inl h1)
  by_cases h2 : x = 50
  · exact Or.inr (Or.inr (Or.inl h2))
  by_cases h3 : x = 51
  · exact Or.inr (Or.inr (Or.inr (Or.inl h3)))
  · exact Or.inr (Or.inr (Or.inr (Or.inr ⟨fun q => h0 q.symm, fun q => h1 q.symm, fun q => h2 q.symm, fun q => h3 q.symm⟩)))
theorem own_codes {t : Term} {x : Addr} {ty : FieldType} {v0 v1 v2 v3 : Value} (ev : t.eval args Z none [] Z = some (.ref x)) (hx : (Cond.arrayOf t ty).value args Z none Z [] = some true) (hl : (Term.length t).eval args Z none [] Z = some (.int 4))
    (h0 : (Term.elem t (.int 0)).eval args Z none [] Z = some v0) (h1 : (Term.elem t (.int 1)).eval args Z none [] Z = some v1) (h2 : (Term.elem t (.int 2)).eval args Z none [] Z = some v2) (h3 : (Term.elem t (.int 3)).eval args Z none [] Z = some v3) : ∃ k, own_Ar Z Z.heap x k ty [v0, v1, v2, v3] := by
  obtain ⟨c, A⟩ := Arr.start ev hx
  have hat : Z.arrayAt? x = some c := A.fin (State.Warmed39.refl Z).alike
  have hsz : c.slots.size = 4 := by
    simp only [Term.eval, ev, Option.bind_eq_bind, Option.bind_some, hat] at hl
    by_cases q : c.slots.size < 2 ^ 31
    · simp only [q, if_true] at hl
      have hl' : some (Value.int c.slots.size.toInt32) = some (Value.int 4) := hl
      have q2 : (Int32.ofNat c.slots.size) = Int32.ofNat 4 := Value.int.inj (Option.some.inj hl')
      exact (own_eqN q (by decide)).mp q2
    · simp [q] at hl
  have g : ∀ (i : Nat) (w : Value), i < 4 → (Term.elem t (.int (Int32.ofNat i))).eval args Z none [] Z = some w → c.slots[i]? = some w := fun i w hi q => by
    have hn : ¬ (Int32.ofNat i < 0) := own_pos (by omega)
    simpa [Term.eval, ev, Option.bind_eq_bind, hat, hn, own_clamp (n := i) (by omega)] using q
  have g0 := g 0 v0 (by decide) h0
  have g1 := g 1 v1 (by decide) h1
  have g2 := g 2 v2 (by decide) h2
  have g3 := g 3 v3 (by decide) h3
  refine ⟨c.cls, c, A, rfl, ?_, by show 4 < 2 ^ 31; decide⟩
  apply Array.ext_getElem?
  intro i
  match i with
  | 0 => simpa using g0
  | 1 => simpa using g1
  | 2 => simpa using g2
  | 3 => simpa using g3
  | i + 4 => rw [Array.getElem?_eq_none (by omega), Array.getElem?_eq_none (by show 4 ≤ i + 4; omega)]
theorem own_ofArv0 {x : Addr} {k : ClassId} {ty : FieldType} {d : Value} (F : Arv Z h x k ty 0 [] d) : own_Ar Z h x k ty [] := by
  obtain ⟨c, A, q, e, -, -, -⟩ := F
  exact ⟨c, A, q, Array.eq_empty_of_size_eq_zero e, by decide⟩
theorem own_since (s : State) (k : Nat) : s.Since s.vm k := (State.WarmedH.refl s).since k
end OwnCodes
theorem d1_0 : decode method_3_code 0 = .ok (.iload_n 0, 1) := by decide +kernel
theorem d1_1 : decode method_3_code 1 = .ok (.ldc 38, 2) := by decide +kernel
theorem d1_3 : decode method_3_code 3 = .ok (.iand, 1) := by decide +kernel
theorem d1_4 : decode method_3_code 4 = .ok (.ifCond .eq 15, 3) := by decide +kernel
theorem d1_19 : decode method_3_code 19 = .ok (.iload_n 0, 1) := by decide +kernel
theorem d1_20 : decode method_3_code 20 = .ok (.ldc 39, 2) := by decide +kernel
theorem d1_22 : decode method_3_code 22 = .ok (.iand, 1) := by decide +kernel
theorem d1_23 : decode method_3_code 23 = .ok (.i2c, 1) := by decide +kernel
theorem d1_24 : decode method_3_code 24 = .ok (.ireturn, 1) := by decide +kernel
theorem d1_7 : decode method_3_code 7 = .ok (.bipush 48, 2) := by decide +kernel
theorem d1_9 : decode method_3_code 9 = .ok (.iload_n 0, 1) := by decide +kernel
theorem d1_10 : decode method_3_code 10 = .ok (.bipush 17, 2) := by decide +kernel
theorem d1_12 : decode method_3_code 12 = .ok (.iushr, 1) := by decide +kernel
theorem d1_13 : decode method_3_code 13 = .ok (.bipush 7, 2) := by decide +kernel
theorem d1_15 : decode method_3_code 15 = .ok (.iand, 1) := by decide +kernel
theorem d1_16 : decode method_3_code 16 = .ok (.iadd, 1) := by decide +kernel
theorem d1_17 : decode method_3_code 17 = .ok (.i2c, 1) := by decide +kernel
theorem d1_18 : decode method_3_code 18 = .ok (.ireturn, 1) := by decide +kernel
theorem d23_0 : decode prog_3_method_5_code 0 = .ok (.getstatic 75, 3) := by decide +kernel
theorem d23_3 : decode prog_3_method_5_code 3 = .ok (.astore_n 1, 1) := by decide +kernel
theorem d23_4 : decode prog_3_method_5_code 4 = .ok (.aload_n 1, 1) := by decide +kernel
theorem d23_5 : decode prog_3_method_5_code 5 = .ok (.arraylength, 1) := by decide +kernel
theorem d23_6 : decode prog_3_method_5_code 6 = .ok (.istore_n 2, 1) := by decide +kernel
theorem d23_7 : decode prog_3_method_5_code 7 = .ok (.iconst 0, 1) := by decide +kernel
theorem d23_8 : decode prog_3_method_5_code 8 = .ok (.istore_n 3, 1) := by decide +kernel
theorem d23_9 : decode prog_3_method_5_code 9 = .ok (.iload_n 3, 1) := by decide +kernel
theorem d23_10 : decode prog_3_method_5_code 10 = .ok (.iload_n 2, 1) := by decide +kernel
theorem d23_11 : decode prog_3_method_5_code 11 = .ok (.if_icmp .ge 26, 3) := by decide +kernel
theorem d23_14 : decode prog_3_method_5_code 14 = .ok (.aload_n 1, 1) := by decide +kernel
theorem d23_15 : decode prog_3_method_5_code 15 = .ok (.iload_n 3, 1) := by decide +kernel
theorem d23_16 : decode prog_3_method_5_code 16 = .ok (.aaload, 1) := by decide +kernel
theorem d23_17 : decode prog_3_method_5_code 17 = .ok (.astore 4, 2) := by decide +kernel
theorem d23_19 : decode prog_3_method_5_code 19 = .ok (.aload 4, 2) := by decide +kernel
theorem d23_21 : decode prog_3_method_5_code 21 = .ok (.getfield 35, 3) := by decide +kernel
theorem d23_24 : decode prog_3_method_5_code 24 = .ok (.iload_n 0, 1) := by decide +kernel
theorem d23_25 : decode prog_3_method_5_code 25 = .ok (.if_icmp .ne 6, 3) := by decide +kernel
theorem d23_28 : decode prog_3_method_5_code 28 = .ok (.aload 4, 2) := by decide +kernel
theorem d23_30 : decode prog_3_method_5_code 30 = .ok (.areturn, 1) := by decide +kernel
theorem d23_31 : decode prog_3_method_5_code 31 = .ok (.iinc 3 1, 3) := by decide +kernel
theorem d23_34 : decode prog_3_method_5_code 34 = .ok (.goto (-25), 3) := by decide +kernel
theorem d23_37 : decode prog_3_method_5_code 37 = .ok (.aconst_null, 1) := by decide +kernel
theorem d23_38 : decode prog_3_method_5_code 38 = .ok (.areturn, 1) := by decide +kernel
theorem d8_0 : decode jdk_32_method_1_code 0 = .ok (.getstatic 1, 3) := by decide +kernel
theorem d8_3 : decode jdk_32_method_1_code 3 = .ok (.astore_n 0, 1) := by decide +kernel
theorem d8_4 : decode jdk_32_method_1_code 4 = .ok (.aload_n 0, 1) := by decide +kernel
theorem d8_5 : decode jdk_32_method_1_code 5 = .ok (.areturn, 1) := by decide +kernel
theorem d34_0 : decode jdk_32_method_2_code 0 = .ok (.aload_n 0, 1) := by decide +kernel
theorem d34_1 : decode jdk_32_method_2_code 1 = .ok (.invokespecial 7, 3) := by decide +kernel
theorem d34_4 : decode jdk_32_method_2_code 4 = .ok (.aload_n 0, 1) := by decide +kernel
theorem d34_5 : decode jdk_32_method_2_code 5 = .ok (.aload_n 1, 1) := by decide +kernel
theorem d34_6 : decode jdk_32_method_2_code 6 = .ok (.putfield 13, 3) := by decide +kernel
theorem d34_9 : decode jdk_32_method_2_code 9 = .ok (.return_, 1) := by decide +kernel
theorem d24_0 : decode jdk_32_method_4_code 0 = .ok (.aload_n 0, 1) := by decide +kernel
theorem d24_1 : decode jdk_32_method_4_code 1 = .ok (.ifnonnull 9, 3) := by decide +kernel
theorem d24_4 : decode jdk_32_method_4_code 4 = .ok (.getstatic 1, 3) := by decide +kernel
theorem d24_7 : decode jdk_32_method_4_code 7 = .ok (.goto 11, 3) := by decide +kernel
theorem d24_18 : decode jdk_32_method_4_code 18 = .ok (.areturn, 1) := by decide +kernel
theorem d24_10 : decode jdk_32_method_4_code 10 = .ok (.new 2, 3) := by decide +kernel
theorem d24_13 : decode jdk_32_method_4_code 13 = .ok (.dup, 1) := by decide +kernel
theorem d24_14 : decode jdk_32_method_4_code 14 = .ok (.aload_n 0, 1) := by decide +kernel
theorem d24_15 : decode jdk_32_method_4_code 15 = .ok (.invokespecial 23, 3) := by decide +kernel
theorem d9_0 : decode jdk_32_method_15_code 0 = .ok (.aload_n 0, 1) := by decide +kernel
theorem d9_1 : decode jdk_32_method_15_code 1 = .ok (.getfield 13, 3) := by decide +kernel
theorem d9_4 : decode jdk_32_method_15_code 4 = .ok (.ifnull 10, 3) := by decide +kernel
theorem d9_14 : decode jdk_32_method_15_code 14 = .ok (.aload_n 1, 1) := by decide +kernel
theorem d9_15 : decode jdk_32_method_15_code 15 = .ok (.areturn, 1) := by decide +kernel
theorem d9_7 : decode jdk_32_method_15_code 7 = .ok (.aload_n 0, 1) := by decide +kernel
theorem d9_8 : decode jdk_32_method_15_code 8 = .ok (.getfield 13, 3) := by decide +kernel
theorem d9_11 : decode jdk_32_method_15_code 11 = .ok (.goto 4, 3) := by decide +kernel
theorem d10_0 : decode method_4_code 0 = .ok (.iload_n 0, 1) := by decide +kernel
theorem d10_1 : decode method_4_code 1 = .ok (.iconst 1, 1) := by decide +kernel
theorem d10_2 : decode method_4_code 2 = .ok (.if_icmp .eq 5, 3) := by decide +kernel
theorem d10_7 : decode method_4_code 7 = .ok (.iload_n 1, 1) := by decide +kernel
theorem d10_8 : decode method_4_code 8 = .ok (.bipush 48, 2) := by decide +kernel
theorem d10_10 : decode method_4_code 10 = .ok (.if_icmp .ne 7, 3) := by decide +kernel
theorem d10_13 : decode method_4_code 13 = .ok (.getstatic 40, 3) := by decide +kernel
theorem d10_16 : decode method_4_code 16 = .ok (.areturn, 1) := by decide +kernel
theorem d10_17 : decode method_4_code 17 = .ok (.iload_n 1, 1) := by decide +kernel
theorem d10_18 : decode method_4_code 18 = .ok (.bipush 49, 2) := by decide +kernel
theorem d10_20 : decode method_4_code 20 = .ok (.if_icmp .ne 7, 3) := by decide +kernel
theorem d10_23 : decode method_4_code 23 = .ok (.getstatic 44, 3) := by decide +kernel
theorem d10_26 : decode method_4_code 26 = .ok (.areturn, 1) := by decide +kernel
theorem d10_27 : decode method_4_code 27 = .ok (.iload_n 1, 1) := by decide +kernel
theorem d10_28 : decode method_4_code 28 = .ok (.bipush 50, 2) := by decide +kernel
theorem d10_30 : decode method_4_code 30 = .ok (.if_icmp .ne 7, 3) := by decide +kernel
theorem d10_33 : decode method_4_code 33 = .ok (.getstatic 47, 3) := by decide +kernel
theorem d10_36 : decode method_4_code 36 = .ok (.areturn, 1) := by decide +kernel
theorem d10_37 : decode method_4_code 37 = .ok (.iload_n 1, 1) := by decide +kernel
theorem d10_38 : decode method_4_code 38 = .ok (.bipush 51, 2) := by decide +kernel
theorem d10_40 : decode method_4_code 40 = .ok (.if_icmp .ne 7, 3) := by decide +kernel
theorem d10_43 : decode method_4_code 43 = .ok (.getstatic 50, 3) := by decide +kernel
theorem d10_46 : decode method_4_code 46 = .ok (.areturn, 1) := by decide +kernel
theorem d10_47 : decode method_4_code 47 = .ok (.aconst_null, 1) := by decide +kernel
theorem d10_48 : decode method_4_code 48 = .ok (.areturn, 1) := by decide +kernel
theorem d10_5 : decode method_4_code 5 = .ok (.aconst_null, 1) := by decide +kernel
theorem d10_6 : decode method_4_code 6 = .ok (.areturn, 1) := by decide +kernel
theorem d7_0 : decode jdk_42_method_152_code 0 = .ok (.getstatic 38, 3) := by decide +kernel
theorem d7_3 : decode jdk_42_method_152_code 3 = .ok (.ifCond .eq 10, 3) := by decide +kernel
theorem d7_6 : decode jdk_42_method_152_code 6 = .ok (.aload_n 0, 1) := by decide +kernel
theorem d7_7 : decode jdk_42_method_152_code 7 = .ok (.getfield 15, 3) := by decide +kernel
theorem d7_10 : decode jdk_42_method_152_code 10 = .ok (.goto 4, 3) := by decide +kernel
theorem d7_14 : decode jdk_42_method_152_code 14 = .ok (.ireturn, 1) := by decide +kernel
theorem d6_0 : decode jdk_42_method_54_code 0 = .ok (.aload_n 0, 1) := by decide +kernel
theorem d6_1 : decode jdk_42_method_54_code 1 = .ok (.getfield 9, 3) := by decide +kernel
theorem d6_4 : decode jdk_42_method_54_code 4 = .ok (.arraylength, 1) := by decide +kernel
theorem d6_5 : decode jdk_42_method_54_code 5 = .ok (.aload_n 0, 1) := by decide +kernel
theorem d6_6 : decode jdk_42_method_54_code 6 = .ok (.invokevirtual 335, 3) := by decide +kernel
theorem d6_9 : decode jdk_42_method_54_code 9 = .ok (.ishr, 1) := by decide +kernel
theorem d6_10 : decode jdk_42_method_54_code 10 = .ok (.ireturn, 1) := by decide +kernel
theorem d19_0 : decode jdk_42_method_154_code 0 = .ok (.getstatic 38, 3) := by decide +kernel
theorem d19_3 : decode jdk_42_method_154_code 3 = .ok (.ifCond .eq 14, 3) := by decide +kernel
theorem d19_6 : decode jdk_42_method_154_code 6 = .ok (.aload_n 0, 1) := by decide +kernel
theorem d19_7 : decode jdk_42_method_154_code 7 = .ok (.getfield 15, 3) := by decide +kernel
theorem d19_10 : decode jdk_42_method_154_code 10 = .ok (.ifCond .ne 7, 3) := by decide +kernel
theorem d19_13 : decode jdk_42_method_154_code 13 = .ok (.iconst 1, 1) := by decide +kernel
theorem d19_14 : decode jdk_42_method_154_code 14 = .ok (.goto 4, 3) := by decide +kernel
theorem d19_18 : decode jdk_42_method_154_code 18 = .ok (.ireturn, 1) := by decide +kernel
theorem d22_0 : decode jdk_41_method_11_code 0 = .ok (.iload_n 0, 1) := by decide +kernel
theorem d22_1 : decode jdk_41_method_11_code 1 = .ok (.ifCond .lt 8, 3) := by decide +kernel
theorem d22_4 : decode jdk_41_method_11_code 4 = .ok (.iload_n 0, 1) := by decide +kernel
theorem d22_5 : decode jdk_41_method_11_code 5 = .ok (.iload_n 1, 1) := by decide +kernel
theorem d22_6 : decode jdk_41_method_11_code 6 = .ok (.if_icmp .lt 10, 3) := by decide +kernel
theorem d22_16 : decode jdk_41_method_11_code 16 = .ok (.iload_n 0, 1) := by decide +kernel
theorem d22_17 : decode jdk_41_method_11_code 17 = .ok (.ireturn, 1) := by decide +kernel
theorem d21_0 : decode jdk_42_method_155_code 0 = .ok (.iload_n 0, 1) := by decide +kernel
theorem d21_1 : decode jdk_42_method_155_code 1 = .ok (.iload_n 1, 1) := by decide +kernel
theorem d21_2 : decode jdk_42_method_155_code 2 = .ok (.getstatic 1053, 3) := by decide +kernel
theorem d21_5 : decode jdk_42_method_155_code 5 = .ok (.invokestatic 1059, 3) := by decide +kernel
theorem d21_8 : decode jdk_42_method_155_code 8 = .ok (.pop, 1) := by decide +kernel
theorem d21_9 : decode jdk_42_method_155_code 9 = .ok (.return_, 1) := by decide +kernel
theorem d20_0 : decode jdk_43_method_2_code 0 = .ok (.iload_n 1, 1) := by decide +kernel
theorem d20_1 : decode jdk_43_method_2_code 1 = .ok (.aload_n 0, 1) := by decide +kernel
theorem d20_2 : decode jdk_43_method_2_code 2 = .ok (.arraylength, 1) := by decide +kernel
theorem d20_3 : decode jdk_43_method_2_code 3 = .ok (.invokestatic 9, 3) := by decide +kernel
theorem d20_6 : decode jdk_43_method_2_code 6 = .ok (.aload_n 0, 1) := by decide +kernel
theorem d20_7 : decode jdk_43_method_2_code 7 = .ok (.iload_n 1, 1) := by decide +kernel
theorem d20_8 : decode jdk_43_method_2_code 8 = .ok (.baload, 1) := by decide +kernel
theorem d20_9 : decode jdk_43_method_2_code 9 = .ok (.sipush 255, 3) := by decide +kernel
theorem d20_12 : decode jdk_43_method_2_code 12 = .ok (.iand, 1) := by decide +kernel
theorem d20_13 : decode jdk_43_method_2_code 13 = .ok (.i2c, 1) := by decide +kernel
theorem d20_14 : decode jdk_43_method_2_code 14 = .ok (.ireturn, 1) := by decide +kernel
theorem d18_0 : decode jdk_42_method_56_code 0 = .ok (.aload_n 0, 1) := by decide +kernel
theorem d18_1 : decode jdk_42_method_56_code 1 = .ok (.invokevirtual 492, 3) := by decide +kernel
theorem d18_4 : decode jdk_42_method_56_code 4 = .ok (.ifCond .eq 12, 3) := by decide +kernel
theorem d18_7 : decode jdk_42_method_56_code 7 = .ok (.aload_n 0, 1) := by decide +kernel
theorem d18_8 : decode jdk_42_method_56_code 8 = .ok (.getfield 9, 3) := by decide +kernel
theorem d18_11 : decode jdk_42_method_56_code 11 = .ok (.iload_n 1, 1) := by decide +kernel
theorem d18_12 : decode jdk_42_method_56_code 12 = .ok (.invokestatic 495, 3) := by decide +kernel
theorem d18_15 : decode jdk_42_method_56_code 15 = .ok (.ireturn, 1) := by decide +kernel
theorem d19_17 : decode jdk_42_method_154_code 17 = .ok (.iconst 0, 1) := by decide +kernel
theorem d33_0 : decode jdk_52_method_6_code 0 = .ok (.aload_n 0, 1) := by decide +kernel
theorem d33_1 : decode jdk_52_method_6_code 1 = .ok (.arraylength, 1) := by decide +kernel
theorem d33_2 : decode jdk_52_method_6_code 2 = .ok (.iconst 1, 1) := by decide +kernel
theorem d33_3 : decode jdk_52_method_6_code 3 = .ok (.ishr, 1) := by decide +kernel
theorem d33_4 : decode jdk_52_method_6_code 4 = .ok (.ireturn, 1) := by decide +kernel
theorem d32_0 : decode jdk_52_method_91_code 0 = .ok (.iload_n 0, 1) := by decide +kernel
theorem d32_1 : decode jdk_52_method_91_code 1 = .ok (.aload_n 1, 1) := by decide +kernel
theorem d32_2 : decode jdk_52_method_91_code 2 = .ok (.invokestatic 48, 3) := by decide +kernel
theorem d32_5 : decode jdk_52_method_91_code 5 = .ok (.invokestatic 414, 3) := by decide +kernel
theorem d32_8 : decode jdk_52_method_91_code 8 = .ok (.return_, 1) := by decide +kernel
theorem d29_0 : decode jdk_52_method_5_code 0 = .ok (.getstatic 44, 3) := by decide +kernel
theorem d29_3 : decode jdk_52_method_5_code 3 = .ok (.ifCond .ne 25, 3) := by decide +kernel
theorem d29_28 : decode jdk_52_method_5_code 28 = .ok (.iload_n 1, 1) := by decide +kernel
theorem d29_29 : decode jdk_52_method_5_code 29 = .ok (.iconst 1, 1) := by decide +kernel
theorem d29_30 : decode jdk_52_method_5_code 30 = .ok (.ishl, 1) := by decide +kernel
theorem d29_31 : decode jdk_52_method_5_code 31 = .ok (.istore_n 1, 1) := by decide +kernel
theorem d29_32 : decode jdk_52_method_5_code 32 = .ok (.aload_n 0, 1) := by decide +kernel
theorem d29_33 : decode jdk_52_method_5_code 33 = .ok (.iload_n 1, 1) := by decide +kernel
theorem d29_34 : decode jdk_52_method_5_code 34 = .ok (.iinc 1 1, 3) := by decide +kernel
theorem d29_37 : decode jdk_52_method_5_code 37 = .ok (.baload, 1) := by decide +kernel
theorem d29_38 : decode jdk_52_method_5_code 38 = .ok (.sipush 255, 3) := by decide +kernel
theorem d29_41 : decode jdk_52_method_5_code 41 = .ok (.iand, 1) := by decide +kernel
theorem d29_42 : decode jdk_52_method_5_code 42 = .ok (.getstatic 59, 3) := by decide +kernel
theorem d29_45 : decode jdk_52_method_5_code 45 = .ok (.ishl, 1) := by decide +kernel
theorem d29_46 : decode jdk_52_method_5_code 46 = .ok (.aload_n 0, 1) := by decide +kernel
theorem d29_47 : decode jdk_52_method_5_code 47 = .ok (.iload_n 1, 1) := by decide +kernel
theorem d29_48 : decode jdk_52_method_5_code 48 = .ok (.baload, 1) := by decide +kernel
theorem d29_49 : decode jdk_52_method_5_code 49 = .ok (.sipush 255, 3) := by decide +kernel
theorem d29_52 : decode jdk_52_method_5_code 52 = .ok (.iand, 1) := by decide +kernel
theorem d29_53 : decode jdk_52_method_5_code 53 = .ok (.getstatic 63, 3) := by decide +kernel
theorem d29_56 : decode jdk_52_method_5_code 56 = .ok (.ishl, 1) := by decide +kernel
theorem d29_57 : decode jdk_52_method_5_code 57 = .ok (.ior, 1) := by decide +kernel
theorem d29_58 : decode jdk_52_method_5_code 58 = .ok (.i2c, 1) := by decide +kernel
theorem d29_59 : decode jdk_52_method_5_code 59 = .ok (.ireturn, 1) := by decide +kernel
theorem d31_0 : decode jdk_52_method_83_code 0 = .ok (.iload_n 1, 1) := by decide +kernel
theorem d31_1 : decode jdk_52_method_83_code 1 = .ok (.aload_n 0, 1) := by decide +kernel
theorem d31_2 : decode jdk_52_method_83_code 2 = .ok (.invokestatic 67, 3) := by decide +kernel
theorem d31_5 : decode jdk_52_method_83_code 5 = .ok (.aload_n 0, 1) := by decide +kernel
theorem d31_6 : decode jdk_52_method_83_code 6 = .ok (.iload_n 1, 1) := by decide +kernel
theorem d31_7 : decode jdk_52_method_83_code 7 = .ok (.invokestatic 71, 3) := by decide +kernel
theorem d31_10 : decode jdk_52_method_83_code 10 = .ok (.ireturn, 1) := by decide +kernel
theorem d18_16 : decode jdk_42_method_56_code 16 = .ok (.aload_n 0, 1) := by decide +kernel
theorem d18_17 : decode jdk_42_method_56_code 17 = .ok (.getfield 9, 3) := by decide +kernel
theorem d18_20 : decode jdk_42_method_56_code 20 = .ok (.iload_n 1, 1) := by decide +kernel
theorem d18_21 : decode jdk_42_method_56_code 21 = .ok (.invokestatic 498, 3) := by decide +kernel
theorem d18_24 : decode jdk_42_method_56_code 24 = .ok (.ireturn, 1) := by decide +kernel
theorem d15_0 : decode jdk_43_method_3_code 0 = .ok (.iload_n 0, 1) := by decide +kernel
theorem d15_1 : decode jdk_43_method_3_code 1 = .ok (.sipush 255, 3) := by decide +kernel
theorem d15_4 : decode jdk_43_method_3_code 4 = .ok (.if_icmp .gt 7, 3) := by decide +kernel
theorem d15_11 : decode jdk_43_method_3_code 11 = .ok (.iconst 0, 1) := by decide +kernel
theorem d15_12 : decode jdk_43_method_3_code 12 = .ok (.ireturn, 1) := by decide +kernel
theorem d15_7 : decode jdk_43_method_3_code 7 = .ok (.iconst 1, 1) := by decide +kernel
theorem d15_8 : decode jdk_43_method_3_code 8 = .ok (.goto 4, 3) := by decide +kernel
theorem d16_0 : decode jdk_43_method_46_code 0 = .ok (.iconst 1, 1) := by decide +kernel
theorem d16_1 : decode jdk_43_method_46_code 1 = .ok (.newarray .byte, 2) := by decide +kernel
theorem d16_3 : decode jdk_43_method_46_code 3 = .ok (.dup, 1) := by decide +kernel
theorem d16_4 : decode jdk_43_method_46_code 4 = .ok (.iconst 0, 1) := by decide +kernel
theorem d16_5 : decode jdk_43_method_46_code 5 = .ok (.iload_n 0, 1) := by decide +kernel
theorem d16_6 : decode jdk_43_method_46_code 6 = .ok (.i2b, 1) := by decide +kernel
theorem d16_7 : decode jdk_43_method_46_code 7 = .ok (.bastore, 1) := by decide +kernel
theorem d16_8 : decode jdk_43_method_46_code 8 = .ok (.areturn, 1) := by decide +kernel
theorem d28_0 : decode jdk_52_method_4_code 0 = .ok (.getstatic 44, 3) := by decide +kernel
theorem d28_3 : decode jdk_52_method_4_code 3 = .ok (.ifCond .ne 25, 3) := by decide +kernel
theorem d28_28 : decode jdk_52_method_4_code 28 = .ok (.iload_n 1, 1) := by decide +kernel
theorem d28_29 : decode jdk_52_method_4_code 29 = .ok (.iconst 1, 1) := by decide +kernel
theorem d28_30 : decode jdk_52_method_4_code 30 = .ok (.ishl, 1) := by decide +kernel
theorem d28_31 : decode jdk_52_method_4_code 31 = .ok (.istore_n 1, 1) := by decide +kernel
theorem d28_32 : decode jdk_52_method_4_code 32 = .ok (.aload_n 0, 1) := by decide +kernel
theorem d28_33 : decode jdk_52_method_4_code 33 = .ok (.iload_n 1, 1) := by decide +kernel
theorem d28_34 : decode jdk_52_method_4_code 34 = .ok (.iinc 1 1, 3) := by decide +kernel
theorem d28_37 : decode jdk_52_method_4_code 37 = .ok (.iload_n 2, 1) := by decide +kernel
theorem d28_38 : decode jdk_52_method_4_code 38 = .ok (.getstatic 59, 3) := by decide +kernel
theorem d28_41 : decode jdk_52_method_4_code 41 = .ok (.ishr, 1) := by decide +kernel
theorem d28_42 : decode jdk_52_method_4_code 42 = .ok (.i2b, 1) := by decide +kernel
theorem d28_43 : decode jdk_52_method_4_code 43 = .ok (.bastore, 1) := by decide +kernel
theorem d28_44 : decode jdk_52_method_4_code 44 = .ok (.aload_n 0, 1) := by decide +kernel
theorem d28_45 : decode jdk_52_method_4_code 45 = .ok (.iload_n 1, 1) := by decide +kernel
theorem d28_46 : decode jdk_52_method_4_code 46 = .ok (.iload_n 2, 1) := by decide +kernel
theorem d28_47 : decode jdk_52_method_4_code 47 = .ok (.getstatic 63, 3) := by decide +kernel
theorem d28_50 : decode jdk_52_method_4_code 50 = .ok (.ishr, 1) := by decide +kernel
theorem d28_51 : decode jdk_52_method_4_code 51 = .ok (.i2b, 1) := by decide +kernel
theorem d28_52 : decode jdk_52_method_4_code 52 = .ok (.bastore, 1) := by decide +kernel
theorem d28_53 : decode jdk_52_method_4_code 53 = .ok (.return_, 1) := by decide +kernel
theorem d30_0 : decode jdk_52_method_24_code 0 = .ok (.iconst 2, 1) := by decide +kernel
theorem d30_1 : decode jdk_52_method_24_code 1 = .ok (.newarray .byte, 2) := by decide +kernel
theorem d30_3 : decode jdk_52_method_24_code 3 = .ok (.astore_n 1, 1) := by decide +kernel
theorem d30_4 : decode jdk_52_method_24_code 4 = .ok (.aload_n 1, 1) := by decide +kernel
theorem d30_5 : decode jdk_52_method_24_code 5 = .ok (.iconst 0, 1) := by decide +kernel
theorem d30_6 : decode jdk_52_method_24_code 6 = .ok (.iload_n 0, 1) := by decide +kernel
theorem d30_7 : decode jdk_52_method_24_code 7 = .ok (.invokestatic 111, 3) := by decide +kernel
theorem d30_10 : decode jdk_52_method_24_code 10 = .ok (.aload_n 1, 1) := by decide +kernel
theorem d30_11 : decode jdk_52_method_24_code 11 = .ok (.areturn, 1) := by decide +kernel
theorem d17_0 : decode jdk_42_method_151_code 0 = .ok (.aload_n 0, 1) := by decide +kernel
theorem d17_1 : decode jdk_42_method_151_code 1 = .ok (.invokespecial 1, 3) := by decide +kernel
theorem d17_4 : decode jdk_42_method_151_code 4 = .ok (.aload_n 0, 1) := by decide +kernel
theorem d17_5 : decode jdk_42_method_151_code 5 = .ok (.aload_n 1, 1) := by decide +kernel
theorem d17_6 : decode jdk_42_method_151_code 6 = .ok (.putfield 9, 3) := by decide +kernel
theorem d17_9 : decode jdk_42_method_151_code 9 = .ok (.aload_n 0, 1) := by decide +kernel
theorem d17_10 : decode jdk_42_method_151_code 10 = .ok (.iload_n 2, 1) := by decide +kernel
theorem d17_11 : decode jdk_42_method_151_code 11 = .ok (.putfield 15, 3) := by decide +kernel
theorem d17_14 : decode jdk_42_method_151_code 14 = .ok (.return_, 1) := by decide +kernel
theorem d14_0 : decode jdk_42_method_139_code 0 = .ok (.getstatic 38, 3) := by decide +kernel
theorem d14_3 : decode jdk_42_method_139_code 3 = .ok (.ifCond .eq 23, 3) := by decide +kernel
theorem d14_6 : decode jdk_42_method_139_code 6 = .ok (.iload_n 0, 1) := by decide +kernel
theorem d14_7 : decode jdk_42_method_139_code 7 = .ok (.invokestatic 1015, 3) := by decide +kernel
theorem d14_10 : decode jdk_42_method_139_code 10 = .ok (.ifCond .eq 16, 3) := by decide +kernel
theorem d14_26 : decode jdk_42_method_139_code 26 = .ok (.new 10, 3) := by decide +kernel
theorem d14_29 : decode jdk_42_method_139_code 29 = .ok (.dup, 1) := by decide +kernel
theorem d14_30 : decode jdk_42_method_139_code 30 = .ok (.iload_n 0, 1) := by decide +kernel
theorem d14_31 : decode jdk_42_method_139_code 31 = .ok (.invokestatic 1021, 3) := by decide +kernel
theorem d14_34 : decode jdk_42_method_139_code 34 = .ok (.iconst 1, 1) := by decide +kernel
theorem d14_35 : decode jdk_42_method_139_code 35 = .ok (.invokespecial 209, 3) := by decide +kernel
theorem d14_38 : decode jdk_42_method_139_code 38 = .ok (.areturn, 1) := by decide +kernel
theorem d14_13 : decode jdk_42_method_139_code 13 = .ok (.new 10, 3) := by decide +kernel
theorem d14_16 : decode jdk_42_method_139_code 16 = .ok (.dup, 1) := by decide +kernel
theorem d14_17 : decode jdk_42_method_139_code 17 = .ok (.iload_n 0, 1) := by decide +kernel
theorem d14_18 : decode jdk_42_method_139_code 18 = .ok (.invokestatic 1018, 3) := by decide +kernel
theorem d14_21 : decode jdk_42_method_139_code 21 = .ok (.iconst 0, 1) := by decide +kernel
theorem d14_22 : decode jdk_42_method_139_code 22 = .ok (.invokespecial 209, 3) := by decide +kernel
theorem d14_25 : decode jdk_42_method_139_code 25 = .ok (.areturn, 1) := by decide +kernel
theorem d12_0 : decode jdk_52_method_21_code 0 = .ok (.iconst 0, 1) := by decide +kernel
theorem d12_1 : decode jdk_52_method_21_code 1 = .ok (.istore 5, 2) := by decide +kernel
theorem d12_3 : decode jdk_52_method_21_code 3 = .ok (.iload 5, 2) := by decide +kernel
theorem d12_5 : decode jdk_52_method_21_code 5 = .ok (.iload 4, 2) := by decide +kernel
theorem d12_7 : decode jdk_52_method_21_code 7 = .ok (.if_icmp .ge 37, 3) := by decide +kernel
theorem d12_10 : decode jdk_52_method_21_code 10 = .ok (.aload_n 0, 1) := by decide +kernel
theorem d12_11 : decode jdk_52_method_21_code 11 = .ok (.iload_n 1, 1) := by decide +kernel
theorem d12_12 : decode jdk_52_method_21_code 12 = .ok (.caload, 1) := by decide +kernel
theorem d12_13 : decode jdk_52_method_21_code 13 = .ok (.istore 6, 2) := by decide +kernel
theorem d12_15 : decode jdk_52_method_21_code 15 = .ok (.iload 6, 2) := by decide +kernel
theorem d12_17 : decode jdk_52_method_21_code 17 = .ok (.sipush 255, 3) := by decide +kernel
theorem d12_20 : decode jdk_52_method_21_code 20 = .ok (.if_icmp .le 6, 3) := by decide +kernel
theorem d12_23 : decode jdk_52_method_21_code 23 = .ok (.iload 5, 2) := by decide +kernel
theorem d12_25 : decode jdk_52_method_21_code 25 = .ok (.ireturn, 1) := by decide +kernel
theorem d12_26 : decode jdk_52_method_21_code 26 = .ok (.aload_n 2, 1) := by decide +kernel
theorem d12_27 : decode jdk_52_method_21_code 27 = .ok (.iload_n 3, 1) := by decide +kernel
theorem d12_28 : decode jdk_52_method_21_code 28 = .ok (.iload 6, 2) := by decide +kernel
theorem d12_30 : decode jdk_52_method_21_code 30 = .ok (.i2b, 1) := by decide +kernel
theorem d12_31 : decode jdk_52_method_21_code 31 = .ok (.bastore, 1) := by decide +kernel
theorem d12_32 : decode jdk_52_method_21_code 32 = .ok (.iinc 1 1, 3) := by decide +kernel
theorem d12_35 : decode jdk_52_method_21_code 35 = .ok (.iinc 3 1, 3) := by decide +kernel
theorem d12_38 : decode jdk_52_method_21_code 38 = .ok (.iinc 5 1, 3) := by decide +kernel
theorem d12_41 : decode jdk_52_method_21_code 41 = .ok (.goto (-38), 3) := by decide +kernel
theorem d12_44 : decode jdk_52_method_21_code 44 = .ok (.iload 4, 2) := by decide +kernel
theorem d12_46 : decode jdk_52_method_21_code 46 = .ok (.ireturn, 1) := by decide +kernel
theorem d27_0 : decode jdk_52_method_3_code 0 = .ok (.iload_n 0, 1) := by decide +kernel
theorem d27_1 : decode jdk_52_method_3_code 1 = .ok (.ifCond .ge 11, 3) := by decide +kernel
theorem d27_12 : decode jdk_52_method_3_code 12 = .ok (.iload_n 0, 1) := by decide +kernel
theorem d27_13 : decode jdk_52_method_3_code 13 = .ok (.ldc 20, 2) := by decide +kernel
theorem d27_15 : decode jdk_52_method_3_code 15 = .ok (.if_icmp .lt 40, 3) := by decide +kernel
theorem d27_55 : decode jdk_52_method_3_code 55 = .ok (.iload_n 0, 1) := by decide +kernel
theorem d27_56 : decode jdk_52_method_3_code 56 = .ok (.iconst 1, 1) := by decide +kernel
theorem d27_57 : decode jdk_52_method_3_code 57 = .ok (.ishl, 1) := by decide +kernel
theorem d27_58 : decode jdk_52_method_3_code 58 = .ok (.ireturn, 1) := by decide +kernel
theorem d26_0 : decode jdk_52_method_2_code 0 = .ok (.iload_n 0, 1) := by decide +kernel
theorem d26_1 : decode jdk_52_method_2_code 1 = .ok (.invokestatic 11, 3) := by decide +kernel
theorem d26_4 : decode jdk_52_method_2_code 4 = .ok (.newarray .byte, 2) := by decide +kernel
theorem d26_6 : decode jdk_52_method_2_code 6 = .ok (.areturn, 1) := by decide +kernel
theorem d25_0 : decode jdk_52_method_14_code 0 = .ok (.iload_n 2, 1) := by decide +kernel
theorem d25_1 : decode jdk_52_method_14_code 1 = .ok (.invokestatic 107, 3) := by decide +kernel
theorem d25_4 : decode jdk_52_method_14_code 4 = .ok (.astore_n 3, 1) := by decide +kernel
theorem d25_5 : decode jdk_52_method_14_code 5 = .ok (.iconst 0, 1) := by decide +kernel
theorem d25_6 : decode jdk_52_method_14_code 6 = .ok (.istore 4, 2) := by decide +kernel
theorem d25_8 : decode jdk_52_method_14_code 8 = .ok (.iload 4, 2) := by decide +kernel
theorem d25_10 : decode jdk_52_method_14_code 10 = .ok (.iload_n 2, 1) := by decide +kernel
theorem d25_11 : decode jdk_52_method_14_code 11 = .ok (.if_icmp .ge 21, 3) := by decide +kernel
theorem d25_14 : decode jdk_52_method_14_code 14 = .ok (.aload_n 3, 1) := by decide +kernel
theorem d25_15 : decode jdk_52_method_14_code 15 = .ok (.iload 4, 2) := by decide +kernel
theorem d25_17 : decode jdk_52_method_14_code 17 = .ok (.aload_n 0, 1) := by decide +kernel
theorem d25_18 : decode jdk_52_method_14_code 18 = .ok (.iload_n 1, 1) := by decide +kernel
theorem d25_19 : decode jdk_52_method_14_code 19 = .ok (.caload, 1) := by decide +kernel
theorem d25_20 : decode jdk_52_method_14_code 20 = .ok (.invokestatic 111, 3) := by decide +kernel
theorem d25_23 : decode jdk_52_method_14_code 23 = .ok (.iinc 1 1, 3) := by decide +kernel
theorem d25_26 : decode jdk_52_method_14_code 26 = .ok (.iinc 4 1, 3) := by decide +kernel
theorem d25_29 : decode jdk_52_method_14_code 29 = .ok (.goto (-21), 3) := by decide +kernel
theorem d25_32 : decode jdk_52_method_14_code 32 = .ok (.aload_n 3, 1) := by decide +kernel
theorem d25_33 : decode jdk_52_method_14_code 33 = .ok (.areturn, 1) := by decide +kernel
theorem d11_0 : decode jdk_52_method_16_code 0 = .ok (.iload_n 2, 1) := by decide +kernel
theorem d11_1 : decode jdk_52_method_16_code 1 = .ok (.newarray .byte, 2) := by decide +kernel
theorem d11_3 : decode jdk_52_method_16_code 3 = .ok (.astore_n 3, 1) := by decide +kernel
theorem d11_4 : decode jdk_52_method_16_code 4 = .ok (.aload_n 0, 1) := by decide +kernel
theorem d11_5 : decode jdk_52_method_16_code 5 = .ok (.iload_n 1, 1) := by decide +kernel
theorem d11_6 : decode jdk_52_method_16_code 6 = .ok (.aload_n 3, 1) := by decide +kernel
theorem d11_7 : decode jdk_52_method_16_code 7 = .ok (.iconst 0, 1) := by decide +kernel
theorem d11_8 : decode jdk_52_method_16_code 8 = .ok (.iload_n 2, 1) := by decide +kernel
theorem d11_9 : decode jdk_52_method_16_code 9 = .ok (.invokestatic 115, 3) := by decide +kernel
theorem d11_12 : decode jdk_52_method_16_code 12 = .ok (.istore 4, 2) := by decide +kernel
theorem d11_14 : decode jdk_52_method_16_code 14 = .ok (.iload 4, 2) := by decide +kernel
theorem d11_16 : decode jdk_52_method_16_code 16 = .ok (.iload_n 2, 1) := by decide +kernel
theorem d11_17 : decode jdk_52_method_16_code 17 = .ok (.if_icmp .eq 40, 3) := by decide +kernel
theorem d11_20 : decode jdk_52_method_16_code 20 = .ok (.aload_n 0, 1) := by decide +kernel
theorem d11_21 : decode jdk_52_method_16_code 21 = .ok (.iload_n 1, 1) := by decide +kernel
theorem d11_22 : decode jdk_52_method_16_code 22 = .ok (.iload_n 2, 1) := by decide +kernel
theorem d11_23 : decode jdk_52_method_16_code 23 = .ok (.invokestatic 119, 3) := by decide +kernel
theorem d11_26 : decode jdk_52_method_16_code 26 = .ok (.astore 5, 2) := by decide +kernel
theorem d11_28 : decode jdk_52_method_16_code 28 = .ok (.aload 5, 2) := by decide +kernel
theorem d11_30 : decode jdk_52_method_16_code 30 = .ok (.iload 4, 2) := by decide +kernel
theorem d11_32 : decode jdk_52_method_16_code 32 = .ok (.invokestatic 71, 3) := by decide +kernel
theorem d11_35 : decode jdk_52_method_16_code 35 = .ok (.sipush 255, 3) := by decide +kernel
theorem d11_38 : decode jdk_52_method_16_code 38 = .ok (.if_icmp .gt 16, 3) := by decide +kernel
theorem d11_54 : decode jdk_52_method_16_code 54 = .ok (.aload 5, 2) := by decide +kernel
theorem d11_56 : decode jdk_52_method_16_code 56 = .ok (.areturn, 1) := by decide +kernel
theorem d11_57 : decode jdk_52_method_16_code 57 = .ok (.aload_n 3, 1) := by decide +kernel
theorem d11_58 : decode jdk_52_method_16_code 58 = .ok (.areturn, 1) := by decide +kernel
theorem d13_0 : decode jdk_52_method_15_code 0 = .ok (.iload_n 1, 1) := by decide +kernel
theorem d13_1 : decode jdk_52_method_15_code 1 = .ok (.aload_n 0, 1) := by decide +kernel
theorem d13_2 : decode jdk_52_method_15_code 2 = .ok (.arraylength, 1) := by decide +kernel
theorem d13_3 : decode jdk_52_method_15_code 3 = .ok (.isub, 1) := by decide +kernel
theorem d13_4 : decode jdk_52_method_15_code 4 = .ok (.bipush 31, 2) := by decide +kernel
theorem d13_6 : decode jdk_52_method_15_code 6 = .ok (.iushr, 1) := by decide +kernel
theorem d13_7 : decode jdk_52_method_15_code 7 = .ok (.i2b, 1) := by decide +kernel
theorem d13_8 : decode jdk_52_method_15_code 8 = .ok (.ireturn, 1) := by decide +kernel
theorem d3_0 : decode jdk_42_method_149_code 0 = .ok (.aload_n 0, 1) := by decide +kernel
theorem d3_1 : decode jdk_42_method_149_code 1 = .ok (.invokespecial 1, 3) := by decide +kernel
theorem d3_4 : decode jdk_42_method_149_code 4 = .ok (.iload_n 3, 1) := by decide +kernel
theorem d3_5 : decode jdk_42_method_149_code 5 = .ok (.ifCond .ne 22, 3) := by decide +kernel
theorem d3_27 : decode jdk_42_method_149_code 27 = .ok (.getstatic 38, 3) := by decide +kernel
theorem d3_30 : decode jdk_42_method_149_code 30 = .ok (.ifCond .eq 28, 3) := by decide +kernel
theorem d3_33 : decode jdk_42_method_149_code 33 = .ok (.aload_n 1, 1) := by decide +kernel
theorem d3_34 : decode jdk_42_method_149_code 34 = .ok (.iload_n 2, 1) := by decide +kernel
theorem d3_35 : decode jdk_42_method_149_code 35 = .ok (.iload_n 3, 1) := by decide +kernel
theorem d3_36 : decode jdk_42_method_149_code 36 = .ok (.invokestatic 177, 3) := by decide +kernel
theorem d3_39 : decode jdk_42_method_149_code 39 = .ok (.astore 5, 2) := by decide +kernel
theorem d3_41 : decode jdk_42_method_149_code 41 = .ok (.aload_n 0, 1) := by decide +kernel
theorem d3_42 : decode jdk_42_method_149_code 42 = .ok (.aload 5, 2) := by decide +kernel
theorem d3_44 : decode jdk_42_method_149_code 44 = .ok (.iload_n 3, 1) := by decide +kernel
theorem d3_45 : decode jdk_42_method_149_code 45 = .ok (.invokestatic 47, 3) := by decide +kernel
theorem d3_48 : decode jdk_42_method_149_code 48 = .ok (.putfield 15, 3) := by decide +kernel
theorem d3_51 : decode jdk_42_method_149_code 51 = .ok (.aload_n 0, 1) := by decide +kernel
theorem d3_52 : decode jdk_42_method_149_code 52 = .ok (.aload 5, 2) := by decide +kernel
theorem d3_54 : decode jdk_42_method_149_code 54 = .ok (.putfield 9, 3) := by decide +kernel
theorem d3_57 : decode jdk_42_method_149_code 57 = .ok (.return_, 1) := by decide +kernel
theorem d2_0 : decode jdk_42_method_3_code 0 = .ok (.aload_n 0, 1) := by decide +kernel
theorem d2_1 : decode jdk_42_method_3_code 1 = .ok (.aload_n 1, 1) := by decide +kernel
theorem d2_2 : decode jdk_42_method_3_code 2 = .ok (.iconst 0, 1) := by decide +kernel
theorem d2_3 : decode jdk_42_method_3_code 3 = .ok (.aload_n 1, 1) := by decide +kernel
theorem d2_4 : decode jdk_42_method_3_code 4 = .ok (.arraylength, 1) := by decide +kernel
theorem d2_5 : decode jdk_42_method_3_code 5 = .ok (.aconst_null, 1) := by decide +kernel
theorem d2_6 : decode jdk_42_method_3_code 6 = .ok (.invokespecial 27, 3) := by decide +kernel
theorem d2_9 : decode jdk_42_method_3_code 9 = .ok (.return_, 1) := by decide +kernel
theorem d5_0 : decode prog_3_method_4_code 0 = .ok (.aload_n 0, 1) := by decide +kernel
theorem d5_1 : decode prog_3_method_4_code 1 = .ok (.invokevirtual 51, 3) := by decide +kernel
theorem d5_4 : decode prog_3_method_4_code 4 = .ok (.iconst 1, 1) := by decide +kernel
theorem d5_5 : decode prog_3_method_4_code 5 = .ok (.if_icmp .ne 17, 3) := by decide +kernel
theorem d5_22 : decode prog_3_method_4_code 22 = .ok (.invokestatic 71, 3) := by decide +kernel
theorem d5_25 : decode prog_3_method_4_code 25 = .ok (.areturn, 1) := by decide +kernel
theorem d5_8 : decode prog_3_method_4_code 8 = .ok (.aload_n 0, 1) := by decide +kernel
theorem d5_9 : decode prog_3_method_4_code 9 = .ok (.iconst 0, 1) := by decide +kernel
theorem d5_10 : decode prog_3_method_4_code 10 = .ok (.invokevirtual 57, 3) := by decide +kernel
theorem d5_13 : decode prog_3_method_4_code 13 = .ok (.invokestatic 61, 3) := by decide +kernel
theorem d5_16 : decode prog_3_method_4_code 16 = .ok (.invokestatic 65, 3) := by decide +kernel
theorem d5_19 : decode prog_3_method_4_code 19 = .ok (.goto 6, 3) := by decide +kernel
theorem d3_8 : decode jdk_42_method_149_code 8 = .ok (.aload_n 0, 1) := by decide +kernel
theorem d3_9 : decode jdk_42_method_149_code 9 = .ok (.ldc 7, 2) := by decide +kernel
theorem d3_11 : decode jdk_42_method_149_code 11 = .ok (.getfield 9, 3) := by decide +kernel
theorem d3_14 : decode jdk_42_method_149_code 14 = .ok (.putfield 9, 3) := by decide +kernel
theorem d3_17 : decode jdk_42_method_149_code 17 = .ok (.aload_n 0, 1) := by decide +kernel
theorem d3_18 : decode jdk_42_method_149_code 18 = .ok (.ldc 7, 2) := by decide +kernel
theorem d3_20 : decode jdk_42_method_149_code 20 = .ok (.getfield 15, 3) := by decide +kernel
theorem d3_23 : decode jdk_42_method_149_code 23 = .ok (.putfield 15, 3) := by decide +kernel
theorem d3_26 : decode jdk_42_method_149_code 26 = .ok (.return_, 1) := by decide +kernel
theorem pd_0 : parseMethodDescriptor "(Ljava/lang/Object;)V" = some ⟨[(.object "java/lang/Object")], none⟩ := by decide +kernel
theorem pd_1 : parseMethodDescriptor "()B" = some ⟨[], some .byte⟩ := by decide +kernel
theorem pd_2 : parseMethodDescriptor "(IILjava/util/function/BiFunction;)I" = some ⟨[.int, .int, (.object "java/util/function/BiFunction")], some .int⟩ := by decide +kernel
theorem pd_3 : parseMethodDescriptor "(II)V" = some ⟨[.int, .int], none⟩ := by decide +kernel
theorem pd_4 : parseMethodDescriptor "()Z" = some ⟨[], some .boolean⟩ := by decide +kernel
theorem pd_5 : parseMethodDescriptor "([BI)C" = some ⟨[(.array .byte), .int], some .char⟩ := by decide +kernel
theorem pd_6 : parseMethodDescriptor "([B)I" = some ⟨[(.array .byte)], some .int⟩ := by decide +kernel
theorem pd_7 : parseMethodDescriptor "(I[B)V" = some ⟨[.int, (.array .byte)], none⟩ := by decide +kernel
theorem pd_8 : parseMethodDescriptor "([BII)V" = some ⟨[(.array .byte), .int, .int], none⟩ := by decide +kernel
theorem pd_9 : parseMethodDescriptor "(C)Z" = some ⟨[.char], some .boolean⟩ := by decide +kernel
theorem pd_10 : parseMethodDescriptor "(C)[B" = some ⟨[.char], some (.array .byte)⟩ := by decide +kernel
theorem pd_11 : parseMethodDescriptor "([BB)V" = some ⟨[(.array .byte), .byte], none⟩ := by decide +kernel
theorem pd_12 : parseMethodDescriptor "(I)I" = some ⟨[.int], some .int⟩ := by decide +kernel
theorem pd_13 : parseMethodDescriptor "(I)[B" = some ⟨[.int], some (.array .byte)⟩ := by decide +kernel
theorem pd_14 : parseMethodDescriptor "([CI[BII)I" = some ⟨[(.array .char), .int, (.array .byte), .int, .int], some .int⟩ := by decide +kernel
theorem pd_15 : parseMethodDescriptor "([CII)[B" = some ⟨[(.array .char), .int, .int], some (.array .byte)⟩ := by decide +kernel
theorem pd_16 : parseMethodDescriptor "([BI)B" = some ⟨[(.array .byte), .int], some .byte⟩ := by decide +kernel
theorem pd_17 : parseMethodDescriptor "([CIILjava/lang/Void;)V" = some ⟨[(.array .char), .int, .int, (.object "java/lang/Void")], none⟩ := by decide +kernel
theorem pd_18 : parseMethodDescriptor "()I" = some ⟨[], some .int⟩ := by decide +kernel
theorem pd_19 : parseMethodDescriptor "()Ljava/util/Optional;" = some ⟨[], some (.object "java/util/Optional")⟩ := by decide +kernel
theorem pd_20 : parseMethodDescriptor "(I)C" = some ⟨[.int], some .char⟩ := by decide +kernel
theorem pd_21 : parseMethodDescriptor "(C)Lcom/example/davka/davka/AccountingCode;" = some ⟨[.char], some (.object "com/example/davka/davka/AccountingCode")⟩ := by decide +kernel
theorem pd_22 : parseMethodDescriptor "(Ljava/lang/Object;)Ljava/util/Optional;" = some ⟨[(.object "java/lang/Object")], some (.object "java/util/Optional")⟩ := by decide +kernel
theorem pd_23 : parseMethodDescriptor "([C)V" = some ⟨[(.array .char)], none⟩ := by decide +kernel
theorem pd_24 : parseMethodDescriptor "(Ljava/lang/String;)Ljava/util/Optional;" = some ⟨[(.object "java/lang/String")], some (.object "java/util/Optional")⟩ := by decide +kernel
theorem pd_25 : parseMethodDescriptor "(Ljava/lang/Object;)Ljava/lang/Object;" = some ⟨[(.object "java/lang/Object")], some (.object "java/lang/Object")⟩ := by decide +kernel
theorem pd_26 : parseMethodDescriptor "(IC)Lcom/example/davka/davka/AccountingCode;" = some ⟨[.int, .char], some (.object "com/example/davka/davka/AccountingCode")⟩ := by decide +kernel
theorem pd_27 : parseMethodDescriptor "(C)Ljava/lang/String;" = some ⟨[.char], some (.object "java/lang/String")⟩ := by decide +kernel
theorem pn_coder0 : plainName "java/lang/String" = true := by first | (simp [plainName, overriddenIn]; done) | decide +kernel
theorem ef_coder0 (m : MethodId) (a : Addr) (z : Int32) (fm : Value) : entryFrame m #[(.ref a)] 1 = mkF m 0 #[.val (.ref a)] [] := by first | (simp [entryFrame, mkF, argsToLocals, Value.category]; done) | rfl
def Q_coder0 (Z : State) (h0 : Heap) (n0 : Nat) (a : Addr) (z : Int32) (fm : Value) (v : Option Value) (h : Heap) (L : List Loc) : Prop := v = some (.int (0 : Int32)) ∧ Fr n0 L ∧ h = h0
set_option maxRecDepth 65536 in
set_option maxHeartbeats 40000000 in
theorem coder0 (l : Launch) (Z : State) (a0 : Array Value) (hw : ∀ d ∈ tables_1, d.before a0 Z = true) (ws : List Jvm.Cond) (h0 : Heap) (n0 : Nat) (O0 : Old Z n0 h0) (a : Addr) (z : Int32) (fm : Value) (SC : Sta Z Z.heap "java/lang/String" "COMPACT_STRINGS" "Z" (.int z)) (hz : ¬ (z = (0 : Int32))) (SA : Sta Z Z.heap "java/lang/StringUTF16" "$assertionsDisabled" "Z" (.int (1 : Int32))) (SH : Sta Z Z.heap "java/lang/StringUTF16" "HI_BYTE_SHIFT" "I" (.int (0 : Int32))) (SL : Sta Z Z.heap "java/lang/StringUTF16" "LO_BYTE_SHIFT" "I" (.int (8 : Int32))) (SF : Sta Z Z.heap "jdk/internal/util/Preconditions" "SIOOBE_FORMATTER" "Ljava/util/function/BiFunction;" fm) (hfm : fm.isRef = true) (Fc : Fld Z h0 a "java/lang/String" "coder" "B" (.int (0 : Int32))) :
    MetFree l (⟨"java/lang/String", "coder", "()B"⟩ : MethodName) (head1 (Jvm.Cond.code (⟨"java/lang/String", "coder", "()B"⟩ : MethodName) jdk_42_method_152_code 1 (some .byte) :: ws) ({ frames := 0, cells := 0, slots := 0, locals := 0 } : Room)) (fun aq U => aq = #[(.ref a)] ∧ Z.Warmed39 U.vm ∧ U.heap = h0) (fun _ _ _ _ _ => True) (fun _ U oo U' => ∃ v L, oo = .returned v ∧ Q_coder0 Z h0 n0 a z fm v U'.heap L ∧ FrameEnd U oo U' L ({ frames := 0, cells := 0, slots := 0, locals := 0 } : Room).cells ({ frames := 0, cells := 0, slots := 0, locals := 0 } : Room).slots) := by
  refine MetFree.of_bodySF (plainFor_of_name pn_coder0) hisR ?_
  intro p e s m args below meth c s₁ Bd hml0 hP hK
  obtain ⟨rfl, hZ, hh⟩ := hP
  have hx := Bd.exec
  have hby := Bd.bytes
  have hml : c.maxLocals = 1 := hml0
  have hown : s.vm.findClass "java/lang/String" = some m.cls := findClass_of_methodNamed Bd.named
  have hnm := (name_of_methodNamed Bd.named Bd.method).1
  have hlk := Bd.notSynchronized
  have hret := Bd.returns
  have X0 : Stand p l e ({ frames := 0, cells := 0, slots := 0, locals := 0 } : Room) s m #[(.ref a)] below meth c s₁ [] 0 0 := Stand.of_body Bd
  have e0 : s₁.heap = h0 := by rw [← hh, Bd.state]; rfl
  have N0 := Fr.nil n0
  have K0 := Keep.refl h0 []
  refine own_go (S' := (s₁.setTop (mkF m 0 #[.val (.ref a)] []))) (fun tq kq => castTop (ef_coder0 m a z fm) kq) ?_
  show own_G p e s below (Q_coder0 Z h0 n0 a z fm) _ _ _
  obtain ⟨T101, X101, e101, st101⟩ := getS2 X0 hx hZ hown (host := "") (Or.inl (hw _ (List.mem_of_getElem? (i := 42) rfl))) Via.refl e0 (SC.ext O0.2) (g := (mkF m 0 #[.val (.ref a)] [])) rfl (hb hby d7_0)
  refine own_go (S' := (T101.setTop (mkF m 7 #[.val (.ref a)] [(.ref a)]))) (fun tq kq => st101 tq (XS.ifNo X101.here hx rfl (hb hby d7_3) rfl ((if0 _ _).trans (feq hz).1) (XS.aloadN X101.here hx rfl (hb hby d7_6) rfl rfl kq))) ?_
  obtain ⟨T102, X102, e102, st102⟩ := getF X101 hx hZ hown (host := "") (Or.inl (hw _ (List.mem_of_getElem? (i := 27) rfl))) Via.refl e101 Fc (g := (mkF m 7 #[.val (.ref a)] [(.ref a)])) rfl rfl (hb hby d7_7)
  refine own_go (S' := (T102.setTop (mkF m 14 #[.val (.ref a)] [(.int (0 : Int32))]))) (fun tq kq => st102 tq (XS.goto X102.here hx rfl (pc0 := 10) (pc' := 14) rfl (hb hby d7_10) (by decide) (by decide) kq)) ?_
  refine own_retN X102 hx hlk hret (by simp) (hb hby d7_14) (by decide) (by decide) ?_
  exact ⟨rfl, N0, e102⟩
theorem pn_len1_0 : plainName "java/lang/String" = true := by first | (simp [plainName, overriddenIn]; done) | decide +kernel
theorem ef_len1_0 (m : MethodId) (a : Addr) (d : Addr) (kd : ClassId) (vs : List Value) (z : Int32) (fm : Value) : entryFrame m #[(.ref a)] 1 = mkF m 0 #[.val (.ref a)] [] := by first | (simp [entryFrame, mkF, argsToLocals, Value.category]; done) | rfl
def Q_len1_0 (Z : State) (h0 : Heap) (n0 : Nat) (a : Addr) (d : Addr) (kd : ClassId) (vs : List Value) (z : Int32) (fm : Value) (v : Option Value) (h : Heap) (L : List Loc) : Prop := v = some (.int (1 : Int32)) ∧ Fr n0 L ∧ h = h0
set_option maxRecDepth 65536 in
set_option maxHeartbeats 40000000 in
theorem len1_0 (l : Launch) (Z : State) (a0 : Array Value) (hw : ∀ d ∈ tables_1, d.before a0 Z = true) (ws : List Jvm.Cond) (h0 : Heap) (n0 : Nat) (O0 : Old Z n0 h0) (a : Addr) (d : Addr) (kd : ClassId) (vs : List Value) (z : Int32) (fm : Value) (SC : Sta Z Z.heap "java/lang/String" "COMPACT_STRINGS" "Z" (.int z)) (hz : ¬ (z = (0 : Int32))) (SA : Sta Z Z.heap "java/lang/StringUTF16" "$assertionsDisabled" "Z" (.int (1 : Int32))) (SH : Sta Z Z.heap "java/lang/StringUTF16" "HI_BYTE_SHIFT" "I" (.int (0 : Int32))) (SL : Sta Z Z.heap "java/lang/StringUTF16" "LO_BYTE_SHIFT" "I" (.int (8 : Int32))) (SF : Sta Z Z.heap "jdk/internal/util/Preconditions" "SIOOBE_FORMATTER" "Ljava/util/function/BiFunction;" fm) (hfm : fm.isRef = true) (Ea : Exa Z h0 a "java/lang/String") (Fc : Fld Z h0 a "java/lang/String" "coder" "B" (.int (0 : Int32))) (Fv : Fld Z h0 a "java/lang/String" "value" "[B" (.ref d)) (Vd : own_Ar Z h0 d kd .byte vs) (hvs : vs.length = 1) :
    MetFree l (⟨"java/lang/String", "length", "()I"⟩ : MethodName) (head1 (Jvm.Cond.code (⟨"java/lang/String", "length", "()I"⟩ : MethodName) jdk_42_method_54_code 1 (some .int) :: ws) ({ frames := 1, cells := 0, slots := 0, locals := 13 } : Room)) (fun aq U => aq = #[(.ref a)] ∧ Z.Warmed39 U.vm ∧ U.heap = h0) (fun _ _ _ _ _ => True) (fun _ U oo U' => ∃ v L, oo = .returned v ∧ Q_len1_0 Z h0 n0 a d kd vs z fm v U'.heap L ∧ FrameEnd U oo U' L ({ frames := 1, cells := 0, slots := 0, locals := 13 } : Room).cells ({ frames := 1, cells := 0, slots := 0, locals := 13 } : Room).slots) := by
  refine MetFree.of_bodySF (plainFor_of_name pn_len1_0) hisR ?_
  intro p e s m args below meth c s₁ Bd hml0 hP hK
  obtain ⟨rfl, hZ, hh⟩ := hP
  have hx := Bd.exec
  have hby := Bd.bytes
  have hml : c.maxLocals = 1 := hml0
  have hown : s.vm.findClass "java/lang/String" = some m.cls := findClass_of_methodNamed Bd.named
  have hnm := (name_of_methodNamed Bd.named Bd.method).1
  have hlk := Bd.notSynchronized
  have hret := Bd.returns
  have X0 : Stand p l e ({ frames := 1, cells := 0, slots := 0, locals := 13 } : Room) s m #[(.ref a)] below meth c s₁ [] 0 0 := Stand.of_body Bd
  have e0 : s₁.heap = h0 := by rw [← hh, Bd.state]; rfl
  have N0 := Fr.nil n0
  have K0 := Keep.refl h0 []
  refine own_go (S' := (s₁.setTop (mkF m 0 #[.val (.ref a)] []))) (fun tq kq => castTop (ef_len1_0 m a d kd vs z fm) kq) ?_
  show own_G p e s below (Q_len1_0 Z h0 n0 a d kd vs z fm) _ _ _
  refine own_go (S' := (s₁.setTop (mkF m 1 #[.val (.ref a)] [(.ref a)]))) (fun tq kq => XS.aloadN X0.here hx rfl (hb hby d6_0) rfl rfl kq) ?_
  obtain ⟨T101, X101, e101, st101⟩ := getF X0 hx hZ hown (host := "") (Or.inl (hw _ (List.mem_of_getElem? (i := 26) rfl))) Via.refl e0 Fv (g := (mkF m 1 #[.val (.ref a)] [(.ref a)])) rfl rfl (hb hby d6_1)
  refine own_go (S' := (T101.setTop (mkF m 4 #[.val (.ref a)] [(.ref d)]))) (fun tq kq => st101 tq kq) ?_
  obtain ⟨cl102, Ar102, ln102⟩ := Vd.len
  have lq102 : cl102.slots.size.toInt32 = (1 : Int32) := ln102.trans (by rw [hvs]; rfl)
  refine own_go (S' := (T101.setTop (mkF m 6 #[.val (.ref a)] [(.ref a), (.int (1 : Int32))]))) (fun tq kq => X101.arraylength hx (by rw [e101]; exact Ar102.1) (State.isArrayOf_alike hZ.alike Ar102.2.1) (g := (mkF m 4 #[.val (.ref a)] [(.ref d)])) rfl rfl (hb hby d6_4) tq (by rw [lq102]; exact (XS.aloadN X101.here hx rfl (hb hby d6_5) rfl rfl kq))) ?_
  obtain ⟨cq103, kq103, q103a, q103b, q103c⟩ := isOf hZ e101 Ea
  obtain ⟨_, _, ⟨T103, L103, k103, n103⟩, -, X103, ⟨Lc103, hQ103, l103, y103, z103⟩, st103⟩ := X101.virtualBack hx (y := (⟨"java/lang/String", "coder", "()B"⟩ : MethodName)) (z := (⟨"java/lang/String", "coder", "()B"⟩ : MethodName)) hown (mvT hZ (hw _ (List.mem_of_getElem? (i := 37) rfl))) (mvT hZ (hw _ (List.mem_of_getElem? (i := 38) rfl))) (notFace_of_selects (args := #[]) (mvT hZ (hw _ (List.mem_of_getElem? (i := 40) rfl)))) (mvT hZ (hw _ (List.mem_of_getElem? (i := 40) rfl))) (mvT hZ (hw _ (List.mem_of_getElem? (i := 39) rfl))) (by decide) (backOf (W := 1) (coder0 l Z a0 hw [] h0 n0 O0 a z fm SC hz SA SH SL SF hfm Fc) hZ (hw _ (List.mem_of_getElem? (i := 41) rfl)) (hw _ (List.mem_of_getElem? (i := 8) rfl)) (by decide) (by decide)) q103a q103c (g := (mkF m 6 #[.val (.ref a)] [(.ref a), (.int (1 : Int32))])) rfl (by rw [hml]; rfl) (Steps.refl _) (argsL := []) (rest := [(.int (1 : Int32))]) (lenOf pd_1 rfl) rfl (by show 2 * 0 + _ ≤ _; exact Nat.le_of_eq rfl) (hb hby d6_6) (fun _ _ => ⟨rfl, e101, (by decide : 0 + 0 ≤ _), (by decide : 0 + 0 ≤ _)⟩)
  dsimp only [Pt.U, Pt.locs, Pt.cells, Pt.slots] at X103 l103 y103 z103 st103 hQ103
  subst l103 y103 z103
  obtain ⟨rfl, N103, eh103⟩ := hQ103
  have Nf103 := Fr.app N0 N103
  refine own_go (S' := (T103.setTop (mkF m 10 #[.val (.ref a)] [(.int ((1 : Int32) >>> ((0 : Int32) &&& 31)))]))) (fun tq kq => st103.trans (XS.ishr X103.here hx rfl (hb hby d6_9) rfl kq)) ?_
  rw [show ((1 : Int32) >>> ((0 : Int32) &&& 31)) = (1 : Int32) from by decide]
  refine own_retI X103 hx hlk hret (hb hby d6_10) (by decide) (by decide) ?_
  exact ⟨rfl, Nf103, eh103⟩
theorem pn_coder1 : plainName "java/lang/String" = true := by first | (simp [plainName, overriddenIn]; done) | decide +kernel
theorem ef_coder1 (m : MethodId) (a : Addr) (z : Int32) (fm : Value) : entryFrame m #[(.ref a)] 1 = mkF m 0 #[.val (.ref a)] [] := by first | (simp [entryFrame, mkF, argsToLocals, Value.category]; done) | rfl
def Q_coder1 (Z : State) (h0 : Heap) (n0 : Nat) (a : Addr) (z : Int32) (fm : Value) (v : Option Value) (h : Heap) (L : List Loc) : Prop := v = some (.int (1 : Int32)) ∧ Fr n0 L ∧ h = h0
set_option maxRecDepth 65536 in
set_option maxHeartbeats 40000000 in
theorem coder1 (l : Launch) (Z : State) (a0 : Array Value) (hw : ∀ d ∈ tables_1, d.before a0 Z = true) (ws : List Jvm.Cond) (h0 : Heap) (n0 : Nat) (O0 : Old Z n0 h0) (a : Addr) (z : Int32) (fm : Value) (SC : Sta Z Z.heap "java/lang/String" "COMPACT_STRINGS" "Z" (.int z)) (hz : ¬ (z = (0 : Int32))) (SA : Sta Z Z.heap "java/lang/StringUTF16" "$assertionsDisabled" "Z" (.int (1 : Int32))) (SH : Sta Z Z.heap "java/lang/StringUTF16" "HI_BYTE_SHIFT" "I" (.int (0 : Int32))) (SL : Sta Z Z.heap "java/lang/StringUTF16" "LO_BYTE_SHIFT" "I" (.int (8 : Int32))) (SF : Sta Z Z.heap "jdk/internal/util/Preconditions" "SIOOBE_FORMATTER" "Ljava/util/function/BiFunction;" fm) (hfm : fm.isRef = true) (Fc : Fld Z h0 a "java/lang/String" "coder" "B" (.int (1 : Int32))) :
    MetFree l (⟨"java/lang/String", "coder", "()B"⟩ : MethodName) (head1 (Jvm.Cond.code (⟨"java/lang/String", "coder", "()B"⟩ : MethodName) jdk_42_method_152_code 1 (some .byte) :: ws) ({ frames := 0, cells := 0, slots := 0, locals := 0 } : Room)) (fun aq U => aq = #[(.ref a)] ∧ Z.Warmed39 U.vm ∧ U.heap = h0) (fun _ _ _ _ _ => True) (fun _ U oo U' => ∃ v L, oo = .returned v ∧ Q_coder1 Z h0 n0 a z fm v U'.heap L ∧ FrameEnd U oo U' L ({ frames := 0, cells := 0, slots := 0, locals := 0 } : Room).cells ({ frames := 0, cells := 0, slots := 0, locals := 0 } : Room).slots) := by
  refine MetFree.of_bodySF (plainFor_of_name pn_coder1) hisR ?_
  intro p e s m args below meth c s₁ Bd hml0 hP hK
  obtain ⟨rfl, hZ, hh⟩ := hP
  have hx := Bd.exec
  have hby := Bd.bytes
  have hml : c.maxLocals = 1 := hml0
  have hown : s.vm.findClass "java/lang/String" = some m.cls := findClass_of_methodNamed Bd.named
  have hnm := (name_of_methodNamed Bd.named Bd.method).1
  have hlk := Bd.notSynchronized
  have hret := Bd.returns
  have X0 : Stand p l e ({ frames := 0, cells := 0, slots := 0, locals := 0 } : Room) s m #[(.ref a)] below meth c s₁ [] 0 0 := Stand.of_body Bd
  have e0 : s₁.heap = h0 := by rw [← hh, Bd.state]; rfl
  have N0 := Fr.nil n0
  have K0 := Keep.refl h0 []
  refine own_go (S' := (s₁.setTop (mkF m 0 #[.val (.ref a)] []))) (fun tq kq => castTop (ef_coder1 m a z fm) kq) ?_
  show own_G p e s below (Q_coder1 Z h0 n0 a z fm) _ _ _
  obtain ⟨T101, X101, e101, st101⟩ := getS2 X0 hx hZ hown (host := "") (Or.inl (hw _ (List.mem_of_getElem? (i := 42) rfl))) Via.refl e0 (SC.ext O0.2) (g := (mkF m 0 #[.val (.ref a)] [])) rfl (hb hby d7_0)
  refine own_go (S' := (T101.setTop (mkF m 7 #[.val (.ref a)] [(.ref a)]))) (fun tq kq => st101 tq (XS.ifNo X101.here hx rfl (hb hby d7_3) rfl ((if0 _ _).trans (feq hz).1) (XS.aloadN X101.here hx rfl (hb hby d7_6) rfl rfl kq))) ?_
  obtain ⟨T102, X102, e102, st102⟩ := getF X101 hx hZ hown (host := "") (Or.inl (hw _ (List.mem_of_getElem? (i := 27) rfl))) Via.refl e101 Fc (g := (mkF m 7 #[.val (.ref a)] [(.ref a)])) rfl rfl (hb hby d7_7)
  refine own_go (S' := (T102.setTop (mkF m 14 #[.val (.ref a)] [(.int (1 : Int32))]))) (fun tq kq => st102 tq (XS.goto X102.here hx rfl (pc0 := 10) (pc' := 14) rfl (hb hby d7_10) (by decide) (by decide) kq)) ?_
  refine own_retN X102 hx hlk hret (by simp) (hb hby d7_14) (by decide) (by decide) ?_
  exact ⟨rfl, N0, e102⟩
theorem pn_len2_1 : plainName "java/lang/String" = true := by first | (simp [plainName, overriddenIn]; done) | decide +kernel
theorem ef_len2_1 (m : MethodId) (a : Addr) (d : Addr) (kd : ClassId) (vs : List Value) (z : Int32) (fm : Value) : entryFrame m #[(.ref a)] 1 = mkF m 0 #[.val (.ref a)] [] := by first | (simp [entryFrame, mkF, argsToLocals, Value.category]; done) | rfl
def Q_len2_1 (Z : State) (h0 : Heap) (n0 : Nat) (a : Addr) (d : Addr) (kd : ClassId) (vs : List Value) (z : Int32) (fm : Value) (v : Option Value) (h : Heap) (L : List Loc) : Prop := v = some (.int (1 : Int32)) ∧ Fr n0 L ∧ h = h0
set_option maxRecDepth 65536 in
set_option maxHeartbeats 40000000 in
theorem len2_1 (l : Launch) (Z : State) (a0 : Array Value) (hw : ∀ d ∈ tables_1, d.before a0 Z = true) (ws : List Jvm.Cond) (h0 : Heap) (n0 : Nat) (O0 : Old Z n0 h0) (a : Addr) (d : Addr) (kd : ClassId) (vs : List Value) (z : Int32) (fm : Value) (SC : Sta Z Z.heap "java/lang/String" "COMPACT_STRINGS" "Z" (.int z)) (hz : ¬ (z = (0 : Int32))) (SA : Sta Z Z.heap "java/lang/StringUTF16" "$assertionsDisabled" "Z" (.int (1 : Int32))) (SH : Sta Z Z.heap "java/lang/StringUTF16" "HI_BYTE_SHIFT" "I" (.int (0 : Int32))) (SL : Sta Z Z.heap "java/lang/StringUTF16" "LO_BYTE_SHIFT" "I" (.int (8 : Int32))) (SF : Sta Z Z.heap "jdk/internal/util/Preconditions" "SIOOBE_FORMATTER" "Ljava/util/function/BiFunction;" fm) (hfm : fm.isRef = true) (Ea : Exa Z h0 a "java/lang/String") (Fc : Fld Z h0 a "java/lang/String" "coder" "B" (.int (1 : Int32))) (Fv : Fld Z h0 a "java/lang/String" "value" "[B" (.ref d)) (Vd : own_Ar Z h0 d kd .byte vs) (hvs : vs.length = 2) :
    MetFree l (⟨"java/lang/String", "length", "()I"⟩ : MethodName) (head1 (Jvm.Cond.code (⟨"java/lang/String", "length", "()I"⟩ : MethodName) jdk_42_method_54_code 1 (some .int) :: ws) ({ frames := 1, cells := 0, slots := 0, locals := 13 } : Room)) (fun aq U => aq = #[(.ref a)] ∧ Z.Warmed39 U.vm ∧ U.heap = h0) (fun _ _ _ _ _ => True) (fun _ U oo U' => ∃ v L, oo = .returned v ∧ Q_len2_1 Z h0 n0 a d kd vs z fm v U'.heap L ∧ FrameEnd U oo U' L ({ frames := 1, cells := 0, slots := 0, locals := 13 } : Room).cells ({ frames := 1, cells := 0, slots := 0, locals := 13 } : Room).slots) := by
  refine MetFree.of_bodySF (plainFor_of_name pn_len2_1) hisR ?_
  intro p e s m args below meth c s₁ Bd hml0 hP hK
  obtain ⟨rfl, hZ, hh⟩ := hP
  have hx := Bd.exec
  have hby := Bd.bytes
  have hml : c.maxLocals = 1 := hml0
  have hown : s.vm.findClass "java/lang/String" = some m.cls := findClass_of_methodNamed Bd.named
  have hnm := (name_of_methodNamed Bd.named Bd.method).1
  have hlk := Bd.notSynchronized
  have hret := Bd.returns
  have X0 : Stand p l e ({ frames := 1, cells := 0, slots := 0, locals := 13 } : Room) s m #[(.ref a)] below meth c s₁ [] 0 0 := Stand.of_body Bd
  have e0 : s₁.heap = h0 := by rw [← hh, Bd.state]; rfl
  have N0 := Fr.nil n0
  have K0 := Keep.refl h0 []
  refine own_go (S' := (s₁.setTop (mkF m 0 #[.val (.ref a)] []))) (fun tq kq => castTop (ef_len2_1 m a d kd vs z fm) kq) ?_
  show own_G p e s below (Q_len2_1 Z h0 n0 a d kd vs z fm) _ _ _
  refine own_go (S' := (s₁.setTop (mkF m 1 #[.val (.ref a)] [(.ref a)]))) (fun tq kq => XS.aloadN X0.here hx rfl (hb hby d6_0) rfl rfl kq) ?_
  obtain ⟨T101, X101, e101, st101⟩ := getF X0 hx hZ hown (host := "") (Or.inl (hw _ (List.mem_of_getElem? (i := 26) rfl))) Via.refl e0 Fv (g := (mkF m 1 #[.val (.ref a)] [(.ref a)])) rfl rfl (hb hby d6_1)
  refine own_go (S' := (T101.setTop (mkF m 4 #[.val (.ref a)] [(.ref d)]))) (fun tq kq => st101 tq kq) ?_
  obtain ⟨cl102, Ar102, ln102⟩ := Vd.len
  have lq102 : cl102.slots.size.toInt32 = (2 : Int32) := ln102.trans (by rw [hvs]; rfl)
  refine own_go (S' := (T101.setTop (mkF m 6 #[.val (.ref a)] [(.ref a), (.int (2 : Int32))]))) (fun tq kq => X101.arraylength hx (by rw [e101]; exact Ar102.1) (State.isArrayOf_alike hZ.alike Ar102.2.1) (g := (mkF m 4 #[.val (.ref a)] [(.ref d)])) rfl rfl (hb hby d6_4) tq (by rw [lq102]; exact (XS.aloadN X101.here hx rfl (hb hby d6_5) rfl rfl kq))) ?_
  obtain ⟨cq103, kq103, q103a, q103b, q103c⟩ := isOf hZ e101 Ea
  obtain ⟨_, _, ⟨T103, L103, k103, n103⟩, -, X103, ⟨Lc103, hQ103, l103, y103, z103⟩, st103⟩ := X101.virtualBack hx (y := (⟨"java/lang/String", "coder", "()B"⟩ : MethodName)) (z := (⟨"java/lang/String", "coder", "()B"⟩ : MethodName)) hown (mvT hZ (hw _ (List.mem_of_getElem? (i := 37) rfl))) (mvT hZ (hw _ (List.mem_of_getElem? (i := 38) rfl))) (notFace_of_selects (args := #[]) (mvT hZ (hw _ (List.mem_of_getElem? (i := 40) rfl)))) (mvT hZ (hw _ (List.mem_of_getElem? (i := 40) rfl))) (mvT hZ (hw _ (List.mem_of_getElem? (i := 39) rfl))) (by decide) (backOf (W := 1) (coder1 l Z a0 hw [] h0 n0 O0 a z fm SC hz SA SH SL SF hfm Fc) hZ (hw _ (List.mem_of_getElem? (i := 41) rfl)) (hw _ (List.mem_of_getElem? (i := 8) rfl)) (by decide) (by decide)) q103a q103c (g := (mkF m 6 #[.val (.ref a)] [(.ref a), (.int (2 : Int32))])) rfl (by rw [hml]; rfl) (Steps.refl _) (argsL := []) (rest := [(.int (2 : Int32))]) (lenOf pd_1 rfl) rfl (by show 2 * 0 + _ ≤ _; exact Nat.le_of_eq rfl) (hb hby d6_6) (fun _ _ => ⟨rfl, e101, (by decide : 0 + 0 ≤ _), (by decide : 0 + 0 ≤ _)⟩)
  dsimp only [Pt.U, Pt.locs, Pt.cells, Pt.slots] at X103 l103 y103 z103 st103 hQ103
  subst l103 y103 z103
  obtain ⟨rfl, N103, eh103⟩ := hQ103
  have Nf103 := Fr.app N0 N103
  refine own_go (S' := (T103.setTop (mkF m 10 #[.val (.ref a)] [(.int ((2 : Int32) >>> ((1 : Int32) &&& 31)))]))) (fun tq kq => st103.trans (XS.ishr X103.here hx rfl (hb hby d6_9) rfl kq)) ?_
  rw [show ((2 : Int32) >>> ((1 : Int32) &&& 31)) = (1 : Int32) from by decide]
  refine own_retI X103 hx hlk hret (hb hby d6_10) (by decide) (by decide) ?_
  exact ⟨rfl, Nf103, eh103⟩
theorem pn_len0_0 : plainName "java/lang/String" = true := by first | (simp [plainName, overriddenIn]; done) | decide +kernel
theorem ef_len0_0 (m : MethodId) (a : Addr) (d : Addr) (kd : ClassId) (vs : List Value) (z : Int32) (fm : Value) : entryFrame m #[(.ref a)] 1 = mkF m 0 #[.val (.ref a)] [] := by first | (simp [entryFrame, mkF, argsToLocals, Value.category]; done) | rfl
def Q_len0_0 (Z : State) (h0 : Heap) (n0 : Nat) (a : Addr) (d : Addr) (kd : ClassId) (vs : List Value) (z : Int32) (fm : Value) (v : Option Value) (h : Heap) (L : List Loc) : Prop := v = some (.int (0 : Int32)) ∧ Fr n0 L ∧ h = h0
set_option maxRecDepth 65536 in
set_option maxHeartbeats 40000000 in
theorem len0_0 (l : Launch) (Z : State) (a0 : Array Value) (hw : ∀ d ∈ tables_1, d.before a0 Z = true) (ws : List Jvm.Cond) (h0 : Heap) (n0 : Nat) (O0 : Old Z n0 h0) (a : Addr) (d : Addr) (kd : ClassId) (vs : List Value) (z : Int32) (fm : Value) (SC : Sta Z Z.heap "java/lang/String" "COMPACT_STRINGS" "Z" (.int z)) (hz : ¬ (z = (0 : Int32))) (SA : Sta Z Z.heap "java/lang/StringUTF16" "$assertionsDisabled" "Z" (.int (1 : Int32))) (SH : Sta Z Z.heap "java/lang/StringUTF16" "HI_BYTE_SHIFT" "I" (.int (0 : Int32))) (SL : Sta Z Z.heap "java/lang/StringUTF16" "LO_BYTE_SHIFT" "I" (.int (8 : Int32))) (SF : Sta Z Z.heap "jdk/internal/util/Preconditions" "SIOOBE_FORMATTER" "Ljava/util/function/BiFunction;" fm) (hfm : fm.isRef = true) (Ea : Exa Z h0 a "java/lang/String") (Fc : Fld Z h0 a "java/lang/String" "coder" "B" (.int (0 : Int32))) (Fv : Fld Z h0 a "java/lang/String" "value" "[B" (.ref d)) (Vd : own_Ar Z h0 d kd .byte vs) (hvs : vs.length = 0) :
    MetFree l (⟨"java/lang/String", "length", "()I"⟩ : MethodName) (head1 (Jvm.Cond.code (⟨"java/lang/String", "length", "()I"⟩ : MethodName) jdk_42_method_54_code 1 (some .int) :: ws) ({ frames := 1, cells := 0, slots := 0, locals := 13 } : Room)) (fun aq U => aq = #[(.ref a)] ∧ Z.Warmed39 U.vm ∧ U.heap = h0) (fun _ _ _ _ _ => True) (fun _ U oo U' => ∃ v L, oo = .returned v ∧ Q_len0_0 Z h0 n0 a d kd vs z fm v U'.heap L ∧ FrameEnd U oo U' L ({ frames := 1, cells := 0, slots := 0, locals := 13 } : Room).cells ({ frames := 1, cells := 0, slots := 0, locals := 13 } : Room).slots) := by
  refine MetFree.of_bodySF (plainFor_of_name pn_len0_0) hisR ?_
  intro p e s m args below meth c s₁ Bd hml0 hP hK
  obtain ⟨rfl, hZ, hh⟩ := hP
  have hx := Bd.exec
  have hby := Bd.bytes
  have hml : c.maxLocals = 1 := hml0
  have hown : s.vm.findClass "java/lang/String" = some m.cls := findClass_of_methodNamed Bd.named
  have hnm := (name_of_methodNamed Bd.named Bd.method).1
  have hlk := Bd.notSynchronized
  have hret := Bd.returns
  have X0 : Stand p l e ({ frames := 1, cells := 0, slots := 0, locals := 13 } : Room) s m #[(.ref a)] below meth c s₁ [] 0 0 := Stand.of_body Bd
  have e0 : s₁.heap = h0 := by rw [← hh, Bd.state]; rfl
  have N0 := Fr.nil n0
  have K0 := Keep.refl h0 []
  refine own_go (S' := (s₁.setTop (mkF m 0 #[.val (.ref a)] []))) (fun tq kq => castTop (ef_len0_0 m a d kd vs z fm) kq) ?_
  show own_G p e s below (Q_len0_0 Z h0 n0 a d kd vs z fm) _ _ _
  refine own_go (S' := (s₁.setTop (mkF m 1 #[.val (.ref a)] [(.ref a)]))) (fun tq kq => XS.aloadN X0.here hx rfl (hb hby d6_0) rfl rfl kq) ?_
  obtain ⟨T101, X101, e101, st101⟩ := getF X0 hx hZ hown (host := "") (Or.inl (hw _ (List.mem_of_getElem? (i := 26) rfl))) Via.refl e0 Fv (g := (mkF m 1 #[.val (.ref a)] [(.ref a)])) rfl rfl (hb hby d6_1)
  refine own_go (S' := (T101.setTop (mkF m 4 #[.val (.ref a)] [(.ref d)]))) (fun tq kq => st101 tq kq) ?_
  obtain ⟨cl102, Ar102, ln102⟩ := Vd.len
  have lq102 : cl102.slots.size.toInt32 = (0 : Int32) := ln102.trans (by rw [hvs]; rfl)
  refine own_go (S' := (T101.setTop (mkF m 6 #[.val (.ref a)] [(.ref a), (.int (0 : Int32))]))) (fun tq kq => X101.arraylength hx (by rw [e101]; exact Ar102.1) (State.isArrayOf_alike hZ.alike Ar102.2.1) (g := (mkF m 4 #[.val (.ref a)] [(.ref d)])) rfl rfl (hb hby d6_4) tq (by rw [lq102]; exact (XS.aloadN X101.here hx rfl (hb hby d6_5) rfl rfl kq))) ?_
  obtain ⟨cq103, kq103, q103a, q103b, q103c⟩ := isOf hZ e101 Ea
  obtain ⟨_, _, ⟨T103, L103, k103, n103⟩, -, X103, ⟨Lc103, hQ103, l103, y103, z103⟩, st103⟩ := X101.virtualBack hx (y := (⟨"java/lang/String", "coder", "()B"⟩ : MethodName)) (z := (⟨"java/lang/String", "coder", "()B"⟩ : MethodName)) hown (mvT hZ (hw _ (List.mem_of_getElem? (i := 37) rfl))) (mvT hZ (hw _ (List.mem_of_getElem? (i := 38) rfl))) (notFace_of_selects (args := #[]) (mvT hZ (hw _ (List.mem_of_getElem? (i := 40) rfl)))) (mvT hZ (hw _ (List.mem_of_getElem? (i := 40) rfl))) (mvT hZ (hw _ (List.mem_of_getElem? (i := 39) rfl))) (by decide) (backOf (W := 1) (coder0 l Z a0 hw [] h0 n0 O0 a z fm SC hz SA SH SL SF hfm Fc) hZ (hw _ (List.mem_of_getElem? (i := 41) rfl)) (hw _ (List.mem_of_getElem? (i := 8) rfl)) (by decide) (by decide)) q103a q103c (g := (mkF m 6 #[.val (.ref a)] [(.ref a), (.int (0 : Int32))])) rfl (by rw [hml]; rfl) (Steps.refl _) (argsL := []) (rest := [(.int (0 : Int32))]) (lenOf pd_1 rfl) rfl (by show 2 * 0 + _ ≤ _; exact Nat.le_of_eq rfl) (hb hby d6_6) (fun _ _ => ⟨rfl, e101, (by decide : 0 + 0 ≤ _), (by decide : 0 + 0 ≤ _)⟩)
  dsimp only [Pt.U, Pt.locs, Pt.cells, Pt.slots] at X103 l103 y103 z103 st103 hQ103
  subst l103 y103 z103
  obtain ⟨rfl, N103, eh103⟩ := hQ103
  have Nf103 := Fr.app N0 N103
  refine own_go (S' := (T103.setTop (mkF m 10 #[.val (.ref a)] [(.int ((0 : Int32) >>> ((0 : Int32) &&& 31)))]))) (fun tq kq => st103.trans (XS.ishr X103.here hx rfl (hb hby d6_9) rfl kq)) ?_
  rw [show ((0 : Int32) >>> ((0 : Int32) &&& 31)) = (0 : Int32) from by decide]
  refine own_retI X103 hx hlk hret (hb hby d6_10) (by decide) (by decide) ?_
  exact ⟨rfl, Nf103, eh103⟩
theorem pn_len2_0 : plainName "java/lang/String" = true := by first | (simp [plainName, overriddenIn]; done) | decide +kernel
theorem ef_len2_0 (m : MethodId) (a : Addr) (d : Addr) (kd : ClassId) (vs : List Value) (z : Int32) (fm : Value) : entryFrame m #[(.ref a)] 1 = mkF m 0 #[.val (.ref a)] [] := by first | (simp [entryFrame, mkF, argsToLocals, Value.category]; done) | rfl
def Q_len2_0 (Z : State) (h0 : Heap) (n0 : Nat) (a : Addr) (d : Addr) (kd : ClassId) (vs : List Value) (z : Int32) (fm : Value) (v : Option Value) (h : Heap) (L : List Loc) : Prop := v = some (.int (2 : Int32)) ∧ Fr n0 L ∧ h = h0
set_option maxRecDepth 65536 in
set_option maxHeartbeats 40000000 in
theorem len2_0 (l : Launch) (Z : State) (a0 : Array Value) (hw : ∀ d ∈ tables_1, d.before a0 Z = true) (ws : List Jvm.Cond) (h0 : Heap) (n0 : Nat) (O0 : Old Z n0 h0) (a : Addr) (d : Addr) (kd : ClassId) (vs : List Value) (z : Int32) (fm : Value) (SC : Sta Z Z.heap "java/lang/String" "COMPACT_STRINGS" "Z" (.int z)) (hz : ¬ (z = (0 : Int32))) (SA : Sta Z Z.heap "java/lang/StringUTF16" "$assertionsDisabled" "Z" (.int (1 : Int32))) (SH : Sta Z Z.heap "java/lang/StringUTF16" "HI_BYTE_SHIFT" "I" (.int (0 : Int32))) (SL : Sta Z Z.heap "java/lang/StringUTF16" "LO_BYTE_SHIFT" "I" (.int (8 : Int32))) (SF : Sta Z Z.heap "jdk/internal/util/Preconditions" "SIOOBE_FORMATTER" "Ljava/util/function/BiFunction;" fm) (hfm : fm.isRef = true) (Ea : Exa Z h0 a "java/lang/String") (Fc : Fld Z h0 a "java/lang/String" "coder" "B" (.int (0 : Int32))) (Fv : Fld Z h0 a "java/lang/String" "value" "[B" (.ref d)) (Vd : own_Ar Z h0 d kd .byte vs) (hvs : vs.length = 2) :
    MetFree l (⟨"java/lang/String", "length", "()I"⟩ : MethodName) (head1 (Jvm.Cond.code (⟨"java/lang/String", "length", "()I"⟩ : MethodName) jdk_42_method_54_code 1 (some .int) :: ws) ({ frames := 1, cells := 0, slots := 0, locals := 13 } : Room)) (fun aq U => aq = #[(.ref a)] ∧ Z.Warmed39 U.vm ∧ U.heap = h0) (fun _ _ _ _ _ => True) (fun _ U oo U' => ∃ v L, oo = .returned v ∧ Q_len2_0 Z h0 n0 a d kd vs z fm v U'.heap L ∧ FrameEnd U oo U' L ({ frames := 1, cells := 0, slots := 0, locals := 13 } : Room).cells ({ frames := 1, cells := 0, slots := 0, locals := 13 } : Room).slots) := by
  refine MetFree.of_bodySF (plainFor_of_name pn_len2_0) hisR ?_
  intro p e s m args below meth c s₁ Bd hml0 hP hK
  obtain ⟨rfl, hZ, hh⟩ := hP
  have hx := Bd.exec
  have hby := Bd.bytes
  have hml : c.maxLocals = 1 := hml0
  have hown : s.vm.findClass "java/lang/String" = some m.cls := findClass_of_methodNamed Bd.named
  have hnm := (name_of_methodNamed Bd.named Bd.method).1
  have hlk := Bd.notSynchronized
  have hret := Bd.returns
  have X0 : Stand p l e ({ frames := 1, cells := 0, slots := 0, locals := 13 } : Room) s m #[(.ref a)] below meth c s₁ [] 0 0 := Stand.of_body Bd
  have e0 : s₁.heap = h0 := by rw [← hh, Bd.state]; rfl
  have N0 := Fr.nil n0
  have K0 := Keep.refl h0 []
  refine own_go (S' := (s₁.setTop (mkF m 0 #[.val (.ref a)] []))) (fun tq kq => castTop (ef_len2_0 m a d kd vs z fm) kq) ?_
  show own_G p e s below (Q_len2_0 Z h0 n0 a d kd vs z fm) _ _ _
  refine own_go (S' := (s₁.setTop (mkF m 1 #[.val (.ref a)] [(.ref a)]))) (fun tq kq => XS.aloadN X0.here hx rfl (hb hby d6_0) rfl rfl kq) ?_
  obtain ⟨T101, X101, e101, st101⟩ := getF X0 hx hZ hown (host := "") (Or.inl (hw _ (List.mem_of_getElem? (i := 26) rfl))) Via.refl e0 Fv (g := (mkF m 1 #[.val (.ref a)] [(.ref a)])) rfl rfl (hb hby d6_1)
  refine own_go (S' := (T101.setTop (mkF m 4 #[.val (.ref a)] [(.ref d)]))) (fun tq kq => st101 tq kq) ?_
  obtain ⟨cl102, Ar102, ln102⟩ := Vd.len
  have lq102 : cl102.slots.size.toInt32 = (2 : Int32) := ln102.trans (by rw [hvs]; rfl)
  refine own_go (S' := (T101.setTop (mkF m 6 #[.val (.ref a)] [(.ref a), (.int (2 : Int32))]))) (fun tq kq => X101.arraylength hx (by rw [e101]; exact Ar102.1) (State.isArrayOf_alike hZ.alike Ar102.2.1) (g := (mkF m 4 #[.val (.ref a)] [(.ref d)])) rfl rfl (hb hby d6_4) tq (by rw [lq102]; exact (XS.aloadN X101.here hx rfl (hb hby d6_5) rfl rfl kq))) ?_
  obtain ⟨cq103, kq103, q103a, q103b, q103c⟩ := isOf hZ e101 Ea
  obtain ⟨_, _, ⟨T103, L103, k103, n103⟩, -, X103, ⟨Lc103, hQ103, l103, y103, z103⟩, st103⟩ := X101.virtualBack hx (y := (⟨"java/lang/String", "coder", "()B"⟩ : MethodName)) (z := (⟨"java/lang/String", "coder", "()B"⟩ : MethodName)) hown (mvT hZ (hw _ (List.mem_of_getElem? (i := 37) rfl))) (mvT hZ (hw _ (List.mem_of_getElem? (i := 38) rfl))) (notFace_of_selects (args := #[]) (mvT hZ (hw _ (List.mem_of_getElem? (i := 40) rfl)))) (mvT hZ (hw _ (List.mem_of_getElem? (i := 40) rfl))) (mvT hZ (hw _ (List.mem_of_getElem? (i := 39) rfl))) (by decide) (backOf (W := 1) (coder0 l Z a0 hw [] h0 n0 O0 a z fm SC hz SA SH SL SF hfm Fc) hZ (hw _ (List.mem_of_getElem? (i := 41) rfl)) (hw _ (List.mem_of_getElem? (i := 8) rfl)) (by decide) (by decide)) q103a q103c (g := (mkF m 6 #[.val (.ref a)] [(.ref a), (.int (2 : Int32))])) rfl (by rw [hml]; rfl) (Steps.refl _) (argsL := []) (rest := [(.int (2 : Int32))]) (lenOf pd_1 rfl) rfl (by show 2 * 0 + _ ≤ _; exact Nat.le_of_eq rfl) (hb hby d6_6) (fun _ _ => ⟨rfl, e101, (by decide : 0 + 0 ≤ _), (by decide : 0 + 0 ≤ _)⟩)
  dsimp only [Pt.U, Pt.locs, Pt.cells, Pt.slots] at X103 l103 y103 z103 st103 hQ103
  subst l103 y103 z103
  obtain ⟨rfl, N103, eh103⟩ := hQ103
  have Nf103 := Fr.app N0 N103
  refine own_go (S' := (T103.setTop (mkF m 10 #[.val (.ref a)] [(.int ((2 : Int32) >>> ((0 : Int32) &&& 31)))]))) (fun tq kq => st103.trans (XS.ishr X103.here hx rfl (hb hby d6_9) rfl kq)) ?_
  rw [show ((2 : Int32) >>> ((0 : Int32) &&& 31)) = (2 : Int32) from by decide]
  refine own_retI X103 hx hlk hret (hb hby d6_10) (by decide) (by decide) ?_
  exact ⟨rfl, Nf103, eh103⟩
theorem pn_len4_1 : plainName "java/lang/String" = true := by first | (simp [plainName, overriddenIn]; done) | decide +kernel
theorem ef_len4_1 (m : MethodId) (a : Addr) (d : Addr) (kd : ClassId) (vs : List Value) (z : Int32) (fm : Value) : entryFrame m #[(.ref a)] 1 = mkF m 0 #[.val (.ref a)] [] := by first | (simp [entryFrame, mkF, argsToLocals, Value.category]; done) | rfl
def Q_len4_1 (Z : State) (h0 : Heap) (n0 : Nat) (a : Addr) (d : Addr) (kd : ClassId) (vs : List Value) (z : Int32) (fm : Value) (v : Option Value) (h : Heap) (L : List Loc) : Prop := v = some (.int (2 : Int32)) ∧ Fr n0 L ∧ h = h0
set_option maxRecDepth 65536 in
set_option maxHeartbeats 40000000 in
theorem len4_1 (l : Launch) (Z : State) (a0 : Array Value) (hw : ∀ d ∈ tables_1, d.before a0 Z = true) (ws : List Jvm.Cond) (h0 : Heap) (n0 : Nat) (O0 : Old Z n0 h0) (a : Addr) (d : Addr) (kd : ClassId) (vs : List Value) (z : Int32) (fm : Value) (SC : Sta Z Z.heap "java/lang/String" "COMPACT_STRINGS" "Z" (.int z)) (hz : ¬ (z = (0 : Int32))) (SA : Sta Z Z.heap "java/lang/StringUTF16" "$assertionsDisabled" "Z" (.int (1 : Int32))) (SH : Sta Z Z.heap "java/lang/StringUTF16" "HI_BYTE_SHIFT" "I" (.int (0 : Int32))) (SL : Sta Z Z.heap "java/lang/StringUTF16" "LO_BYTE_SHIFT" "I" (.int (8 : Int32))) (SF : Sta Z Z.heap "jdk/internal/util/Preconditions" "SIOOBE_FORMATTER" "Ljava/util/function/BiFunction;" fm) (hfm : fm.isRef = true) (Ea : Exa Z h0 a "java/lang/String") (Fc : Fld Z h0 a "java/lang/String" "coder" "B" (.int (1 : Int32))) (Fv : Fld Z h0 a "java/lang/String" "value" "[B" (.ref d)) (Vd : own_Ar Z h0 d kd .byte vs) (hvs : vs.length = 4) :
    MetFree l (⟨"java/lang/String", "length", "()I"⟩ : MethodName) (head1 (Jvm.Cond.code (⟨"java/lang/String", "length", "()I"⟩ : MethodName) jdk_42_method_54_code 1 (some .int) :: ws) ({ frames := 1, cells := 0, slots := 0, locals := 13 } : Room)) (fun aq U => aq = #[(.ref a)] ∧ Z.Warmed39 U.vm ∧ U.heap = h0) (fun _ _ _ _ _ => True) (fun _ U oo U' => ∃ v L, oo = .returned v ∧ Q_len4_1 Z h0 n0 a d kd vs z fm v U'.heap L ∧ FrameEnd U oo U' L ({ frames := 1, cells := 0, slots := 0, locals := 13 } : Room).cells ({ frames := 1, cells := 0, slots := 0, locals := 13 } : Room).slots) := by
  refine MetFree.of_bodySF (plainFor_of_name pn_len4_1) hisR ?_
  intro p e s m args below meth c s₁ Bd hml0 hP hK
  obtain ⟨rfl, hZ, hh⟩ := hP
  have hx := Bd.exec
  have hby := Bd.bytes
  have hml : c.maxLocals = 1 := hml0
  have hown : s.vm.findClass "java/lang/String" = some m.cls := findClass_of_methodNamed Bd.named
  have hnm := (name_of_methodNamed Bd.named Bd.method).1
  have hlk := Bd.notSynchronized
  have hret := Bd.returns
  have X0 : Stand p l e ({ frames := 1, cells := 0, slots := 0, locals := 13 } : Room) s m #[(.ref a)] below meth c s₁ [] 0 0 := Stand.of_body Bd
  have e0 : s₁.heap = h0 := by rw [← hh, Bd.state]; rfl
  have N0 := Fr.nil n0
  have K0 := Keep.refl h0 []
  refine own_go (S' := (s₁.setTop (mkF m 0 #[.val (.ref a)] []))) (fun tq kq => castTop (ef_len4_1 m a d kd vs z fm) kq) ?_
  show own_G p e s below (Q_len4_1 Z h0 n0 a d kd vs z fm) _ _ _
  refine own_go (S' := (s₁.setTop (mkF m 1 #[.val (.ref a)] [(.ref a)]))) (fun tq kq => XS.aloadN X0.here hx rfl (hb hby d6_0) rfl rfl kq) ?_
  obtain ⟨T101, X101, e101, st101⟩ := getF X0 hx hZ hown (host := "") (Or.inl (hw _ (List.mem_of_getElem? (i := 26) rfl))) Via.refl e0 Fv (g := (mkF m 1 #[.val (.ref a)] [(.ref a)])) rfl rfl (hb hby d6_1)
  refine own_go (S' := (T101.setTop (mkF m 4 #[.val (.ref a)] [(.ref d)]))) (fun tq kq => st101 tq kq) ?_
  obtain ⟨cl102, Ar102, ln102⟩ := Vd.len
  have lq102 : cl102.slots.size.toInt32 = (4 : Int32) := ln102.trans (by rw [hvs]; rfl)
  refine own_go (S' := (T101.setTop (mkF m 6 #[.val (.ref a)] [(.ref a), (.int (4 : Int32))]))) (fun tq kq => X101.arraylength hx (by rw [e101]; exact Ar102.1) (State.isArrayOf_alike hZ.alike Ar102.2.1) (g := (mkF m 4 #[.val (.ref a)] [(.ref d)])) rfl rfl (hb hby d6_4) tq (by rw [lq102]; exact (XS.aloadN X101.here hx rfl (hb hby d6_5) rfl rfl kq))) ?_
  obtain ⟨cq103, kq103, q103a, q103b, q103c⟩ := isOf hZ e101 Ea
  obtain ⟨_, _, ⟨T103, L103, k103, n103⟩, -, X103, ⟨Lc103, hQ103, l103, y103, z103⟩, st103⟩ := X101.virtualBack hx (y := (⟨"java/lang/String", "coder", "()B"⟩ : MethodName)) (z := (⟨"java/lang/String", "coder", "()B"⟩ : MethodName)) hown (mvT hZ (hw _ (List.mem_of_getElem? (i := 37) rfl))) (mvT hZ (hw _ (List.mem_of_getElem? (i := 38) rfl))) (notFace_of_selects (args := #[]) (mvT hZ (hw _ (List.mem_of_getElem? (i := 40) rfl)))) (mvT hZ (hw _ (List.mem_of_getElem? (i := 40) rfl))) (mvT hZ (hw _ (List.mem_of_getElem? (i := 39) rfl))) (by decide) (backOf (W := 1) (coder1 l Z a0 hw [] h0 n0 O0 a z fm SC hz SA SH SL SF hfm Fc) hZ (hw _ (List.mem_of_getElem? (i := 41) rfl)) (hw _ (List.mem_of_getElem? (i := 8) rfl)) (by decide) (by decide)) q103a q103c (g := (mkF m 6 #[.val (.ref a)] [(.ref a), (.int (4 : Int32))])) rfl (by rw [hml]; rfl) (Steps.refl _) (argsL := []) (rest := [(.int (4 : Int32))]) (lenOf pd_1 rfl) rfl (by show 2 * 0 + _ ≤ _; exact Nat.le_of_eq rfl) (hb hby d6_6) (fun _ _ => ⟨rfl, e101, (by decide : 0 + 0 ≤ _), (by decide : 0 + 0 ≤ _)⟩)
  dsimp only [Pt.U, Pt.locs, Pt.cells, Pt.slots] at X103 l103 y103 z103 st103 hQ103
  subst l103 y103 z103
  obtain ⟨rfl, N103, eh103⟩ := hQ103
  have Nf103 := Fr.app N0 N103
  refine own_go (S' := (T103.setTop (mkF m 10 #[.val (.ref a)] [(.int ((4 : Int32) >>> ((1 : Int32) &&& 31)))]))) (fun tq kq => st103.trans (XS.ishr X103.here hx rfl (hb hby d6_9) rfl kq)) ?_
  rw [show ((4 : Int32) >>> ((1 : Int32) &&& 31)) = (2 : Int32) from by decide]
  refine own_retI X103 hx hlk hret (hb hby d6_10) (by decide) (by decide) ?_
  exact ⟨rfl, Nf103, eh103⟩
theorem pn_len3_0 : plainName "java/lang/String" = true := by first | (simp [plainName, overriddenIn]; done) | decide +kernel
theorem ef_len3_0 (m : MethodId) (a : Addr) (d : Addr) (kd : ClassId) (vs : List Value) (z : Int32) (fm : Value) : entryFrame m #[(.ref a)] 1 = mkF m 0 #[.val (.ref a)] [] := by first | (simp [entryFrame, mkF, argsToLocals, Value.category]; done) | rfl
def Q_len3_0 (Z : State) (h0 : Heap) (n0 : Nat) (a : Addr) (d : Addr) (kd : ClassId) (vs : List Value) (z : Int32) (fm : Value) (v : Option Value) (h : Heap) (L : List Loc) : Prop := v = some (.int (3 : Int32)) ∧ Fr n0 L ∧ h = h0
set_option maxRecDepth 65536 in
set_option maxHeartbeats 40000000 in
theorem len3_0 (l : Launch) (Z : State) (a0 : Array Value) (hw : ∀ d ∈ tables_1, d.before a0 Z = true) (ws : List Jvm.Cond) (h0 : Heap) (n0 : Nat) (O0 : Old Z n0 h0) (a : Addr) (d : Addr) (kd : ClassId) (vs : List Value) (z : Int32) (fm : Value) (SC : Sta Z Z.heap "java/lang/String" "COMPACT_STRINGS" "Z" (.int z)) (hz : ¬ (z = (0 : Int32))) (SA : Sta Z Z.heap "java/lang/StringUTF16" "$assertionsDisabled" "Z" (.int (1 : Int32))) (SH : Sta Z Z.heap "java/lang/StringUTF16" "HI_BYTE_SHIFT" "I" (.int (0 : Int32))) (SL : Sta Z Z.heap "java/lang/StringUTF16" "LO_BYTE_SHIFT" "I" (.int (8 : Int32))) (SF : Sta Z Z.heap "jdk/internal/util/Preconditions" "SIOOBE_FORMATTER" "Ljava/util/function/BiFunction;" fm) (hfm : fm.isRef = true) (Ea : Exa Z h0 a "java/lang/String") (Fc : Fld Z h0 a "java/lang/String" "coder" "B" (.int (0 : Int32))) (Fv : Fld Z h0 a "java/lang/String" "value" "[B" (.ref d)) (Vd : own_Ar Z h0 d kd .byte vs) (hvs : vs.length = 3) :
    MetFree l (⟨"java/lang/String", "length", "()I"⟩ : MethodName) (head1 (Jvm.Cond.code (⟨"java/lang/String", "length", "()I"⟩ : MethodName) jdk_42_method_54_code 1 (some .int) :: ws) ({ frames := 1, cells := 0, slots := 0, locals := 13 } : Room)) (fun aq U => aq = #[(.ref a)] ∧ Z.Warmed39 U.vm ∧ U.heap = h0) (fun _ _ _ _ _ => True) (fun _ U oo U' => ∃ v L, oo = .returned v ∧ Q_len3_0 Z h0 n0 a d kd vs z fm v U'.heap L ∧ FrameEnd U oo U' L ({ frames := 1, cells := 0, slots := 0, locals := 13 } : Room).cells ({ frames := 1, cells := 0, slots := 0, locals := 13 } : Room).slots) := by
  refine MetFree.of_bodySF (plainFor_of_name pn_len3_0) hisR ?_
  intro p e s m args below meth c s₁ Bd hml0 hP hK
  obtain ⟨rfl, hZ, hh⟩ := hP
  have hx := Bd.exec
  have hby := Bd.bytes
  have hml : c.maxLocals = 1 := hml0
  have hown : s.vm.findClass "java/lang/String" = some m.cls := findClass_of_methodNamed Bd.named
  have hnm := (name_of_methodNamed Bd.named Bd.method).1
  have hlk := Bd.notSynchronized
  have hret := Bd.returns
  have X0 : Stand p l e ({ frames := 1, cells := 0, slots := 0, locals := 13 } : Room) s m #[(.ref a)] below meth c s₁ [] 0 0 := Stand.of_body Bd
  have e0 : s₁.heap = h0 := by rw [← hh, Bd.state]; rfl
  have N0 := Fr.nil n0
  have K0 := Keep.refl h0 []
  refine own_go (S' := (s₁.setTop (mkF m 0 #[.val (.ref a)] []))) (fun tq kq => castTop (ef_len3_0 m a d kd vs z fm) kq) ?_
  show own_G p e s below (Q_len3_0 Z h0 n0 a d kd vs z fm) _ _ _
  refine own_go (S' := (s₁.setTop (mkF m 1 #[.val (.ref a)] [(.ref a)]))) (fun tq kq => XS.aloadN X0.here hx rfl (hb hby d6_0) rfl rfl kq) ?_
  obtain ⟨T101, X101, e101, st101⟩ := getF X0 hx hZ hown (host := "") (Or.inl (hw _ (List.mem_of_getElem? (i := 26) rfl))) Via.refl e0 Fv (g := (mkF m 1 #[.val (.ref a)] [(.ref a)])) rfl rfl (hb hby d6_1)
  refine own_go (S' := (T101.setTop (mkF m 4 #[.val (.ref a)] [(.ref d)]))) (fun tq kq => st101 tq kq) ?_
  obtain ⟨cl102, Ar102, ln102⟩ := Vd.len
  have lq102 : cl102.slots.size.toInt32 = (3 : Int32) := ln102.trans (by rw [hvs]; rfl)
  refine own_go (S' := (T101.setTop (mkF m 6 #[.val (.ref a)] [(.ref a), (.int (3 : Int32))]))) (fun tq kq => X101.arraylength hx (by rw [e101]; exact Ar102.1) (State.isArrayOf_alike hZ.alike Ar102.2.1) (g := (mkF m 4 #[.val (.ref a)] [(.ref d)])) rfl rfl (hb hby d6_4) tq (by rw [lq102]; exact (XS.aloadN X101.here hx rfl (hb hby d6_5) rfl rfl kq))) ?_
  obtain ⟨cq103, kq103, q103a, q103b, q103c⟩ := isOf hZ e101 Ea
  obtain ⟨_, _, ⟨T103, L103, k103, n103⟩, -, X103, ⟨Lc103, hQ103, l103, y103, z103⟩, st103⟩ := X101.virtualBack hx (y := (⟨"java/lang/String", "coder", "()B"⟩ : MethodName)) (z := (⟨"java/lang/String", "coder", "()B"⟩ : MethodName)) hown (mvT hZ (hw _ (List.mem_of_getElem? (i := 37) rfl))) (mvT hZ (hw _ (List.mem_of_getElem? (i := 38) rfl))) (notFace_of_selects (args := #[]) (mvT hZ (hw _ (List.mem_of_getElem? (i := 40) rfl)))) (mvT hZ (hw _ (List.mem_of_getElem? (i := 40) rfl))) (mvT hZ (hw _ (List.mem_of_getElem? (i := 39) rfl))) (by decide) (backOf (W := 1) (coder0 l Z a0 hw [] h0 n0 O0 a z fm SC hz SA SH SL SF hfm Fc) hZ (hw _ (List.mem_of_getElem? (i := 41) rfl)) (hw _ (List.mem_of_getElem? (i := 8) rfl)) (by decide) (by decide)) q103a q103c (g := (mkF m 6 #[.val (.ref a)] [(.ref a), (.int (3 : Int32))])) rfl (by rw [hml]; rfl) (Steps.refl _) (argsL := []) (rest := [(.int (3 : Int32))]) (lenOf pd_1 rfl) rfl (by show 2 * 0 + _ ≤ _; exact Nat.le_of_eq rfl) (hb hby d6_6) (fun _ _ => ⟨rfl, e101, (by decide : 0 + 0 ≤ _), (by decide : 0 + 0 ≤ _)⟩)
  dsimp only [Pt.U, Pt.locs, Pt.cells, Pt.slots] at X103 l103 y103 z103 st103 hQ103
  subst l103 y103 z103
  obtain ⟨rfl, N103, eh103⟩ := hQ103
  have Nf103 := Fr.app N0 N103
  refine own_go (S' := (T103.setTop (mkF m 10 #[.val (.ref a)] [(.int ((3 : Int32) >>> ((0 : Int32) &&& 31)))]))) (fun tq kq => st103.trans (XS.ishr X103.here hx rfl (hb hby d6_9) rfl kq)) ?_
  rw [show ((3 : Int32) >>> ((0 : Int32) &&& 31)) = (3 : Int32) from by decide]
  refine own_retI X103 hx hlk hret (hb hby d6_10) (by decide) (by decide) ?_
  exact ⟨rfl, Nf103, eh103⟩
theorem pn_len6_1 : plainName "java/lang/String" = true := by first | (simp [plainName, overriddenIn]; done) | decide +kernel
theorem ef_len6_1 (m : MethodId) (a : Addr) (d : Addr) (kd : ClassId) (vs : List Value) (z : Int32) (fm : Value) : entryFrame m #[(.ref a)] 1 = mkF m 0 #[.val (.ref a)] [] := by first | (simp [entryFrame, mkF, argsToLocals, Value.category]; done) | rfl
def Q_len6_1 (Z : State) (h0 : Heap) (n0 : Nat) (a : Addr) (d : Addr) (kd : ClassId) (vs : List Value) (z : Int32) (fm : Value) (v : Option Value) (h : Heap) (L : List Loc) : Prop := v = some (.int (3 : Int32)) ∧ Fr n0 L ∧ h = h0
set_option maxRecDepth 65536 in
set_option maxHeartbeats 40000000 in
theorem len6_1 (l : Launch) (Z : State) (a0 : Array Value) (hw : ∀ d ∈ tables_1, d.before a0 Z = true) (ws : List Jvm.Cond) (h0 : Heap) (n0 : Nat) (O0 : Old Z n0 h0) (a : Addr) (d : Addr) (kd : ClassId) (vs : List Value) (z : Int32) (fm : Value) (SC : Sta Z Z.heap "java/lang/String" "COMPACT_STRINGS" "Z" (.int z)) (hz : ¬ (z = (0 : Int32))) (SA : Sta Z Z.heap "java/lang/StringUTF16" "$assertionsDisabled" "Z" (.int (1 : Int32))) (SH : Sta Z Z.heap "java/lang/StringUTF16" "HI_BYTE_SHIFT" "I" (.int (0 : Int32))) (SL : Sta Z Z.heap "java/lang/StringUTF16" "LO_BYTE_SHIFT" "I" (.int (8 : Int32))) (SF : Sta Z Z.heap "jdk/internal/util/Preconditions" "SIOOBE_FORMATTER" "Ljava/util/function/BiFunction;" fm) (hfm : fm.isRef = true) (Ea : Exa Z h0 a "java/lang/String") (Fc : Fld Z h0 a "java/lang/String" "coder" "B" (.int (1 : Int32))) (Fv : Fld Z h0 a "java/lang/String" "value" "[B" (.ref d)) (Vd : own_Ar Z h0 d kd .byte vs) (hvs : vs.length = 6) :
    MetFree l (⟨"java/lang/String", "length", "()I"⟩ : MethodName) (head1 (Jvm.Cond.code (⟨"java/lang/String", "length", "()I"⟩ : MethodName) jdk_42_method_54_code 1 (some .int) :: ws) ({ frames := 1, cells := 0, slots := 0, locals := 13 } : Room)) (fun aq U => aq = #[(.ref a)] ∧ Z.Warmed39 U.vm ∧ U.heap = h0) (fun _ _ _ _ _ => True) (fun _ U oo U' => ∃ v L, oo = .returned v ∧ Q_len6_1 Z h0 n0 a d kd vs z fm v U'.heap L ∧ FrameEnd U oo U' L ({ frames := 1, cells := 0, slots := 0, locals := 13 } : Room).cells ({ frames := 1, cells := 0, slots := 0, locals := 13 } : Room).slots) := by
  refine MetFree.of_bodySF (plainFor_of_name pn_len6_1) hisR ?_
  intro p e s m args below meth c s₁ Bd hml0 hP hK
  obtain ⟨rfl, hZ, hh⟩ := hP
  have hx := Bd.exec
  have hby := Bd.bytes
  have hml : c.maxLocals = 1 := hml0
  have hown : s.vm.findClass "java/lang/String" = some m.cls := findClass_of_methodNamed Bd.named
  have hnm := (name_of_methodNamed Bd.named Bd.method).1
  have hlk := Bd.notSynchronized
  have hret := Bd.returns
  have X0 : Stand p l e ({ frames := 1, cells := 0, slots := 0, locals := 13 } : Room) s m #[(.ref a)] below meth c s₁ [] 0 0 := Stand.of_body Bd
  have e0 : s₁.heap = h0 := by rw [← hh, Bd.state]; rfl
  have N0 := Fr.nil n0
  have K0 := Keep.refl h0 []
  refine own_go (S' := (s₁.setTop (mkF m 0 #[.val (.ref a)] []))) (fun tq kq => castTop (ef_len6_1 m a d kd vs z fm) kq) ?_
  show own_G p e s below (Q_len6_1 Z h0 n0 a d kd vs z fm) _ _ _
  refine own_go (S' := (s₁.setTop (mkF m 1 #[.val (.ref a)] [(.ref a)]))) (fun tq kq => XS.aloadN X0.here hx rfl (hb hby d6_0) rfl rfl kq) ?_
  obtain ⟨T101, X101, e101, st101⟩ := getF X0 hx hZ hown (host := "") (Or.inl (hw _ (List.mem_of_getElem? (i := 26) rfl))) Via.refl e0 Fv (g := (mkF m 1 #[.val (.ref a)] [(.ref a)])) rfl rfl (hb hby d6_1)
  refine own_go (S' := (T101.setTop (mkF m 4 #[.val (.ref a)] [(.ref d)]))) (fun tq kq => st101 tq kq) ?_
  obtain ⟨cl102, Ar102, ln102⟩ := Vd.len
  have lq102 : cl102.slots.size.toInt32 = (6 : Int32) := ln102.trans (by rw [hvs]; rfl)
  refine own_go (S' := (T101.setTop (mkF m 6 #[.val (.ref a)] [(.ref a), (.int (6 : Int32))]))) (fun tq kq => X101.arraylength hx (by rw [e101]; exact Ar102.1) (State.isArrayOf_alike hZ.alike Ar102.2.1) (g := (mkF m 4 #[.val (.ref a)] [(.ref d)])) rfl rfl (hb hby d6_4) tq (by rw [lq102]; exact (XS.aloadN X101.here hx rfl (hb hby d6_5) rfl rfl kq))) ?_
  obtain ⟨cq103, kq103, q103a, q103b, q103c⟩ := isOf hZ e101 Ea
  obtain ⟨_, _, ⟨T103, L103, k103, n103⟩, -, X103, ⟨Lc103, hQ103, l103, y103, z103⟩, st103⟩ := X101.virtualBack hx (y := (⟨"java/lang/String", "coder", "()B"⟩ : MethodName)) (z := (⟨"java/lang/String", "coder", "()B"⟩ : MethodName)) hown (mvT hZ (hw _ (List.mem_of_getElem? (i := 37) rfl))) (mvT hZ (hw _ (List.mem_of_getElem? (i := 38) rfl))) (notFace_of_selects (args := #[]) (mvT hZ (hw _ (List.mem_of_getElem? (i := 40) rfl)))) (mvT hZ (hw _ (List.mem_of_getElem? (i := 40) rfl))) (mvT hZ (hw _ (List.mem_of_getElem? (i := 39) rfl))) (by decide) (backOf (W := 1) (coder1 l Z a0 hw [] h0 n0 O0 a z fm SC hz SA SH SL SF hfm Fc) hZ (hw _ (List.mem_of_getElem? (i := 41) rfl)) (hw _ (List.mem_of_getElem? (i := 8) rfl)) (by decide) (by decide)) q103a q103c (g := (mkF m 6 #[.val (.ref a)] [(.ref a), (.int (6 : Int32))])) rfl (by rw [hml]; rfl) (Steps.refl _) (argsL := []) (rest := [(.int (6 : Int32))]) (lenOf pd_1 rfl) rfl (by show 2 * 0 + _ ≤ _; exact Nat.le_of_eq rfl) (hb hby d6_6) (fun _ _ => ⟨rfl, e101, (by decide : 0 + 0 ≤ _), (by decide : 0 + 0 ≤ _)⟩)
  dsimp only [Pt.U, Pt.locs, Pt.cells, Pt.slots] at X103 l103 y103 z103 st103 hQ103
  subst l103 y103 z103
  obtain ⟨rfl, N103, eh103⟩ := hQ103
  have Nf103 := Fr.app N0 N103
  refine own_go (S' := (T103.setTop (mkF m 10 #[.val (.ref a)] [(.int ((6 : Int32) >>> ((1 : Int32) &&& 31)))]))) (fun tq kq => st103.trans (XS.ishr X103.here hx rfl (hb hby d6_9) rfl kq)) ?_
  rw [show ((6 : Int32) >>> ((1 : Int32) &&& 31)) = (3 : Int32) from by decide]
  refine own_retI X103 hx hlk hret (hb hby d6_10) (by decide) (by decide) ?_
  exact ⟨rfl, Nf103, eh103⟩
theorem pn_isl0 : plainName "java/lang/String" = true := by first | (simp [plainName, overriddenIn]; done) | decide +kernel
theorem ef_isl0 (m : MethodId) (a : Addr) (z : Int32) (fm : Value) : entryFrame m #[(.ref a)] 1 = mkF m 0 #[.val (.ref a)] [] := by first | (simp [entryFrame, mkF, argsToLocals, Value.category]; done) | rfl
def Q_isl0 (Z : State) (h0 : Heap) (n0 : Nat) (a : Addr) (z : Int32) (fm : Value) (v : Option Value) (h : Heap) (L : List Loc) : Prop := v = some (.int (1 : Int32)) ∧ Fr n0 L ∧ h = h0
set_option maxRecDepth 65536 in
set_option maxHeartbeats 40000000 in
theorem isl0 (l : Launch) (Z : State) (a0 : Array Value) (hw : ∀ d ∈ tables_1, d.before a0 Z = true) (ws : List Jvm.Cond) (h0 : Heap) (n0 : Nat) (O0 : Old Z n0 h0) (a : Addr) (z : Int32) (fm : Value) (SC : Sta Z Z.heap "java/lang/String" "COMPACT_STRINGS" "Z" (.int z)) (hz : ¬ (z = (0 : Int32))) (SA : Sta Z Z.heap "java/lang/StringUTF16" "$assertionsDisabled" "Z" (.int (1 : Int32))) (SH : Sta Z Z.heap "java/lang/StringUTF16" "HI_BYTE_SHIFT" "I" (.int (0 : Int32))) (SL : Sta Z Z.heap "java/lang/StringUTF16" "LO_BYTE_SHIFT" "I" (.int (8 : Int32))) (SF : Sta Z Z.heap "jdk/internal/util/Preconditions" "SIOOBE_FORMATTER" "Ljava/util/function/BiFunction;" fm) (hfm : fm.isRef = true) (Fc : Fld Z h0 a "java/lang/String" "coder" "B" (.int (0 : Int32))) :
    MetFree l (⟨"java/lang/String", "isLatin1", "()Z"⟩ : MethodName) (head1 (Jvm.Cond.code (⟨"java/lang/String", "isLatin1", "()Z"⟩ : MethodName) jdk_42_method_154_code 1 (some .boolean) :: ws) ({ frames := 0, cells := 0, slots := 0, locals := 0 } : Room)) (fun aq U => aq = #[(.ref a)] ∧ Z.Warmed39 U.vm ∧ U.heap = h0) (fun _ _ _ _ _ => True) (fun _ U oo U' => ∃ v L, oo = .returned v ∧ Q_isl0 Z h0 n0 a z fm v U'.heap L ∧ FrameEnd U oo U' L ({ frames := 0, cells := 0, slots := 0, locals := 0 } : Room).cells ({ frames := 0, cells := 0, slots := 0, locals := 0 } : Room).slots) := by
  refine MetFree.of_bodySF (plainFor_of_name pn_isl0) hisR ?_
  intro p e s m args below meth c s₁ Bd hml0 hP hK
  obtain ⟨rfl, hZ, hh⟩ := hP
  have hx := Bd.exec
  have hby := Bd.bytes
  have hml : c.maxLocals = 1 := hml0
  have hown : s.vm.findClass "java/lang/String" = some m.cls := findClass_of_methodNamed Bd.named
  have hnm := (name_of_methodNamed Bd.named Bd.method).1
  have hlk := Bd.notSynchronized
  have hret := Bd.returns
  have X0 : Stand p l e ({ frames := 0, cells := 0, slots := 0, locals := 0 } : Room) s m #[(.ref a)] below meth c s₁ [] 0 0 := Stand.of_body Bd
  have e0 : s₁.heap = h0 := by rw [← hh, Bd.state]; rfl
  have N0 := Fr.nil n0
  have K0 := Keep.refl h0 []
  refine own_go (S' := (s₁.setTop (mkF m 0 #[.val (.ref a)] []))) (fun tq kq => castTop (ef_isl0 m a z fm) kq) ?_
  show own_G p e s below (Q_isl0 Z h0 n0 a z fm) _ _ _
  obtain ⟨T101, X101, e101, st101⟩ := getS2 X0 hx hZ hown (host := "") (Or.inl (hw _ (List.mem_of_getElem? (i := 42) rfl))) Via.refl e0 (SC.ext O0.2) (g := (mkF m 0 #[.val (.ref a)] [])) rfl (hb hby d19_0)
  refine own_go (S' := (T101.setTop (mkF m 7 #[.val (.ref a)] [(.ref a)]))) (fun tq kq => st101 tq (XS.ifNo X101.here hx rfl (hb hby d19_3) rfl ((if0 _ _).trans (feq hz).1) (XS.aloadN X101.here hx rfl (hb hby d19_6) rfl rfl kq))) ?_
  obtain ⟨T102, X102, e102, st102⟩ := getF X101 hx hZ hown (host := "") (Or.inl (hw _ (List.mem_of_getElem? (i := 27) rfl))) Via.refl e101 Fc (g := (mkF m 7 #[.val (.ref a)] [(.ref a)])) rfl rfl (hb hby d19_7)
  refine own_go (S' := (T102.setTop (mkF m 18 #[.val (.ref a)] [(.int (1 : Int32))]))) (fun tq kq => st102 tq (XS.ifNo X102.here hx rfl (hb hby d19_10) rfl ((if0 _ _).trans (teq (by decide : (0 : Int32) = (0 : Int32))).2) (XS.iconst X102.here hx rfl (hb hby d19_13) (XS.goto X102.here hx rfl (pc0 := 14) (pc' := 18) rfl (hb hby d19_14) (by decide) (by decide) kq)))) ?_
  refine own_retN X102 hx hlk hret (by simp) (hb hby d19_18) (by decide) (by decide) ?_
  exact ⟨rfl, N0, e102⟩
theorem pn_pci0_1N : plainName "jdk/internal/util/Preconditions" = true := by first | (simp [plainName, overriddenIn]; done) | decide +kernel
theorem ef_pci0_1N (m : MethodId) (z : Int32) (fm : Value) : entryFrame m #[(.int (0 : Int32)), (.int (1 : Int32)), .null] 3 = mkF m 0 #[.val (.int (0 : Int32)), .val (.int (1 : Int32)), .val .null] [] := by first | (simp [entryFrame, mkF, argsToLocals, Value.category]; done) | rfl
def Q_pci0_1N (Z : State) (h0 : Heap) (n0 : Nat) (z : Int32) (fm : Value) (v : Option Value) (h : Heap) (L : List Loc) : Prop := v = some (.int (0 : Int32)) ∧ Fr n0 L ∧ h = h0
set_option maxRecDepth 65536 in
set_option maxHeartbeats 40000000 in
theorem pci0_1N (l : Launch) (Z : State) (a0 : Array Value) (hw : ∀ d ∈ tables_1, d.before a0 Z = true) (ws : List Jvm.Cond) (h0 : Heap) (n0 : Nat) (O0 : Old Z n0 h0) (z : Int32) (fm : Value) (SC : Sta Z Z.heap "java/lang/String" "COMPACT_STRINGS" "Z" (.int z)) (hz : ¬ (z = (0 : Int32))) (SA : Sta Z Z.heap "java/lang/StringUTF16" "$assertionsDisabled" "Z" (.int (1 : Int32))) (SH : Sta Z Z.heap "java/lang/StringUTF16" "HI_BYTE_SHIFT" "I" (.int (0 : Int32))) (SL : Sta Z Z.heap "java/lang/StringUTF16" "LO_BYTE_SHIFT" "I" (.int (8 : Int32))) (SF : Sta Z Z.heap "jdk/internal/util/Preconditions" "SIOOBE_FORMATTER" "Ljava/util/function/BiFunction;" fm) (hfm : fm.isRef = true) :
    MetFree l (⟨"jdk/internal/util/Preconditions", "checkIndex", "(IILjava/util/function/BiFunction;)I"⟩ : MethodName) (head1 (Jvm.Cond.code (⟨"jdk/internal/util/Preconditions", "checkIndex", "(IILjava/util/function/BiFunction;)I"⟩ : MethodName) jdk_41_method_11_code 3 (some .int) :: ws) ({ frames := 0, cells := 0, slots := 0, locals := 0 } : Room)) (fun aq U => aq = #[(.int (0 : Int32)), (.int (1 : Int32)), .null] ∧ Z.Warmed39 U.vm ∧ U.heap = h0) (fun _ _ _ _ _ => True) (fun _ U oo U' => ∃ v L, oo = .returned v ∧ Q_pci0_1N Z h0 n0 z fm v U'.heap L ∧ FrameEnd U oo U' L ({ frames := 0, cells := 0, slots := 0, locals := 0 } : Room).cells ({ frames := 0, cells := 0, slots := 0, locals := 0 } : Room).slots) := by
  refine MetFree.of_bodySF (plainFor_of_name pn_pci0_1N) hisR ?_
  intro p e s m args below meth c s₁ Bd hml0 hP hK
  obtain ⟨rfl, hZ, hh⟩ := hP
  have hx := Bd.exec
  have hby := Bd.bytes
  have hml : c.maxLocals = 3 := hml0
  have hown : s.vm.findClass "jdk/internal/util/Preconditions" = some m.cls := findClass_of_methodNamed Bd.named
  have hnm := (name_of_methodNamed Bd.named Bd.method).1
  have hlk := Bd.notSynchronized
  have hret := Bd.returns
  have X0 : Stand p l e ({ frames := 0, cells := 0, slots := 0, locals := 0 } : Room) s m #[(.int (0 : Int32)), (.int (1 : Int32)), .null] below meth c s₁ [] 0 0 := Stand.of_body Bd
  have e0 : s₁.heap = h0 := by rw [← hh, Bd.state]; rfl
  have N0 := Fr.nil n0
  have K0 := Keep.refl h0 []
  refine own_go (S' := (s₁.setTop (mkF m 0 #[.val (.int (0 : Int32)), .val (.int (1 : Int32)), .val .null] []))) (fun tq kq => castTop (ef_pci0_1N m z fm) kq) ?_
  show own_G p e s below (Q_pci0_1N Z h0 n0 z fm) _ _ _
  refine own_go (S' := (s₁.setTop (mkF m 17 #[.val (.int (0 : Int32)), .val (.int (1 : Int32)), .val .null] [(.int (0 : Int32))]))) (fun tq kq => XS.iloadN X0.here hx rfl (hb hby d22_0) rfl (XS.ifNo X0.here hx rfl (hb hby d22_1) rfl ((if0 _ _).trans (flt (by decide : ¬ ((0 : Int32) < (0 : Int32)))).1) (XS.iloadN X0.here hx rfl (hb hby d22_4) rfl (XS.iloadN X0.here hx rfl (hb hby d22_5) rfl (XS.icmpYes X0.here hx rfl (pc0 := 6) (pc' := 16) rfl (hb hby d22_6) rfl (tlt (by decide : (0 : Int32) < (1 : Int32))).1 (by decide) (by decide) (XS.iloadN X0.here hx rfl (hb hby d22_16) rfl kq)))))) ?_
  refine own_retI X0 hx hlk hret (hb hby d22_17) (by decide) (by decide) ?_
  exact ⟨rfl, N0, e0⟩
theorem pn_pci0_1R : plainName "jdk/internal/util/Preconditions" = true := by first | (simp [plainName, overriddenIn]; done) | decide +kernel
theorem ef_pci0_1R (m : MethodId) (fa : Addr) (z : Int32) (fm : Value) : entryFrame m #[(.int (0 : Int32)), (.int (1 : Int32)), (.ref fa)] 3 = mkF m 0 #[.val (.int (0 : Int32)), .val (.int (1 : Int32)), .val (.ref fa)] [] := by first | (simp [entryFrame, mkF, argsToLocals, Value.category]; done) | rfl
def Q_pci0_1R (Z : State) (h0 : Heap) (n0 : Nat) (fa : Addr) (z : Int32) (fm : Value) (v : Option Value) (h : Heap) (L : List Loc) : Prop := v = some (.int (0 : Int32)) ∧ Fr n0 L ∧ h = h0
set_option maxRecDepth 65536 in
set_option maxHeartbeats 40000000 in
theorem pci0_1R (l : Launch) (Z : State) (a0 : Array Value) (hw : ∀ d ∈ tables_1, d.before a0 Z = true) (ws : List Jvm.Cond) (h0 : Heap) (n0 : Nat) (O0 : Old Z n0 h0) (fa : Addr) (z : Int32) (fm : Value) (SC : Sta Z Z.heap "java/lang/String" "COMPACT_STRINGS" "Z" (.int z)) (hz : ¬ (z = (0 : Int32))) (SA : Sta Z Z.heap "java/lang/StringUTF16" "$assertionsDisabled" "Z" (.int (1 : Int32))) (SH : Sta Z Z.heap "java/lang/StringUTF16" "HI_BYTE_SHIFT" "I" (.int (0 : Int32))) (SL : Sta Z Z.heap "java/lang/StringUTF16" "LO_BYTE_SHIFT" "I" (.int (8 : Int32))) (SF : Sta Z Z.heap "jdk/internal/util/Preconditions" "SIOOBE_FORMATTER" "Ljava/util/function/BiFunction;" fm) (hfm : fm.isRef = true) :
    MetFree l (⟨"jdk/internal/util/Preconditions", "checkIndex", "(IILjava/util/function/BiFunction;)I"⟩ : MethodName) (head1 (Jvm.Cond.code (⟨"jdk/internal/util/Preconditions", "checkIndex", "(IILjava/util/function/BiFunction;)I"⟩ : MethodName) jdk_41_method_11_code 3 (some .int) :: ws) ({ frames := 0, cells := 0, slots := 0, locals := 0 } : Room)) (fun aq U => aq = #[(.int (0 : Int32)), (.int (1 : Int32)), (.ref fa)] ∧ Z.Warmed39 U.vm ∧ U.heap = h0) (fun _ _ _ _ _ => True) (fun _ U oo U' => ∃ v L, oo = .returned v ∧ Q_pci0_1R Z h0 n0 fa z fm v U'.heap L ∧ FrameEnd U oo U' L ({ frames := 0, cells := 0, slots := 0, locals := 0 } : Room).cells ({ frames := 0, cells := 0, slots := 0, locals := 0 } : Room).slots) := by
  refine MetFree.of_bodySF (plainFor_of_name pn_pci0_1R) hisR ?_
  intro p e s m args below meth c s₁ Bd hml0 hP hK
  obtain ⟨rfl, hZ, hh⟩ := hP
  have hx := Bd.exec
  have hby := Bd.bytes
  have hml : c.maxLocals = 3 := hml0
  have hown : s.vm.findClass "jdk/internal/util/Preconditions" = some m.cls := findClass_of_methodNamed Bd.named
  have hnm := (name_of_methodNamed Bd.named Bd.method).1
  have hlk := Bd.notSynchronized
  have hret := Bd.returns
  have X0 : Stand p l e ({ frames := 0, cells := 0, slots := 0, locals := 0 } : Room) s m #[(.int (0 : Int32)), (.int (1 : Int32)), (.ref fa)] below meth c s₁ [] 0 0 := Stand.of_body Bd
  have e0 : s₁.heap = h0 := by rw [← hh, Bd.state]; rfl
  have N0 := Fr.nil n0
  have K0 := Keep.refl h0 []
  refine own_go (S' := (s₁.setTop (mkF m 0 #[.val (.int (0 : Int32)), .val (.int (1 : Int32)), .val (.ref fa)] []))) (fun tq kq => castTop (ef_pci0_1R m fa z fm) kq) ?_
  show own_G p e s below (Q_pci0_1R Z h0 n0 fa z fm) _ _ _
  refine own_go (S' := (s₁.setTop (mkF m 17 #[.val (.int (0 : Int32)), .val (.int (1 : Int32)), .val (.ref fa)] [(.int (0 : Int32))]))) (fun tq kq => XS.iloadN X0.here hx rfl (hb hby d22_0) rfl (XS.ifNo X0.here hx rfl (hb hby d22_1) rfl ((if0 _ _).trans (flt (by decide : ¬ ((0 : Int32) < (0 : Int32)))).1) (XS.iloadN X0.here hx rfl (hb hby d22_4) rfl (XS.iloadN X0.here hx rfl (hb hby d22_5) rfl (XS.icmpYes X0.here hx rfl (pc0 := 6) (pc' := 16) rfl (hb hby d22_6) rfl (tlt (by decide : (0 : Int32) < (1 : Int32))).1 (by decide) (by decide) (XS.iloadN X0.here hx rfl (hb hby d22_16) rfl kq)))))) ?_
  refine own_retI X0 hx hlk hret (hb hby d22_17) (by decide) (by decide) ?_
  exact ⟨rfl, N0, e0⟩
theorem pn_chk0_1 : plainName "java/lang/String" = true := by first | (simp [plainName, overriddenIn]; done) | decide +kernel
theorem ef_chk0_1 (m : MethodId) (z : Int32) (fm : Value) : entryFrame m #[(.int (0 : Int32)), (.int (1 : Int32))] 2 = mkF m 0 #[.val (.int (0 : Int32)), .val (.int (1 : Int32))] [] := by first | (simp [entryFrame, mkF, argsToLocals, Value.category]; done) | rfl
def Q_chk0_1 (Z : State) (h0 : Heap) (n0 : Nat) (z : Int32) (fm : Value) (v : Option Value) (h : Heap) (L : List Loc) : Prop := v = none ∧ Fr n0 L ∧ h = h0
set_option maxRecDepth 65536 in
set_option maxHeartbeats 40000000 in
theorem chk0_1 (l : Launch) (Z : State) (a0 : Array Value) (hw : ∀ d ∈ tables_1, d.before a0 Z = true) (ws : List Jvm.Cond) (h0 : Heap) (n0 : Nat) (O0 : Old Z n0 h0) (z : Int32) (fm : Value) (SC : Sta Z Z.heap "java/lang/String" "COMPACT_STRINGS" "Z" (.int z)) (hz : ¬ (z = (0 : Int32))) (SA : Sta Z Z.heap "java/lang/StringUTF16" "$assertionsDisabled" "Z" (.int (1 : Int32))) (SH : Sta Z Z.heap "java/lang/StringUTF16" "HI_BYTE_SHIFT" "I" (.int (0 : Int32))) (SL : Sta Z Z.heap "java/lang/StringUTF16" "LO_BYTE_SHIFT" "I" (.int (8 : Int32))) (SF : Sta Z Z.heap "jdk/internal/util/Preconditions" "SIOOBE_FORMATTER" "Ljava/util/function/BiFunction;" fm) (hfm : fm.isRef = true) :
    MetFree l (⟨"java/lang/String", "checkIndex", "(II)V"⟩ : MethodName) (head1 (Jvm.Cond.code (⟨"java/lang/String", "checkIndex", "(II)V"⟩ : MethodName) jdk_42_method_155_code 2 none :: ws) ({ frames := 1, cells := 0, slots := 0, locals := 14 } : Room)) (fun aq U => aq = #[(.int (0 : Int32)), (.int (1 : Int32))] ∧ Z.Warmed39 U.vm ∧ U.heap = h0) (fun _ _ _ _ _ => True) (fun _ U oo U' => ∃ v L, oo = .returned v ∧ Q_chk0_1 Z h0 n0 z fm v U'.heap L ∧ FrameEnd U oo U' L ({ frames := 1, cells := 0, slots := 0, locals := 14 } : Room).cells ({ frames := 1, cells := 0, slots := 0, locals := 14 } : Room).slots) := by
  refine MetFree.of_bodySF (plainFor_of_name pn_chk0_1) hisR ?_
  intro p e s m args below meth c s₁ Bd hml0 hP hK
  obtain ⟨rfl, hZ, hh⟩ := hP
  have hx := Bd.exec
  have hby := Bd.bytes
  have hml : c.maxLocals = 2 := hml0
  have hown : s.vm.findClass "java/lang/String" = some m.cls := findClass_of_methodNamed Bd.named
  have hnm := (name_of_methodNamed Bd.named Bd.method).1
  have hlk := Bd.notSynchronized
  have hret := Bd.returns
  have X0 : Stand p l e ({ frames := 1, cells := 0, slots := 0, locals := 14 } : Room) s m #[(.int (0 : Int32)), (.int (1 : Int32))] below meth c s₁ [] 0 0 := Stand.of_body Bd
  have e0 : s₁.heap = h0 := by rw [← hh, Bd.state]; rfl
  have N0 := Fr.nil n0
  have K0 := Keep.refl h0 []
  refine own_go (S' := (s₁.setTop (mkF m 0 #[.val (.int (0 : Int32)), .val (.int (1 : Int32))] []))) (fun tq kq => castTop (ef_chk0_1 m z fm) kq) ?_
  show own_G p e s below (Q_chk0_1 Z h0 n0 z fm) _ _ _
  rcases ref_cases hfm with rfl | ⟨fa, rfl⟩
  · refine own_go (S' := (s₁.setTop (mkF m 2 #[.val (.int (0 : Int32)), .val (.int (1 : Int32))] [(.int (1 : Int32)), (.int (0 : Int32))]))) (fun tq kq => XS.iloadN X0.here hx rfl (hb hby d21_0) rfl (XS.iloadN X0.here hx rfl (hb hby d21_1) rfl kq)) ?_
    obtain ⟨T101, X101, e101, st101⟩ := getS2 X0 hx hZ hown (host := "") (Or.inl (hw _ (List.mem_of_getElem? (i := 98) rfl))) Via.refl e0 (SF.ext O0.2) (g := (mkF m 2 #[.val (.int (0 : Int32)), .val (.int (1 : Int32))] [(.int (1 : Int32)), (.int (0 : Int32))])) rfl (hb hby d21_2)
    refine own_go (S' := (T101.setTop (mkF m 5 #[.val (.int (0 : Int32)), .val (.int (1 : Int32))] [.null, (.int (1 : Int32)), (.int (0 : Int32))]))) (fun tq kq => st101 tq kq) ?_
    obtain ⟨_, _, ⟨T102, L102, k102, n102⟩, -, X102, ⟨Lc102, hQ102, l102, y102, z102⟩, st102⟩ := Jvm.LawKit.callS X101 hx (y := (⟨"jdk/internal/util/Preconditions", "checkIndex", "(IILjava/util/function/BiFunction;)I"⟩ : MethodName)) hown (mvT hZ (hw _ (List.mem_of_getElem? (i := 100) rfl))) (mvT hZ (hw _ (List.mem_of_getElem? (i := 101) rfl))) (mvT hZ (hw _ (List.mem_of_getElem? (i := 99) rfl))) (mvT hZ (hw _ (List.mem_of_getElem? (i := 102) rfl))) (by decide) (backOf (W := 0) (pci0_1N l Z a0 hw [] h0 n0 O0  z .null SC hz SA SH SL SF hfm) hZ (hw _ (List.mem_of_getElem? (i := 102) rfl)) (hw _ (List.mem_of_getElem? (i := 99) rfl)) (by decide) (by decide)) (g := (mkF m 5 #[.val (.int (0 : Int32)), .val (.int (1 : Int32))] [.null, (.int (1 : Int32)), (.int (0 : Int32))])) rfl (by rw [hml]; rfl) (argsL := [(.int (0 : Int32)), (.int (1 : Int32)), .null]) (rest := []) (lenOf pd_2 rfl) rfl (by show 2 * 0 + _ ≤ _; exact Nat.le_of_eq rfl) (hb hby d21_5) (fun _ _ => ⟨rfl, e101, (by decide : 0 + 0 ≤ _), (by decide : 0 + 0 ≤ _)⟩)
    dsimp only [Pt.U, Pt.locs, Pt.cells, Pt.slots] at X102 l102 y102 z102 st102 hQ102
    subst l102 y102 z102
    obtain ⟨rfl, N102, eh102⟩ := hQ102
    have Nf102 := Fr.app N0 N102
    refine own_go (S' := (T102.setTop (mkF m 9 #[.val (.int (0 : Int32)), .val (.int (1 : Int32))] []))) (fun tq kq => st102 tq (XS.pop X102.here hx rfl (hb hby d21_8) rfl rfl kq)) ?_
    refine own_retV X102 hx hlk hret (hb hby d21_9) (by decide) (by decide) ?_
    exact ⟨rfl, Nf102, eh102⟩
  · refine own_go (S' := (s₁.setTop (mkF m 2 #[.val (.int (0 : Int32)), .val (.int (1 : Int32))] [(.int (1 : Int32)), (.int (0 : Int32))]))) (fun tq kq => XS.iloadN X0.here hx rfl (hb hby d21_0) rfl (XS.iloadN X0.here hx rfl (hb hby d21_1) rfl kq)) ?_
    obtain ⟨T103, X103, e103, st103⟩ := getS2 X0 hx hZ hown (host := "") (Or.inl (hw _ (List.mem_of_getElem? (i := 98) rfl))) Via.refl e0 (SF.ext O0.2) (g := (mkF m 2 #[.val (.int (0 : Int32)), .val (.int (1 : Int32))] [(.int (1 : Int32)), (.int (0 : Int32))])) rfl (hb hby d21_2)
    refine own_go (S' := (T103.setTop (mkF m 5 #[.val (.int (0 : Int32)), .val (.int (1 : Int32))] [(.ref fa), (.int (1 : Int32)), (.int (0 : Int32))]))) (fun tq kq => st103 tq kq) ?_
    obtain ⟨_, _, ⟨T104, L104, k104, n104⟩, -, X104, ⟨Lc104, hQ104, l104, y104, z104⟩, st104⟩ := Jvm.LawKit.callS X103 hx (y := (⟨"jdk/internal/util/Preconditions", "checkIndex", "(IILjava/util/function/BiFunction;)I"⟩ : MethodName)) hown (mvT hZ (hw _ (List.mem_of_getElem? (i := 100) rfl))) (mvT hZ (hw _ (List.mem_of_getElem? (i := 101) rfl))) (mvT hZ (hw _ (List.mem_of_getElem? (i := 99) rfl))) (mvT hZ (hw _ (List.mem_of_getElem? (i := 102) rfl))) (by decide) (backOf (W := 0) (pci0_1R l Z a0 hw [] h0 n0 O0 fa z (.ref fa) SC hz SA SH SL SF hfm) hZ (hw _ (List.mem_of_getElem? (i := 102) rfl)) (hw _ (List.mem_of_getElem? (i := 99) rfl)) (by decide) (by decide)) (g := (mkF m 5 #[.val (.int (0 : Int32)), .val (.int (1 : Int32))] [(.ref fa), (.int (1 : Int32)), (.int (0 : Int32))])) rfl (by rw [hml]; rfl) (argsL := [(.int (0 : Int32)), (.int (1 : Int32)), (.ref fa)]) (rest := []) (lenOf pd_2 rfl) rfl (by show 2 * 0 + _ ≤ _; exact Nat.le_of_eq rfl) (hb hby d21_5) (fun _ _ => ⟨rfl, e103, (by decide : 0 + 0 ≤ _), (by decide : 0 + 0 ≤ _)⟩)
    dsimp only [Pt.U, Pt.locs, Pt.cells, Pt.slots] at X104 l104 y104 z104 st104 hQ104
    subst l104 y104 z104
    obtain ⟨rfl, N104, eh104⟩ := hQ104
    have Nf104 := Fr.app N0 N104
    refine own_go (S' := (T104.setTop (mkF m 9 #[.val (.int (0 : Int32)), .val (.int (1 : Int32))] []))) (fun tq kq => st104 tq (XS.pop X104.here hx rfl (hb hby d21_8) rfl rfl kq)) ?_
    refine own_retV X104 hx hlk hret (hb hby d21_9) (by decide) (by decide) ?_
    exact ⟨rfl, Nf104, eh104⟩
theorem pn_lchar0_1 : plainName "java/lang/StringLatin1" = true := by first | (simp [plainName, overriddenIn]; done) | decide +kernel
theorem ef_lchar0_1 (m : MethodId) (b : Addr) (kb : ClassId) (x : Int32) (z : Int32) (fm : Value) : entryFrame m #[(.ref b), (.int (0 : Int32))] 2 = mkF m 0 #[.val (.ref b), .val (.int (0 : Int32))] [] := by first | (simp [entryFrame, mkF, argsToLocals, Value.category]; done) | rfl
def Q_lchar0_1 (Z : State) (h0 : Heap) (n0 : Nat) (b : Addr) (kb : ClassId) (x : Int32) (z : Int32) (fm : Value) (v : Option Value) (h : Heap) (L : List Loc) : Prop := v = some (.int (own_l1 x)) ∧ Fr n0 L ∧ h = h0
set_option maxRecDepth 65536 in
set_option maxHeartbeats 40000000 in
theorem lchar0_1 (l : Launch) (Z : State) (a0 : Array Value) (hw : ∀ d ∈ tables_1, d.before a0 Z = true) (ws : List Jvm.Cond) (h0 : Heap) (n0 : Nat) (O0 : Old Z n0 h0) (b : Addr) (kb : ClassId) (x : Int32) (z : Int32) (fm : Value) (SC : Sta Z Z.heap "java/lang/String" "COMPACT_STRINGS" "Z" (.int z)) (hz : ¬ (z = (0 : Int32))) (SA : Sta Z Z.heap "java/lang/StringUTF16" "$assertionsDisabled" "Z" (.int (1 : Int32))) (SH : Sta Z Z.heap "java/lang/StringUTF16" "HI_BYTE_SHIFT" "I" (.int (0 : Int32))) (SL : Sta Z Z.heap "java/lang/StringUTF16" "LO_BYTE_SHIFT" "I" (.int (8 : Int32))) (SF : Sta Z Z.heap "jdk/internal/util/Preconditions" "SIOOBE_FORMATTER" "Ljava/util/function/BiFunction;" fm) (hfm : fm.isRef = true) (Vb : own_Ar Z h0 b kb .byte [(.int x)]) :
    MetFree l (⟨"java/lang/StringLatin1", "charAt", "([BI)C"⟩ : MethodName) (head1 (Jvm.Cond.code (⟨"java/lang/StringLatin1", "charAt", "([BI)C"⟩ : MethodName) jdk_43_method_2_code 2 (some .char) :: ws) ({ frames := 2, cells := 0, slots := 0, locals := 27 } : Room)) (fun aq U => aq = #[(.ref b), (.int (0 : Int32))] ∧ Z.Warmed39 U.vm ∧ U.heap = h0) (fun _ _ _ _ _ => True) (fun _ U oo U' => ∃ v L, oo = .returned v ∧ Q_lchar0_1 Z h0 n0 b kb x z fm v U'.heap L ∧ FrameEnd U oo U' L ({ frames := 2, cells := 0, slots := 0, locals := 27 } : Room).cells ({ frames := 2, cells := 0, slots := 0, locals := 27 } : Room).slots) := by
  refine MetFree.of_bodySF (plainFor_of_name pn_lchar0_1) hisR ?_
  intro p e s m args below meth c s₁ Bd hml0 hP hK
  obtain ⟨rfl, hZ, hh⟩ := hP
  have hx := Bd.exec
  have hby := Bd.bytes
  have hml : c.maxLocals = 2 := hml0
  have hown : s.vm.findClass "java/lang/StringLatin1" = some m.cls := findClass_of_methodNamed Bd.named
  have hnm := (name_of_methodNamed Bd.named Bd.method).1
  have hlk := Bd.notSynchronized
  have hret := Bd.returns
  have X0 : Stand p l e ({ frames := 2, cells := 0, slots := 0, locals := 27 } : Room) s m #[(.ref b), (.int (0 : Int32))] below meth c s₁ [] 0 0 := Stand.of_body Bd
  have e0 : s₁.heap = h0 := by rw [← hh, Bd.state]; rfl
  have N0 := Fr.nil n0
  have K0 := Keep.refl h0 []
  refine own_go (S' := (s₁.setTop (mkF m 0 #[.val (.ref b), .val (.int (0 : Int32))] []))) (fun tq kq => castTop (ef_lchar0_1 m b kb x z fm) kq) ?_
  show own_G p e s below (Q_lchar0_1 Z h0 n0 b kb x z fm) _ _ _
  refine own_go (S' := (s₁.setTop (mkF m 2 #[.val (.ref b), .val (.int (0 : Int32))] [(.ref b), (.int (0 : Int32))]))) (fun tq kq => XS.iloadN X0.here hx rfl (hb hby d20_0) rfl (XS.aloadN X0.here hx rfl (hb hby d20_1) rfl rfl kq)) ?_
  obtain ⟨cl101, Ar101, ln101⟩ := Vb.len
  have lq101 : cl101.slots.size.toInt32 = (1 : Int32) := ln101.trans rfl
  refine own_go (S' := (s₁.setTop (mkF m 3 #[.val (.ref b), .val (.int (0 : Int32))] [(.int (1 : Int32)), (.int (0 : Int32))]))) (fun tq kq => X0.arraylength hx (by rw [e0]; exact Ar101.1) (State.isArrayOf_alike hZ.alike Ar101.2.1) (g := (mkF m 2 #[.val (.ref b), .val (.int (0 : Int32))] [(.ref b), (.int (0 : Int32))])) rfl rfl (hb hby d20_2) tq (by rw [lq101]; exact kq)) ?_
  obtain ⟨_, _, ⟨T102, L102, k102, n102⟩, -, X102, ⟨Lc102, hQ102, l102, y102, z102⟩, st102⟩ := Jvm.LawKit.callS X0 hx (y := (⟨"java/lang/String", "checkIndex", "(II)V"⟩ : MethodName)) hown (mvT hZ (hw _ (List.mem_of_getElem? (i := 95) rfl))) (mvT hZ (hw _ (List.mem_of_getElem? (i := 96) rfl))) (mvT hZ (hw _ (List.mem_of_getElem? (i := 8) rfl))) (mvT hZ (hw _ (List.mem_of_getElem? (i := 97) rfl))) (by decide) (backOf (W := 0) (chk0_1 l Z a0 hw [] h0 n0 O0  z fm SC hz SA SH SL SF hfm ) hZ (hw _ (List.mem_of_getElem? (i := 97) rfl)) (hw _ (List.mem_of_getElem? (i := 8) rfl)) (by decide) (by decide)) (g := (mkF m 3 #[.val (.ref b), .val (.int (0 : Int32))] [(.int (1 : Int32)), (.int (0 : Int32))])) rfl (by rw [hml]; rfl) (argsL := [(.int (0 : Int32)), (.int (1 : Int32))]) (rest := []) (lenOf pd_3 rfl) rfl (by show 2 * 0 + _ ≤ _; exact Nat.le_of_eq rfl) (hb hby d20_3) (fun _ _ => ⟨rfl, e0, (by decide : 0 + 0 ≤ _), (by decide : 0 + 0 ≤ _)⟩)
  dsimp only [Pt.U, Pt.locs, Pt.cells, Pt.slots] at X102 l102 y102 z102 st102 hQ102
  subst l102 y102 z102
  obtain ⟨rfl, N102, eh102⟩ := hQ102
  have Nf102 := Fr.app N0 N102
  refine own_go (S' := (T102.setTop (mkF m 8 #[.val (.ref b), .val (.int (0 : Int32))] [(.int (0 : Int32)), (.ref b)]))) (fun tq kq => st102 tq (XS.aloadN X102.here hx rfl (hb hby d20_6) rfl rfl (XS.iloadN X102.here hx rfl (hb hby d20_7) rfl kq))) ?_
  obtain ⟨cl103, Ar103, -, -, hin103, hat103⟩ := Vb.at (j := (0 : Int32)) (v := (.int x)) (by decide) rfl
  refine own_go (S' := (T102.setTop (mkF m 14 #[.val (.ref b), .val (.int (0 : Int32))] [(.int ((x &&& (255 : Int32)).toUInt32.toUInt16.toUInt32.toInt32))]))) (fun tq kq => X102.baloadBytes hx (j := (0 : Int32)) (v := (.int x)) (by rw [eh102]; exact Ar103.1) (State.isArrayOf_alike hZ.alike Ar103.2.1) Ar103.2.2 hin103 hat103 (g := (mkF m 8 #[.val (.ref b), .val (.int (0 : Int32))] [(.int (0 : Int32)), (.ref b)])) rfl rfl (hb hby d20_8) tq (XS.sipush X102.here hx rfl (hb hby d20_9) (XS.iand X102.here hx rfl (hb hby d20_12) rfl (XS.i2c X102.here hx rfl (hb hby d20_13) rfl kq)))) ?_
  refine own_retN X102 hx hlk hret (by simp) (hb hby d20_14) (by decide) (by decide) ?_
  exact ⟨rfl, Nf102, eh102⟩
theorem pn_chat0_1_0 : plainName "java/lang/String" = true := by first | (simp [plainName, overriddenIn]; done) | decide +kernel
theorem ef_chat0_1_0 (m : MethodId) (a : Addr) (d : Addr) (kd : ClassId) (ch : Int32) (z : Int32) (fm : Value) : entryFrame m #[(.ref a), (.int (0 : Int32))] 2 = mkF m 0 #[.val (.ref a), .val (.int (0 : Int32))] [] := by first | (simp [entryFrame, mkF, argsToLocals, Value.category]; done) | rfl
def Q_chat0_1_0 (Z : State) (h0 : Heap) (n0 : Nat) (a : Addr) (d : Addr) (kd : ClassId) (ch : Int32) (z : Int32) (fm : Value) (v : Option Value) (h : Heap) (L : List Loc) : Prop := v = some (.int ch) ∧ Fr n0 L ∧ h = h0
set_option maxRecDepth 65536 in
set_option maxHeartbeats 40000000 in
theorem chat0_1_0 (l : Launch) (Z : State) (a0 : Array Value) (hw : ∀ d ∈ tables_1, d.before a0 Z = true) (ws : List Jvm.Cond) (h0 : Heap) (n0 : Nat) (O0 : Old Z n0 h0) (a : Addr) (d : Addr) (kd : ClassId) (ch : Int32) (z : Int32) (fm : Value) (SC : Sta Z Z.heap "java/lang/String" "COMPACT_STRINGS" "Z" (.int z)) (hz : ¬ (z = (0 : Int32))) (SA : Sta Z Z.heap "java/lang/StringUTF16" "$assertionsDisabled" "Z" (.int (1 : Int32))) (SH : Sta Z Z.heap "java/lang/StringUTF16" "HI_BYTE_SHIFT" "I" (.int (0 : Int32))) (SL : Sta Z Z.heap "java/lang/StringUTF16" "LO_BYTE_SHIFT" "I" (.int (8 : Int32))) (SF : Sta Z Z.heap "jdk/internal/util/Preconditions" "SIOOBE_FORMATTER" "Ljava/util/function/BiFunction;" fm) (hfm : fm.isRef = true) (Ea : Exa Z h0 a "java/lang/String") (Fc : Fld Z h0 a "java/lang/String" "coder" "B" (.int (0 : Int32))) (Fv : Fld Z h0 a "java/lang/String" "value" "[B" (.ref d)) (Vd : own_Ar Z h0 d kd .byte [(.int (own_lb ch))]) (hc0 : 0 ≤ ch.toInt) (hc1 : ch.toInt < 65536) (hcs : ¬ ((255 : Int32) < ch)) :
    MetFree l (⟨"java/lang/String", "charAt", "(I)C"⟩ : MethodName) (head1 (Jvm.Cond.code (⟨"java/lang/String", "charAt", "(I)C"⟩ : MethodName) jdk_42_method_56_code 2 (some .char) :: ws) ({ frames := 3, cells := 0, slots := 0, locals := 40 } : Room)) (fun aq U => aq = #[(.ref a), (.int (0 : Int32))] ∧ Z.Warmed39 U.vm ∧ U.heap = h0) (fun _ _ _ _ _ => True) (fun _ U oo U' => ∃ v L, oo = .returned v ∧ Q_chat0_1_0 Z h0 n0 a d kd ch z fm v U'.heap L ∧ FrameEnd U oo U' L ({ frames := 3, cells := 0, slots := 0, locals := 40 } : Room).cells ({ frames := 3, cells := 0, slots := 0, locals := 40 } : Room).slots) := by
  refine MetFree.of_bodySF (plainFor_of_name pn_chat0_1_0) hisR ?_
  intro p e s m args below meth c s₁ Bd hml0 hP hK
  obtain ⟨rfl, hZ, hh⟩ := hP
  have hx := Bd.exec
  have hby := Bd.bytes
  have hml : c.maxLocals = 2 := hml0
  have hown : s.vm.findClass "java/lang/String" = some m.cls := findClass_of_methodNamed Bd.named
  have hnm := (name_of_methodNamed Bd.named Bd.method).1
  have hlk := Bd.notSynchronized
  have hret := Bd.returns
  have X0 : Stand p l e ({ frames := 3, cells := 0, slots := 0, locals := 40 } : Room) s m #[(.ref a), (.int (0 : Int32))] below meth c s₁ [] 0 0 := Stand.of_body Bd
  have e0 : s₁.heap = h0 := by rw [← hh, Bd.state]; rfl
  have N0 := Fr.nil n0
  have K0 := Keep.refl h0 []
  refine own_go (S' := (s₁.setTop (mkF m 0 #[.val (.ref a), .val (.int (0 : Int32))] []))) (fun tq kq => castTop (ef_chat0_1_0 m a d kd ch z fm) kq) ?_
  show own_G p e s below (Q_chat0_1_0 Z h0 n0 a d kd ch z fm) _ _ _
  refine own_go (S' := (s₁.setTop (mkF m 1 #[.val (.ref a), .val (.int (0 : Int32))] [(.ref a)]))) (fun tq kq => XS.aloadN X0.here hx rfl (hb hby d18_0) rfl rfl kq) ?_
  obtain ⟨cq101, kq101, q101a, q101b, q101c⟩ := isOf hZ e0 Ea
  obtain ⟨_, _, ⟨T101, L101, k101, n101⟩, -, X101, ⟨Lc101, hQ101, l101, y101, z101⟩, st101⟩ := X0.virtualBack hx (y := (⟨"java/lang/String", "isLatin1", "()Z"⟩ : MethodName)) (z := (⟨"java/lang/String", "isLatin1", "()Z"⟩ : MethodName)) hown (mvT hZ (hw _ (List.mem_of_getElem? (i := 87) rfl))) (mvT hZ (hw _ (List.mem_of_getElem? (i := 88) rfl))) (notFace_of_selects (args := #[]) (mvT hZ (hw _ (List.mem_of_getElem? (i := 90) rfl)))) (mvT hZ (hw _ (List.mem_of_getElem? (i := 90) rfl))) (mvT hZ (hw _ (List.mem_of_getElem? (i := 89) rfl))) (by decide) (backOf (W := 0) (isl0 l Z a0 hw [] h0 n0 O0 a z fm SC hz SA SH SL SF hfm Fc) hZ (hw _ (List.mem_of_getElem? (i := 91) rfl)) (hw _ (List.mem_of_getElem? (i := 8) rfl)) (by decide) (by decide)) q101a q101c (g := (mkF m 1 #[.val (.ref a), .val (.int (0 : Int32))] [(.ref a)])) rfl (by rw [hml]; rfl) (Steps.refl _) (argsL := []) (rest := []) (lenOf pd_4 rfl) rfl (by show 2 * 0 + _ ≤ _; exact Nat.le_of_eq rfl) (hb hby d18_1) (fun _ _ => ⟨rfl, e0, (by decide : 0 + 0 ≤ _), (by decide : 0 + 0 ≤ _)⟩)
  dsimp only [Pt.U, Pt.locs, Pt.cells, Pt.slots] at X101 l101 y101 z101 st101 hQ101
  subst l101 y101 z101
  obtain ⟨rfl, N101, eh101⟩ := hQ101
  have Nf101 := Fr.app N0 N101
  refine own_go (S' := (T101.setTop (mkF m 8 #[.val (.ref a), .val (.int (0 : Int32))] [(.ref a)]))) (fun tq kq => st101.trans (XS.ifNo X101.here hx rfl (hb hby d18_4) rfl ((if0 _ _).trans (feq (by decide : ¬ ((1 : Int32) = (0 : Int32)))).1) (XS.aloadN X101.here hx rfl (hb hby d18_7) rfl rfl kq))) ?_
  obtain ⟨T102, X102, e102, st102⟩ := getF X101 hx hZ hown (host := "") (Or.inl (hw _ (List.mem_of_getElem? (i := 26) rfl))) Via.refl eh101 Fv (g := (mkF m 8 #[.val (.ref a), .val (.int (0 : Int32))] [(.ref a)])) rfl rfl (hb hby d18_8)
  refine own_go (S' := (T102.setTop (mkF m 12 #[.val (.ref a), .val (.int (0 : Int32))] [(.int (0 : Int32)), (.ref d)]))) (fun tq kq => st102 tq (XS.iloadN X102.here hx rfl (hb hby d18_11) rfl kq)) ?_
  obtain ⟨_, _, ⟨T103, L103, k103, n103⟩, -, X103, ⟨Lc103, hQ103, l103, y103, z103⟩, st103⟩ := Jvm.LawKit.callS X102 hx (y := (⟨"java/lang/StringLatin1", "charAt", "([BI)C"⟩ : MethodName)) hown (mvT hZ (hw _ (List.mem_of_getElem? (i := 92) rfl))) (mvT hZ (hw _ (List.mem_of_getElem? (i := 93) rfl))) (mvT hZ (hw _ (List.mem_of_getElem? (i := 73) rfl))) (mvT hZ (hw _ (List.mem_of_getElem? (i := 94) rfl))) (by decide) (backOf (W := 0) (lchar0_1 l Z a0 hw [] h0 n0 O0 d kd (own_lb ch) z fm SC hz SA SH SL SF hfm Vd) hZ (hw _ (List.mem_of_getElem? (i := 94) rfl)) (hw _ (List.mem_of_getElem? (i := 73) rfl)) (by decide) (by decide)) (g := (mkF m 12 #[.val (.ref a), .val (.int (0 : Int32))] [(.int (0 : Int32)), (.ref d)])) rfl (by rw [hml]; rfl) (argsL := [(.ref d), (.int (0 : Int32))]) (rest := []) (lenOf pd_5 rfl) rfl (by show 2 * 0 + _ ≤ _; exact Nat.le_of_eq rfl) (hb hby d18_12) (fun _ _ => ⟨rfl, e102, (by decide : 0 + 0 ≤ _), (by decide : 0 + 0 ≤ _)⟩)
  dsimp only [Pt.U, Pt.locs, Pt.cells, Pt.slots] at X103 l103 y103 z103 st103 hQ103
  subst l103 y103 z103
  obtain ⟨rfl, N103, eh103⟩ := hQ103
  have Nf103 := Fr.app Nf101 N103
  refine own_go (S' := (T103.setTop (mkF m 15 #[.val (.ref a), .val (.int (0 : Int32))] [(.int (own_l1 (own_lb ch)))]))) (fun tq kq => st103 tq kq) ?_
  refine own_retN X103 hx hlk hret (by simp) (hb hby d18_15) (by decide) (by decide) ?_
  have q1 := own_l1c hc0 hcs
  have q2 : nar .char (own_l1 (own_lb ch)) = ch := by rw [q1]; exact own_i2c hc0 hc1
  exact ⟨by rw [q2], Nf103, eh103⟩
theorem pn_isl1 : plainName "java/lang/String" = true := by first | (simp [plainName, overriddenIn]; done) | decide +kernel
theorem ef_isl1 (m : MethodId) (a : Addr) (z : Int32) (fm : Value) : entryFrame m #[(.ref a)] 1 = mkF m 0 #[.val (.ref a)] [] := by first | (simp [entryFrame, mkF, argsToLocals, Value.category]; done) | rfl
def Q_isl1 (Z : State) (h0 : Heap) (n0 : Nat) (a : Addr) (z : Int32) (fm : Value) (v : Option Value) (h : Heap) (L : List Loc) : Prop := v = some (.int (0 : Int32)) ∧ Fr n0 L ∧ h = h0
set_option maxRecDepth 65536 in
set_option maxHeartbeats 40000000 in
theorem isl1 (l : Launch) (Z : State) (a0 : Array Value) (hw : ∀ d ∈ tables_1, d.before a0 Z = true) (ws : List Jvm.Cond) (h0 : Heap) (n0 : Nat) (O0 : Old Z n0 h0) (a : Addr) (z : Int32) (fm : Value) (SC : Sta Z Z.heap "java/lang/String" "COMPACT_STRINGS" "Z" (.int z)) (hz : ¬ (z = (0 : Int32))) (SA : Sta Z Z.heap "java/lang/StringUTF16" "$assertionsDisabled" "Z" (.int (1 : Int32))) (SH : Sta Z Z.heap "java/lang/StringUTF16" "HI_BYTE_SHIFT" "I" (.int (0 : Int32))) (SL : Sta Z Z.heap "java/lang/StringUTF16" "LO_BYTE_SHIFT" "I" (.int (8 : Int32))) (SF : Sta Z Z.heap "jdk/internal/util/Preconditions" "SIOOBE_FORMATTER" "Ljava/util/function/BiFunction;" fm) (hfm : fm.isRef = true) (Fc : Fld Z h0 a "java/lang/String" "coder" "B" (.int (1 : Int32))) :
    MetFree l (⟨"java/lang/String", "isLatin1", "()Z"⟩ : MethodName) (head1 (Jvm.Cond.code (⟨"java/lang/String", "isLatin1", "()Z"⟩ : MethodName) jdk_42_method_154_code 1 (some .boolean) :: ws) ({ frames := 0, cells := 0, slots := 0, locals := 0 } : Room)) (fun aq U => aq = #[(.ref a)] ∧ Z.Warmed39 U.vm ∧ U.heap = h0) (fun _ _ _ _ _ => True) (fun _ U oo U' => ∃ v L, oo = .returned v ∧ Q_isl1 Z h0 n0 a z fm v U'.heap L ∧ FrameEnd U oo U' L ({ frames := 0, cells := 0, slots := 0, locals := 0 } : Room).cells ({ frames := 0, cells := 0, slots := 0, locals := 0 } : Room).slots) := by
  refine MetFree.of_bodySF (plainFor_of_name pn_isl1) hisR ?_
  intro p e s m args below meth c s₁ Bd hml0 hP hK
  obtain ⟨rfl, hZ, hh⟩ := hP
  have hx := Bd.exec
  have hby := Bd.bytes
  have hml : c.maxLocals = 1 := hml0
  have hown : s.vm.findClass "java/lang/String" = some m.cls := findClass_of_methodNamed Bd.named
  have hnm := (name_of_methodNamed Bd.named Bd.method).1
  have hlk := Bd.notSynchronized
  have hret := Bd.returns
  have X0 : Stand p l e ({ frames := 0, cells := 0, slots := 0, locals := 0 } : Room) s m #[(.ref a)] below meth c s₁ [] 0 0 := Stand.of_body Bd
  have e0 : s₁.heap = h0 := by rw [← hh, Bd.state]; rfl
  have N0 := Fr.nil n0
  have K0 := Keep.refl h0 []
  refine own_go (S' := (s₁.setTop (mkF m 0 #[.val (.ref a)] []))) (fun tq kq => castTop (ef_isl1 m a z fm) kq) ?_
  show own_G p e s below (Q_isl1 Z h0 n0 a z fm) _ _ _
  obtain ⟨T101, X101, e101, st101⟩ := getS2 X0 hx hZ hown (host := "") (Or.inl (hw _ (List.mem_of_getElem? (i := 42) rfl))) Via.refl e0 (SC.ext O0.2) (g := (mkF m 0 #[.val (.ref a)] [])) rfl (hb hby d19_0)
  refine own_go (S' := (T101.setTop (mkF m 7 #[.val (.ref a)] [(.ref a)]))) (fun tq kq => st101 tq (XS.ifNo X101.here hx rfl (hb hby d19_3) rfl ((if0 _ _).trans (feq hz).1) (XS.aloadN X101.here hx rfl (hb hby d19_6) rfl rfl kq))) ?_
  obtain ⟨T102, X102, e102, st102⟩ := getF X101 hx hZ hown (host := "") (Or.inl (hw _ (List.mem_of_getElem? (i := 27) rfl))) Via.refl e101 Fc (g := (mkF m 7 #[.val (.ref a)] [(.ref a)])) rfl rfl (hb hby d19_7)
  refine own_go (S' := (T102.setTop (mkF m 18 #[.val (.ref a)] [(.int (0 : Int32))]))) (fun tq kq => st102 tq (XS.ifYes X102.here hx rfl (pc0 := 10) (pc' := 17) rfl (hb hby d19_10) rfl ((if0 _ _).trans (feq (by decide : ¬ ((1 : Int32) = (0 : Int32)))).2) (by decide) (by decide) (XS.iconst X102.here hx rfl (hb hby d19_17) kq))) ?_
  refine own_retN X102 hx hlk hret (by simp) (hb hby d19_18) (by decide) (by decide) ?_
  exact ⟨rfl, N0, e102⟩
theorem pn_ul1 : plainName "java/lang/StringUTF16" = true := by first | (simp [plainName, overriddenIn]; done) | decide +kernel
theorem ef_ul1 (m : MethodId) (b : Addr) (kb : ClassId) (v0 : Value) (v1 : Value) (z : Int32) (fm : Value) : entryFrame m #[(.ref b)] 1 = mkF m 0 #[.val (.ref b)] [] := by first | (simp [entryFrame, mkF, argsToLocals, Value.category]; done) | rfl
def Q_ul1 (Z : State) (h0 : Heap) (n0 : Nat) (b : Addr) (kb : ClassId) (v0 : Value) (v1 : Value) (z : Int32) (fm : Value) (v : Option Value) (h : Heap) (L : List Loc) : Prop := v = some (.int (1 : Int32)) ∧ Fr n0 L ∧ h = h0
set_option maxRecDepth 65536 in
set_option maxHeartbeats 40000000 in
theorem ul1 (l : Launch) (Z : State) (a0 : Array Value) (hw : ∀ d ∈ tables_1, d.before a0 Z = true) (ws : List Jvm.Cond) (h0 : Heap) (n0 : Nat) (O0 : Old Z n0 h0) (b : Addr) (kb : ClassId) (v0 : Value) (v1 : Value) (z : Int32) (fm : Value) (SC : Sta Z Z.heap "java/lang/String" "COMPACT_STRINGS" "Z" (.int z)) (hz : ¬ (z = (0 : Int32))) (SA : Sta Z Z.heap "java/lang/StringUTF16" "$assertionsDisabled" "Z" (.int (1 : Int32))) (SH : Sta Z Z.heap "java/lang/StringUTF16" "HI_BYTE_SHIFT" "I" (.int (0 : Int32))) (SL : Sta Z Z.heap "java/lang/StringUTF16" "LO_BYTE_SHIFT" "I" (.int (8 : Int32))) (SF : Sta Z Z.heap "jdk/internal/util/Preconditions" "SIOOBE_FORMATTER" "Ljava/util/function/BiFunction;" fm) (hfm : fm.isRef = true) (Vb : own_Ar Z h0 b kb .byte [v0, v1]) :
    MetFree l (⟨"java/lang/StringUTF16", "length", "([B)I"⟩ : MethodName) (head1 (Jvm.Cond.code (⟨"java/lang/StringUTF16", "length", "([B)I"⟩ : MethodName) jdk_52_method_6_code 1 (some .int) :: ws) ({ frames := 0, cells := 0, slots := 0, locals := 0 } : Room)) (fun aq U => aq = #[(.ref b)] ∧ Z.Warmed39 U.vm ∧ U.heap = h0) (fun _ _ _ _ _ => True) (fun _ U oo U' => ∃ v L, oo = .returned v ∧ Q_ul1 Z h0 n0 b kb v0 v1 z fm v U'.heap L ∧ FrameEnd U oo U' L ({ frames := 0, cells := 0, slots := 0, locals := 0 } : Room).cells ({ frames := 0, cells := 0, slots := 0, locals := 0 } : Room).slots) := by
  refine MetFree.of_bodySF (plainFor_of_name pn_ul1) hisR ?_
  intro p e s m args below meth c s₁ Bd hml0 hP hK
  obtain ⟨rfl, hZ, hh⟩ := hP
  have hx := Bd.exec
  have hby := Bd.bytes
  have hml : c.maxLocals = 1 := hml0
  have hown : s.vm.findClass "java/lang/StringUTF16" = some m.cls := findClass_of_methodNamed Bd.named
  have hnm := (name_of_methodNamed Bd.named Bd.method).1
  have hlk := Bd.notSynchronized
  have hret := Bd.returns
  have X0 : Stand p l e ({ frames := 0, cells := 0, slots := 0, locals := 0 } : Room) s m #[(.ref b)] below meth c s₁ [] 0 0 := Stand.of_body Bd
  have e0 : s₁.heap = h0 := by rw [← hh, Bd.state]; rfl
  have N0 := Fr.nil n0
  have K0 := Keep.refl h0 []
  refine own_go (S' := (s₁.setTop (mkF m 0 #[.val (.ref b)] []))) (fun tq kq => castTop (ef_ul1 m b kb v0 v1 z fm) kq) ?_
  show own_G p e s below (Q_ul1 Z h0 n0 b kb v0 v1 z fm) _ _ _
  refine own_go (S' := (s₁.setTop (mkF m 1 #[.val (.ref b)] [(.ref b)]))) (fun tq kq => XS.aloadN X0.here hx rfl (hb hby d33_0) rfl rfl kq) ?_
  obtain ⟨cl101, Ar101, ln101⟩ := Vb.len
  have lq101 : cl101.slots.size.toInt32 = (2 : Int32) := ln101.trans rfl
  refine own_go (S' := (s₁.setTop (mkF m 4 #[.val (.ref b)] [(.int ((2 : Int32) >>> ((1 : Int32) &&& 31)))]))) (fun tq kq => X0.arraylength hx (by rw [e0]; exact Ar101.1) (State.isArrayOf_alike hZ.alike Ar101.2.1) (g := (mkF m 1 #[.val (.ref b)] [(.ref b)])) rfl rfl (hb hby d33_1) tq (by rw [lq101]; exact (XS.iconst X0.here hx rfl (hb hby d33_2) (XS.ishr X0.here hx rfl (hb hby d33_3) rfl kq)))) ?_
  rw [show ((2 : Int32) >>> ((1 : Int32) &&& 31)) = (1 : Int32) from by decide]
  refine own_retI X0 hx hlk hret (hb hby d33_4) (by decide) (by decide) ?_
  exact ⟨rfl, N0, e0⟩
theorem pn_uchk0_1 : plainName "java/lang/StringUTF16" = true := by first | (simp [plainName, overriddenIn]; done) | decide +kernel
theorem ef_uchk0_1 (m : MethodId) (b : Addr) (kb : ClassId) (v0 : Value) (v1 : Value) (z : Int32) (fm : Value) : entryFrame m #[(.int (0 : Int32)), (.ref b)] 2 = mkF m 0 #[.val (.int (0 : Int32)), .val (.ref b)] [] := by first | (simp [entryFrame, mkF, argsToLocals, Value.category]; done) | rfl
def Q_uchk0_1 (Z : State) (h0 : Heap) (n0 : Nat) (b : Addr) (kb : ClassId) (v0 : Value) (v1 : Value) (z : Int32) (fm : Value) (v : Option Value) (h : Heap) (L : List Loc) : Prop := v = none ∧ Fr n0 L ∧ h = h0
set_option maxRecDepth 65536 in
set_option maxHeartbeats 40000000 in
theorem uchk0_1 (l : Launch) (Z : State) (a0 : Array Value) (hw : ∀ d ∈ tables_1, d.before a0 Z = true) (ws : List Jvm.Cond) (h0 : Heap) (n0 : Nat) (O0 : Old Z n0 h0) (b : Addr) (kb : ClassId) (v0 : Value) (v1 : Value) (z : Int32) (fm : Value) (SC : Sta Z Z.heap "java/lang/String" "COMPACT_STRINGS" "Z" (.int z)) (hz : ¬ (z = (0 : Int32))) (SA : Sta Z Z.heap "java/lang/StringUTF16" "$assertionsDisabled" "Z" (.int (1 : Int32))) (SH : Sta Z Z.heap "java/lang/StringUTF16" "HI_BYTE_SHIFT" "I" (.int (0 : Int32))) (SL : Sta Z Z.heap "java/lang/StringUTF16" "LO_BYTE_SHIFT" "I" (.int (8 : Int32))) (SF : Sta Z Z.heap "jdk/internal/util/Preconditions" "SIOOBE_FORMATTER" "Ljava/util/function/BiFunction;" fm) (hfm : fm.isRef = true) (Vb : own_Ar Z h0 b kb .byte [v0, v1]) :
    MetFree l (⟨"java/lang/StringUTF16", "checkIndex", "(I[B)V"⟩ : MethodName) (head1 (Jvm.Cond.code (⟨"java/lang/StringUTF16", "checkIndex", "(I[B)V"⟩ : MethodName) jdk_52_method_91_code 2 none :: ws) ({ frames := 2, cells := 0, slots := 0, locals := 27 } : Room)) (fun aq U => aq = #[(.int (0 : Int32)), (.ref b)] ∧ Z.Warmed39 U.vm ∧ U.heap = h0) (fun _ _ _ _ _ => True) (fun _ U oo U' => ∃ v L, oo = .returned v ∧ Q_uchk0_1 Z h0 n0 b kb v0 v1 z fm v U'.heap L ∧ FrameEnd U oo U' L ({ frames := 2, cells := 0, slots := 0, locals := 27 } : Room).cells ({ frames := 2, cells := 0, slots := 0, locals := 27 } : Room).slots) := by
  refine MetFree.of_bodySF (plainFor_of_name pn_uchk0_1) hisR ?_
  intro p e s m args below meth c s₁ Bd hml0 hP hK
  obtain ⟨rfl, hZ, hh⟩ := hP
  have hx := Bd.exec
  have hby := Bd.bytes
  have hml : c.maxLocals = 2 := hml0
  have hown : s.vm.findClass "java/lang/StringUTF16" = some m.cls := findClass_of_methodNamed Bd.named
  have hnm := (name_of_methodNamed Bd.named Bd.method).1
  have hlk := Bd.notSynchronized
  have hret := Bd.returns
  have X0 : Stand p l e ({ frames := 2, cells := 0, slots := 0, locals := 27 } : Room) s m #[(.int (0 : Int32)), (.ref b)] below meth c s₁ [] 0 0 := Stand.of_body Bd
  have e0 : s₁.heap = h0 := by rw [← hh, Bd.state]; rfl
  have N0 := Fr.nil n0
  have K0 := Keep.refl h0 []
  refine own_go (S' := (s₁.setTop (mkF m 0 #[.val (.int (0 : Int32)), .val (.ref b)] []))) (fun tq kq => castTop (ef_uchk0_1 m b kb v0 v1 z fm) kq) ?_
  show own_G p e s below (Q_uchk0_1 Z h0 n0 b kb v0 v1 z fm) _ _ _
  refine own_go (S' := (s₁.setTop (mkF m 2 #[.val (.int (0 : Int32)), .val (.ref b)] [(.ref b), (.int (0 : Int32))]))) (fun tq kq => XS.iloadN X0.here hx rfl (hb hby d32_0) rfl (XS.aloadN X0.here hx rfl (hb hby d32_1) rfl rfl kq)) ?_
  obtain ⟨_, _, ⟨T101, L101, k101, n101⟩, -, X101, ⟨Lc101, hQ101, l101, y101, z101⟩, st101⟩ := Jvm.LawKit.callS X0 hx (y := (⟨"java/lang/StringUTF16", "length", "([B)I"⟩ : MethodName)) hown (mvT hZ (hw _ (List.mem_of_getElem? (i := 145) rfl))) (mvT hZ (hw _ (List.mem_of_getElem? (i := 146) rfl))) (mvT hZ (hw _ (List.mem_of_getElem? (i := 60) rfl))) (mvT hZ (hw _ (List.mem_of_getElem? (i := 147) rfl))) (by decide) (backOf (W := 1) (ul1 l Z a0 hw [] h0 n0 O0 b kb v0 v1 z fm SC hz SA SH SL SF hfm Vb) hZ (hw _ (List.mem_of_getElem? (i := 147) rfl)) (hw _ (List.mem_of_getElem? (i := 60) rfl)) (by decide) (by decide)) (g := (mkF m 2 #[.val (.int (0 : Int32)), .val (.ref b)] [(.ref b), (.int (0 : Int32))])) rfl (by rw [hml]; rfl) (argsL := [(.ref b)]) (rest := [(.int (0 : Int32))]) (lenOf pd_6 rfl) rfl (by show 2 * 0 + _ ≤ _; exact Nat.le_of_eq rfl) (hb hby d32_2) (fun _ _ => ⟨rfl, e0, (by decide : 0 + 0 ≤ _), (by decide : 0 + 0 ≤ _)⟩)
  dsimp only [Pt.U, Pt.locs, Pt.cells, Pt.slots] at X101 l101 y101 z101 st101 hQ101
  subst l101 y101 z101
  obtain ⟨rfl, N101, eh101⟩ := hQ101
  have Nf101 := Fr.app N0 N101
  refine own_go (S' := (T101.setTop (mkF m 5 #[.val (.int (0 : Int32)), .val (.ref b)] [(.int (1 : Int32)), (.int (0 : Int32))]))) (fun tq kq => st101 tq kq) ?_
  obtain ⟨_, _, ⟨T102, L102, k102, n102⟩, -, X102, ⟨Lc102, hQ102, l102, y102, z102⟩, st102⟩ := Jvm.LawKit.callS X101 hx (y := (⟨"java/lang/String", "checkIndex", "(II)V"⟩ : MethodName)) hown (mvT hZ (hw _ (List.mem_of_getElem? (i := 148) rfl))) (mvT hZ (hw _ (List.mem_of_getElem? (i := 96) rfl))) (mvT hZ (hw _ (List.mem_of_getElem? (i := 8) rfl))) (mvT hZ (hw _ (List.mem_of_getElem? (i := 97) rfl))) (by decide) (backOf (W := 0) (chk0_1 l Z a0 hw [] h0 n0 O0  z fm SC hz SA SH SL SF hfm ) hZ (hw _ (List.mem_of_getElem? (i := 97) rfl)) (hw _ (List.mem_of_getElem? (i := 8) rfl)) (by decide) (by decide)) (g := (mkF m 5 #[.val (.int (0 : Int32)), .val (.ref b)] [(.int (1 : Int32)), (.int (0 : Int32))])) rfl (by rw [hml]; rfl) (argsL := [(.int (0 : Int32)), (.int (1 : Int32))]) (rest := []) (lenOf pd_3 rfl) rfl (by show 2 * 0 + _ ≤ _; exact Nat.le_of_eq rfl) (hb hby d32_5) (fun _ _ => ⟨rfl, eh101, (by decide : 0 + 0 ≤ _), (by decide : 0 + 0 ≤ _)⟩)
  dsimp only [Pt.U, Pt.locs, Pt.cells, Pt.slots] at X102 l102 y102 z102 st102 hQ102
  subst l102 y102 z102
  obtain ⟨rfl, N102, eh102⟩ := hQ102
  have Nf102 := Fr.app Nf101 N102
  refine own_go (S' := (T102.setTop (mkF m 8 #[.val (.int (0 : Int32)), .val (.ref b)] []))) (fun tq kq => st102 tq kq) ?_
  refine own_retV X102 hx hlk hret (hb hby d32_8) (by decide) (by decide) ?_
  exact ⟨rfl, Nf102, eh102⟩
theorem pn_gch1_0 : plainName "java/lang/StringUTF16" = true := by first | (simp [plainName, overriddenIn]; done) | decide +kernel
theorem ef_gch1_0 (m : MethodId) (b : Addr) (kb : ClassId) (x : Int32) (y : Int32) (z : Int32) (fm : Value) : entryFrame m #[(.ref b), (.int (0 : Int32))] 2 = mkF m 0 #[.val (.ref b), .val (.int (0 : Int32))] [] := by first | (simp [entryFrame, mkF, argsToLocals, Value.category]; done) | rfl
def Q_gch1_0 (Z : State) (h0 : Heap) (n0 : Nat) (b : Addr) (kb : ClassId) (x : Int32) (y : Int32) (z : Int32) (fm : Value) (v : Option Value) (h : Heap) (L : List Loc) : Prop := v = some (.int (own_gc x y)) ∧ Fr n0 L ∧ h = h0
set_option maxRecDepth 65536 in
set_option maxHeartbeats 40000000 in
theorem gch1_0 (l : Launch) (Z : State) (a0 : Array Value) (hw : ∀ d ∈ tables_1, d.before a0 Z = true) (ws : List Jvm.Cond) (h0 : Heap) (n0 : Nat) (O0 : Old Z n0 h0) (b : Addr) (kb : ClassId) (x : Int32) (y : Int32) (z : Int32) (fm : Value) (SC : Sta Z Z.heap "java/lang/String" "COMPACT_STRINGS" "Z" (.int z)) (hz : ¬ (z = (0 : Int32))) (SA : Sta Z Z.heap "java/lang/StringUTF16" "$assertionsDisabled" "Z" (.int (1 : Int32))) (SH : Sta Z Z.heap "java/lang/StringUTF16" "HI_BYTE_SHIFT" "I" (.int (0 : Int32))) (SL : Sta Z Z.heap "java/lang/StringUTF16" "LO_BYTE_SHIFT" "I" (.int (8 : Int32))) (SF : Sta Z Z.heap "jdk/internal/util/Preconditions" "SIOOBE_FORMATTER" "Ljava/util/function/BiFunction;" fm) (hfm : fm.isRef = true) (Vb : own_Ar Z h0 b kb .byte [(.int x), (.int y)]) :
    MetFree l (⟨"java/lang/StringUTF16", "getChar", "([BI)C"⟩ : MethodName) (head1 (Jvm.Cond.code (⟨"java/lang/StringUTF16", "getChar", "([BI)C"⟩ : MethodName) jdk_52_method_5_code 2 (some .char) :: ws) ({ frames := 0, cells := 0, slots := 0, locals := 0 } : Room)) (fun aq U => aq = #[(.ref b), (.int (0 : Int32))] ∧ Z.Warmed39 U.vm ∧ U.heap = h0) (fun _ _ _ _ _ => True) (fun _ U oo U' => ∃ v L, oo = .returned v ∧ Q_gch1_0 Z h0 n0 b kb x y z fm v U'.heap L ∧ FrameEnd U oo U' L ({ frames := 0, cells := 0, slots := 0, locals := 0 } : Room).cells ({ frames := 0, cells := 0, slots := 0, locals := 0 } : Room).slots) := by
  refine MetFree.of_bodySF (plainFor_of_name pn_gch1_0) hisR ?_
  intro p e s m args below meth c s₁ Bd hml0 hP hK
  obtain ⟨rfl, hZ, hh⟩ := hP
  have hx := Bd.exec
  have hby := Bd.bytes
  have hml : c.maxLocals = 2 := hml0
  have hown : s.vm.findClass "java/lang/StringUTF16" = some m.cls := findClass_of_methodNamed Bd.named
  have hnm := (name_of_methodNamed Bd.named Bd.method).1
  have hlk := Bd.notSynchronized
  have hret := Bd.returns
  have X0 : Stand p l e ({ frames := 0, cells := 0, slots := 0, locals := 0 } : Room) s m #[(.ref b), (.int (0 : Int32))] below meth c s₁ [] 0 0 := Stand.of_body Bd
  have e0 : s₁.heap = h0 := by rw [← hh, Bd.state]; rfl
  have N0 := Fr.nil n0
  have K0 := Keep.refl h0 []
  refine own_go (S' := (s₁.setTop (mkF m 0 #[.val (.ref b), .val (.int (0 : Int32))] []))) (fun tq kq => castTop (ef_gch1_0 m b kb x y z fm) kq) ?_
  show own_G p e s below (Q_gch1_0 Z h0 n0 b kb x y z fm) _ _ _
  obtain ⟨T101, X101, e101, st101⟩ := getS2 X0 hx hZ hown (host := "") (Or.inl (hw _ (List.mem_of_getElem? (i := 130) rfl))) Via.refl e0 (SA.ext O0.2) (g := (mkF m 0 #[.val (.ref b), .val (.int (0 : Int32))] [])) rfl (hb hby d29_0)
  refine own_go (S' := (T101.setTop (mkF m 31 #[.val (.ref b), .val (.int (0 : Int32))] [(.int ((0 : Int32) <<< ((1 : Int32) &&& 31)))]))) (fun tq kq => st101 tq (XS.ifYes X101.here hx rfl (pc0 := 3) (pc' := 28) rfl (hb hby d29_3) rfl ((if0 _ _).trans (feq (by decide : ¬ ((1 : Int32) = (0 : Int32)))).2) (by decide) (by decide) (XS.iloadN X101.here hx rfl (hb hby d29_28) rfl (XS.iconst X101.here hx rfl (hb hby d29_29) (XS.ishl X101.here hx rfl (hb hby d29_30) rfl kq))))) ?_
  rw [show ((0 : Int32) <<< ((1 : Int32) &&& 31)) = (0 : Int32) from by decide]
  refine own_go (S' := (T101.setTop (mkF m 37 #[.val (.ref b), .val (.int (1 : Int32))] [(.int (0 : Int32)), (.ref b)]))) (fun tq kq => XS.istoreN X101.here hx rfl (hb hby d29_31) rfl (l' := #[.val (.ref b), .val (.int (0 : Int32))]) rfl (XS.aloadN X101.here hx rfl (hb hby d29_32) rfl rfl (XS.iloadN X101.here hx rfl (hb hby d29_33) rfl (XS.iinc X101.here hx rfl (hb hby d29_34) rfl (l' := #[.val (.ref b), .val (.int (1 : Int32))]) rfl kq)))) ?_
  obtain ⟨cl102, Ar102, -, -, hin102, hat102⟩ := Vb.at (j := (0 : Int32)) (v := (.int x)) (by decide) rfl
  refine own_go (S' := (T101.setTop (mkF m 42 #[.val (.ref b), .val (.int (1 : Int32))] [(.int (x &&& (255 : Int32)))]))) (fun tq kq => X101.baloadBytes hx (j := (0 : Int32)) (v := (.int x)) (by rw [e101]; exact Ar102.1) (State.isArrayOf_alike hZ.alike Ar102.2.1) Ar102.2.2 hin102 hat102 (g := (mkF m 37 #[.val (.ref b), .val (.int (1 : Int32))] [(.int (0 : Int32)), (.ref b)])) rfl rfl (hb hby d29_37) tq (XS.sipush X101.here hx rfl (hb hby d29_38) (XS.iand X101.here hx rfl (hb hby d29_41) rfl kq))) ?_
  obtain ⟨T103, X103, e103, st103⟩ := getS2 X101 hx hZ hown (host := "") (Or.inl (hw _ (List.mem_of_getElem? (i := 131) rfl))) Via.refl e101 (SH.ext O0.2) (g := (mkF m 42 #[.val (.ref b), .val (.int (1 : Int32))] [(.int (x &&& (255 : Int32)))])) rfl (hb hby d29_42)
  refine own_go (S' := (T103.setTop (mkF m 48 #[.val (.ref b), .val (.int (1 : Int32))] [(.int (1 : Int32)), (.ref b), (.int ((x &&& (255 : Int32)) <<< ((0 : Int32) &&& 31)))]))) (fun tq kq => st103 tq (XS.ishl X103.here hx rfl (hb hby d29_45) rfl (XS.aloadN X103.here hx rfl (hb hby d29_46) rfl rfl (XS.iloadN X103.here hx rfl (hb hby d29_47) rfl kq)))) ?_
  obtain ⟨cl104, Ar104, -, -, hin104, hat104⟩ := Vb.at (j := (1 : Int32)) (v := (.int y)) (by decide) rfl
  refine own_go (S' := (T103.setTop (mkF m 53 #[.val (.ref b), .val (.int (1 : Int32))] [(.int (y &&& (255 : Int32))), (.int ((x &&& (255 : Int32)) <<< ((0 : Int32) &&& 31)))]))) (fun tq kq => X103.baloadBytes hx (j := (1 : Int32)) (v := (.int y)) (by rw [e103]; exact Ar104.1) (State.isArrayOf_alike hZ.alike Ar104.2.1) Ar104.2.2 hin104 hat104 (g := (mkF m 48 #[.val (.ref b), .val (.int (1 : Int32))] [(.int (1 : Int32)), (.ref b), (.int ((x &&& (255 : Int32)) <<< ((0 : Int32) &&& 31)))])) rfl rfl (hb hby d29_48) tq (XS.sipush X103.here hx rfl (hb hby d29_49) (XS.iand X103.here hx rfl (hb hby d29_52) rfl kq))) ?_
  obtain ⟨T105, X105, e105, st105⟩ := getS2 X103 hx hZ hown (host := "") (Or.inl (hw _ (List.mem_of_getElem? (i := 132) rfl))) Via.refl e103 (SL.ext O0.2) (g := (mkF m 53 #[.val (.ref b), .val (.int (1 : Int32))] [(.int (y &&& (255 : Int32))), (.int ((x &&& (255 : Int32)) <<< ((0 : Int32) &&& 31)))])) rfl (hb hby d29_53)
  refine own_go (S' := (T105.setTop (mkF m 59 #[.val (.ref b), .val (.int (1 : Int32))] [(.int ((((x &&& (255 : Int32)) <<< ((0 : Int32) &&& 31)) ||| ((y &&& (255 : Int32)) <<< ((8 : Int32) &&& 31))).toUInt32.toUInt16.toUInt32.toInt32))]))) (fun tq kq => st105 tq (XS.ishl X105.here hx rfl (hb hby d29_56) rfl (XS.ior X105.here hx rfl (hb hby d29_57) rfl (XS.i2c X105.here hx rfl (hb hby d29_58) rfl kq)))) ?_
  refine own_retN X105 hx hlk hret (by simp) (hb hby d29_59) (by decide) (by decide) ?_
  exact ⟨rfl, N0, e105⟩
theorem pn_uchar0_1 : plainName "java/lang/StringUTF16" = true := by first | (simp [plainName, overriddenIn]; done) | decide +kernel
theorem ef_uchar0_1 (m : MethodId) (b : Addr) (kb : ClassId) (x : Int32) (y : Int32) (z : Int32) (fm : Value) : entryFrame m #[(.ref b), (.int (0 : Int32))] 2 = mkF m 0 #[.val (.ref b), .val (.int (0 : Int32))] [] := by first | (simp [entryFrame, mkF, argsToLocals, Value.category]; done) | rfl
def Q_uchar0_1 (Z : State) (h0 : Heap) (n0 : Nat) (b : Addr) (kb : ClassId) (x : Int32) (y : Int32) (z : Int32) (fm : Value) (v : Option Value) (h : Heap) (L : List Loc) : Prop := v = some (.int (nar .char (own_gc x y))) ∧ Fr n0 L ∧ h = h0
set_option maxRecDepth 65536 in
set_option maxHeartbeats 40000000 in
theorem uchar0_1 (l : Launch) (Z : State) (a0 : Array Value) (hw : ∀ d ∈ tables_1, d.before a0 Z = true) (ws : List Jvm.Cond) (h0 : Heap) (n0 : Nat) (O0 : Old Z n0 h0) (b : Addr) (kb : ClassId) (x : Int32) (y : Int32) (z : Int32) (fm : Value) (SC : Sta Z Z.heap "java/lang/String" "COMPACT_STRINGS" "Z" (.int z)) (hz : ¬ (z = (0 : Int32))) (SA : Sta Z Z.heap "java/lang/StringUTF16" "$assertionsDisabled" "Z" (.int (1 : Int32))) (SH : Sta Z Z.heap "java/lang/StringUTF16" "HI_BYTE_SHIFT" "I" (.int (0 : Int32))) (SL : Sta Z Z.heap "java/lang/StringUTF16" "LO_BYTE_SHIFT" "I" (.int (8 : Int32))) (SF : Sta Z Z.heap "jdk/internal/util/Preconditions" "SIOOBE_FORMATTER" "Ljava/util/function/BiFunction;" fm) (hfm : fm.isRef = true) (Vb : own_Ar Z h0 b kb .byte [(.int x), (.int y)]) :
    MetFree l (⟨"java/lang/StringUTF16", "charAt", "([BI)C"⟩ : MethodName) (head1 (Jvm.Cond.code (⟨"java/lang/StringUTF16", "charAt", "([BI)C"⟩ : MethodName) jdk_52_method_83_code 2 (some .char) :: ws) ({ frames := 3, cells := 0, slots := 0, locals := 40 } : Room)) (fun aq U => aq = #[(.ref b), (.int (0 : Int32))] ∧ Z.Warmed39 U.vm ∧ U.heap = h0) (fun _ _ _ _ _ => True) (fun _ U oo U' => ∃ v L, oo = .returned v ∧ Q_uchar0_1 Z h0 n0 b kb x y z fm v U'.heap L ∧ FrameEnd U oo U' L ({ frames := 3, cells := 0, slots := 0, locals := 40 } : Room).cells ({ frames := 3, cells := 0, slots := 0, locals := 40 } : Room).slots) := by
  refine MetFree.of_bodySF (plainFor_of_name pn_uchar0_1) hisR ?_
  intro p e s m args below meth c s₁ Bd hml0 hP hK
  obtain ⟨rfl, hZ, hh⟩ := hP
  have hx := Bd.exec
  have hby := Bd.bytes
  have hml : c.maxLocals = 2 := hml0
  have hown : s.vm.findClass "java/lang/StringUTF16" = some m.cls := findClass_of_methodNamed Bd.named
  have hnm := (name_of_methodNamed Bd.named Bd.method).1
  have hlk := Bd.notSynchronized
  have hret := Bd.returns
  have X0 : Stand p l e ({ frames := 3, cells := 0, slots := 0, locals := 40 } : Room) s m #[(.ref b), (.int (0 : Int32))] below meth c s₁ [] 0 0 := Stand.of_body Bd
  have e0 : s₁.heap = h0 := by rw [← hh, Bd.state]; rfl
  have N0 := Fr.nil n0
  have K0 := Keep.refl h0 []
  refine own_go (S' := (s₁.setTop (mkF m 0 #[.val (.ref b), .val (.int (0 : Int32))] []))) (fun tq kq => castTop (ef_uchar0_1 m b kb x y z fm) kq) ?_
  show own_G p e s below (Q_uchar0_1 Z h0 n0 b kb x y z fm) _ _ _
  refine own_go (S' := (s₁.setTop (mkF m 2 #[.val (.ref b), .val (.int (0 : Int32))] [(.ref b), (.int (0 : Int32))]))) (fun tq kq => XS.iloadN X0.here hx rfl (hb hby d31_0) rfl (XS.aloadN X0.here hx rfl (hb hby d31_1) rfl rfl kq)) ?_
  obtain ⟨_, _, ⟨T101, L101, k101, n101⟩, -, X101, ⟨Lc101, hQ101, l101, y101, z101⟩, st101⟩ := Jvm.LawKit.callS X0 hx (y := (⟨"java/lang/StringUTF16", "checkIndex", "(I[B)V"⟩ : MethodName)) hown (mvT hZ (hw _ (List.mem_of_getElem? (i := 142) rfl))) (mvT hZ (hw _ (List.mem_of_getElem? (i := 143) rfl))) (mvT hZ (hw _ (List.mem_of_getElem? (i := 60) rfl))) (mvT hZ (hw _ (List.mem_of_getElem? (i := 144) rfl))) (by decide) (backOf (W := 0) (uchk0_1 l Z a0 hw [] h0 n0 O0 b kb (.int x) (.int y) z fm SC hz SA SH SL SF hfm Vb) hZ (hw _ (List.mem_of_getElem? (i := 144) rfl)) (hw _ (List.mem_of_getElem? (i := 60) rfl)) (by decide) (by decide)) (g := (mkF m 2 #[.val (.ref b), .val (.int (0 : Int32))] [(.ref b), (.int (0 : Int32))])) rfl (by rw [hml]; rfl) (argsL := [(.int (0 : Int32)), (.ref b)]) (rest := []) (lenOf pd_7 rfl) rfl (by show 2 * 0 + _ ≤ _; exact Nat.le_of_eq rfl) (hb hby d31_2) (fun _ _ => ⟨rfl, e0, (by decide : 0 + 0 ≤ _), (by decide : 0 + 0 ≤ _)⟩)
  dsimp only [Pt.U, Pt.locs, Pt.cells, Pt.slots] at X101 l101 y101 z101 st101 hQ101
  subst l101 y101 z101
  obtain ⟨rfl, N101, eh101⟩ := hQ101
  have Nf101 := Fr.app N0 N101
  refine own_go (S' := (T101.setTop (mkF m 7 #[.val (.ref b), .val (.int (0 : Int32))] [(.int (0 : Int32)), (.ref b)]))) (fun tq kq => st101 tq (XS.aloadN X101.here hx rfl (hb hby d31_5) rfl rfl (XS.iloadN X101.here hx rfl (hb hby d31_6) rfl kq))) ?_
  obtain ⟨_, _, ⟨T102, L102, k102, n102⟩, -, X102, ⟨Lc102, hQ102, l102, y102, z102⟩, st102⟩ := Jvm.LawKit.callS X101 hx (y := (⟨"java/lang/StringUTF16", "getChar", "([BI)C"⟩ : MethodName)) hown (mvT hZ (hw _ (List.mem_of_getElem? (i := 133) rfl))) (mvT hZ (hw _ (List.mem_of_getElem? (i := 134) rfl))) (mvT hZ (hw _ (List.mem_of_getElem? (i := 60) rfl))) (mvT hZ (hw _ (List.mem_of_getElem? (i := 135) rfl))) (by decide) (backOf (W := 0) (gch1_0 l Z a0 hw [] h0 n0 O0 b kb x y z fm SC hz SA SH SL SF hfm Vb) hZ (hw _ (List.mem_of_getElem? (i := 135) rfl)) (hw _ (List.mem_of_getElem? (i := 60) rfl)) (by decide) (by decide)) (g := (mkF m 7 #[.val (.ref b), .val (.int (0 : Int32))] [(.int (0 : Int32)), (.ref b)])) rfl (by rw [hml]; rfl) (argsL := [(.ref b), (.int (0 : Int32))]) (rest := []) (lenOf pd_5 rfl) rfl (by show 2 * 0 + _ ≤ _; exact Nat.le_of_eq rfl) (hb hby d31_7) (fun _ _ => ⟨rfl, eh101, (by decide : 0 + 0 ≤ _), (by decide : 0 + 0 ≤ _)⟩)
  dsimp only [Pt.U, Pt.locs, Pt.cells, Pt.slots] at X102 l102 y102 z102 st102 hQ102
  subst l102 y102 z102
  obtain ⟨rfl, N102, eh102⟩ := hQ102
  have Nf102 := Fr.app Nf101 N102
  refine own_go (S' := (T102.setTop (mkF m 10 #[.val (.ref b), .val (.int (0 : Int32))] [(.int (own_gc x y))]))) (fun tq kq => st102 tq kq) ?_
  refine own_retN X102 hx hlk hret (by simp) (hb hby d31_10) (by decide) (by decide) ?_
  exact ⟨rfl, Nf102, eh102⟩
theorem pn_chat0_1_1 : plainName "java/lang/String" = true := by first | (simp [plainName, overriddenIn]; done) | decide +kernel
theorem ef_chat0_1_1 (m : MethodId) (a : Addr) (d : Addr) (kd : ClassId) (ch : Int32) (z : Int32) (fm : Value) : entryFrame m #[(.ref a), (.int (0 : Int32))] 2 = mkF m 0 #[.val (.ref a), .val (.int (0 : Int32))] [] := by first | (simp [entryFrame, mkF, argsToLocals, Value.category]; done) | rfl
def Q_chat0_1_1 (Z : State) (h0 : Heap) (n0 : Nat) (a : Addr) (d : Addr) (kd : ClassId) (ch : Int32) (z : Int32) (fm : Value) (v : Option Value) (h : Heap) (L : List Loc) : Prop := v = some (.int ch) ∧ Fr n0 L ∧ h = h0
set_option maxRecDepth 65536 in
set_option maxHeartbeats 40000000 in
theorem chat0_1_1 (l : Launch) (Z : State) (a0 : Array Value) (hw : ∀ d ∈ tables_1, d.before a0 Z = true) (ws : List Jvm.Cond) (h0 : Heap) (n0 : Nat) (O0 : Old Z n0 h0) (a : Addr) (d : Addr) (kd : ClassId) (ch : Int32) (z : Int32) (fm : Value) (SC : Sta Z Z.heap "java/lang/String" "COMPACT_STRINGS" "Z" (.int z)) (hz : ¬ (z = (0 : Int32))) (SA : Sta Z Z.heap "java/lang/StringUTF16" "$assertionsDisabled" "Z" (.int (1 : Int32))) (SH : Sta Z Z.heap "java/lang/StringUTF16" "HI_BYTE_SHIFT" "I" (.int (0 : Int32))) (SL : Sta Z Z.heap "java/lang/StringUTF16" "LO_BYTE_SHIFT" "I" (.int (8 : Int32))) (SF : Sta Z Z.heap "jdk/internal/util/Preconditions" "SIOOBE_FORMATTER" "Ljava/util/function/BiFunction;" fm) (hfm : fm.isRef = true) (Ea : Exa Z h0 a "java/lang/String") (Fc : Fld Z h0 a "java/lang/String" "coder" "B" (.int (1 : Int32))) (Fv : Fld Z h0 a "java/lang/String" "value" "[B" (.ref d)) (Vd : own_Ar Z h0 d kd .byte [(.int (own_b0 ch)), (.int (own_b1 ch))]) (hc0 : 0 ≤ ch.toInt) (hc1 : ch.toInt < 65536) :
    MetFree l (⟨"java/lang/String", "charAt", "(I)C"⟩ : MethodName) (head1 (Jvm.Cond.code (⟨"java/lang/String", "charAt", "(I)C"⟩ : MethodName) jdk_42_method_56_code 2 (some .char) :: ws) ({ frames := 4, cells := 0, slots := 0, locals := 53 } : Room)) (fun aq U => aq = #[(.ref a), (.int (0 : Int32))] ∧ Z.Warmed39 U.vm ∧ U.heap = h0) (fun _ _ _ _ _ => True) (fun _ U oo U' => ∃ v L, oo = .returned v ∧ Q_chat0_1_1 Z h0 n0 a d kd ch z fm v U'.heap L ∧ FrameEnd U oo U' L ({ frames := 4, cells := 0, slots := 0, locals := 53 } : Room).cells ({ frames := 4, cells := 0, slots := 0, locals := 53 } : Room).slots) := by
  refine MetFree.of_bodySF (plainFor_of_name pn_chat0_1_1) hisR ?_
  intro p e s m args below meth c s₁ Bd hml0 hP hK
  obtain ⟨rfl, hZ, hh⟩ := hP
  have hx := Bd.exec
  have hby := Bd.bytes
  have hml : c.maxLocals = 2 := hml0
  have hown : s.vm.findClass "java/lang/String" = some m.cls := findClass_of_methodNamed Bd.named
  have hnm := (name_of_methodNamed Bd.named Bd.method).1
  have hlk := Bd.notSynchronized
  have hret := Bd.returns
  have X0 : Stand p l e ({ frames := 4, cells := 0, slots := 0, locals := 53 } : Room) s m #[(.ref a), (.int (0 : Int32))] below meth c s₁ [] 0 0 := Stand.of_body Bd
  have e0 : s₁.heap = h0 := by rw [← hh, Bd.state]; rfl
  have N0 := Fr.nil n0
  have K0 := Keep.refl h0 []
  refine own_go (S' := (s₁.setTop (mkF m 0 #[.val (.ref a), .val (.int (0 : Int32))] []))) (fun tq kq => castTop (ef_chat0_1_1 m a d kd ch z fm) kq) ?_
  show own_G p e s below (Q_chat0_1_1 Z h0 n0 a d kd ch z fm) _ _ _
  refine own_go (S' := (s₁.setTop (mkF m 1 #[.val (.ref a), .val (.int (0 : Int32))] [(.ref a)]))) (fun tq kq => XS.aloadN X0.here hx rfl (hb hby d18_0) rfl rfl kq) ?_
  obtain ⟨cq101, kq101, q101a, q101b, q101c⟩ := isOf hZ e0 Ea
  obtain ⟨_, _, ⟨T101, L101, k101, n101⟩, -, X101, ⟨Lc101, hQ101, l101, y101, z101⟩, st101⟩ := X0.virtualBack hx (y := (⟨"java/lang/String", "isLatin1", "()Z"⟩ : MethodName)) (z := (⟨"java/lang/String", "isLatin1", "()Z"⟩ : MethodName)) hown (mvT hZ (hw _ (List.mem_of_getElem? (i := 87) rfl))) (mvT hZ (hw _ (List.mem_of_getElem? (i := 88) rfl))) (notFace_of_selects (args := #[]) (mvT hZ (hw _ (List.mem_of_getElem? (i := 90) rfl)))) (mvT hZ (hw _ (List.mem_of_getElem? (i := 90) rfl))) (mvT hZ (hw _ (List.mem_of_getElem? (i := 89) rfl))) (by decide) (backOf (W := 0) (isl1 l Z a0 hw [] h0 n0 O0 a z fm SC hz SA SH SL SF hfm Fc) hZ (hw _ (List.mem_of_getElem? (i := 91) rfl)) (hw _ (List.mem_of_getElem? (i := 8) rfl)) (by decide) (by decide)) q101a q101c (g := (mkF m 1 #[.val (.ref a), .val (.int (0 : Int32))] [(.ref a)])) rfl (by rw [hml]; rfl) (Steps.refl _) (argsL := []) (rest := []) (lenOf pd_4 rfl) rfl (by show 2 * 0 + _ ≤ _; exact Nat.le_of_eq rfl) (hb hby d18_1) (fun _ _ => ⟨rfl, e0, (by decide : 0 + 0 ≤ _), (by decide : 0 + 0 ≤ _)⟩)
  dsimp only [Pt.U, Pt.locs, Pt.cells, Pt.slots] at X101 l101 y101 z101 st101 hQ101
  subst l101 y101 z101
  obtain ⟨rfl, N101, eh101⟩ := hQ101
  have Nf101 := Fr.app N0 N101
  refine own_go (S' := (T101.setTop (mkF m 17 #[.val (.ref a), .val (.int (0 : Int32))] [(.ref a)]))) (fun tq kq => st101.trans (XS.ifYes X101.here hx rfl (pc0 := 4) (pc' := 16) rfl (hb hby d18_4) rfl ((if0 _ _).trans (teq (by decide : (0 : Int32) = (0 : Int32))).1) (by decide) (by decide) (XS.aloadN X101.here hx rfl (hb hby d18_16) rfl rfl kq))) ?_
  obtain ⟨T102, X102, e102, st102⟩ := getF X101 hx hZ hown (host := "") (Or.inl (hw _ (List.mem_of_getElem? (i := 26) rfl))) Via.refl eh101 Fv (g := (mkF m 17 #[.val (.ref a), .val (.int (0 : Int32))] [(.ref a)])) rfl rfl (hb hby d18_17)
  refine own_go (S' := (T102.setTop (mkF m 21 #[.val (.ref a), .val (.int (0 : Int32))] [(.int (0 : Int32)), (.ref d)]))) (fun tq kq => st102 tq (XS.iloadN X102.here hx rfl (hb hby d18_20) rfl kq)) ?_
  obtain ⟨_, _, ⟨T103, L103, k103, n103⟩, -, X103, ⟨Lc103, hQ103, l103, y103, z103⟩, st103⟩ := Jvm.LawKit.callS X102 hx (y := (⟨"java/lang/StringUTF16", "charAt", "([BI)C"⟩ : MethodName)) hown (mvT hZ (hw _ (List.mem_of_getElem? (i := 139) rfl))) (mvT hZ (hw _ (List.mem_of_getElem? (i := 140) rfl))) (mvT hZ (hw _ (List.mem_of_getElem? (i := 60) rfl))) (mvT hZ (hw _ (List.mem_of_getElem? (i := 141) rfl))) (by decide) (backOf (W := 0) (uchar0_1 l Z a0 hw [] h0 n0 O0 d kd (own_b0 ch) (own_b1 ch) z fm SC hz SA SH SL SF hfm Vd) hZ (hw _ (List.mem_of_getElem? (i := 141) rfl)) (hw _ (List.mem_of_getElem? (i := 60) rfl)) (by decide) (by decide)) (g := (mkF m 21 #[.val (.ref a), .val (.int (0 : Int32))] [(.int (0 : Int32)), (.ref d)])) rfl (by rw [hml]; rfl) (argsL := [(.ref d), (.int (0 : Int32))]) (rest := []) (lenOf pd_5 rfl) rfl (by show 2 * 0 + _ ≤ _; exact Nat.le_of_eq rfl) (hb hby d18_21) (fun _ _ => ⟨rfl, e102, (by decide : 0 + 0 ≤ _), (by decide : 0 + 0 ≤ _)⟩)
  dsimp only [Pt.U, Pt.locs, Pt.cells, Pt.slots] at X103 l103 y103 z103 st103 hQ103
  subst l103 y103 z103
  obtain ⟨rfl, N103, eh103⟩ := hQ103
  have Nf103 := Fr.app Nf101 N103
  refine own_go (S' := (T103.setTop (mkF m 24 #[.val (.ref a), .val (.int (0 : Int32))] [(.int (nar .char (own_gc (own_b0 ch) (own_b1 ch))))]))) (fun tq kq => st103 tq kq) ?_
  refine own_retN X103 hx hlk hret (by simp) (hb hby d18_24) (by decide) (by decide) ?_
  have q1 := own_gcc hc0 hc1
  have q2 : nar .char (nar .char (own_gc (own_b0 ch) (own_b1 ch))) = ch := by rw [q1]; show (ch.toUInt32.toUInt16.toUInt32.toInt32).toUInt32.toUInt16.toUInt32.toInt32 = ch; rw [own_i2c hc0 hc1, own_i2c hc0 hc1]
  exact ⟨by rw [q2], Nf103, eh103⟩
theorem pn_can : plainName "java/lang/StringLatin1" = true := by first | (simp [plainName, overriddenIn]; done) | decide +kernel
theorem ef_can (m : MethodId) (ch : Int32) (z : Int32) (fm : Value) : entryFrame m #[(.int ch)] 1 = mkF m 0 #[.val (.int ch)] [] := by first | (simp [entryFrame, mkF, argsToLocals, Value.category]; done) | rfl
def Q_can (Z : State) (h0 : Heap) (n0 : Nat) (ch : Int32) (z : Int32) (fm : Value) (v : Option Value) (h : Heap) (L : List Loc) : Prop := v = some (.int (own_can ch)) ∧ Fr n0 L ∧ h = h0
set_option maxRecDepth 65536 in
set_option maxHeartbeats 40000000 in
theorem can (l : Launch) (Z : State) (a0 : Array Value) (hw : ∀ d ∈ tables_1, d.before a0 Z = true) (ws : List Jvm.Cond) (h0 : Heap) (n0 : Nat) (O0 : Old Z n0 h0) (ch : Int32) (z : Int32) (fm : Value) (SC : Sta Z Z.heap "java/lang/String" "COMPACT_STRINGS" "Z" (.int z)) (hz : ¬ (z = (0 : Int32))) (SA : Sta Z Z.heap "java/lang/StringUTF16" "$assertionsDisabled" "Z" (.int (1 : Int32))) (SH : Sta Z Z.heap "java/lang/StringUTF16" "HI_BYTE_SHIFT" "I" (.int (0 : Int32))) (SL : Sta Z Z.heap "java/lang/StringUTF16" "LO_BYTE_SHIFT" "I" (.int (8 : Int32))) (SF : Sta Z Z.heap "jdk/internal/util/Preconditions" "SIOOBE_FORMATTER" "Ljava/util/function/BiFunction;" fm) (hfm : fm.isRef = true) :
    MetFree l (⟨"java/lang/StringLatin1", "canEncode", "(C)Z"⟩ : MethodName) (head1 (Jvm.Cond.code (⟨"java/lang/StringLatin1", "canEncode", "(C)Z"⟩ : MethodName) jdk_43_method_3_code 1 (some .boolean) :: ws) ({ frames := 0, cells := 0, slots := 0, locals := 0 } : Room)) (fun aq U => aq = #[(.int ch)] ∧ Z.Warmed39 U.vm ∧ U.heap = h0) (fun _ _ _ _ _ => True) (fun _ U oo U' => ∃ v L, oo = .returned v ∧ Q_can Z h0 n0 ch z fm v U'.heap L ∧ FrameEnd U oo U' L ({ frames := 0, cells := 0, slots := 0, locals := 0 } : Room).cells ({ frames := 0, cells := 0, slots := 0, locals := 0 } : Room).slots) := by
  refine MetFree.of_bodySF (plainFor_of_name pn_can) hisR ?_
  intro p e s m args below meth c s₁ Bd hml0 hP hK
  obtain ⟨rfl, hZ, hh⟩ := hP
  have hx := Bd.exec
  have hby := Bd.bytes
  have hml : c.maxLocals = 1 := hml0
  have hown : s.vm.findClass "java/lang/StringLatin1" = some m.cls := findClass_of_methodNamed Bd.named
  have hnm := (name_of_methodNamed Bd.named Bd.method).1
  have hlk := Bd.notSynchronized
  have hret := Bd.returns
  have X0 : Stand p l e ({ frames := 0, cells := 0, slots := 0, locals := 0 } : Room) s m #[(.int ch)] below meth c s₁ [] 0 0 := Stand.of_body Bd
  have e0 : s₁.heap = h0 := by rw [← hh, Bd.state]; rfl
  have N0 := Fr.nil n0
  have K0 := Keep.refl h0 []
  refine own_go (S' := (s₁.setTop (mkF m 0 #[.val (.int ch)] []))) (fun tq kq => castTop (ef_can m ch z fm) kq) ?_
  show own_G p e s below (Q_can Z h0 n0 ch z fm) _ _ _
  refine own_go (S' := (s₁.setTop (mkF m 4 #[.val (.int ch)] [(.int (255 : Int32)), (.int ch)]))) (fun tq kq => XS.iloadN X0.here hx rfl (hb hby d15_0) rfl (XS.sipush X0.here hx rfl (hb hby d15_1) kq)) ?_
  by_cases hc101 : (255 : Int32) < ch
  · refine own_go (S' := (s₁.setTop (mkF m 12 #[.val (.int ch)] [(.int (0 : Int32))]))) (fun tq kq => XS.icmpYes X0.here hx rfl (pc0 := 4) (pc' := 11) rfl (hb hby d15_4) rfl (tlt hc101).2.2.1 (by decide) (by decide) (XS.iconst X0.here hx rfl (hb hby d15_11) kq)) ?_
    refine own_retN X0 hx hlk hret (by simp) (hb hby d15_12) (by decide) (by decide) ?_
    exact ⟨by simp only [own_can, if_pos hc101]; rfl, N0, e0⟩
  · refine own_go (S' := (s₁.setTop (mkF m 12 #[.val (.int ch)] [(.int (1 : Int32))]))) (fun tq kq => XS.icmpNo X0.here hx rfl (hb hby d15_4) rfl (flt hc101).2.2.1 (XS.iconst X0.here hx rfl (hb hby d15_7) (XS.goto X0.here hx rfl (pc0 := 8) (pc' := 12) rfl (hb hby d15_8) (by decide) (by decide) kq))) ?_
    refine own_retN X0 hx hlk hret (by simp) (hb hby d15_12) (by decide) (by decide) ?_
    exact ⟨by simp only [own_can, if_neg hc101]; rfl, N0, e0⟩
theorem pn_l1c : plainName "java/lang/StringLatin1" = true := by first | (simp [plainName, overriddenIn]; done) | decide +kernel
theorem ef_l1c (m : MethodId) (ch : Int32) (z : Int32) (fm : Value) : entryFrame m #[(.int ch)] 1 = mkF m 0 #[.val (.int ch)] [] := by first | (simp [entryFrame, mkF, argsToLocals, Value.category]; done) | rfl
def Q_l1c (Z : State) (h0 : Heap) (n0 : Nat) (ch : Int32) (z : Int32) (fm : Value) (v : Option Value) (h : Heap) (L : List Loc) : Prop := ∃ (b : Addr) (kb : ClassId), v = some (.ref b) ∧ Fr n0 L ∧ Keep h0 h [] ∧ h0.size ≤ b ∧ own_Ar Z h b kb .byte [(.int (own_lb ch))]
set_option maxRecDepth 65536 in
set_option maxHeartbeats 40000000 in
theorem l1c (l : Launch) (Z : State) (a0 : Array Value) (hw : ∀ d ∈ tables_1, d.before a0 Z = true) (ws : List Jvm.Cond) (h0 : Heap) (n0 : Nat) (O0 : Old Z n0 h0) (ch : Int32) (z : Int32) (fm : Value) (SC : Sta Z Z.heap "java/lang/String" "COMPACT_STRINGS" "Z" (.int z)) (hz : ¬ (z = (0 : Int32))) (SA : Sta Z Z.heap "java/lang/StringUTF16" "$assertionsDisabled" "Z" (.int (1 : Int32))) (SH : Sta Z Z.heap "java/lang/StringUTF16" "HI_BYTE_SHIFT" "I" (.int (0 : Int32))) (SL : Sta Z Z.heap "java/lang/StringUTF16" "LO_BYTE_SHIFT" "I" (.int (8 : Int32))) (SF : Sta Z Z.heap "jdk/internal/util/Preconditions" "SIOOBE_FORMATTER" "Ljava/util/function/BiFunction;" fm) (hfm : fm.isRef = true) :
    MetFree l (⟨"java/lang/StringLatin1", "toBytes", "(C)[B"⟩ : MethodName) (head1 (Jvm.Cond.code (⟨"java/lang/StringLatin1", "toBytes", "(C)[B"⟩ : MethodName) jdk_43_method_46_code 1 (some (.array .byte)) :: ws) ({ frames := 0, cells := 1, slots := 1, locals := 0 } : Room)) (fun aq U => aq = #[(.int ch)] ∧ Z.Warmed39 U.vm ∧ U.heap = h0) (fun _ _ _ _ _ => True) (fun _ U oo U' => ∃ v L, oo = .returned v ∧ Q_l1c Z h0 n0 ch z fm v U'.heap L ∧ FrameEnd U oo U' L ({ frames := 0, cells := 1, slots := 1, locals := 0 } : Room).cells ({ frames := 0, cells := 1, slots := 1, locals := 0 } : Room).slots) := by
  refine MetFree.of_bodySF (plainFor_of_name pn_l1c) hisR ?_
  intro p e s m args below meth c s₁ Bd hml0 hP hK
  obtain ⟨rfl, hZ, hh⟩ := hP
  have hx := Bd.exec
  have hby := Bd.bytes
  have hml : c.maxLocals = 1 := hml0
  have hown : s.vm.findClass "java/lang/StringLatin1" = some m.cls := findClass_of_methodNamed Bd.named
  have hnm := (name_of_methodNamed Bd.named Bd.method).1
  have hlk := Bd.notSynchronized
  have hret := Bd.returns
  have X0 : Stand p l e ({ frames := 0, cells := 1, slots := 1, locals := 0 } : Room) s m #[(.int ch)] below meth c s₁ [] 0 0 := Stand.of_body Bd
  have e0 : s₁.heap = h0 := by rw [← hh, Bd.state]; rfl
  have N0 := Fr.nil n0
  have K0 := Keep.refl h0 []
  refine own_go (S' := (s₁.setTop (mkF m 0 #[.val (.int ch)] []))) (fun tq kq => castTop (ef_l1c m ch z fm) kq) ?_
  show own_G p e s below (Q_l1c Z h0 n0 ch z fm) _ _ _
  refine own_go (S' := (s₁.setTop (mkF m 1 #[.val (.int ch)] [(.int (1 : Int32))]))) (fun tq kq => XS.iconst X0.here hx rfl (hb hby d16_0) kq) ?_
  obtain ⟨T101, h101, k101, X101, e101, E101, A101, st101⟩ := newP X0 hx hZ (hw _ (List.mem_of_getElem? (i := 21) rfl)) e0 (g := (mkF m 1 #[.val (.int ch)] [(.int (1 : Int32))])) rfl (hb hby d16_1) rfl (by decide) (cap := 1) (by decide) (by decide) (by decide) (by decide)
  obtain ⟨b101, g101⟩ : ∃ z, z = h0.size := ⟨_, rfl⟩
  rw [← g101] at A101 st101
  have ge_b101 : n0 ≤ b101 := Nat.le_trans (own_osz O0) (Nat.le_of_eq g101.symm)
  have gk_b101 : h0.size ≤ b101 := Nat.le_trans K0.1 (Nat.le_of_eq g101.symm)
  have V101 : own_Ar Z h101 b101 k101 .byte [(.int (0 : Int32))] := own_Ar.new A101 (by decide)
  have O101 := O0.ext E101
  have K101 := K0.ext E101
  refine own_go (S' := (T101.setTop (mkF m 7 #[.val (.int ch)] [(.int (ch.toInt8.toInt32)), (.int (0 : Int32)), (.ref b101), (.ref b101)]))) (fun tq kq => st101 tq (XS.dup X101.here hx rfl (hb hby d16_3) rfl rfl (XS.iconst X101.here hx rfl (hb hby d16_4) (XS.iloadN X101.here hx rfl (hb hby d16_5) rfl (XS.i2b X101.here hx rfl (hb hby d16_6) rfl kq))))) ?_
  obtain ⟨cl102, Ar102, qa102, sa102, hin102, -⟩ := V101.at (j := (0 : Int32)) (by decide) rfl
  obtain ⟨T102, h102, X102, e102, W102, st102⟩ := stB X101 hx hZ e101 Ar102 (j := (0 : Int32)) hin102 (g := (mkF m 7 #[.val (.int ch)] [(.int (ch.toInt8.toInt32)), (.int (0 : Int32)), (.ref b101), (.ref b101)])) rfl rfl (hb hby d16_7)
  have N102 := Fr.snoc X102 N0 ge_b101
  have O102 := O101.wr W102 ge_b101
  have K102 := K101.wr W102 (Or.inr gk_b101)
  have V102 : own_Ar Z h102 b101 k101 .byte [(.int ((ch.toInt8.toInt32).toInt8.toInt32))] := own_Ar.set Ar102 qa102 sa102 V101.small W102
  refine own_go (S' := (T102.setTop (mkF m 8 #[.val (.int ch)] [(.ref b101)]))) (fun tq kq => st102 tq kq) ?_
  refine own_retA X102 hx hlk hret rfl rfl (hb hby d16_8) (by decide) (by decide) ?_
  rw [e102]
  exact ⟨b101, _, rfl, N102, K102, gk_b101, V102⟩
theorem pn_pc1_0 : plainName "java/lang/StringUTF16" = true := by first | (simp [plainName, overriddenIn]; done) | decide +kernel
theorem ef_pc1_0 (m : MethodId) (b : Addr) (kb : ClassId) (ch : Int32) (v0 : Value) (v1 : Value) (z : Int32) (fm : Value) : entryFrame m #[(.ref b), (.int (0 : Int32)), (.int ch)] 3 = mkF m 0 #[.val (.ref b), .val (.int (0 : Int32)), .val (.int ch)] [] := by first | (simp [entryFrame, mkF, argsToLocals, Value.category]; done) | rfl
def Q_pc1_0 (Z : State) (h0 : Heap) (n0 : Nat) (b : Addr) (kb : ClassId) (ch : Int32) (v0 : Value) (v1 : Value) (z : Int32) (fm : Value) (v : Option Value) (h : Heap) (L : List Loc) : Prop := v = none ∧ Fr n0 L ∧ Keep h0 h [b] ∧ own_Ar Z h b kb .byte [(.int (own_b0 ch)), (.int (own_b1 ch))]
set_option maxRecDepth 65536 in
set_option maxHeartbeats 40000000 in
theorem pc1_0 (l : Launch) (Z : State) (a0 : Array Value) (hw : ∀ d ∈ tables_1, d.before a0 Z = true) (ws : List Jvm.Cond) (h0 : Heap) (n0 : Nat) (O0 : Old Z n0 h0) (b : Addr) (kb : ClassId) (ch : Int32) (v0 : Value) (v1 : Value) (z : Int32) (fm : Value) (SC : Sta Z Z.heap "java/lang/String" "COMPACT_STRINGS" "Z" (.int z)) (hz : ¬ (z = (0 : Int32))) (SA : Sta Z Z.heap "java/lang/StringUTF16" "$assertionsDisabled" "Z" (.int (1 : Int32))) (SH : Sta Z Z.heap "java/lang/StringUTF16" "HI_BYTE_SHIFT" "I" (.int (0 : Int32))) (SL : Sta Z Z.heap "java/lang/StringUTF16" "LO_BYTE_SHIFT" "I" (.int (8 : Int32))) (SF : Sta Z Z.heap "jdk/internal/util/Preconditions" "SIOOBE_FORMATTER" "Ljava/util/function/BiFunction;" fm) (hfm : fm.isRef = true) (Vb : own_Ar Z h0 b kb .byte [v0, v1]) (gb : n0 ≤ b) :
    MetFree l (⟨"java/lang/StringUTF16", "putChar", "([BII)V"⟩ : MethodName) (head1 (Jvm.Cond.code (⟨"java/lang/StringUTF16", "putChar", "([BII)V"⟩ : MethodName) jdk_52_method_4_code 3 none :: ws) ({ frames := 0, cells := 0, slots := 0, locals := 0 } : Room)) (fun aq U => aq = #[(.ref b), (.int (0 : Int32)), (.int ch)] ∧ Z.Warmed39 U.vm ∧ U.heap = h0) (fun _ _ _ _ _ => True) (fun _ U oo U' => ∃ v L, oo = .returned v ∧ Q_pc1_0 Z h0 n0 b kb ch v0 v1 z fm v U'.heap L ∧ FrameEnd U oo U' L ({ frames := 0, cells := 0, slots := 0, locals := 0 } : Room).cells ({ frames := 0, cells := 0, slots := 0, locals := 0 } : Room).slots) := by
  refine MetFree.of_bodySF (plainFor_of_name pn_pc1_0) hisR ?_
  intro p e s m args below meth c s₁ Bd hml0 hP hK
  obtain ⟨rfl, hZ, hh⟩ := hP
  have hx := Bd.exec
  have hby := Bd.bytes
  have hml : c.maxLocals = 3 := hml0
  have hown : s.vm.findClass "java/lang/StringUTF16" = some m.cls := findClass_of_methodNamed Bd.named
  have hnm := (name_of_methodNamed Bd.named Bd.method).1
  have hlk := Bd.notSynchronized
  have hret := Bd.returns
  have X0 : Stand p l e ({ frames := 0, cells := 0, slots := 0, locals := 0 } : Room) s m #[(.ref b), (.int (0 : Int32)), (.int ch)] below meth c s₁ [] 0 0 := Stand.of_body Bd
  have e0 : s₁.heap = h0 := by rw [← hh, Bd.state]; rfl
  have N0 := Fr.nil n0
  have K0 := Keep.refl h0 [b]
  refine own_go (S' := (s₁.setTop (mkF m 0 #[.val (.ref b), .val (.int (0 : Int32)), .val (.int ch)] []))) (fun tq kq => castTop (ef_pc1_0 m b kb ch v0 v1 z fm) kq) ?_
  show own_G p e s below (Q_pc1_0 Z h0 n0 b kb ch v0 v1 z fm) _ _ _
  obtain ⟨T101, X101, e101, st101⟩ := getS2 X0 hx hZ hown (host := "") (Or.inl (hw _ (List.mem_of_getElem? (i := 130) rfl))) Via.refl e0 (SA.ext O0.2) (g := (mkF m 0 #[.val (.ref b), .val (.int (0 : Int32)), .val (.int ch)] [])) rfl (hb hby d28_0)
  refine own_go (S' := (T101.setTop (mkF m 31 #[.val (.ref b), .val (.int (0 : Int32)), .val (.int ch)] [(.int ((0 : Int32) <<< ((1 : Int32) &&& 31)))]))) (fun tq kq => st101 tq (XS.ifYes X101.here hx rfl (pc0 := 3) (pc' := 28) rfl (hb hby d28_3) rfl ((if0 _ _).trans (feq (by decide : ¬ ((1 : Int32) = (0 : Int32)))).2) (by decide) (by decide) (XS.iloadN X101.here hx rfl (hb hby d28_28) rfl (XS.iconst X101.here hx rfl (hb hby d28_29) (XS.ishl X101.here hx rfl (hb hby d28_30) rfl kq))))) ?_
  rw [show ((0 : Int32) <<< ((1 : Int32) &&& 31)) = (0 : Int32) from by decide]
  refine own_go (S' := (T101.setTop (mkF m 38 #[.val (.ref b), .val (.int (1 : Int32)), .val (.int ch)] [(.int ch), (.int (0 : Int32)), (.ref b)]))) (fun tq kq => XS.istoreN X101.here hx rfl (hb hby d28_31) rfl (l' := #[.val (.ref b), .val (.int (0 : Int32)), .val (.int ch)]) rfl (XS.aloadN X101.here hx rfl (hb hby d28_32) rfl rfl (XS.iloadN X101.here hx rfl (hb hby d28_33) rfl (XS.iinc X101.here hx rfl (hb hby d28_34) rfl (l' := #[.val (.ref b), .val (.int (1 : Int32)), .val (.int ch)]) rfl (XS.iloadN X101.here hx rfl (hb hby d28_37) rfl kq))))) ?_
  obtain ⟨T102, X102, e102, st102⟩ := getS2 X101 hx hZ hown (host := "") (Or.inl (hw _ (List.mem_of_getElem? (i := 131) rfl))) Via.refl e101 (SH.ext O0.2) (g := (mkF m 38 #[.val (.ref b), .val (.int (1 : Int32)), .val (.int ch)] [(.int ch), (.int (0 : Int32)), (.ref b)])) rfl (hb hby d28_38)
  refine own_go (S' := (T102.setTop (mkF m 43 #[.val (.ref b), .val (.int (1 : Int32)), .val (.int ch)] [(.int ((ch >>> ((0 : Int32) &&& 31)).toInt8.toInt32)), (.int (0 : Int32)), (.ref b)]))) (fun tq kq => st102 tq (XS.ishr X102.here hx rfl (hb hby d28_41) rfl (XS.i2b X102.here hx rfl (hb hby d28_42) rfl kq))) ?_
  obtain ⟨cl103, Ar103, qa103, sa103, hin103, -⟩ := Vb.at (j := (0 : Int32)) (by decide) rfl
  obtain ⟨T103, h103, X103, e103, W103, st103⟩ := stB X102 hx hZ e102 Ar103 (j := (0 : Int32)) hin103 (g := (mkF m 43 #[.val (.ref b), .val (.int (1 : Int32)), .val (.int ch)] [(.int ((ch >>> ((0 : Int32) &&& 31)).toInt8.toInt32)), (.int (0 : Int32)), (.ref b)])) rfl rfl (hb hby d28_43)
  have N103 := Fr.snoc X103 N0 gb
  have O103 := O0.wr W103 gb
  have K103 := K0.wr W103 (Or.inl (List.mem_of_getElem? (i := 0) rfl))
  have V103 : own_Ar Z h103 b kb .byte [(.int (((ch >>> ((0 : Int32) &&& 31)).toInt8.toInt32).toInt8.toInt32)), v1] := own_Ar.set Ar103 qa103 sa103 Vb.small W103
  refine own_go (S' := (T103.setTop (mkF m 47 #[.val (.ref b), .val (.int (1 : Int32)), .val (.int ch)] [(.int ch), (.int (1 : Int32)), (.ref b)]))) (fun tq kq => st103 tq (XS.aloadN X103.here hx rfl (hb hby d28_44) rfl rfl (XS.iloadN X103.here hx rfl (hb hby d28_45) rfl (XS.iloadN X103.here hx rfl (hb hby d28_46) rfl kq)))) ?_
  obtain ⟨T104, X104, e104, st104⟩ := getS2 X103 hx hZ hown (host := "") (Or.inl (hw _ (List.mem_of_getElem? (i := 132) rfl))) Via.refl e103 (SL.ext O103.2) (g := (mkF m 47 #[.val (.ref b), .val (.int (1 : Int32)), .val (.int ch)] [(.int ch), (.int (1 : Int32)), (.ref b)])) rfl (hb hby d28_47)
  refine own_go (S' := (T104.setTop (mkF m 52 #[.val (.ref b), .val (.int (1 : Int32)), .val (.int ch)] [(.int ((ch >>> ((8 : Int32) &&& 31)).toInt8.toInt32)), (.int (1 : Int32)), (.ref b)]))) (fun tq kq => st104 tq (XS.ishr X104.here hx rfl (hb hby d28_50) rfl (XS.i2b X104.here hx rfl (hb hby d28_51) rfl kq))) ?_
  obtain ⟨cl105, Ar105, qa105, sa105, hin105, -⟩ := V103.at (j := (1 : Int32)) (by decide) rfl
  obtain ⟨T105, h105, X105, e105, W105, st105⟩ := stB X104 hx hZ e104 Ar105 (j := (1 : Int32)) hin105 (g := (mkF m 52 #[.val (.ref b), .val (.int (1 : Int32)), .val (.int ch)] [(.int ((ch >>> ((8 : Int32) &&& 31)).toInt8.toInt32)), (.int (1 : Int32)), (.ref b)])) rfl rfl (hb hby d28_52)
  have N105 := Fr.snoc X105 N103 gb
  have O105 := O103.wr W105 gb
  have K105 := K103.wr W105 (Or.inl (List.mem_of_getElem? (i := 0) rfl))
  have V105 : own_Ar Z h105 b kb .byte [(.int (((ch >>> ((0 : Int32) &&& 31)).toInt8.toInt32).toInt8.toInt32)), (.int (((ch >>> ((8 : Int32) &&& 31)).toInt8.toInt32).toInt8.toInt32))] := own_Ar.set Ar105 qa105 sa105 V103.small W105
  refine own_go (S' := (T105.setTop (mkF m 53 #[.val (.ref b), .val (.int (1 : Int32)), .val (.int ch)] []))) (fun tq kq => st105 tq kq) ?_
  refine own_retV X105 hx hlk hret (hb hby d28_53) (by decide) (by decide) ?_
  rw [e105]
  exact ⟨rfl, N105, K105, V105⟩
theorem pn_u16c : plainName "java/lang/StringUTF16" = true := by first | (simp [plainName, overriddenIn]; done) | decide +kernel
theorem ef_u16c (m : MethodId) (ch : Int32) (z : Int32) (fm : Value) : entryFrame m #[(.int ch)] 2 = mkF m 0 #[.val (.int ch), .unset] [] := by first | (simp [entryFrame, mkF, argsToLocals, Value.category]; done) | rfl
def Q_u16c (Z : State) (h0 : Heap) (n0 : Nat) (ch : Int32) (z : Int32) (fm : Value) (v : Option Value) (h : Heap) (L : List Loc) : Prop := ∃ (b : Addr) (kb : ClassId), v = some (.ref b) ∧ Fr n0 L ∧ Keep h0 h [] ∧ h0.size ≤ b ∧ own_Ar Z h b kb .byte [(.int (own_b0 ch)), (.int (own_b1 ch))]
set_option maxRecDepth 65536 in
set_option maxHeartbeats 40000000 in
theorem u16c (l : Launch) (Z : State) (a0 : Array Value) (hw : ∀ d ∈ tables_1, d.before a0 Z = true) (ws : List Jvm.Cond) (h0 : Heap) (n0 : Nat) (O0 : Old Z n0 h0) (ch : Int32) (z : Int32) (fm : Value) (SC : Sta Z Z.heap "java/lang/String" "COMPACT_STRINGS" "Z" (.int z)) (hz : ¬ (z = (0 : Int32))) (SA : Sta Z Z.heap "java/lang/StringUTF16" "$assertionsDisabled" "Z" (.int (1 : Int32))) (SH : Sta Z Z.heap "java/lang/StringUTF16" "HI_BYTE_SHIFT" "I" (.int (0 : Int32))) (SL : Sta Z Z.heap "java/lang/StringUTF16" "LO_BYTE_SHIFT" "I" (.int (8 : Int32))) (SF : Sta Z Z.heap "jdk/internal/util/Preconditions" "SIOOBE_FORMATTER" "Ljava/util/function/BiFunction;" fm) (hfm : fm.isRef = true) :
    MetFree l (⟨"java/lang/StringUTF16", "toBytes", "(C)[B"⟩ : MethodName) (head1 (Jvm.Cond.code (⟨"java/lang/StringUTF16", "toBytes", "(C)[B"⟩ : MethodName) jdk_52_method_24_code 2 (some (.array .byte)) :: ws) ({ frames := 1, cells := 1, slots := 2, locals := 14 } : Room)) (fun aq U => aq = #[(.int ch)] ∧ Z.Warmed39 U.vm ∧ U.heap = h0) (fun _ _ _ _ _ => True) (fun _ U oo U' => ∃ v L, oo = .returned v ∧ Q_u16c Z h0 n0 ch z fm v U'.heap L ∧ FrameEnd U oo U' L ({ frames := 1, cells := 1, slots := 2, locals := 14 } : Room).cells ({ frames := 1, cells := 1, slots := 2, locals := 14 } : Room).slots) := by
  refine MetFree.of_bodySF (plainFor_of_name pn_u16c) hisR ?_
  intro p e s m args below meth c s₁ Bd hml0 hP hK
  obtain ⟨rfl, hZ, hh⟩ := hP
  have hx := Bd.exec
  have hby := Bd.bytes
  have hml : c.maxLocals = 2 := hml0
  have hown : s.vm.findClass "java/lang/StringUTF16" = some m.cls := findClass_of_methodNamed Bd.named
  have hnm := (name_of_methodNamed Bd.named Bd.method).1
  have hlk := Bd.notSynchronized
  have hret := Bd.returns
  have X0 : Stand p l e ({ frames := 1, cells := 1, slots := 2, locals := 14 } : Room) s m #[(.int ch)] below meth c s₁ [] 0 0 := Stand.of_body Bd
  have e0 : s₁.heap = h0 := by rw [← hh, Bd.state]; rfl
  have N0 := Fr.nil n0
  have K0 := Keep.refl h0 []
  refine own_go (S' := (s₁.setTop (mkF m 0 #[.val (.int ch), .unset] []))) (fun tq kq => castTop (ef_u16c m ch z fm) kq) ?_
  show own_G p e s below (Q_u16c Z h0 n0 ch z fm) _ _ _
  refine own_go (S' := (s₁.setTop (mkF m 1 #[.val (.int ch), .unset] [(.int (2 : Int32))]))) (fun tq kq => XS.iconst X0.here hx rfl (hb hby d30_0) kq) ?_
  obtain ⟨T101, h101, k101, X101, e101, E101, A101, st101⟩ := newP X0 hx hZ (hw _ (List.mem_of_getElem? (i := 21) rfl)) e0 (g := (mkF m 1 #[.val (.int ch), .unset] [(.int (2 : Int32))])) rfl (hb hby d30_1) rfl (by decide) (cap := 2) (by decide) (by decide) (by decide) (by decide)
  obtain ⟨b101, g101⟩ : ∃ z, z = h0.size := ⟨_, rfl⟩
  rw [← g101] at A101 st101
  have ge_b101 : n0 ≤ b101 := Nat.le_trans (own_osz O0) (Nat.le_of_eq g101.symm)
  have gk_b101 : h0.size ≤ b101 := Nat.le_trans K0.1 (Nat.le_of_eq g101.symm)
  have V101 : own_Ar Z h101 b101 k101 .byte [(.int (0 : Int32)), (.int (0 : Int32))] := own_Ar.new A101 (by decide)
  have O101 := O0.ext E101
  have K101 := K0.ext E101
  refine own_go (S' := (T101.setTop (mkF m 7 #[.val (.int ch), .val (.ref b101)] [(.int ch), (.int (0 : Int32)), (.ref b101)]))) (fun tq kq => st101 tq (XS.astoreN X101.here hx rfl (hb hby d30_3) rfl rfl (l' := #[.val (.int ch), .val (.ref b101)]) rfl (XS.aloadN X101.here hx rfl (hb hby d30_4) rfl rfl (XS.iconst X101.here hx rfl (hb hby d30_5) (XS.iloadN X101.here hx rfl (hb hby d30_6) rfl kq))))) ?_
  obtain ⟨_, _, ⟨T102, L102, k102, n102⟩, -, X102, ⟨Lc102, hQ102, l102, y102, z102⟩, st102⟩ := Jvm.LawKit.callS X101 hx (y := (⟨"java/lang/StringUTF16", "putChar", "([BII)V"⟩ : MethodName)) hown (mvT hZ (hw _ (List.mem_of_getElem? (i := 127) rfl))) (mvT hZ (hw _ (List.mem_of_getElem? (i := 128) rfl))) (mvT hZ (hw _ (List.mem_of_getElem? (i := 60) rfl))) (mvT hZ (hw _ (List.mem_of_getElem? (i := 129) rfl))) (by decide) (backOf (W := 0) (pc1_0 l Z a0 hw [] h101 n0 O101 b101 k101 ch (.int (0 : Int32)) (.int (0 : Int32)) z fm SC hz SA SH SL SF hfm V101 ge_b101) hZ (hw _ (List.mem_of_getElem? (i := 129) rfl)) (hw _ (List.mem_of_getElem? (i := 60) rfl)) (by decide) (by decide)) (g := (mkF m 7 #[.val (.int ch), .val (.ref b101)] [(.int ch), (.int (0 : Int32)), (.ref b101)])) rfl (by rw [hml]; rfl) (argsL := [(.ref b101), (.int (0 : Int32)), (.int ch)]) (rest := []) (lenOf pd_8 rfl) rfl (by show 2 * 0 + _ ≤ _; exact Nat.le_of_eq rfl) (hb hby d30_7) (fun _ _ => ⟨rfl, e101, (by decide : 1 + 0 ≤ _), (by decide : 2 + 0 ≤ _)⟩)
  dsimp only [Pt.U, Pt.locs, Pt.cells, Pt.slots] at X102 l102 y102 z102 st102 hQ102
  subst l102 y102 z102
  obtain ⟨rfl, N102, K102, V102⟩ := hQ102
  have Nf102 := Fr.app N0 N102
  have O102 := O101.keep K102 (allS ge_b101 all0)
  have KK102 := K101.trans K102 (allS (Or.inr gk_b101) all0)
  refine own_go (S' := (T102.setTop (mkF m 11 #[.val (.int ch), .val (.ref b101)] [(.ref b101)]))) (fun tq kq => st102 tq (XS.aloadN X102.here hx rfl (hb hby d30_10) rfl rfl kq)) ?_
  refine own_retA X102 hx hlk hret rfl rfl (hb hby d30_11) (by decide) (by decide) ?_
  exact ⟨b101, _, rfl, Nf102, KK102, gk_b101, V102⟩
theorem pn_inb0 : plainName "java/lang/String" = true := by first | (simp [plainName, overriddenIn]; done) | decide +kernel
theorem ef_inb0 (m : MethodId) (a : Addr) (d : Addr) (z : Int32) (fm : Value) : entryFrame m #[(.ref a), (.ref d), (.int (0 : Int32))] 3 = mkF m 0 #[.val (.ref a), .val (.ref d), .val (.int (0 : Int32))] [] := by first | (simp [entryFrame, mkF, argsToLocals, Value.category]; done) | rfl
def Q_inb0 (Z : State) (h0 : Heap) (n0 : Nat) (a : Addr) (d : Addr) (z : Int32) (fm : Value) (v : Option Value) (h : Heap) (L : List Loc) : Prop := v = none ∧ Fr n0 L ∧ Keep h0 h [a] ∧ Fld Z h a "java/lang/String" "value" "[B" (.ref d) ∧ Fld Z h a "java/lang/String" "coder" "B" (.int (0 : Int32))
set_option maxRecDepth 65536 in
set_option maxHeartbeats 40000000 in
theorem inb0 (l : Launch) (Z : State) (a0 : Array Value) (hw : ∀ d ∈ tables_1, d.before a0 Z = true) (ws : List Jvm.Cond) (h0 : Heap) (n0 : Nat) (O0 : Old Z n0 h0) (a : Addr) (d : Addr) (z : Int32) (fm : Value) (SC : Sta Z Z.heap "java/lang/String" "COMPACT_STRINGS" "Z" (.int z)) (hz : ¬ (z = (0 : Int32))) (SA : Sta Z Z.heap "java/lang/StringUTF16" "$assertionsDisabled" "Z" (.int (1 : Int32))) (SH : Sta Z Z.heap "java/lang/StringUTF16" "HI_BYTE_SHIFT" "I" (.int (0 : Int32))) (SL : Sta Z Z.heap "java/lang/StringUTF16" "LO_BYTE_SHIFT" "I" (.int (8 : Int32))) (SF : Sta Z Z.heap "jdk/internal/util/Preconditions" "SIOOBE_FORMATTER" "Ljava/util/function/BiFunction;" fm) (hfm : fm.isRef = true) (Ea : Exa Z h0 a "java/lang/String") (Fv : Fld Z h0 a "java/lang/String" "value" "[B" .null) (Fc : Fld Z h0 a "java/lang/String" "coder" "B" (.int (0 : Int32))) (ga : n0 ≤ a) :
    MetFree l (⟨"java/lang/String", "<init>", "([BB)V"⟩ : MethodName) (head1 (Jvm.Cond.code (⟨"java/lang/String", "<init>", "([BB)V"⟩ : MethodName) jdk_42_method_151_code 3 none :: ws) ({ frames := 1, cells := 0, slots := 0, locals := 12 } : Room)) (fun aq U => aq = #[(.ref a), (.ref d), (.int (0 : Int32))] ∧ Z.Warmed39 U.vm ∧ U.heap = h0) (fun _ _ _ _ _ => True) (fun _ U oo U' => ∃ v L, oo = .returned v ∧ Q_inb0 Z h0 n0 a d z fm v U'.heap L ∧ FrameEnd U oo U' L ({ frames := 1, cells := 0, slots := 0, locals := 12 } : Room).cells ({ frames := 1, cells := 0, slots := 0, locals := 12 } : Room).slots) := by
  refine MetFree.of_bodySF (plainFor_of_name pn_inb0) hisR ?_
  intro p e s m args below meth c s₁ Bd hml0 hP hK
  obtain ⟨rfl, hZ, hh⟩ := hP
  have hx := Bd.exec
  have hby := Bd.bytes
  have hml : c.maxLocals = 3 := hml0
  have hown : s.vm.findClass "java/lang/String" = some m.cls := findClass_of_methodNamed Bd.named
  have hnm := (name_of_methodNamed Bd.named Bd.method).1
  have hlk := Bd.notSynchronized
  have hret := Bd.returns
  have X0 : Stand p l e ({ frames := 1, cells := 0, slots := 0, locals := 12 } : Room) s m #[(.ref a), (.ref d), (.int (0 : Int32))] below meth c s₁ [] 0 0 := Stand.of_body Bd
  have e0 : s₁.heap = h0 := by rw [← hh, Bd.state]; rfl
  have N0 := Fr.nil n0
  have K0 := Keep.refl h0 [a]
  refine own_go (S' := (s₁.setTop (mkF m 0 #[.val (.ref a), .val (.ref d), .val (.int (0 : Int32))] []))) (fun tq kq => castTop (ef_inb0 m a d z fm) kq) ?_
  show own_G p e s below (Q_inb0 Z h0 n0 a d z fm) _ _ _
  refine own_go (S' := (s₁.setTop (mkF m 1 #[.val (.ref a), .val (.ref d), .val (.int (0 : Int32))] [(.ref a)]))) (fun tq kq => XS.aloadN X0.here hx rfl (hb hby d17_0) rfl rfl kq) ?_
  obtain ⟨T101, X101, e101, st101⟩ := initO X0 hx hZ hown (hw _ (List.mem_of_getElem? (i := 17) rfl)) (hw _ (List.mem_of_getElem? (i := 18) rfl)) (hw _ (List.mem_of_getElem? (i := 19) rfl)) e0 (g := (mkF m 1 #[.val (.ref a), .val (.ref d), .val (.int (0 : Int32))] [(.ref a)])) rfl (by rw [hml]; rfl) rfl (hb hby d17_1) (by decide) (W := 0) (by show 2 * 0 + _ ≤ _; exact Nat.le_of_eq rfl) (by decide)
  refine own_go (S' := (T101.setTop (mkF m 6 #[.val (.ref a), .val (.ref d), .val (.int (0 : Int32))] [(.ref d), (.ref a)]))) (fun tq kq => st101 tq (XS.aloadN X101.here hx rfl (hb hby d17_4) rfl rfl (XS.aloadN X101.here hx rfl (hb hby d17_5) rfl rfl kq))) ?_
  obtain ⟨T102, h102, X102, e102, W102, st102⟩ := putF X101 hx hZ hown (host := "") (Or.inl (hw _ (List.mem_of_getElem? (i := 26) rfl))) Via.refl e101 Fv Ea (Or.inr ⟨(hw _ (List.mem_of_getElem? (i := 22) rfl)), rfl, hnm⟩) (hw _ (List.mem_of_getElem? (i := 7) rfl)) (ty := (.array .byte)) (by decide) rfl rfl (g := (mkF m 6 #[.val (.ref a), .val (.ref d), .val (.int (0 : Int32))] [(.ref d), (.ref a)])) rfl rfl (hb hby d17_6)
  have N102 := Fr.snoc X102 N0 ga
  have O102 := O0.wr W102 ga
  have K102 := K0.wr W102 (Or.inl (List.mem_of_getElem? (i := 0) rfl))
  have F102 := Fv.same W102
  refine own_go (S' := (T102.setTop (mkF m 11 #[.val (.ref a), .val (.ref d), .val (.int (0 : Int32))] [(.int (0 : Int32)), (.ref a)]))) (fun tq kq => st102 tq (XS.aloadN X102.here hx rfl (hb hby d17_9) rfl rfl (XS.iloadN X102.here hx rfl (hb hby d17_10) rfl kq))) ?_
  have f103 := (Fc.other W102 (Or.inr (slot_ne (Or.inr (hw _ (List.mem_of_getElem? (i := 23) rfl))) (Or.inr (hw _ (List.mem_of_getElem? (i := 22) rfl))) (by decide) (t := .byte) (t' := (.array .byte)) (by decide) (by decide))))
  have f104 := (Ea.wr W102)
  obtain ⟨T105, h105, X105, e105, W105, st105⟩ := putFN X102 hx hZ hown (hw _ (List.mem_of_getElem? (i := 27) rfl)) Via.refl e102 f103 f104 (Or.inr ⟨(hw _ (List.mem_of_getElem? (i := 23) rfl)), rfl, hnm⟩) (hw _ (List.mem_of_getElem? (i := 7) rfl)) (ty := .byte) (v' := (.int (0 : Int32))) (by decide) rfl rfl (g := (mkF m 11 #[.val (.ref a), .val (.ref d), .val (.int (0 : Int32))] [(.int (0 : Int32)), (.ref a)])) rfl rfl (hb hby d17_11)
  have N105 := Fr.snoc X105 N102 ga
  have O105 := O102.wr W105 ga
  have K105 := K102.wr W105 (Or.inl (List.mem_of_getElem? (i := 0) rfl))
  have F105 := f103.same W105
  refine own_go (S' := (T105.setTop (mkF m 14 #[.val (.ref a), .val (.ref d), .val (.int (0 : Int32))] []))) (fun tq kq => st105 tq kq) ?_
  refine own_retV X105 hx hlk hret (hb hby d17_14) (by decide) (by decide) ?_
  have f106 := (F102.other W105 (Or.inr (slot_ne (Or.inr (hw _ (List.mem_of_getElem? (i := 22) rfl))) (Or.inr (hw _ (List.mem_of_getElem? (i := 23) rfl))) (by decide) (t := (.array .byte)) (t' := .byte) (by decide) (by decide))))
  rw [e105]
  exact ⟨rfl, N105, K105, f106, F105⟩
theorem pn_inb1 : plainName "java/lang/String" = true := by first | (simp [plainName, overriddenIn]; done) | decide +kernel
theorem ef_inb1 (m : MethodId) (a : Addr) (d : Addr) (z : Int32) (fm : Value) : entryFrame m #[(.ref a), (.ref d), (.int (1 : Int32))] 3 = mkF m 0 #[.val (.ref a), .val (.ref d), .val (.int (1 : Int32))] [] := by first | (simp [entryFrame, mkF, argsToLocals, Value.category]; done) | rfl
def Q_inb1 (Z : State) (h0 : Heap) (n0 : Nat) (a : Addr) (d : Addr) (z : Int32) (fm : Value) (v : Option Value) (h : Heap) (L : List Loc) : Prop := v = none ∧ Fr n0 L ∧ Keep h0 h [a] ∧ Fld Z h a "java/lang/String" "value" "[B" (.ref d) ∧ Fld Z h a "java/lang/String" "coder" "B" (.int (1 : Int32))
set_option maxRecDepth 65536 in
set_option maxHeartbeats 40000000 in
theorem inb1 (l : Launch) (Z : State) (a0 : Array Value) (hw : ∀ d ∈ tables_1, d.before a0 Z = true) (ws : List Jvm.Cond) (h0 : Heap) (n0 : Nat) (O0 : Old Z n0 h0) (a : Addr) (d : Addr) (z : Int32) (fm : Value) (SC : Sta Z Z.heap "java/lang/String" "COMPACT_STRINGS" "Z" (.int z)) (hz : ¬ (z = (0 : Int32))) (SA : Sta Z Z.heap "java/lang/StringUTF16" "$assertionsDisabled" "Z" (.int (1 : Int32))) (SH : Sta Z Z.heap "java/lang/StringUTF16" "HI_BYTE_SHIFT" "I" (.int (0 : Int32))) (SL : Sta Z Z.heap "java/lang/StringUTF16" "LO_BYTE_SHIFT" "I" (.int (8 : Int32))) (SF : Sta Z Z.heap "jdk/internal/util/Preconditions" "SIOOBE_FORMATTER" "Ljava/util/function/BiFunction;" fm) (hfm : fm.isRef = true) (Ea : Exa Z h0 a "java/lang/String") (Fv : Fld Z h0 a "java/lang/String" "value" "[B" .null) (Fc : Fld Z h0 a "java/lang/String" "coder" "B" (.int (0 : Int32))) (ga : n0 ≤ a) :
    MetFree l (⟨"java/lang/String", "<init>", "([BB)V"⟩ : MethodName) (head1 (Jvm.Cond.code (⟨"java/lang/String", "<init>", "([BB)V"⟩ : MethodName) jdk_42_method_151_code 3 none :: ws) ({ frames := 1, cells := 0, slots := 0, locals := 12 } : Room)) (fun aq U => aq = #[(.ref a), (.ref d), (.int (1 : Int32))] ∧ Z.Warmed39 U.vm ∧ U.heap = h0) (fun _ _ _ _ _ => True) (fun _ U oo U' => ∃ v L, oo = .returned v ∧ Q_inb1 Z h0 n0 a d z fm v U'.heap L ∧ FrameEnd U oo U' L ({ frames := 1, cells := 0, slots := 0, locals := 12 } : Room).cells ({ frames := 1, cells := 0, slots := 0, locals := 12 } : Room).slots) := by
  refine MetFree.of_bodySF (plainFor_of_name pn_inb1) hisR ?_
  intro p e s m args below meth c s₁ Bd hml0 hP hK
  obtain ⟨rfl, hZ, hh⟩ := hP
  have hx := Bd.exec
  have hby := Bd.bytes
  have hml : c.maxLocals = 3 := hml0
  have hown : s.vm.findClass "java/lang/String" = some m.cls := findClass_of_methodNamed Bd.named
  have hnm := (name_of_methodNamed Bd.named Bd.method).1
  have hlk := Bd.notSynchronized
  have hret := Bd.returns
  have X0 : Stand p l e ({ frames := 1, cells := 0, slots := 0, locals := 12 } : Room) s m #[(.ref a), (.ref d), (.int (1 : Int32))] below meth c s₁ [] 0 0 := Stand.of_body Bd
  have e0 : s₁.heap = h0 := by rw [← hh, Bd.state]; rfl
  have N0 := Fr.nil n0
  have K0 := Keep.refl h0 [a]
  refine own_go (S' := (s₁.setTop (mkF m 0 #[.val (.ref a), .val (.ref d), .val (.int (1 : Int32))] []))) (fun tq kq => castTop (ef_inb1 m a d z fm) kq) ?_
  show own_G p e s below (Q_inb1 Z h0 n0 a d z fm) _ _ _
  refine own_go (S' := (s₁.setTop (mkF m 1 #[.val (.ref a), .val (.ref d), .val (.int (1 : Int32))] [(.ref a)]))) (fun tq kq => XS.aloadN X0.here hx rfl (hb hby d17_0) rfl rfl kq) ?_
  obtain ⟨T101, X101, e101, st101⟩ := initO X0 hx hZ hown (hw _ (List.mem_of_getElem? (i := 17) rfl)) (hw _ (List.mem_of_getElem? (i := 18) rfl)) (hw _ (List.mem_of_getElem? (i := 19) rfl)) e0 (g := (mkF m 1 #[.val (.ref a), .val (.ref d), .val (.int (1 : Int32))] [(.ref a)])) rfl (by rw [hml]; rfl) rfl (hb hby d17_1) (by decide) (W := 0) (by show 2 * 0 + _ ≤ _; exact Nat.le_of_eq rfl) (by decide)
  refine own_go (S' := (T101.setTop (mkF m 6 #[.val (.ref a), .val (.ref d), .val (.int (1 : Int32))] [(.ref d), (.ref a)]))) (fun tq kq => st101 tq (XS.aloadN X101.here hx rfl (hb hby d17_4) rfl rfl (XS.aloadN X101.here hx rfl (hb hby d17_5) rfl rfl kq))) ?_
  obtain ⟨T102, h102, X102, e102, W102, st102⟩ := putF X101 hx hZ hown (host := "") (Or.inl (hw _ (List.mem_of_getElem? (i := 26) rfl))) Via.refl e101 Fv Ea (Or.inr ⟨(hw _ (List.mem_of_getElem? (i := 22) rfl)), rfl, hnm⟩) (hw _ (List.mem_of_getElem? (i := 7) rfl)) (ty := (.array .byte)) (by decide) rfl rfl (g := (mkF m 6 #[.val (.ref a), .val (.ref d), .val (.int (1 : Int32))] [(.ref d), (.ref a)])) rfl rfl (hb hby d17_6)
  have N102 := Fr.snoc X102 N0 ga
  have O102 := O0.wr W102 ga
  have K102 := K0.wr W102 (Or.inl (List.mem_of_getElem? (i := 0) rfl))
  have F102 := Fv.same W102
  refine own_go (S' := (T102.setTop (mkF m 11 #[.val (.ref a), .val (.ref d), .val (.int (1 : Int32))] [(.int (1 : Int32)), (.ref a)]))) (fun tq kq => st102 tq (XS.aloadN X102.here hx rfl (hb hby d17_9) rfl rfl (XS.iloadN X102.here hx rfl (hb hby d17_10) rfl kq))) ?_
  have f103 := (Fc.other W102 (Or.inr (slot_ne (Or.inr (hw _ (List.mem_of_getElem? (i := 23) rfl))) (Or.inr (hw _ (List.mem_of_getElem? (i := 22) rfl))) (by decide) (t := .byte) (t' := (.array .byte)) (by decide) (by decide))))
  have f104 := (Ea.wr W102)
  obtain ⟨T105, h105, X105, e105, W105, st105⟩ := putFN X102 hx hZ hown (hw _ (List.mem_of_getElem? (i := 27) rfl)) Via.refl e102 f103 f104 (Or.inr ⟨(hw _ (List.mem_of_getElem? (i := 23) rfl)), rfl, hnm⟩) (hw _ (List.mem_of_getElem? (i := 7) rfl)) (ty := .byte) (v' := (.int (1 : Int32))) (by decide) rfl rfl (g := (mkF m 11 #[.val (.ref a), .val (.ref d), .val (.int (1 : Int32))] [(.int (1 : Int32)), (.ref a)])) rfl rfl (hb hby d17_11)
  have N105 := Fr.snoc X105 N102 ga
  have O105 := O102.wr W105 ga
  have K105 := K102.wr W105 (Or.inl (List.mem_of_getElem? (i := 0) rfl))
  have F105 := f103.same W105
  refine own_go (S' := (T105.setTop (mkF m 14 #[.val (.ref a), .val (.ref d), .val (.int (1 : Int32))] []))) (fun tq kq => st105 tq kq) ?_
  refine own_retV X105 hx hlk hret (hb hby d17_14) (by decide) (by decide) ?_
  have f106 := (F102.other W105 (Or.inr (slot_ne (Or.inr (hw _ (List.mem_of_getElem? (i := 22) rfl))) (Or.inr (hw _ (List.mem_of_getElem? (i := 23) rfl))) (by decide) (t := (.array .byte)) (t' := .byte) (by decide) (by decide))))
  rw [e105]
  exact ⟨rfl, N105, K105, f106, F105⟩
theorem pn_valc : plainName "java/lang/String" = true := by first | (simp [plainName, overriddenIn]; done) | decide +kernel
theorem ef_valc (m : MethodId) (ch : Int32) (z : Int32) (fm : Value) : entryFrame m #[(.int ch)] 1 = mkF m 0 #[.val (.int ch)] [] := by first | (simp [entryFrame, mkF, argsToLocals, Value.category]; done) | rfl
def Q_valc (Z : State) (h0 : Heap) (n0 : Nat) (ch : Int32) (z : Int32) (fm : Value) (v : Option Value) (h : Heap) (L : List Loc) : Prop := ∃ b : Addr, v = some (.ref b) ∧ Fr n0 L ∧ Keep h0 h [] ∧ h0.size ≤ b ∧ Exa Z h b "java/lang/String" ∧ ∃ (d : Addr) (kd : ClassId), (Fld Z h b "java/lang/String" "coder" "B" (.int (0 : Int32)) ∧ Fld Z h b "java/lang/String" "value" "[B" (.ref d) ∧ own_Ar Z h d kd .byte [(.int (own_lb ch))] ∧ ¬ ((255 : Int32) < ch)) ∨ (Fld Z h b "java/lang/String" "coder" "B" (.int (1 : Int32)) ∧ Fld Z h b "java/lang/String" "value" "[B" (.ref d) ∧ own_Ar Z h d kd .byte [(.int (own_b0 ch)), (.int (own_b1 ch))] ∧ (255 : Int32) < ch)
set_option maxRecDepth 65536 in
set_option maxHeartbeats 40000000 in
theorem valc (l : Launch) (Z : State) (a0 : Array Value) (hw : ∀ d ∈ tables_1, d.before a0 Z = true) (ws : List Jvm.Cond) (h0 : Heap) (n0 : Nat) (O0 : Old Z n0 h0) (ch : Int32) (z : Int32) (fm : Value) (SC : Sta Z Z.heap "java/lang/String" "COMPACT_STRINGS" "Z" (.int z)) (hz : ¬ (z = (0 : Int32))) (SA : Sta Z Z.heap "java/lang/StringUTF16" "$assertionsDisabled" "Z" (.int (1 : Int32))) (SH : Sta Z Z.heap "java/lang/StringUTF16" "HI_BYTE_SHIFT" "I" (.int (0 : Int32))) (SL : Sta Z Z.heap "java/lang/StringUTF16" "LO_BYTE_SHIFT" "I" (.int (8 : Int32))) (SF : Sta Z Z.heap "jdk/internal/util/Preconditions" "SIOOBE_FORMATTER" "Ljava/util/function/BiFunction;" fm) (hfm : fm.isRef = true) :
    MetFree l (⟨"java/lang/String", "valueOf", "(C)Ljava/lang/String;"⟩ : MethodName) (head1 (Jvm.Cond.code (⟨"java/lang/String", "valueOf", "(C)Ljava/lang/String;"⟩ : MethodName) jdk_42_method_139_code 1 (some (.object "java/lang/String")) :: ws) ({ frames := 2, cells := 2, slots := 6, locals := 29 } : Room)) (fun aq U => aq = #[(.int ch)] ∧ Z.Warmed39 U.vm ∧ U.heap = h0) (fun _ _ _ _ _ => True) (fun _ U oo U' => ∃ v L, oo = .returned v ∧ Q_valc Z h0 n0 ch z fm v U'.heap L ∧ FrameEnd U oo U' L ({ frames := 2, cells := 2, slots := 6, locals := 29 } : Room).cells ({ frames := 2, cells := 2, slots := 6, locals := 29 } : Room).slots) := by
  refine MetFree.of_bodySF (plainFor_of_name pn_valc) hisR ?_
  intro p e s m args below meth c s₁ Bd hml0 hP hK
  obtain ⟨rfl, hZ, hh⟩ := hP
  have hx := Bd.exec
  have hby := Bd.bytes
  have hml : c.maxLocals = 1 := hml0
  have hown : s.vm.findClass "java/lang/String" = some m.cls := findClass_of_methodNamed Bd.named
  have hnm := (name_of_methodNamed Bd.named Bd.method).1
  have hlk := Bd.notSynchronized
  have hret := Bd.returns
  have X0 : Stand p l e ({ frames := 2, cells := 2, slots := 6, locals := 29 } : Room) s m #[(.int ch)] below meth c s₁ [] 0 0 := Stand.of_body Bd
  have e0 : s₁.heap = h0 := by rw [← hh, Bd.state]; rfl
  have N0 := Fr.nil n0
  have K0 := Keep.refl h0 []
  refine own_go (S' := (s₁.setTop (mkF m 0 #[.val (.int ch)] []))) (fun tq kq => castTop (ef_valc m ch z fm) kq) ?_
  show own_G p e s below (Q_valc Z h0 n0 ch z fm) _ _ _
  obtain ⟨T101, X101, e101, st101⟩ := getS2 X0 hx hZ hown (host := "") (Or.inl (hw _ (List.mem_of_getElem? (i := 42) rfl))) Via.refl e0 (SC.ext O0.2) (g := (mkF m 0 #[.val (.int ch)] [])) rfl (hb hby d14_0)
  refine own_go (S' := (T101.setTop (mkF m 7 #[.val (.int ch)] [(.int ch)]))) (fun tq kq => st101 tq (XS.ifNo X101.here hx rfl (hb hby d14_3) rfl ((if0 _ _).trans (feq hz).1) (XS.iloadN X101.here hx rfl (hb hby d14_6) rfl kq))) ?_
  obtain ⟨_, _, ⟨T102, L102, k102, n102⟩, -, X102, ⟨Lc102, hQ102, l102, y102, z102⟩, st102⟩ := Jvm.LawKit.callS X101 hx (y := (⟨"java/lang/StringLatin1", "canEncode", "(C)Z"⟩ : MethodName)) hown (mvT hZ (hw _ (List.mem_of_getElem? (i := 71) rfl))) (mvT hZ (hw _ (List.mem_of_getElem? (i := 72) rfl))) (mvT hZ (hw _ (List.mem_of_getElem? (i := 73) rfl))) (mvT hZ (hw _ (List.mem_of_getElem? (i := 74) rfl))) (by decide) (backOf (W := 0) (can l Z a0 hw [] h0 n0 O0 ch z fm SC hz SA SH SL SF hfm ) hZ (hw _ (List.mem_of_getElem? (i := 74) rfl)) (hw _ (List.mem_of_getElem? (i := 73) rfl)) (by decide) (by decide)) (g := (mkF m 7 #[.val (.int ch)] [(.int ch)])) rfl (by rw [hml]; rfl) (argsL := [(.int ch)]) (rest := []) (lenOf pd_9 rfl) rfl (by show 2 * 0 + _ ≤ _; exact Nat.le_of_eq rfl) (hb hby d14_7) (fun _ _ => ⟨rfl, e101, (by decide : 0 + 0 ≤ _), (by decide : 0 + 0 ≤ _)⟩)
  dsimp only [Pt.U, Pt.locs, Pt.cells, Pt.slots] at X102 l102 y102 z102 st102 hQ102
  subst l102 y102 z102
  obtain ⟨rfl, N102, eh102⟩ := hQ102
  have Nf102 := Fr.app N0 N102
  refine own_go (S' := (T102.setTop (mkF m 10 #[.val (.int ch)] [(.int (own_can ch))]))) (fun tq kq => st102 tq kq) ?_
  by_cases hcn : (255 : Int32) < ch
  · rw [show own_can ch = (0 : Int32) from by simp only [own_can, if_pos hcn]]
    refine own_go (S' := (T102.setTop (mkF m 26 #[.val (.int ch)] []))) (fun tq kq => XS.ifYes X102.here hx rfl (pc0 := 10) (pc' := 26) rfl (hb hby d14_10) rfl ((if0 _ _).trans (teq (by decide : (0 : Int32) = (0 : Int32))).1) (by decide) (by decide) kq) ?_
    obtain ⟨T103, h103, X103, e103, E103, A103, D103, -, st103⟩ := newO X102 hx hZ hown (hw _ (List.mem_of_getElem? (i := 75) rfl)) (hw _ (List.mem_of_getElem? (i := 7) rfl)) (hw _ (List.mem_of_getElem? (i := 8) rfl)) eh102 (g := (mkF m 26 #[.val (.int ch)] [])) rfl (hb hby d14_26) (by decide) (by decide)
    obtain ⟨b103, g103⟩ : ∃ z, z = h0.size := ⟨_, rfl⟩
    rw [← g103] at A103 D103 st103
    have ge_b103 : n0 ≤ b103 := Nat.le_trans (own_osz O0) (Nat.le_of_eq g103.symm)
    have gk_b103 : h0.size ≤ b103 := Nat.le_trans K0.1 (Nat.le_of_eq g103.symm)
    have O103 := O0.ext E103
    have K103 := K0.ext E103
    have F_value_b103 : Fld Z h103 b103 "java/lang/String" "value" "[B" .null := D103 (Or.inr (hw _ (List.mem_of_getElem? (i := 22) rfl))) (ty := (.array .byte)) (by decide)
    have F_coder_b103 : Fld Z h103 b103 "java/lang/String" "coder" "B" (.int (0 : Int32)) := D103 (Or.inr (hw _ (List.mem_of_getElem? (i := 23) rfl))) (ty := .byte) (by decide)
    refine own_go (S' := (T103.setTop (mkF m 31 #[.val (.int ch)] [(.int ch), (.ref b103), (.ref b103)]))) (fun tq kq => st103 tq (XS.dup X103.here hx rfl (hb hby d14_29) rfl rfl (XS.iloadN X103.here hx rfl (hb hby d14_30) rfl kq))) ?_
    obtain ⟨_, _, ⟨T104, L104, k104, n104⟩, -, X104, ⟨Lc104, hQ104, l104, y104, z104⟩, st104⟩ := Jvm.LawKit.callS X103 hx (y := (⟨"java/lang/StringUTF16", "toBytes", "(C)[B"⟩ : MethodName)) hown (mvT hZ (hw _ (List.mem_of_getElem? (i := 136) rfl))) (mvT hZ (hw _ (List.mem_of_getElem? (i := 137) rfl))) (mvT hZ (hw _ (List.mem_of_getElem? (i := 60) rfl))) (mvT hZ (hw _ (List.mem_of_getElem? (i := 138) rfl))) (by decide) (backOf (W := 2) (u16c l Z a0 hw [] h103 n0 O103 ch z fm SC hz SA SH SL SF hfm ) hZ (hw _ (List.mem_of_getElem? (i := 138) rfl)) (hw _ (List.mem_of_getElem? (i := 60) rfl)) (by decide) (by decide)) (g := (mkF m 31 #[.val (.int ch)] [(.int ch), (.ref b103), (.ref b103)])) rfl (by rw [hml]; rfl) (argsL := [(.int ch)]) (rest := [(.ref b103), (.ref b103)]) (lenOf pd_10 rfl) rfl (by show 2 * 0 + _ ≤ _; exact Nat.le_of_eq rfl) (hb hby d14_31) (fun _ _ => ⟨rfl, e103, (by decide : 1 + 1 ≤ _), (by decide : 4 + 2 ≤ _)⟩)
    dsimp only [Pt.U, Pt.locs, Pt.cells, Pt.slots] at X104 l104 y104 z104 st104 hQ104
    subst l104 y104 z104
    obtain ⟨b104, kb104, rfl, N104, K104, gb104, V104⟩ := hQ104
    have Nf104 := Fr.app Nf102 N104
    have O104 := O103.keep K104 all0
    have KK104 := K103.trans K104 all0
    have ne_b103_b104 : b103 ≠ b104 := Nat.ne_of_lt (Nat.lt_of_lt_of_le A103.lt gb104)
    have ge_b104 : n0 ≤ b104 := Nat.le_trans (own_osz O103) gb104
    have gk_b104 : h0.size ≤ b104 := Nat.le_trans K103.1 gb104
    refine own_go (S' := (T104.setTop (mkF m 35 #[.val (.int ch)] [(.int (1 : Int32)), (.ref b104), (.ref b103), (.ref b103)]))) (fun tq kq => st104 tq (XS.iconst X104.here hx rfl (hb hby d14_34) kq)) ?_
    have f105 := (A103.keep K104)
    have f106 := (F_value_b103.keep K104 nin0)
    have f107 := (F_coder_b103.keep K104 nin0)
    obtain ⟨_, _, ⟨T108, L108, k108, n108⟩, -, X108, ⟨Lc108, hQ108, l108, y108, z108⟩, st108⟩ := X104.specialBack hx (y := (⟨"java/lang/String", "<init>", "([BB)V"⟩ : MethodName)) rfl hown (mvT hZ (hw _ (List.mem_of_getElem? (i := 79) rfl))) (mvT hZ (hw _ (List.mem_of_getElem? (i := 80) rfl))) (mvT hZ (hw _ (List.mem_of_getElem? (i := 81) rfl))) (by decide) (backOf (W := 1) (inb1 l Z a0 hw [] T104.heap n0 O104 b103 b104 z fm SC hz SA SH SL SF hfm f105 f106 f107 ge_b103) hZ (hw _ (List.mem_of_getElem? (i := 81) rfl)) (hw _ (List.mem_of_getElem? (i := 8) rfl)) (by decide) (by decide)) (g := (mkF m 35 #[.val (.int ch)] [(.int (1 : Int32)), (.ref b104), (.ref b103), (.ref b103)])) rfl (by rw [hml]; rfl) (Steps.refl _) (a := b103) (argsL := [(.ref b104), (.int (1 : Int32))]) (rest := [(.ref b103)]) (lenOf pd_11 rfl) rfl (by show 2 * 0 + _ ≤ _; exact Nat.le_of_eq rfl) (hb hby d14_35) (fun _ _ => ⟨rfl, rfl, (by decide : 2 + 0 ≤ _), (by decide : 6 + 0 ≤ _)⟩)
    dsimp only [Pt.U, Pt.locs, Pt.cells, Pt.slots] at X108 l108 y108 z108 st108 hQ108
    subst l108 y108 z108
    obtain ⟨rfl, N108, K108, Fv108, Fc108⟩ := hQ108
    have Nf108 := Fr.app Nf104 N108
    have O108 := O104.keep K108 (allS ge_b103 all0)
    have KK108 := KK104.trans K108 (allS (Or.inr gk_b103) all0)
    refine own_go (S' := (T108.setTop (mkF m 38 #[.val (.int ch)] [(.ref b103)]))) (fun tq kq => st108.trans kq) ?_
    refine own_retA X108 hx hlk hret rfl rfl (hb hby d14_38) (by decide) (by decide) ?_
    have f109 := (V104.keep K108 (ninS (Ne.symm ne_b103_b104) nin0))
    have f110 := (f105.keep K108)
    exact ⟨b103, rfl, Nf108, KK108, gk_b103, f110, b104, _, Or.inr ⟨Fc108, Fv108, f109, hcn⟩⟩
  · rw [show own_can ch = (1 : Int32) from by simp only [own_can, if_neg hcn]]
    refine own_go (S' := (T102.setTop (mkF m 13 #[.val (.int ch)] []))) (fun tq kq => XS.ifNo X102.here hx rfl (hb hby d14_10) rfl ((if0 _ _).trans (feq (by decide : ¬ ((1 : Int32) = (0 : Int32)))).1) kq) ?_
    obtain ⟨T111, h111, X111, e111, E111, A111, D111, -, st111⟩ := newO X102 hx hZ hown (hw _ (List.mem_of_getElem? (i := 75) rfl)) (hw _ (List.mem_of_getElem? (i := 7) rfl)) (hw _ (List.mem_of_getElem? (i := 8) rfl)) eh102 (g := (mkF m 13 #[.val (.int ch)] [])) rfl (hb hby d14_13) (by decide) (by decide)
    obtain ⟨b111, g111⟩ : ∃ z, z = h0.size := ⟨_, rfl⟩
    rw [← g111] at A111 D111 st111
    have ge_b111 : n0 ≤ b111 := Nat.le_trans (own_osz O0) (Nat.le_of_eq g111.symm)
    have gk_b111 : h0.size ≤ b111 := Nat.le_trans K0.1 (Nat.le_of_eq g111.symm)
    have O111 := O0.ext E111
    have K111 := K0.ext E111
    have F_value_b111 : Fld Z h111 b111 "java/lang/String" "value" "[B" .null := D111 (Or.inr (hw _ (List.mem_of_getElem? (i := 22) rfl))) (ty := (.array .byte)) (by decide)
    have F_coder_b111 : Fld Z h111 b111 "java/lang/String" "coder" "B" (.int (0 : Int32)) := D111 (Or.inr (hw _ (List.mem_of_getElem? (i := 23) rfl))) (ty := .byte) (by decide)
    refine own_go (S' := (T111.setTop (mkF m 18 #[.val (.int ch)] [(.int ch), (.ref b111), (.ref b111)]))) (fun tq kq => st111 tq (XS.dup X111.here hx rfl (hb hby d14_16) rfl rfl (XS.iloadN X111.here hx rfl (hb hby d14_17) rfl kq))) ?_
    obtain ⟨_, _, ⟨T112, L112, k112, n112⟩, -, X112, ⟨Lc112, hQ112, l112, y112, z112⟩, st112⟩ := Jvm.LawKit.callS X111 hx (y := (⟨"java/lang/StringLatin1", "toBytes", "(C)[B"⟩ : MethodName)) hown (mvT hZ (hw _ (List.mem_of_getElem? (i := 76) rfl))) (mvT hZ (hw _ (List.mem_of_getElem? (i := 77) rfl))) (mvT hZ (hw _ (List.mem_of_getElem? (i := 73) rfl))) (mvT hZ (hw _ (List.mem_of_getElem? (i := 78) rfl))) (by decide) (backOf (W := 2) (l1c l Z a0 hw [] h111 n0 O111 ch z fm SC hz SA SH SL SF hfm ) hZ (hw _ (List.mem_of_getElem? (i := 78) rfl)) (hw _ (List.mem_of_getElem? (i := 73) rfl)) (by decide) (by decide)) (g := (mkF m 18 #[.val (.int ch)] [(.int ch), (.ref b111), (.ref b111)])) rfl (by rw [hml]; rfl) (argsL := [(.int ch)]) (rest := [(.ref b111), (.ref b111)]) (lenOf pd_10 rfl) rfl (by show 2 * 0 + _ ≤ _; exact Nat.le_of_eq rfl) (hb hby d14_18) (fun _ _ => ⟨rfl, e111, (by decide : 1 + 1 ≤ _), (by decide : 4 + 1 ≤ _)⟩)
    dsimp only [Pt.U, Pt.locs, Pt.cells, Pt.slots] at X112 l112 y112 z112 st112 hQ112
    subst l112 y112 z112
    obtain ⟨b112, kb112, rfl, N112, K112, gb112, V112⟩ := hQ112
    have Nf112 := Fr.app Nf102 N112
    have O112 := O111.keep K112 all0
    have KK112 := K111.trans K112 all0
    have ne_b111_b112 : b111 ≠ b112 := Nat.ne_of_lt (Nat.lt_of_lt_of_le A111.lt gb112)
    have ge_b112 : n0 ≤ b112 := Nat.le_trans (own_osz O111) gb112
    have gk_b112 : h0.size ≤ b112 := Nat.le_trans K111.1 gb112
    refine own_go (S' := (T112.setTop (mkF m 22 #[.val (.int ch)] [(.int (0 : Int32)), (.ref b112), (.ref b111), (.ref b111)]))) (fun tq kq => st112 tq (XS.iconst X112.here hx rfl (hb hby d14_21) kq)) ?_
    have f113 := (A111.keep K112)
    have f114 := (F_value_b111.keep K112 nin0)
    have f115 := (F_coder_b111.keep K112 nin0)
    obtain ⟨_, _, ⟨T116, L116, k116, n116⟩, -, X116, ⟨Lc116, hQ116, l116, y116, z116⟩, st116⟩ := X112.specialBack hx (y := (⟨"java/lang/String", "<init>", "([BB)V"⟩ : MethodName)) rfl hown (mvT hZ (hw _ (List.mem_of_getElem? (i := 79) rfl))) (mvT hZ (hw _ (List.mem_of_getElem? (i := 80) rfl))) (mvT hZ (hw _ (List.mem_of_getElem? (i := 81) rfl))) (by decide) (backOf (W := 1) (inb0 l Z a0 hw [] T112.heap n0 O112 b111 b112 z fm SC hz SA SH SL SF hfm f113 f114 f115 ge_b111) hZ (hw _ (List.mem_of_getElem? (i := 81) rfl)) (hw _ (List.mem_of_getElem? (i := 8) rfl)) (by decide) (by decide)) (g := (mkF m 22 #[.val (.int ch)] [(.int (0 : Int32)), (.ref b112), (.ref b111), (.ref b111)])) rfl (by rw [hml]; rfl) (Steps.refl _) (a := b111) (argsL := [(.ref b112), (.int (0 : Int32))]) (rest := [(.ref b111)]) (lenOf pd_11 rfl) rfl (by show 2 * 0 + _ ≤ _; exact Nat.le_of_eq rfl) (hb hby d14_22) (fun _ _ => ⟨rfl, rfl, (by decide : 2 + 0 ≤ _), (by decide : 5 + 0 ≤ _)⟩)
    dsimp only [Pt.U, Pt.locs, Pt.cells, Pt.slots] at X116 l116 y116 z116 st116 hQ116
    subst l116 y116 z116
    obtain ⟨rfl, N116, K116, Fv116, Fc116⟩ := hQ116
    have Nf116 := Fr.app Nf112 N116
    have O116 := O112.keep K116 (allS ge_b111 all0)
    have KK116 := KK112.trans K116 (allS (Or.inr gk_b111) all0)
    refine own_go (S' := (T116.setTop (mkF m 25 #[.val (.int ch)] [(.ref b111)]))) (fun tq kq => st116.trans kq) ?_
    refine own_retA X116 hx hlk hret rfl rfl (hb hby d14_25) (by decide) (by decide) ?_
    have f117 := (V112.keep K116 (ninS (Ne.symm ne_b111_b112) nin0))
    have f118 := (f113.keep K116)
    exact ⟨b111, rfl, Nf116, KK116, gk_b111, f118, b112, _, Or.inl ⟨Fc116, Fv116, f117, hcn⟩⟩
theorem pn_cmpr2 : plainName "java/lang/StringUTF16" = true := by first | (simp [plainName, overriddenIn]; done) | decide +kernel
theorem ef_cmpr2 (m : MethodId) (cs : Addr) (kcs : ClassId) (b : Addr) (kb : ClassId) (c0 : Int32) (c1 : Int32) (v0 : Value) (v1 : Value) (z : Int32) (fm : Value) : entryFrame m #[(.ref cs), (.int (0 : Int32)), (.ref b), (.int (0 : Int32)), (.int (2 : Int32))] 7 = mkF m 0 #[.val (.ref cs), .val (.int (0 : Int32)), .val (.ref b), .val (.int (0 : Int32)), .val (.int (2 : Int32)), .unset, .unset] [] := by first | (simp [entryFrame, mkF, argsToLocals, Value.category]; done) | rfl
def Q_cmpr2 (Z : State) (h0 : Heap) (n0 : Nat) (cs : Addr) (kcs : ClassId) (b : Addr) (kb : ClassId) (c0 : Int32) (c1 : Int32) (v0 : Value) (v1 : Value) (z : Int32) (fm : Value) (v : Option Value) (h : Heap) (L : List Loc) : Prop := v = some (.int (own_cnt2 c0 c1)) ∧ Fr n0 L ∧ Keep h0 h [b] ∧ ∃ vs : List Value, own_Ar Z h b kb .byte vs ∧ vs.length = 2
set_option maxRecDepth 65536 in
set_option maxHeartbeats 40000000 in
theorem cmpr2 (l : Launch) (Z : State) (a0 : Array Value) (hw : ∀ d ∈ tables_1, d.before a0 Z = true) (ws : List Jvm.Cond) (h0 : Heap) (n0 : Nat) (O0 : Old Z n0 h0) (cs : Addr) (kcs : ClassId) (b : Addr) (kb : ClassId) (c0 : Int32) (c1 : Int32) (v0 : Value) (v1 : Value) (z : Int32) (fm : Value) (SC : Sta Z Z.heap "java/lang/String" "COMPACT_STRINGS" "Z" (.int z)) (hz : ¬ (z = (0 : Int32))) (SA : Sta Z Z.heap "java/lang/StringUTF16" "$assertionsDisabled" "Z" (.int (1 : Int32))) (SH : Sta Z Z.heap "java/lang/StringUTF16" "HI_BYTE_SHIFT" "I" (.int (0 : Int32))) (SL : Sta Z Z.heap "java/lang/StringUTF16" "LO_BYTE_SHIFT" "I" (.int (8 : Int32))) (SF : Sta Z Z.heap "jdk/internal/util/Preconditions" "SIOOBE_FORMATTER" "Ljava/util/function/BiFunction;" fm) (hfm : fm.isRef = true) (Vcs : own_Ar Z h0 cs kcs .char [(.int c0), (.int c1)]) (Vb : own_Ar Z h0 b kb .byte [v0, v1]) (gb : n0 ≤ b) (ncb : cs ≠ b) :
    MetFree l (⟨"java/lang/StringUTF16", "compress", "([CI[BII)I"⟩ : MethodName) (head1 (Jvm.Cond.code (⟨"java/lang/StringUTF16", "compress", "([CI[BII)I"⟩ : MethodName) jdk_52_method_21_code 7 (some .int) :: ws) ({ frames := 0, cells := 0, slots := 0, locals := 0 } : Room)) (fun aq U => aq = #[(.ref cs), (.int (0 : Int32)), (.ref b), (.int (0 : Int32)), (.int (2 : Int32))] ∧ Z.Warmed39 U.vm ∧ U.heap = h0) (fun _ _ _ _ _ => True) (fun _ U oo U' => ∃ v L, oo = .returned v ∧ Q_cmpr2 Z h0 n0 cs kcs b kb c0 c1 v0 v1 z fm v U'.heap L ∧ FrameEnd U oo U' L ({ frames := 0, cells := 0, slots := 0, locals := 0 } : Room).cells ({ frames := 0, cells := 0, slots := 0, locals := 0 } : Room).slots) := by
  refine MetFree.of_bodySF (plainFor_of_name pn_cmpr2) hisR ?_
  intro p e s m args below meth c s₁ Bd hml0 hP hK
  obtain ⟨rfl, hZ, hh⟩ := hP
  have hx := Bd.exec
  have hby := Bd.bytes
  have hml : c.maxLocals = 7 := hml0
  have hown : s.vm.findClass "java/lang/StringUTF16" = some m.cls := findClass_of_methodNamed Bd.named
  have hnm := (name_of_methodNamed Bd.named Bd.method).1
  have hlk := Bd.notSynchronized
  have hret := Bd.returns
  have X0 : Stand p l e ({ frames := 0, cells := 0, slots := 0, locals := 0 } : Room) s m #[(.ref cs), (.int (0 : Int32)), (.ref b), (.int (0 : Int32)), (.int (2 : Int32))] below meth c s₁ [] 0 0 := Stand.of_body Bd
  have e0 : s₁.heap = h0 := by rw [← hh, Bd.state]; rfl
  have N0 := Fr.nil n0
  have K0 := Keep.refl h0 [b]
  refine own_go (S' := (s₁.setTop (mkF m 0 #[.val (.ref cs), .val (.int (0 : Int32)), .val (.ref b), .val (.int (0 : Int32)), .val (.int (2 : Int32)), .unset, .unset] []))) (fun tq kq => castTop (ef_cmpr2 m cs kcs b kb c0 c1 v0 v1 z fm) kq) ?_
  show own_G p e s below (Q_cmpr2 Z h0 n0 cs kcs b kb c0 c1 v0 v1 z fm) _ _ _
  refine own_go (S' := (s₁.setTop (mkF m 12 #[.val (.ref cs), .val (.int (0 : Int32)), .val (.ref b), .val (.int (0 : Int32)), .val (.int (2 : Int32)), .val (.int (0 : Int32)), .unset] [(.int (0 : Int32)), (.ref cs)]))) (fun tq kq => XS.iconst X0.here hx rfl (hb hby d12_0) (XS.istore X0.here hx rfl (hb hby d12_1) rfl (l' := #[.val (.ref cs), .val (.int (0 : Int32)), .val (.ref b), .val (.int (0 : Int32)), .val (.int (2 : Int32)), .val (.int (0 : Int32)), .unset]) rfl (XS.iload X0.here hx rfl (hb hby d12_3) rfl (XS.iload X0.here hx rfl (hb hby d12_5) rfl (XS.icmpNo X0.here hx rfl (hb hby d12_7) rfl (tlt (by decide : (0 : Int32) < (2 : Int32))).2.1 (XS.aloadN X0.here hx rfl (hb hby d12_10) rfl rfl (XS.iloadN X0.here hx rfl (hb hby d12_11) rfl kq))))))) ?_
  obtain ⟨cl101, Ar101, -, -, hin101, hat101⟩ := Vcs.at (j := (0 : Int32)) (v := (.int c0)) (by decide) rfl
  refine own_go (S' := (s₁.setTop (mkF m 20 #[.val (.ref cs), .val (.int (0 : Int32)), .val (.ref b), .val (.int (0 : Int32)), .val (.int (2 : Int32)), .val (.int (0 : Int32)), .val (.int c0)] [(.int (255 : Int32)), (.int c0)]))) (fun tq kq => X0.caload hx (j := (0 : Int32)) (v := (.int c0)) (by rw [e0]; exact Ar101.1) (State.isArrayOf_alike hZ.alike Ar101.2.1) Ar101.2.2 hin101 hat101 (g := (mkF m 12 #[.val (.ref cs), .val (.int (0 : Int32)), .val (.ref b), .val (.int (0 : Int32)), .val (.int (2 : Int32)), .val (.int (0 : Int32)), .unset] [(.int (0 : Int32)), (.ref cs)])) rfl rfl (hb hby d12_12) tq (XS.istore X0.here hx rfl (hb hby d12_13) rfl (l' := #[.val (.ref cs), .val (.int (0 : Int32)), .val (.ref b), .val (.int (0 : Int32)), .val (.int (2 : Int32)), .val (.int (0 : Int32)), .val (.int c0)]) rfl (XS.iload X0.here hx rfl (hb hby d12_15) rfl (XS.sipush X0.here hx rfl (hb hby d12_17) kq)))) ?_
  by_cases hc102 : (255 : Int32) < c0
  · refine own_go (S' := (s₁.setTop (mkF m 25 #[.val (.ref cs), .val (.int (0 : Int32)), .val (.ref b), .val (.int (0 : Int32)), .val (.int (2 : Int32)), .val (.int (0 : Int32)), .val (.int c0)] [(.int (0 : Int32))]))) (fun tq kq => XS.icmpNo X0.here hx rfl (hb hby d12_20) rfl (tlt hc102).2.2.2 (XS.iload X0.here hx rfl (hb hby d12_23) rfl kq)) ?_
    refine own_retI X0 hx hlk hret (hb hby d12_25) (by decide) (by decide) ?_
    rw [e0]
    exact ⟨by simp only [own_cnt2, if_pos hc102], N0, K0, _, Vb, rfl⟩
  · refine own_go (S' := (s₁.setTop (mkF m 31 #[.val (.ref cs), .val (.int (0 : Int32)), .val (.ref b), .val (.int (0 : Int32)), .val (.int (2 : Int32)), .val (.int (0 : Int32)), .val (.int c0)] [(.int (c0.toInt8.toInt32)), (.int (0 : Int32)), (.ref b)]))) (fun tq kq => XS.icmpYes X0.here hx rfl (pc0 := 20) (pc' := 26) rfl (hb hby d12_20) rfl (flt hc102).2.2.2 (by decide) (by decide) (XS.aloadN X0.here hx rfl (hb hby d12_26) rfl rfl (XS.iloadN X0.here hx rfl (hb hby d12_27) rfl (XS.iload X0.here hx rfl (hb hby d12_28) rfl (XS.i2b X0.here hx rfl (hb hby d12_30) rfl kq))))) ?_
    obtain ⟨cl103, Ar103, qa103, sa103, hin103, -⟩ := Vb.at (j := (0 : Int32)) (by decide) rfl
    obtain ⟨T103, h103, X103, e103, W103, st103⟩ := stB X0 hx hZ e0 Ar103 (j := (0 : Int32)) hin103 (g := (mkF m 31 #[.val (.ref cs), .val (.int (0 : Int32)), .val (.ref b), .val (.int (0 : Int32)), .val (.int (2 : Int32)), .val (.int (0 : Int32)), .val (.int c0)] [(.int (c0.toInt8.toInt32)), (.int (0 : Int32)), (.ref b)])) rfl rfl (hb hby d12_31)
    have N103 := Fr.snoc X103 N0 gb
    have O103 := O0.wr W103 gb
    have K103 := K0.wr W103 (Or.inl (List.mem_of_getElem? (i := 0) rfl))
    have V103 : own_Ar Z h103 b kb .byte [(.int ((c0.toInt8.toInt32).toInt8.toInt32)), v1] := own_Ar.set Ar103 qa103 sa103 Vb.small W103
    refine own_go (S' := (T103.setTop (mkF m 12 #[.val (.ref cs), .val (.int (1 : Int32)), .val (.ref b), .val (.int (1 : Int32)), .val (.int (2 : Int32)), .val (.int (1 : Int32)), .val (.int c0)] [(.int (1 : Int32)), (.ref cs)]))) (fun tq kq => st103 tq (XS.iinc X103.here hx rfl (hb hby d12_32) rfl (l' := #[.val (.ref cs), .val (.int (1 : Int32)), .val (.ref b), .val (.int (0 : Int32)), .val (.int (2 : Int32)), .val (.int (0 : Int32)), .val (.int c0)]) rfl (XS.iinc X103.here hx rfl (hb hby d12_35) rfl (l' := #[.val (.ref cs), .val (.int (1 : Int32)), .val (.ref b), .val (.int (1 : Int32)), .val (.int (2 : Int32)), .val (.int (0 : Int32)), .val (.int c0)]) rfl (XS.iinc X103.here hx rfl (hb hby d12_38) rfl (l' := #[.val (.ref cs), .val (.int (1 : Int32)), .val (.ref b), .val (.int (1 : Int32)), .val (.int (2 : Int32)), .val (.int (1 : Int32)), .val (.int c0)]) rfl (XS.goto X103.here hx rfl (pc0 := 41) (pc' := 3) rfl (hb hby d12_41) (by decide) (by decide) (XS.iload X103.here hx rfl (hb hby d12_3) rfl (XS.iload X103.here hx rfl (hb hby d12_5) rfl (XS.icmpNo X103.here hx rfl (hb hby d12_7) rfl (tlt (by decide : (1 : Int32) < (2 : Int32))).2.1 (XS.aloadN X103.here hx rfl (hb hby d12_10) rfl rfl (XS.iloadN X103.here hx rfl (hb hby d12_11) rfl kq)))))))))) ?_
    have f104 := (Vcs.other W103 ncb)
    obtain ⟨cl105, Ar105, -, -, hin105, hat105⟩ := f104.at (j := (1 : Int32)) (v := (.int c1)) (by decide) rfl
    refine own_go (S' := (T103.setTop (mkF m 20 #[.val (.ref cs), .val (.int (1 : Int32)), .val (.ref b), .val (.int (1 : Int32)), .val (.int (2 : Int32)), .val (.int (1 : Int32)), .val (.int c1)] [(.int (255 : Int32)), (.int c1)]))) (fun tq kq => X103.caload hx (j := (1 : Int32)) (v := (.int c1)) (by rw [e103]; exact Ar105.1) (State.isArrayOf_alike hZ.alike Ar105.2.1) Ar105.2.2 hin105 hat105 (g := (mkF m 12 #[.val (.ref cs), .val (.int (1 : Int32)), .val (.ref b), .val (.int (1 : Int32)), .val (.int (2 : Int32)), .val (.int (1 : Int32)), .val (.int c0)] [(.int (1 : Int32)), (.ref cs)])) rfl rfl (hb hby d12_12) tq (XS.istore X103.here hx rfl (hb hby d12_13) rfl (l' := #[.val (.ref cs), .val (.int (1 : Int32)), .val (.ref b), .val (.int (1 : Int32)), .val (.int (2 : Int32)), .val (.int (1 : Int32)), .val (.int c1)]) rfl (XS.iload X103.here hx rfl (hb hby d12_15) rfl (XS.sipush X103.here hx rfl (hb hby d12_17) kq)))) ?_
    by_cases hc106 : (255 : Int32) < c1
    · refine own_go (S' := (T103.setTop (mkF m 25 #[.val (.ref cs), .val (.int (1 : Int32)), .val (.ref b), .val (.int (1 : Int32)), .val (.int (2 : Int32)), .val (.int (1 : Int32)), .val (.int c1)] [(.int (1 : Int32))]))) (fun tq kq => XS.icmpNo X103.here hx rfl (hb hby d12_20) rfl (tlt hc106).2.2.2 (XS.iload X103.here hx rfl (hb hby d12_23) rfl kq)) ?_
      refine own_retI X103 hx hlk hret (hb hby d12_25) (by decide) (by decide) ?_
      rw [e103]
      exact ⟨by simp only [own_cnt2, if_neg hc102, if_pos hc106], N103, K103, _, V103, rfl⟩
    · refine own_go (S' := (T103.setTop (mkF m 31 #[.val (.ref cs), .val (.int (1 : Int32)), .val (.ref b), .val (.int (1 : Int32)), .val (.int (2 : Int32)), .val (.int (1 : Int32)), .val (.int c1)] [(.int (c1.toInt8.toInt32)), (.int (1 : Int32)), (.ref b)]))) (fun tq kq => XS.icmpYes X103.here hx rfl (pc0 := 20) (pc' := 26) rfl (hb hby d12_20) rfl (flt hc106).2.2.2 (by decide) (by decide) (XS.aloadN X103.here hx rfl (hb hby d12_26) rfl rfl (XS.iloadN X103.here hx rfl (hb hby d12_27) rfl (XS.iload X103.here hx rfl (hb hby d12_28) rfl (XS.i2b X103.here hx rfl (hb hby d12_30) rfl kq))))) ?_
      obtain ⟨cl107, Ar107, qa107, sa107, hin107, -⟩ := V103.at (j := (1 : Int32)) (by decide) rfl
      obtain ⟨T107, h107, X107, e107, W107, st107⟩ := stB X103 hx hZ e103 Ar107 (j := (1 : Int32)) hin107 (g := (mkF m 31 #[.val (.ref cs), .val (.int (1 : Int32)), .val (.ref b), .val (.int (1 : Int32)), .val (.int (2 : Int32)), .val (.int (1 : Int32)), .val (.int c1)] [(.int (c1.toInt8.toInt32)), (.int (1 : Int32)), (.ref b)])) rfl rfl (hb hby d12_31)
      have N107 := Fr.snoc X107 N103 gb
      have O107 := O103.wr W107 gb
      have K107 := K103.wr W107 (Or.inl (List.mem_of_getElem? (i := 0) rfl))
      have V107 : own_Ar Z h107 b kb .byte [(.int ((c0.toInt8.toInt32).toInt8.toInt32)), (.int ((c1.toInt8.toInt32).toInt8.toInt32))] := own_Ar.set Ar107 qa107 sa107 V103.small W107
      refine own_go (S' := (T107.setTop (mkF m 46 #[.val (.ref cs), .val (.int (2 : Int32)), .val (.ref b), .val (.int (2 : Int32)), .val (.int (2 : Int32)), .val (.int (2 : Int32)), .val (.int c1)] [(.int (2 : Int32))]))) (fun tq kq => st107 tq (XS.iinc X107.here hx rfl (hb hby d12_32) rfl (l' := #[.val (.ref cs), .val (.int (2 : Int32)), .val (.ref b), .val (.int (1 : Int32)), .val (.int (2 : Int32)), .val (.int (1 : Int32)), .val (.int c1)]) rfl (XS.iinc X107.here hx rfl (hb hby d12_35) rfl (l' := #[.val (.ref cs), .val (.int (2 : Int32)), .val (.ref b), .val (.int (2 : Int32)), .val (.int (2 : Int32)), .val (.int (1 : Int32)), .val (.int c1)]) rfl (XS.iinc X107.here hx rfl (hb hby d12_38) rfl (l' := #[.val (.ref cs), .val (.int (2 : Int32)), .val (.ref b), .val (.int (2 : Int32)), .val (.int (2 : Int32)), .val (.int (2 : Int32)), .val (.int c1)]) rfl (XS.goto X107.here hx rfl (pc0 := 41) (pc' := 3) rfl (hb hby d12_41) (by decide) (by decide) (XS.iload X107.here hx rfl (hb hby d12_3) rfl (XS.iload X107.here hx rfl (hb hby d12_5) rfl (XS.icmpYes X107.here hx rfl (pc0 := 7) (pc' := 44) rfl (hb hby d12_7) rfl (flt (by decide : ¬ ((2 : Int32) < (2 : Int32)))).2.1 (by decide) (by decide) (XS.iload X107.here hx rfl (hb hby d12_44) rfl kq))))))))) ?_
      refine own_retI X107 hx hlk hret (hb hby d12_46) (by decide) (by decide) ?_
      rw [e107]
      exact ⟨by simp only [own_cnt2, if_neg hc102, if_neg hc106], N107, K107, _, V107, rfl⟩
theorem pn_nbl2 : plainName "java/lang/StringUTF16" = true := by first | (simp [plainName, overriddenIn]; done) | decide +kernel
theorem ef_nbl2 (m : MethodId) (z : Int32) (fm : Value) : entryFrame m #[(.int (2 : Int32))] 1 = mkF m 0 #[.val (.int (2 : Int32))] [] := by first | (simp [entryFrame, mkF, argsToLocals, Value.category]; done) | rfl
def Q_nbl2 (Z : State) (h0 : Heap) (n0 : Nat) (z : Int32) (fm : Value) (v : Option Value) (h : Heap) (L : List Loc) : Prop := v = some (.int (4 : Int32)) ∧ Fr n0 L ∧ h = h0
set_option maxRecDepth 65536 in
set_option maxHeartbeats 40000000 in
theorem nbl2 (l : Launch) (Z : State) (a0 : Array Value) (hw : ∀ d ∈ tables_1, d.before a0 Z = true) (ws : List Jvm.Cond) (h0 : Heap) (n0 : Nat) (O0 : Old Z n0 h0) (z : Int32) (fm : Value) (SC : Sta Z Z.heap "java/lang/String" "COMPACT_STRINGS" "Z" (.int z)) (hz : ¬ (z = (0 : Int32))) (SA : Sta Z Z.heap "java/lang/StringUTF16" "$assertionsDisabled" "Z" (.int (1 : Int32))) (SH : Sta Z Z.heap "java/lang/StringUTF16" "HI_BYTE_SHIFT" "I" (.int (0 : Int32))) (SL : Sta Z Z.heap "java/lang/StringUTF16" "LO_BYTE_SHIFT" "I" (.int (8 : Int32))) (SF : Sta Z Z.heap "jdk/internal/util/Preconditions" "SIOOBE_FORMATTER" "Ljava/util/function/BiFunction;" fm) (hfm : fm.isRef = true) :
    MetFree l (⟨"java/lang/StringUTF16", "newBytesLength", "(I)I"⟩ : MethodName) (head1 (Jvm.Cond.code (⟨"java/lang/StringUTF16", "newBytesLength", "(I)I"⟩ : MethodName) jdk_52_method_3_code 1 (some .int) :: ws) ({ frames := 0, cells := 0, slots := 0, locals := 0 } : Room)) (fun aq U => aq = #[(.int (2 : Int32))] ∧ Z.Warmed39 U.vm ∧ U.heap = h0) (fun _ _ _ _ _ => True) (fun _ U oo U' => ∃ v L, oo = .returned v ∧ Q_nbl2 Z h0 n0 z fm v U'.heap L ∧ FrameEnd U oo U' L ({ frames := 0, cells := 0, slots := 0, locals := 0 } : Room).cells ({ frames := 0, cells := 0, slots := 0, locals := 0 } : Room).slots) := by
  refine MetFree.of_bodySF (plainFor_of_name pn_nbl2) hisR ?_
  intro p e s m args below meth c s₁ Bd hml0 hP hK
  obtain ⟨rfl, hZ, hh⟩ := hP
  have hx := Bd.exec
  have hby := Bd.bytes
  have hml : c.maxLocals = 1 := hml0
  have hown : s.vm.findClass "java/lang/StringUTF16" = some m.cls := findClass_of_methodNamed Bd.named
  have hnm := (name_of_methodNamed Bd.named Bd.method).1
  have hlk := Bd.notSynchronized
  have hret := Bd.returns
  have X0 : Stand p l e ({ frames := 0, cells := 0, slots := 0, locals := 0 } : Room) s m #[(.int (2 : Int32))] below meth c s₁ [] 0 0 := Stand.of_body Bd
  have e0 : s₁.heap = h0 := by rw [← hh, Bd.state]; rfl
  have N0 := Fr.nil n0
  have K0 := Keep.refl h0 []
  refine own_go (S' := (s₁.setTop (mkF m 0 #[.val (.int (2 : Int32))] []))) (fun tq kq => castTop (ef_nbl2 m z fm) kq) ?_
  show own_G p e s below (Q_nbl2 Z h0 n0 z fm) _ _ _
  refine own_go (S' := (s₁.setTop (mkF m 58 #[.val (.int (2 : Int32))] [(.int ((2 : Int32) <<< ((1 : Int32) &&& 31)))]))) (fun tq kq => XS.iloadN X0.here hx rfl (hb hby d27_0) rfl (XS.ifYes X0.here hx rfl (pc0 := 1) (pc' := 12) rfl (hb hby d27_1) rfl ((if0 _ _).trans (flt (by decide : ¬ ((2 : Int32) < (0 : Int32)))).2.1) (by decide) (by decide) (XS.iloadN X0.here hx rfl (hb hby d27_12) rfl (X0.ldcInt hx hown (mvT hZ (hw _ (List.mem_of_getElem? (i := 126) rfl))) (g := (mkF m 13 #[.val (.int (2 : Int32))] [(.int (2 : Int32))])) rfl (hb hby d27_13) tq (XS.icmpYes X0.here hx rfl (pc0 := 15) (pc' := 55) rfl (hb hby d27_15) rfl (tlt (by decide : (2 : Int32) < (1073741823 : Int32))).1 (by decide) (by decide) (XS.iloadN X0.here hx rfl (hb hby d27_55) rfl (XS.iconst X0.here hx rfl (hb hby d27_56) (XS.ishl X0.here hx rfl (hb hby d27_57) rfl kq)))))))) ?_
  rw [show ((2 : Int32) <<< ((1 : Int32) &&& 31)) = (4 : Int32) from by decide]
  refine own_retI X0 hx hlk hret (hb hby d27_58) (by decide) (by decide) ?_
  exact ⟨rfl, N0, e0⟩
theorem pn_nbf2 : plainName "java/lang/StringUTF16" = true := by first | (simp [plainName, overriddenIn]; done) | decide +kernel
theorem ef_nbf2 (m : MethodId) (z : Int32) (fm : Value) : entryFrame m #[(.int (2 : Int32))] 1 = mkF m 0 #[.val (.int (2 : Int32))] [] := by first | (simp [entryFrame, mkF, argsToLocals, Value.category]; done) | rfl
def Q_nbf2 (Z : State) (h0 : Heap) (n0 : Nat) (z : Int32) (fm : Value) (v : Option Value) (h : Heap) (L : List Loc) : Prop := ∃ (b : Addr) (kb : ClassId), v = some (.ref b) ∧ Fr n0 L ∧ Keep h0 h [] ∧ h0.size ≤ b ∧ own_Ar Z h b kb .byte [(.int (0 : Int32)), (.int (0 : Int32)), (.int (0 : Int32)), (.int (0 : Int32))]
set_option maxRecDepth 65536 in
set_option maxHeartbeats 40000000 in
theorem nbf2 (l : Launch) (Z : State) (a0 : Array Value) (hw : ∀ d ∈ tables_1, d.before a0 Z = true) (ws : List Jvm.Cond) (h0 : Heap) (n0 : Nat) (O0 : Old Z n0 h0) (z : Int32) (fm : Value) (SC : Sta Z Z.heap "java/lang/String" "COMPACT_STRINGS" "Z" (.int z)) (hz : ¬ (z = (0 : Int32))) (SA : Sta Z Z.heap "java/lang/StringUTF16" "$assertionsDisabled" "Z" (.int (1 : Int32))) (SH : Sta Z Z.heap "java/lang/StringUTF16" "HI_BYTE_SHIFT" "I" (.int (0 : Int32))) (SL : Sta Z Z.heap "java/lang/StringUTF16" "LO_BYTE_SHIFT" "I" (.int (8 : Int32))) (SF : Sta Z Z.heap "jdk/internal/util/Preconditions" "SIOOBE_FORMATTER" "Ljava/util/function/BiFunction;" fm) (hfm : fm.isRef = true) :
    MetFree l (⟨"java/lang/StringUTF16", "newBytesFor", "(I)[B"⟩ : MethodName) (head1 (Jvm.Cond.code (⟨"java/lang/StringUTF16", "newBytesFor", "(I)[B"⟩ : MethodName) jdk_52_method_2_code 1 (some (.array .byte)) :: ws) ({ frames := 1, cells := 1, slots := 4, locals := 12 } : Room)) (fun aq U => aq = #[(.int (2 : Int32))] ∧ Z.Warmed39 U.vm ∧ U.heap = h0) (fun _ _ _ _ _ => True) (fun _ U oo U' => ∃ v L, oo = .returned v ∧ Q_nbf2 Z h0 n0 z fm v U'.heap L ∧ FrameEnd U oo U' L ({ frames := 1, cells := 1, slots := 4, locals := 12 } : Room).cells ({ frames := 1, cells := 1, slots := 4, locals := 12 } : Room).slots) := by
  refine MetFree.of_bodySF (plainFor_of_name pn_nbf2) hisR ?_
  intro p e s m args below meth c s₁ Bd hml0 hP hK
  obtain ⟨rfl, hZ, hh⟩ := hP
  have hx := Bd.exec
  have hby := Bd.bytes
  have hml : c.maxLocals = 1 := hml0
  have hown : s.vm.findClass "java/lang/StringUTF16" = some m.cls := findClass_of_methodNamed Bd.named
  have hnm := (name_of_methodNamed Bd.named Bd.method).1
  have hlk := Bd.notSynchronized
  have hret := Bd.returns
  have X0 : Stand p l e ({ frames := 1, cells := 1, slots := 4, locals := 12 } : Room) s m #[(.int (2 : Int32))] below meth c s₁ [] 0 0 := Stand.of_body Bd
  have e0 : s₁.heap = h0 := by rw [← hh, Bd.state]; rfl
  have N0 := Fr.nil n0
  have K0 := Keep.refl h0 []
  refine own_go (S' := (s₁.setTop (mkF m 0 #[.val (.int (2 : Int32))] []))) (fun tq kq => castTop (ef_nbf2 m z fm) kq) ?_
  show own_G p e s below (Q_nbf2 Z h0 n0 z fm) _ _ _
  refine own_go (S' := (s₁.setTop (mkF m 1 #[.val (.int (2 : Int32))] [(.int (2 : Int32))]))) (fun tq kq => XS.iloadN X0.here hx rfl (hb hby d26_0) rfl kq) ?_
  obtain ⟨_, _, ⟨T101, L101, k101, n101⟩, -, X101, ⟨Lc101, hQ101, l101, y101, z101⟩, st101⟩ := Jvm.LawKit.callS X0 hx (y := (⟨"java/lang/StringUTF16", "newBytesLength", "(I)I"⟩ : MethodName)) hown (mvT hZ (hw _ (List.mem_of_getElem? (i := 123) rfl))) (mvT hZ (hw _ (List.mem_of_getElem? (i := 124) rfl))) (mvT hZ (hw _ (List.mem_of_getElem? (i := 60) rfl))) (mvT hZ (hw _ (List.mem_of_getElem? (i := 125) rfl))) (by decide) (backOf (W := 0) (nbl2 l Z a0 hw [] h0 n0 O0  z fm SC hz SA SH SL SF hfm ) hZ (hw _ (List.mem_of_getElem? (i := 125) rfl)) (hw _ (List.mem_of_getElem? (i := 60) rfl)) (by decide) (by decide)) (g := (mkF m 1 #[.val (.int (2 : Int32))] [(.int (2 : Int32))])) rfl (by rw [hml]; rfl) (argsL := [(.int (2 : Int32))]) (rest := []) (lenOf pd_12 rfl) rfl (by show 2 * 0 + _ ≤ _; exact Nat.le_of_eq rfl) (hb hby d26_1) (fun _ _ => ⟨rfl, e0, (by decide : 0 + 0 ≤ _), (by decide : 0 + 0 ≤ _)⟩)
  dsimp only [Pt.U, Pt.locs, Pt.cells, Pt.slots] at X101 l101 y101 z101 st101 hQ101
  subst l101 y101 z101
  obtain ⟨rfl, N101, eh101⟩ := hQ101
  have Nf101 := Fr.app N0 N101
  refine own_go (S' := (T101.setTop (mkF m 4 #[.val (.int (2 : Int32))] [(.int (4 : Int32))]))) (fun tq kq => st101 tq kq) ?_
  obtain ⟨T102, h102, k102, X102, e102, E102, A102, st102⟩ := newP X101 hx hZ (hw _ (List.mem_of_getElem? (i := 21) rfl)) eh101 (g := (mkF m 4 #[.val (.int (2 : Int32))] [(.int (4 : Int32))])) rfl (hb hby d26_4) rfl (by decide) (cap := 4) (by decide) (by decide) (by decide) (by decide)
  obtain ⟨b102, g102⟩ : ∃ z, z = h0.size := ⟨_, rfl⟩
  rw [← g102] at A102 st102
  have ge_b102 : n0 ≤ b102 := Nat.le_trans (own_osz O0) (Nat.le_of_eq g102.symm)
  have gk_b102 : h0.size ≤ b102 := Nat.le_trans K0.1 (Nat.le_of_eq g102.symm)
  have V102 : own_Ar Z h102 b102 k102 .byte [(.int (0 : Int32)), (.int (0 : Int32)), (.int (0 : Int32)), (.int (0 : Int32))] := own_Ar.new A102 (by decide)
  have O102 := O0.ext E102
  have K102 := K0.ext E102
  refine own_go (S' := (T102.setTop (mkF m 6 #[.val (.int (2 : Int32))] [(.ref b102)]))) (fun tq kq => st102 tq kq) ?_
  refine own_retA X102 hx hlk hret rfl rfl (hb hby d26_6) (by decide) (by decide) ?_
  rw [e102]
  exact ⟨b102, _, rfl, Nf101, K102, gk_b102, V102⟩
theorem pn_pc2_0 : plainName "java/lang/StringUTF16" = true := by first | (simp [plainName, overriddenIn]; done) | decide +kernel
theorem ef_pc2_0 (m : MethodId) (b : Addr) (kb : ClassId) (ch : Int32) (v0 : Value) (v1 : Value) (v2 : Value) (v3 : Value) (z : Int32) (fm : Value) : entryFrame m #[(.ref b), (.int (0 : Int32)), (.int ch)] 3 = mkF m 0 #[.val (.ref b), .val (.int (0 : Int32)), .val (.int ch)] [] := by first | (simp [entryFrame, mkF, argsToLocals, Value.category]; done) | rfl
def Q_pc2_0 (Z : State) (h0 : Heap) (n0 : Nat) (b : Addr) (kb : ClassId) (ch : Int32) (v0 : Value) (v1 : Value) (v2 : Value) (v3 : Value) (z : Int32) (fm : Value) (v : Option Value) (h : Heap) (L : List Loc) : Prop := v = none ∧ Fr n0 L ∧ Keep h0 h [b] ∧ own_Ar Z h b kb .byte [(.int (own_b0 ch)), (.int (own_b1 ch)), v2, v3]
set_option maxRecDepth 65536 in
set_option maxHeartbeats 40000000 in
theorem pc2_0 (l : Launch) (Z : State) (a0 : Array Value) (hw : ∀ d ∈ tables_1, d.before a0 Z = true) (ws : List Jvm.Cond) (h0 : Heap) (n0 : Nat) (O0 : Old Z n0 h0) (b : Addr) (kb : ClassId) (ch : Int32) (v0 : Value) (v1 : Value) (v2 : Value) (v3 : Value) (z : Int32) (fm : Value) (SC : Sta Z Z.heap "java/lang/String" "COMPACT_STRINGS" "Z" (.int z)) (hz : ¬ (z = (0 : Int32))) (SA : Sta Z Z.heap "java/lang/StringUTF16" "$assertionsDisabled" "Z" (.int (1 : Int32))) (SH : Sta Z Z.heap "java/lang/StringUTF16" "HI_BYTE_SHIFT" "I" (.int (0 : Int32))) (SL : Sta Z Z.heap "java/lang/StringUTF16" "LO_BYTE_SHIFT" "I" (.int (8 : Int32))) (SF : Sta Z Z.heap "jdk/internal/util/Preconditions" "SIOOBE_FORMATTER" "Ljava/util/function/BiFunction;" fm) (hfm : fm.isRef = true) (Vb : own_Ar Z h0 b kb .byte [v0, v1, v2, v3]) (gb : n0 ≤ b) :
    MetFree l (⟨"java/lang/StringUTF16", "putChar", "([BII)V"⟩ : MethodName) (head1 (Jvm.Cond.code (⟨"java/lang/StringUTF16", "putChar", "([BII)V"⟩ : MethodName) jdk_52_method_4_code 3 none :: ws) ({ frames := 0, cells := 0, slots := 0, locals := 0 } : Room)) (fun aq U => aq = #[(.ref b), (.int (0 : Int32)), (.int ch)] ∧ Z.Warmed39 U.vm ∧ U.heap = h0) (fun _ _ _ _ _ => True) (fun _ U oo U' => ∃ v L, oo = .returned v ∧ Q_pc2_0 Z h0 n0 b kb ch v0 v1 v2 v3 z fm v U'.heap L ∧ FrameEnd U oo U' L ({ frames := 0, cells := 0, slots := 0, locals := 0 } : Room).cells ({ frames := 0, cells := 0, slots := 0, locals := 0 } : Room).slots) := by
  refine MetFree.of_bodySF (plainFor_of_name pn_pc2_0) hisR ?_
  intro p e s m args below meth c s₁ Bd hml0 hP hK
  obtain ⟨rfl, hZ, hh⟩ := hP
  have hx := Bd.exec
  have hby := Bd.bytes
  have hml : c.maxLocals = 3 := hml0
  have hown : s.vm.findClass "java/lang/StringUTF16" = some m.cls := findClass_of_methodNamed Bd.named
  have hnm := (name_of_methodNamed Bd.named Bd.method).1
  have hlk := Bd.notSynchronized
  have hret := Bd.returns
  have X0 : Stand p l e ({ frames := 0, cells := 0, slots := 0, locals := 0 } : Room) s m #[(.ref b), (.int (0 : Int32)), (.int ch)] below meth c s₁ [] 0 0 := Stand.of_body Bd
  have e0 : s₁.heap = h0 := by rw [← hh, Bd.state]; rfl
  have N0 := Fr.nil n0
  have K0 := Keep.refl h0 [b]
  refine own_go (S' := (s₁.setTop (mkF m 0 #[.val (.ref b), .val (.int (0 : Int32)), .val (.int ch)] []))) (fun tq kq => castTop (ef_pc2_0 m b kb ch v0 v1 v2 v3 z fm) kq) ?_
  show own_G p e s below (Q_pc2_0 Z h0 n0 b kb ch v0 v1 v2 v3 z fm) _ _ _
  obtain ⟨T101, X101, e101, st101⟩ := getS2 X0 hx hZ hown (host := "") (Or.inl (hw _ (List.mem_of_getElem? (i := 130) rfl))) Via.refl e0 (SA.ext O0.2) (g := (mkF m 0 #[.val (.ref b), .val (.int (0 : Int32)), .val (.int ch)] [])) rfl (hb hby d28_0)
  refine own_go (S' := (T101.setTop (mkF m 31 #[.val (.ref b), .val (.int (0 : Int32)), .val (.int ch)] [(.int ((0 : Int32) <<< ((1 : Int32) &&& 31)))]))) (fun tq kq => st101 tq (XS.ifYes X101.here hx rfl (pc0 := 3) (pc' := 28) rfl (hb hby d28_3) rfl ((if0 _ _).trans (feq (by decide : ¬ ((1 : Int32) = (0 : Int32)))).2) (by decide) (by decide) (XS.iloadN X101.here hx rfl (hb hby d28_28) rfl (XS.iconst X101.here hx rfl (hb hby d28_29) (XS.ishl X101.here hx rfl (hb hby d28_30) rfl kq))))) ?_
  rw [show ((0 : Int32) <<< ((1 : Int32) &&& 31)) = (0 : Int32) from by decide]
  refine own_go (S' := (T101.setTop (mkF m 38 #[.val (.ref b), .val (.int (1 : Int32)), .val (.int ch)] [(.int ch), (.int (0 : Int32)), (.ref b)]))) (fun tq kq => XS.istoreN X101.here hx rfl (hb hby d28_31) rfl (l' := #[.val (.ref b), .val (.int (0 : Int32)), .val (.int ch)]) rfl (XS.aloadN X101.here hx rfl (hb hby d28_32) rfl rfl (XS.iloadN X101.here hx rfl (hb hby d28_33) rfl (XS.iinc X101.here hx rfl (hb hby d28_34) rfl (l' := #[.val (.ref b), .val (.int (1 : Int32)), .val (.int ch)]) rfl (XS.iloadN X101.here hx rfl (hb hby d28_37) rfl kq))))) ?_
  obtain ⟨T102, X102, e102, st102⟩ := getS2 X101 hx hZ hown (host := "") (Or.inl (hw _ (List.mem_of_getElem? (i := 131) rfl))) Via.refl e101 (SH.ext O0.2) (g := (mkF m 38 #[.val (.ref b), .val (.int (1 : Int32)), .val (.int ch)] [(.int ch), (.int (0 : Int32)), (.ref b)])) rfl (hb hby d28_38)
  refine own_go (S' := (T102.setTop (mkF m 43 #[.val (.ref b), .val (.int (1 : Int32)), .val (.int ch)] [(.int ((ch >>> ((0 : Int32) &&& 31)).toInt8.toInt32)), (.int (0 : Int32)), (.ref b)]))) (fun tq kq => st102 tq (XS.ishr X102.here hx rfl (hb hby d28_41) rfl (XS.i2b X102.here hx rfl (hb hby d28_42) rfl kq))) ?_
  obtain ⟨cl103, Ar103, qa103, sa103, hin103, -⟩ := Vb.at (j := (0 : Int32)) (by decide) rfl
  obtain ⟨T103, h103, X103, e103, W103, st103⟩ := stB X102 hx hZ e102 Ar103 (j := (0 : Int32)) hin103 (g := (mkF m 43 #[.val (.ref b), .val (.int (1 : Int32)), .val (.int ch)] [(.int ((ch >>> ((0 : Int32) &&& 31)).toInt8.toInt32)), (.int (0 : Int32)), (.ref b)])) rfl rfl (hb hby d28_43)
  have N103 := Fr.snoc X103 N0 gb
  have O103 := O0.wr W103 gb
  have K103 := K0.wr W103 (Or.inl (List.mem_of_getElem? (i := 0) rfl))
  have V103 : own_Ar Z h103 b kb .byte [(.int (((ch >>> ((0 : Int32) &&& 31)).toInt8.toInt32).toInt8.toInt32)), v1, v2, v3] := own_Ar.set Ar103 qa103 sa103 Vb.small W103
  refine own_go (S' := (T103.setTop (mkF m 47 #[.val (.ref b), .val (.int (1 : Int32)), .val (.int ch)] [(.int ch), (.int (1 : Int32)), (.ref b)]))) (fun tq kq => st103 tq (XS.aloadN X103.here hx rfl (hb hby d28_44) rfl rfl (XS.iloadN X103.here hx rfl (hb hby d28_45) rfl (XS.iloadN X103.here hx rfl (hb hby d28_46) rfl kq)))) ?_
  obtain ⟨T104, X104, e104, st104⟩ := getS2 X103 hx hZ hown (host := "") (Or.inl (hw _ (List.mem_of_getElem? (i := 132) rfl))) Via.refl e103 (SL.ext O103.2) (g := (mkF m 47 #[.val (.ref b), .val (.int (1 : Int32)), .val (.int ch)] [(.int ch), (.int (1 : Int32)), (.ref b)])) rfl (hb hby d28_47)
  refine own_go (S' := (T104.setTop (mkF m 52 #[.val (.ref b), .val (.int (1 : Int32)), .val (.int ch)] [(.int ((ch >>> ((8 : Int32) &&& 31)).toInt8.toInt32)), (.int (1 : Int32)), (.ref b)]))) (fun tq kq => st104 tq (XS.ishr X104.here hx rfl (hb hby d28_50) rfl (XS.i2b X104.here hx rfl (hb hby d28_51) rfl kq))) ?_
  obtain ⟨cl105, Ar105, qa105, sa105, hin105, -⟩ := V103.at (j := (1 : Int32)) (by decide) rfl
  obtain ⟨T105, h105, X105, e105, W105, st105⟩ := stB X104 hx hZ e104 Ar105 (j := (1 : Int32)) hin105 (g := (mkF m 52 #[.val (.ref b), .val (.int (1 : Int32)), .val (.int ch)] [(.int ((ch >>> ((8 : Int32) &&& 31)).toInt8.toInt32)), (.int (1 : Int32)), (.ref b)])) rfl rfl (hb hby d28_52)
  have N105 := Fr.snoc X105 N103 gb
  have O105 := O103.wr W105 gb
  have K105 := K103.wr W105 (Or.inl (List.mem_of_getElem? (i := 0) rfl))
  have V105 : own_Ar Z h105 b kb .byte [(.int (((ch >>> ((0 : Int32) &&& 31)).toInt8.toInt32).toInt8.toInt32)), (.int (((ch >>> ((8 : Int32) &&& 31)).toInt8.toInt32).toInt8.toInt32)), v2, v3] := own_Ar.set Ar105 qa105 sa105 V103.small W105
  refine own_go (S' := (T105.setTop (mkF m 53 #[.val (.ref b), .val (.int (1 : Int32)), .val (.int ch)] []))) (fun tq kq => st105 tq kq) ?_
  refine own_retV X105 hx hlk hret (hb hby d28_53) (by decide) (by decide) ?_
  rw [e105]
  exact ⟨rfl, N105, K105, V105⟩
theorem pn_pc2_1 : plainName "java/lang/StringUTF16" = true := by first | (simp [plainName, overriddenIn]; done) | decide +kernel
theorem ef_pc2_1 (m : MethodId) (b : Addr) (kb : ClassId) (ch : Int32) (v0 : Value) (v1 : Value) (v2 : Value) (v3 : Value) (z : Int32) (fm : Value) : entryFrame m #[(.ref b), (.int (1 : Int32)), (.int ch)] 3 = mkF m 0 #[.val (.ref b), .val (.int (1 : Int32)), .val (.int ch)] [] := by first | (simp [entryFrame, mkF, argsToLocals, Value.category]; done) | rfl
def Q_pc2_1 (Z : State) (h0 : Heap) (n0 : Nat) (b : Addr) (kb : ClassId) (ch : Int32) (v0 : Value) (v1 : Value) (v2 : Value) (v3 : Value) (z : Int32) (fm : Value) (v : Option Value) (h : Heap) (L : List Loc) : Prop := v = none ∧ Fr n0 L ∧ Keep h0 h [b] ∧ own_Ar Z h b kb .byte [v0, v1, (.int (own_b0 ch)), (.int (own_b1 ch))]
set_option maxRecDepth 65536 in
set_option maxHeartbeats 40000000 in
theorem pc2_1 (l : Launch) (Z : State) (a0 : Array Value) (hw : ∀ d ∈ tables_1, d.before a0 Z = true) (ws : List Jvm.Cond) (h0 : Heap) (n0 : Nat) (O0 : Old Z n0 h0) (b : Addr) (kb : ClassId) (ch : Int32) (v0 : Value) (v1 : Value) (v2 : Value) (v3 : Value) (z : Int32) (fm : Value) (SC : Sta Z Z.heap "java/lang/String" "COMPACT_STRINGS" "Z" (.int z)) (hz : ¬ (z = (0 : Int32))) (SA : Sta Z Z.heap "java/lang/StringUTF16" "$assertionsDisabled" "Z" (.int (1 : Int32))) (SH : Sta Z Z.heap "java/lang/StringUTF16" "HI_BYTE_SHIFT" "I" (.int (0 : Int32))) (SL : Sta Z Z.heap "java/lang/StringUTF16" "LO_BYTE_SHIFT" "I" (.int (8 : Int32))) (SF : Sta Z Z.heap "jdk/internal/util/Preconditions" "SIOOBE_FORMATTER" "Ljava/util/function/BiFunction;" fm) (hfm : fm.isRef = true) (Vb : own_Ar Z h0 b kb .byte [v0, v1, v2, v3]) (gb : n0 ≤ b) :
    MetFree l (⟨"java/lang/StringUTF16", "putChar", "([BII)V"⟩ : MethodName) (head1 (Jvm.Cond.code (⟨"java/lang/StringUTF16", "putChar", "([BII)V"⟩ : MethodName) jdk_52_method_4_code 3 none :: ws) ({ frames := 0, cells := 0, slots := 0, locals := 0 } : Room)) (fun aq U => aq = #[(.ref b), (.int (1 : Int32)), (.int ch)] ∧ Z.Warmed39 U.vm ∧ U.heap = h0) (fun _ _ _ _ _ => True) (fun _ U oo U' => ∃ v L, oo = .returned v ∧ Q_pc2_1 Z h0 n0 b kb ch v0 v1 v2 v3 z fm v U'.heap L ∧ FrameEnd U oo U' L ({ frames := 0, cells := 0, slots := 0, locals := 0 } : Room).cells ({ frames := 0, cells := 0, slots := 0, locals := 0 } : Room).slots) := by
  refine MetFree.of_bodySF (plainFor_of_name pn_pc2_1) hisR ?_
  intro p e s m args below meth c s₁ Bd hml0 hP hK
  obtain ⟨rfl, hZ, hh⟩ := hP
  have hx := Bd.exec
  have hby := Bd.bytes
  have hml : c.maxLocals = 3 := hml0
  have hown : s.vm.findClass "java/lang/StringUTF16" = some m.cls := findClass_of_methodNamed Bd.named
  have hnm := (name_of_methodNamed Bd.named Bd.method).1
  have hlk := Bd.notSynchronized
  have hret := Bd.returns
  have X0 : Stand p l e ({ frames := 0, cells := 0, slots := 0, locals := 0 } : Room) s m #[(.ref b), (.int (1 : Int32)), (.int ch)] below meth c s₁ [] 0 0 := Stand.of_body Bd
  have e0 : s₁.heap = h0 := by rw [← hh, Bd.state]; rfl
  have N0 := Fr.nil n0
  have K0 := Keep.refl h0 [b]
  refine own_go (S' := (s₁.setTop (mkF m 0 #[.val (.ref b), .val (.int (1 : Int32)), .val (.int ch)] []))) (fun tq kq => castTop (ef_pc2_1 m b kb ch v0 v1 v2 v3 z fm) kq) ?_
  show own_G p e s below (Q_pc2_1 Z h0 n0 b kb ch v0 v1 v2 v3 z fm) _ _ _
  obtain ⟨T101, X101, e101, st101⟩ := getS2 X0 hx hZ hown (host := "") (Or.inl (hw _ (List.mem_of_getElem? (i := 130) rfl))) Via.refl e0 (SA.ext O0.2) (g := (mkF m 0 #[.val (.ref b), .val (.int (1 : Int32)), .val (.int ch)] [])) rfl (hb hby d28_0)
  refine own_go (S' := (T101.setTop (mkF m 31 #[.val (.ref b), .val (.int (1 : Int32)), .val (.int ch)] [(.int ((1 : Int32) <<< ((1 : Int32) &&& 31)))]))) (fun tq kq => st101 tq (XS.ifYes X101.here hx rfl (pc0 := 3) (pc' := 28) rfl (hb hby d28_3) rfl ((if0 _ _).trans (feq (by decide : ¬ ((1 : Int32) = (0 : Int32)))).2) (by decide) (by decide) (XS.iloadN X101.here hx rfl (hb hby d28_28) rfl (XS.iconst X101.here hx rfl (hb hby d28_29) (XS.ishl X101.here hx rfl (hb hby d28_30) rfl kq))))) ?_
  rw [show ((1 : Int32) <<< ((1 : Int32) &&& 31)) = (2 : Int32) from by decide]
  refine own_go (S' := (T101.setTop (mkF m 38 #[.val (.ref b), .val (.int (3 : Int32)), .val (.int ch)] [(.int ch), (.int (2 : Int32)), (.ref b)]))) (fun tq kq => XS.istoreN X101.here hx rfl (hb hby d28_31) rfl (l' := #[.val (.ref b), .val (.int (2 : Int32)), .val (.int ch)]) rfl (XS.aloadN X101.here hx rfl (hb hby d28_32) rfl rfl (XS.iloadN X101.here hx rfl (hb hby d28_33) rfl (XS.iinc X101.here hx rfl (hb hby d28_34) rfl (l' := #[.val (.ref b), .val (.int (3 : Int32)), .val (.int ch)]) rfl (XS.iloadN X101.here hx rfl (hb hby d28_37) rfl kq))))) ?_
  obtain ⟨T102, X102, e102, st102⟩ := getS2 X101 hx hZ hown (host := "") (Or.inl (hw _ (List.mem_of_getElem? (i := 131) rfl))) Via.refl e101 (SH.ext O0.2) (g := (mkF m 38 #[.val (.ref b), .val (.int (3 : Int32)), .val (.int ch)] [(.int ch), (.int (2 : Int32)), (.ref b)])) rfl (hb hby d28_38)
  refine own_go (S' := (T102.setTop (mkF m 43 #[.val (.ref b), .val (.int (3 : Int32)), .val (.int ch)] [(.int ((ch >>> ((0 : Int32) &&& 31)).toInt8.toInt32)), (.int (2 : Int32)), (.ref b)]))) (fun tq kq => st102 tq (XS.ishr X102.here hx rfl (hb hby d28_41) rfl (XS.i2b X102.here hx rfl (hb hby d28_42) rfl kq))) ?_
  obtain ⟨cl103, Ar103, qa103, sa103, hin103, -⟩ := Vb.at (j := (2 : Int32)) (by decide) rfl
  obtain ⟨T103, h103, X103, e103, W103, st103⟩ := stB X102 hx hZ e102 Ar103 (j := (2 : Int32)) hin103 (g := (mkF m 43 #[.val (.ref b), .val (.int (3 : Int32)), .val (.int ch)] [(.int ((ch >>> ((0 : Int32) &&& 31)).toInt8.toInt32)), (.int (2 : Int32)), (.ref b)])) rfl rfl (hb hby d28_43)
  have N103 := Fr.snoc X103 N0 gb
  have O103 := O0.wr W103 gb
  have K103 := K0.wr W103 (Or.inl (List.mem_of_getElem? (i := 0) rfl))
  have V103 : own_Ar Z h103 b kb .byte [v0, v1, (.int (((ch >>> ((0 : Int32) &&& 31)).toInt8.toInt32).toInt8.toInt32)), v3] := own_Ar.set Ar103 qa103 sa103 Vb.small W103
  refine own_go (S' := (T103.setTop (mkF m 47 #[.val (.ref b), .val (.int (3 : Int32)), .val (.int ch)] [(.int ch), (.int (3 : Int32)), (.ref b)]))) (fun tq kq => st103 tq (XS.aloadN X103.here hx rfl (hb hby d28_44) rfl rfl (XS.iloadN X103.here hx rfl (hb hby d28_45) rfl (XS.iloadN X103.here hx rfl (hb hby d28_46) rfl kq)))) ?_
  obtain ⟨T104, X104, e104, st104⟩ := getS2 X103 hx hZ hown (host := "") (Or.inl (hw _ (List.mem_of_getElem? (i := 132) rfl))) Via.refl e103 (SL.ext O103.2) (g := (mkF m 47 #[.val (.ref b), .val (.int (3 : Int32)), .val (.int ch)] [(.int ch), (.int (3 : Int32)), (.ref b)])) rfl (hb hby d28_47)
  refine own_go (S' := (T104.setTop (mkF m 52 #[.val (.ref b), .val (.int (3 : Int32)), .val (.int ch)] [(.int ((ch >>> ((8 : Int32) &&& 31)).toInt8.toInt32)), (.int (3 : Int32)), (.ref b)]))) (fun tq kq => st104 tq (XS.ishr X104.here hx rfl (hb hby d28_50) rfl (XS.i2b X104.here hx rfl (hb hby d28_51) rfl kq))) ?_
  obtain ⟨cl105, Ar105, qa105, sa105, hin105, -⟩ := V103.at (j := (3 : Int32)) (by decide) rfl
  obtain ⟨T105, h105, X105, e105, W105, st105⟩ := stB X104 hx hZ e104 Ar105 (j := (3 : Int32)) hin105 (g := (mkF m 52 #[.val (.ref b), .val (.int (3 : Int32)), .val (.int ch)] [(.int ((ch >>> ((8 : Int32) &&& 31)).toInt8.toInt32)), (.int (3 : Int32)), (.ref b)])) rfl rfl (hb hby d28_52)
  have N105 := Fr.snoc X105 N103 gb
  have O105 := O103.wr W105 gb
  have K105 := K103.wr W105 (Or.inl (List.mem_of_getElem? (i := 0) rfl))
  have V105 : own_Ar Z h105 b kb .byte [v0, v1, (.int (((ch >>> ((0 : Int32) &&& 31)).toInt8.toInt32).toInt8.toInt32)), (.int (((ch >>> ((8 : Int32) &&& 31)).toInt8.toInt32).toInt8.toInt32))] := own_Ar.set Ar105 qa105 sa105 V103.small W105
  refine own_go (S' := (T105.setTop (mkF m 53 #[.val (.ref b), .val (.int (3 : Int32)), .val (.int ch)] []))) (fun tq kq => st105 tq kq) ?_
  refine own_retV X105 hx hlk hret (hb hby d28_53) (by decide) (by decide) ?_
  rw [e105]
  exact ⟨rfl, N105, K105, V105⟩
theorem pn_u16a2 : plainName "java/lang/StringUTF16" = true := by first | (simp [plainName, overriddenIn]; done) | decide +kernel
theorem ef_u16a2 (m : MethodId) (cs : Addr) (kcs : ClassId) (c0 : Int32) (c1 : Int32) (z : Int32) (fm : Value) : entryFrame m #[(.ref cs), (.int (0 : Int32)), (.int (2 : Int32))] 5 = mkF m 0 #[.val (.ref cs), .val (.int (0 : Int32)), .val (.int (2 : Int32)), .unset, .unset] [] := by first | (simp [entryFrame, mkF, argsToLocals, Value.category]; done) | rfl
def Q_u16a2 (Z : State) (h0 : Heap) (n0 : Nat) (cs : Addr) (kcs : ClassId) (c0 : Int32) (c1 : Int32) (z : Int32) (fm : Value) (v : Option Value) (h : Heap) (L : List Loc) : Prop := ∃ (b : Addr) (kb : ClassId), v = some (.ref b) ∧ Fr n0 L ∧ Keep h0 h [] ∧ h0.size ≤ b ∧ own_Ar Z h b kb .byte [(.int (own_b0 c0)), (.int (own_b1 c0)), (.int (own_b0 c1)), (.int (own_b1 c1))]
set_option maxRecDepth 65536 in
set_option maxHeartbeats 40000000 in
theorem u16a2 (l : Launch) (Z : State) (a0 : Array Value) (hw : ∀ d ∈ tables_1, d.before a0 Z = true) (ws : List Jvm.Cond) (h0 : Heap) (n0 : Nat) (O0 : Old Z n0 h0) (cs : Addr) (kcs : ClassId) (c0 : Int32) (c1 : Int32) (z : Int32) (fm : Value) (SC : Sta Z Z.heap "java/lang/String" "COMPACT_STRINGS" "Z" (.int z)) (hz : ¬ (z = (0 : Int32))) (SA : Sta Z Z.heap "java/lang/StringUTF16" "$assertionsDisabled" "Z" (.int (1 : Int32))) (SH : Sta Z Z.heap "java/lang/StringUTF16" "HI_BYTE_SHIFT" "I" (.int (0 : Int32))) (SL : Sta Z Z.heap "java/lang/StringUTF16" "LO_BYTE_SHIFT" "I" (.int (8 : Int32))) (SF : Sta Z Z.heap "jdk/internal/util/Preconditions" "SIOOBE_FORMATTER" "Ljava/util/function/BiFunction;" fm) (hfm : fm.isRef = true) (Vcs : own_Ar Z h0 cs kcs .char [(.int c0), (.int c1)]) :
    MetFree l (⟨"java/lang/StringUTF16", "toBytes", "([CII)[B"⟩ : MethodName) (head1 (Jvm.Cond.code (⟨"java/lang/StringUTF16", "toBytes", "([CII)[B"⟩ : MethodName) jdk_52_method_14_code 5 (some (.array .byte)) :: ws) ({ frames := 2, cells := 1, slots := 4, locals := 24 } : Room)) (fun aq U => aq = #[(.ref cs), (.int (0 : Int32)), (.int (2 : Int32))] ∧ Z.Warmed39 U.vm ∧ U.heap = h0) (fun _ _ _ _ _ => True) (fun _ U oo U' => ∃ v L, oo = .returned v ∧ Q_u16a2 Z h0 n0 cs kcs c0 c1 z fm v U'.heap L ∧ FrameEnd U oo U' L ({ frames := 2, cells := 1, slots := 4, locals := 24 } : Room).cells ({ frames := 2, cells := 1, slots := 4, locals := 24 } : Room).slots) := by
  refine MetFree.of_bodySF (plainFor_of_name pn_u16a2) hisR ?_
  intro p e s m args below meth c s₁ Bd hml0 hP hK
  obtain ⟨rfl, hZ, hh⟩ := hP
  have hx := Bd.exec
  have hby := Bd.bytes
  have hml : c.maxLocals = 5 := hml0
  have hown : s.vm.findClass "java/lang/StringUTF16" = some m.cls := findClass_of_methodNamed Bd.named
  have hnm := (name_of_methodNamed Bd.named Bd.method).1
  have hlk := Bd.notSynchronized
  have hret := Bd.returns
  have X0 : Stand p l e ({ frames := 2, cells := 1, slots := 4, locals := 24 } : Room) s m #[(.ref cs), (.int (0 : Int32)), (.int (2 : Int32))] below meth c s₁ [] 0 0 := Stand.of_body Bd
  have e0 : s₁.heap = h0 := by rw [← hh, Bd.state]; rfl
  have N0 := Fr.nil n0
  have K0 := Keep.refl h0 []
  refine own_go (S' := (s₁.setTop (mkF m 0 #[.val (.ref cs), .val (.int (0 : Int32)), .val (.int (2 : Int32)), .unset, .unset] []))) (fun tq kq => castTop (ef_u16a2 m cs kcs c0 c1 z fm) kq) ?_
  show own_G p e s below (Q_u16a2 Z h0 n0 cs kcs c0 c1 z fm) _ _ _
  refine own_go (S' := (s₁.setTop (mkF m 1 #[.val (.ref cs), .val (.int (0 : Int32)), .val (.int (2 : Int32)), .unset, .unset] [(.int (2 : Int32))]))) (fun tq kq => XS.iloadN X0.here hx rfl (hb hby d25_0) rfl kq) ?_
  obtain ⟨_, _, ⟨T101, L101, k101, n101⟩, -, X101, ⟨Lc101, hQ101, l101, y101, z101⟩, st101⟩ := Jvm.LawKit.callS X0 hx (y := (⟨"java/lang/StringUTF16", "newBytesFor", "(I)[B"⟩ : MethodName)) hown (mvT hZ (hw _ (List.mem_of_getElem? (i := 120) rfl))) (mvT hZ (hw _ (List.mem_of_getElem? (i := 121) rfl))) (mvT hZ (hw _ (List.mem_of_getElem? (i := 60) rfl))) (mvT hZ (hw _ (List.mem_of_getElem? (i := 122) rfl))) (by decide) (backOf (W := 0) (nbf2 l Z a0 hw [] h0 n0 O0  z fm SC hz SA SH SL SF hfm ) hZ (hw _ (List.mem_of_getElem? (i := 122) rfl)) (hw _ (List.mem_of_getElem? (i := 60) rfl)) (by decide) (by decide)) (g := (mkF m 1 #[.val (.ref cs), .val (.int (0 : Int32)), .val (.int (2 : Int32)), .unset, .unset] [(.int (2 : Int32))])) rfl (by rw [hml]; rfl) (argsL := [(.int (2 : Int32))]) (rest := []) (lenOf pd_13 rfl) rfl (by show 2 * 0 + _ ≤ _; exact Nat.le_of_eq rfl) (hb hby d25_1) (fun _ _ => ⟨rfl, e0, (by decide : 0 + 1 ≤ _), (by decide : 0 + 4 ≤ _)⟩)
  dsimp only [Pt.U, Pt.locs, Pt.cells, Pt.slots] at X101 l101 y101 z101 st101 hQ101
  subst l101 y101 z101
  obtain ⟨b101, kb101, rfl, N101, K101, gb101, V101⟩ := hQ101
  have Nf101 := Fr.app N0 N101
  have O101 := O0.keep K101 all0
  have KK101 := K0.trans K101 all0
  have ne_cs_b101 : cs ≠ b101 := Nat.ne_of_lt (Nat.lt_of_lt_of_le Vcs.lt gb101)
  have ge_b101 : n0 ≤ b101 := Nat.le_trans (own_osz O0) gb101
  have gk_b101 : h0.size ≤ b101 := Nat.le_trans K0.1 gb101
  refine own_go (S' := (T101.setTop (mkF m 18 #[.val (.ref cs), .val (.int (0 : Int32)), .val (.int (2 : Int32)), .val (.ref b101), .val (.int (0 : Int32))] [(.ref cs), (.int (0 : Int32)), (.ref b101)]))) (fun tq kq => st101 tq (XS.astoreN X101.here hx rfl (hb hby d25_4) rfl rfl (l' := #[.val (.ref cs), .val (.int (0 : Int32)), .val (.int (2 : Int32)), .val (.ref b101), .unset]) rfl (XS.iconst X101.here hx rfl (hb hby d25_5) (XS.istore X101.here hx rfl (hb hby d25_6) rfl (l' := #[.val (.ref cs), .val (.int (0 : Int32)), .val (.int (2 : Int32)), .val (.ref b101), .val (.int (0 : Int32))]) rfl (XS.iload X101.here hx rfl (hb hby d25_8) rfl (XS.iloadN X101.here hx rfl (hb hby d25_10) rfl (XS.icmpNo X101.here hx rfl (hb hby d25_11) rfl (tlt (by decide : (0 : Int32) < (2 : Int32))).2.1 (XS.aloadN X101.here hx rfl (hb hby d25_14) rfl rfl (XS.iload X101.here hx rfl (hb hby d25_15) rfl (XS.aloadN X101.here hx rfl (hb hby d25_17) rfl rfl kq)))))))))) ?_
  refine own_go (S' := (T101.setTop (mkF m 19 #[.val (.ref cs), .val (.int (0 : Int32)), .val (.int (2 : Int32)), .val (.ref b101), .val (.int (0 : Int32))] [(.int (0 : Int32)), (.ref cs), (.int (0 : Int32)), (.ref b101)]))) (fun tq kq => XS.iloadN X101.here hx rfl (hb hby d25_18) rfl kq) ?_
  have f102 := (Vcs.keep K101 nin0)
  obtain ⟨cl103, Ar103, -, -, hin103, hat103⟩ := f102.at (j := (0 : Int32)) (v := (.int c0)) (by decide) rfl
  refine own_go (S' := (T101.setTop (mkF m 20 #[.val (.ref cs), .val (.int (0 : Int32)), .val (.int (2 : Int32)), .val (.ref b101), .val (.int (0 : Int32))] [(.int c0), (.int (0 : Int32)), (.ref b101)]))) (fun tq kq => X101.caload hx (j := (0 : Int32)) (v := (.int c0)) Ar103.1 (State.isArrayOf_alike hZ.alike Ar103.2.1) Ar103.2.2 hin103 hat103 (g := (mkF m 19 #[.val (.ref cs), .val (.int (0 : Int32)), .val (.int (2 : Int32)), .val (.ref b101), .val (.int (0 : Int32))] [(.int (0 : Int32)), (.ref cs), (.int (0 : Int32)), (.ref b101)])) rfl rfl (hb hby d25_19) tq kq) ?_
  obtain ⟨_, _, ⟨T104, L104, k104, n104⟩, -, X104, ⟨Lc104, hQ104, l104, y104, z104⟩, st104⟩ := Jvm.LawKit.callS X101 hx (y := (⟨"java/lang/StringUTF16", "putChar", "([BII)V"⟩ : MethodName)) hown (mvT hZ (hw _ (List.mem_of_getElem? (i := 127) rfl))) (mvT hZ (hw _ (List.mem_of_getElem? (i := 128) rfl))) (mvT hZ (hw _ (List.mem_of_getElem? (i := 60) rfl))) (mvT hZ (hw _ (List.mem_of_getElem? (i := 129) rfl))) (by decide) (backOf (W := 0) (pc2_0 l Z a0 hw [] T101.heap n0 O101 b101 kb101 c0 (.int (0 : Int32)) (.int (0 : Int32)) (.int (0 : Int32)) (.int (0 : Int32)) z fm SC hz SA SH SL SF hfm V101 ge_b101) hZ (hw _ (List.mem_of_getElem? (i := 129) rfl)) (hw _ (List.mem_of_getElem? (i := 60) rfl)) (by decide) (by decide)) (g := (mkF m 20 #[.val (.ref cs), .val (.int (0 : Int32)), .val (.int (2 : Int32)), .val (.ref b101), .val (.int (0 : Int32))] [(.int c0), (.int (0 : Int32)), (.ref b101)])) rfl (by rw [hml]; rfl) (argsL := [(.ref b101), (.int (0 : Int32)), (.int c0)]) (rest := []) (lenOf pd_8 rfl) rfl (by show 2 * 0 + _ ≤ _; exact Nat.le_of_eq rfl) (hb hby d25_20) (fun _ _ => ⟨rfl, rfl, (by decide : 1 + 0 ≤ _), (by decide : 4 + 0 ≤ _)⟩)
  dsimp only [Pt.U, Pt.locs, Pt.cells, Pt.slots] at X104 l104 y104 z104 st104 hQ104
  subst l104 y104 z104
  obtain ⟨rfl, N104, K104, V104⟩ := hQ104
  have Nf104 := Fr.app Nf101 N104
  have O104 := O101.keep K104 (allS ge_b101 all0)
  have KK104 := KK101.trans K104 (allS (Or.inr gk_b101) all0)
  refine own_go (S' := (T104.setTop (mkF m 18 #[.val (.ref cs), .val (.int (1 : Int32)), .val (.int (2 : Int32)), .val (.ref b101), .val (.int (1 : Int32))] [(.ref cs), (.int (1 : Int32)), (.ref b101)]))) (fun tq kq => st104 tq (XS.iinc X104.here hx rfl (hb hby d25_23) rfl (l' := #[.val (.ref cs), .val (.int (1 : Int32)), .val (.int (2 : Int32)), .val (.ref b101), .val (.int (0 : Int32))]) rfl (XS.iinc X104.here hx rfl (hb hby d25_26) rfl (l' := #[.val (.ref cs), .val (.int (1 : Int32)), .val (.int (2 : Int32)), .val (.ref b101), .val (.int (1 : Int32))]) rfl (XS.goto X104.here hx rfl (pc0 := 29) (pc' := 8) rfl (hb hby d25_29) (by decide) (by decide) (XS.iload X104.here hx rfl (hb hby d25_8) rfl (XS.iloadN X104.here hx rfl (hb hby d25_10) rfl (XS.icmpNo X104.here hx rfl (hb hby d25_11) rfl (tlt (by decide : (1 : Int32) < (2 : Int32))).2.1 (XS.aloadN X104.here hx rfl (hb hby d25_14) rfl rfl (XS.iload X104.here hx rfl (hb hby d25_15) rfl (XS.aloadN X104.here hx rfl (hb hby d25_17) rfl rfl kq)))))))))) ?_
  refine own_go (S' := (T104.setTop (mkF m 19 #[.val (.ref cs), .val (.int (1 : Int32)), .val (.int (2 : Int32)), .val (.ref b101), .val (.int (1 : Int32))] [(.int (1 : Int32)), (.ref cs), (.int (1 : Int32)), (.ref b101)]))) (fun tq kq => XS.iloadN X104.here hx rfl (hb hby d25_18) rfl kq) ?_
  have f105 := (f102.keep K104 (ninS ne_cs_b101 nin0))
  obtain ⟨cl106, Ar106, -, -, hin106, hat106⟩ := f105.at (j := (1 : Int32)) (v := (.int c1)) (by decide) rfl
  refine own_go (S' := (T104.setTop (mkF m 20 #[.val (.ref cs), .val (.int (1 : Int32)), .val (.int (2 : Int32)), .val (.ref b101), .val (.int (1 : Int32))] [(.int c1), (.int (1 : Int32)), (.ref b101)]))) (fun tq kq => X104.caload hx (j := (1 : Int32)) (v := (.int c1)) Ar106.1 (State.isArrayOf_alike hZ.alike Ar106.2.1) Ar106.2.2 hin106 hat106 (g := (mkF m 19 #[.val (.ref cs), .val (.int (1 : Int32)), .val (.int (2 : Int32)), .val (.ref b101), .val (.int (1 : Int32))] [(.int (1 : Int32)), (.ref cs), (.int (1 : Int32)), (.ref b101)])) rfl rfl (hb hby d25_19) tq kq) ?_
  obtain ⟨_, _, ⟨T107, L107, k107, n107⟩, -, X107, ⟨Lc107, hQ107, l107, y107, z107⟩, st107⟩ := Jvm.LawKit.callS X104 hx (y := (⟨"java/lang/StringUTF16", "putChar", "([BII)V"⟩ : MethodName)) hown (mvT hZ (hw _ (List.mem_of_getElem? (i := 127) rfl))) (mvT hZ (hw _ (List.mem_of_getElem? (i := 128) rfl))) (mvT hZ (hw _ (List.mem_of_getElem? (i := 60) rfl))) (mvT hZ (hw _ (List.mem_of_getElem? (i := 129) rfl))) (by decide) (backOf (W := 0) (pc2_1 l Z a0 hw [] T104.heap n0 O104 b101 kb101 c1 (.int (own_b0 c0)) (.int (own_b1 c0)) (.int (0 : Int32)) (.int (0 : Int32)) z fm SC hz SA SH SL SF hfm V104 ge_b101) hZ (hw _ (List.mem_of_getElem? (i := 129) rfl)) (hw _ (List.mem_of_getElem? (i := 60) rfl)) (by decide) (by decide)) (g := (mkF m 20 #[.val (.ref cs), .val (.int (1 : Int32)), .val (.int (2 : Int32)), .val (.ref b101), .val (.int (1 : Int32))] [(.int c1), (.int (1 : Int32)), (.ref b101)])) rfl (by rw [hml]; rfl) (argsL := [(.ref b101), (.int (1 : Int32)), (.int c1)]) (rest := []) (lenOf pd_8 rfl) rfl (by show 2 * 0 + _ ≤ _; exact Nat.le_of_eq rfl) (hb hby d25_20) (fun _ _ => ⟨rfl, rfl, (by decide : 1 + 0 ≤ _), (by decide : 4 + 0 ≤ _)⟩)
  dsimp only [Pt.U, Pt.locs, Pt.cells, Pt.slots] at X107 l107 y107 z107 st107 hQ107
  subst l107 y107 z107
  obtain ⟨rfl, N107, K107, V107⟩ := hQ107
  have Nf107 := Fr.app Nf104 N107
  have O107 := O104.keep K107 (allS ge_b101 all0)
  have KK107 := KK104.trans K107 (allS (Or.inr gk_b101) all0)
  refine own_go (S' := (T107.setTop (mkF m 33 #[.val (.ref cs), .val (.int (2 : Int32)), .val (.int (2 : Int32)), .val (.ref b101), .val (.int (2 : Int32))] [(.ref b101)]))) (fun tq kq => st107 tq (XS.iinc X107.here hx rfl (hb hby d25_23) rfl (l' := #[.val (.ref cs), .val (.int (2 : Int32)), .val (.int (2 : Int32)), .val (.ref b101), .val (.int (1 : Int32))]) rfl (XS.iinc X107.here hx rfl (hb hby d25_26) rfl (l' := #[.val (.ref cs), .val (.int (2 : Int32)), .val (.int (2 : Int32)), .val (.ref b101), .val (.int (2 : Int32))]) rfl (XS.goto X107.here hx rfl (pc0 := 29) (pc' := 8) rfl (hb hby d25_29) (by decide) (by decide) (XS.iload X107.here hx rfl (hb hby d25_8) rfl (XS.iloadN X107.here hx rfl (hb hby d25_10) rfl (XS.icmpYes X107.here hx rfl (pc0 := 11) (pc' := 32) rfl (hb hby d25_11) rfl (flt (by decide : ¬ ((2 : Int32) < (2 : Int32)))).2.1 (by decide) (by decide) (XS.aloadN X107.here hx rfl (hb hby d25_32) rfl rfl kq)))))))) ?_
  refine own_retA X107 hx hlk hret rfl rfl (hb hby d25_33) (by decide) (by decide) ?_
  exact ⟨b101, _, rfl, Nf107, KK107, gk_b101, V107⟩
theorem pn_gch2_0 : plainName "java/lang/StringUTF16" = true := by first | (simp [plainName, overriddenIn]; done) | decide +kernel
theorem ef_gch2_0 (m : MethodId) (b : Addr) (kb : ClassId) (x : Int32) (y : Int32) (v2 : Value) (v3 : Value) (z : Int32) (fm : Value) : entryFrame m #[(.ref b), (.int (0 : Int32))] 2 = mkF m 0 #[.val (.ref b), .val (.int (0 : Int32))] [] := by first | (simp [entryFrame, mkF, argsToLocals, Value.category]; done) | rfl
def Q_gch2_0 (Z : State) (h0 : Heap) (n0 : Nat) (b : Addr) (kb : ClassId) (x : Int32) (y : Int32) (v2 : Value) (v3 : Value) (z : Int32) (fm : Value) (v : Option Value) (h : Heap) (L : List Loc) : Prop := v = some (.int (own_gc x y)) ∧ Fr n0 L ∧ h = h0
set_option maxRecDepth 65536 in
set_option maxHeartbeats 40000000 in
theorem gch2_0 (l : Launch) (Z : State) (a0 : Array Value) (hw : ∀ d ∈ tables_1, d.before a0 Z = true) (ws : List Jvm.Cond) (h0 : Heap) (n0 : Nat) (O0 : Old Z n0 h0) (b : Addr) (kb : ClassId) (x : Int32) (y : Int32) (v2 : Value) (v3 : Value) (z : Int32) (fm : Value) (SC : Sta Z Z.heap "java/lang/String" "COMPACT_STRINGS" "Z" (.int z)) (hz : ¬ (z = (0 : Int32))) (SA : Sta Z Z.heap "java/lang/StringUTF16" "$assertionsDisabled" "Z" (.int (1 : Int32))) (SH : Sta Z Z.heap "java/lang/StringUTF16" "HI_BYTE_SHIFT" "I" (.int (0 : Int32))) (SL : Sta Z Z.heap "java/lang/StringUTF16" "LO_BYTE_SHIFT" "I" (.int (8 : Int32))) (SF : Sta Z Z.heap "jdk/internal/util/Preconditions" "SIOOBE_FORMATTER" "Ljava/util/function/BiFunction;" fm) (hfm : fm.isRef = true) (Vb : own_Ar Z h0 b kb .byte [(.int x), (.int y), v2, v3]) :
    MetFree l (⟨"java/lang/StringUTF16", "getChar", "([BI)C"⟩ : MethodName) (head1 (Jvm.Cond.code (⟨"java/lang/StringUTF16", "getChar", "([BI)C"⟩ : MethodName) jdk_52_method_5_code 2 (some .char) :: ws) ({ frames := 0, cells := 0, slots := 0, locals := 0 } : Room)) (fun aq U => aq = #[(.ref b), (.int (0 : Int32))] ∧ Z.Warmed39 U.vm ∧ U.heap = h0) (fun _ _ _ _ _ => True) (fun _ U oo U' => ∃ v L, oo = .returned v ∧ Q_gch2_0 Z h0 n0 b kb x y v2 v3 z fm v U'.heap L ∧ FrameEnd U oo U' L ({ frames := 0, cells := 0, slots := 0, locals := 0 } : Room).cells ({ frames := 0, cells := 0, slots := 0, locals := 0 } : Room).slots) := by
  refine MetFree.of_bodySF (plainFor_of_name pn_gch2_0) hisR ?_
  intro p e s m args below meth c s₁ Bd hml0 hP hK
  obtain ⟨rfl, hZ, hh⟩ := hP
  have hx := Bd.exec
  have hby := Bd.bytes
  have hml : c.maxLocals = 2 := hml0
  have hown : s.vm.findClass "java/lang/StringUTF16" = some m.cls := findClass_of_methodNamed Bd.named
  have hnm := (name_of_methodNamed Bd.named Bd.method).1
  have hlk := Bd.notSynchronized
  have hret := Bd.returns
  have X0 : Stand p l e ({ frames := 0, cells := 0, slots := 0, locals := 0 } : Room) s m #[(.ref b), (.int (0 : Int32))] below meth c s₁ [] 0 0 := Stand.of_body Bd
  have e0 : s₁.heap = h0 := by rw [← hh, Bd.state]; rfl
  have N0 := Fr.nil n0
  have K0 := Keep.refl h0 []
  refine own_go (S' := (s₁.setTop (mkF m 0 #[.val (.ref b), .val (.int (0 : Int32))] []))) (fun tq kq => castTop (ef_gch2_0 m b kb x y v2 v3 z fm) kq) ?_
  show own_G p e s below (Q_gch2_0 Z h0 n0 b kb x y v2 v3 z fm) _ _ _
  obtain ⟨T101, X101, e101, st101⟩ := getS2 X0 hx hZ hown (host := "") (Or.inl (hw _ (List.mem_of_getElem? (i := 130) rfl))) Via.refl e0 (SA.ext O0.2) (g := (mkF m 0 #[.val (.ref b), .val (.int (0 : Int32))] [])) rfl (hb hby d29_0)
  refine own_go (S' := (T101.setTop (mkF m 31 #[.val (.ref b), .val (.int (0 : Int32))] [(.int ((0 : Int32) <<< ((1 : Int32) &&& 31)))]))) (fun tq kq => st101 tq (XS.ifYes X101.here hx rfl (pc0 := 3) (pc' := 28) rfl (hb hby d29_3) rfl ((if0 _ _).trans (feq (by decide : ¬ ((1 : Int32) = (0 : Int32)))).2) (by decide) (by decide) (XS.iloadN X101.here hx rfl (hb hby d29_28) rfl (XS.iconst X101.here hx rfl (hb hby d29_29) (XS.ishl X101.here hx rfl (hb hby d29_30) rfl kq))))) ?_
  rw [show ((0 : Int32) <<< ((1 : Int32) &&& 31)) = (0 : Int32) from by decide]
  refine own_go (S' := (T101.setTop (mkF m 37 #[.val (.ref b), .val (.int (1 : Int32))] [(.int (0 : Int32)), (.ref b)]))) (fun tq kq => XS.istoreN X101.here hx rfl (hb hby d29_31) rfl (l' := #[.val (.ref b), .val (.int (0 : Int32))]) rfl (XS.aloadN X101.here hx rfl (hb hby d29_32) rfl rfl (XS.iloadN X101.here hx rfl (hb hby d29_33) rfl (XS.iinc X101.here hx rfl (hb hby d29_34) rfl (l' := #[.val (.ref b), .val (.int (1 : Int32))]) rfl kq)))) ?_
  obtain ⟨cl102, Ar102, -, -, hin102, hat102⟩ := Vb.at (j := (0 : Int32)) (v := (.int x)) (by decide) rfl
  refine own_go (S' := (T101.setTop (mkF m 42 #[.val (.ref b), .val (.int (1 : Int32))] [(.int (x &&& (255 : Int32)))]))) (fun tq kq => X101.baloadBytes hx (j := (0 : Int32)) (v := (.int x)) (by rw [e101]; exact Ar102.1) (State.isArrayOf_alike hZ.alike Ar102.2.1) Ar102.2.2 hin102 hat102 (g := (mkF m 37 #[.val (.ref b), .val (.int (1 : Int32))] [(.int (0 : Int32)), (.ref b)])) rfl rfl (hb hby d29_37) tq (XS.sipush X101.here hx rfl (hb hby d29_38) (XS.iand X101.here hx rfl (hb hby d29_41) rfl kq))) ?_
  obtain ⟨T103, X103, e103, st103⟩ := getS2 X101 hx hZ hown (host := "") (Or.inl (hw _ (List.mem_of_getElem? (i := 131) rfl))) Via.refl e101 (SH.ext O0.2) (g := (mkF m 42 #[.val (.ref b), .val (.int (1 : Int32))] [(.int (x &&& (255 : Int32)))])) rfl (hb hby d29_42)
  refine own_go (S' := (T103.setTop (mkF m 48 #[.val (.ref b), .val (.int (1 : Int32))] [(.int (1 : Int32)), (.ref b), (.int ((x &&& (255 : Int32)) <<< ((0 : Int32) &&& 31)))]))) (fun tq kq => st103 tq (XS.ishl X103.here hx rfl (hb hby d29_45) rfl (XS.aloadN X103.here hx rfl (hb hby d29_46) rfl rfl (XS.iloadN X103.here hx rfl (hb hby d29_47) rfl kq)))) ?_
  obtain ⟨cl104, Ar104, -, -, hin104, hat104⟩ := Vb.at (j := (1 : Int32)) (v := (.int y)) (by decide) rfl
  refine own_go (S' := (T103.setTop (mkF m 53 #[.val (.ref b), .val (.int (1 : Int32))] [(.int (y &&& (255 : Int32))), (.int ((x &&& (255 : Int32)) <<< ((0 : Int32) &&& 31)))]))) (fun tq kq => X103.baloadBytes hx (j := (1 : Int32)) (v := (.int y)) (by rw [e103]; exact Ar104.1) (State.isArrayOf_alike hZ.alike Ar104.2.1) Ar104.2.2 hin104 hat104 (g := (mkF m 48 #[.val (.ref b), .val (.int (1 : Int32))] [(.int (1 : Int32)), (.ref b), (.int ((x &&& (255 : Int32)) <<< ((0 : Int32) &&& 31)))])) rfl rfl (hb hby d29_48) tq (XS.sipush X103.here hx rfl (hb hby d29_49) (XS.iand X103.here hx rfl (hb hby d29_52) rfl kq))) ?_
  obtain ⟨T105, X105, e105, st105⟩ := getS2 X103 hx hZ hown (host := "") (Or.inl (hw _ (List.mem_of_getElem? (i := 132) rfl))) Via.refl e103 (SL.ext O0.2) (g := (mkF m 53 #[.val (.ref b), .val (.int (1 : Int32))] [(.int (y &&& (255 : Int32))), (.int ((x &&& (255 : Int32)) <<< ((0 : Int32) &&& 31)))])) rfl (hb hby d29_53)
  refine own_go (S' := (T105.setTop (mkF m 59 #[.val (.ref b), .val (.int (1 : Int32))] [(.int ((((x &&& (255 : Int32)) <<< ((0 : Int32) &&& 31)) ||| ((y &&& (255 : Int32)) <<< ((8 : Int32) &&& 31))).toUInt32.toUInt16.toUInt32.toInt32))]))) (fun tq kq => st105 tq (XS.ishl X105.here hx rfl (hb hby d29_56) rfl (XS.ior X105.here hx rfl (hb hby d29_57) rfl (XS.i2c X105.here hx rfl (hb hby d29_58) rfl kq)))) ?_
  refine own_retN X105 hx hlk hret (by simp) (hb hby d29_59) (by decide) (by decide) ?_
  exact ⟨rfl, N0, e105⟩
theorem pn_gch2_1 : plainName "java/lang/StringUTF16" = true := by first | (simp [plainName, overriddenIn]; done) | decide +kernel
theorem ef_gch2_1 (m : MethodId) (b : Addr) (kb : ClassId) (x : Int32) (y : Int32) (v0 : Value) (v1 : Value) (z : Int32) (fm : Value) : entryFrame m #[(.ref b), (.int (1 : Int32))] 2 = mkF m 0 #[.val (.ref b), .val (.int (1 : Int32))] [] := by first | (simp [entryFrame, mkF, argsToLocals, Value.category]; done) | rfl
def Q_gch2_1 (Z : State) (h0 : Heap) (n0 : Nat) (b : Addr) (kb : ClassId) (x : Int32) (y : Int32) (v0 : Value) (v1 : Value) (z : Int32) (fm : Value) (v : Option Value) (h : Heap) (L : List Loc) : Prop := v = some (.int (own_gc x y)) ∧ Fr n0 L ∧ h = h0
set_option maxRecDepth 65536 in
set_option maxHeartbeats 40000000 in
theorem gch2_1 (l : Launch) (Z : State) (a0 : Array Value) (hw : ∀ d ∈ tables_1, d.before a0 Z = true) (ws : List Jvm.Cond) (h0 : Heap) (n0 : Nat) (O0 : Old Z n0 h0) (b : Addr) (kb : ClassId) (x : Int32) (y : Int32) (v0 : Value) (v1 : Value) (z : Int32) (fm : Value) (SC : Sta Z Z.heap "java/lang/String" "COMPACT_STRINGS" "Z" (.int z)) (hz : ¬ (z = (0 : Int32))) (SA : Sta Z Z.heap "java/lang/StringUTF16" "$assertionsDisabled" "Z" (.int (1 : Int32))) (SH : Sta Z Z.heap "java/lang/StringUTF16" "HI_BYTE_SHIFT" "I" (.int (0 : Int32))) (SL : Sta Z Z.heap "java/lang/StringUTF16" "LO_BYTE_SHIFT" "I" (.int (8 : Int32))) (SF : Sta Z Z.heap "jdk/internal/util/Preconditions" "SIOOBE_FORMATTER" "Ljava/util/function/BiFunction;" fm) (hfm : fm.isRef = true) (Vb : own_Ar Z h0 b kb .byte [v0, v1, (.int x), (.int y)]) :
    MetFree l (⟨"java/lang/StringUTF16", "getChar", "([BI)C"⟩ : MethodName) (head1 (Jvm.Cond.code (⟨"java/lang/StringUTF16", "getChar", "([BI)C"⟩ : MethodName) jdk_52_method_5_code 2 (some .char) :: ws) ({ frames := 0, cells := 0, slots := 0, locals := 0 } : Room)) (fun aq U => aq = #[(.ref b), (.int (1 : Int32))] ∧ Z.Warmed39 U.vm ∧ U.heap = h0) (fun _ _ _ _ _ => True) (fun _ U oo U' => ∃ v L, oo = .returned v ∧ Q_gch2_1 Z h0 n0 b kb x y v0 v1 z fm v U'.heap L ∧ FrameEnd U oo U' L ({ frames := 0, cells := 0, slots := 0, locals := 0 } : Room).cells ({ frames := 0, cells := 0, slots := 0, locals := 0 } : Room).slots) := by
  refine MetFree.of_bodySF (plainFor_of_name pn_gch2_1) hisR ?_
  intro p e s m args below meth c s₁ Bd hml0 hP hK
  obtain ⟨rfl, hZ, hh⟩ := hP
  have hx := Bd.exec
  have hby := Bd.bytes
  have hml : c.maxLocals = 2 := hml0
  have hown : s.vm.findClass "java/lang/StringUTF16" = some m.cls := findClass_of_methodNamed Bd.named
  have hnm := (name_of_methodNamed Bd.named Bd.method).1
  have hlk := Bd.notSynchronized
  have hret := Bd.returns
  have X0 : Stand p l e ({ frames := 0, cells := 0, slots := 0, locals := 0 } : Room) s m #[(.ref b), (.int (1 : Int32))] below meth c s₁ [] 0 0 := Stand.of_body Bd
  have e0 : s₁.heap = h0 := by rw [← hh, Bd.state]; rfl
  have N0 := Fr.nil n0
  have K0 := Keep.refl h0 []
  refine own_go (S' := (s₁.setTop (mkF m 0 #[.val (.ref b), .val (.int (1 : Int32))] []))) (fun tq kq => castTop (ef_gch2_1 m b kb x y v0 v1 z fm) kq) ?_
  show own_G p e s below (Q_gch2_1 Z h0 n0 b kb x y v0 v1 z fm) _ _ _
  obtain ⟨T101, X101, e101, st101⟩ := getS2 X0 hx hZ hown (host := "") (Or.inl (hw _ (List.mem_of_getElem? (i := 130) rfl))) Via.refl e0 (SA.ext O0.2) (g := (mkF m 0 #[.val (.ref b), .val (.int (1 : Int32))] [])) rfl (hb hby d29_0)
  refine own_go (S' := (T101.setTop (mkF m 31 #[.val (.ref b), .val (.int (1 : Int32))] [(.int ((1 : Int32) <<< ((1 : Int32) &&& 31)))]))) (fun tq kq => st101 tq (XS.ifYes X101.here hx rfl (pc0 := 3) (pc' := 28) rfl (hb hby d29_3) rfl ((if0 _ _).trans (feq (by decide : ¬ ((1 : Int32) = (0 : Int32)))).2) (by decide) (by decide) (XS.iloadN X101.here hx rfl (hb hby d29_28) rfl (XS.iconst X101.here hx rfl (hb hby d29_29) (XS.ishl X101.here hx rfl (hb hby d29_30) rfl kq))))) ?_
  rw [show ((1 : Int32) <<< ((1 : Int32) &&& 31)) = (2 : Int32) from by decide]
  refine own_go (S' := (T101.setTop (mkF m 37 #[.val (.ref b), .val (.int (3 : Int32))] [(.int (2 : Int32)), (.ref b)]))) (fun tq kq => XS.istoreN X101.here hx rfl (hb hby d29_31) rfl (l' := #[.val (.ref b), .val (.int (2 : Int32))]) rfl (XS.aloadN X101.here hx rfl (hb hby d29_32) rfl rfl (XS.iloadN X101.here hx rfl (hb hby d29_33) rfl (XS.iinc X101.here hx rfl (hb hby d29_34) rfl (l' := #[.val (.ref b), .val (.int (3 : Int32))]) rfl kq)))) ?_
  obtain ⟨cl102, Ar102, -, -, hin102, hat102⟩ := Vb.at (j := (2 : Int32)) (v := (.int x)) (by decide) rfl
  refine own_go (S' := (T101.setTop (mkF m 42 #[.val (.ref b), .val (.int (3 : Int32))] [(.int (x &&& (255 : Int32)))]))) (fun tq kq => X101.baloadBytes hx (j := (2 : Int32)) (v := (.int x)) (by rw [e101]; exact Ar102.1) (State.isArrayOf_alike hZ.alike Ar102.2.1) Ar102.2.2 hin102 hat102 (g := (mkF m 37 #[.val (.ref b), .val (.int (3 : Int32))] [(.int (2 : Int32)), (.ref b)])) rfl rfl (hb hby d29_37) tq (XS.sipush X101.here hx rfl (hb hby d29_38) (XS.iand X101.here hx rfl (hb hby d29_41) rfl kq))) ?_
  obtain ⟨T103, X103, e103, st103⟩ := getS2 X101 hx hZ hown (host := "") (Or.inl (hw _ (List.mem_of_getElem? (i := 131) rfl))) Via.refl e101 (SH.ext O0.2) (g := (mkF m 42 #[.val (.ref b), .val (.int (3 : Int32))] [(.int (x &&& (255 : Int32)))])) rfl (hb hby d29_42)
  refine own_go (S' := (T103.setTop (mkF m 48 #[.val (.ref b), .val (.int (3 : Int32))] [(.int (3 : Int32)), (.ref b), (.int ((x &&& (255 : Int32)) <<< ((0 : Int32) &&& 31)))]))) (fun tq kq => st103 tq (XS.ishl X103.here hx rfl (hb hby d29_45) rfl (XS.aloadN X103.here hx rfl (hb hby d29_46) rfl rfl (XS.iloadN X103.here hx rfl (hb hby d29_47) rfl kq)))) ?_
  obtain ⟨cl104, Ar104, -, -, hin104, hat104⟩ := Vb.at (j := (3 : Int32)) (v := (.int y)) (by decide) rfl
  refine own_go (S' := (T103.setTop (mkF m 53 #[.val (.ref b), .val (.int (3 : Int32))] [(.int (y &&& (255 : Int32))), (.int ((x &&& (255 : Int32)) <<< ((0 : Int32) &&& 31)))]))) (fun tq kq => X103.baloadBytes hx (j := (3 : Int32)) (v := (.int y)) (by rw [e103]; exact Ar104.1) (State.isArrayOf_alike hZ.alike Ar104.2.1) Ar104.2.2 hin104 hat104 (g := (mkF m 48 #[.val (.ref b), .val (.int (3 : Int32))] [(.int (3 : Int32)), (.ref b), (.int ((x &&& (255 : Int32)) <<< ((0 : Int32) &&& 31)))])) rfl rfl (hb hby d29_48) tq (XS.sipush X103.here hx rfl (hb hby d29_49) (XS.iand X103.here hx rfl (hb hby d29_52) rfl kq))) ?_
  obtain ⟨T105, X105, e105, st105⟩ := getS2 X103 hx hZ hown (host := "") (Or.inl (hw _ (List.mem_of_getElem? (i := 132) rfl))) Via.refl e103 (SL.ext O0.2) (g := (mkF m 53 #[.val (.ref b), .val (.int (3 : Int32))] [(.int (y &&& (255 : Int32))), (.int ((x &&& (255 : Int32)) <<< ((0 : Int32) &&& 31)))])) rfl (hb hby d29_53)
  refine own_go (S' := (T105.setTop (mkF m 59 #[.val (.ref b), .val (.int (3 : Int32))] [(.int ((((x &&& (255 : Int32)) <<< ((0 : Int32) &&& 31)) ||| ((y &&& (255 : Int32)) <<< ((8 : Int32) &&& 31))).toUInt32.toUInt16.toUInt32.toInt32))]))) (fun tq kq => st105 tq (XS.ishl X105.here hx rfl (hb hby d29_56) rfl (XS.ior X105.here hx rfl (hb hby d29_57) rfl (XS.i2c X105.here hx rfl (hb hby d29_58) rfl kq)))) ?_
  refine own_retN X105 hx hlk hret (by simp) (hb hby d29_59) (by decide) (by decide) ?_
  exact ⟨rfl, N0, e105⟩
theorem pn_cmpb2 : plainName "java/lang/StringUTF16" = true := by first | (simp [plainName, overriddenIn]; done) | decide +kernel
theorem ef_cmpb2 (m : MethodId) (cs : Addr) (kcs : ClassId) (c0 : Int32) (c1 : Int32) (z : Int32) (fm : Value) : entryFrame m #[(.ref cs), (.int (0 : Int32)), (.int (2 : Int32))] 6 = mkF m 0 #[.val (.ref cs), .val (.int (0 : Int32)), .val (.int (2 : Int32)), .unset, .unset, .unset] [] := by first | (simp [entryFrame, mkF, argsToLocals, Value.category]; done) | rfl
def Q_cmpb2 (Z : State) (h0 : Heap) (n0 : Nat) (cs : Addr) (kcs : ClassId) (c0 : Int32) (c1 : Int32) (z : Int32) (fm : Value) (v : Option Value) (h : Heap) (L : List Loc) : Prop := ∃ (b : Addr) (kb : ClassId) (vs : List Value), v = some (.ref b) ∧ Fr n0 L ∧ Keep h0 h [] ∧ h0.size ≤ b ∧ own_Ar Z h b kb .byte vs ∧ (vs.length = 2 ∨ vs.length = 4)
set_option maxRecDepth 65536 in
set_option maxHeartbeats 40000000 in
theorem cmpb2 (l : Launch) (Z : State) (a0 : Array Value) (hw : ∀ d ∈ tables_1, d.before a0 Z = true) (ws : List Jvm.Cond) (h0 : Heap) (n0 : Nat) (O0 : Old Z n0 h0) (cs : Addr) (kcs : ClassId) (c0 : Int32) (c1 : Int32) (z : Int32) (fm : Value) (SC : Sta Z Z.heap "java/lang/String" "COMPACT_STRINGS" "Z" (.int z)) (hz : ¬ (z = (0 : Int32))) (SA : Sta Z Z.heap "java/lang/StringUTF16" "$assertionsDisabled" "Z" (.int (1 : Int32))) (SH : Sta Z Z.heap "java/lang/StringUTF16" "HI_BYTE_SHIFT" "I" (.int (0 : Int32))) (SL : Sta Z Z.heap "java/lang/StringUTF16" "LO_BYTE_SHIFT" "I" (.int (8 : Int32))) (SF : Sta Z Z.heap "jdk/internal/util/Preconditions" "SIOOBE_FORMATTER" "Ljava/util/function/BiFunction;" fm) (hfm : fm.isRef = true) (Vcs : own_Ar Z h0 cs kcs .char [(.int c0), (.int c1)]) (hr0 : 0 ≤ c0.toInt ∧ c0.toInt < 65536) (hr1 : 0 ≤ c1.toInt ∧ c1.toInt < 65536) :
    MetFree l (⟨"java/lang/StringUTF16", "compress", "([CII)[B"⟩ : MethodName) (head1 (Jvm.Cond.code (⟨"java/lang/StringUTF16", "compress", "([CII)[B"⟩ : MethodName) jdk_52_method_16_code 6 (some (.array .byte)) :: ws) ({ frames := 3, cells := 2, slots := 6, locals := 40 } : Room)) (fun aq U => aq = #[(.ref cs), (.int (0 : Int32)), (.int (2 : Int32))] ∧ Z.Warmed39 U.vm ∧ U.heap = h0) (fun _ _ _ _ _ => True) (fun _ U oo U' => ∃ v L, oo = .returned v ∧ Q_cmpb2 Z h0 n0 cs kcs c0 c1 z fm v U'.heap L ∧ FrameEnd U oo U' L ({ frames := 3, cells := 2, slots := 6, locals := 40 } : Room).cells ({ frames := 3, cells := 2, slots := 6, locals := 40 } : Room).slots) := by
  refine MetFree.of_bodySF (plainFor_of_name pn_cmpb2) hisR ?_
  intro p e s m args below meth c s₁ Bd hml0 hP hK
  obtain ⟨rfl, hZ, hh⟩ := hP
  have hx := Bd.exec
  have hby := Bd.bytes
  have hml : c.maxLocals = 6 := hml0
  have hown : s.vm.findClass "java/lang/StringUTF16" = some m.cls := findClass_of_methodNamed Bd.named
  have hnm := (name_of_methodNamed Bd.named Bd.method).1
  have hlk := Bd.notSynchronized
  have hret := Bd.returns
  have X0 : Stand p l e ({ frames := 3, cells := 2, slots := 6, locals := 40 } : Room) s m #[(.ref cs), (.int (0 : Int32)), (.int (2 : Int32))] below meth c s₁ [] 0 0 := Stand.of_body Bd
  have e0 : s₁.heap = h0 := by rw [← hh, Bd.state]; rfl
  have N0 := Fr.nil n0
  have K0 := Keep.refl h0 []
  refine own_go (S' := (s₁.setTop (mkF m 0 #[.val (.ref cs), .val (.int (0 : Int32)), .val (.int (2 : Int32)), .unset, .unset, .unset] []))) (fun tq kq => castTop (ef_cmpb2 m cs kcs c0 c1 z fm) kq) ?_
  show own_G p e s below (Q_cmpb2 Z h0 n0 cs kcs c0 c1 z fm) _ _ _
  refine own_go (S' := (s₁.setTop (mkF m 1 #[.val (.ref cs), .val (.int (0 : Int32)), .val (.int (2 : Int32)), .unset, .unset, .unset] [(.int (2 : Int32))]))) (fun tq kq => XS.iloadN X0.here hx rfl (hb hby d11_0) rfl kq) ?_
  obtain ⟨T101, h101, k101, X101, e101, E101, A101, st101⟩ := newP X0 hx hZ (hw _ (List.mem_of_getElem? (i := 21) rfl)) e0 (g := (mkF m 1 #[.val (.ref cs), .val (.int (0 : Int32)), .val (.int (2 : Int32)), .unset, .unset, .unset] [(.int (2 : Int32))])) rfl (hb hby d11_1) rfl (by decide) (cap := 2) (by decide) (by decide) (by decide) (by decide)
  obtain ⟨b101, g101⟩ : ∃ z, z = h0.size := ⟨_, rfl⟩
  rw [← g101] at A101 st101
  have ne_cs_b101 : cs ≠ b101 := Nat.ne_of_lt (Nat.lt_of_lt_of_le Vcs.lt (Nat.le_of_eq g101.symm))
  have ge_b101 : n0 ≤ b101 := Nat.le_trans (own_osz O0) (Nat.le_of_eq g101.symm)
  have gk_b101 : h0.size ≤ b101 := Nat.le_trans K0.1 (Nat.le_of_eq g101.symm)
  have V101 : own_Ar Z h101 b101 k101 .byte [(.int (0 : Int32)), (.int (0 : Int32))] := own_Ar.new A101 (by decide)
  have O101 := O0.ext E101
  have K101 := K0.ext E101
  refine own_go (S' := (T101.setTop (mkF m 9 #[.val (.ref cs), .val (.int (0 : Int32)), .val (.int (2 : Int32)), .val (.ref b101), .unset, .unset] [(.int (2 : Int32)), (.int (0 : Int32)), (.ref b101), (.int (0 : Int32)), (.ref cs)]))) (fun tq kq => st101 tq (XS.astoreN X101.here hx rfl (hb hby d11_3) rfl rfl (l' := #[.val (.ref cs), .val (.int (0 : Int32)), .val (.int (2 : Int32)), .val (.ref b101), .unset, .unset]) rfl (XS.aloadN X101.here hx rfl (hb hby d11_4) rfl rfl (XS.iloadN X101.here hx rfl (hb hby d11_5) rfl (XS.aloadN X101.here hx rfl (hb hby d11_6) rfl rfl (XS.iconst X101.here hx rfl (hb hby d11_7) (XS.iloadN X101.here hx rfl (hb hby d11_8) rfl kq))))))) ?_
  have f102 := (Vcs.ext E101)
  obtain ⟨_, _, ⟨T103, L103, k103, n103⟩, -, X103, ⟨Lc103, hQ103, l103, y103, z103⟩, st103⟩ := Jvm.LawKit.callS X101 hx (y := (⟨"java/lang/StringUTF16", "compress", "([CI[BII)I"⟩ : MethodName)) hown (mvT hZ (hw _ (List.mem_of_getElem? (i := 62) rfl))) (mvT hZ (hw _ (List.mem_of_getElem? (i := 63) rfl))) (mvT hZ (hw _ (List.mem_of_getElem? (i := 60) rfl))) (mvT hZ (hw _ (List.mem_of_getElem? (i := 64) rfl))) (by decide) (backOf (W := 0) (cmpr2 l Z a0 hw [] h101 n0 O101 cs kcs b101 k101 c0 c1 (.int (0 : Int32)) (.int (0 : Int32)) z fm SC hz SA SH SL SF hfm f102 V101 ge_b101 ne_cs_b101) hZ (hw _ (List.mem_of_getElem? (i := 64) rfl)) (hw _ (List.mem_of_getElem? (i := 60) rfl)) (by decide) (by decide)) (g := (mkF m 9 #[.val (.ref cs), .val (.int (0 : Int32)), .val (.int (2 : Int32)), .val (.ref b101), .unset, .unset] [(.int (2 : Int32)), (.int (0 : Int32)), (.ref b101), (.int (0 : Int32)), (.ref cs)])) rfl (by rw [hml]; rfl) (argsL := [(.ref cs), (.int (0 : Int32)), (.ref b101), (.int (0 : Int32)), (.int (2 : Int32))]) (rest := []) (lenOf pd_14 rfl) rfl (by show 2 * 0 + _ ≤ _; exact Nat.le_of_eq rfl) (hb hby d11_9) (fun _ _ => ⟨rfl, e101, (by decide : 1 + 0 ≤ _), (by decide : 2 + 0 ≤ _)⟩)
  dsimp only [Pt.U, Pt.locs, Pt.cells, Pt.slots] at X103 l103 y103 z103 st103 hQ103
  subst l103 y103 z103
  obtain ⟨rfl, N103, K103, vs103, V103, hl103⟩ := hQ103
  have Nf103 := Fr.app N0 N103
  have O103 := O101.keep K103 (allS ge_b101 all0)
  have KK103 := K101.trans K103 (allS (Or.inr gk_b101) all0)
  refine own_go (S' := (T103.setTop (mkF m 12 #[.val (.ref cs), .val (.int (0 : Int32)), .val (.int (2 : Int32)), .val (.ref b101), .unset, .unset] [(.int (own_cnt2 c0 c1))]))) (fun tq kq => st103 tq kq) ?_
  by_cases hg0 : (255 : Int32) < c0
  · rw [show (own_cnt2 c0 c1) = (0 : Int32) from by simp only [own_cnt2, if_pos hg0]]
    refine own_go (S' := (T103.setTop (mkF m 23 #[.val (.ref cs), .val (.int (0 : Int32)), .val (.int (2 : Int32)), .val (.ref b101), .val (.int (0 : Int32)), .unset] [(.int (2 : Int32)), (.int (0 : Int32)), (.ref cs)]))) (fun tq kq => XS.istore X103.here hx rfl (hb hby d11_12) rfl (l' := #[.val (.ref cs), .val (.int (0 : Int32)), .val (.int (2 : Int32)), .val (.ref b101), .val (.int (0 : Int32)), .unset]) rfl (XS.iload X103.here hx rfl (hb hby d11_14) rfl (XS.iloadN X103.here hx rfl (hb hby d11_16) rfl (XS.icmpNo X103.here hx rfl (hb hby d11_17) rfl (feq (by decide : ¬ ((0 : Int32) = (2 : Int32)))).1 (XS.aloadN X103.here hx rfl (hb hby d11_20) rfl rfl (XS.iloadN X103.here hx rfl (hb hby d11_21) rfl (XS.iloadN X103.here hx rfl (hb hby d11_22) rfl kq))))))) ?_
    have f104 := (f102.keep K103 (ninS ne_cs_b101 nin0))
    obtain ⟨_, _, ⟨T105, L105, k105, n105⟩, -, X105, ⟨Lc105, hQ105, l105, y105, z105⟩, st105⟩ := Jvm.LawKit.callS X103 hx (y := (⟨"java/lang/StringUTF16", "toBytes", "([CII)[B"⟩ : MethodName)) hown (mvT hZ (hw _ (List.mem_of_getElem? (i := 117) rfl))) (mvT hZ (hw _ (List.mem_of_getElem? (i := 118) rfl))) (mvT hZ (hw _ (List.mem_of_getElem? (i := 60) rfl))) (mvT hZ (hw _ (List.mem_of_getElem? (i := 119) rfl))) (by decide) (backOf (W := 0) (u16a2 l Z a0 hw [] T103.heap n0 O103 cs kcs c0 c1 z fm SC hz SA SH SL SF hfm f104) hZ (hw _ (List.mem_of_getElem? (i := 119) rfl)) (hw _ (List.mem_of_getElem? (i := 60) rfl)) (by decide) (by decide)) (g := (mkF m 23 #[.val (.ref cs), .val (.int (0 : Int32)), .val (.int (2 : Int32)), .val (.ref b101), .val (.int (0 : Int32)), .unset] [(.int (2 : Int32)), (.int (0 : Int32)), (.ref cs)])) rfl (by rw [hml]; rfl) (argsL := [(.ref cs), (.int (0 : Int32)), (.int (2 : Int32))]) (rest := []) (lenOf pd_15 rfl) rfl (by show 2 * 0 + _ ≤ _; exact Nat.le_of_eq rfl) (hb hby d11_23) (fun _ _ => ⟨rfl, rfl, (by decide : 1 + 1 ≤ _), (by decide : 2 + 4 ≤ _)⟩)
    dsimp only [Pt.U, Pt.locs, Pt.cells, Pt.slots] at X105 l105 y105 z105 st105 hQ105
    subst l105 y105 z105
    obtain ⟨b105, kb105, rfl, N105, K105, gb105, V105⟩ := hQ105
    have Nf105 := Fr.app Nf103 N105
    have O105 := O103.keep K105 all0
    have KK105 := KK103.trans K105 all0
    have ne_b101_b105 : b101 ≠ b105 := Nat.ne_of_lt (Nat.lt_of_lt_of_le V103.lt gb105)
    have ne_cs_b105 : cs ≠ b105 := Nat.ne_of_lt (Nat.lt_of_lt_of_le f104.lt gb105)
    have ge_b105 : n0 ≤ b105 := Nat.le_trans (own_osz O103) gb105
    have gk_b105 : h0.size ≤ b105 := Nat.le_trans KK103.1 gb105
    refine own_go (S' := (T105.setTop (mkF m 32 #[.val (.ref cs), .val (.int (0 : Int32)), .val (.int (2 : Int32)), .val (.ref b101), .val (.int (0 : Int32)), .val (.ref b105)] [(.int (0 : Int32)), (.ref b105)]))) (fun tq kq => st105 tq (XS.astore X105.here hx rfl (hb hby d11_26) rfl rfl (l' := #[.val (.ref cs), .val (.int (0 : Int32)), .val (.int (2 : Int32)), .val (.ref b101), .val (.int (0 : Int32)), .val (.ref b105)]) rfl (XS.aload X105.here hx rfl (hb hby d11_28) rfl rfl (XS.iload X105.here hx rfl (hb hby d11_30) rfl kq)))) ?_
    obtain ⟨_, _, ⟨T106, L106, k106, n106⟩, -, X106, ⟨Lc106, hQ106, l106, y106, z106⟩, st106⟩ := Jvm.LawKit.callS X105 hx (y := (⟨"java/lang/StringUTF16", "getChar", "([BI)C"⟩ : MethodName)) hown (mvT hZ (hw _ (List.mem_of_getElem? (i := 133) rfl))) (mvT hZ (hw _ (List.mem_of_getElem? (i := 134) rfl))) (mvT hZ (hw _ (List.mem_of_getElem? (i := 60) rfl))) (mvT hZ (hw _ (List.mem_of_getElem? (i := 135) rfl))) (by decide) (backOf (W := 0) (gch2_0 l Z a0 hw [] T105.heap n0 O105 b105 kb105 (own_b0 c0) (own_b1 c0) (.int (own_b0 c1)) (.int (own_b1 c1)) z fm SC hz SA SH SL SF hfm V105) hZ (hw _ (List.mem_of_getElem? (i := 135) rfl)) (hw _ (List.mem_of_getElem? (i := 60) rfl)) (by decide) (by decide)) (g := (mkF m 32 #[.val (.ref cs), .val (.int (0 : Int32)), .val (.int (2 : Int32)), .val (.ref b101), .val (.int (0 : Int32)), .val (.ref b105)] [(.int (0 : Int32)), (.ref b105)])) rfl (by rw [hml]; rfl) (argsL := [(.ref b105), (.int (0 : Int32))]) (rest := []) (lenOf pd_5 rfl) rfl (by show 2 * 0 + _ ≤ _; exact Nat.le_of_eq rfl) (hb hby d11_32) (fun _ _ => ⟨rfl, rfl, (by decide : 2 + 0 ≤ _), (by decide : 6 + 0 ≤ _)⟩)
    dsimp only [Pt.U, Pt.locs, Pt.cells, Pt.slots] at X106 l106 y106 z106 st106 hQ106
    subst l106 y106 z106
    obtain ⟨rfl, N106, eh106⟩ := hQ106
    have Nf106 := Fr.app Nf105 N106
    refine own_go (S' := (T106.setTop (mkF m 56 #[.val (.ref cs), .val (.int (0 : Int32)), .val (.int (2 : Int32)), .val (.ref b101), .val (.int (0 : Int32)), .val (.ref b105)] [(.ref b105)]))) (fun tq kq => st106 tq (XS.sipush X106.here hx rfl (hb hby d11_35) (XS.icmpYes X106.here hx rfl (pc0 := 38) (pc' := 54) rfl (hb hby d11_38) rfl (tlt (by rw [own_gcc hr0.1 hr0.2]; exact hg0)).2.2.1 (by decide) (by decide) (XS.aload X106.here hx rfl (hb hby d11_54) rfl rfl kq)))) ?_
    refine own_retA X106 hx hlk hret rfl rfl (hb hby d11_56) (by decide) (by decide) ?_
    rw [eh106]
    exact ⟨b105, _, _, rfl, Nf106, KK105, gk_b105, V105, Or.inr rfl⟩
  · by_cases hg1 : (255 : Int32) < c1
    · rw [show (own_cnt2 c0 c1) = (1 : Int32) from by simp only [own_cnt2, if_neg hg0, if_pos hg1]]
      refine own_go (S' := (T103.setTop (mkF m 23 #[.val (.ref cs), .val (.int (0 : Int32)), .val (.int (2 : Int32)), .val (.ref b101), .val (.int (1 : Int32)), .unset] [(.int (2 : Int32)), (.int (0 : Int32)), (.ref cs)]))) (fun tq kq => XS.istore X103.here hx rfl (hb hby d11_12) rfl (l' := #[.val (.ref cs), .val (.int (0 : Int32)), .val (.int (2 : Int32)), .val (.ref b101), .val (.int (1 : Int32)), .unset]) rfl (XS.iload X103.here hx rfl (hb hby d11_14) rfl (XS.iloadN X103.here hx rfl (hb hby d11_16) rfl (XS.icmpNo X103.here hx rfl (hb hby d11_17) rfl (feq (by decide : ¬ ((1 : Int32) = (2 : Int32)))).1 (XS.aloadN X103.here hx rfl (hb hby d11_20) rfl rfl (XS.iloadN X103.here hx rfl (hb hby d11_21) rfl (XS.iloadN X103.here hx rfl (hb hby d11_22) rfl kq))))))) ?_
      have f107 := (f102.keep K103 (ninS ne_cs_b101 nin0))
      obtain ⟨_, _, ⟨T108, L108, k108, n108⟩, -, X108, ⟨Lc108, hQ108, l108, y108, z108⟩, st108⟩ := Jvm.LawKit.callS X103 hx (y := (⟨"java/lang/StringUTF16", "toBytes", "([CII)[B"⟩ : MethodName)) hown (mvT hZ (hw _ (List.mem_of_getElem? (i := 117) rfl))) (mvT hZ (hw _ (List.mem_of_getElem? (i := 118) rfl))) (mvT hZ (hw _ (List.mem_of_getElem? (i := 60) rfl))) (mvT hZ (hw _ (List.mem_of_getElem? (i := 119) rfl))) (by decide) (backOf (W := 0) (u16a2 l Z a0 hw [] T103.heap n0 O103 cs kcs c0 c1 z fm SC hz SA SH SL SF hfm f107) hZ (hw _ (List.mem_of_getElem? (i := 119) rfl)) (hw _ (List.mem_of_getElem? (i := 60) rfl)) (by decide) (by decide)) (g := (mkF m 23 #[.val (.ref cs), .val (.int (0 : Int32)), .val (.int (2 : Int32)), .val (.ref b101), .val (.int (1 : Int32)), .unset] [(.int (2 : Int32)), (.int (0 : Int32)), (.ref cs)])) rfl (by rw [hml]; rfl) (argsL := [(.ref cs), (.int (0 : Int32)), (.int (2 : Int32))]) (rest := []) (lenOf pd_15 rfl) rfl (by show 2 * 0 + _ ≤ _; exact Nat.le_of_eq rfl) (hb hby d11_23) (fun _ _ => ⟨rfl, rfl, (by decide : 1 + 1 ≤ _), (by decide : 2 + 4 ≤ _)⟩)
      dsimp only [Pt.U, Pt.locs, Pt.cells, Pt.slots] at X108 l108 y108 z108 st108 hQ108
      subst l108 y108 z108
      obtain ⟨b108, kb108, rfl, N108, K108, gb108, V108⟩ := hQ108
      have Nf108 := Fr.app Nf103 N108
      have O108 := O103.keep K108 all0
      have KK108 := KK103.trans K108 all0
      have ne_b101_b108 : b101 ≠ b108 := Nat.ne_of_lt (Nat.lt_of_lt_of_le V103.lt gb108)
      have ne_cs_b108 : cs ≠ b108 := Nat.ne_of_lt (Nat.lt_of_lt_of_le f107.lt gb108)
      have ge_b108 : n0 ≤ b108 := Nat.le_trans (own_osz O103) gb108
      have gk_b108 : h0.size ≤ b108 := Nat.le_trans KK103.1 gb108
      refine own_go (S' := (T108.setTop (mkF m 32 #[.val (.ref cs), .val (.int (0 : Int32)), .val (.int (2 : Int32)), .val (.ref b101), .val (.int (1 : Int32)), .val (.ref b108)] [(.int (1 : Int32)), (.ref b108)]))) (fun tq kq => st108 tq (XS.astore X108.here hx rfl (hb hby d11_26) rfl rfl (l' := #[.val (.ref cs), .val (.int (0 : Int32)), .val (.int (2 : Int32)), .val (.ref b101), .val (.int (1 : Int32)), .val (.ref b108)]) rfl (XS.aload X108.here hx rfl (hb hby d11_28) rfl rfl (XS.iload X108.here hx rfl (hb hby d11_30) rfl kq)))) ?_
      obtain ⟨_, _, ⟨T109, L109, k109, n109⟩, -, X109, ⟨Lc109, hQ109, l109, y109, z109⟩, st109⟩ := Jvm.LawKit.callS X108 hx (y := (⟨"java/lang/StringUTF16", "getChar", "([BI)C"⟩ : MethodName)) hown (mvT hZ (hw _ (List.mem_of_getElem? (i := 133) rfl))) (mvT hZ (hw _ (List.mem_of_getElem? (i := 134) rfl))) (mvT hZ (hw _ (List.mem_of_getElem? (i := 60) rfl))) (mvT hZ (hw _ (List.mem_of_getElem? (i := 135) rfl))) (by decide) (backOf (W := 0) (gch2_1 l Z a0 hw [] T108.heap n0 O108 b108 kb108 (own_b0 c1) (own_b1 c1) (.int (own_b0 c0)) (.int (own_b1 c0)) z fm SC hz SA SH SL SF hfm V108) hZ (hw _ (List.mem_of_getElem? (i := 135) rfl)) (hw _ (List.mem_of_getElem? (i := 60) rfl)) (by decide) (by decide)) (g := (mkF m 32 #[.val (.ref cs), .val (.int (0 : Int32)), .val (.int (2 : Int32)), .val (.ref b101), .val (.int (1 : Int32)), .val (.ref b108)] [(.int (1 : Int32)), (.ref b108)])) rfl (by rw [hml]; rfl) (argsL := [(.ref b108), (.int (1 : Int32))]) (rest := []) (lenOf pd_5 rfl) rfl (by show 2 * 0 + _ ≤ _; exact Nat.le_of_eq rfl) (hb hby d11_32) (fun _ _ => ⟨rfl, rfl, (by decide : 2 + 0 ≤ _), (by decide : 6 + 0 ≤ _)⟩)
      dsimp only [Pt.U, Pt.locs, Pt.cells, Pt.slots] at X109 l109 y109 z109 st109 hQ109
      subst l109 y109 z109
      obtain ⟨rfl, N109, eh109⟩ := hQ109
      have Nf109 := Fr.app Nf108 N109
      refine own_go (S' := (T109.setTop (mkF m 56 #[.val (.ref cs), .val (.int (0 : Int32)), .val (.int (2 : Int32)), .val (.ref b101), .val (.int (1 : Int32)), .val (.ref b108)] [(.ref b108)]))) (fun tq kq => st109 tq (XS.sipush X109.here hx rfl (hb hby d11_35) (XS.icmpYes X109.here hx rfl (pc0 := 38) (pc' := 54) rfl (hb hby d11_38) rfl (tlt (by rw [own_gcc hr1.1 hr1.2]; exact hg1)).2.2.1 (by decide) (by decide) (XS.aload X109.here hx rfl (hb hby d11_54) rfl rfl kq)))) ?_
      refine own_retA X109 hx hlk hret rfl rfl (hb hby d11_56) (by decide) (by decide) ?_
      rw [eh109]
      exact ⟨b108, _, _, rfl, Nf109, KK108, gk_b108, V108, Or.inr rfl⟩
    · rw [show (own_cnt2 c0 c1) = (2 : Int32) from by simp only [own_cnt2, if_neg hg0, if_neg hg1]]
      refine own_go (S' := (T103.setTop (mkF m 58 #[.val (.ref cs), .val (.int (0 : Int32)), .val (.int (2 : Int32)), .val (.ref b101), .val (.int (2 : Int32)), .unset] [(.ref b101)]))) (fun tq kq => XS.istore X103.here hx rfl (hb hby d11_12) rfl (l' := #[.val (.ref cs), .val (.int (0 : Int32)), .val (.int (2 : Int32)), .val (.ref b101), .val (.int (2 : Int32)), .unset]) rfl (XS.iload X103.here hx rfl (hb hby d11_14) rfl (XS.iloadN X103.here hx rfl (hb hby d11_16) rfl (XS.icmpYes X103.here hx rfl (pc0 := 17) (pc' := 57) rfl (hb hby d11_17) rfl (teq (by decide : (2 : Int32) = (2 : Int32))).1 (by decide) (by decide) (XS.aloadN X103.here hx rfl (hb hby d11_57) rfl rfl kq))))) ?_
      refine own_retA X103 hx hlk hret rfl rfl (hb hby d11_58) (by decide) (by decide) ?_
      exact ⟨b101, _, vs103, rfl, Nf103, KK103, gk_b101, V103, Or.inl hl103⟩
theorem pn_cfal2_2 : plainName "java/lang/StringUTF16" = true := by first | (simp [plainName, overriddenIn]; done) | decide +kernel
theorem ef_cfal2_2 (m : MethodId) (b : Addr) (kb : ClassId) (vs : List Value) (z : Int32) (fm : Value) : entryFrame m #[(.ref b), (.int (2 : Int32))] 2 = mkF m 0 #[.val (.ref b), .val (.int (2 : Int32))] [] := by first | (simp [entryFrame, mkF, argsToLocals, Value.category]; done) | rfl
def Q_cfal2_2 (Z : State) (h0 : Heap) (n0 : Nat) (b : Addr) (kb : ClassId) (vs : List Value) (z : Int32) (fm : Value) (v : Option Value) (h : Heap) (L : List Loc) : Prop := v = some (.int (0 : Int32)) ∧ Fr n0 L ∧ h = h0
set_option maxRecDepth 65536 in
set_option maxHeartbeats 40000000 in
theorem cfal2_2 (l : Launch) (Z : State) (a0 : Array Value) (hw : ∀ d ∈ tables_1, d.before a0 Z = true) (ws : List Jvm.Cond) (h0 : Heap) (n0 : Nat) (O0 : Old Z n0 h0) (b : Addr) (kb : ClassId) (vs : List Value) (z : Int32) (fm : Value) (SC : Sta Z Z.heap "java/lang/String" "COMPACT_STRINGS" "Z" (.int z)) (hz : ¬ (z = (0 : Int32))) (SA : Sta Z Z.heap "java/lang/StringUTF16" "$assertionsDisabled" "Z" (.int (1 : Int32))) (SH : Sta Z Z.heap "java/lang/StringUTF16" "HI_BYTE_SHIFT" "I" (.int (0 : Int32))) (SL : Sta Z Z.heap "java/lang/StringUTF16" "LO_BYTE_SHIFT" "I" (.int (8 : Int32))) (SF : Sta Z Z.heap "jdk/internal/util/Preconditions" "SIOOBE_FORMATTER" "Ljava/util/function/BiFunction;" fm) (hfm : fm.isRef = true) (Vb : own_Ar Z h0 b kb .byte vs) (hvs : vs.length = 2) :
    MetFree l (⟨"java/lang/StringUTF16", "coderFromArrayLen", "([BI)B"⟩ : MethodName) (head1 (Jvm.Cond.code (⟨"java/lang/StringUTF16", "coderFromArrayLen", "([BI)B"⟩ : MethodName) jdk_52_method_15_code 2 (some .byte) :: ws) ({ frames := 0, cells := 0, slots := 0, locals := 0 } : Room)) (fun aq U => aq = #[(.ref b), (.int (2 : Int32))] ∧ Z.Warmed39 U.vm ∧ U.heap = h0) (fun _ _ _ _ _ => True) (fun _ U oo U' => ∃ v L, oo = .returned v ∧ Q_cfal2_2 Z h0 n0 b kb vs z fm v U'.heap L ∧ FrameEnd U oo U' L ({ frames := 0, cells := 0, slots := 0, locals := 0 } : Room).cells ({ frames := 0, cells := 0, slots := 0, locals := 0 } : Room).slots) := by
  refine MetFree.of_bodySF (plainFor_of_name pn_cfal2_2) hisR ?_
  intro p e s m args below meth c s₁ Bd hml0 hP hK
  obtain ⟨rfl, hZ, hh⟩ := hP
  have hx := Bd.exec
  have hby := Bd.bytes
  have hml : c.maxLocals = 2 := hml0
  have hown : s.vm.findClass "java/lang/StringUTF16" = some m.cls := findClass_of_methodNamed Bd.named
  have hnm := (name_of_methodNamed Bd.named Bd.method).1
  have hlk := Bd.notSynchronized
  have hret := Bd.returns
  have X0 : Stand p l e ({ frames := 0, cells := 0, slots := 0, locals := 0 } : Room) s m #[(.ref b), (.int (2 : Int32))] below meth c s₁ [] 0 0 := Stand.of_body Bd
  have e0 : s₁.heap = h0 := by rw [← hh, Bd.state]; rfl
  have N0 := Fr.nil n0
  have K0 := Keep.refl h0 []
  refine own_go (S' := (s₁.setTop (mkF m 0 #[.val (.ref b), .val (.int (2 : Int32))] []))) (fun tq kq => castTop (ef_cfal2_2 m b kb vs z fm) kq) ?_
  show own_G p e s below (Q_cfal2_2 Z h0 n0 b kb vs z fm) _ _ _
  refine own_go (S' := (s₁.setTop (mkF m 2 #[.val (.ref b), .val (.int (2 : Int32))] [(.ref b), (.int (2 : Int32))]))) (fun tq kq => XS.iloadN X0.here hx rfl (hb hby d13_0) rfl (XS.aloadN X0.here hx rfl (hb hby d13_1) rfl rfl kq)) ?_
  obtain ⟨cl101, Ar101, ln101⟩ := Vb.len
  have lq101 : cl101.slots.size.toInt32 = (2 : Int32) := ln101.trans (by rw [hvs]; rfl)
  refine own_go (S' := (s₁.setTop (mkF m 7 #[.val (.ref b), .val (.int (2 : Int32))] [(.int (((0 : Int32).toUInt32 >>> ((31 : Int32) &&& 31).toUInt32).toInt32))]))) (fun tq kq => X0.arraylength hx (by rw [e0]; exact Ar101.1) (State.isArrayOf_alike hZ.alike Ar101.2.1) (g := (mkF m 2 #[.val (.ref b), .val (.int (2 : Int32))] [(.ref b), (.int (2 : Int32))])) rfl rfl (hb hby d13_2) tq (by rw [lq101]; exact (XS.isub X0.here hx rfl (hb hby d13_3) rfl (XS.bipush X0.here hx rfl (hb hby d13_4) (XS.iushr X0.here hx rfl (hb hby d13_6) rfl kq))))) ?_
  rw [show (((0 : Int32).toUInt32 >>> ((31 : Int32) &&& 31).toUInt32).toInt32) = (0 : Int32) from by decide]
  refine own_go (S' := (s₁.setTop (mkF m 8 #[.val (.ref b), .val (.int (2 : Int32))] [(.int ((0 : Int32).toInt8.toInt32))]))) (fun tq kq => XS.i2b X0.here hx rfl (hb hby d13_7) rfl kq) ?_
  rw [show ((0 : Int32).toInt8.toInt32) = (0 : Int32) from by decide]
  refine own_retN X0 hx hlk hret (by simp) (hb hby d13_8) (by decide) (by decide) ?_
  exact ⟨rfl, N0, e0⟩
theorem pn_cfal4_2 : plainName "java/lang/StringUTF16" = true := by first | (simp [plainName, overriddenIn]; done) | decide +kernel
theorem ef_cfal4_2 (m : MethodId) (b : Addr) (kb : ClassId) (vs : List Value) (z : Int32) (fm : Value) : entryFrame m #[(.ref b), (.int (2 : Int32))] 2 = mkF m 0 #[.val (.ref b), .val (.int (2 : Int32))] [] := by first | (simp [entryFrame, mkF, argsToLocals, Value.category]; done) | rfl
def Q_cfal4_2 (Z : State) (h0 : Heap) (n0 : Nat) (b : Addr) (kb : ClassId) (vs : List Value) (z : Int32) (fm : Value) (v : Option Value) (h : Heap) (L : List Loc) : Prop := v = some (.int (1 : Int32)) ∧ Fr n0 L ∧ h = h0
set_option maxRecDepth 65536 in
set_option maxHeartbeats 40000000 in
theorem cfal4_2 (l : Launch) (Z : State) (a0 : Array Value) (hw : ∀ d ∈ tables_1, d.before a0 Z = true) (ws : List Jvm.Cond) (h0 : Heap) (n0 : Nat) (O0 : Old Z n0 h0) (b : Addr) (kb : ClassId) (vs : List Value) (z : Int32) (fm : Value) (SC : Sta Z Z.heap "java/lang/String" "COMPACT_STRINGS" "Z" (.int z)) (hz : ¬ (z = (0 : Int32))) (SA : Sta Z Z.heap "java/lang/StringUTF16" "$assertionsDisabled" "Z" (.int (1 : Int32))) (SH : Sta Z Z.heap "java/lang/StringUTF16" "HI_BYTE_SHIFT" "I" (.int (0 : Int32))) (SL : Sta Z Z.heap "java/lang/StringUTF16" "LO_BYTE_SHIFT" "I" (.int (8 : Int32))) (SF : Sta Z Z.heap "jdk/internal/util/Preconditions" "SIOOBE_FORMATTER" "Ljava/util/function/BiFunction;" fm) (hfm : fm.isRef = true) (Vb : own_Ar Z h0 b kb .byte vs) (hvs : vs.length = 4) :
    MetFree l (⟨"java/lang/StringUTF16", "coderFromArrayLen", "([BI)B"⟩ : MethodName) (head1 (Jvm.Cond.code (⟨"java/lang/StringUTF16", "coderFromArrayLen", "([BI)B"⟩ : MethodName) jdk_52_method_15_code 2 (some .byte) :: ws) ({ frames := 0, cells := 0, slots := 0, locals := 0 } : Room)) (fun aq U => aq = #[(.ref b), (.int (2 : Int32))] ∧ Z.Warmed39 U.vm ∧ U.heap = h0) (fun _ _ _ _ _ => True) (fun _ U oo U' => ∃ v L, oo = .returned v ∧ Q_cfal4_2 Z h0 n0 b kb vs z fm v U'.heap L ∧ FrameEnd U oo U' L ({ frames := 0, cells := 0, slots := 0, locals := 0 } : Room).cells ({ frames := 0, cells := 0, slots := 0, locals := 0 } : Room).slots) := by
  refine MetFree.of_bodySF (plainFor_of_name pn_cfal4_2) hisR ?_
  intro p e s m args below meth c s₁ Bd hml0 hP hK
  obtain ⟨rfl, hZ, hh⟩ := hP
  have hx := Bd.exec
  have hby := Bd.bytes
  have hml : c.maxLocals = 2 := hml0
  have hown : s.vm.findClass "java/lang/StringUTF16" = some m.cls := findClass_of_methodNamed Bd.named
  have hnm := (name_of_methodNamed Bd.named Bd.method).1
  have hlk := Bd.notSynchronized
  have hret := Bd.returns
  have X0 : Stand p l e ({ frames := 0, cells := 0, slots := 0, locals := 0 } : Room) s m #[(.ref b), (.int (2 : Int32))] below meth c s₁ [] 0 0 := Stand.of_body Bd
  have e0 : s₁.heap = h0 := by rw [← hh, Bd.state]; rfl
  have N0 := Fr.nil n0
  have K0 := Keep.refl h0 []
  refine own_go (S' := (s₁.setTop (mkF m 0 #[.val (.ref b), .val (.int (2 : Int32))] []))) (fun tq kq => castTop (ef_cfal4_2 m b kb vs z fm) kq) ?_
  show own_G p e s below (Q_cfal4_2 Z h0 n0 b kb vs z fm) _ _ _
  refine own_go (S' := (s₁.setTop (mkF m 2 #[.val (.ref b), .val (.int (2 : Int32))] [(.ref b), (.int (2 : Int32))]))) (fun tq kq => XS.iloadN X0.here hx rfl (hb hby d13_0) rfl (XS.aloadN X0.here hx rfl (hb hby d13_1) rfl rfl kq)) ?_
  obtain ⟨cl101, Ar101, ln101⟩ := Vb.len
  have lq101 : cl101.slots.size.toInt32 = (4 : Int32) := ln101.trans (by rw [hvs]; rfl)
  refine own_go (S' := (s₁.setTop (mkF m 7 #[.val (.ref b), .val (.int (2 : Int32))] [(.int (((-2 : Int32).toUInt32 >>> ((31 : Int32) &&& 31).toUInt32).toInt32))]))) (fun tq kq => X0.arraylength hx (by rw [e0]; exact Ar101.1) (State.isArrayOf_alike hZ.alike Ar101.2.1) (g := (mkF m 2 #[.val (.ref b), .val (.int (2 : Int32))] [(.ref b), (.int (2 : Int32))])) rfl rfl (hb hby d13_2) tq (by rw [lq101]; exact (XS.isub X0.here hx rfl (hb hby d13_3) rfl (XS.bipush X0.here hx rfl (hb hby d13_4) (XS.iushr X0.here hx rfl (hb hby d13_6) rfl kq))))) ?_
  rw [show (((-2 : Int32).toUInt32 >>> ((31 : Int32) &&& 31).toUInt32).toInt32) = (1 : Int32) from by decide]
  refine own_go (S' := (s₁.setTop (mkF m 8 #[.val (.ref b), .val (.int (2 : Int32))] [(.int ((1 : Int32).toInt8.toInt32))]))) (fun tq kq => XS.i2b X0.here hx rfl (hb hby d13_7) rfl kq) ?_
  rw [show ((1 : Int32).toInt8.toInt32) = (1 : Int32) from by decide]
  refine own_retN X0 hx hlk hret (by simp) (hb hby d13_8) (by decide) (by decide) ?_
  exact ⟨rfl, N0, e0⟩
theorem pn_icv2 : plainName "java/lang/String" = true := by first | (simp [plainName, overriddenIn]; done) | decide +kernel
theorem ef_icv2 (m : MethodId) (a : Addr) (cs : Addr) (kcs : ClassId) (c0 : Int32) (c1 : Int32) (z : Int32) (fm : Value) : entryFrame m #[(.ref a), (.ref cs), (.int (0 : Int32)), (.int (2 : Int32)), .null] 6 = mkF m 0 #[.val (.ref a), .val (.ref cs), .val (.int (0 : Int32)), .val (.int (2 : Int32)), .val .null, .unset] [] := by first | (simp [entryFrame, mkF, argsToLocals, Value.category]; done) | rfl
def Q_icv2 (Z : State) (h0 : Heap) (n0 : Nat) (a : Addr) (cs : Addr) (kcs : ClassId) (c0 : Int32) (c1 : Int32) (z : Int32) (fm : Value) (v : Option Value) (h : Heap) (L : List Loc) : Prop := v = none ∧ Fr n0 L ∧ Keep h0 h [a] ∧ ∃ (d : Addr) (kd : ClassId) (vs : List Value), Fld Z h a "java/lang/String" "value" "[B" (.ref d) ∧ own_Ar Z h d kd .byte vs ∧ ((Fld Z h a "java/lang/String" "coder" "B" (.int (0 : Int32)) ∧ vs.length = 2) ∨ (Fld Z h a "java/lang/String" "coder" "B" (.int (1 : Int32)) ∧ vs.length = 4))
set_option maxRecDepth 65536 in
set_option maxHeartbeats 40000000 in
theorem icv2 (l : Launch) (Z : State) (a0 : Array Value) (hw : ∀ d ∈ tables_1, d.before a0 Z = true) (ws : List Jvm.Cond) (h0 : Heap) (n0 : Nat) (O0 : Old Z n0 h0) (a : Addr) (cs : Addr) (kcs : ClassId) (c0 : Int32) (c1 : Int32) (z : Int32) (fm : Value) (SC : Sta Z Z.heap "java/lang/String" "COMPACT_STRINGS" "Z" (.int z)) (hz : ¬ (z = (0 : Int32))) (SA : Sta Z Z.heap "java/lang/StringUTF16" "$assertionsDisabled" "Z" (.int (1 : Int32))) (SH : Sta Z Z.heap "java/lang/StringUTF16" "HI_BYTE_SHIFT" "I" (.int (0 : Int32))) (SL : Sta Z Z.heap "java/lang/StringUTF16" "LO_BYTE_SHIFT" "I" (.int (8 : Int32))) (SF : Sta Z Z.heap "jdk/internal/util/Preconditions" "SIOOBE_FORMATTER" "Ljava/util/function/BiFunction;" fm) (hfm : fm.isRef = true) (Ea : Exa Z h0 a "java/lang/String") (Fv : Fld Z h0 a "java/lang/String" "value" "[B" .null) (Fc : Fld Z h0 a "java/lang/String" "coder" "B" (.int (0 : Int32))) (ga : n0 ≤ a) (Vcs : own_Ar Z h0 cs kcs .char [(.int c0), (.int c1)]) (hr0 : 0 ≤ c0.toInt ∧ c0.toInt < 65536) (hr1 : 0 ≤ c1.toInt ∧ c1.toInt < 65536) (nac : cs ≠ a) :
    MetFree l (⟨"java/lang/String", "<init>", "([CIILjava/lang/Void;)V"⟩ : MethodName) (head1 (Jvm.Cond.code (⟨"java/lang/String", "<init>", "([CIILjava/lang/Void;)V"⟩ : MethodName) jdk_42_method_149_code 6 none :: ws) ({ frames := 4, cells := 2, slots := 6, locals := 57 } : Room)) (fun aq U => aq = #[(.ref a), (.ref cs), (.int (0 : Int32)), (.int (2 : Int32)), .null] ∧ Z.Warmed39 U.vm ∧ U.heap = h0) (fun _ _ _ _ _ => True) (fun _ U oo U' => ∃ v L, oo = .returned v ∧ Q_icv2 Z h0 n0 a cs kcs c0 c1 z fm v U'.heap L ∧ FrameEnd U oo U' L ({ frames := 4, cells := 2, slots := 6, locals := 57 } : Room).cells ({ frames := 4, cells := 2, slots := 6, locals := 57 } : Room).slots) := by
  refine MetFree.of_bodySF (plainFor_of_name pn_icv2) hisR ?_
  intro p e s m args below meth c s₁ Bd hml0 hP hK
  obtain ⟨rfl, hZ, hh⟩ := hP
  have hx := Bd.exec
  have hby := Bd.bytes
  have hml : c.maxLocals = 6 := hml0
  have hown : s.vm.findClass "java/lang/String" = some m.cls := findClass_of_methodNamed Bd.named
  have hnm := (name_of_methodNamed Bd.named Bd.method).1
  have hlk := Bd.notSynchronized
  have hret := Bd.returns
  have X0 : Stand p l e ({ frames := 4, cells := 2, slots := 6, locals := 57 } : Room) s m #[(.ref a), (.ref cs), (.int (0 : Int32)), (.int (2 : Int32)), .null] below meth c s₁ [] 0 0 := Stand.of_body Bd
  have e0 : s₁.heap = h0 := by rw [← hh, Bd.state]; rfl
  have N0 := Fr.nil n0
  have K0 := Keep.refl h0 [a]
  refine own_go (S' := (s₁.setTop (mkF m 0 #[.val (.ref a), .val (.ref cs), .val (.int (0 : Int32)), .val (.int (2 : Int32)), .val .null, .unset] []))) (fun tq kq => castTop (ef_icv2 m a cs kcs c0 c1 z fm) kq) ?_
  show own_G p e s below (Q_icv2 Z h0 n0 a cs kcs c0 c1 z fm) _ _ _
  refine own_go (S' := (s₁.setTop (mkF m 1 #[.val (.ref a), .val (.ref cs), .val (.int (0 : Int32)), .val (.int (2 : Int32)), .val .null, .unset] [(.ref a)]))) (fun tq kq => XS.aloadN X0.here hx rfl (hb hby d3_0) rfl rfl kq) ?_
  obtain ⟨T101, X101, e101, st101⟩ := initO X0 hx hZ hown (hw _ (List.mem_of_getElem? (i := 17) rfl)) (hw _ (List.mem_of_getElem? (i := 18) rfl)) (hw _ (List.mem_of_getElem? (i := 19) rfl)) e0 (g := (mkF m 1 #[.val (.ref a), .val (.ref cs), .val (.int (0 : Int32)), .val (.int (2 : Int32)), .val .null, .unset] [(.ref a)])) rfl (by rw [hml]; rfl) rfl (hb hby d3_1) (by decide) (W := 0) (by show 2 * 0 + _ ≤ _; exact Nat.le_of_eq rfl) (by decide)
  refine own_go (S' := (T101.setTop (mkF m 27 #[.val (.ref a), .val (.ref cs), .val (.int (0 : Int32)), .val (.int (2 : Int32)), .val .null, .unset] []))) (fun tq kq => st101 tq (XS.iloadN X101.here hx rfl (hb hby d3_4) rfl (XS.ifYes X101.here hx rfl (pc0 := 5) (pc' := 27) rfl (hb hby d3_5) rfl ((if0 _ _).trans (feq (by decide : ¬ ((2 : Int32) = (0 : Int32)))).2) (by decide) (by decide) kq))) ?_
  obtain ⟨T102, X102, e102, st102⟩ := getS2 X101 hx hZ hown (host := "") (Or.inl (hw _ (List.mem_of_getElem? (i := 42) rfl))) Via.refl e101 (SC.ext O0.2) (g := (mkF m 27 #[.val (.ref a), .val (.ref cs), .val (.int (0 : Int32)), .val (.int (2 : Int32)), .val .null, .unset] [])) rfl (hb hby d3_27)
  refine own_go (S' := (T102.setTop (mkF m 36 #[.val (.ref a), .val (.ref cs), .val (.int (0 : Int32)), .val (.int (2 : Int32)), .val .null, .unset] [(.int (2 : Int32)), (.int (0 : Int32)), (.ref cs)]))) (fun tq kq => st102 tq (XS.ifNo X102.here hx rfl (hb hby d3_30) rfl ((if0 _ _).trans (feq hz).1) (XS.aloadN X102.here hx rfl (hb hby d3_33) rfl rfl (XS.iloadN X102.here hx rfl (hb hby d3_34) rfl (XS.iloadN X102.here hx rfl (hb hby d3_35) rfl kq))))) ?_
  obtain ⟨_, _, ⟨T103, L103, k103, n103⟩, -, X103, ⟨Lc103, hQ103, l103, y103, z103⟩, st103⟩ := Jvm.LawKit.callS X102 hx (y := (⟨"java/lang/StringUTF16", "compress", "([CII)[B"⟩ : MethodName)) hown (mvT hZ (hw _ (List.mem_of_getElem? (i := 58) rfl))) (mvT hZ (hw _ (List.mem_of_getElem? (i := 59) rfl))) (mvT hZ (hw _ (List.mem_of_getElem? (i := 60) rfl))) (mvT hZ (hw _ (List.mem_of_getElem? (i := 61) rfl))) (by decide) (backOf (W := 0) (cmpb2 l Z a0 hw [] h0 n0 O0 cs kcs c0 c1 z fm SC hz SA SH SL SF hfm Vcs hr0 hr1) hZ (hw _ (List.mem_of_getElem? (i := 61) rfl)) (hw _ (List.mem_of_getElem? (i := 60) rfl)) (by decide) (by decide)) (g := (mkF m 36 #[.val (.ref a), .val (.ref cs), .val (.int (0 : Int32)), .val (.int (2 : Int32)), .val .null, .unset] [(.int (2 : Int32)), (.int (0 : Int32)), (.ref cs)])) rfl (by rw [hml]; rfl) (argsL := [(.ref cs), (.int (0 : Int32)), (.int (2 : Int32))]) (rest := []) (lenOf pd_15 rfl) rfl (by show 2 * 0 + _ ≤ _; exact Nat.le_of_eq rfl) (hb hby d3_36) (fun _ _ => ⟨rfl, e102, (by decide : 0 + 2 ≤ _), (by decide : 0 + 6 ≤ _)⟩)
  dsimp only [Pt.U, Pt.locs, Pt.cells, Pt.slots] at X103 l103 y103 z103 st103 hQ103
  subst l103 y103 z103
  obtain ⟨b103, kb103, vs103, rfl, N103, K103, gb103, V103, hl103⟩ := hQ103
  have Nf103 := Fr.app N0 N103
  have O103 := O0.keep K103 all0
  have KK103 := K0.trans K103 all0
  have ne_a_b103 : a ≠ b103 := Nat.ne_of_lt (Nat.lt_of_lt_of_le Ea.lt gb103)
  have ne_cs_b103 : cs ≠ b103 := Nat.ne_of_lt (Nat.lt_of_lt_of_le Vcs.lt gb103)
  have ge_b103 : n0 ≤ b103 := Nat.le_trans (own_osz O0) gb103
  have gk_b103 : h0.size ≤ b103 := Nat.le_trans K0.1 gb103
  refine own_go (S' := (T103.setTop (mkF m 45 #[.val (.ref a), .val (.ref cs), .val (.int (0 : Int32)), .val (.int (2 : Int32)), .val .null, .val (.ref b103)] [(.int (2 : Int32)), (.ref b103), (.ref a)]))) (fun tq kq => st103 tq (XS.astore X103.here hx rfl (hb hby d3_39) rfl rfl (l' := #[.val (.ref a), .val (.ref cs), .val (.int (0 : Int32)), .val (.int (2 : Int32)), .val .null, .val (.ref b103)]) rfl (XS.aloadN X103.here hx rfl (hb hby d3_41) rfl rfl (XS.aload X103.here hx rfl (hb hby d3_42) rfl rfl (XS.iloadN X103.here hx rfl (hb hby d3_44) rfl kq))))) ?_
  rcases hl103 with hll | hll
  · obtain ⟨_, _, ⟨T104, L104, k104, n104⟩, -, X104, ⟨Lc104, hQ104, l104, y104, z104⟩, st104⟩ := Jvm.LawKit.callS X103 hx (y := (⟨"java/lang/StringUTF16", "coderFromArrayLen", "([BI)B"⟩ : MethodName)) hown (mvT hZ (hw _ (List.mem_of_getElem? (i := 65) rfl))) (mvT hZ (hw _ (List.mem_of_getElem? (i := 66) rfl))) (mvT hZ (hw _ (List.mem_of_getElem? (i := 60) rfl))) (mvT hZ (hw _ (List.mem_of_getElem? (i := 67) rfl))) (by decide) (backOf (W := 1) (cfal2_2 l Z a0 hw [] T103.heap n0 O103 b103 kb103 vs103 z fm SC hz SA SH SL SF hfm V103 hll) hZ (hw _ (List.mem_of_getElem? (i := 67) rfl)) (hw _ (List.mem_of_getElem? (i := 60) rfl)) (by decide) (by decide)) (g := (mkF m 45 #[.val (.ref a), .val (.ref cs), .val (.int (0 : Int32)), .val (.int (2 : Int32)), .val .null, .val (.ref b103)] [(.int (2 : Int32)), (.ref b103), (.ref a)])) rfl (by rw [hml]; rfl) (argsL := [(.ref b103), (.int (2 : Int32))]) (rest := [(.ref a)]) (lenOf pd_16 rfl) rfl (by show 2 * 0 + _ ≤ _; exact Nat.le_of_eq rfl) (hb hby d3_45) (fun _ _ => ⟨rfl, rfl, (by decide : 2 + 0 ≤ _), (by decide : 6 + 0 ≤ _)⟩)
    dsimp only [Pt.U, Pt.locs, Pt.cells, Pt.slots] at X104 l104 y104 z104 st104 hQ104
    subst l104 y104 z104
    obtain ⟨rfl, N104, eh104⟩ := hQ104
    have Nf104 := Fr.app Nf103 N104
    refine own_go (S' := (T104.setTop (mkF m 48 #[.val (.ref a), .val (.ref cs), .val (.int (0 : Int32)), .val (.int (2 : Int32)), .val .null, .val (.ref b103)] [(.int (0 : Int32)), (.ref a)]))) (fun tq kq => st104 tq kq) ?_
    have f105 := (Fc.keep K103 nin0)
    have f106 := (Ea.keep K103)
    obtain ⟨T107, h107, X107, e107, W107, st107⟩ := putFN X104 hx hZ hown (hw _ (List.mem_of_getElem? (i := 27) rfl)) Via.refl eh104 f105 f106 (Or.inr ⟨(hw _ (List.mem_of_getElem? (i := 23) rfl)), rfl, hnm⟩) (hw _ (List.mem_of_getElem? (i := 7) rfl)) (ty := .byte) (v' := (.int (0 : Int32))) (by decide) rfl rfl (g := (mkF m 48 #[.val (.ref a), .val (.ref cs), .val (.int (0 : Int32)), .val (.int (2 : Int32)), .val .null, .val (.ref b103)] [(.int (0 : Int32)), (.ref a)])) rfl rfl (hb hby d3_48)
    have N107 := Fr.snoc X107 Nf104 ga
    have O107 := O103.wr W107 ga
    have K107 := KK103.wr W107 (Or.inl (List.mem_of_getElem? (i := 0) rfl))
    have F107 := f105.same W107
    refine own_go (S' := (T107.setTop (mkF m 54 #[.val (.ref a), .val (.ref cs), .val (.int (0 : Int32)), .val (.int (2 : Int32)), .val .null, .val (.ref b103)] [(.ref b103), (.ref a)]))) (fun tq kq => st107 tq (XS.aloadN X107.here hx rfl (hb hby d3_51) rfl rfl (XS.aload X107.here hx rfl (hb hby d3_52) rfl rfl kq))) ?_
    have f108 := ((Fv.keep K103 nin0).other W107 (Or.inr (slot_ne (Or.inr (hw _ (List.mem_of_getElem? (i := 22) rfl))) (Or.inr (hw _ (List.mem_of_getElem? (i := 23) rfl))) (by decide) (t := (.array .byte)) (t' := .byte) (by decide) (by decide))))
    have f109 := (f106.wr W107)
    obtain ⟨T110, h110, X110, e110, W110, st110⟩ := putF X107 hx hZ hown (host := "") (Or.inl (hw _ (List.mem_of_getElem? (i := 26) rfl))) Via.refl e107 f108 f109 (Or.inr ⟨(hw _ (List.mem_of_getElem? (i := 22) rfl)), rfl, hnm⟩) (hw _ (List.mem_of_getElem? (i := 7) rfl)) (ty := (.array .byte)) (by decide) rfl rfl (g := (mkF m 54 #[.val (.ref a), .val (.ref cs), .val (.int (0 : Int32)), .val (.int (2 : Int32)), .val .null, .val (.ref b103)] [(.ref b103), (.ref a)])) rfl rfl (hb hby d3_54)
    have N110 := Fr.snoc X110 N107 ga
    have O110 := O107.wr W110 ga
    have K110 := K107.wr W110 (Or.inl (List.mem_of_getElem? (i := 0) rfl))
    have F110 := f108.same W110
    refine own_go (S' := (T110.setTop (mkF m 57 #[.val (.ref a), .val (.ref cs), .val (.int (0 : Int32)), .val (.int (2 : Int32)), .val .null, .val (.ref b103)] []))) (fun tq kq => st110 tq kq) ?_
    refine own_retV X110 hx hlk hret (hb hby d3_57) (by decide) (by decide) ?_
    have f111 := ((V103.other W107 (Ne.symm ne_a_b103)).other W110 (Ne.symm ne_a_b103))
    have f112 := (F107.other W110 (Or.inr (slot_ne (Or.inr (hw _ (List.mem_of_getElem? (i := 23) rfl))) (Or.inr (hw _ (List.mem_of_getElem? (i := 22) rfl))) (by decide) (t := .byte) (t' := (.array .byte)) (by decide) (by decide))))
    rw [e110]
    exact ⟨rfl, N110, K110, b103, _, _, F110, f111, Or.inl ⟨f112, hll⟩⟩
  · obtain ⟨_, _, ⟨T113, L113, k113, n113⟩, -, X113, ⟨Lc113, hQ113, l113, y113, z113⟩, st113⟩ := Jvm.LawKit.callS X103 hx (y := (⟨"java/lang/StringUTF16", "coderFromArrayLen", "([BI)B"⟩ : MethodName)) hown (mvT hZ (hw _ (List.mem_of_getElem? (i := 65) rfl))) (mvT hZ (hw _ (List.mem_of_getElem? (i := 66) rfl))) (mvT hZ (hw _ (List.mem_of_getElem? (i := 60) rfl))) (mvT hZ (hw _ (List.mem_of_getElem? (i := 67) rfl))) (by decide) (backOf (W := 1) (cfal4_2 l Z a0 hw [] T103.heap n0 O103 b103 kb103 vs103 z fm SC hz SA SH SL SF hfm V103 hll) hZ (hw _ (List.mem_of_getElem? (i := 67) rfl)) (hw _ (List.mem_of_getElem? (i := 60) rfl)) (by decide) (by decide)) (g := (mkF m 45 #[.val (.ref a), .val (.ref cs), .val (.int (0 : Int32)), .val (.int (2 : Int32)), .val .null, .val (.ref b103)] [(.int (2 : Int32)), (.ref b103), (.ref a)])) rfl (by rw [hml]; rfl) (argsL := [(.ref b103), (.int (2 : Int32))]) (rest := [(.ref a)]) (lenOf pd_16 rfl) rfl (by show 2 * 0 + _ ≤ _; exact Nat.le_of_eq rfl) (hb hby d3_45) (fun _ _ => ⟨rfl, rfl, (by decide : 2 + 0 ≤ _), (by decide : 6 + 0 ≤ _)⟩)
    dsimp only [Pt.U, Pt.locs, Pt.cells, Pt.slots] at X113 l113 y113 z113 st113 hQ113
    subst l113 y113 z113
    obtain ⟨rfl, N113, eh113⟩ := hQ113
    have Nf113 := Fr.app Nf103 N113
    refine own_go (S' := (T113.setTop (mkF m 48 #[.val (.ref a), .val (.ref cs), .val (.int (0 : Int32)), .val (.int (2 : Int32)), .val .null, .val (.ref b103)] [(.int (1 : Int32)), (.ref a)]))) (fun tq kq => st113 tq kq) ?_
    have f114 := (Fc.keep K103 nin0)
    have f115 := (Ea.keep K103)
    obtain ⟨T116, h116, X116, e116, W116, st116⟩ := putFN X113 hx hZ hown (hw _ (List.mem_of_getElem? (i := 27) rfl)) Via.refl eh113 f114 f115 (Or.inr ⟨(hw _ (List.mem_of_getElem? (i := 23) rfl)), rfl, hnm⟩) (hw _ (List.mem_of_getElem? (i := 7) rfl)) (ty := .byte) (v' := (.int (1 : Int32))) (by decide) rfl rfl (g := (mkF m 48 #[.val (.ref a), .val (.ref cs), .val (.int (0 : Int32)), .val (.int (2 : Int32)), .val .null, .val (.ref b103)] [(.int (1 : Int32)), (.ref a)])) rfl rfl (hb hby d3_48)
    have N116 := Fr.snoc X116 Nf113 ga
    have O116 := O103.wr W116 ga
    have K116 := KK103.wr W116 (Or.inl (List.mem_of_getElem? (i := 0) rfl))
    have F116 := f114.same W116
    refine own_go (S' := (T116.setTop (mkF m 54 #[.val (.ref a), .val (.ref cs), .val (.int (0 : Int32)), .val (.int (2 : Int32)), .val .null, .val (.ref b103)] [(.ref b103), (.ref a)]))) (fun tq kq => st116 tq (XS.aloadN X116.here hx rfl (hb hby d3_51) rfl rfl (XS.aload X116.here hx rfl (hb hby d3_52) rfl rfl kq))) ?_
    have f117 := ((Fv.keep K103 nin0).other W116 (Or.inr (slot_ne (Or.inr (hw _ (List.mem_of_getElem? (i := 22) rfl))) (Or.inr (hw _ (List.mem_of_getElem? (i := 23) rfl))) (by decide) (t := (.array .byte)) (t' := .byte) (by decide) (by decide))))
    have f118 := (f115.wr W116)
    obtain ⟨T119, h119, X119, e119, W119, st119⟩ := putF X116 hx hZ hown (host := "") (Or.inl (hw _ (List.mem_of_getElem? (i := 26) rfl))) Via.refl e116 f117 f118 (Or.inr ⟨(hw _ (List.mem_of_getElem? (i := 22) rfl)), rfl, hnm⟩) (hw _ (List.mem_of_getElem? (i := 7) rfl)) (ty := (.array .byte)) (by decide) rfl rfl (g := (mkF m 54 #[.val (.ref a), .val (.ref cs), .val (.int (0 : Int32)), .val (.int (2 : Int32)), .val .null, .val (.ref b103)] [(.ref b103), (.ref a)])) rfl rfl (hb hby d3_54)
    have N119 := Fr.snoc X119 N116 ga
    have O119 := O116.wr W119 ga
    have K119 := K116.wr W119 (Or.inl (List.mem_of_getElem? (i := 0) rfl))
    have F119 := f117.same W119
    refine own_go (S' := (T119.setTop (mkF m 57 #[.val (.ref a), .val (.ref cs), .val (.int (0 : Int32)), .val (.int (2 : Int32)), .val .null, .val (.ref b103)] []))) (fun tq kq => st119 tq kq) ?_
    refine own_retV X119 hx hlk hret (hb hby d3_57) (by decide) (by decide) ?_
    have f120 := ((V103.other W116 (Ne.symm ne_a_b103)).other W119 (Ne.symm ne_a_b103))
    have f121 := (F116.other W119 (Or.inr (slot_ne (Or.inr (hw _ (List.mem_of_getElem? (i := 23) rfl))) (Or.inr (hw _ (List.mem_of_getElem? (i := 22) rfl))) (by decide) (t := .byte) (t' := (.array .byte)) (by decide) (by decide))))
    rw [e119]
    exact ⟨rfl, N119, K119, b103, _, _, F119, f120, Or.inr ⟨f121, hll⟩⟩
theorem pn_inc2 : plainName "java/lang/String" = true := by first | (simp [plainName, overriddenIn]; done) | decide +kernel
theorem ef_inc2 (m : MethodId) (a : Addr) (cs : Addr) (kcs : ClassId) (c0 : Int32) (c1 : Int32) (z : Int32) (fm : Value) : entryFrame m #[(.ref a), (.ref cs)] 2 = mkF m 0 #[.val (.ref a), .val (.ref cs)] [] := by first | (simp [entryFrame, mkF, argsToLocals, Value.category]; done) | rfl
def Q_inc2 (Z : State) (h0 : Heap) (n0 : Nat) (a : Addr) (cs : Addr) (kcs : ClassId) (c0 : Int32) (c1 : Int32) (z : Int32) (fm : Value) (v : Option Value) (h : Heap) (L : List Loc) : Prop := v = none ∧ Fr n0 L ∧ Keep h0 h [a] ∧ ∃ (d : Addr) (kd : ClassId) (vs : List Value), Fld Z h a "java/lang/String" "value" "[B" (.ref d) ∧ own_Ar Z h d kd .byte vs ∧ ((Fld Z h a "java/lang/String" "coder" "B" (.int (0 : Int32)) ∧ vs.length = 2) ∨ (Fld Z h a "java/lang/String" "coder" "B" (.int (1 : Int32)) ∧ vs.length = 4))
set_option maxRecDepth 65536 in
set_option maxHeartbeats 40000000 in
theorem inc2 (l : Launch) (Z : State) (a0 : Array Value) (hw : ∀ d ∈ tables_1, d.before a0 Z = true) (ws : List Jvm.Cond) (h0 : Heap) (n0 : Nat) (O0 : Old Z n0 h0) (a : Addr) (cs : Addr) (kcs : ClassId) (c0 : Int32) (c1 : Int32) (z : Int32) (fm : Value) (SC : Sta Z Z.heap "java/lang/String" "COMPACT_STRINGS" "Z" (.int z)) (hz : ¬ (z = (0 : Int32))) (SA : Sta Z Z.heap "java/lang/StringUTF16" "$assertionsDisabled" "Z" (.int (1 : Int32))) (SH : Sta Z Z.heap "java/lang/StringUTF16" "HI_BYTE_SHIFT" "I" (.int (0 : Int32))) (SL : Sta Z Z.heap "java/lang/StringUTF16" "LO_BYTE_SHIFT" "I" (.int (8 : Int32))) (SF : Sta Z Z.heap "jdk/internal/util/Preconditions" "SIOOBE_FORMATTER" "Ljava/util/function/BiFunction;" fm) (hfm : fm.isRef = true) (Ea : Exa Z h0 a "java/lang/String") (Fv : Fld Z h0 a "java/lang/String" "value" "[B" .null) (Fc : Fld Z h0 a "java/lang/String" "coder" "B" (.int (0 : Int32))) (ga : n0 ≤ a) (Vcs : own_Ar Z h0 cs kcs .char [(.int c0), (.int c1)]) (hr0 : 0 ≤ c0.toInt ∧ c0.toInt < 65536) (hr1 : 0 ≤ c1.toInt ∧ c1.toInt < 65536) (nac : cs ≠ a) :
    MetFree l (⟨"java/lang/String", "<init>", "([C)V"⟩ : MethodName) (head1 (Jvm.Cond.code (⟨"java/lang/String", "<init>", "([C)V"⟩ : MethodName) jdk_42_method_3_code 2 none :: ws) ({ frames := 5, cells := 2, slots := 6, locals := 74 } : Room)) (fun aq U => aq = #[(.ref a), (.ref cs)] ∧ Z.Warmed39 U.vm ∧ U.heap = h0) (fun _ _ _ _ _ => True) (fun _ U oo U' => ∃ v L, oo = .returned v ∧ Q_inc2 Z h0 n0 a cs kcs c0 c1 z fm v U'.heap L ∧ FrameEnd U oo U' L ({ frames := 5, cells := 2, slots := 6, locals := 74 } : Room).cells ({ frames := 5, cells := 2, slots := 6, locals := 74 } : Room).slots) := by
  refine MetFree.of_bodySF (plainFor_of_name pn_inc2) hisR ?_
  intro p e s m args below meth c s₁ Bd hml0 hP hK
  obtain ⟨rfl, hZ, hh⟩ := hP
  have hx := Bd.exec
  have hby := Bd.bytes
  have hml : c.maxLocals = 2 := hml0
  have hown : s.vm.findClass "java/lang/String" = some m.cls := findClass_of_methodNamed Bd.named
  have hnm := (name_of_methodNamed Bd.named Bd.method).1
  have hlk := Bd.notSynchronized
  have hret := Bd.returns
  have X0 : Stand p l e ({ frames := 5, cells := 2, slots := 6, locals := 74 } : Room) s m #[(.ref a), (.ref cs)] below meth c s₁ [] 0 0 := Stand.of_body Bd
  have e0 : s₁.heap = h0 := by rw [← hh, Bd.state]; rfl
  have N0 := Fr.nil n0
  have K0 := Keep.refl h0 [a]
  refine own_go (S' := (s₁.setTop (mkF m 0 #[.val (.ref a), .val (.ref cs)] []))) (fun tq kq => castTop (ef_inc2 m a cs kcs c0 c1 z fm) kq) ?_
  show own_G p e s below (Q_inc2 Z h0 n0 a cs kcs c0 c1 z fm) _ _ _
  refine own_go (S' := (s₁.setTop (mkF m 4 #[.val (.ref a), .val (.ref cs)] [(.ref cs), (.int (0 : Int32)), (.ref cs), (.ref a)]))) (fun tq kq => XS.aloadN X0.here hx rfl (hb hby d2_0) rfl rfl (XS.aloadN X0.here hx rfl (hb hby d2_1) rfl rfl (XS.iconst X0.here hx rfl (hb hby d2_2) (XS.aloadN X0.here hx rfl (hb hby d2_3) rfl rfl kq)))) ?_
  obtain ⟨cl101, Ar101, ln101⟩ := Vcs.len
  have lq101 : cl101.slots.size.toInt32 = (2 : Int32) := ln101.trans rfl
  refine own_go (S' := (s₁.setTop (mkF m 6 #[.val (.ref a), .val (.ref cs)] [.null, (.int (2 : Int32)), (.int (0 : Int32)), (.ref cs), (.ref a)]))) (fun tq kq => X0.arraylength hx (by rw [e0]; exact Ar101.1) (State.isArrayOf_alike hZ.alike Ar101.2.1) (g := (mkF m 4 #[.val (.ref a), .val (.ref cs)] [(.ref cs), (.int (0 : Int32)), (.ref cs), (.ref a)])) rfl rfl (hb hby d2_4) tq (by rw [lq101]; exact (XS.aconstNull X0.here hx rfl (hb hby d2_5) kq))) ?_
  obtain ⟨_, _, ⟨T102, L102, k102, n102⟩, -, X102, ⟨Lc102, hQ102, l102, y102, z102⟩, st102⟩ := X0.specialBack hx (y := (⟨"java/lang/String", "<init>", "([CIILjava/lang/Void;)V"⟩ : MethodName)) rfl hown (mvT hZ (hw _ (List.mem_of_getElem? (i := 13) rfl))) (mvT hZ (hw _ (List.mem_of_getElem? (i := 14) rfl))) (mvT hZ (hw _ (List.mem_of_getElem? (i := 16) rfl))) (by decide) (backOf (W := 0) (icv2 l Z a0 hw [] h0 n0 O0 a cs kcs c0 c1 z fm SC hz SA SH SL SF hfm Ea Fv Fc ga Vcs hr0 hr1 nac) hZ (hw _ (List.mem_of_getElem? (i := 16) rfl)) (hw _ (List.mem_of_getElem? (i := 8) rfl)) (by decide) (by decide)) (g := (mkF m 6 #[.val (.ref a), .val (.ref cs)] [.null, (.int (2 : Int32)), (.int (0 : Int32)), (.ref cs), (.ref a)])) rfl (by rw [hml]; rfl) (Steps.refl _) (a := a) (argsL := [(.ref cs), (.int (0 : Int32)), (.int (2 : Int32)), .null]) (rest := []) (lenOf pd_17 rfl) rfl (by show 2 * 0 + _ ≤ _; exact Nat.le_of_eq rfl) (hb hby d2_6) (fun _ _ => ⟨rfl, e0, (by decide : 0 + 2 ≤ _), (by decide : 0 + 6 ≤ _)⟩)
  dsimp only [Pt.U, Pt.locs, Pt.cells, Pt.slots] at X102 l102 y102 z102 st102 hQ102
  subst l102 y102 z102
  obtain ⟨rfl, N102, K102, R102⟩ := hQ102
  have Nf102 := Fr.app N0 N102
  have O102 := O0.keep K102 (allS ga all0)
  have KK102 := K0.trans K102 (allS (Or.inl (List.mem_of_getElem? (i := 0) rfl)) all0)
  refine own_go (S' := (T102.setTop (mkF m 9 #[.val (.ref a), .val (.ref cs)] []))) (fun tq kq => st102.trans kq) ?_
  refine own_retV X102 hx hlk hret (hb hby d2_9) (by decide) (by decide) ?_
  exact ⟨rfl, Nf102, KK102, R102⟩
theorem pn_cmpr3 : plainName "java/lang/StringUTF16" = true := by first | (simp [plainName, overriddenIn]; done) | decide +kernel
theorem ef_cmpr3 (m : MethodId) (cs : Addr) (kcs : ClassId) (b : Addr) (kb : ClassId) (c0 : Int32) (c1 : Int32) (c2 : Int32) (v0 : Value) (v1 : Value) (v2 : Value) (z : Int32) (fm : Value) : entryFrame m #[(.ref cs), (.int (0 : Int32)), (.ref b), (.int (0 : Int32)), (.int (3 : Int32))] 7 = mkF m 0 #[.val (.ref cs), .val (.int (0 : Int32)), .val (.ref b), .val (.int (0 : Int32)), .val (.int (3 : Int32)), .unset, .unset] [] := by first | (simp [entryFrame, mkF, argsToLocals, Value.category]; done) | rfl
def Q_cmpr3 (Z : State) (h0 : Heap) (n0 : Nat) (cs : Addr) (kcs : ClassId) (b : Addr) (kb : ClassId) (c0 : Int32) (c1 : Int32) (c2 : Int32) (v0 : Value) (v1 : Value) (v2 : Value) (z : Int32) (fm : Value) (v : Option Value) (h : Heap) (L : List Loc) : Prop := v = some (.int (own_cnt3 c0 c1 c2)) ∧ Fr n0 L ∧ Keep h0 h [b] ∧ ∃ vs : List Value, own_Ar Z h b kb .byte vs ∧ vs.length = 3
set_option maxRecDepth 65536 in
set_option maxHeartbeats 40000000 in
theorem cmpr3 (l : Launch) (Z : State) (a0 : Array Value) (hw : ∀ d ∈ tables_1, d.before a0 Z = true) (ws : List Jvm.Cond) (h0 : Heap) (n0 : Nat) (O0 : Old Z n0 h0) (cs : Addr) (kcs : ClassId) (b : Addr) (kb : ClassId) (c0 : Int32) (c1 : Int32) (c2 : Int32) (v0 : Value) (v1 : Value) (v2 : Value) (z : Int32) (fm : Value) (SC : Sta Z Z.heap "java/lang/String" "COMPACT_STRINGS" "Z" (.int z)) (hz : ¬ (z = (0 : Int32))) (SA : Sta Z Z.heap "java/lang/StringUTF16" "$assertionsDisabled" "Z" (.int (1 : Int32))) (SH : Sta Z Z.heap "java/lang/StringUTF16" "HI_BYTE_SHIFT" "I" (.int (0 : Int32))) (SL : Sta Z Z.heap "java/lang/StringUTF16" "LO_BYTE_SHIFT" "I" (.int (8 : Int32))) (SF : Sta Z Z.heap "jdk/internal/util/Preconditions" "SIOOBE_FORMATTER" "Ljava/util/function/BiFunction;" fm) (hfm : fm.isRef = true) (Vcs : own_Ar Z h0 cs kcs .char [(.int c0), (.int c1), (.int c2)]) (Vb : own_Ar Z h0 b kb .byte [v0, v1, v2]) (gb : n0 ≤ b) (ncb : cs ≠ b) :
    MetFree l (⟨"java/lang/StringUTF16", "compress", "([CI[BII)I"⟩ : MethodName) (head1 (Jvm.Cond.code (⟨"java/lang/StringUTF16", "compress", "([CI[BII)I"⟩ : MethodName) jdk_52_method_21_code 7 (some .int) :: ws) ({ frames := 0, cells := 0, slots := 0, locals := 0 } : Room)) (fun aq U => aq = #[(.ref cs), (.int (0 : Int32)), (.ref b), (.int (0 : Int32)), (.int (3 : Int32))] ∧ Z.Warmed39 U.vm ∧ U.heap = h0) (fun _ _ _ _ _ => True) (fun _ U oo U' => ∃ v L, oo = .returned v ∧ Q_cmpr3 Z h0 n0 cs kcs b kb c0 c1 c2 v0 v1 v2 z fm v U'.heap L ∧ FrameEnd U oo U' L ({ frames := 0, cells := 0, slots := 0, locals := 0 } : Room).cells ({ frames := 0, cells := 0, slots := 0, locals := 0 } : Room).slots) := by
  refine MetFree.of_bodySF (plainFor_of_name pn_cmpr3) hisR ?_
  intro p e s m args below meth c s₁ Bd hml0 hP hK
  obtain ⟨rfl, hZ, hh⟩ := hP
  have hx := Bd.exec
  have hby := Bd.bytes
  have hml : c.maxLocals = 7 := hml0
  have hown : s.vm.findClass "java/lang/StringUTF16" = some m.cls := findClass_of_methodNamed Bd.named
  have hnm := (name_of_methodNamed Bd.named Bd.method).1
  have hlk := Bd.notSynchronized
  have hret := Bd.returns
  have X0 : Stand p l e ({ frames := 0, cells := 0, slots := 0, locals := 0 } : Room) s m #[(.ref cs), (.int (0 : Int32)), (.ref b), (.int (0 : Int32)), (.int (3 : Int32))] below meth c s₁ [] 0 0 := Stand.of_body Bd
  have e0 : s₁.heap = h0 := by rw [← hh, Bd.state]; rfl
  have N0 := Fr.nil n0
  have K0 := Keep.refl h0 [b]
  refine own_go (S' := (s₁.setTop (mkF m 0 #[.val (.ref cs), .val (.int (0 : Int32)), .val (.ref b), .val (.int (0 : Int32)), .val (.int (3 : Int32)), .unset, .unset] []))) (fun tq kq => castTop (ef_cmpr3 m cs kcs b kb c0 c1 c2 v0 v1 v2 z fm) kq) ?_
  show own_G p e s below (Q_cmpr3 Z h0 n0 cs kcs b kb c0 c1 c2 v0 v1 v2 z fm) _ _ _
  refine own_go (S' := (s₁.setTop (mkF m 12 #[.val (.ref cs), .val (.int (0 : Int32)), .val (.ref b), .val (.int (0 : Int32)), .val (.int (3 : Int32)), .val (.int (0 : Int32)), .unset] [(.int (0 : Int32)), (.ref cs)]))) (fun tq kq => XS.iconst X0.here hx rfl (hb hby d12_0) (XS.istore X0.here hx rfl (hb hby d12_1) rfl (l' := #[.val (.ref cs), .val (.int (0 : Int32)), .val (.ref b), .val (.int (0 : Int32)), .val (.int (3 : Int32)), .val (.int (0 : Int32)), .unset]) rfl (XS.iload X0.here hx rfl (hb hby d12_3) rfl (XS.iload X0.here hx rfl (hb hby d12_5) rfl (XS.icmpNo X0.here hx rfl (hb hby d12_7) rfl (tlt (by decide : (0 : Int32) < (3 : Int32))).2.1 (XS.aloadN X0.here hx rfl (hb hby d12_10) rfl rfl (XS.iloadN X0.here hx rfl (hb hby d12_11) rfl kq))))))) ?_
  obtain ⟨cl101, Ar101, -, -, hin101, hat101⟩ := Vcs.at (j := (0 : Int32)) (v := (.int c0)) (by decide) rfl
  refine own_go (S' := (s₁.setTop (mkF m 20 #[.val (.ref cs), .val (.int (0 : Int32)), .val (.ref b), .val (.int (0 : Int32)), .val (.int (3 : Int32)), .val (.int (0 : Int32)), .val (.int c0)] [(.int (255 : Int32)), (.int c0)]))) (fun tq kq => X0.caload hx (j := (0 : Int32)) (v := (.int c0)) (by rw [e0]; exact Ar101.1) (State.isArrayOf_alike hZ.alike Ar101.2.1) Ar101.2.2 hin101 hat101 (g := (mkF m 12 #[.val (.ref cs), .val (.int (0 : Int32)), .val (.ref b), .val (.int (0 : Int32)), .val (.int (3 : Int32)), .val (.int (0 : Int32)), .unset] [(.int (0 : Int32)), (.ref cs)])) rfl rfl (hb hby d12_12) tq (XS.istore X0.here hx rfl (hb hby d12_13) rfl (l' := #[.val (.ref cs), .val (.int (0 : Int32)), .val (.ref b), .val (.int (0 : Int32)), .val (.int (3 : Int32)), .val (.int (0 : Int32)), .val (.int c0)]) rfl (XS.iload X0.here hx rfl (hb hby d12_15) rfl (XS.sipush X0.here hx rfl (hb hby d12_17) kq)))) ?_
  by_cases hc102 : (255 : Int32) < c0
  · refine own_go (S' := (s₁.setTop (mkF m 25 #[.val (.ref cs), .val (.int (0 : Int32)), .val (.ref b), .val (.int (0 : Int32)), .val (.int (3 : Int32)), .val (.int (0 : Int32)), .val (.int c0)] [(.int (0 : Int32))]))) (fun tq kq => XS.icmpNo X0.here hx rfl (hb hby d12_20) rfl (tlt hc102).2.2.2 (XS.iload X0.here hx rfl (hb hby d12_23) rfl kq)) ?_
    refine own_retI X0 hx hlk hret (hb hby d12_25) (by decide) (by decide) ?_
    rw [e0]
    exact ⟨by simp only [own_cnt3, if_pos hc102], N0, K0, _, Vb, rfl⟩
  · refine own_go (S' := (s₁.setTop (mkF m 31 #[.val (.ref cs), .val (.int (0 : Int32)), .val (.ref b), .val (.int (0 : Int32)), .val (.int (3 : Int32)), .val (.int (0 : Int32)), .val (.int c0)] [(.int (c0.toInt8.toInt32)), (.int (0 : Int32)), (.ref b)]))) (fun tq kq => XS.icmpYes X0.here hx rfl (pc0 := 20) (pc' := 26) rfl (hb hby d12_20) rfl (flt hc102).2.2.2 (by decide) (by decide) (XS.aloadN X0.here hx rfl (hb hby d12_26) rfl rfl (XS.iloadN X0.here hx rfl (hb hby d12_27) rfl (XS.iload X0.here hx rfl (hb hby d12_28) rfl (XS.i2b X0.here hx rfl (hb hby d12_30) rfl kq))))) ?_
    obtain ⟨cl103, Ar103, qa103, sa103, hin103, -⟩ := Vb.at (j := (0 : Int32)) (by decide) rfl
    obtain ⟨T103, h103, X103, e103, W103, st103⟩ := stB X0 hx hZ e0 Ar103 (j := (0 : Int32)) hin103 (g := (mkF m 31 #[.val (.ref cs), .val (.int (0 : Int32)), .val (.ref b), .val (.int (0 : Int32)), .val (.int (3 : Int32)), .val (.int (0 : Int32)), .val (.int c0)] [(.int (c0.toInt8.toInt32)), (.int (0 : Int32)), (.ref b)])) rfl rfl (hb hby d12_31)
    have N103 := Fr.snoc X103 N0 gb
    have O103 := O0.wr W103 gb
    have K103 := K0.wr W103 (Or.inl (List.mem_of_getElem? (i := 0) rfl))
    have V103 : own_Ar Z h103 b kb .byte [(.int ((c0.toInt8.toInt32).toInt8.toInt32)), v1, v2] := own_Ar.set Ar103 qa103 sa103 Vb.small W103
    refine own_go (S' := (T103.setTop (mkF m 12 #[.val (.ref cs), .val (.int (1 : Int32)), .val (.ref b), .val (.int (1 : Int32)), .val (.int (3 : Int32)), .val (.int (1 : Int32)), .val (.int c0)] [(.int (1 : Int32)), (.ref cs)]))) (fun tq kq => st103 tq (XS.iinc X103.here hx rfl (hb hby d12_32) rfl (l' := #[.val (.ref cs), .val (.int (1 : Int32)), .val (.ref b), .val (.int (0 : Int32)), .val (.int (3 : Int32)), .val (.int (0 : Int32)), .val (.int c0)]) rfl (XS.iinc X103.here hx rfl (hb hby d12_35) rfl (l' := #[.val (.ref cs), .val (.int (1 : Int32)), .val (.ref b), .val (.int (1 : Int32)), .val (.int (3 : Int32)), .val (.int (0 : Int32)), .val (.int c0)]) rfl (XS.iinc X103.here hx rfl (hb hby d12_38) rfl (l' := #[.val (.ref cs), .val (.int (1 : Int32)), .val (.ref b), .val (.int (1 : Int32)), .val (.int (3 : Int32)), .val (.int (1 : Int32)), .val (.int c0)]) rfl (XS.goto X103.here hx rfl (pc0 := 41) (pc' := 3) rfl (hb hby d12_41) (by decide) (by decide) (XS.iload X103.here hx rfl (hb hby d12_3) rfl (XS.iload X103.here hx rfl (hb hby d12_5) rfl (XS.icmpNo X103.here hx rfl (hb hby d12_7) rfl (tlt (by decide : (1 : Int32) < (3 : Int32))).2.1 (XS.aloadN X103.here hx rfl (hb hby d12_10) rfl rfl (XS.iloadN X103.here hx rfl (hb hby d12_11) rfl kq)))))))))) ?_
    have f104 := (Vcs.other W103 ncb)
    obtain ⟨cl105, Ar105, -, -, hin105, hat105⟩ := f104.at (j := (1 : Int32)) (v := (.int c1)) (by decide) rfl
    refine own_go (S' := (T103.setTop (mkF m 20 #[.val (.ref cs), .val (.int (1 : Int32)), .val (.ref b), .val (.int (1 : Int32)), .val (.int (3 : Int32)), .val (.int (1 : Int32)), .val (.int c1)] [(.int (255 : Int32)), (.int c1)]))) (fun tq kq => X103.caload hx (j := (1 : Int32)) (v := (.int c1)) (by rw [e103]; exact Ar105.1) (State.isArrayOf_alike hZ.alike Ar105.2.1) Ar105.2.2 hin105 hat105 (g := (mkF m 12 #[.val (.ref cs), .val (.int (1 : Int32)), .val (.ref b), .val (.int (1 : Int32)), .val (.int (3 : Int32)), .val (.int (1 : Int32)), .val (.int c0)] [(.int (1 : Int32)), (.ref cs)])) rfl rfl (hb hby d12_12) tq (XS.istore X103.here hx rfl (hb hby d12_13) rfl (l' := #[.val (.ref cs), .val (.int (1 : Int32)), .val (.ref b), .val (.int (1 : Int32)), .val (.int (3 : Int32)), .val (.int (1 : Int32)), .val (.int c1)]) rfl (XS.iload X103.here hx rfl (hb hby d12_15) rfl (XS.sipush X103.here hx rfl (hb hby d12_17) kq)))) ?_
    by_cases hc106 : (255 : Int32) < c1
    · refine own_go (S' := (T103.setTop (mkF m 25 #[.val (.ref cs), .val (.int (1 : Int32)), .val (.ref b), .val (.int (1 : Int32)), .val (.int (3 : Int32)), .val (.int (1 : Int32)), .val (.int c1)] [(.int (1 : Int32))]))) (fun tq kq => XS.icmpNo X103.here hx rfl (hb hby d12_20) rfl (tlt hc106).2.2.2 (XS.iload X103.here hx rfl (hb hby d12_23) rfl kq)) ?_
      refine own_retI X103 hx hlk hret (hb hby d12_25) (by decide) (by decide) ?_
      rw [e103]
      exact ⟨by simp only [own_cnt3, if_neg hc102, if_pos hc106], N103, K103, _, V103, rfl⟩
    · refine own_go (S' := (T103.setTop (mkF m 31 #[.val (.ref cs), .val (.int (1 : Int32)), .val (.ref b), .val (.int (1 : Int32)), .val (.int (3 : Int32)), .val (.int (1 : Int32)), .val (.int c1)] [(.int (c1.toInt8.toInt32)), (.int (1 : Int32)), (.ref b)]))) (fun tq kq => XS.icmpYes X103.here hx rfl (pc0 := 20) (pc' := 26) rfl (hb hby d12_20) rfl (flt hc106).2.2.2 (by decide) (by decide) (XS.aloadN X103.here hx rfl (hb hby d12_26) rfl rfl (XS.iloadN X103.here hx rfl (hb hby d12_27) rfl (XS.iload X103.here hx rfl (hb hby d12_28) rfl (XS.i2b X103.here hx rfl (hb hby d12_30) rfl kq))))) ?_
      obtain ⟨cl107, Ar107, qa107, sa107, hin107, -⟩ := V103.at (j := (1 : Int32)) (by decide) rfl
      obtain ⟨T107, h107, X107, e107, W107, st107⟩ := stB X103 hx hZ e103 Ar107 (j := (1 : Int32)) hin107 (g := (mkF m 31 #[.val (.ref cs), .val (.int (1 : Int32)), .val (.ref b), .val (.int (1 : Int32)), .val (.int (3 : Int32)), .val (.int (1 : Int32)), .val (.int c1)] [(.int (c1.toInt8.toInt32)), (.int (1 : Int32)), (.ref b)])) rfl rfl (hb hby d12_31)
      have N107 := Fr.snoc X107 N103 gb
      have O107 := O103.wr W107 gb
      have K107 := K103.wr W107 (Or.inl (List.mem_of_getElem? (i := 0) rfl))
      have V107 : own_Ar Z h107 b kb .byte [(.int ((c0.toInt8.toInt32).toInt8.toInt32)), (.int ((c1.toInt8.toInt32).toInt8.toInt32)), v2] := own_Ar.set Ar107 qa107 sa107 V103.small W107
      refine own_go (S' := (T107.setTop (mkF m 12 #[.val (.ref cs), .val (.int (2 : Int32)), .val (.ref b), .val (.int (2 : Int32)), .val (.int (3 : Int32)), .val (.int (2 : Int32)), .val (.int c1)] [(.int (2 : Int32)), (.ref cs)]))) (fun tq kq => st107 tq (XS.iinc X107.here hx rfl (hb hby d12_32) rfl (l' := #[.val (.ref cs), .val (.int (2 : Int32)), .val (.ref b), .val (.int (1 : Int32)), .val (.int (3 : Int32)), .val (.int (1 : Int32)), .val (.int c1)]) rfl (XS.iinc X107.here hx rfl (hb hby d12_35) rfl (l' := #[.val (.ref cs), .val (.int (2 : Int32)), .val (.ref b), .val (.int (2 : Int32)), .val (.int (3 : Int32)), .val (.int (1 : Int32)), .val (.int c1)]) rfl (XS.iinc X107.here hx rfl (hb hby d12_38) rfl (l' := #[.val (.ref cs), .val (.int (2 : Int32)), .val (.ref b), .val (.int (2 : Int32)), .val (.int (3 : Int32)), .val (.int (2 : Int32)), .val (.int c1)]) rfl (XS.goto X107.here hx rfl (pc0 := 41) (pc' := 3) rfl (hb hby d12_41) (by decide) (by decide) (XS.iload X107.here hx rfl (hb hby d12_3) rfl (XS.iload X107.here hx rfl (hb hby d12_5) rfl (XS.icmpNo X107.here hx rfl (hb hby d12_7) rfl (tlt (by decide : (2 : Int32) < (3 : Int32))).2.1 (XS.aloadN X107.here hx rfl (hb hby d12_10) rfl rfl (XS.iloadN X107.here hx rfl (hb hby d12_11) rfl kq)))))))))) ?_
      have f108 := (f104.other W107 ncb)
      obtain ⟨cl109, Ar109, -, -, hin109, hat109⟩ := f108.at (j := (2 : Int32)) (v := (.int c2)) (by decide) rfl
      refine own_go (S' := (T107.setTop (mkF m 20 #[.val (.ref cs), .val (.int (2 : Int32)), .val (.ref b), .val (.int (2 : Int32)), .val (.int (3 : Int32)), .val (.int (2 : Int32)), .val (.int c2)] [(.int (255 : Int32)), (.int c2)]))) (fun tq kq => X107.caload hx (j := (2 : Int32)) (v := (.int c2)) (by rw [e107]; exact Ar109.1) (State.isArrayOf_alike hZ.alike Ar109.2.1) Ar109.2.2 hin109 hat109 (g := (mkF m 12 #[.val (.ref cs), .val (.int (2 : Int32)), .val (.ref b), .val (.int (2 : Int32)), .val (.int (3 : Int32)), .val (.int (2 : Int32)), .val (.int c1)] [(.int (2 : Int32)), (.ref cs)])) rfl rfl (hb hby d12_12) tq (XS.istore X107.here hx rfl (hb hby d12_13) rfl (l' := #[.val (.ref cs), .val (.int (2 : Int32)), .val (.ref b), .val (.int (2 : Int32)), .val (.int (3 : Int32)), .val (.int (2 : Int32)), .val (.int c2)]) rfl (XS.iload X107.here hx rfl (hb hby d12_15) rfl (XS.sipush X107.here hx rfl (hb hby d12_17) kq)))) ?_
      by_cases hc110 : (255 : Int32) < c2
      · refine own_go (S' := (T107.setTop (mkF m 25 #[.val (.ref cs), .val (.int (2 : Int32)), .val (.ref b), .val (.int (2 : Int32)), .val (.int (3 : Int32)), .val (.int (2 : Int32)), .val (.int c2)] [(.int (2 : Int32))]))) (fun tq kq => XS.icmpNo X107.here hx rfl (hb hby d12_20) rfl (tlt hc110).2.2.2 (XS.iload X107.here hx rfl (hb hby d12_23) rfl kq)) ?_
        refine own_retI X107 hx hlk hret (hb hby d12_25) (by decide) (by decide) ?_
        rw [e107]
        exact ⟨by simp only [own_cnt3, if_neg hc102, if_neg hc106, if_pos hc110], N107, K107, _, V107, rfl⟩
      · refine own_go (S' := (T107.setTop (mkF m 31 #[.val (.ref cs), .val (.int (2 : Int32)), .val (.ref b), .val (.int (2 : Int32)), .val (.int (3 : Int32)), .val (.int (2 : Int32)), .val (.int c2)] [(.int (c2.toInt8.toInt32)), (.int (2 : Int32)), (.ref b)]))) (fun tq kq => XS.icmpYes X107.here hx rfl (pc0 := 20) (pc' := 26) rfl (hb hby d12_20) rfl (flt hc110).2.2.2 (by decide) (by decide) (XS.aloadN X107.here hx rfl (hb hby d12_26) rfl rfl (XS.iloadN X107.here hx rfl (hb hby d12_27) rfl (XS.iload X107.here hx rfl (hb hby d12_28) rfl (XS.i2b X107.here hx rfl (hb hby d12_30) rfl kq))))) ?_
        obtain ⟨cl111, Ar111, qa111, sa111, hin111, -⟩ := V107.at (j := (2 : Int32)) (by decide) rfl
        obtain ⟨T111, h111, X111, e111, W111, st111⟩ := stB X107 hx hZ e107 Ar111 (j := (2 : Int32)) hin111 (g := (mkF m 31 #[.val (.ref cs), .val (.int (2 : Int32)), .val (.ref b), .val (.int (2 : Int32)), .val (.int (3 : Int32)), .val (.int (2 : Int32)), .val (.int c2)] [(.int (c2.toInt8.toInt32)), (.int (2 : Int32)), (.ref b)])) rfl rfl (hb hby d12_31)
        have N111 := Fr.snoc X111 N107 gb
        have O111 := O107.wr W111 gb
        have K111 := K107.wr W111 (Or.inl (List.mem_of_getElem? (i := 0) rfl))
        have V111 : own_Ar Z h111 b kb .byte [(.int ((c0.toInt8.toInt32).toInt8.toInt32)), (.int ((c1.toInt8.toInt32).toInt8.toInt32)), (.int ((c2.toInt8.toInt32).toInt8.toInt32))] := own_Ar.set Ar111 qa111 sa111 V107.small W111
        refine own_go (S' := (T111.setTop (mkF m 46 #[.val (.ref cs), .val (.int (3 : Int32)), .val (.ref b), .val (.int (3 : Int32)), .val (.int (3 : Int32)), .val (.int (3 : Int32)), .val (.int c2)] [(.int (3 : Int32))]))) (fun tq kq => st111 tq (XS.iinc X111.here hx rfl (hb hby d12_32) rfl (l' := #[.val (.ref cs), .val (.int (3 : Int32)), .val (.ref b), .val (.int (2 : Int32)), .val (.int (3 : Int32)), .val (.int (2 : Int32)), .val (.int c2)]) rfl (XS.iinc X111.here hx rfl (hb hby d12_35) rfl (l' := #[.val (.ref cs), .val (.int (3 : Int32)), .val (.ref b), .val (.int (3 : Int32)), .val (.int (3 : Int32)), .val (.int (2 : Int32)), .val (.int c2)]) rfl (XS.iinc X111.here hx rfl (hb hby d12_38) rfl (l' := #[.val (.ref cs), .val (.int (3 : Int32)), .val (.ref b), .val (.int (3 : Int32)), .val (.int (3 : Int32)), .val (.int (3 : Int32)), .val (.int c2)]) rfl (XS.goto X111.here hx rfl (pc0 := 41) (pc' := 3) rfl (hb hby d12_41) (by decide) (by decide) (XS.iload X111.here hx rfl (hb hby d12_3) rfl (XS.iload X111.here hx rfl (hb hby d12_5) rfl (XS.icmpYes X111.here hx rfl (pc0 := 7) (pc' := 44) rfl (hb hby d12_7) rfl (flt (by decide : ¬ ((3 : Int32) < (3 : Int32)))).2.1 (by decide) (by decide) (XS.iload X111.here hx rfl (hb hby d12_44) rfl kq))))))))) ?_
        refine own_retI X111 hx hlk hret (hb hby d12_46) (by decide) (by decide) ?_
        rw [e111]
        exact ⟨by simp only [own_cnt3, if_neg hc102, if_neg hc106, if_neg hc110], N111, K111, _, V111, rfl⟩
theorem pn_nbl3 : plainName "java/lang/StringUTF16" = true := by first | (simp [plainName, overriddenIn]; done) | decide +kernel
theorem ef_nbl3 (m : MethodId) (z : Int32) (fm : Value) : entryFrame m #[(.int (3 : Int32))] 1 = mkF m 0 #[.val (.int (3 : Int32))] [] := by first | (simp [entryFrame, mkF, argsToLocals, Value.category]; done) | rfl
def Q_nbl3 (Z : State) (h0 : Heap) (n0 : Nat) (z : Int32) (fm : Value) (v : Option Value) (h : Heap) (L : List Loc) : Prop := v = some (.int (6 : Int32)) ∧ Fr n0 L ∧ h = h0
set_option maxRecDepth 65536 in
set_option maxHeartbeats 40000000 in
theorem nbl3 (l : Launch) (Z : State) (a0 : Array Value) (hw : ∀ d ∈ tables_1, d.before a0 Z = true) (ws : List Jvm.Cond) (h0 : Heap) (n0 : Nat) (O0 : Old Z n0 h0) (z : Int32) (fm : Value) (SC : Sta Z Z.heap "java/lang/String" "COMPACT_STRINGS" "Z" (.int z)) (hz : ¬ (z = (0 : Int32))) (SA : Sta Z Z.heap "java/lang/StringUTF16" "$assertionsDisabled" "Z" (.int (1 : Int32))) (SH : Sta Z Z.heap "java/lang/StringUTF16" "HI_BYTE_SHIFT" "I" (.int (0 : Int32))) (SL : Sta Z Z.heap "java/lang/StringUTF16" "LO_BYTE_SHIFT" "I" (.int (8 : Int32))) (SF : Sta Z Z.heap "jdk/internal/util/Preconditions" "SIOOBE_FORMATTER" "Ljava/util/function/BiFunction;" fm) (hfm : fm.isRef = true) :
    MetFree l (⟨"java/lang/StringUTF16", "newBytesLength", "(I)I"⟩ : MethodName) (head1 (Jvm.Cond.code (⟨"java/lang/StringUTF16", "newBytesLength", "(I)I"⟩ : MethodName) jdk_52_method_3_code 1 (some .int) :: ws) ({ frames := 0, cells := 0, slots := 0, locals := 0 } : Room)) (fun aq U => aq = #[(.int (3 : Int32))] ∧ Z.Warmed39 U.vm ∧ U.heap = h0) (fun _ _ _ _ _ => True) (fun _ U oo U' => ∃ v L, oo = .returned v ∧ Q_nbl3 Z h0 n0 z fm v U'.heap L ∧ FrameEnd U oo U' L ({ frames := 0, cells := 0, slots := 0, locals := 0 } : Room).cells ({ frames := 0, cells := 0, slots := 0, locals := 0 } : Room).slots) := by
  refine MetFree.of_bodySF (plainFor_of_name pn_nbl3) hisR ?_
  intro p e s m args below meth c s₁ Bd hml0 hP hK
  obtain ⟨rfl, hZ, hh⟩ := hP
  have hx := Bd.exec
  have hby := Bd.bytes
  have hml : c.maxLocals = 1 := hml0
  have hown : s.vm.findClass "java/lang/StringUTF16" = some m.cls := findClass_of_methodNamed Bd.named
  have hnm := (name_of_methodNamed Bd.named Bd.method).1
  have hlk := Bd.notSynchronized
  have hret := Bd.returns
  have X0 : Stand p l e ({ frames := 0, cells := 0, slots := 0, locals := 0 } : Room) s m #[(.int (3 : Int32))] below meth c s₁ [] 0 0 := Stand.of_body Bd
  have e0 : s₁.heap = h0 := by rw [← hh, Bd.state]; rfl
  have N0 := Fr.nil n0
  have K0 := Keep.refl h0 []
  refine own_go (S' := (s₁.setTop (mkF m 0 #[.val (.int (3 : Int32))] []))) (fun tq kq => castTop (ef_nbl3 m z fm) kq) ?_
  show own_G p e s below (Q_nbl3 Z h0 n0 z fm) _ _ _
  refine own_go (S' := (s₁.setTop (mkF m 58 #[.val (.int (3 : Int32))] [(.int ((3 : Int32) <<< ((1 : Int32) &&& 31)))]))) (fun tq kq => XS.iloadN X0.here hx rfl (hb hby d27_0) rfl (XS.ifYes X0.here hx rfl (pc0 := 1) (pc' := 12) rfl (hb hby d27_1) rfl ((if0 _ _).trans (flt (by decide : ¬ ((3 : Int32) < (0 : Int32)))).2.1) (by decide) (by decide) (XS.iloadN X0.here hx rfl (hb hby d27_12) rfl (X0.ldcInt hx hown (mvT hZ (hw _ (List.mem_of_getElem? (i := 126) rfl))) (g := (mkF m 13 #[.val (.int (3 : Int32))] [(.int (3 : Int32))])) rfl (hb hby d27_13) tq (XS.icmpYes X0.here hx rfl (pc0 := 15) (pc' := 55) rfl (hb hby d27_15) rfl (tlt (by decide : (3 : Int32) < (1073741823 : Int32))).1 (by decide) (by decide) (XS.iloadN X0.here hx rfl (hb hby d27_55) rfl (XS.iconst X0.here hx rfl (hb hby d27_56) (XS.ishl X0.here hx rfl (hb hby d27_57) rfl kq)))))))) ?_
  rw [show ((3 : Int32) <<< ((1 : Int32) &&& 31)) = (6 : Int32) from by decide]
  refine own_retI X0 hx hlk hret (hb hby d27_58) (by decide) (by decide) ?_
  exact ⟨rfl, N0, e0⟩
theorem pn_nbf3 : plainName "java/lang/StringUTF16" = true := by first | (simp [plainName, overriddenIn]; done) | decide +kernel
theorem ef_nbf3 (m : MethodId) (z : Int32) (fm : Value) : entryFrame m #[(.int (3 : Int32))] 1 = mkF m 0 #[.val (.int (3 : Int32))] [] := by first | (simp [entryFrame, mkF, argsToLocals, Value.category]; done) | rfl
def Q_nbf3 (Z : State) (h0 : Heap) (n0 : Nat) (z : Int32) (fm : Value) (v : Option Value) (h : Heap) (L : List Loc) : Prop := ∃ (b : Addr) (kb : ClassId), v = some (.ref b) ∧ Fr n0 L ∧ Keep h0 h [] ∧ h0.size ≤ b ∧ own_Ar Z h b kb .byte [(.int (0 : Int32)), (.int (0 : Int32)), (.int (0 : Int32)), (.int (0 : Int32)), (.int (0 : Int32)), (.int (0 : Int32))]
set_option maxRecDepth 65536 in
set_option maxHeartbeats 40000000 in
theorem nbf3 (l : Launch) (Z : State) (a0 : Array Value) (hw : ∀ d ∈ tables_1, d.before a0 Z = true) (ws : List Jvm.Cond) (h0 : Heap) (n0 : Nat) (O0 : Old Z n0 h0) (z : Int32) (fm : Value) (SC : Sta Z Z.heap "java/lang/String" "COMPACT_STRINGS" "Z" (.int z)) (hz : ¬ (z = (0 : Int32))) (SA : Sta Z Z.heap "java/lang/StringUTF16" "$assertionsDisabled" "Z" (.int (1 : Int32))) (SH : Sta Z Z.heap "java/lang/StringUTF16" "HI_BYTE_SHIFT" "I" (.int (0 : Int32))) (SL : Sta Z Z.heap "java/lang/StringUTF16" "LO_BYTE_SHIFT" "I" (.int (8 : Int32))) (SF : Sta Z Z.heap "jdk/internal/util/Preconditions" "SIOOBE_FORMATTER" "Ljava/util/function/BiFunction;" fm) (hfm : fm.isRef = true) :
    MetFree l (⟨"java/lang/StringUTF16", "newBytesFor", "(I)[B"⟩ : MethodName) (head1 (Jvm.Cond.code (⟨"java/lang/StringUTF16", "newBytesFor", "(I)[B"⟩ : MethodName) jdk_52_method_2_code 1 (some (.array .byte)) :: ws) ({ frames := 1, cells := 1, slots := 6, locals := 12 } : Room)) (fun aq U => aq = #[(.int (3 : Int32))] ∧ Z.Warmed39 U.vm ∧ U.heap = h0) (fun _ _ _ _ _ => True) (fun _ U oo U' => ∃ v L, oo = .returned v ∧ Q_nbf3 Z h0 n0 z fm v U'.heap L ∧ FrameEnd U oo U' L ({ frames := 1, cells := 1, slots := 6, locals := 12 } : Room).cells ({ frames := 1, cells := 1, slots := 6, locals := 12 } : Room).slots) := by
  refine MetFree.of_bodySF (plainFor_of_name pn_nbf3) hisR ?_
  intro p e s m args below meth c s₁ Bd hml0 hP hK
  obtain ⟨rfl, hZ, hh⟩ := hP
  have hx := Bd.exec
  have hby := Bd.bytes
  have hml : c.maxLocals = 1 := hml0
  have hown : s.vm.findClass "java/lang/StringUTF16" = some m.cls := findClass_of_methodNamed Bd.named
  have hnm := (name_of_methodNamed Bd.named Bd.method).1
  have hlk := Bd.notSynchronized
  have hret := Bd.returns
  have X0 : Stand p l e ({ frames := 1, cells := 1, slots := 6, locals := 12 } : Room) s m #[(.int (3 : Int32))] below meth c s₁ [] 0 0 := Stand.of_body Bd
  have e0 : s₁.heap = h0 := by rw [← hh, Bd.state]; rfl
  have N0 := Fr.nil n0
  have K0 := Keep.refl h0 []
  refine own_go (S' := (s₁.setTop (mkF m 0 #[.val (.int (3 : Int32))] []))) (fun tq kq => castTop (ef_nbf3 m z fm) kq) ?_
  show own_G p e s below (Q_nbf3 Z h0 n0 z fm) _ _ _
  refine own_go (S' := (s₁.setTop (mkF m 1 #[.val (.int (3 : Int32))] [(.int (3 : Int32))]))) (fun tq kq => XS.iloadN X0.here hx rfl (hb hby d26_0) rfl kq) ?_
  obtain ⟨_, _, ⟨T101, L101, k101, n101⟩, -, X101, ⟨Lc101, hQ101, l101, y101, z101⟩, st101⟩ := Jvm.LawKit.callS X0 hx (y := (⟨"java/lang/StringUTF16", "newBytesLength", "(I)I"⟩ : MethodName)) hown (mvT hZ (hw _ (List.mem_of_getElem? (i := 123) rfl))) (mvT hZ (hw _ (List.mem_of_getElem? (i := 124) rfl))) (mvT hZ (hw _ (List.mem_of_getElem? (i := 60) rfl))) (mvT hZ (hw _ (List.mem_of_getElem? (i := 125) rfl))) (by decide) (backOf (W := 0) (nbl3 l Z a0 hw [] h0 n0 O0  z fm SC hz SA SH SL SF hfm ) hZ (hw _ (List.mem_of_getElem? (i := 125) rfl)) (hw _ (List.mem_of_getElem? (i := 60) rfl)) (by decide) (by decide)) (g := (mkF m 1 #[.val (.int (3 : Int32))] [(.int (3 : Int32))])) rfl (by rw [hml]; rfl) (argsL := [(.int (3 : Int32))]) (rest := []) (lenOf pd_12 rfl) rfl (by show 2 * 0 + _ ≤ _; exact Nat.le_of_eq rfl) (hb hby d26_1) (fun _ _ => ⟨rfl, e0, (by decide : 0 + 0 ≤ _), (by decide : 0 + 0 ≤ _)⟩)
  dsimp only [Pt.U, Pt.locs, Pt.cells, Pt.slots] at X101 l101 y101 z101 st101 hQ101
  subst l101 y101 z101
  obtain ⟨rfl, N101, eh101⟩ := hQ101
  have Nf101 := Fr.app N0 N101
  refine own_go (S' := (T101.setTop (mkF m 4 #[.val (.int (3 : Int32))] [(.int (6 : Int32))]))) (fun tq kq => st101 tq kq) ?_
  obtain ⟨T102, h102, k102, X102, e102, E102, A102, st102⟩ := newP X101 hx hZ (hw _ (List.mem_of_getElem? (i := 21) rfl)) eh101 (g := (mkF m 4 #[.val (.int (3 : Int32))] [(.int (6 : Int32))])) rfl (hb hby d26_4) rfl (by decide) (cap := 6) (by decide) (by decide) (by decide) (by decide)
  obtain ⟨b102, g102⟩ : ∃ z, z = h0.size := ⟨_, rfl⟩
  rw [← g102] at A102 st102
  have ge_b102 : n0 ≤ b102 := Nat.le_trans (own_osz O0) (Nat.le_of_eq g102.symm)
  have gk_b102 : h0.size ≤ b102 := Nat.le_trans K0.1 (Nat.le_of_eq g102.symm)
  have V102 : own_Ar Z h102 b102 k102 .byte [(.int (0 : Int32)), (.int (0 : Int32)), (.int (0 : Int32)), (.int (0 : Int32)), (.int (0 : Int32)), (.int (0 : Int32))] := own_Ar.new A102 (by decide)
  have O102 := O0.ext E102
  have K102 := K0.ext E102
  refine own_go (S' := (T102.setTop (mkF m 6 #[.val (.int (3 : Int32))] [(.ref b102)]))) (fun tq kq => st102 tq kq) ?_
  refine own_retA X102 hx hlk hret rfl rfl (hb hby d26_6) (by decide) (by decide) ?_
  rw [e102]
  exact ⟨b102, _, rfl, Nf101, K102, gk_b102, V102⟩
theorem pn_pc3_0 : plainName "java/lang/StringUTF16" = true := by first | (simp [plainName, overriddenIn]; done) | decide +kernel
theorem ef_pc3_0 (m : MethodId) (b : Addr) (kb : ClassId) (ch : Int32) (v0 : Value) (v1 : Value) (v2 : Value) (v3 : Value) (v4 : Value) (v5 : Value) (z : Int32) (fm : Value) : entryFrame m #[(.ref b), (.int (0 : Int32)), (.int ch)] 3 = mkF m 0 #[.val (.ref b), .val (.int (0 : Int32)), .val (.int ch)] [] := by first | (simp [entryFrame, mkF, argsToLocals, Value.category]; done) | rfl
def Q_pc3_0 (Z : State) (h0 : Heap) (n0 : Nat) (b : Addr) (kb : ClassId) (ch : Int32) (v0 : Value) (v1 : Value) (v2 : Value) (v3 : Value) (v4 : Value) (v5 : Value) (z : Int32) (fm : Value) (v : Option Value) (h : Heap) (L : List Loc) : Prop := v = none ∧ Fr n0 L ∧ Keep h0 h [b] ∧ own_Ar Z h b kb .byte [(.int (own_b0 ch)), (.int (own_b1 ch)), v2, v3, v4, v5]
set_option maxRecDepth 65536 in
set_option maxHeartbeats 40000000 in
theorem pc3_0 (l : Launch) (Z : State) (a0 : Array Value) (hw : ∀ d ∈ tables_1, d.before a0 Z = true) (ws : List Jvm.Cond) (h0 : Heap) (n0 : Nat) (O0 : Old Z n0 h0) (b : Addr) (kb : ClassId) (ch : Int32) (v0 : Value) (v1 : Value) (v2 : Value) (v3 : Value) (v4 : Value) (v5 : Value) (z : Int32) (fm : Value) (SC : Sta Z Z.heap "java/lang/String" "COMPACT_STRINGS" "Z" (.int z)) (hz : ¬ (z = (0 : Int32))) (SA : Sta Z Z.heap "java/lang/StringUTF16" "$assertionsDisabled" "Z" (.int (1 : Int32))) (SH : Sta Z Z.heap "java/lang/StringUTF16" "HI_BYTE_SHIFT" "I" (.int (0 : Int32))) (SL : Sta Z Z.heap "java/lang/StringUTF16" "LO_BYTE_SHIFT" "I" (.int (8 : Int32))) (SF : Sta Z Z.heap "jdk/internal/util/Preconditions" "SIOOBE_FORMATTER" "Ljava/util/function/BiFunction;" fm) (hfm : fm.isRef = true) (Vb : own_Ar Z h0 b kb .byte [v0, v1, v2, v3, v4, v5]) (gb : n0 ≤ b) :
    MetFree l (⟨"java/lang/StringUTF16", "putChar", "([BII)V"⟩ : MethodName) (head1 (Jvm.Cond.code (⟨"java/lang/StringUTF16", "putChar", "([BII)V"⟩ : MethodName) jdk_52_method_4_code 3 none :: ws) ({ frames := 0, cells := 0, slots := 0, locals := 0 } : Room)) (fun aq U => aq = #[(.ref b), (.int (0 : Int32)), (.int ch)] ∧ Z.Warmed39 U.vm ∧ U.heap = h0) (fun _ _ _ _ _ => True) (fun _ U oo U' => ∃ v L, oo = .returned v ∧ Q_pc3_0 Z h0 n0 b kb ch v0 v1 v2 v3 v4 v5 z fm v U'.heap L ∧ FrameEnd U oo U' L ({ frames := 0, cells := 0, slots := 0, locals := 0 } : Room).cells ({ frames := 0, cells := 0, slots := 0, locals := 0 } : Room).slots) := by
  refine MetFree.of_bodySF (plainFor_of_name pn_pc3_0) hisR ?_
  intro p e s m args below meth c s₁ Bd hml0 hP hK
  obtain ⟨rfl, hZ, hh⟩ := hP
  have hx := Bd.exec
  have hby := Bd.bytes
  have hml : c.maxLocals = 3 := hml0
  have hown : s.vm.findClass "java/lang/StringUTF16" = some m.cls := findClass_of_methodNamed Bd.named
  have hnm := (name_of_methodNamed Bd.named Bd.method).1
  have hlk := Bd.notSynchronized
  have hret := Bd.returns
  have X0 : Stand p l e ({ frames := 0, cells := 0, slots := 0, locals := 0 } : Room) s m #[(.ref b), (.int (0 : Int32)), (.int ch)] below meth c s₁ [] 0 0 := Stand.of_body Bd
  have e0 : s₁.heap = h0 := by rw [← hh, Bd.state]; rfl
  have N0 := Fr.nil n0
  have K0 := Keep.refl h0 [b]
  refine own_go (S' := (s₁.setTop (mkF m 0 #[.val (.ref b), .val (.int (0 : Int32)), .val (.int ch)] []))) (fun tq kq => castTop (ef_pc3_0 m b kb ch v0 v1 v2 v3 v4 v5 z fm) kq) ?_
  show own_G p e s below (Q_pc3_0 Z h0 n0 b kb ch v0 v1 v2 v3 v4 v5 z fm) _ _ _
  obtain ⟨T101, X101, e101, st101⟩ := getS2 X0 hx hZ hown (host := "") (Or.inl (hw _ (List.mem_of_getElem? (i := 130) rfl))) Via.refl e0 (SA.ext O0.2) (g := (mkF m 0 #[.val (.ref b), .val (.int (0 : Int32)), .val (.int ch)] [])) rfl (hb hby d28_0)
  refine own_go (S' := (T101.setTop (mkF m 31 #[.val (.ref b), .val (.int (0 : Int32)), .val (.int ch)] [(.int ((0 : Int32) <<< ((1 : Int32) &&& 31)))]))) (fun tq kq => st101 tq (XS.ifYes X101.here hx rfl (pc0 := 3) (pc' := 28) rfl (hb hby d28_3) rfl ((if0 _ _).trans (feq (by decide : ¬ ((1 : Int32) = (0 : Int32)))).2) (by decide) (by decide) (XS.iloadN X101.here hx rfl (hb hby d28_28) rfl (XS.iconst X101.here hx rfl (hb hby d28_29) (XS.ishl X101.here hx rfl (hb hby d28_30) rfl kq))))) ?_
  rw [show ((0 : Int32) <<< ((1 : Int32) &&& 31)) = (0 : Int32) from by decide]
  refine own_go (S' := (T101.setTop (mkF m 38 #[.val (.ref b), .val (.int (1 : Int32)), .val (.int ch)] [(.int ch), (.int (0 : Int32)), (.ref b)]))) (fun tq kq => XS.istoreN X101.here hx rfl (hb hby d28_31) rfl (l' := #[.val (.ref b), .val (.int (0 : Int32)), .val (.int ch)]) rfl (XS.aloadN X101.here hx rfl (hb hby d28_32) rfl rfl (XS.iloadN X101.here hx rfl (hb hby d28_33) rfl (XS.iinc X101.here hx rfl (hb hby d28_34) rfl (l' := #[.val (.ref b), .val (.int (1 : Int32)), .val (.int ch)]) rfl (XS.iloadN X101.here hx rfl (hb hby d28_37) rfl kq))))) ?_
  obtain ⟨T102, X102, e102, st102⟩ := getS2 X101 hx hZ hown (host := "") (Or.inl (hw _ (List.mem_of_getElem? (i := 131) rfl))) Via.refl e101 (SH.ext O0.2) (g := (mkF m 38 #[.val (.ref b), .val (.int (1 : Int32)), .val (.int ch)] [(.int ch), (.int (0 : Int32)), (.ref b)])) rfl (hb hby d28_38)
  refine own_go (S' := (T102.setTop (mkF m 43 #[.val (.ref b), .val (.int (1 : Int32)), .val (.int ch)] [(.int ((ch >>> ((0 : Int32) &&& 31)).toInt8.toInt32)), (.int (0 : Int32)), (.ref b)]))) (fun tq kq => st102 tq (XS.ishr X102.here hx rfl (hb hby d28_41) rfl (XS.i2b X102.here hx rfl (hb hby d28_42) rfl kq))) ?_
  obtain ⟨cl103, Ar103, qa103, sa103, hin103, -⟩ := Vb.at (j := (0 : Int32)) (by decide) rfl
  obtain ⟨T103, h103, X103, e103, W103, st103⟩ := stB X102 hx hZ e102 Ar103 (j := (0 : Int32)) hin103 (g := (mkF m 43 #[.val (.ref b), .val (.int (1 : Int32)), .val (.int ch)] [(.int ((ch >>> ((0 : Int32) &&& 31)).toInt8.toInt32)), (.int (0 : Int32)), (.ref b)])) rfl rfl (hb hby d28_43)
  have N103 := Fr.snoc X103 N0 gb
  have O103 := O0.wr W103 gb
  have K103 := K0.wr W103 (Or.inl (List.mem_of_getElem? (i := 0) rfl))
  have V103 : own_Ar Z h103 b kb .byte [(.int (((ch >>> ((0 : Int32) &&& 31)).toInt8.toInt32).toInt8.toInt32)), v1, v2, v3, v4, v5] := own_Ar.set Ar103 qa103 sa103 Vb.small W103
  refine own_go (S' := (T103.setTop (mkF m 47 #[.val (.ref b), .val (.int (1 : Int32)), .val (.int ch)] [(.int ch), (.int (1 : Int32)), (.ref b)]))) (fun tq kq => st103 tq (XS.aloadN X103.here hx rfl (hb hby d28_44) rfl rfl (XS.iloadN X103.here hx rfl (hb hby d28_45) rfl (XS.iloadN X103.here hx rfl (hb hby d28_46) rfl kq)))) ?_
  obtain ⟨T104, X104, e104, st104⟩ := getS2 X103 hx hZ hown (host := "") (Or.inl (hw _ (List.mem_of_getElem? (i := 132) rfl))) Via.refl e103 (SL.ext O103.2) (g := (mkF m 47 #[.val (.ref b), .val (.int (1 : Int32)), .val (.int ch)] [(.int ch), (.int (1 : Int32)), (.ref b)])) rfl (hb hby d28_47)
  refine own_go (S' := (T104.setTop (mkF m 52 #[.val (.ref b), .val (.int (1 : Int32)), .val (.int ch)] [(.int ((ch >>> ((8 : Int32) &&& 31)).toInt8.toInt32)), (.int (1 : Int32)), (.ref b)]))) (fun tq kq => st104 tq (XS.ishr X104.here hx rfl (hb hby d28_50) rfl (XS.i2b X104.here hx rfl (hb hby d28_51) rfl kq))) ?_
  obtain ⟨cl105, Ar105, qa105, sa105, hin105, -⟩ := V103.at (j := (1 : Int32)) (by decide) rfl
  obtain ⟨T105, h105, X105, e105, W105, st105⟩ := stB X104 hx hZ e104 Ar105 (j := (1 : Int32)) hin105 (g := (mkF m 52 #[.val (.ref b), .val (.int (1 : Int32)), .val (.int ch)] [(.int ((ch >>> ((8 : Int32) &&& 31)).toInt8.toInt32)), (.int (1 : Int32)), (.ref b)])) rfl rfl (hb hby d28_52)
  have N105 := Fr.snoc X105 N103 gb
  have O105 := O103.wr W105 gb
  have K105 := K103.wr W105 (Or.inl (List.mem_of_getElem? (i := 0) rfl))
  have V105 : own_Ar Z h105 b kb .byte [(.int (((ch >>> ((0 : Int32) &&& 31)).toInt8.toInt32).toInt8.toInt32)), (.int (((ch >>> ((8 : Int32) &&& 31)).toInt8.toInt32).toInt8.toInt32)), v2, v3, v4, v5] := own_Ar.set Ar105 qa105 sa105 V103.small W105
  refine own_go (S' := (T105.setTop (mkF m 53 #[.val (.ref b), .val (.int (1 : Int32)), .val (.int ch)] []))) (fun tq kq => st105 tq kq) ?_
  refine own_retV X105 hx hlk hret (hb hby d28_53) (by decide) (by decide) ?_
  rw [e105]
  exact ⟨rfl, N105, K105, V105⟩
theorem pn_pc3_1 : plainName "java/lang/StringUTF16" = true := by first | (simp [plainName, overriddenIn]; done) | decide +kernel
theorem ef_pc3_1 (m : MethodId) (b : Addr) (kb : ClassId) (ch : Int32) (v0 : Value) (v1 : Value) (v2 : Value) (v3 : Value) (v4 : Value) (v5 : Value) (z : Int32) (fm : Value) : entryFrame m #[(.ref b), (.int (1 : Int32)), (.int ch)] 3 = mkF m 0 #[.val (.ref b), .val (.int (1 : Int32)), .val (.int ch)] [] := by first | (simp [entryFrame, mkF, argsToLocals, Value.category]; done) | rfl
def Q_pc3_1 (Z : State) (h0 : Heap) (n0 : Nat) (b : Addr) (kb : ClassId) (ch : Int32) (v0 : Value) (v1 : Value) (v2 : Value) (v3 : Value) (v4 : Value) (v5 : Value) (z : Int32) (fm : Value) (v : Option Value) (h : Heap) (L : List Loc) : Prop := v = none ∧ Fr n0 L ∧ Keep h0 h [b] ∧ own_Ar Z h b kb .byte [v0, v1, (.int (own_b0 ch)), (.int (own_b1 ch)), v4, v5]
set_option maxRecDepth 65536 in
set_option maxHeartbeats 40000000 in
theorem pc3_1 (l : Launch) (Z : State) (a0 : Array Value) (hw : ∀ d ∈ tables_1, d.before a0 Z = true) (ws : List Jvm.Cond) (h0 : Heap) (n0 : Nat) (O0 : Old Z n0 h0) (b : Addr) (kb : ClassId) (ch : Int32) (v0 : Value) (v1 : Value) (v2 : Value) (v3 : Value) (v4 : Value) (v5 : Value) (z : Int32) (fm : Value) (SC : Sta Z Z.heap "java/lang/String" "COMPACT_STRINGS" "Z" (.int z)) (hz : ¬ (z = (0 : Int32))) (SA : Sta Z Z.heap "java/lang/StringUTF16" "$assertionsDisabled" "Z" (.int (1 : Int32))) (SH : Sta Z Z.heap "java/lang/StringUTF16" "HI_BYTE_SHIFT" "I" (.int (0 : Int32))) (SL : Sta Z Z.heap "java/lang/StringUTF16" "LO_BYTE_SHIFT" "I" (.int (8 : Int32))) (SF : Sta Z Z.heap "jdk/internal/util/Preconditions" "SIOOBE_FORMATTER" "Ljava/util/function/BiFunction;" fm) (hfm : fm.isRef = true) (Vb : own_Ar Z h0 b kb .byte [v0, v1, v2, v3, v4, v5]) (gb : n0 ≤ b) :
    MetFree l (⟨"java/lang/StringUTF16", "putChar", "([BII)V"⟩ : MethodName) (head1 (Jvm.Cond.code (⟨"java/lang/StringUTF16", "putChar", "([BII)V"⟩ : MethodName) jdk_52_method_4_code 3 none :: ws) ({ frames := 0, cells := 0, slots := 0, locals := 0 } : Room)) (fun aq U => aq = #[(.ref b), (.int (1 : Int32)), (.int ch)] ∧ Z.Warmed39 U.vm ∧ U.heap = h0) (fun _ _ _ _ _ => True) (fun _ U oo U' => ∃ v L, oo = .returned v ∧ Q_pc3_1 Z h0 n0 b kb ch v0 v1 v2 v3 v4 v5 z fm v U'.heap L ∧ FrameEnd U oo U' L ({ frames := 0, cells := 0, slots := 0, locals := 0 } : Room).cells ({ frames := 0, cells := 0, slots := 0, locals := 0 } : Room).slots) := by
  refine MetFree.of_bodySF (plainFor_of_name pn_pc3_1) hisR ?_
  intro p e s m args below meth c s₁ Bd hml0 hP hK
  obtain ⟨rfl, hZ, hh⟩ := hP
  have hx := Bd.exec
  have hby := Bd.bytes
  have hml : c.maxLocals = 3 := hml0
  have hown : s.vm.findClass "java/lang/StringUTF16" = some m.cls := findClass_of_methodNamed Bd.named
  have hnm := (name_of_methodNamed Bd.named Bd.method).1
  have hlk := Bd.notSynchronized
  have hret := Bd.returns
  have X0 : Stand p l e ({ frames := 0, cells := 0, slots := 0, locals := 0 } : Room) s m #[(.ref b), (.int (1 : Int32)), (.int ch)] below meth c s₁ [] 0 0 := Stand.of_body Bd
  have e0 : s₁.heap = h0 := by rw [← hh, Bd.state]; rfl
  have N0 := Fr.nil n0
  have K0 := Keep.refl h0 [b]
  refine own_go (S' := (s₁.setTop (mkF m 0 #[.val (.ref b), .val (.int (1 : Int32)), .val (.int ch)] []))) (fun tq kq => castTop (ef_pc3_1 m b kb ch v0 v1 v2 v3 v4 v5 z fm) kq) ?_
  show own_G p e s below (Q_pc3_1 Z h0 n0 b kb ch v0 v1 v2 v3 v4 v5 z fm) _ _ _
  obtain ⟨T101, X101, e101, st101⟩ := getS2 X0 hx hZ hown (host := "") (Or.inl (hw _ (List.mem_of_getElem? (i := 130) rfl))) Via.refl e0 (SA.ext O0.2) (g := (mkF m 0 #[.val (.ref b), .val (.int (1 : Int32)), .val (.int ch)] [])) rfl (hb hby d28_0)
  refine own_go (S' := (T101.setTop (mkF m 31 #[.val (.ref b), .val (.int (1 : Int32)), .val (.int ch)] [(.int ((1 : Int32) <<< ((1 : Int32) &&& 31)))]))) (fun tq kq => st101 tq (XS.ifYes X101.here hx rfl (pc0 := 3) (pc' := 28) rfl (hb hby d28_3) rfl ((if0 _ _).trans (feq (by decide : ¬ ((1 : Int32) = (0 : Int32)))).2) (by decide) (by decide) (XS.iloadN X101.here hx rfl (hb hby d28_28) rfl (XS.iconst X101.here hx rfl (hb hby d28_29) (XS.ishl X101.here hx rfl (hb hby d28_30) rfl kq))))) ?_
  rw [show ((1 : Int32) <<< ((1 : Int32) &&& 31)) = (2 : Int32) from by decide]
  refine own_go (S' := (T101.setTop (mkF m 38 #[.val (.ref b), .val (.int (3 : Int32)), .val (.int ch)] [(.int ch), (.int (2 : Int32)), (.ref b)]))) (fun tq kq => XS.istoreN X101.here hx rfl (hb hby d28_31) rfl (l' := #[.val (.ref b), .val (.int (2 : Int32)), .val (.int ch)]) rfl (XS.aloadN X101.here hx rfl (hb hby d28_32) rfl rfl (XS.iloadN X101.here hx rfl (hb hby d28_33) rfl (XS.iinc X101.here hx rfl (hb hby d28_34) rfl (l' := #[.val (.ref b), .val (.int (3 : Int32)), .val (.int ch)]) rfl (XS.iloadN X101.here hx rfl (hb hby d28_37) rfl kq))))) ?_
  obtain ⟨T102, X102, e102, st102⟩ := getS2 X101 hx hZ hown (host := "") (Or.inl (hw _ (List.mem_of_getElem? (i := 131) rfl))) Via.refl e101 (SH.ext O0.2) (g := (mkF m 38 #[.val (.ref b), .val (.int (3 : Int32)), .val (.int ch)] [(.int ch), (.int (2 : Int32)), (.ref b)])) rfl (hb hby d28_38)
  refine own_go (S' := (T102.setTop (mkF m 43 #[.val (.ref b), .val (.int (3 : Int32)), .val (.int ch)] [(.int ((ch >>> ((0 : Int32) &&& 31)).toInt8.toInt32)), (.int (2 : Int32)), (.ref b)]))) (fun tq kq => st102 tq (XS.ishr X102.here hx rfl (hb hby d28_41) rfl (XS.i2b X102.here hx rfl (hb hby d28_42) rfl kq))) ?_
  obtain ⟨cl103, Ar103, qa103, sa103, hin103, -⟩ := Vb.at (j := (2 : Int32)) (by decide) rfl
  obtain ⟨T103, h103, X103, e103, W103, st103⟩ := stB X102 hx hZ e102 Ar103 (j := (2 : Int32)) hin103 (g := (mkF m 43 #[.val (.ref b), .val (.int (3 : Int32)), .val (.int ch)] [(.int ((ch >>> ((0 : Int32) &&& 31)).toInt8.toInt32)), (.int (2 : Int32)), (.ref b)])) rfl rfl (hb hby d28_43)
  have N103 := Fr.snoc X103 N0 gb
  have O103 := O0.wr W103 gb
  have K103 := K0.wr W103 (Or.inl (List.mem_of_getElem? (i := 0) rfl))
  have V103 : own_Ar Z h103 b kb .byte [v0, v1, (.int (((ch >>> ((0 : Int32) &&& 31)).toInt8.toInt32).toInt8.toInt32)), v3, v4, v5] := own_Ar.set Ar103 qa103 sa103 Vb.small W103
  refine own_go (S' := (T103.setTop (mkF m 47 #[.val (.ref b), .val (.int (3 : Int32)), .val (.int ch)] [(.int ch), (.int (3 : Int32)), (.ref b)]))) (fun tq kq => st103 tq (XS.aloadN X103.here hx rfl (hb hby d28_44) rfl rfl (XS.iloadN X103.here hx rfl (hb hby d28_45) rfl (XS.iloadN X103.here hx rfl (hb hby d28_46) rfl kq)))) ?_
  obtain ⟨T104, X104, e104, st104⟩ := getS2 X103 hx hZ hown (host := "") (Or.inl (hw _ (List.mem_of_getElem? (i := 132) rfl))) Via.refl e103 (SL.ext O103.2) (g := (mkF m 47 #[.val (.ref b), .val (.int (3 : Int32)), .val (.int ch)] [(.int ch), (.int (3 : Int32)), (.ref b)])) rfl (hb hby d28_47)
  refine own_go (S' := (T104.setTop (mkF m 52 #[.val (.ref b), .val (.int (3 : Int32)), .val (.int ch)] [(.int ((ch >>> ((8 : Int32) &&& 31)).toInt8.toInt32)), (.int (3 : Int32)), (.ref b)]))) (fun tq kq => st104 tq (XS.ishr X104.here hx rfl (hb hby d28_50) rfl (XS.i2b X104.here hx rfl (hb hby d28_51) rfl kq))) ?_
  obtain ⟨cl105, Ar105, qa105, sa105, hin105, -⟩ := V103.at (j := (3 : Int32)) (by decide) rfl
  obtain ⟨T105, h105, X105, e105, W105, st105⟩ := stB X104 hx hZ e104 Ar105 (j := (3 : Int32)) hin105 (g := (mkF m 52 #[.val (.ref b), .val (.int (3 : Int32)), .val (.int ch)] [(.int ((ch >>> ((8 : Int32) &&& 31)).toInt8.toInt32)), (.int (3 : Int32)), (.ref b)])) rfl rfl (hb hby d28_52)
  have N105 := Fr.snoc X105 N103 gb
  have O105 := O103.wr W105 gb
  have K105 := K103.wr W105 (Or.inl (List.mem_of_getElem? (i := 0) rfl))
  have V105 : own_Ar Z h105 b kb .byte [v0, v1, (.int (((ch >>> ((0 : Int32) &&& 31)).toInt8.toInt32).toInt8.toInt32)), (.int (((ch >>> ((8 : Int32) &&& 31)).toInt8.toInt32).toInt8.toInt32)), v4, v5] := own_Ar.set Ar105 qa105 sa105 V103.small W105
  refine own_go (S' := (T105.setTop (mkF m 53 #[.val (.ref b), .val (.int (3 : Int32)), .val (.int ch)] []))) (fun tq kq => st105 tq kq) ?_
  refine own_retV X105 hx hlk hret (hb hby d28_53) (by decide) (by decide) ?_
  rw [e105]
  exact ⟨rfl, N105, K105, V105⟩
theorem pn_pc3_2 : plainName "java/lang/StringUTF16" = true := by first | (simp [plainName, overriddenIn]; done) | decide +kernel
theorem ef_pc3_2 (m : MethodId) (b : Addr) (kb : ClassId) (ch : Int32) (v0 : Value) (v1 : Value) (v2 : Value) (v3 : Value) (v4 : Value) (v5 : Value) (z : Int32) (fm : Value) : entryFrame m #[(.ref b), (.int (2 : Int32)), (.int ch)] 3 = mkF m 0 #[.val (.ref b), .val (.int (2 : Int32)), .val (.int ch)] [] := by first | (simp [entryFrame, mkF, argsToLocals, Value.category]; done) | rfl
def Q_pc3_2 (Z : State) (h0 : Heap) (n0 : Nat) (b : Addr) (kb : ClassId) (ch : Int32) (v0 : Value) (v1 : Value) (v2 : Value) (v3 : Value) (v4 : Value) (v5 : Value) (z : Int32) (fm : Value) (v : Option Value) (h : Heap) (L : List Loc) : Prop := v = none ∧ Fr n0 L ∧ Keep h0 h [b] ∧ own_Ar Z h b kb .byte [v0, v1, v2, v3, (.int (own_b0 ch)), (.int (own_b1 ch))]
set_option maxRecDepth 65536 in
set_option maxHeartbeats 40000000 in
theorem pc3_2 (l : Launch) (Z : State) (a0 : Array Value) (hw : ∀ d ∈ tables_1, d.before a0 Z = true) (ws : List Jvm.Cond) (h0 : Heap) (n0 : Nat) (O0 : Old Z n0 h0) (b : Addr) (kb : ClassId) (ch : Int32) (v0 : Value) (v1 : Value) (v2 : Value) (v3 : Value) (v4 : Value) (v5 : Value) (z : Int32) (fm : Value) (SC : Sta Z Z.heap "java/lang/String" "COMPACT_STRINGS" "Z" (.int z)) (hz : ¬ (z = (0 : Int32))) (SA : Sta Z Z.heap "java/lang/StringUTF16" "$assertionsDisabled" "Z" (.int (1 : Int32))) (SH : Sta Z Z.heap "java/lang/StringUTF16" "HI_BYTE_SHIFT" "I" (.int (0 : Int32))) (SL : Sta Z Z.heap "java/lang/StringUTF16" "LO_BYTE_SHIFT" "I" (.int (8 : Int32))) (SF : Sta Z Z.heap "jdk/internal/util/Preconditions" "SIOOBE_FORMATTER" "Ljava/util/function/BiFunction;" fm) (hfm : fm.isRef = true) (Vb : own_Ar Z h0 b kb .byte [v0, v1, v2, v3, v4, v5]) (gb : n0 ≤ b) :
    MetFree l (⟨"java/lang/StringUTF16", "putChar", "([BII)V"⟩ : MethodName) (head1 (Jvm.Cond.code (⟨"java/lang/StringUTF16", "putChar", "([BII)V"⟩ : MethodName) jdk_52_method_4_code 3 none :: ws) ({ frames := 0, cells := 0, slots := 0, locals := 0 } : Room)) (fun aq U => aq = #[(.ref b), (.int (2 : Int32)), (.int ch)] ∧ Z.Warmed39 U.vm ∧ U.heap = h0) (fun _ _ _ _ _ => True) (fun _ U oo U' => ∃ v L, oo = .returned v ∧ Q_pc3_2 Z h0 n0 b kb ch v0 v1 v2 v3 v4 v5 z fm v U'.heap L ∧ FrameEnd U oo U' L ({ frames := 0, cells := 0, slots := 0, locals := 0 } : Room).cells ({ frames := 0, cells := 0, slots := 0, locals := 0 } : Room).slots) := by
  refine MetFree.of_bodySF (plainFor_of_name pn_pc3_2) hisR ?_
  intro p e s m args below meth c s₁ Bd hml0 hP hK
  obtain ⟨rfl, hZ, hh⟩ := hP
  have hx := Bd.exec
  have hby := Bd.bytes
  have hml : c.maxLocals = 3 := hml0
  have hown : s.vm.findClass "java/lang/StringUTF16" = some m.cls := findClass_of_methodNamed Bd.named
  have hnm := (name_of_methodNamed Bd.named Bd.method).1
  have hlk := Bd.notSynchronized
  have hret := Bd.returns
  have X0 : Stand p l e ({ frames := 0, cells := 0, slots := 0, locals := 0 } : Room) s m #[(.ref b), (.int (2 : Int32)), (.int ch)] below meth c s₁ [] 0 0 := Stand.of_body Bd
  have e0 : s₁.heap = h0 := by rw [← hh, Bd.state]; rfl
  have N0 := Fr.nil n0
  have K0 := Keep.refl h0 [b]
  refine own_go (S' := (s₁.setTop (mkF m 0 #[.val (.ref b), .val (.int (2 : Int32)), .val (.int ch)] []))) (fun tq kq => castTop (ef_pc3_2 m b kb ch v0 v1 v2 v3 v4 v5 z fm) kq) ?_
  show own_G p e s below (Q_pc3_2 Z h0 n0 b kb ch v0 v1 v2 v3 v4 v5 z fm) _ _ _
  obtain ⟨T101, X101, e101, st101⟩ := getS2 X0 hx hZ hown (host := "") (Or.inl (hw _ (List.mem_of_getElem? (i := 130) rfl))) Via.refl e0 (SA.ext O0.2) (g := (mkF m 0 #[.val (.ref b), .val (.int (2 : Int32)), .val (.int ch)] [])) rfl (hb hby d28_0)
  refine own_go (S' := (T101.setTop (mkF m 31 #[.val (.ref b), .val (.int (2 : Int32)), .val (.int ch)] [(.int ((2 : Int32) <<< ((1 : Int32) &&& 31)))]))) (fun tq kq => st101 tq (XS.ifYes X101.here hx rfl (pc0 := 3) (pc' := 28) rfl (hb hby d28_3) rfl ((if0 _ _).trans (feq (by decide : ¬ ((1 : Int32) = (0 : Int32)))).2) (by decide) (by decide) (XS.iloadN X101.here hx rfl (hb hby d28_28) rfl (XS.iconst X101.here hx rfl (hb hby d28_29) (XS.ishl X101.here hx rfl (hb hby d28_30) rfl kq))))) ?_
  rw [show ((2 : Int32) <<< ((1 : Int32) &&& 31)) = (4 : Int32) from by decide]
  refine own_go (S' := (T101.setTop (mkF m 38 #[.val (.ref b), .val (.int (5 : Int32)), .val (.int ch)] [(.int ch), (.int (4 : Int32)), (.ref b)]))) (fun tq kq => XS.istoreN X101.here hx rfl (hb hby d28_31) rfl (l' := #[.val (.ref b), .val (.int (4 : Int32)), .val (.int ch)]) rfl (XS.aloadN X101.here hx rfl (hb hby d28_32) rfl rfl (XS.iloadN X101.here hx rfl (hb hby d28_33) rfl (XS.iinc X101.here hx rfl (hb hby d28_34) rfl (l' := #[.val (.ref b), .val (.int (5 : Int32)), .val (.int ch)]) rfl (XS.iloadN X101.here hx rfl (hb hby d28_37) rfl kq))))) ?_
  obtain ⟨T102, X102, e102, st102⟩ := getS2 X101 hx hZ hown (host := "") (Or.inl (hw _ (List.mem_of_getElem? (i := 131) rfl))) Via.refl e101 (SH.ext O0.2) (g := (mkF m 38 #[.val (.ref b), .val (.int (5 : Int32)), .val (.int ch)] [(.int ch), (.int (4 : Int32)), (.ref b)])) rfl (hb hby d28_38)
  refine own_go (S' := (T102.setTop (mkF m 43 #[.val (.ref b), .val (.int (5 : Int32)), .val (.int ch)] [(.int ((ch >>> ((0 : Int32) &&& 31)).toInt8.toInt32)), (.int (4 : Int32)), (.ref b)]))) (fun tq kq => st102 tq (XS.ishr X102.here hx rfl (hb hby d28_41) rfl (XS.i2b X102.here hx rfl (hb hby d28_42) rfl kq))) ?_
  obtain ⟨cl103, Ar103, qa103, sa103, hin103, -⟩ := Vb.at (j := (4 : Int32)) (by decide) rfl
  obtain ⟨T103, h103, X103, e103, W103, st103⟩ := stB X102 hx hZ e102 Ar103 (j := (4 : Int32)) hin103 (g := (mkF m 43 #[.val (.ref b), .val (.int (5 : Int32)), .val (.int ch)] [(.int ((ch >>> ((0 : Int32) &&& 31)).toInt8.toInt32)), (.int (4 : Int32)), (.ref b)])) rfl rfl (hb hby d28_43)
  have N103 := Fr.snoc X103 N0 gb
  have O103 := O0.wr W103 gb
  have K103 := K0.wr W103 (Or.inl (List.mem_of_getElem? (i := 0) rfl))
  have V103 : own_Ar Z h103 b kb .byte [v0, v1, v2, v3, (.int (((ch >>> ((0 : Int32) &&& 31)).toInt8.toInt32).toInt8.toInt32)), v5] := own_Ar.set Ar103 qa103 sa103 Vb.small W103
  refine own_go (S' := (T103.setTop (mkF m 47 #[.val (.ref b), .val (.int (5 : Int32)), .val (.int ch)] [(.int ch), (.int (5 : Int32)), (.ref b)]))) (fun tq kq => st103 tq (XS.aloadN X103.here hx rfl (hb hby d28_44) rfl rfl (XS.iloadN X103.here hx rfl (hb hby d28_45) rfl (XS.iloadN X103.here hx rfl (hb hby d28_46) rfl kq)))) ?_
  obtain ⟨T104, X104, e104, st104⟩ := getS2 X103 hx hZ hown (host := "") (Or.inl (hw _ (List.mem_of_getElem? (i := 132) rfl))) Via.refl e103 (SL.ext O103.2) (g := (mkF m 47 #[.val (.ref b), .val (.int (5 : Int32)), .val (.int ch)] [(.int ch), (.int (5 : Int32)), (.ref b)])) rfl (hb hby d28_47)
  refine own_go (S' := (T104.setTop (mkF m 52 #[.val (.ref b), .val (.int (5 : Int32)), .val (.int ch)] [(.int ((ch >>> ((8 : Int32) &&& 31)).toInt8.toInt32)), (.int (5 : Int32)), (.ref b)]))) (fun tq kq => st104 tq (XS.ishr X104.here hx rfl (hb hby d28_50) rfl (XS.i2b X104.here hx rfl (hb hby d28_51) rfl kq))) ?_
  obtain ⟨cl105, Ar105, qa105, sa105, hin105, -⟩ := V103.at (j := (5 : Int32)) (by decide) rfl
  obtain ⟨T105, h105, X105, e105, W105, st105⟩ := stB X104 hx hZ e104 Ar105 (j := (5 : Int32)) hin105 (g := (mkF m 52 #[.val (.ref b), .val (.int (5 : Int32)), .val (.int ch)] [(.int ((ch >>> ((8 : Int32) &&& 31)).toInt8.toInt32)), (.int (5 : Int32)), (.ref b)])) rfl rfl (hb hby d28_52)
  have N105 := Fr.snoc X105 N103 gb
  have O105 := O103.wr W105 gb
  have K105 := K103.wr W105 (Or.inl (List.mem_of_getElem? (i := 0) rfl))
  have V105 : own_Ar Z h105 b kb .byte [v0, v1, v2, v3, (.int (((ch >>> ((0 : Int32) &&& 31)).toInt8.toInt32).toInt8.toInt32)), (.int (((ch >>> ((8 : Int32) &&& 31)).toInt8.toInt32).toInt8.toInt32))] := own_Ar.set Ar105 qa105 sa105 V103.small W105
  refine own_go (S' := (T105.setTop (mkF m 53 #[.val (.ref b), .val (.int (5 : Int32)), .val (.int ch)] []))) (fun tq kq => st105 tq kq) ?_
  refine own_retV X105 hx hlk hret (hb hby d28_53) (by decide) (by decide) ?_
  rw [e105]
  exact ⟨rfl, N105, K105, V105⟩
theorem pn_u16a3 : plainName "java/lang/StringUTF16" = true := by first | (simp [plainName, overriddenIn]; done) | decide +kernel
theorem ef_u16a3 (m : MethodId) (cs : Addr) (kcs : ClassId) (c0 : Int32) (c1 : Int32) (c2 : Int32) (z : Int32) (fm : Value) : entryFrame m #[(.ref cs), (.int (0 : Int32)), (.int (3 : Int32))] 5 = mkF m 0 #[.val (.ref cs), .val (.int (0 : Int32)), .val (.int (3 : Int32)), .unset, .unset] [] := by first | (simp [entryFrame, mkF, argsToLocals, Value.category]; done) | rfl
def Q_u16a3 (Z : State) (h0 : Heap) (n0 : Nat) (cs : Addr) (kcs : ClassId) (c0 : Int32) (c1 : Int32) (c2 : Int32) (z : Int32) (fm : Value) (v : Option Value) (h : Heap) (L : List Loc) : Prop := ∃ (b : Addr) (kb : ClassId), v = some (.ref b) ∧ Fr n0 L ∧ Keep h0 h [] ∧ h0.size ≤ b ∧ own_Ar Z h b kb .byte [(.int (own_b0 c0)), (.int (own_b1 c0)), (.int (own_b0 c1)), (.int (own_b1 c1)), (.int (own_b0 c2)), (.int (own_b1 c2))]
set_option maxRecDepth 65536 in
set_option maxHeartbeats 40000000 in
theorem u16a3 (l : Launch) (Z : State) (a0 : Array Value) (hw : ∀ d ∈ tables_1, d.before a0 Z = true) (ws : List Jvm.Cond) (h0 : Heap) (n0 : Nat) (O0 : Old Z n0 h0) (cs : Addr) (kcs : ClassId) (c0 : Int32) (c1 : Int32) (c2 : Int32) (z : Int32) (fm : Value) (SC : Sta Z Z.heap "java/lang/String" "COMPACT_STRINGS" "Z" (.int z)) (hz : ¬ (z = (0 : Int32))) (SA : Sta Z Z.heap "java/lang/StringUTF16" "$assertionsDisabled" "Z" (.int (1 : Int32))) (SH : Sta Z Z.heap "java/lang/StringUTF16" "HI_BYTE_SHIFT" "I" (.int (0 : Int32))) (SL : Sta Z Z.heap "java/lang/StringUTF16" "LO_BYTE_SHIFT" "I" (.int (8 : Int32))) (SF : Sta Z Z.heap "jdk/internal/util/Preconditions" "SIOOBE_FORMATTER" "Ljava/util/function/BiFunction;" fm) (hfm : fm.isRef = true) (Vcs : own_Ar Z h0 cs kcs .char [(.int c0), (.int c1), (.int c2)]) :
    MetFree l (⟨"java/lang/StringUTF16", "toBytes", "([CII)[B"⟩ : MethodName) (head1 (Jvm.Cond.code (⟨"java/lang/StringUTF16", "toBytes", "([CII)[B"⟩ : MethodName) jdk_52_method_14_code 5 (some (.array .byte)) :: ws) ({ frames := 2, cells := 1, slots := 6, locals := 24 } : Room)) (fun aq U => aq = #[(.ref cs), (.int (0 : Int32)), (.int (3 : Int32))] ∧ Z.Warmed39 U.vm ∧ U.heap = h0) (fun _ _ _ _ _ => True) (fun _ U oo U' => ∃ v L, oo = .returned v ∧ Q_u16a3 Z h0 n0 cs kcs c0 c1 c2 z fm v U'.heap L ∧ FrameEnd U oo U' L ({ frames := 2, cells := 1, slots := 6, locals := 24 } : Room).cells ({ frames := 2, cells := 1, slots := 6, locals := 24 } : Room).slots) := by
  refine MetFree.of_bodySF (plainFor_of_name pn_u16a3) hisR ?_
  intro p e s m args below meth c s₁ Bd hml0 hP hK
  obtain ⟨rfl, hZ, hh⟩ := hP
  have hx := Bd.exec
  have hby := Bd.bytes
  have hml : c.maxLocals = 5 := hml0
  have hown : s.vm.findClass "java/lang/StringUTF16" = some m.cls := findClass_of_methodNamed Bd.named
  have hnm := (name_of_methodNamed Bd.named Bd.method).1
  have hlk := Bd.notSynchronized
  have hret := Bd.returns
  have X0 : Stand p l e ({ frames := 2, cells := 1, slots := 6, locals := 24 } : Room) s m #[(.ref cs), (.int (0 : Int32)), (.int (3 : Int32))] below meth c s₁ [] 0 0 := Stand.of_body Bd
  have e0 : s₁.heap = h0 := by rw [← hh, Bd.state]; rfl
  have N0 := Fr.nil n0
  have K0 := Keep.refl h0 []
  refine own_go (S' := (s₁.setTop (mkF m 0 #[.val (.ref cs), .val (.int (0 : Int32)), .val (.int (3 : Int32)), .unset, .unset] []))) (fun tq kq => castTop (ef_u16a3 m cs kcs c0 c1 c2 z fm) kq) ?_
  show own_G p e s below (Q_u16a3 Z h0 n0 cs kcs c0 c1 c2 z fm) _ _ _
  refine own_go (S' := (s₁.setTop (mkF m 1 #[.val (.ref cs), .val (.int (0 : Int32)), .val (.int (3 : Int32)), .unset, .unset] [(.int (3 : Int32))]))) (fun tq kq => XS.iloadN X0.here hx rfl (hb hby d25_0) rfl kq) ?_
  obtain ⟨_, _, ⟨T101, L101, k101, n101⟩, -, X101, ⟨Lc101, hQ101, l101, y101, z101⟩, st101⟩ := Jvm.LawKit.callS X0 hx (y := (⟨"java/lang/StringUTF16", "newBytesFor", "(I)[B"⟩ : MethodName)) hown (mvT hZ (hw _ (List.mem_of_getElem? (i := 120) rfl))) (mvT hZ (hw _ (List.mem_of_getElem? (i := 121) rfl))) (mvT hZ (hw _ (List.mem_of_getElem? (i := 60) rfl))) (mvT hZ (hw _ (List.mem_of_getElem? (i := 122) rfl))) (by decide) (backOf (W := 0) (nbf3 l Z a0 hw [] h0 n0 O0  z fm SC hz SA SH SL SF hfm ) hZ (hw _ (List.mem_of_getElem? (i := 122) rfl)) (hw _ (List.mem_of_getElem? (i := 60) rfl)) (by decide) (by decide)) (g := (mkF m 1 #[.val (.ref cs), .val (.int (0 : Int32)), .val (.int (3 : Int32)), .unset, .unset] [(.int (3 : Int32))])) rfl (by rw [hml]; rfl) (argsL := [(.int (3 : Int32))]) (rest := []) (lenOf pd_13 rfl) rfl (by show 2 * 0 + _ ≤ _; exact Nat.le_of_eq rfl) (hb hby d25_1) (fun _ _ => ⟨rfl, e0, (by decide : 0 + 1 ≤ _), (by decide : 0 + 6 ≤ _)⟩)
  dsimp only [Pt.U, Pt.locs, Pt.cells, Pt.slots] at X101 l101 y101 z101 st101 hQ101
  subst l101 y101 z101
  obtain ⟨b101, kb101, rfl, N101, K101, gb101, V101⟩ := hQ101
  have Nf101 := Fr.app N0 N101
  have O101 := O0.keep K101 all0
  have KK101 := K0.trans K101 all0
  have ne_cs_b101 : cs ≠ b101 := Nat.ne_of_lt (Nat.lt_of_lt_of_le Vcs.lt gb101)
  have ge_b101 : n0 ≤ b101 := Nat.le_trans (own_osz O0) gb101
  have gk_b101 : h0.size ≤ b101 := Nat.le_trans K0.1 gb101
  refine own_go (S' := (T101.setTop (mkF m 18 #[.val (.ref cs), .val (.int (0 : Int32)), .val (.int (3 : Int32)), .val (.ref b101), .val (.int (0 : Int32))] [(.ref cs), (.int (0 : Int32)), (.ref b101)]))) (fun tq kq => st101 tq (XS.astoreN X101.here hx rfl (hb hby d25_4) rfl rfl (l' := #[.val (.ref cs), .val (.int (0 : Int32)), .val (.int (3 : Int32)), .val (.ref b101), .unset]) rfl (XS.iconst X101.here hx rfl (hb hby d25_5) (XS.istore X101.here hx rfl (hb hby d25_6) rfl (l' := #[.val (.ref cs), .val (.int (0 : Int32)), .val (.int (3 : Int32)), .val (.ref b101), .val (.int (0 : Int32))]) rfl (XS.iload X101.here hx rfl (hb hby d25_8) rfl (XS.iloadN X101.here hx rfl (hb hby d25_10) rfl (XS.icmpNo X101.here hx rfl (hb hby d25_11) rfl (tlt (by decide : (0 : Int32) < (3 : Int32))).2.1 (XS.aloadN X101.here hx rfl (hb hby d25_14) rfl rfl (XS.iload X101.here hx rfl (hb hby d25_15) rfl (XS.aloadN X101.here hx rfl (hb hby d25_17) rfl rfl kq)))))))))) ?_
  refine own_go (S' := (T101.setTop (mkF m 19 #[.val (.ref cs), .val (.int (0 : Int32)), .val (.int (3 : Int32)), .val (.ref b101), .val (.int (0 : Int32))] [(.int (0 : Int32)), (.ref cs), (.int (0 : Int32)), (.ref b101)]))) (fun tq kq => XS.iloadN X101.here hx rfl (hb hby d25_18) rfl kq) ?_
  have f102 := (Vcs.keep K101 nin0)
  obtain ⟨cl103, Ar103, -, -, hin103, hat103⟩ := f102.at (j := (0 : Int32)) (v := (.int c0)) (by decide) rfl
  refine own_go (S' := (T101.setTop (mkF m 20 #[.val (.ref cs), .val (.int (0 : Int32)), .val (.int (3 : Int32)), .val (.ref b101), .val (.int (0 : Int32))] [(.int c0), (.int (0 : Int32)), (.ref b101)]))) (fun tq kq => X101.caload hx (j := (0 : Int32)) (v := (.int c0)) Ar103.1 (State.isArrayOf_alike hZ.alike Ar103.2.1) Ar103.2.2 hin103 hat103 (g := (mkF m 19 #[.val (.ref cs), .val (.int (0 : Int32)), .val (.int (3 : Int32)), .val (.ref b101), .val (.int (0 : Int32))] [(.int (0 : Int32)), (.ref cs), (.int (0 : Int32)), (.ref b101)])) rfl rfl (hb hby d25_19) tq kq) ?_
  obtain ⟨_, _, ⟨T104, L104, k104, n104⟩, -, X104, ⟨Lc104, hQ104, l104, y104, z104⟩, st104⟩ := Jvm.LawKit.callS X101 hx (y := (⟨"java/lang/StringUTF16", "putChar", "([BII)V"⟩ : MethodName)) hown (mvT hZ (hw _ (List.mem_of_getElem? (i := 127) rfl))) (mvT hZ (hw _ (List.mem_of_getElem? (i := 128) rfl))) (mvT hZ (hw _ (List.mem_of_getElem? (i := 60) rfl))) (mvT hZ (hw _ (List.mem_of_getElem? (i := 129) rfl))) (by decide) (backOf (W := 0) (pc3_0 l Z a0 hw [] T101.heap n0 O101 b101 kb101 c0 (.int (0 : Int32)) (.int (0 : Int32)) (.int (0 : Int32)) (.int (0 : Int32)) (.int (0 : Int32)) (.int (0 : Int32)) z fm SC hz SA SH SL SF hfm V101 ge_b101) hZ (hw _ (List.mem_of_getElem? (i := 129) rfl)) (hw _ (List.mem_of_getElem? (i := 60) rfl)) (by decide) (by decide)) (g := (mkF m 20 #[.val (.ref cs), .val (.int (0 : Int32)), .val (.int (3 : Int32)), .val (.ref b101), .val (.int (0 : Int32))] [(.int c0), (.int (0 : Int32)), (.ref b101)])) rfl (by rw [hml]; rfl) (argsL := [(.ref b101), (.int (0 : Int32)), (.int c0)]) (rest := []) (lenOf pd_8 rfl) rfl (by show 2 * 0 + _ ≤ _; exact Nat.le_of_eq rfl) (hb hby d25_20) (fun _ _ => ⟨rfl, rfl, (by decide : 1 + 0 ≤ _), (by decide : 6 + 0 ≤ _)⟩)
  dsimp only [Pt.U, Pt.locs, Pt.cells, Pt.slots] at X104 l104 y104 z104 st104 hQ104
  subst l104 y104 z104
  obtain ⟨rfl, N104, K104, V104⟩ := hQ104
  have Nf104 := Fr.app Nf101 N104
  have O104 := O101.keep K104 (allS ge_b101 all0)
  have KK104 := KK101.trans K104 (allS (Or.inr gk_b101) all0)
  refine own_go (S' := (T104.setTop (mkF m 18 #[.val (.ref cs), .val (.int (1 : Int32)), .val (.int (3 : Int32)), .val (.ref b101), .val (.int (1 : Int32))] [(.ref cs), (.int (1 : Int32)), (.ref b101)]))) (fun tq kq => st104 tq (XS.iinc X104.here hx rfl (hb hby d25_23) rfl (l' := #[.val (.ref cs), .val (.int (1 : Int32)), .val (.int (3 : Int32)), .val (.ref b101), .val (.int (0 : Int32))]) rfl (XS.iinc X104.here hx rfl (hb hby d25_26) rfl (l' := #[.val (.ref cs), .val (.int (1 : Int32)), .val (.int (3 : Int32)), .val (.ref b101), .val (.int (1 : Int32))]) rfl (XS.goto X104.here hx rfl (pc0 := 29) (pc' := 8) rfl (hb hby d25_29) (by decide) (by decide) (XS.iload X104.here hx rfl (hb hby d25_8) rfl (XS.iloadN X104.here hx rfl (hb hby d25_10) rfl (XS.icmpNo X104.here hx rfl (hb hby d25_11) rfl (tlt (by decide : (1 : Int32) < (3 : Int32))).2.1 (XS.aloadN X104.here hx rfl (hb hby d25_14) rfl rfl (XS.iload X104.here hx rfl (hb hby d25_15) rfl (XS.aloadN X104.here hx rfl (hb hby d25_17) rfl rfl kq)))))))))) ?_
  refine own_go (S' := (T104.setTop (mkF m 19 #[.val (.ref cs), .val (.int (1 : Int32)), .val (.int (3 : Int32)), .val (.ref b101), .val (.int (1 : Int32))] [(.int (1 : Int32)), (.ref cs), (.int (1 : Int32)), (.ref b101)]))) (fun tq kq => XS.iloadN X104.here hx rfl (hb hby d25_18) rfl kq) ?_
  have f105 := (f102.keep K104 (ninS ne_cs_b101 nin0))
  obtain ⟨cl106, Ar106, -, -, hin106, hat106⟩ := f105.at (j := (1 : Int32)) (v := (.int c1)) (by decide) rfl
  refine own_go (S' := (T104.setTop (mkF m 20 #[.val (.ref cs), .val (.int (1 : Int32)), .val (.int (3 : Int32)), .val (.ref b101), .val (.int (1 : Int32))] [(.int c1), (.int (1 : Int32)), (.ref b101)]))) (fun tq kq => X104.caload hx (j := (1 : Int32)) (v := (.int c1)) Ar106.1 (State.isArrayOf_alike hZ.alike Ar106.2.1) Ar106.2.2 hin106 hat106 (g := (mkF m 19 #[.val (.ref cs), .val (.int (1 : Int32)), .val (.int (3 : Int32)), .val (.ref b101), .val (.int (1 : Int32))] [(.int (1 : Int32)), (.ref cs), (.int (1 : Int32)), (.ref b101)])) rfl rfl (hb hby d25_19) tq kq) ?_
  obtain ⟨_, _, ⟨T107, L107, k107, n107⟩, -, X107, ⟨Lc107, hQ107, l107, y107, z107⟩, st107⟩ := Jvm.LawKit.callS X104 hx (y := (⟨"java/lang/StringUTF16", "putChar", "([BII)V"⟩ : MethodName)) hown (mvT hZ (hw _ (List.mem_of_getElem? (i := 127) rfl))) (mvT hZ (hw _ (List.mem_of_getElem? (i := 128) rfl))) (mvT hZ (hw _ (List.mem_of_getElem? (i := 60) rfl))) (mvT hZ (hw _ (List.mem_of_getElem? (i := 129) rfl))) (by decide) (backOf (W := 0) (pc3_1 l Z a0 hw [] T104.heap n0 O104 b101 kb101 c1 (.int (own_b0 c0)) (.int (own_b1 c0)) (.int (0 : Int32)) (.int (0 : Int32)) (.int (0 : Int32)) (.int (0 : Int32)) z fm SC hz SA SH SL SF hfm V104 ge_b101) hZ (hw _ (List.mem_of_getElem? (i := 129) rfl)) (hw _ (List.mem_of_getElem? (i := 60) rfl)) (by decide) (by decide)) (g := (mkF m 20 #[.val (.ref cs), .val (.int (1 : Int32)), .val (.int (3 : Int32)), .val (.ref b101), .val (.int (1 : Int32))] [(.int c1), (.int (1 : Int32)), (.ref b101)])) rfl (by rw [hml]; rfl) (argsL := [(.ref b101), (.int (1 : Int32)), (.int c1)]) (rest := []) (lenOf pd_8 rfl) rfl (by show 2 * 0 + _ ≤ _; exact Nat.le_of_eq rfl) (hb hby d25_20) (fun _ _ => ⟨rfl, rfl, (by decide : 1 + 0 ≤ _), (by decide : 6 + 0 ≤ _)⟩)
  dsimp only [Pt.U, Pt.locs, Pt.cells, Pt.slots] at X107 l107 y107 z107 st107 hQ107
  subst l107 y107 z107
  obtain ⟨rfl, N107, K107, V107⟩ := hQ107
  have Nf107 := Fr.app Nf104 N107
  have O107 := O104.keep K107 (allS ge_b101 all0)
  have KK107 := KK104.trans K107 (allS (Or.inr gk_b101) all0)
  refine own_go (S' := (T107.setTop (mkF m 18 #[.val (.ref cs), .val (.int (2 : Int32)), .val (.int (3 : Int32)), .val (.ref b101), .val (.int (2 : Int32))] [(.ref cs), (.int (2 : Int32)), (.ref b101)]))) (fun tq kq => st107 tq (XS.iinc X107.here hx rfl (hb hby d25_23) rfl (l' := #[.val (.ref cs), .val (.int (2 : Int32)), .val (.int (3 : Int32)), .val (.ref b101), .val (.int (1 : Int32))]) rfl (XS.iinc X107.here hx rfl (hb hby d25_26) rfl (l' := #[.val (.ref cs), .val (.int (2 : Int32)), .val (.int (3 : Int32)), .val (.ref b101), .val (.int (2 : Int32))]) rfl (XS.goto X107.here hx rfl (pc0 := 29) (pc' := 8) rfl (hb hby d25_29) (by decide) (by decide) (XS.iload X107.here hx rfl (hb hby d25_8) rfl (XS.iloadN X107.here hx rfl (hb hby d25_10) rfl (XS.icmpNo X107.here hx rfl (hb hby d25_11) rfl (tlt (by decide : (2 : Int32) < (3 : Int32))).2.1 (XS.aloadN X107.here hx rfl (hb hby d25_14) rfl rfl (XS.iload X107.here hx rfl (hb hby d25_15) rfl (XS.aloadN X107.here hx rfl (hb hby d25_17) rfl rfl kq)))))))))) ?_
  refine own_go (S' := (T107.setTop (mkF m 19 #[.val (.ref cs), .val (.int (2 : Int32)), .val (.int (3 : Int32)), .val (.ref b101), .val (.int (2 : Int32))] [(.int (2 : Int32)), (.ref cs), (.int (2 : Int32)), (.ref b101)]))) (fun tq kq => XS.iloadN X107.here hx rfl (hb hby d25_18) rfl kq) ?_
  have f108 := (f105.keep K107 (ninS ne_cs_b101 nin0))
  obtain ⟨cl109, Ar109, -, -, hin109, hat109⟩ := f108.at (j := (2 : Int32)) (v := (.int c2)) (by decide) rfl
  refine own_go (S' := (T107.setTop (mkF m 20 #[.val (.ref cs), .val (.int (2 : Int32)), .val (.int (3 : Int32)), .val (.ref b101), .val (.int (2 : Int32))] [(.int c2), (.int (2 : Int32)), (.ref b101)]))) (fun tq kq => X107.caload hx (j := (2 : Int32)) (v := (.int c2)) Ar109.1 (State.isArrayOf_alike hZ.alike Ar109.2.1) Ar109.2.2 hin109 hat109 (g := (mkF m 19 #[.val (.ref cs), .val (.int (2 : Int32)), .val (.int (3 : Int32)), .val (.ref b101), .val (.int (2 : Int32))] [(.int (2 : Int32)), (.ref cs), (.int (2 : Int32)), (.ref b101)])) rfl rfl (hb hby d25_19) tq kq) ?_
  obtain ⟨_, _, ⟨T110, L110, k110, n110⟩, -, X110, ⟨Lc110, hQ110, l110, y110, z110⟩, st110⟩ := Jvm.LawKit.callS X107 hx (y := (⟨"java/lang/StringUTF16", "putChar", "([BII)V"⟩ : MethodName)) hown (mvT hZ (hw _ (List.mem_of_getElem? (i := 127) rfl))) (mvT hZ (hw _ (List.mem_of_getElem? (i := 128) rfl))) (mvT hZ (hw _ (List.mem_of_getElem? (i := 60) rfl))) (mvT hZ (hw _ (List.mem_of_getElem? (i := 129) rfl))) (by decide) (backOf (W := 0) (pc3_2 l Z a0 hw [] T107.heap n0 O107 b101 kb101 c2 (.int (own_b0 c0)) (.int (own_b1 c0)) (.int (own_b0 c1)) (.int (own_b1 c1)) (.int (0 : Int32)) (.int (0 : Int32)) z fm SC hz SA SH SL SF hfm V107 ge_b101) hZ (hw _ (List.mem_of_getElem? (i := 129) rfl)) (hw _ (List.mem_of_getElem? (i := 60) rfl)) (by decide) (by decide)) (g := (mkF m 20 #[.val (.ref cs), .val (.int (2 : Int32)), .val (.int (3 : Int32)), .val (.ref b101), .val (.int (2 : Int32))] [(.int c2), (.int (2 : Int32)), (.ref b101)])) rfl (by rw [hml]; rfl) (argsL := [(.ref b101), (.int (2 : Int32)), (.int c2)]) (rest := []) (lenOf pd_8 rfl) rfl (by show 2 * 0 + _ ≤ _; exact Nat.le_of_eq rfl) (hb hby d25_20) (fun _ _ => ⟨rfl, rfl, (by decide : 1 + 0 ≤ _), (by decide : 6 + 0 ≤ _)⟩)
  dsimp only [Pt.U, Pt.locs, Pt.cells, Pt.slots] at X110 l110 y110 z110 st110 hQ110
  subst l110 y110 z110
  obtain ⟨rfl, N110, K110, V110⟩ := hQ110
  have Nf110 := Fr.app Nf107 N110
  have O110 := O107.keep K110 (allS ge_b101 all0)
  have KK110 := KK107.trans K110 (allS (Or.inr gk_b101) all0)
  refine own_go (S' := (T110.setTop (mkF m 33 #[.val (.ref cs), .val (.int (3 : Int32)), .val (.int (3 : Int32)), .val (.ref b101), .val (.int (3 : Int32))] [(.ref b101)]))) (fun tq kq => st110 tq (XS.iinc X110.here hx rfl (hb hby d25_23) rfl (l' := #[.val (.ref cs), .val (.int (3 : Int32)), .val (.int (3 : Int32)), .val (.ref b101), .val (.int (2 : Int32))]) rfl (XS.iinc X110.here hx rfl (hb hby d25_26) rfl (l' := #[.val (.ref cs), .val (.int (3 : Int32)), .val (.int (3 : Int32)), .val (.ref b101), .val (.int (3 : Int32))]) rfl (XS.goto X110.here hx rfl (pc0 := 29) (pc' := 8) rfl (hb hby d25_29) (by decide) (by decide) (XS.iload X110.here hx rfl (hb hby d25_8) rfl (XS.iloadN X110.here hx rfl (hb hby d25_10) rfl (XS.icmpYes X110.here hx rfl (pc0 := 11) (pc' := 32) rfl (hb hby d25_11) rfl (flt (by decide : ¬ ((3 : Int32) < (3 : Int32)))).2.1 (by decide) (by decide) (XS.aloadN X110.here hx rfl (hb hby d25_32) rfl rfl kq)))))))) ?_
  refine own_retA X110 hx hlk hret rfl rfl (hb hby d25_33) (by decide) (by decide) ?_
  exact ⟨b101, _, rfl, Nf110, KK110, gk_b101, V110⟩
theorem pn_gch3_0 : plainName "java/lang/StringUTF16" = true := by first | (simp [plainName, overriddenIn]; done) | decide +kernel
theorem ef_gch3_0 (m : MethodId) (b : Addr) (kb : ClassId) (x : Int32) (y : Int32) (v2 : Value) (v3 : Value) (v4 : Value) (v5 : Value) (z : Int32) (fm : Value) : entryFrame m #[(.ref b), (.int (0 : Int32))] 2 = mkF m 0 #[.val (.ref b), .val (.int (0 : Int32))] [] := by first | (simp [entryFrame, mkF, argsToLocals, Value.category]; done) | rfl
def Q_gch3_0 (Z : State) (h0 : Heap) (n0 : Nat) (b : Addr) (kb : ClassId) (x : Int32) (y : Int32) (v2 : Value) (v3 : Value) (v4 : Value) (v5 : Value) (z : Int32) (fm : Value) (v : Option Value) (h : Heap) (L : List Loc) : Prop := v = some (.int (own_gc x y)) ∧ Fr n0 L ∧ h = h0
set_option maxRecDepth 65536 in
set_option maxHeartbeats 40000000 in
theorem gch3_0 (l : Launch) (Z : State) (a0 : Array Value) (hw : ∀ d ∈ tables_1, d.before a0 Z = true) (ws : List Jvm.Cond) (h0 : Heap) (n0 : Nat) (O0 : Old Z n0 h0) (b : Addr) (kb : ClassId) (x : Int32) (y : Int32) (v2 : Value) (v3 : Value) (v4 : Value) (v5 : Value) (z : Int32) (fm : Value) (SC : Sta Z Z.heap "java/lang/String" "COMPACT_STRINGS" "Z" (.int z)) (hz : ¬ (z = (0 : Int32))) (SA : Sta Z Z.heap "java/lang/StringUTF16" "$assertionsDisabled" "Z" (.int (1 : Int32))) (SH : Sta Z Z.heap "java/lang/StringUTF16" "HI_BYTE_SHIFT" "I" (.int (0 : Int32))) (SL : Sta Z Z.heap "java/lang/StringUTF16" "LO_BYTE_SHIFT" "I" (.int (8 : Int32))) (SF : Sta Z Z.heap "jdk/internal/util/Preconditions" "SIOOBE_FORMATTER" "Ljava/util/function/BiFunction;" fm) (hfm : fm.isRef = true) (Vb : own_Ar Z h0 b kb .byte [(.int x), (.int y), v2, v3, v4, v5]) :
    MetFree l (⟨"java/lang/StringUTF16", "getChar", "([BI)C"⟩ : MethodName) (head1 (Jvm.Cond.code (⟨"java/lang/StringUTF16", "getChar", "([BI)C"⟩ : MethodName) jdk_52_method_5_code 2 (some .char) :: ws) ({ frames := 0, cells := 0, slots := 0, locals := 0 } : Room)) (fun aq U => aq = #[(.ref b), (.int (0 : Int32))] ∧ Z.Warmed39 U.vm ∧ U.heap = h0) (fun _ _ _ _ _ => True) (fun _ U oo U' => ∃ v L, oo = .returned v ∧ Q_gch3_0 Z h0 n0 b kb x y v2 v3 v4 v5 z fm v U'.heap L ∧ FrameEnd U oo U' L ({ frames := 0, cells := 0, slots := 0, locals := 0 } : Room).cells ({ frames := 0, cells := 0, slots := 0, locals := 0 } : Room).slots) := by
  refine MetFree.of_bodySF (plainFor_of_name pn_gch3_0) hisR ?_
  intro p e s m args below meth c s₁ Bd hml0 hP hK
  obtain ⟨rfl, hZ, hh⟩ := hP
  have hx := Bd.exec
  have hby := Bd.bytes
  have hml : c.maxLocals = 2 := hml0
  have hown : s.vm.findClass "java/lang/StringUTF16" = some m.cls := findClass_of_methodNamed Bd.named
  have hnm := (name_of_methodNamed Bd.named Bd.method).1
  have hlk := Bd.notSynchronized
  have hret := Bd.returns
  have X0 : Stand p l e ({ frames := 0, cells := 0, slots := 0, locals := 0 } : Room) s m #[(.ref b), (.int (0 : Int32))] below meth c s₁ [] 0 0 := Stand.of_body Bd
  have e0 : s₁.heap = h0 := by rw [← hh, Bd.state]; rfl
  have N0 := Fr.nil n0
  have K0 := Keep.refl h0 []
  refine own_go (S' := (s₁.setTop (mkF m 0 #[.val (.ref b), .val (.int (0 : Int32))] []))) (fun tq kq => castTop (ef_gch3_0 m b kb x y v2 v3 v4 v5 z fm) kq) ?_
  show own_G p e s below (Q_gch3_0 Z h0 n0 b kb x y v2 v3 v4 v5 z fm) _ _ _
  obtain ⟨T101, X101, e101, st101⟩ := getS2 X0 hx hZ hown (host := "") (Or.inl (hw _ (List.mem_of_getElem? (i := 130) rfl))) Via.refl e0 (SA.ext O0.2) (g := (mkF m 0 #[.val (.ref b), .val (.int (0 : Int32))] [])) rfl (hb hby d29_0)
  refine own_go (S' := (T101.setTop (mkF m 31 #[.val (.ref b), .val (.int (0 : Int32))] [(.int ((0 : Int32) <<< ((1 : Int32) &&& 31)))]))) (fun tq kq => st101 tq (XS.ifYes X101.here hx rfl (pc0 := 3) (pc' := 28) rfl (hb hby d29_3) rfl ((if0 _ _).trans (feq (by decide : ¬ ((1 : Int32) = (0 : Int32)))).2) (by decide) (by decide) (XS.iloadN X101.here hx rfl (hb hby d29_28) rfl (XS.iconst X101.here hx rfl (hb hby d29_29) (XS.ishl X101.here hx rfl (hb hby d29_30) rfl kq))))) ?_
  rw [show ((0 : Int32) <<< ((1 : Int32) &&& 31)) = (0 : Int32) from by decide]
  refine own_go (S' := (T101.setTop (mkF m 37 #[.val (.ref b), .val (.int (1 : Int32))] [(.int (0 : Int32)), (.ref b)]))) (fun tq kq => XS.istoreN X101.here hx rfl (hb hby d29_31) rfl (l' := #[.val (.ref b), .val (.int (0 : Int32))]) rfl (XS.aloadN X101.here hx rfl (hb hby d29_32) rfl rfl (XS.iloadN X101.here hx rfl (hb hby d29_33) rfl (XS.iinc X101.here hx rfl (hb hby d29_34) rfl (l' := #[.val (.ref b), .val (.int (1 : Int32))]) rfl kq)))) ?_
  obtain ⟨cl102, Ar102, -, -, hin102, hat102⟩ := Vb.at (j := (0 : Int32)) (v := (.int x)) (by decide) rfl
  refine own_go (S' := (T101.setTop (mkF m 42 #[.val (.ref b), .val (.int (1 : Int32))] [(.int (x &&& (255 : Int32)))]))) (fun tq kq => X101.baloadBytes hx (j := (0 : Int32)) (v := (.int x)) (by rw [e101]; exact Ar102.1) (State.isArrayOf_alike hZ.alike Ar102.2.1) Ar102.2.2 hin102 hat102 (g := (mkF m 37 #[.val (.ref b), .val (.int (1 : Int32))] [(.int (0 : Int32)), (.ref b)])) rfl rfl (hb hby d29_37) tq (XS.sipush X101.here hx rfl (hb hby d29_38) (XS.iand X101.here hx rfl (hb hby d29_41) rfl kq))) ?_
  obtain ⟨T103, X103, e103, st103⟩ := getS2 X101 hx hZ hown (host := "") (Or.inl (hw _ (List.mem_of_getElem? (i := 131) rfl))) Via.refl e101 (SH.ext O0.2) (g := (mkF m 42 #[.val (.ref b), .val (.int (1 : Int32))] [(.int (x &&& (255 : Int32)))])) rfl (hb hby d29_42)
  refine own_go (S' := (T103.setTop (mkF m 48 #[.val (.ref b), .val (.int (1 : Int32))] [(.int (1 : Int32)), (.ref b), (.int ((x &&& (255 : Int32)) <<< ((0 : Int32) &&& 31)))]))) (fun tq kq => st103 tq (XS.ishl X103.here hx rfl (hb hby d29_45) rfl (XS.aloadN X103.here hx rfl (hb hby d29_46) rfl rfl (XS.iloadN X103.here hx rfl (hb hby d29_47) rfl kq)))) ?_
  obtain ⟨cl104, Ar104, -, -, hin104, hat104⟩ := Vb.at (j := (1 : Int32)) (v := (.int y)) (by decide) rfl
  refine own_go (S' := (T103.setTop (mkF m 53 #[.val (.ref b), .val (.int (1 : Int32))] [(.int (y &&& (255 : Int32))), (.int ((x &&& (255 : Int32)) <<< ((0 : Int32) &&& 31)))]))) (fun tq kq => X103.baloadBytes hx (j := (1 : Int32)) (v := (.int y)) (by rw [e103]; exact Ar104.1) (State.isArrayOf_alike hZ.alike Ar104.2.1) Ar104.2.2 hin104 hat104 (g := (mkF m 48 #[.val (.ref b), .val (.int (1 : Int32))] [(.int (1 : Int32)), (.ref b), (.int ((x &&& (255 : Int32)) <<< ((0 : Int32) &&& 31)))])) rfl rfl (hb hby d29_48) tq (XS.sipush X103.here hx rfl (hb hby d29_49) (XS.iand X103.here hx rfl (hb hby d29_52) rfl kq))) ?_
  obtain ⟨T105, X105, e105, st105⟩ := getS2 X103 hx hZ hown (host := "") (Or.inl (hw _ (List.mem_of_getElem? (i := 132) rfl))) Via.refl e103 (SL.ext O0.2) (g := (mkF m 53 #[.val (.ref b), .val (.int (1 : Int32))] [(.int (y &&& (255 : Int32))), (.int ((x &&& (255 : Int32)) <<< ((0 : Int32) &&& 31)))])) rfl (hb hby d29_53)
  refine own_go (S' := (T105.setTop (mkF m 59 #[.val (.ref b), .val (.int (1 : Int32))] [(.int ((((x &&& (255 : Int32)) <<< ((0 : Int32) &&& 31)) ||| ((y &&& (255 : Int32)) <<< ((8 : Int32) &&& 31))).toUInt32.toUInt16.toUInt32.toInt32))]))) (fun tq kq => st105 tq (XS.ishl X105.here hx rfl (hb hby d29_56) rfl (XS.ior X105.here hx rfl (hb hby d29_57) rfl (XS.i2c X105.here hx rfl (hb hby d29_58) rfl kq)))) ?_
  refine own_retN X105 hx hlk hret (by simp) (hb hby d29_59) (by decide) (by decide) ?_
  exact ⟨rfl, N0, e105⟩
theorem pn_gch3_1 : plainName "java/lang/StringUTF16" = true := by first | (simp [plainName, overriddenIn]; done) | decide +kernel
theorem ef_gch3_1 (m : MethodId) (b : Addr) (kb : ClassId) (x : Int32) (y : Int32) (v0 : Value) (v1 : Value) (v4 : Value) (v5 : Value) (z : Int32) (fm : Value) : entryFrame m #[(.ref b), (.int (1 : Int32))] 2 = mkF m 0 #[.val (.ref b), .val (.int (1 : Int32))] [] := by first | (simp [entryFrame, mkF, argsToLocals, Value.category]; done) | rfl
def Q_gch3_1 (Z : State) (h0 : Heap) (n0 : Nat) (b : Addr) (kb : ClassId) (x : Int32) (y : Int32) (v0 : Value) (v1 : Value) (v4 : Value) (v5 : Value) (z : Int32) (fm : Value) (v : Option Value) (h : Heap) (L : List Loc) : Prop := v = some (.int (own_gc x y)) ∧ Fr n0 L ∧ h = h0
set_option maxRecDepth 65536 in
set_option maxHeartbeats 40000000 in
theorem gch3_1 (l : Launch) (Z : State) (a0 : Array Value) (hw : ∀ d ∈ tables_1, d.before a0 Z = true) (ws : List Jvm.Cond) (h0 : Heap) (n0 : Nat) (O0 : Old Z n0 h0) (b : Addr) (kb : ClassId) (x : Int32) (y : Int32) (v0 : Value) (v1 : Value) (v4 : Value) (v5 : Value) (z : Int32) (fm : Value) (SC : Sta Z Z.heap "java/lang/String" "COMPACT_STRINGS" "Z" (.int z)) (hz : ¬ (z = (0 : Int32))) (SA : Sta Z Z.heap "java/lang/StringUTF16" "$assertionsDisabled" "Z" (.int (1 : Int32))) (SH : Sta Z Z.heap "java/lang/StringUTF16" "HI_BYTE_SHIFT" "I" (.int (0 : Int32))) (SL : Sta Z Z.heap "java/lang/StringUTF16" "LO_BYTE_SHIFT" "I" (.int (8 : Int32))) (SF : Sta Z Z.heap "jdk/internal/util/Preconditions" "SIOOBE_FORMATTER" "Ljava/util/function/BiFunction;" fm) (hfm : fm.isRef = true) (Vb : own_Ar Z h0 b kb .byte [v0, v1, (.int x), (.int y), v4, v5]) :
    MetFree l (⟨"java/lang/StringUTF16", "getChar", "([BI)C"⟩ : MethodName) (head1 (Jvm.Cond.code (⟨"java/lang/StringUTF16", "getChar", "([BI)C"⟩ : MethodName) jdk_52_method_5_code 2 (some .char) :: ws) ({ frames := 0, cells := 0, slots := 0, locals := 0 } : Room)) (fun aq U => aq = #[(.ref b), (.int (1 : Int32))] ∧ Z.Warmed39 U.vm ∧ U.heap = h0) (fun _ _ _ _ _ => True) (fun _ U oo U' => ∃ v L, oo = .returned v ∧ Q_gch3_1 Z h0 n0 b kb x y v0 v1 v4 v5 z fm v U'.heap L ∧ FrameEnd U oo U' L ({ frames := 0, cells := 0, slots := 0, locals := 0 } : Room).cells ({ frames := 0, cells := 0, slots := 0, locals := 0 } : Room).slots) := by
  refine MetFree.of_bodySF (plainFor_of_name pn_gch3_1) hisR ?_
  intro p e s m args below meth c s₁ Bd hml0 hP hK
  obtain ⟨rfl, hZ, hh⟩ := hP
  have hx := Bd.exec
  have hby := Bd.bytes
  have hml : c.maxLocals = 2 := hml0
  have hown : s.vm.findClass "java/lang/StringUTF16" = some m.cls := findClass_of_methodNamed Bd.named
  have hnm := (name_of_methodNamed Bd.named Bd.method).1
  have hlk := Bd.notSynchronized
  have hret := Bd.returns
  have X0 : Stand p l e ({ frames := 0, cells := 0, slots := 0, locals := 0 } : Room) s m #[(.ref b), (.int (1 : Int32))] below meth c s₁ [] 0 0 := Stand.of_body Bd
  have e0 : s₁.heap = h0 := by rw [← hh, Bd.state]; rfl
  have N0 := Fr.nil n0
  have K0 := Keep.refl h0 []
  refine own_go (S' := (s₁.setTop (mkF m 0 #[.val (.ref b), .val (.int (1 : Int32))] []))) (fun tq kq => castTop (ef_gch3_1 m b kb x y v0 v1 v4 v5 z fm) kq) ?_
  show own_G p e s below (Q_gch3_1 Z h0 n0 b kb x y v0 v1 v4 v5 z fm) _ _ _
  obtain ⟨T101, X101, e101, st101⟩ := getS2 X0 hx hZ hown (host := "") (Or.inl (hw _ (List.mem_of_getElem? (i := 130) rfl))) Via.refl e0 (SA.ext O0.2) (g := (mkF m 0 #[.val (.ref b), .val (.int (1 : Int32))] [])) rfl (hb hby d29_0)
  refine own_go (S' := (T101.setTop (mkF m 31 #[.val (.ref b), .val (.int (1 : Int32))] [(.int ((1 : Int32) <<< ((1 : Int32) &&& 31)))]))) (fun tq kq => st101 tq (XS.ifYes X101.here hx rfl (pc0 := 3) (pc' := 28) rfl (hb hby d29_3) rfl ((if0 _ _).trans (feq (by decide : ¬ ((1 : Int32) = (0 : Int32)))).2) (by decide) (by decide) (XS.iloadN X101.here hx rfl (hb hby d29_28) rfl (XS.iconst X101.here hx rfl (hb hby d29_29) (XS.ishl X101.here hx rfl (hb hby d29_30) rfl kq))))) ?_
  rw [show ((1 : Int32) <<< ((1 : Int32) &&& 31)) = (2 : Int32) from by decide]
  refine own_go (S' := (T101.setTop (mkF m 37 #[.val (.ref b), .val (.int (3 : Int32))] [(.int (2 : Int32)), (.ref b)]))) (fun tq kq => XS.istoreN X101.here hx rfl (hb hby d29_31) rfl (l' := #[.val (.ref b), .val (.int (2 : Int32))]) rfl (XS.aloadN X101.here hx rfl (hb hby d29_32) rfl rfl (XS.iloadN X101.here hx rfl (hb hby d29_33) rfl (XS.iinc X101.here hx rfl (hb hby d29_34) rfl (l' := #[.val (.ref b), .val (.int (3 : Int32))]) rfl kq)))) ?_
  obtain ⟨cl102, Ar102, -, -, hin102, hat102⟩ := Vb.at (j := (2 : Int32)) (v := (.int x)) (by decide) rfl
  refine own_go (S' := (T101.setTop (mkF m 42 #[.val (.ref b), .val (.int (3 : Int32))] [(.int (x &&& (255 : Int32)))]))) (fun tq kq => X101.baloadBytes hx (j := (2 : Int32)) (v := (.int x)) (by rw [e101]; exact Ar102.1) (State.isArrayOf_alike hZ.alike Ar102.2.1) Ar102.2.2 hin102 hat102 (g := (mkF m 37 #[.val (.ref b), .val (.int (3 : Int32))] [(.int (2 : Int32)), (.ref b)])) rfl rfl (hb hby d29_37) tq (XS.sipush X101.here hx rfl (hb hby d29_38) (XS.iand X101.here hx rfl (hb hby d29_41) rfl kq))) ?_
  obtain ⟨T103, X103, e103, st103⟩ := getS2 X101 hx hZ hown (host := "") (Or.inl (hw _ (List.mem_of_getElem? (i := 131) rfl))) Via.refl e101 (SH.ext O0.2) (g := (mkF m 42 #[.val (.ref b), .val (.int (3 : Int32))] [(.int (x &&& (255 : Int32)))])) rfl (hb hby d29_42)
  refine own_go (S' := (T103.setTop (mkF m 48 #[.val (.ref b), .val (.int (3 : Int32))] [(.int (3 : Int32)), (.ref b), (.int ((x &&& (255 : Int32)) <<< ((0 : Int32) &&& 31)))]))) (fun tq kq => st103 tq (XS.ishl X103.here hx rfl (hb hby d29_45) rfl (XS.aloadN X103.here hx rfl (hb hby d29_46) rfl rfl (XS.iloadN X103.here hx rfl (hb hby d29_47) rfl kq)))) ?_
  obtain ⟨cl104, Ar104, -, -, hin104, hat104⟩ := Vb.at (j := (3 : Int32)) (v := (.int y)) (by decide) rfl
  refine own_go (S' := (T103.setTop (mkF m 53 #[.val (.ref b), .val (.int (3 : Int32))] [(.int (y &&& (255 : Int32))), (.int ((x &&& (255 : Int32)) <<< ((0 : Int32) &&& 31)))]))) (fun tq kq => X103.baloadBytes hx (j := (3 : Int32)) (v := (.int y)) (by rw [e103]; exact Ar104.1) (State.isArrayOf_alike hZ.alike Ar104.2.1) Ar104.2.2 hin104 hat104 (g := (mkF m 48 #[.val (.ref b), .val (.int (3 : Int32))] [(.int (3 : Int32)), (.ref b), (.int ((x &&& (255 : Int32)) <<< ((0 : Int32) &&& 31)))])) rfl rfl (hb hby d29_48) tq (XS.sipush X103.here hx rfl (hb hby d29_49) (XS.iand X103.here hx rfl (hb hby d29_52) rfl kq))) ?_
  obtain ⟨T105, X105, e105, st105⟩ := getS2 X103 hx hZ hown (host := "") (Or.inl (hw _ (List.mem_of_getElem? (i := 132) rfl))) Via.refl e103 (SL.ext O0.2) (g := (mkF m 53 #[.val (.ref b), .val (.int (3 : Int32))] [(.int (y &&& (255 : Int32))), (.int ((x &&& (255 : Int32)) <<< ((0 : Int32) &&& 31)))])) rfl (hb hby d29_53)
  refine own_go (S' := (T105.setTop (mkF m 59 #[.val (.ref b), .val (.int (3 : Int32))] [(.int ((((x &&& (255 : Int32)) <<< ((0 : Int32) &&& 31)) ||| ((y &&& (255 : Int32)) <<< ((8 : Int32) &&& 31))).toUInt32.toUInt16.toUInt32.toInt32))]))) (fun tq kq => st105 tq (XS.ishl X105.here hx rfl (hb hby d29_56) rfl (XS.ior X105.here hx rfl (hb hby d29_57) rfl (XS.i2c X105.here hx rfl (hb hby d29_58) rfl kq)))) ?_
  refine own_retN X105 hx hlk hret (by simp) (hb hby d29_59) (by decide) (by decide) ?_
  exact ⟨rfl, N0, e105⟩
theorem pn_gch3_2 : plainName "java/lang/StringUTF16" = true := by first | (simp [plainName, overriddenIn]; done) | decide +kernel
theorem ef_gch3_2 (m : MethodId) (b : Addr) (kb : ClassId) (x : Int32) (y : Int32) (v0 : Value) (v1 : Value) (v2 : Value) (v3 : Value) (z : Int32) (fm : Value) : entryFrame m #[(.ref b), (.int (2 : Int32))] 2 = mkF m 0 #[.val (.ref b), .val (.int (2 : Int32))] [] := by first | (simp [entryFrame, mkF, argsToLocals, Value.category]; done) | rfl
def Q_gch3_2 (Z : State) (h0 : Heap) (n0 : Nat) (b : Addr) (kb : ClassId) (x : Int32) (y : Int32) (v0 : Value) (v1 : Value) (v2 : Value) (v3 : Value) (z : Int32) (fm : Value) (v : Option Value) (h : Heap) (L : List Loc) : Prop := v = some (.int (own_gc x y)) ∧ Fr n0 L ∧ h = h0
set_option maxRecDepth 65536 in
set_option maxHeartbeats 40000000 in
theorem gch3_2 (l : Launch) (Z : State) (a0 : Array Value) (hw : ∀ d ∈ tables_1, d.before a0 Z = true) (ws : List Jvm.Cond) (h0 : Heap) (n0 : Nat) (O0 : Old Z n0 h0) (b : Addr) (kb : ClassId) (x : Int32) (y : Int32) (v0 : Value) (v1 : Value) (v2 : Value) (v3 : Value) (z : Int32) (fm : Value) (SC : Sta Z Z.heap "java/lang/String" "COMPACT_STRINGS" "Z" (.int z)) (hz : ¬ (z = (0 : Int32))) (SA : Sta Z Z.heap "java/lang/StringUTF16" "$assertionsDisabled" "Z" (.int (1 : Int32))) (SH : Sta Z Z.heap "java/lang/StringUTF16" "HI_BYTE_SHIFT" "I" (.int (0 : Int32))) (SL : Sta Z Z.heap "java/lang/StringUTF16" "LO_BYTE_SHIFT" "I" (.int (8 : Int32))) (SF : Sta Z Z.heap "jdk/internal/util/Preconditions" "SIOOBE_FORMATTER" "Ljava/util/function/BiFunction;" fm) (hfm : fm.isRef = true) (Vb : own_Ar Z h0 b kb .byte [v0, v1, v2, v3, (.int x), (.int y)]) :
    MetFree l (⟨"java/lang/StringUTF16", "getChar", "([BI)C"⟩ : MethodName) (head1 (Jvm.Cond.code (⟨"java/lang/StringUTF16", "getChar", "([BI)C"⟩ : MethodName) jdk_52_method_5_code 2 (some .char) :: ws) ({ frames := 0, cells := 0, slots := 0, locals := 0 } : Room)) (fun aq U => aq = #[(.ref b), (.int (2 : Int32))] ∧ Z.Warmed39 U.vm ∧ U.heap = h0) (fun _ _ _ _ _ => True) (fun _ U oo U' => ∃ v L, oo = .returned v ∧ Q_gch3_2 Z h0 n0 b kb x y v0 v1 v2 v3 z fm v U'.heap L ∧ FrameEnd U oo U' L ({ frames := 0, cells := 0, slots := 0, locals := 0 } : Room).cells ({ frames := 0, cells := 0, slots := 0, locals := 0 } : Room).slots) := by
  refine MetFree.of_bodySF (plainFor_of_name pn_gch3_2) hisR ?_
  intro p e s m args below meth c s₁ Bd hml0 hP hK
  obtain ⟨rfl, hZ, hh⟩ := hP
  have hx := Bd.exec
  have hby := Bd.bytes
  have hml : c.maxLocals = 2 := hml0
  have hown : s.vm.findClass "java/lang/StringUTF16" = some m.cls := findClass_of_methodNamed Bd.named
  have hnm := (name_of_methodNamed Bd.named Bd.method).1
  have hlk := Bd.notSynchronized
  have hret := Bd.returns
  have X0 : Stand p l e ({ frames := 0, cells := 0, slots := 0, locals := 0 } : Room) s m #[(.ref b), (.int (2 : Int32))] below meth c s₁ [] 0 0 := Stand.of_body Bd
  have e0 : s₁.heap = h0 := by rw [← hh, Bd.state]; rfl
  have N0 := Fr.nil n0
  have K0 := Keep.refl h0 []
  refine own_go (S' := (s₁.setTop (mkF m 0 #[.val (.ref b), .val (.int (2 : Int32))] []))) (fun tq kq => castTop (ef_gch3_2 m b kb x y v0 v1 v2 v3 z fm) kq) ?_
  show own_G p e s below (Q_gch3_2 Z h0 n0 b kb x y v0 v1 v2 v3 z fm) _ _ _
  obtain ⟨T101, X101, e101, st101⟩ := getS2 X0 hx hZ hown (host := "") (Or.inl (hw _ (List.mem_of_getElem? (i := 130) rfl))) Via.refl e0 (SA.ext O0.2) (g := (mkF m 0 #[.val (.ref b), .val (.int (2 : Int32))] [])) rfl (hb hby d29_0)
  refine own_go (S' := (T101.setTop (mkF m 31 #[.val (.ref b), .val (.int (2 : Int32))] [(.int ((2 : Int32) <<< ((1 : Int32) &&& 31)))]))) (fun tq kq => st101 tq (XS.ifYes X101.here hx rfl (pc0 := 3) (pc' := 28) rfl (hb hby d29_3) rfl ((if0 _ _).trans (feq (by decide : ¬ ((1 : Int32) = (0 : Int32)))).2) (by decide) (by decide) (XS.iloadN X101.here hx rfl (hb hby d29_28) rfl (XS.iconst X101.here hx rfl (hb hby d29_29) (XS.ishl X101.here hx rfl (hb hby d29_30) rfl kq))))) ?_
  rw [show ((2 : Int32) <<< ((1 : Int32) &&& 31)) = (4 : Int32) from by decide]
  refine own_go (S' := (T101.setTop (mkF m 37 #[.val (.ref b), .val (.int (5 : Int32))] [(.int (4 : Int32)), (.ref b)]))) (fun tq kq => XS.istoreN X101.here hx rfl (hb hby d29_31) rfl (l' := #[.val (.ref b), .val (.int (4 : Int32))]) rfl (XS.aloadN X101.here hx rfl (hb hby d29_32) rfl rfl (XS.iloadN X101.here hx rfl (hb hby d29_33) rfl (XS.iinc X101.here hx rfl (hb hby d29_34) rfl (l' := #[.val (.ref b), .val (.int (5 : Int32))]) rfl kq)))) ?_
  obtain ⟨cl102, Ar102, -, -, hin102, hat102⟩ := Vb.at (j := (4 : Int32)) (v := (.int x)) (by decide) rfl
  refine own_go (S' := (T101.setTop (mkF m 42 #[.val (.ref b), .val (.int (5 : Int32))] [(.int (x &&& (255 : Int32)))]))) (fun tq kq => X101.baloadBytes hx (j := (4 : Int32)) (v := (.int x)) (by rw [e101]; exact Ar102.1) (State.isArrayOf_alike hZ.alike Ar102.2.1) Ar102.2.2 hin102 hat102 (g := (mkF m 37 #[.val (.ref b), .val (.int (5 : Int32))] [(.int (4 : Int32)), (.ref b)])) rfl rfl (hb hby d29_37) tq (XS.sipush X101.here hx rfl (hb hby d29_38) (XS.iand X101.here hx rfl (hb hby d29_41) rfl kq))) ?_
  obtain ⟨T103, X103, e103, st103⟩ := getS2 X101 hx hZ hown (host := "") (Or.inl (hw _ (List.mem_of_getElem? (i := 131) rfl))) Via.refl e101 (SH.ext O0.2) (g := (mkF m 42 #[.val (.ref b), .val (.int (5 : Int32))] [(.int (x &&& (255 : Int32)))])) rfl (hb hby d29_42)
  refine own_go (S' := (T103.setTop (mkF m 48 #[.val (.ref b), .val (.int (5 : Int32))] [(.int (5 : Int32)), (.ref b), (.int ((x &&& (255 : Int32)) <<< ((0 : Int32) &&& 31)))]))) (fun tq kq => st103 tq (XS.ishl X103.here hx rfl (hb hby d29_45) rfl (XS.aloadN X103.here hx rfl (hb hby d29_46) rfl rfl (XS.iloadN X103.here hx rfl (hb hby d29_47) rfl kq)))) ?_
  obtain ⟨cl104, Ar104, -, -, hin104, hat104⟩ := Vb.at (j := (5 : Int32)) (v := (.int y)) (by decide) rfl
  refine own_go (S' := (T103.setTop (mkF m 53 #[.val (.ref b), .val (.int (5 : Int32))] [(.int (y &&& (255 : Int32))), (.int ((x &&& (255 : Int32)) <<< ((0 : Int32) &&& 31)))]))) (fun tq kq => X103.baloadBytes hx (j := (5 : Int32)) (v := (.int y)) (by rw [e103]; exact Ar104.1) (State.isArrayOf_alike hZ.alike Ar104.2.1) Ar104.2.2 hin104 hat104 (g := (mkF m 48 #[.val (.ref b), .val (.int (5 : Int32))] [(.int (5 : Int32)), (.ref b), (.int ((x &&& (255 : Int32)) <<< ((0 : Int32) &&& 31)))])) rfl rfl (hb hby d29_48) tq (XS.sipush X103.here hx rfl (hb hby d29_49) (XS.iand X103.here hx rfl (hb hby d29_52) rfl kq))) ?_
  obtain ⟨T105, X105, e105, st105⟩ := getS2 X103 hx hZ hown (host := "") (Or.inl (hw _ (List.mem_of_getElem? (i := 132) rfl))) Via.refl e103 (SL.ext O0.2) (g := (mkF m 53 #[.val (.ref b), .val (.int (5 : Int32))] [(.int (y &&& (255 : Int32))), (.int ((x &&& (255 : Int32)) <<< ((0 : Int32) &&& 31)))])) rfl (hb hby d29_53)
  refine own_go (S' := (T105.setTop (mkF m 59 #[.val (.ref b), .val (.int (5 : Int32))] [(.int ((((x &&& (255 : Int32)) <<< ((0 : Int32) &&& 31)) ||| ((y &&& (255 : Int32)) <<< ((8 : Int32) &&& 31))).toUInt32.toUInt16.toUInt32.toInt32))]))) (fun tq kq => st105 tq (XS.ishl X105.here hx rfl (hb hby d29_56) rfl (XS.ior X105.here hx rfl (hb hby d29_57) rfl (XS.i2c X105.here hx rfl (hb hby d29_58) rfl kq)))) ?_
  refine own_retN X105 hx hlk hret (by simp) (hb hby d29_59) (by decide) (by decide) ?_
  exact ⟨rfl, N0, e105⟩
theorem pn_cmpb3 : plainName "java/lang/StringUTF16" = true := by first | (simp [plainName, overriddenIn]; done) | decide +kernel
theorem ef_cmpb3 (m : MethodId) (cs : Addr) (kcs : ClassId) (c0 : Int32) (c1 : Int32) (c2 : Int32) (z : Int32) (fm : Value) : entryFrame m #[(.ref cs), (.int (0 : Int32)), (.int (3 : Int32))] 6 = mkF m 0 #[.val (.ref cs), .val (.int (0 : Int32)), .val (.int (3 : Int32)), .unset, .unset, .unset] [] := by first | (simp [entryFrame, mkF, argsToLocals, Value.category]; done) | rfl
def Q_cmpb3 (Z : State) (h0 : Heap) (n0 : Nat) (cs : Addr) (kcs : ClassId) (c0 : Int32) (c1 : Int32) (c2 : Int32) (z : Int32) (fm : Value) (v : Option Value) (h : Heap) (L : List Loc) : Prop := ∃ (b : Addr) (kb : ClassId) (vs : List Value), v = some (.ref b) ∧ Fr n0 L ∧ Keep h0 h [] ∧ h0.size ≤ b ∧ own_Ar Z h b kb .byte vs ∧ (vs.length = 3 ∨ vs.length = 6)
set_option maxRecDepth 65536 in
set_option maxHeartbeats 40000000 in
theorem cmpb3 (l : Launch) (Z : State) (a0 : Array Value) (hw : ∀ d ∈ tables_1, d.before a0 Z = true) (ws : List Jvm.Cond) (h0 : Heap) (n0 : Nat) (O0 : Old Z n0 h0) (cs : Addr) (kcs : ClassId) (c0 : Int32) (c1 : Int32) (c2 : Int32) (z : Int32) (fm : Value) (SC : Sta Z Z.heap "java/lang/String" "COMPACT_STRINGS" "Z" (.int z)) (hz : ¬ (z = (0 : Int32))) (SA : Sta Z Z.heap "java/lang/StringUTF16" "$assertionsDisabled" "Z" (.int (1 : Int32))) (SH : Sta Z Z.heap "java/lang/StringUTF16" "HI_BYTE_SHIFT" "I" (.int (0 : Int32))) (SL : Sta Z Z.heap "java/lang/StringUTF16" "LO_BYTE_SHIFT" "I" (.int (8 : Int32))) (SF : Sta Z Z.heap "jdk/internal/util/Preconditions" "SIOOBE_FORMATTER" "Ljava/util/function/BiFunction;" fm) (hfm : fm.isRef = true) (Vcs : own_Ar Z h0 cs kcs .char [(.int c0), (.int c1), (.int c2)]) (hr0 : 0 ≤ c0.toInt ∧ c0.toInt < 65536) (hr1 : 0 ≤ c1.toInt ∧ c1.toInt < 65536) (hr2 : 0 ≤ c2.toInt ∧ c2.toInt < 65536) :
    MetFree l (⟨"java/lang/StringUTF16", "compress", "([CII)[B"⟩ : MethodName) (head1 (Jvm.Cond.code (⟨"java/lang/StringUTF16", "compress", "([CII)[B"⟩ : MethodName) jdk_52_method_16_code 6 (some (.array .byte)) :: ws) ({ frames := 3, cells := 2, slots := 9, locals := 40 } : Room)) (fun aq U => aq = #[(.ref cs), (.int (0 : Int32)), (.int (3 : Int32))] ∧ Z.Warmed39 U.vm ∧ U.heap = h0) (fun _ _ _ _ _ => True) (fun _ U oo U' => ∃ v L, oo = .returned v ∧ Q_cmpb3 Z h0 n0 cs kcs c0 c1 c2 z fm v U'.heap L ∧ FrameEnd U oo U' L ({ frames := 3, cells := 2, slots := 9, locals := 40 } : Room).cells ({ frames := 3, cells := 2, slots := 9, locals := 40 } : Room).slots) := by
  refine MetFree.of_bodySF (plainFor_of_name pn_cmpb3) hisR ?_
  intro p e s m args below meth c s₁ Bd hml0 hP hK
  obtain ⟨rfl, hZ, hh⟩ := hP
  have hx := Bd.exec
  have hby := Bd.bytes
  have hml : c.maxLocals = 6 := hml0
  have hown : s.vm.findClass "java/lang/StringUTF16" = some m.cls := findClass_of_methodNamed Bd.named
  have hnm := (name_of_methodNamed Bd.named Bd.method).1
  have hlk := Bd.notSynchronized
  have hret := Bd.returns
  have X0 : Stand p l e ({ frames := 3, cells := 2, slots := 9, locals := 40 } : Room) s m #[(.ref cs), (.int (0 : Int32)), (.int (3 : Int32))] below meth c s₁ [] 0 0 := Stand.of_body Bd
  have e0 : s₁.heap = h0 := by rw [← hh, Bd.state]; rfl
  have N0 := Fr.nil n0
  have K0 := Keep.refl h0 []
  refine own_go (S' := (s₁.setTop (mkF m 0 #[.val (.ref cs), .val (.int (0 : Int32)), .val (.int (3 : Int32)), .unset, .unset, .unset] []))) (fun tq kq => castTop (ef_cmpb3 m cs kcs c0 c1 c2 z fm) kq) ?_
  show own_G p e s below (Q_cmpb3 Z h0 n0 cs kcs c0 c1 c2 z fm) _ _ _
  refine own_go (S' := (s₁.setTop (mkF m 1 #[.val (.ref cs), .val (.int (0 : Int32)), .val (.int (3 : Int32)), .unset, .unset, .unset] [(.int (3 : Int32))]))) (fun tq kq => XS.iloadN X0.here hx rfl (hb hby d11_0) rfl kq) ?_
  obtain ⟨T101, h101, k101, X101, e101, E101, A101, st101⟩ := newP X0 hx hZ (hw _ (List.mem_of_getElem? (i := 21) rfl)) e0 (g := (mkF m 1 #[.val (.ref cs), .val (.int (0 : Int32)), .val (.int (3 : Int32)), .unset, .unset, .unset] [(.int (3 : Int32))])) rfl (hb hby d11_1) rfl (by decide) (cap := 3) (by decide) (by decide) (by decide) (by decide)
  obtain ⟨b101, g101⟩ : ∃ z, z = h0.size := ⟨_, rfl⟩
  rw [← g101] at A101 st101
  have ne_cs_b101 : cs ≠ b101 := Nat.ne_of_lt (Nat.lt_of_lt_of_le Vcs.lt (Nat.le_of_eq g101.symm))
  have ge_b101 : n0 ≤ b101 := Nat.le_trans (own_osz O0) (Nat.le_of_eq g101.symm)
  have gk_b101 : h0.size ≤ b101 := Nat.le_trans K0.1 (Nat.le_of_eq g101.symm)
  have V101 : own_Ar Z h101 b101 k101 .byte [(.int (0 : Int32)), (.int (0 : Int32)), (.int (0 : Int32))] := own_Ar.new A101 (by decide)
  have O101 := O0.ext E101
  have K101 := K0.ext E101
  refine own_go (S' := (T101.setTop (mkF m 9 #[.val (.ref cs), .val (.int (0 : Int32)), .val (.int (3 : Int32)), .val (.ref b101), .unset, .unset] [(.int (3 : Int32)), (.int (0 : Int32)), (.ref b101), (.int (0 : Int32)), (.ref cs)]))) (fun tq kq => st101 tq (XS.astoreN X101.here hx rfl (hb hby d11_3) rfl rfl (l' := #[.val (.ref cs), .val (.int (0 : Int32)), .val (.int (3 : Int32)), .val (.ref b101), .unset, .unset]) rfl (XS.aloadN X101.here hx rfl (hb hby d11_4) rfl rfl (XS.iloadN X101.here hx rfl (hb hby d11_5) rfl (XS.aloadN X101.here hx rfl (hb hby d11_6) rfl rfl (XS.iconst X101.here hx rfl (hb hby d11_7) (XS.iloadN X101.here hx rfl (hb hby d11_8) rfl kq))))))) ?_
  have f102 := (Vcs.ext E101)
  obtain ⟨_, _, ⟨T103, L103, k103, n103⟩, -, X103, ⟨Lc103, hQ103, l103, y103, z103⟩, st103⟩ := Jvm.LawKit.callS X101 hx (y := (⟨"java/lang/StringUTF16", "compress", "([CI[BII)I"⟩ : MethodName)) hown (mvT hZ (hw _ (List.mem_of_getElem? (i := 62) rfl))) (mvT hZ (hw _ (List.mem_of_getElem? (i := 63) rfl))) (mvT hZ (hw _ (List.mem_of_getElem? (i := 60) rfl))) (mvT hZ (hw _ (List.mem_of_getElem? (i := 64) rfl))) (by decide) (backOf (W := 0) (cmpr3 l Z a0 hw [] h101 n0 O101 cs kcs b101 k101 c0 c1 c2 (.int (0 : Int32)) (.int (0 : Int32)) (.int (0 : Int32)) z fm SC hz SA SH SL SF hfm f102 V101 ge_b101 ne_cs_b101) hZ (hw _ (List.mem_of_getElem? (i := 64) rfl)) (hw _ (List.mem_of_getElem? (i := 60) rfl)) (by decide) (by decide)) (g := (mkF m 9 #[.val (.ref cs), .val (.int (0 : Int32)), .val (.int (3 : Int32)), .val (.ref b101), .unset, .unset] [(.int (3 : Int32)), (.int (0 : Int32)), (.ref b101), (.int (0 : Int32)), (.ref cs)])) rfl (by rw [hml]; rfl) (argsL := [(.ref cs), (.int (0 : Int32)), (.ref b101), (.int (0 : Int32)), (.int (3 : Int32))]) (rest := []) (lenOf pd_14 rfl) rfl (by show 2 * 0 + _ ≤ _; exact Nat.le_of_eq rfl) (hb hby d11_9) (fun _ _ => ⟨rfl, e101, (by decide : 1 + 0 ≤ _), (by decide : 3 + 0 ≤ _)⟩)
  dsimp only [Pt.U, Pt.locs, Pt.cells, Pt.slots] at X103 l103 y103 z103 st103 hQ103
  subst l103 y103 z103
  obtain ⟨rfl, N103, K103, vs103, V103, hl103⟩ := hQ103
  have Nf103 := Fr.app N0 N103
  have O103 := O101.keep K103 (allS ge_b101 all0)
  have KK103 := K101.trans K103 (allS (Or.inr gk_b101) all0)
  refine own_go (S' := (T103.setTop (mkF m 12 #[.val (.ref cs), .val (.int (0 : Int32)), .val (.int (3 : Int32)), .val (.ref b101), .unset, .unset] [(.int (own_cnt3 c0 c1 c2))]))) (fun tq kq => st103 tq kq) ?_
  by_cases hg0 : (255 : Int32) < c0
  · rw [show (own_cnt3 c0 c1 c2) = (0 : Int32) from by simp only [own_cnt3, if_pos hg0]]
    refine own_go (S' := (T103.setTop (mkF m 23 #[.val (.ref cs), .val (.int (0 : Int32)), .val (.int (3 : Int32)), .val (.ref b101), .val (.int (0 : Int32)), .unset] [(.int (3 : Int32)), (.int (0 : Int32)), (.ref cs)]))) (fun tq kq => XS.istore X103.here hx rfl (hb hby d11_12) rfl (l' := #[.val (.ref cs), .val (.int (0 : Int32)), .val (.int (3 : Int32)), .val (.ref b101), .val (.int (0 : Int32)), .unset]) rfl (XS.iload X103.here hx rfl (hb hby d11_14) rfl (XS.iloadN X103.here hx rfl (hb hby d11_16) rfl (XS.icmpNo X103.here hx rfl (hb hby d11_17) rfl (feq (by decide : ¬ ((0 : Int32) = (3 : Int32)))).1 (XS.aloadN X103.here hx rfl (hb hby d11_20) rfl rfl (XS.iloadN X103.here hx rfl (hb hby d11_21) rfl (XS.iloadN X103.here hx rfl (hb hby d11_22) rfl kq))))))) ?_
    have f104 := (f102.keep K103 (ninS ne_cs_b101 nin0))
    obtain ⟨_, _, ⟨T105, L105, k105, n105⟩, -, X105, ⟨Lc105, hQ105, l105, y105, z105⟩, st105⟩ := Jvm.LawKit.callS X103 hx (y := (⟨"java/lang/StringUTF16", "toBytes", "([CII)[B"⟩ : MethodName)) hown (mvT hZ (hw _ (List.mem_of_getElem? (i := 117) rfl))) (mvT hZ (hw _ (List.mem_of_getElem? (i := 118) rfl))) (mvT hZ (hw _ (List.mem_of_getElem? (i := 60) rfl))) (mvT hZ (hw _ (List.mem_of_getElem? (i := 119) rfl))) (by decide) (backOf (W := 0) (u16a3 l Z a0 hw [] T103.heap n0 O103 cs kcs c0 c1 c2 z fm SC hz SA SH SL SF hfm f104) hZ (hw _ (List.mem_of_getElem? (i := 119) rfl)) (hw _ (List.mem_of_getElem? (i := 60) rfl)) (by decide) (by decide)) (g := (mkF m 23 #[.val (.ref cs), .val (.int (0 : Int32)), .val (.int (3 : Int32)), .val (.ref b101), .val (.int (0 : Int32)), .unset] [(.int (3 : Int32)), (.int (0 : Int32)), (.ref cs)])) rfl (by rw [hml]; rfl) (argsL := [(.ref cs), (.int (0 : Int32)), (.int (3 : Int32))]) (rest := []) (lenOf pd_15 rfl) rfl (by show 2 * 0 + _ ≤ _; exact Nat.le_of_eq rfl) (hb hby d11_23) (fun _ _ => ⟨rfl, rfl, (by decide : 1 + 1 ≤ _), (by decide : 3 + 6 ≤ _)⟩)
    dsimp only [Pt.U, Pt.locs, Pt.cells, Pt.slots] at X105 l105 y105 z105 st105 hQ105
    subst l105 y105 z105
    obtain ⟨b105, kb105, rfl, N105, K105, gb105, V105⟩ := hQ105
    have Nf105 := Fr.app Nf103 N105
    have O105 := O103.keep K105 all0
    have KK105 := KK103.trans K105 all0
    have ne_b101_b105 : b101 ≠ b105 := Nat.ne_of_lt (Nat.lt_of_lt_of_le V103.lt gb105)
    have ne_cs_b105 : cs ≠ b105 := Nat.ne_of_lt (Nat.lt_of_lt_of_le f104.lt gb105)
    have ge_b105 : n0 ≤ b105 := Nat.le_trans (own_osz O103) gb105
    have gk_b105 : h0.size ≤ b105 := Nat.le_trans KK103.1 gb105
    refine own_go (S' := (T105.setTop (mkF m 32 #[.val (.ref cs), .val (.int (0 : Int32)), .val (.int (3 : Int32)), .val (.ref b101), .val (.int (0 : Int32)), .val (.ref b105)] [(.int (0 : Int32)), (.ref b105)]))) (fun tq kq => st105 tq (XS.astore X105.here hx rfl (hb hby d11_26) rfl rfl (l' := #[.val (.ref cs), .val (.int (0 : Int32)), .val (.int (3 : Int32)), .val (.ref b101), .val (.int (0 : Int32)), .val (.ref b105)]) rfl (XS.aload X105.here hx rfl (hb hby d11_28) rfl rfl (XS.iload X105.here hx rfl (hb hby d11_30) rfl kq)))) ?_
    obtain ⟨_, _, ⟨T106, L106, k106, n106⟩, -, X106, ⟨Lc106, hQ106, l106, y106, z106⟩, st106⟩ := Jvm.LawKit.callS X105 hx (y := (⟨"java/lang/StringUTF16", "getChar", "([BI)C"⟩ : MethodName)) hown (mvT hZ (hw _ (List.mem_of_getElem? (i := 133) rfl))) (mvT hZ (hw _ (List.mem_of_getElem? (i := 134) rfl))) (mvT hZ (hw _ (List.mem_of_getElem? (i := 60) rfl))) (mvT hZ (hw _ (List.mem_of_getElem? (i := 135) rfl))) (by decide) (backOf (W := 0) (gch3_0 l Z a0 hw [] T105.heap n0 O105 b105 kb105 (own_b0 c0) (own_b1 c0) (.int (own_b0 c1)) (.int (own_b1 c1)) (.int (own_b0 c2)) (.int (own_b1 c2)) z fm SC hz SA SH SL SF hfm V105) hZ (hw _ (List.mem_of_getElem? (i := 135) rfl)) (hw _ (List.mem_of_getElem? (i := 60) rfl)) (by decide) (by decide)) (g := (mkF m 32 #[.val (.ref cs), .val (.int (0 : Int32)), .val (.int (3 : Int32)), .val (.ref b101), .val (.int (0 : Int32)), .val (.ref b105)] [(.int (0 : Int32)), (.ref b105)])) rfl (by rw [hml]; rfl) (argsL := [(.ref b105), (.int (0 : Int32))]) (rest := []) (lenOf pd_5 rfl) rfl (by show 2 * 0 + _ ≤ _; exact Nat.le_of_eq rfl) (hb hby d11_32) (fun _ _ => ⟨rfl, rfl, (by decide : 2 + 0 ≤ _), (by decide : 9 + 0 ≤ _)⟩)
    dsimp only [Pt.U, Pt.locs, Pt.cells, Pt.slots] at X106 l106 y106 z106 st106 hQ106
    subst l106 y106 z106
    obtain ⟨rfl, N106, eh106⟩ := hQ106
    have Nf106 := Fr.app Nf105 N106
    refine own_go (S' := (T106.setTop (mkF m 56 #[.val (.ref cs), .val (.int (0 : Int32)), .val (.int (3 : Int32)), .val (.ref b101), .val (.int (0 : Int32)), .val (.ref b105)] [(.ref b105)]))) (fun tq kq => st106 tq (XS.sipush X106.here hx rfl (hb hby d11_35) (XS.icmpYes X106.here hx rfl (pc0 := 38) (pc' := 54) rfl (hb hby d11_38) rfl (tlt (by rw [own_gcc hr0.1 hr0.2]; exact hg0)).2.2.1 (by decide) (by decide) (XS.aload X106.here hx rfl (hb hby d11_54) rfl rfl kq)))) ?_
    refine own_retA X106 hx hlk hret rfl rfl (hb hby d11_56) (by decide) (by decide) ?_
    rw [eh106]
    exact ⟨b105, _, _, rfl, Nf106, KK105, gk_b105, V105, Or.inr rfl⟩
  · by_cases hg1 : (255 : Int32) < c1
    · rw [show (own_cnt3 c0 c1 c2) = (1 : Int32) from by simp only [own_cnt3, if_neg hg0, if_pos hg1]]
      refine own_go (S' := (T103.setTop (mkF m 23 #[.val (.ref cs), .val (.int (0 : Int32)), .val (.int (3 : Int32)), .val (.ref b101), .val (.int (1 : Int32)), .unset] [(.int (3 : Int32)), (.int (0 : Int32)), (.ref cs)]))) (fun tq kq => XS.istore X103.here hx rfl (hb hby d11_12) rfl (l' := #[.val (.ref cs), .val (.int (0 : Int32)), .val (.int (3 : Int32)), .val (.ref b101), .val (.int (1 : Int32)), .unset]) rfl (XS.iload X103.here hx rfl (hb hby d11_14) rfl (XS.iloadN X103.here hx rfl (hb hby d11_16) rfl (XS.icmpNo X103.here hx rfl (hb hby d11_17) rfl (feq (by decide : ¬ ((1 : Int32) = (3 : Int32)))).1 (XS.aloadN X103.here hx rfl (hb hby d11_20) rfl rfl (XS.iloadN X103.here hx rfl (hb hby d11_21) rfl (XS.iloadN X103.here hx rfl (hb hby d11_22) rfl kq))))))) ?_
      have f107 := (f102.keep K103 (ninS ne_cs_b101 nin0))
      obtain ⟨_, _, ⟨T108, L108, k108, n108⟩, -, X108, ⟨Lc108, hQ108, l108, y108, z108⟩, st108⟩ := Jvm.LawKit.callS X103 hx (y := (⟨"java/lang/StringUTF16", "toBytes", "([CII)[B"⟩ : MethodName)) hown (mvT hZ (hw _ (List.mem_of_getElem? (i := 117) rfl))) (mvT hZ (hw _ (List.mem_of_getElem? (i := 118) rfl))) (mvT hZ (hw _ (List.mem_of_getElem? (i := 60) rfl))) (mvT hZ (hw _ (List.mem_of_getElem? (i := 119) rfl))) (by decide) (backOf (W := 0) (u16a3 l Z a0 hw [] T103.heap n0 O103 cs kcs c0 c1 c2 z fm SC hz SA SH SL SF hfm f107) hZ (hw _ (List.mem_of_getElem? (i := 119) rfl)) (hw _ (List.mem_of_getElem? (i := 60) rfl)) (by decide) (by decide)) (g := (mkF m 23 #[.val (.ref cs), .val (.int (0 : Int32)), .val (.int (3 : Int32)), .val (.ref b101), .val (.int (1 : Int32)), .unset] [(.int (3 : Int32)), (.int (0 : Int32)), (.ref cs)])) rfl (by rw [hml]; rfl) (argsL := [(.ref cs), (.int (0 : Int32)), (.int (3 : Int32))]) (rest := []) (lenOf pd_15 rfl) rfl (by show 2 * 0 + _ ≤ _; exact Nat.le_of_eq rfl) (hb hby d11_23) (fun _ _ => ⟨rfl, rfl, (by decide : 1 + 1 ≤ _), (by decide : 3 + 6 ≤ _)⟩)
      dsimp only [Pt.U, Pt.locs, Pt.cells, Pt.slots] at X108 l108 y108 z108 st108 hQ108
      subst l108 y108 z108
      obtain ⟨b108, kb108, rfl, N108, K108, gb108, V108⟩ := hQ108
      have Nf108 := Fr.app Nf103 N108
      have O108 := O103.keep K108 all0
      have KK108 := KK103.trans K108 all0
      have ne_b101_b108 : b101 ≠ b108 := Nat.ne_of_lt (Nat.lt_of_lt_of_le V103.lt gb108)
      have ne_cs_b108 : cs ≠ b108 := Nat.ne_of_lt (Nat.lt_of_lt_of_le f107.lt gb108)
      have ge_b108 : n0 ≤ b108 := Nat.le_trans (own_osz O103) gb108
      have gk_b108 : h0.size ≤ b108 := Nat.le_trans KK103.1 gb108
      refine own_go (S' := (T108.setTop (mkF m 32 #[.val (.ref cs), .val (.int (0 : Int32)), .val (.int (3 : Int32)), .val (.ref b101), .val (.int (1 : Int32)), .val (.ref b108)] [(.int (1 : Int32)), (.ref b108)]))) (fun tq kq => st108 tq (XS.astore X108.here hx rfl (hb hby d11_26) rfl rfl (l' := #[.val (.ref cs), .val (.int (0 : Int32)), .val (.int (3 : Int32)), .val (.ref b101), .val (.int (1 : Int32)), .val (.ref b108)]) rfl (XS.aload X108.here hx rfl (hb hby d11_28) rfl rfl (XS.iload X108.here hx rfl (hb hby d11_30) rfl kq)))) ?_
      obtain ⟨_, _, ⟨T109, L109, k109, n109⟩, -, X109, ⟨Lc109, hQ109, l109, y109, z109⟩, st109⟩ := Jvm.LawKit.callS X108 hx (y := (⟨"java/lang/StringUTF16", "getChar", "([BI)C"⟩ : MethodName)) hown (mvT hZ (hw _ (List.mem_of_getElem? (i := 133) rfl))) (mvT hZ (hw _ (List.mem_of_getElem? (i := 134) rfl))) (mvT hZ (hw _ (List.mem_of_getElem? (i := 60) rfl))) (mvT hZ (hw _ (List.mem_of_getElem? (i := 135) rfl))) (by decide) (backOf (W := 0) (gch3_1 l Z a0 hw [] T108.heap n0 O108 b108 kb108 (own_b0 c1) (own_b1 c1) (.int (own_b0 c0)) (.int (own_b1 c0)) (.int (own_b0 c2)) (.int (own_b1 c2)) z fm SC hz SA SH SL SF hfm V108) hZ (hw _ (List.mem_of_getElem? (i := 135) rfl)) (hw _ (List.mem_of_getElem? (i := 60) rfl)) (by decide) (by decide)) (g := (mkF m 32 #[.val (.ref cs), .val (.int (0 : Int32)), .val (.int (3 : Int32)), .val (.ref b101), .val (.int (1 : Int32)), .val (.ref b108)] [(.int (1 : Int32)), (.ref b108)])) rfl (by rw [hml]; rfl) (argsL := [(.ref b108), (.int (1 : Int32))]) (rest := []) (lenOf pd_5 rfl) rfl (by show 2 * 0 + _ ≤ _; exact Nat.le_of_eq rfl) (hb hby d11_32) (fun _ _ => ⟨rfl, rfl, (by decide : 2 + 0 ≤ _), (by decide : 9 + 0 ≤ _)⟩)
      dsimp only [Pt.U, Pt.locs, Pt.cells, Pt.slots] at X109 l109 y109 z109 st109 hQ109
      subst l109 y109 z109
      obtain ⟨rfl, N109, eh109⟩ := hQ109
      have Nf109 := Fr.app Nf108 N109
      refine own_go (S' := (T109.setTop (mkF m 56 #[.val (.ref cs), .val (.int (0 : Int32)), .val (.int (3 : Int32)), .val (.ref b101), .val (.int (1 : Int32)), .val (.ref b108)] [(.ref b108)]))) (fun tq kq => st109 tq (XS.sipush X109.here hx rfl (hb hby d11_35) (XS.icmpYes X109.here hx rfl (pc0 := 38) (pc' := 54) rfl (hb hby d11_38) rfl (tlt (by rw [own_gcc hr1.1 hr1.2]; exact hg1)).2.2.1 (by decide) (by decide) (XS.aload X109.here hx rfl (hb hby d11_54) rfl rfl kq)))) ?_
      refine own_retA X109 hx hlk hret rfl rfl (hb hby d11_56) (by decide) (by decide) ?_
      rw [eh109]
      exact ⟨b108, _, _, rfl, Nf109, KK108, gk_b108, V108, Or.inr rfl⟩
    · by_cases hg2 : (255 : Int32) < c2
      · rw [show (own_cnt3 c0 c1 c2) = (2 : Int32) from by simp only [own_cnt3, if_neg hg0, if_neg hg1, if_pos hg2]]
        refine own_go (S' := (T103.setTop (mkF m 23 #[.val (.ref cs), .val (.int (0 : Int32)), .val (.int (3 : Int32)), .val (.ref b101), .val (.int (2 : Int32)), .unset] [(.int (3 : Int32)), (.int (0 : Int32)), (.ref cs)]))) (fun tq kq => XS.istore X103.here hx rfl (hb hby d11_12) rfl (l' := #[.val (.ref cs), .val (.int (0 : Int32)), .val (.int (3 : Int32)), .val (.ref b101), .val (.int (2 : Int32)), .unset]) rfl (XS.iload X103.here hx rfl (hb hby d11_14) rfl (XS.iloadN X103.here hx rfl (hb hby d11_16) rfl (XS.icmpNo X103.here hx rfl (hb hby d11_17) rfl (feq (by decide : ¬ ((2 : Int32) = (3 : Int32)))).1 (XS.aloadN X103.here hx rfl (hb hby d11_20) rfl rfl (XS.iloadN X103.here hx rfl (hb hby d11_21) rfl (XS.iloadN X103.here hx rfl (hb hby d11_22) rfl kq))))))) ?_
        have f110 := (f102.keep K103 (ninS ne_cs_b101 nin0))
        obtain ⟨_, _, ⟨T111, L111, k111, n111⟩, -, X111, ⟨Lc111, hQ111, l111, y111, z111⟩, st111⟩ := Jvm.LawKit.callS X103 hx (y := (⟨"java/lang/StringUTF16", "toBytes", "([CII)[B"⟩ : MethodName)) hown (mvT hZ (hw _ (List.mem_of_getElem? (i := 117) rfl))) (mvT hZ (hw _ (List.mem_of_getElem? (i := 118) rfl))) (mvT hZ (hw _ (List.mem_of_getElem? (i := 60) rfl))) (mvT hZ (hw _ (List.mem_of_getElem? (i := 119) rfl))) (by decide) (backOf (W := 0) (u16a3 l Z a0 hw [] T103.heap n0 O103 cs kcs c0 c1 c2 z fm SC hz SA SH SL SF hfm f110) hZ (hw _ (List.mem_of_getElem? (i := 119) rfl)) (hw _ (List.mem_of_getElem? (i := 60) rfl)) (by decide) (by decide)) (g := (mkF m 23 #[.val (.ref cs), .val (.int (0 : Int32)), .val (.int (3 : Int32)), .val (.ref b101), .val (.int (2 : Int32)), .unset] [(.int (3 : Int32)), (.int (0 : Int32)), (.ref cs)])) rfl (by rw [hml]; rfl) (argsL := [(.ref cs), (.int (0 : Int32)), (.int (3 : Int32))]) (rest := []) (lenOf pd_15 rfl) rfl (by show 2 * 0 + _ ≤ _; exact Nat.le_of_eq rfl) (hb hby d11_23) (fun _ _ => ⟨rfl, rfl, (by decide : 1 + 1 ≤ _), (by decide : 3 + 6 ≤ _)⟩)
        dsimp only [Pt.U, Pt.locs, Pt.cells, Pt.slots] at X111 l111 y111 z111 st111 hQ111
        subst l111 y111 z111
        obtain ⟨b111, kb111, rfl, N111, K111, gb111, V111⟩ := hQ111
        have Nf111 := Fr.app Nf103 N111
        have O111 := O103.keep K111 all0
        have KK111 := KK103.trans K111 all0
        have ne_b101_b111 : b101 ≠ b111 := Nat.ne_of_lt (Nat.lt_of_lt_of_le V103.lt gb111)
        have ne_cs_b111 : cs ≠ b111 := Nat.ne_of_lt (Nat.lt_of_lt_of_le f110.lt gb111)
        have ge_b111 : n0 ≤ b111 := Nat.le_trans (own_osz O103) gb111
        have gk_b111 : h0.size ≤ b111 := Nat.le_trans KK103.1 gb111
        refine own_go (S' := (T111.setTop (mkF m 32 #[.val (.ref cs), .val (.int (0 : Int32)), .val (.int (3 : Int32)), .val (.ref b101), .val (.int (2 : Int32)), .val (.ref b111)] [(.int (2 : Int32)), (.ref b111)]))) (fun tq kq => st111 tq (XS.astore X111.here hx rfl (hb hby d11_26) rfl rfl (l' := #[.val (.ref cs), .val (.int (0 : Int32)), .val (.int (3 : Int32)), .val (.ref b101), .val (.int (2 : Int32)), .val (.ref b111)]) rfl (XS.aload X111.here hx rfl (hb hby d11_28) rfl rfl (XS.iload X111.here hx rfl (hb hby d11_30) rfl kq)))) ?_
        obtain ⟨_, _, ⟨T112, L112, k112, n112⟩, -, X112, ⟨Lc112, hQ112, l112, y112, z112⟩, st112⟩ := Jvm.LawKit.callS X111 hx (y := (⟨"java/lang/StringUTF16", "getChar", "([BI)C"⟩ : MethodName)) hown (mvT hZ (hw _ (List.mem_of_getElem? (i := 133) rfl))) (mvT hZ (hw _ (List.mem_of_getElem? (i := 134) rfl))) (mvT hZ (hw _ (List.mem_of_getElem? (i := 60) rfl))) (mvT hZ (hw _ (List.mem_of_getElem? (i := 135) rfl))) (by decide) (backOf (W := 0) (gch3_2 l Z a0 hw [] T111.heap n0 O111 b111 kb111 (own_b0 c2) (own_b1 c2) (.int (own_b0 c0)) (.int (own_b1 c0)) (.int (own_b0 c1)) (.int (own_b1 c1)) z fm SC hz SA SH SL SF hfm V111) hZ (hw _ (List.mem_of_getElem? (i := 135) rfl)) (hw _ (List.mem_of_getElem? (i := 60) rfl)) (by decide) (by decide)) (g := (mkF m 32 #[.val (.ref cs), .val (.int (0 : Int32)), .val (.int (3 : Int32)), .val (.ref b101), .val (.int (2 : Int32)), .val (.ref b111)] [(.int (2 : Int32)), (.ref b111)])) rfl (by rw [hml]; rfl) (argsL := [(.ref b111), (.int (2 : Int32))]) (rest := []) (lenOf pd_5 rfl) rfl (by show 2 * 0 + _ ≤ _; exact Nat.le_of_eq rfl) (hb hby d11_32) (fun _ _ => ⟨rfl, rfl, (by decide : 2 + 0 ≤ _), (by decide : 9 + 0 ≤ _)⟩)
        dsimp only [Pt.U, Pt.locs, Pt.cells, Pt.slots] at X112 l112 y112 z112 st112 hQ112
        subst l112 y112 z112
        obtain ⟨rfl, N112, eh112⟩ := hQ112
        have Nf112 := Fr.app Nf111 N112
        refine own_go (S' := (T112.setTop (mkF m 56 #[.val (.ref cs), .val (.int (0 : Int32)), .val (.int (3 : Int32)), .val (.ref b101), .val (.int (2 : Int32)), .val (.ref b111)] [(.ref b111)]))) (fun tq kq => st112 tq (XS.sipush X112.here hx rfl (hb hby d11_35) (XS.icmpYes X112.here hx rfl (pc0 := 38) (pc' := 54) rfl (hb hby d11_38) rfl (tlt (by rw [own_gcc hr2.1 hr2.2]; exact hg2)).2.2.1 (by decide) (by decide) (XS.aload X112.here hx rfl (hb hby d11_54) rfl rfl kq)))) ?_
        refine own_retA X112 hx hlk hret rfl rfl (hb hby d11_56) (by decide) (by decide) ?_
        rw [eh112]
        exact ⟨b111, _, _, rfl, Nf112, KK111, gk_b111, V111, Or.inr rfl⟩
      · rw [show (own_cnt3 c0 c1 c2) = (3 : Int32) from by simp only [own_cnt3, if_neg hg0, if_neg hg1, if_neg hg2]]
        refine own_go (S' := (T103.setTop (mkF m 58 #[.val (.ref cs), .val (.int (0 : Int32)), .val (.int (3 : Int32)), .val (.ref b101), .val (.int (3 : Int32)), .unset] [(.ref b101)]))) (fun tq kq => XS.istore X103.here hx rfl (hb hby d11_12) rfl (l' := #[.val (.ref cs), .val (.int (0 : Int32)), .val (.int (3 : Int32)), .val (.ref b101), .val (.int (3 : Int32)), .unset]) rfl (XS.iload X103.here hx rfl (hb hby d11_14) rfl (XS.iloadN X103.here hx rfl (hb hby d11_16) rfl (XS.icmpYes X103.here hx rfl (pc0 := 17) (pc' := 57) rfl (hb hby d11_17) rfl (teq (by decide : (3 : Int32) = (3 : Int32))).1 (by decide) (by decide) (XS.aloadN X103.here hx rfl (hb hby d11_57) rfl rfl kq))))) ?_
        refine own_retA X103 hx hlk hret rfl rfl (hb hby d11_58) (by decide) (by decide) ?_
        exact ⟨b101, _, vs103, rfl, Nf103, KK103, gk_b101, V103, Or.inl hl103⟩
theorem pn_cfal3_3 : plainName "java/lang/StringUTF16" = true := by first | (simp [plainName, overriddenIn]; done) | decide +kernel
theorem ef_cfal3_3 (m : MethodId) (b : Addr) (kb : ClassId) (vs : List Value) (z : Int32) (fm : Value) : entryFrame m #[(.ref b), (.int (3 : Int32))] 2 = mkF m 0 #[.val (.ref b), .val (.int (3 : Int32))] [] := by first | (simp [entryFrame, mkF, argsToLocals, Value.category]; done) | rfl
def Q_cfal3_3 (Z : State) (h0 : Heap) (n0 : Nat) (b : Addr) (kb : ClassId) (vs : List Value) (z : Int32) (fm : Value) (v : Option Value) (h : Heap) (L : List Loc) : Prop := v = some (.int (0 : Int32)) ∧ Fr n0 L ∧ h = h0
set_option maxRecDepth 65536 in
set_option maxHeartbeats 40000000 in
theorem cfal3_3 (l : Launch) (Z : State) (a0 : Array Value) (hw : ∀ d ∈ tables_1, d.before a0 Z = true) (ws : List Jvm.Cond) (h0 : Heap) (n0 : Nat) (O0 : Old Z n0 h0) (b : Addr) (kb : ClassId) (vs : List Value) (z : Int32) (fm : Value) (SC : Sta Z Z.heap "java/lang/String" "COMPACT_STRINGS" "Z" (.int z)) (hz : ¬ (z = (0 : Int32))) (SA : Sta Z Z.heap "java/lang/StringUTF16" "$assertionsDisabled" "Z" (.int (1 : Int32))) (SH : Sta Z Z.heap "java/lang/StringUTF16" "HI_BYTE_SHIFT" "I" (.int (0 : Int32))) (SL : Sta Z Z.heap "java/lang/StringUTF16" "LO_BYTE_SHIFT" "I" (.int (8 : Int32))) (SF : Sta Z Z.heap "jdk/internal/util/Preconditions" "SIOOBE_FORMATTER" "Ljava/util/function/BiFunction;" fm) (hfm : fm.isRef = true) (Vb : own_Ar Z h0 b kb .byte vs) (hvs : vs.length = 3) :
    MetFree l (⟨"java/lang/StringUTF16", "coderFromArrayLen", "([BI)B"⟩ : MethodName) (head1 (Jvm.Cond.code (⟨"java/lang/StringUTF16", "coderFromArrayLen", "([BI)B"⟩ : MethodName) jdk_52_method_15_code 2 (some .byte) :: ws) ({ frames := 0, cells := 0, slots := 0, locals := 0 } : Room)) (fun aq U => aq = #[(.ref b), (.int (3 : Int32))] ∧ Z.Warmed39 U.vm ∧ U.heap = h0) (fun _ _ _ _ _ => True) (fun _ U oo U' => ∃ v L, oo = .returned v ∧ Q_cfal3_3 Z h0 n0 b kb vs z fm v U'.heap L ∧ FrameEnd U oo U' L ({ frames := 0, cells := 0, slots := 0, locals := 0 } : Room).cells ({ frames := 0, cells := 0, slots := 0, locals := 0 } : Room).slots) := by
  refine MetFree.of_bodySF (plainFor_of_name pn_cfal3_3) hisR ?_
  intro p e s m args below meth c s₁ Bd hml0 hP hK
  obtain ⟨rfl, hZ, hh⟩ := hP
  have hx := Bd.exec
  have hby := Bd.bytes
  have hml : c.maxLocals = 2 := hml0
  have hown : s.vm.findClass "java/lang/StringUTF16" = some m.cls := findClass_of_methodNamed Bd.named
  have hnm := (name_of_methodNamed Bd.named Bd.method).1
  have hlk := Bd.notSynchronized
  have hret := Bd.returns
  have X0 : Stand p l e ({ frames := 0, cells := 0, slots := 0, locals := 0 } : Room) s m #[(.ref b), (.int (3 : Int32))] below meth c s₁ [] 0 0 := Stand.of_body Bd
  have e0 : s₁.heap = h0 := by rw [← hh, Bd.state]; rfl
  have N0 := Fr.nil n0
  have K0 := Keep.refl h0 []
  refine own_go (S' := (s₁.setTop (mkF m 0 #[.val (.ref b), .val (.int (3 : Int32))] []))) (fun tq kq => castTop (ef_cfal3_3 m b kb vs z fm) kq) ?_
  show own_G p e s below (Q_cfal3_3 Z h0 n0 b kb vs z fm) _ _ _
  refine own_go (S' := (s₁.setTop (mkF m 2 #[.val (.ref b), .val (.int (3 : Int32))] [(.ref b), (.int (3 : Int32))]))) (fun tq kq => XS.iloadN X0.here hx rfl (hb hby d13_0) rfl (XS.aloadN X0.here hx rfl (hb hby d13_1) rfl rfl kq)) ?_
  obtain ⟨cl101, Ar101, ln101⟩ := Vb.len
  have lq101 : cl101.slots.size.toInt32 = (3 : Int32) := ln101.trans (by rw [hvs]; rfl)
  refine own_go (S' := (s₁.setTop (mkF m 7 #[.val (.ref b), .val (.int (3 : Int32))] [(.int (((0 : Int32).toUInt32 >>> ((31 : Int32) &&& 31).toUInt32).toInt32))]))) (fun tq kq => X0.arraylength hx (by rw [e0]; exact Ar101.1) (State.isArrayOf_alike hZ.alike Ar101.2.1) (g := (mkF m 2 #[.val (.ref b), .val (.int (3 : Int32))] [(.ref b), (.int (3 : Int32))])) rfl rfl (hb hby d13_2) tq (by rw [lq101]; exact (XS.isub X0.here hx rfl (hb hby d13_3) rfl (XS.bipush X0.here hx rfl (hb hby d13_4) (XS.iushr X0.here hx rfl (hb hby d13_6) rfl kq))))) ?_
  rw [show (((0 : Int32).toUInt32 >>> ((31 : Int32) &&& 31).toUInt32).toInt32) = (0 : Int32) from by decide]
  refine own_go (S' := (s₁.setTop (mkF m 8 #[.val (.ref b), .val (.int (3 : Int32))] [(.int ((0 : Int32).toInt8.toInt32))]))) (fun tq kq => XS.i2b X0.here hx rfl (hb hby d13_7) rfl kq) ?_
  rw [show ((0 : Int32).toInt8.toInt32) = (0 : Int32) from by decide]
  refine own_retN X0 hx hlk hret (by simp) (hb hby d13_8) (by decide) (by decide) ?_
  exact ⟨rfl, N0, e0⟩
theorem pn_cfal6_3 : plainName "java/lang/StringUTF16" = true := by first | (simp [plainName, overriddenIn]; done) | decide +kernel
theorem ef_cfal6_3 (m : MethodId) (b : Addr) (kb : ClassId) (vs : List Value) (z : Int32) (fm : Value) : entryFrame m #[(.ref b), (.int (3 : Int32))] 2 = mkF m 0 #[.val (.ref b), .val (.int (3 : Int32))] [] := by first | (simp [entryFrame, mkF, argsToLocals, Value.category]; done) | rfl
def Q_cfal6_3 (Z : State) (h0 : Heap) (n0 : Nat) (b : Addr) (kb : ClassId) (vs : List Value) (z : Int32) (fm : Value) (v : Option Value) (h : Heap) (L : List Loc) : Prop := v = some (.int (1 : Int32)) ∧ Fr n0 L ∧ h = h0
set_option maxRecDepth 65536 in
set_option maxHeartbeats 40000000 in
theorem cfal6_3 (l : Launch) (Z : State) (a0 : Array Value) (hw : ∀ d ∈ tables_1, d.before a0 Z = true) (ws : List Jvm.Cond) (h0 : Heap) (n0 : Nat) (O0 : Old Z n0 h0) (b : Addr) (kb : ClassId) (vs : List Value) (z : Int32) (fm : Value) (SC : Sta Z Z.heap "java/lang/String" "COMPACT_STRINGS" "Z" (.int z)) (hz : ¬ (z = (0 : Int32))) (SA : Sta Z Z.heap "java/lang/StringUTF16" "$assertionsDisabled" "Z" (.int (1 : Int32))) (SH : Sta Z Z.heap "java/lang/StringUTF16" "HI_BYTE_SHIFT" "I" (.int (0 : Int32))) (SL : Sta Z Z.heap "java/lang/StringUTF16" "LO_BYTE_SHIFT" "I" (.int (8 : Int32))) (SF : Sta Z Z.heap "jdk/internal/util/Preconditions" "SIOOBE_FORMATTER" "Ljava/util/function/BiFunction;" fm) (hfm : fm.isRef = true) (Vb : own_Ar Z h0 b kb .byte vs) (hvs : vs.length = 6) :
    MetFree l (⟨"java/lang/StringUTF16", "coderFromArrayLen", "([BI)B"⟩ : MethodName) (head1 (Jvm.Cond.code (⟨"java/lang/StringUTF16", "coderFromArrayLen", "([BI)B"⟩ : MethodName) jdk_52_method_15_code 2 (some .byte) :: ws) ({ frames := 0, cells := 0, slots := 0, locals := 0 } : Room)) (fun aq U => aq = #[(.ref b), (.int (3 : Int32))] ∧ Z.Warmed39 U.vm ∧ U.heap = h0) (fun _ _ _ _ _ => True) (fun _ U oo U' => ∃ v L, oo = .returned v ∧ Q_cfal6_3 Z h0 n0 b kb vs z fm v U'.heap L ∧ FrameEnd U oo U' L ({ frames := 0, cells := 0, slots := 0, locals := 0 } : Room).cells ({ frames := 0, cells := 0, slots := 0, locals := 0 } : Room).slots) := by
  refine MetFree.of_bodySF (plainFor_of_name pn_cfal6_3) hisR ?_
  intro p e s m args below meth c s₁ Bd hml0 hP hK
  obtain ⟨rfl, hZ, hh⟩ := hP
  have hx := Bd.exec
  have hby := Bd.bytes
  have hml : c.maxLocals = 2 := hml0
  have hown : s.vm.findClass "java/lang/StringUTF16" = some m.cls := findClass_of_methodNamed Bd.named
  have hnm := (name_of_methodNamed Bd.named Bd.method).1
  have hlk := Bd.notSynchronized
  have hret := Bd.returns
  have X0 : Stand p l e ({ frames := 0, cells := 0, slots := 0, locals := 0 } : Room) s m #[(.ref b), (.int (3 : Int32))] below meth c s₁ [] 0 0 := Stand.of_body Bd
  have e0 : s₁.heap = h0 := by rw [← hh, Bd.state]; rfl
  have N0 := Fr.nil n0
  have K0 := Keep.refl h0 []
  refine own_go (S' := (s₁.setTop (mkF m 0 #[.val (.ref b), .val (.int (3 : Int32))] []))) (fun tq kq => castTop (ef_cfal6_3 m b kb vs z fm) kq) ?_
  show own_G p e s below (Q_cfal6_3 Z h0 n0 b kb vs z fm) _ _ _
  refine own_go (S' := (s₁.setTop (mkF m 2 #[.val (.ref b), .val (.int (3 : Int32))] [(.ref b), (.int (3 : Int32))]))) (fun tq kq => XS.iloadN X0.here hx rfl (hb hby d13_0) rfl (XS.aloadN X0.here hx rfl (hb hby d13_1) rfl rfl kq)) ?_
  obtain ⟨cl101, Ar101, ln101⟩ := Vb.len
  have lq101 : cl101.slots.size.toInt32 = (6 : Int32) := ln101.trans (by rw [hvs]; rfl)
  refine own_go (S' := (s₁.setTop (mkF m 7 #[.val (.ref b), .val (.int (3 : Int32))] [(.int (((-3 : Int32).toUInt32 >>> ((31 : Int32) &&& 31).toUInt32).toInt32))]))) (fun tq kq => X0.arraylength hx (by rw [e0]; exact Ar101.1) (State.isArrayOf_alike hZ.alike Ar101.2.1) (g := (mkF m 2 #[.val (.ref b), .val (.int (3 : Int32))] [(.ref b), (.int (3 : Int32))])) rfl rfl (hb hby d13_2) tq (by rw [lq101]; exact (XS.isub X0.here hx rfl (hb hby d13_3) rfl (XS.bipush X0.here hx rfl (hb hby d13_4) (XS.iushr X0.here hx rfl (hb hby d13_6) rfl kq))))) ?_
  rw [show (((-3 : Int32).toUInt32 >>> ((31 : Int32) &&& 31).toUInt32).toInt32) = (1 : Int32) from by decide]
  refine own_go (S' := (s₁.setTop (mkF m 8 #[.val (.ref b), .val (.int (3 : Int32))] [(.int ((1 : Int32).toInt8.toInt32))]))) (fun tq kq => XS.i2b X0.here hx rfl (hb hby d13_7) rfl kq) ?_
  rw [show ((1 : Int32).toInt8.toInt32) = (1 : Int32) from by decide]
  refine own_retN X0 hx hlk hret (by simp) (hb hby d13_8) (by decide) (by decide) ?_
  exact ⟨rfl, N0, e0⟩
theorem pn_icv3 : plainName "java/lang/String" = true := by first | (simp [plainName, overriddenIn]; done) | decide +kernel
theorem ef_icv3 (m : MethodId) (a : Addr) (cs : Addr) (kcs : ClassId) (c0 : Int32) (c1 : Int32) (c2 : Int32) (z : Int32) (fm : Value) : entryFrame m #[(.ref a), (.ref cs), (.int (0 : Int32)), (.int (3 : Int32)), .null] 6 = mkF m 0 #[.val (.ref a), .val (.ref cs), .val (.int (0 : Int32)), .val (.int (3 : Int32)), .val .null, .unset] [] := by first | (simp [entryFrame, mkF, argsToLocals, Value.category]; done) | rfl
def Q_icv3 (Z : State) (h0 : Heap) (n0 : Nat) (a : Addr) (cs : Addr) (kcs : ClassId) (c0 : Int32) (c1 : Int32) (c2 : Int32) (z : Int32) (fm : Value) (v : Option Value) (h : Heap) (L : List Loc) : Prop := v = none ∧ Fr n0 L ∧ Keep h0 h [a] ∧ ∃ (d : Addr) (kd : ClassId) (vs : List Value), Fld Z h a "java/lang/String" "value" "[B" (.ref d) ∧ own_Ar Z h d kd .byte vs ∧ ((Fld Z h a "java/lang/String" "coder" "B" (.int (0 : Int32)) ∧ vs.length = 3) ∨ (Fld Z h a "java/lang/String" "coder" "B" (.int (1 : Int32)) ∧ vs.length = 6))
set_option maxRecDepth 65536 in
set_option maxHeartbeats 40000000 in
theorem icv3 (l : Launch) (Z : State) (a0 : Array Value) (hw : ∀ d ∈ tables_1, d.before a0 Z = true) (ws : List Jvm.Cond) (h0 : Heap) (n0 : Nat) (O0 : Old Z n0 h0) (a : Addr) (cs : Addr) (kcs : ClassId) (c0 : Int32) (c1 : Int32) (c2 : Int32) (z : Int32) (fm : Value) (SC : Sta Z Z.heap "java/lang/String" "COMPACT_STRINGS" "Z" (.int z)) (hz : ¬ (z = (0 : Int32))) (SA : Sta Z Z.heap "java/lang/StringUTF16" "$assertionsDisabled" "Z" (.int (1 : Int32))) (SH : Sta Z Z.heap "java/lang/StringUTF16" "HI_BYTE_SHIFT" "I" (.int (0 : Int32))) (SL : Sta Z Z.heap "java/lang/StringUTF16" "LO_BYTE_SHIFT" "I" (.int (8 : Int32))) (SF : Sta Z Z.heap "jdk/internal/util/Preconditions" "SIOOBE_FORMATTER" "Ljava/util/function/BiFunction;" fm) (hfm : fm.isRef = true) (Ea : Exa Z h0 a "java/lang/String") (Fv : Fld Z h0 a "java/lang/String" "value" "[B" .null) (Fc : Fld Z h0 a "java/lang/String" "coder" "B" (.int (0 : Int32))) (ga : n0 ≤ a) (Vcs : own_Ar Z h0 cs kcs .char [(.int c0), (.int c1), (.int c2)]) (hr0 : 0 ≤ c0.toInt ∧ c0.toInt < 65536) (hr1 : 0 ≤ c1.toInt ∧ c1.toInt < 65536) (hr2 : 0 ≤ c2.toInt ∧ c2.toInt < 65536) (nac : cs ≠ a) :
    MetFree l (⟨"java/lang/String", "<init>", "([CIILjava/lang/Void;)V"⟩ : MethodName) (head1 (Jvm.Cond.code (⟨"java/lang/String", "<init>", "([CIILjava/lang/Void;)V"⟩ : MethodName) jdk_42_method_149_code 6 none :: ws) ({ frames := 4, cells := 2, slots := 9, locals := 57 } : Room)) (fun aq U => aq = #[(.ref a), (.ref cs), (.int (0 : Int32)), (.int (3 : Int32)), .null] ∧ Z.Warmed39 U.vm ∧ U.heap = h0) (fun _ _ _ _ _ => True) (fun _ U oo U' => ∃ v L, oo = .returned v ∧ Q_icv3 Z h0 n0 a cs kcs c0 c1 c2 z fm v U'.heap L ∧ FrameEnd U oo U' L ({ frames := 4, cells := 2, slots := 9, locals := 57 } : Room).cells ({ frames := 4, cells := 2, slots := 9, locals := 57 } : Room).slots) := by
  refine MetFree.of_bodySF (plainFor_of_name pn_icv3) hisR ?_
  intro p e s m args below meth c s₁ Bd hml0 hP hK
  obtain ⟨rfl, hZ, hh⟩ := hP
  have hx := Bd.exec
  have hby := Bd.bytes
  have hml : c.maxLocals = 6 := hml0
  have hown : s.vm.findClass "java/lang/String" = some m.cls := findClass_of_methodNamed Bd.named
  have hnm := (name_of_methodNamed Bd.named Bd.method).1
  have hlk := Bd.notSynchronized
  have hret := Bd.returns
  have X0 : Stand p l e ({ frames := 4, cells := 2, slots := 9, locals := 57 } : Room) s m #[(.ref a), (.ref cs), (.int (0 : Int32)), (.int (3 : Int32)), .null] below meth c s₁ [] 0 0 := Stand.of_body Bd
  have e0 : s₁.heap = h0 := by rw [← hh, Bd.state]; rfl
  have N0 := Fr.nil n0
  have K0 := Keep.refl h0 [a]
  refine own_go (S' := (s₁.setTop (mkF m 0 #[.val (.ref a), .val (.ref cs), .val (.int (0 : Int32)), .val (.int (3 : Int32)), .val .null, .unset] []))) (fun tq kq => castTop (ef_icv3 m a cs kcs c0 c1 c2 z fm) kq) ?_
  show own_G p e s below (Q_icv3 Z h0 n0 a cs kcs c0 c1 c2 z fm) _ _ _
  refine own_go (S' := (s₁.setTop (mkF m 1 #[.val (.ref a), .val (.ref cs), .val (.int (0 : Int32)), .val (.int (3 : Int32)), .val .null, .unset] [(.ref a)]))) (fun tq kq => XS.aloadN X0.here hx rfl (hb hby d3_0) rfl rfl kq) ?_
  obtain ⟨T101, X101, e101, st101⟩ := initO X0 hx hZ hown (hw _ (List.mem_of_getElem? (i := 17) rfl)) (hw _ (List.mem_of_getElem? (i := 18) rfl)) (hw _ (List.mem_of_getElem? (i := 19) rfl)) e0 (g := (mkF m 1 #[.val (.ref a), .val (.ref cs), .val (.int (0 : Int32)), .val (.int (3 : Int32)), .val .null, .unset] [(.ref a)])) rfl (by rw [hml]; rfl) rfl (hb hby d3_1) (by decide) (W := 0) (by show 2 * 0 + _ ≤ _; exact Nat.le_of_eq rfl) (by decide)
  refine own_go (S' := (T101.setTop (mkF m 27 #[.val (.ref a), .val (.ref cs), .val (.int (0 : Int32)), .val (.int (3 : Int32)), .val .null, .unset] []))) (fun tq kq => st101 tq (XS.iloadN X101.here hx rfl (hb hby d3_4) rfl (XS.ifYes X101.here hx rfl (pc0 := 5) (pc' := 27) rfl (hb hby d3_5) rfl ((if0 _ _).trans (feq (by decide : ¬ ((3 : Int32) = (0 : Int32)))).2) (by decide) (by decide) kq))) ?_
  obtain ⟨T102, X102, e102, st102⟩ := getS2 X101 hx hZ hown (host := "") (Or.inl (hw _ (List.mem_of_getElem? (i := 42) rfl))) Via.refl e101 (SC.ext O0.2) (g := (mkF m 27 #[.val (.ref a), .val (.ref cs), .val (.int (0 : Int32)), .val (.int (3 : Int32)), .val .null, .unset] [])) rfl (hb hby d3_27)
  refine own_go (S' := (T102.setTop (mkF m 36 #[.val (.ref a), .val (.ref cs), .val (.int (0 : Int32)), .val (.int (3 : Int32)), .val .null, .unset] [(.int (3 : Int32)), (.int (0 : Int32)), (.ref cs)]))) (fun tq kq => st102 tq (XS.ifNo X102.here hx rfl (hb hby d3_30) rfl ((if0 _ _).trans (feq hz).1) (XS.aloadN X102.here hx rfl (hb hby d3_33) rfl rfl (XS.iloadN X102.here hx rfl (hb hby d3_34) rfl (XS.iloadN X102.here hx rfl (hb hby d3_35) rfl kq))))) ?_
  obtain ⟨_, _, ⟨T103, L103, k103, n103⟩, -, X103, ⟨Lc103, hQ103, l103, y103, z103⟩, st103⟩ := Jvm.LawKit.callS X102 hx (y := (⟨"java/lang/StringUTF16", "compress", "([CII)[B"⟩ : MethodName)) hown (mvT hZ (hw _ (List.mem_of_getElem? (i := 58) rfl))) (mvT hZ (hw _ (List.mem_of_getElem? (i := 59) rfl))) (mvT hZ (hw _ (List.mem_of_getElem? (i := 60) rfl))) (mvT hZ (hw _ (List.mem_of_getElem? (i := 61) rfl))) (by decide) (backOf (W := 0) (cmpb3 l Z a0 hw [] h0 n0 O0 cs kcs c0 c1 c2 z fm SC hz SA SH SL SF hfm Vcs hr0 hr1 hr2) hZ (hw _ (List.mem_of_getElem? (i := 61) rfl)) (hw _ (List.mem_of_getElem? (i := 60) rfl)) (by decide) (by decide)) (g := (mkF m 36 #[.val (.ref a), .val (.ref cs), .val (.int (0 : Int32)), .val (.int (3 : Int32)), .val .null, .unset] [(.int (3 : Int32)), (.int (0 : Int32)), (.ref cs)])) rfl (by rw [hml]; rfl) (argsL := [(.ref cs), (.int (0 : Int32)), (.int (3 : Int32))]) (rest := []) (lenOf pd_15 rfl) rfl (by show 2 * 0 + _ ≤ _; exact Nat.le_of_eq rfl) (hb hby d3_36) (fun _ _ => ⟨rfl, e102, (by decide : 0 + 2 ≤ _), (by decide : 0 + 9 ≤ _)⟩)
  dsimp only [Pt.U, Pt.locs, Pt.cells, Pt.slots] at X103 l103 y103 z103 st103 hQ103
  subst l103 y103 z103
  obtain ⟨b103, kb103, vs103, rfl, N103, K103, gb103, V103, hl103⟩ := hQ103
  have Nf103 := Fr.app N0 N103
  have O103 := O0.keep K103 all0
  have KK103 := K0.trans K103 all0
  have ne_a_b103 : a ≠ b103 := Nat.ne_of_lt (Nat.lt_of_lt_of_le Ea.lt gb103)
  have ne_cs_b103 : cs ≠ b103 := Nat.ne_of_lt (Nat.lt_of_lt_of_le Vcs.lt gb103)
  have ge_b103 : n0 ≤ b103 := Nat.le_trans (own_osz O0) gb103
  have gk_b103 : h0.size ≤ b103 := Nat.le_trans K0.1 gb103
  refine own_go (S' := (T103.setTop (mkF m 45 #[.val (.ref a), .val (.ref cs), .val (.int (0 : Int32)), .val (.int (3 : Int32)), .val .null, .val (.ref b103)] [(.int (3 : Int32)), (.ref b103), (.ref a)]))) (fun tq kq => st103 tq (XS.astore X103.here hx rfl (hb hby d3_39) rfl rfl (l' := #[.val (.ref a), .val (.ref cs), .val (.int (0 : Int32)), .val (.int (3 : Int32)), .val .null, .val (.ref b103)]) rfl (XS.aloadN X103.here hx rfl (hb hby d3_41) rfl rfl (XS.aload X103.here hx rfl (hb hby d3_42) rfl rfl (XS.iloadN X103.here hx rfl (hb hby d3_44) rfl kq))))) ?_
  rcases hl103 with hll | hll
  · obtain ⟨_, _, ⟨T104, L104, k104, n104⟩, -, X104, ⟨Lc104, hQ104, l104, y104, z104⟩, st104⟩ := Jvm.LawKit.callS X103 hx (y := (⟨"java/lang/StringUTF16", "coderFromArrayLen", "([BI)B"⟩ : MethodName)) hown (mvT hZ (hw _ (List.mem_of_getElem? (i := 65) rfl))) (mvT hZ (hw _ (List.mem_of_getElem? (i := 66) rfl))) (mvT hZ (hw _ (List.mem_of_getElem? (i := 60) rfl))) (mvT hZ (hw _ (List.mem_of_getElem? (i := 67) rfl))) (by decide) (backOf (W := 1) (cfal3_3 l Z a0 hw [] T103.heap n0 O103 b103 kb103 vs103 z fm SC hz SA SH SL SF hfm V103 hll) hZ (hw _ (List.mem_of_getElem? (i := 67) rfl)) (hw _ (List.mem_of_getElem? (i := 60) rfl)) (by decide) (by decide)) (g := (mkF m 45 #[.val (.ref a), .val (.ref cs), .val (.int (0 : Int32)), .val (.int (3 : Int32)), .val .null, .val (.ref b103)] [(.int (3 : Int32)), (.ref b103), (.ref a)])) rfl (by rw [hml]; rfl) (argsL := [(.ref b103), (.int (3 : Int32))]) (rest := [(.ref a)]) (lenOf pd_16 rfl) rfl (by show 2 * 0 + _ ≤ _; exact Nat.le_of_eq rfl) (hb hby d3_45) (fun _ _ => ⟨rfl, rfl, (by decide : 2 + 0 ≤ _), (by decide : 9 + 0 ≤ _)⟩)
    dsimp only [Pt.U, Pt.locs, Pt.cells, Pt.slots] at X104 l104 y104 z104 st104 hQ104
    subst l104 y104 z104
    obtain ⟨rfl, N104, eh104⟩ := hQ104
    have Nf104 := Fr.app Nf103 N104
    refine own_go (S' := (T104.setTop (mkF m 48 #[.val (.ref a), .val (.ref cs), .val (.int (0 : Int32)), .val (.int (3 : Int32)), .val .null, .val (.ref b103)] [(.int (0 : Int32)), (.ref a)]))) (fun tq kq => st104 tq kq) ?_
    have f105 := (Fc.keep K103 nin0)
    have f106 := (Ea.keep K103)
    obtain ⟨T107, h107, X107, e107, W107, st107⟩ := putFN X104 hx hZ hown (hw _ (List.mem_of_getElem? (i := 27) rfl)) Via.refl eh104 f105 f106 (Or.inr ⟨(hw _ (List.mem_of_getElem? (i := 23) rfl)), rfl, hnm⟩) (hw _ (List.mem_of_getElem? (i := 7) rfl)) (ty := .byte) (v' := (.int (0 : Int32))) (by decide) rfl rfl (g := (mkF m 48 #[.val (.ref a), .val (.ref cs), .val (.int (0 : Int32)), .val (.int (3 : Int32)), .val .null, .val (.ref b103)] [(.int (0 : Int32)), (.ref a)])) rfl rfl (hb hby d3_48)
    have N107 := Fr.snoc X107 Nf104 ga
    have O107 := O103.wr W107 ga
    have K107 := KK103.wr W107 (Or.inl (List.mem_of_getElem? (i := 0) rfl))
    have F107 := f105.same W107
    refine own_go (S' := (T107.setTop (mkF m 54 #[.val (.ref a), .val (.ref cs), .val (.int (0 : Int32)), .val (.int (3 : Int32)), .val .null, .val (.ref b103)] [(.ref b103), (.ref a)]))) (fun tq kq => st107 tq (XS.aloadN X107.here hx rfl (hb hby d3_51) rfl rfl (XS.aload X107.here hx rfl (hb hby d3_52) rfl rfl kq))) ?_
    have f108 := ((Fv.keep K103 nin0).other W107 (Or.inr (slot_ne (Or.inr (hw _ (List.mem_of_getElem? (i := 22) rfl))) (Or.inr (hw _ (List.mem_of_getElem? (i := 23) rfl))) (by decide) (t := (.array .byte)) (t' := .byte) (by decide) (by decide))))
    have f109 := (f106.wr W107)
    obtain ⟨T110, h110, X110, e110, W110, st110⟩ := putF X107 hx hZ hown (host := "") (Or.inl (hw _ (List.mem_of_getElem? (i := 26) rfl))) Via.refl e107 f108 f109 (Or.inr ⟨(hw _ (List.mem_of_getElem? (i := 22) rfl)), rfl, hnm⟩) (hw _ (List.mem_of_getElem? (i := 7) rfl)) (ty := (.array .byte)) (by decide) rfl rfl (g := (mkF m 54 #[.val (.ref a), .val (.ref cs), .val (.int (0 : Int32)), .val (.int (3 : Int32)), .val .null, .val (.ref b103)] [(.ref b103), (.ref a)])) rfl rfl (hb hby d3_54)
    have N110 := Fr.snoc X110 N107 ga
    have O110 := O107.wr W110 ga
    have K110 := K107.wr W110 (Or.inl (List.mem_of_getElem? (i := 0) rfl))
    have F110 := f108.same W110
    refine own_go (S' := (T110.setTop (mkF m 57 #[.val (.ref a), .val (.ref cs), .val (.int (0 : Int32)), .val (.int (3 : Int32)), .val .null, .val (.ref b103)] []))) (fun tq kq => st110 tq kq) ?_
    refine own_retV X110 hx hlk hret (hb hby d3_57) (by decide) (by decide) ?_
    have f111 := ((V103.other W107 (Ne.symm ne_a_b103)).other W110 (Ne.symm ne_a_b103))
    have f112 := (F107.other W110 (Or.inr (slot_ne (Or.inr (hw _ (List.mem_of_getElem? (i := 23) rfl))) (Or.inr (hw _ (List.mem_of_getElem? (i := 22) rfl))) (by decide) (t := .byte) (t' := (.array .byte)) (by decide) (by decide))))
    rw [e110]
    exact ⟨rfl, N110, K110, b103, _, _, F110, f111, Or.inl ⟨f112, hll⟩⟩
  · obtain ⟨_, _, ⟨T113, L113, k113, n113⟩, -, X113, ⟨Lc113, hQ113, l113, y113, z113⟩, st113⟩ := Jvm.LawKit.callS X103 hx (y := (⟨"java/lang/StringUTF16", "coderFromArrayLen", "([BI)B"⟩ : MethodName)) hown (mvT hZ (hw _ (List.mem_of_getElem? (i := 65) rfl))) (mvT hZ (hw _ (List.mem_of_getElem? (i := 66) rfl))) (mvT hZ (hw _ (List.mem_of_getElem? (i := 60) rfl))) (mvT hZ (hw _ (List.mem_of_getElem? (i := 67) rfl))) (by decide) (backOf (W := 1) (cfal6_3 l Z a0 hw [] T103.heap n0 O103 b103 kb103 vs103 z fm SC hz SA SH SL SF hfm V103 hll) hZ (hw _ (List.mem_of_getElem? (i := 67) rfl)) (hw _ (List.mem_of_getElem? (i := 60) rfl)) (by decide) (by decide)) (g := (mkF m 45 #[.val (.ref a), .val (.ref cs), .val (.int (0 : Int32)), .val (.int (3 : Int32)), .val .null, .val (.ref b103)] [(.int (3 : Int32)), (.ref b103), (.ref a)])) rfl (by rw [hml]; rfl) (argsL := [(.ref b103), (.int (3 : Int32))]) (rest := [(.ref a)]) (lenOf pd_16 rfl) rfl (by show 2 * 0 + _ ≤ _; exact Nat.le_of_eq rfl) (hb hby d3_45) (fun _ _ => ⟨rfl, rfl, (by decide : 2 + 0 ≤ _), (by decide : 9 + 0 ≤ _)⟩)
    dsimp only [Pt.U, Pt.locs, Pt.cells, Pt.slots] at X113 l113 y113 z113 st113 hQ113
    subst l113 y113 z113
    obtain ⟨rfl, N113, eh113⟩ := hQ113
    have Nf113 := Fr.app Nf103 N113
    refine own_go (S' := (T113.setTop (mkF m 48 #[.val (.ref a), .val (.ref cs), .val (.int (0 : Int32)), .val (.int (3 : Int32)), .val .null, .val (.ref b103)] [(.int (1 : Int32)), (.ref a)]))) (fun tq kq => st113 tq kq) ?_
    have f114 := (Fc.keep K103 nin0)
    have f115 := (Ea.keep K103)
    obtain ⟨T116, h116, X116, e116, W116, st116⟩ := putFN X113 hx hZ hown (hw _ (List.mem_of_getElem? (i := 27) rfl)) Via.refl eh113 f114 f115 (Or.inr ⟨(hw _ (List.mem_of_getElem? (i := 23) rfl)), rfl, hnm⟩) (hw _ (List.mem_of_getElem? (i := 7) rfl)) (ty := .byte) (v' := (.int (1 : Int32))) (by decide) rfl rfl (g := (mkF m 48 #[.val (.ref a), .val (.ref cs), .val (.int (0 : Int32)), .val (.int (3 : Int32)), .val .null, .val (.ref b103)] [(.int (1 : Int32)), (.ref a)])) rfl rfl (hb hby d3_48)
    have N116 := Fr.snoc X116 Nf113 ga
    have O116 := O103.wr W116 ga
    have K116 := KK103.wr W116 (Or.inl (List.mem_of_getElem? (i := 0) rfl))
    have F116 := f114.same W116
    refine own_go (S' := (T116.setTop (mkF m 54 #[.val (.ref a), .val (.ref cs), .val (.int (0 : Int32)), .val (.int (3 : Int32)), .val .null, .val (.ref b103)] [(.ref b103), (.ref a)]))) (fun tq kq => st116 tq (XS.aloadN X116.here hx rfl (hb hby d3_51) rfl rfl (XS.aload X116.here hx rfl (hb hby d3_52) rfl rfl kq))) ?_
    have f117 := ((Fv.keep K103 nin0).other W116 (Or.inr (slot_ne (Or.inr (hw _ (List.mem_of_getElem? (i := 22) rfl))) (Or.inr (hw _ (List.mem_of_getElem? (i := 23) rfl))) (by decide) (t := (.array .byte)) (t' := .byte) (by decide) (by decide))))
    have f118 := (f115.wr W116)
    obtain ⟨T119, h119, X119, e119, W119, st119⟩ := putF X116 hx hZ hown (host := "") (Or.inl (hw _ (List.mem_of_getElem? (i := 26) rfl))) Via.refl e116 f117 f118 (Or.inr ⟨(hw _ (List.mem_of_getElem? (i := 22) rfl)), rfl, hnm⟩) (hw _ (List.mem_of_getElem? (i := 7) rfl)) (ty := (.array .byte)) (by decide) rfl rfl (g := (mkF m 54 #[.val (.ref a), .val (.ref cs), .val (.int (0 : Int32)), .val (.int (3 : Int32)), .val .null, .val (.ref b103)] [(.ref b103), (.ref a)])) rfl rfl (hb hby d3_54)
    have N119 := Fr.snoc X119 N116 ga
    have O119 := O116.wr W119 ga
    have K119 := K116.wr W119 (Or.inl (List.mem_of_getElem? (i := 0) rfl))
    have F119 := f117.same W119
    refine own_go (S' := (T119.setTop (mkF m 57 #[.val (.ref a), .val (.ref cs), .val (.int (0 : Int32)), .val (.int (3 : Int32)), .val .null, .val (.ref b103)] []))) (fun tq kq => st119 tq kq) ?_
    refine own_retV X119 hx hlk hret (hb hby d3_57) (by decide) (by decide) ?_
    have f120 := ((V103.other W116 (Ne.symm ne_a_b103)).other W119 (Ne.symm ne_a_b103))
    have f121 := (F116.other W119 (Or.inr (slot_ne (Or.inr (hw _ (List.mem_of_getElem? (i := 23) rfl))) (Or.inr (hw _ (List.mem_of_getElem? (i := 22) rfl))) (by decide) (t := .byte) (t' := (.array .byte)) (by decide) (by decide))))
    rw [e119]
    exact ⟨rfl, N119, K119, b103, _, _, F119, f120, Or.inr ⟨f121, hll⟩⟩
theorem pn_inc3 : plainName "java/lang/String" = true := by first | (simp [plainName, overriddenIn]; done) | decide +kernel
theorem ef_inc3 (m : MethodId) (a : Addr) (cs : Addr) (kcs : ClassId) (c0 : Int32) (c1 : Int32) (c2 : Int32) (z : Int32) (fm : Value) : entryFrame m #[(.ref a), (.ref cs)] 2 = mkF m 0 #[.val (.ref a), .val (.ref cs)] [] := by first | (simp [entryFrame, mkF, argsToLocals, Value.category]; done) | rfl
def Q_inc3 (Z : State) (h0 : Heap) (n0 : Nat) (a : Addr) (cs : Addr) (kcs : ClassId) (c0 : Int32) (c1 : Int32) (c2 : Int32) (z : Int32) (fm : Value) (v : Option Value) (h : Heap) (L : List Loc) : Prop := v = none ∧ Fr n0 L ∧ Keep h0 h [a] ∧ ∃ (d : Addr) (kd : ClassId) (vs : List Value), Fld Z h a "java/lang/String" "value" "[B" (.ref d) ∧ own_Ar Z h d kd .byte vs ∧ ((Fld Z h a "java/lang/String" "coder" "B" (.int (0 : Int32)) ∧ vs.length = 3) ∨ (Fld Z h a "java/lang/String" "coder" "B" (.int (1 : Int32)) ∧ vs.length = 6))
set_option maxRecDepth 65536 in
set_option maxHeartbeats 40000000 in
theorem inc3 (l : Launch) (Z : State) (a0 : Array Value) (hw : ∀ d ∈ tables_1, d.before a0 Z = true) (ws : List Jvm.Cond) (h0 : Heap) (n0 : Nat) (O0 : Old Z n0 h0) (a : Addr) (cs : Addr) (kcs : ClassId) (c0 : Int32) (c1 : Int32) (c2 : Int32) (z : Int32) (fm : Value) (SC : Sta Z Z.heap "java/lang/String" "COMPACT_STRINGS" "Z" (.int z)) (hz : ¬ (z = (0 : Int32))) (SA : Sta Z Z.heap "java/lang/StringUTF16" "$assertionsDisabled" "Z" (.int (1 : Int32))) (SH : Sta Z Z.heap "java/lang/StringUTF16" "HI_BYTE_SHIFT" "I" (.int (0 : Int32))) (SL : Sta Z Z.heap "java/lang/StringUTF16" "LO_BYTE_SHIFT" "I" (.int (8 : Int32))) (SF : Sta Z Z.heap "jdk/internal/util/Preconditions" "SIOOBE_FORMATTER" "Ljava/util/function/BiFunction;" fm) (hfm : fm.isRef = true) (Ea : Exa Z h0 a "java/lang/String") (Fv : Fld Z h0 a "java/lang/String" "value" "[B" .null) (Fc : Fld Z h0 a "java/lang/String" "coder" "B" (.int (0 : Int32))) (ga : n0 ≤ a) (Vcs : own_Ar Z h0 cs kcs .char [(.int c0), (.int c1), (.int c2)]) (hr0 : 0 ≤ c0.toInt ∧ c0.toInt < 65536) (hr1 : 0 ≤ c1.toInt ∧ c1.toInt < 65536) (hr2 : 0 ≤ c2.toInt ∧ c2.toInt < 65536) (nac : cs ≠ a) :
    MetFree l (⟨"java/lang/String", "<init>", "([C)V"⟩ : MethodName) (head1 (Jvm.Cond.code (⟨"java/lang/String", "<init>", "([C)V"⟩ : MethodName) jdk_42_method_3_code 2 none :: ws) ({ frames := 5, cells := 2, slots := 9, locals := 74 } : Room)) (fun aq U => aq = #[(.ref a), (.ref cs)] ∧ Z.Warmed39 U.vm ∧ U.heap = h0) (fun _ _ _ _ _ => True) (fun _ U oo U' => ∃ v L, oo = .returned v ∧ Q_inc3 Z h0 n0 a cs kcs c0 c1 c2 z fm v U'.heap L ∧ FrameEnd U oo U' L ({ frames := 5, cells := 2, slots := 9, locals := 74 } : Room).cells ({ frames := 5, cells := 2, slots := 9, locals := 74 } : Room).slots) := by
  refine MetFree.of_bodySF (plainFor_of_name pn_inc3) hisR ?_
  intro p e s m args below meth c s₁ Bd hml0 hP hK
  obtain ⟨rfl, hZ, hh⟩ := hP
  have hx := Bd.exec
  have hby := Bd.bytes
  have hml : c.maxLocals = 2 := hml0
  have hown : s.vm.findClass "java/lang/String" = some m.cls := findClass_of_methodNamed Bd.named
  have hnm := (name_of_methodNamed Bd.named Bd.method).1
  have hlk := Bd.notSynchronized
  have hret := Bd.returns
  have X0 : Stand p l e ({ frames := 5, cells := 2, slots := 9, locals := 74 } : Room) s m #[(.ref a), (.ref cs)] below meth c s₁ [] 0 0 := Stand.of_body Bd
  have e0 : s₁.heap = h0 := by rw [← hh, Bd.state]; rfl
  have N0 := Fr.nil n0
  have K0 := Keep.refl h0 [a]
  refine own_go (S' := (s₁.setTop (mkF m 0 #[.val (.ref a), .val (.ref cs)] []))) (fun tq kq => castTop (ef_inc3 m a cs kcs c0 c1 c2 z fm) kq) ?_
  show own_G p e s below (Q_inc3 Z h0 n0 a cs kcs c0 c1 c2 z fm) _ _ _
  refine own_go (S' := (s₁.setTop (mkF m 4 #[.val (.ref a), .val (.ref cs)] [(.ref cs), (.int (0 : Int32)), (.ref cs), (.ref a)]))) (fun tq kq => XS.aloadN X0.here hx rfl (hb hby d2_0) rfl rfl (XS.aloadN X0.here hx rfl (hb hby d2_1) rfl rfl (XS.iconst X0.here hx rfl (hb hby d2_2) (XS.aloadN X0.here hx rfl (hb hby d2_3) rfl rfl kq)))) ?_
  obtain ⟨cl101, Ar101, ln101⟩ := Vcs.len
  have lq101 : cl101.slots.size.toInt32 = (3 : Int32) := ln101.trans rfl
  refine own_go (S' := (s₁.setTop (mkF m 6 #[.val (.ref a), .val (.ref cs)] [.null, (.int (3 : Int32)), (.int (0 : Int32)), (.ref cs), (.ref a)]))) (fun tq kq => X0.arraylength hx (by rw [e0]; exact Ar101.1) (State.isArrayOf_alike hZ.alike Ar101.2.1) (g := (mkF m 4 #[.val (.ref a), .val (.ref cs)] [(.ref cs), (.int (0 : Int32)), (.ref cs), (.ref a)])) rfl rfl (hb hby d2_4) tq (by rw [lq101]; exact (XS.aconstNull X0.here hx rfl (hb hby d2_5) kq))) ?_
  obtain ⟨_, _, ⟨T102, L102, k102, n102⟩, -, X102, ⟨Lc102, hQ102, l102, y102, z102⟩, st102⟩ := X0.specialBack hx (y := (⟨"java/lang/String", "<init>", "([CIILjava/lang/Void;)V"⟩ : MethodName)) rfl hown (mvT hZ (hw _ (List.mem_of_getElem? (i := 13) rfl))) (mvT hZ (hw _ (List.mem_of_getElem? (i := 14) rfl))) (mvT hZ (hw _ (List.mem_of_getElem? (i := 16) rfl))) (by decide) (backOf (W := 0) (icv3 l Z a0 hw [] h0 n0 O0 a cs kcs c0 c1 c2 z fm SC hz SA SH SL SF hfm Ea Fv Fc ga Vcs hr0 hr1 hr2 nac) hZ (hw _ (List.mem_of_getElem? (i := 16) rfl)) (hw _ (List.mem_of_getElem? (i := 8) rfl)) (by decide) (by decide)) (g := (mkF m 6 #[.val (.ref a), .val (.ref cs)] [.null, (.int (3 : Int32)), (.int (0 : Int32)), (.ref cs), (.ref a)])) rfl (by rw [hml]; rfl) (Steps.refl _) (a := a) (argsL := [(.ref cs), (.int (0 : Int32)), (.int (3 : Int32)), .null]) (rest := []) (lenOf pd_17 rfl) rfl (by show 2 * 0 + _ ≤ _; exact Nat.le_of_eq rfl) (hb hby d2_6) (fun _ _ => ⟨rfl, e0, (by decide : 0 + 2 ≤ _), (by decide : 0 + 9 ≤ _)⟩)
  dsimp only [Pt.U, Pt.locs, Pt.cells, Pt.slots] at X102 l102 y102 z102 st102 hQ102
  subst l102 y102 z102
  obtain ⟨rfl, N102, K102, R102⟩ := hQ102
  have Nf102 := Fr.app N0 N102
  have O102 := O0.keep K102 (allS ga all0)
  have KK102 := K0.trans K102 (allS (Or.inl (List.mem_of_getElem? (i := 0) rfl)) all0)
  refine own_go (S' := (T102.setTop (mkF m 9 #[.val (.ref a), .val (.ref cs)] []))) (fun tq kq => st102.trans kq) ?_
  refine own_retV X102 hx hlk hret (hb hby d2_9) (by decide) (by decide) ?_
  exact ⟨rfl, Nf102, KK102, R102⟩
theorem pn_rm1 : plainName "com/example/davka/davka/AccountingCodeOfPinLaw" = true := by first | (simp [plainName, overriddenIn]; done) | decide +kernel
theorem ef_rm1 (m : MethodId) (x : Int32) : entryFrame m #[(.int x)] 1 = mkF m 0 #[.val (.int x)] [] := by first | (simp [entryFrame, mkF, argsToLocals, Value.category]; done) | rfl
def Q_rm1 (Z : State) (h0 : Heap) (n0 : Nat) (x : Int32) (v : Option Value) (h : Heap) (L : List Loc) : Prop := ∃ z : Int32, v = some (.int z) ∧ (0 ≤ z.toInt ∧ z.toInt < 65536) ∧ Fr n0 L ∧ h = h0
set_option maxRecDepth 65536 in
set_option maxHeartbeats 40000000 in
theorem rm1 (l : Launch) (Z : State) (a0 : Array Value) (hw : ∀ d ∈ tables_1, d.before a0 Z = true) (ws : List Jvm.Cond) (h0 : Heap) (n0 : Nat) (O0 : Old Z n0 h0) (x : Int32)  :
    MetFree l (⟨"com/example/davka/davka/AccountingCodeOfPinLaw", "draw", "(I)C"⟩ : MethodName) (head1 (Jvm.Cond.code (⟨"com/example/davka/davka/AccountingCodeOfPinLaw", "draw", "(I)C"⟩ : MethodName) method_3_code 1 (some .char) :: ws) ({ frames := 0, cells := 0, slots := 0, locals := 0 } : Room)) (fun aq U => aq = #[(.int x)] ∧ Z.Warmed39 U.vm ∧ U.heap = h0) (fun _ _ _ _ _ => True) (fun _ U oo U' => ∃ v L, oo = .returned v ∧ Q_rm1 Z h0 n0 x v U'.heap L ∧ FrameEnd U oo U' L ({ frames := 0, cells := 0, slots := 0, locals := 0 } : Room).cells ({ frames := 0, cells := 0, slots := 0, locals := 0 } : Room).slots) := by
  refine MetFree.of_bodySF (plainFor_of_name pn_rm1) hisR ?_
  intro p e s m args below meth c s₁ Bd hml0 hP hK
  obtain ⟨rfl, hZ, hh⟩ := hP
  have hx := Bd.exec
  have hby := Bd.bytes
  have hml : c.maxLocals = 1 := hml0
  have hown : s.vm.findClass "com/example/davka/davka/AccountingCodeOfPinLaw" = some m.cls := findClass_of_methodNamed Bd.named
  have hnm := (name_of_methodNamed Bd.named Bd.method).1
  have hlk := Bd.notSynchronized
  have hret := Bd.returns
  have X0 : Stand p l e ({ frames := 0, cells := 0, slots := 0, locals := 0 } : Room) s m #[(.int x)] below meth c s₁ [] 0 0 := Stand.of_body Bd
  have e0 : s₁.heap = h0 := by rw [← hh, Bd.state]; rfl
  have N0 := Fr.nil n0
  have K0 := Keep.refl h0 []
  refine own_go (S' := (s₁.setTop (mkF m 0 #[.val (.int x)] []))) (fun tq kq => castTop (ef_rm1 m x) kq) ?_
  show own_G p e s below (Q_rm1 Z h0 n0 x) _ _ _
  refine own_go (S' := (s₁.setTop (mkF m 4 #[.val (.int x)] [(.int (x &&& (65536 : Int32)))]))) (fun tq kq => XS.iloadN X0.here hx rfl (hb hby d1_0) rfl (X0.ldcInt hx hown (mvT hZ (hw _ (List.mem_of_getElem? (i := 4) rfl))) (g := (mkF m 1 #[.val (.int x)] [(.int x)])) rfl (hb hby d1_1) tq (XS.iand X0.here hx rfl (hb hby d1_3) rfl kq))) ?_
  by_cases hc101 : (x &&& (65536 : Int32)) = (0 : Int32)
  · refine own_go (S' := (s₁.setTop (mkF m 24 #[.val (.int x)] [(.int ((x &&& (65535 : Int32)).toUInt32.toUInt16.toUInt32.toInt32))]))) (fun tq kq => XS.ifYes X0.here hx rfl (pc0 := 4) (pc' := 19) rfl (hb hby d1_4) rfl ((if0 _ _).trans (teq hc101).1) (by decide) (by decide) (XS.iloadN X0.here hx rfl (hb hby d1_19) rfl (X0.ldcInt hx hown (mvT hZ (hw _ (List.mem_of_getElem? (i := 5) rfl))) (g := (mkF m 20 #[.val (.int x)] [(.int x)])) rfl (hb hby d1_20) tq (XS.iand X0.here hx rfl (hb hby d1_22) rfl (XS.i2c X0.here hx rfl (hb hby d1_23) rfl kq))))) ?_
    refine own_retN X0 hx hlk hret (by simp) (hb hby d1_24) (by decide) (by decide) ?_
    exact ⟨_, rfl, own_charR _, N0, e0⟩
  · refine own_go (S' := (s₁.setTop (mkF m 18 #[.val (.int x)] [(.int (((48 : Int32) + (((x.toUInt32 >>> ((17 : Int32) &&& 31).toUInt32).toInt32) &&& (7 : Int32))).toUInt32.toUInt16.toUInt32.toInt32))]))) (fun tq kq => XS.ifNo X0.here hx rfl (hb hby d1_4) rfl ((if0 _ _).trans (feq hc101).1) (XS.bipush X0.here hx rfl (hb hby d1_7) (XS.iloadN X0.here hx rfl (hb hby d1_9) rfl (XS.bipush X0.here hx rfl (hb hby d1_10) (XS.iushr X0.here hx rfl (hb hby d1_12) rfl (XS.bipush X0.here hx rfl (hb hby d1_13) (XS.iand X0.here hx rfl (hb hby d1_15) rfl (XS.iadd X0.here hx rfl (hb hby d1_16) rfl (XS.i2c X0.here hx rfl (hb hby d1_17) rfl kq))))))))) ?_
    refine own_retN X0 hx hlk hret (by simp) (hb hby d1_18) (by decide) (by decide) ?_
    exact ⟨_, rfl, own_charR _, N0, e0⟩
theorem pn_of0 : plainName "com/example/davka/davka/AccountingCode" = true := by first | (simp [plainName, overriddenIn]; done) | decide +kernel
theorem ef_of0 (m : MethodId) (xs : Addr) (kx : ClassId) (x0 : Addr) (x1 : Addr) (x2 : Addr) (x3 : Addr) : entryFrame m #[(.int (48 : Int32))] 5 = mkF m 0 #[.val (.int (48 : Int32)), .unset, .unset, .unset, .unset] [] := by first | (simp [entryFrame, mkF, argsToLocals, Value.category]; done) | rfl
def Q_of0 (Z : State) (h0 : Heap) (n0 : Nat) (xs : Addr) (kx : ClassId) (x0 : Addr) (x1 : Addr) (x2 : Addr) (x3 : Addr) (v : Option Value) (h : Heap) (L : List Loc) : Prop := v = some (.ref x0) ∧ Fr n0 L ∧ h = h0
set_option maxRecDepth 65536 in
set_option maxHeartbeats 40000000 in
theorem of0 (l : Launch) (Z : State) (a0 : Array Value) (hw : ∀ d ∈ tables_1, d.before a0 Z = true) (ws : List Jvm.Cond) (h0 : Heap) (n0 : Nat) (O0 : Old Z n0 h0) (xs : Addr) (kx : ClassId) (x0 : Addr) (x1 : Addr) (x2 : Addr) (x3 : Addr) (SX : Sta Z Z.heap "com/example/davka/davka/AccountingCode" "CODES" "[Lcom/example/davka/davka/AccountingCode;" (.ref xs)) (VX : own_Ar Z Z.heap xs kx (.object "com/example/davka/davka/AccountingCode") [(.ref x0), (.ref x1), (.ref x2), (.ref x3)]) (S0 : Sta Z Z.heap "com/example/davka/davka/AccountingCode" "DEBIT" "Lcom/example/davka/davka/AccountingCode;" (.ref x0)) (A0 : Exa Z Z.heap x0 "com/example/davka/davka/AccountingCode") (B0 : Fld Z Z.heap x0 "com/example/davka/davka/AccountingCode" "digit" "C" (.int (48 : Int32))) (S1 : Sta Z Z.heap "com/example/davka/davka/AccountingCode" "CREDIT" "Lcom/example/davka/davka/AccountingCode;" (.ref x1)) (A1 : Exa Z Z.heap x1 "com/example/davka/davka/AccountingCode") (B1 : Fld Z Z.heap x1 "com/example/davka/davka/AccountingCode" "digit" "C" (.int (49 : Int32))) (S2 : Sta Z Z.heap "com/example/davka/davka/AccountingCode" "DEBIT_CANCELLATION" "Lcom/example/davka/davka/AccountingCode;" (.ref x2)) (A2 : Exa Z Z.heap x2 "com/example/davka/davka/AccountingCode") (B2 : Fld Z Z.heap x2 "com/example/davka/davka/AccountingCode" "digit" "C" (.int (50 : Int32))) (S3 : Sta Z Z.heap "com/example/davka/davka/AccountingCode" "CREDIT_CANCELLATION" "Lcom/example/davka/davka/AccountingCode;" (.ref x3)) (A3 : Exa Z Z.heap x3 "com/example/davka/davka/AccountingCode") (B3 : Fld Z Z.heap x3 "com/example/davka/davka/AccountingCode" "digit" "C" (.int (51 : Int32))) :
    MetFree l (⟨"com/example/davka/davka/AccountingCode", "of", "(C)Lcom/example/davka/davka/AccountingCode;"⟩ : MethodName) (head1 (Jvm.Cond.code (⟨"com/example/davka/davka/AccountingCode", "of", "(C)Lcom/example/davka/davka/AccountingCode;"⟩ : MethodName) prog_3_method_5_code 5 (some (.object "com/example/davka/davka/AccountingCode")) :: ws) ({ frames := 0, cells := 0, slots := 0, locals := 0 } : Room)) (fun aq U => aq = #[(.int (48 : Int32))] ∧ Z.Warmed39 U.vm ∧ U.heap = h0) (fun _ _ _ _ _ => True) (fun _ U oo U' => ∃ v L, oo = .returned v ∧ Q_of0 Z h0 n0 xs kx x0 x1 x2 x3 v U'.heap L ∧ FrameEnd U oo U' L ({ frames := 0, cells := 0, slots := 0, locals := 0 } : Room).cells ({ frames := 0, cells := 0, slots := 0, locals := 0 } : Room).slots) := by
  refine MetFree.of_bodySF (plainFor_of_name pn_of0) hisR ?_
  intro p e s m args below meth c s₁ Bd hml0 hP hK
  obtain ⟨rfl, hZ, hh⟩ := hP
  have hx := Bd.exec
  have hby := Bd.bytes
  have hml : c.maxLocals = 5 := hml0
  have hown : s.vm.findClass "com/example/davka/davka/AccountingCode" = some m.cls := findClass_of_methodNamed Bd.named
  have hnm := (name_of_methodNamed Bd.named Bd.method).1
  have hlk := Bd.notSynchronized
  have hret := Bd.returns
  have X0 : Stand p l e ({ frames := 0, cells := 0, slots := 0, locals := 0 } : Room) s m #[(.int (48 : Int32))] below meth c s₁ [] 0 0 := Stand.of_body Bd
  have e0 : s₁.heap = h0 := by rw [← hh, Bd.state]; rfl
  have N0 := Fr.nil n0
  have K0 := Keep.refl h0 []
  refine own_go (S' := (s₁.setTop (mkF m 0 #[.val (.int (48 : Int32)), .unset, .unset, .unset, .unset] []))) (fun tq kq => castTop (ef_of0 m xs kx x0 x1 x2 x3) kq) ?_
  show own_G p e s below (Q_of0 Z h0 n0 xs kx x0 x1 x2 x3) _ _ _
  obtain ⟨T101, X101, e101, st101⟩ := getS2 X0 hx hZ hown (host := "") (Or.inl (hw _ (List.mem_of_getElem? (i := 106) rfl))) Via.refl e0 (SX.ext O0.2) (g := (mkF m 0 #[.val (.int (48 : Int32)), .unset, .unset, .unset, .unset] [])) rfl (hb hby d23_0)
  refine own_go (S' := (T101.setTop (mkF m 5 #[.val (.int (48 : Int32)), .val (.ref xs), .unset, .unset, .unset] [(.ref xs)]))) (fun tq kq => st101 tq (XS.astoreN X101.here hx rfl (hb hby d23_3) rfl rfl (l' := #[.val (.int (48 : Int32)), .val (.ref xs), .unset, .unset, .unset]) rfl (XS.aloadN X101.here hx rfl (hb hby d23_4) rfl rfl kq))) ?_
  obtain ⟨cl102, Ar102, ln102⟩ := (VX.ext O0.2).len
  have lq102 : cl102.slots.size.toInt32 = (4 : Int32) := ln102.trans rfl
  refine own_go (S' := (T101.setTop (mkF m 16 #[.val (.int (48 : Int32)), .val (.ref xs), .val (.int (4 : Int32)), .val (.int (0 : Int32)), .unset] [(.int (0 : Int32)), (.ref xs)]))) (fun tq kq => X101.arraylength hx (by rw [e101]; exact Ar102.1) (State.isArrayOf_alike hZ.alike Ar102.2.1) (g := (mkF m 5 #[.val (.int (48 : Int32)), .val (.ref xs), .unset, .unset, .unset] [(.ref xs)])) rfl rfl (hb hby d23_5) tq (by rw [lq102]; exact (XS.istoreN X101.here hx rfl (hb hby d23_6) rfl (l' := #[.val (.int (48 : Int32)), .val (.ref xs), .val (.int (4 : Int32)), .unset, .unset]) rfl (XS.iconst X101.here hx rfl (hb hby d23_7) (XS.istoreN X101.here hx rfl (hb hby d23_8) rfl (l' := #[.val (.int (48 : Int32)), .val (.ref xs), .val (.int (4 : Int32)), .val (.int (0 : Int32)), .unset]) rfl (XS.iloadN X101.here hx rfl (hb hby d23_9) rfl (XS.iloadN X101.here hx rfl (hb hby d23_10) rfl (XS.icmpNo X101.here hx rfl (hb hby d23_11) rfl (tlt (by decide : (0 : Int32) < (4 : Int32))).2.1 (XS.aloadN X101.here hx rfl (hb hby d23_14) rfl rfl (XS.iloadN X101.here hx rfl (hb hby d23_15) rfl kq)))))))))) ?_
  obtain ⟨cl103, Ar103, -, -, hin103, hat103⟩ := (VX.ext O0.2).at (j := (0 : Int32)) (v := (.ref x0)) (by decide) rfl
  refine own_go (S' := (T101.setTop (mkF m 21 #[.val (.int (48 : Int32)), .val (.ref xs), .val (.int (4 : Int32)), .val (.int (0 : Int32)), .val (.ref x0)] [(.ref x0)]))) (fun tq kq => X101.aaload hx (j := (0 : Int32)) (v := (.ref x0)) (by rw [e101]; exact Ar103.1) (State.isArrayOf_alike hZ.alike Ar103.2.1) rfl Ar103.2.2 hin103 hat103 (g := (mkF m 16 #[.val (.int (48 : Int32)), .val (.ref xs), .val (.int (4 : Int32)), .val (.int (0 : Int32)), .unset] [(.int (0 : Int32)), (.ref xs)])) rfl rfl (hb hby d23_16) tq (XS.astore X101.here hx rfl (hb hby d23_17) rfl rfl (l' := #[.val (.int (48 : Int32)), .val (.ref xs), .val (.int (4 : Int32)), .val (.int (0 : Int32)), .val (.ref x0)]) rfl (XS.aload X101.here hx rfl (hb hby d23_19) rfl rfl kq))) ?_
  obtain ⟨T104, X104, e104, st104⟩ := getF X101 hx hZ hown (host := "") (Or.inl (hw _ (List.mem_of_getElem? (i := 109) rfl))) Via.refl e101 (B0.ext O0.2) (g := (mkF m 21 #[.val (.int (48 : Int32)), .val (.ref xs), .val (.int (4 : Int32)), .val (.int (0 : Int32)), .val (.ref x0)] [(.ref x0)])) rfl rfl (hb hby d23_21)
  refine own_go (S' := (T104.setTop (mkF m 30 #[.val (.int (48 : Int32)), .val (.ref xs), .val (.int (4 : Int32)), .val (.int (0 : Int32)), .val (.ref x0)] [(.ref x0)]))) (fun tq kq => st104 tq (XS.iloadN X104.here hx rfl (hb hby d23_24) rfl (XS.icmpNo X104.here hx rfl (hb hby d23_25) rfl (teq (by decide : (48 : Int32) = (48 : Int32))).2 (XS.aload X104.here hx rfl (hb hby d23_28) rfl rfl kq)))) ?_
  refine own_retA X104 hx hlk hret rfl rfl (hb hby d23_30) (by decide) (by decide) ?_
  exact ⟨rfl, N0, e104⟩
theorem pn_of1 : plainName "com/example/davka/davka/AccountingCode" = true := by first | (simp [plainName, overriddenIn]; done) | decide +kernel
theorem ef_of1 (m : MethodId) (xs : Addr) (kx : ClassId) (x0 : Addr) (x1 : Addr) (x2 : Addr) (x3 : Addr) : entryFrame m #[(.int (49 : Int32))] 5 = mkF m 0 #[.val (.int (49 : Int32)), .unset, .unset, .unset, .unset] [] := by first | (simp [entryFrame, mkF, argsToLocals, Value.category]; done) | rfl
def Q_of1 (Z : State) (h0 : Heap) (n0 : Nat) (xs : Addr) (kx : ClassId) (x0 : Addr) (x1 : Addr) (x2 : Addr) (x3 : Addr) (v : Option Value) (h : Heap) (L : List Loc) : Prop := v = some (.ref x1) ∧ Fr n0 L ∧ h = h0
set_option maxRecDepth 65536 in
set_option maxHeartbeats 40000000 in
theorem of1 (l : Launch) (Z : State) (a0 : Array Value) (hw : ∀ d ∈ tables_1, d.before a0 Z = true) (ws : List Jvm.Cond) (h0 : Heap) (n0 : Nat) (O0 : Old Z n0 h0) (xs : Addr) (kx : ClassId) (x0 : Addr) (x1 : Addr) (x2 : Addr) (x3 : Addr) (SX : Sta Z Z.heap "com/example/davka/davka/AccountingCode" "CODES" "[Lcom/example/davka/davka/AccountingCode;" (.ref xs)) (VX : own_Ar Z Z.heap xs kx (.object "com/example/davka/davka/AccountingCode") [(.ref x0), (.ref x1), (.ref x2), (.ref x3)]) (S0 : Sta Z Z.heap "com/example/davka/davka/AccountingCode" "DEBIT" "Lcom/example/davka/davka/AccountingCode;" (.ref x0)) (A0 : Exa Z Z.heap x0 "com/example/davka/davka/AccountingCode") (B0 : Fld Z Z.heap x0 "com/example/davka/davka/AccountingCode" "digit" "C" (.int (48 : Int32))) (S1 : Sta Z Z.heap "com/example/davka/davka/AccountingCode" "CREDIT" "Lcom/example/davka/davka/AccountingCode;" (.ref x1)) (A1 : Exa Z Z.heap x1 "com/example/davka/davka/AccountingCode") (B1 : Fld Z Z.heap x1 "com/example/davka/davka/AccountingCode" "digit" "C" (.int (49 : Int32))) (S2 : Sta Z Z.heap "com/example/davka/davka/AccountingCode" "DEBIT_CANCELLATION" "Lcom/example/davka/davka/AccountingCode;" (.ref x2)) (A2 : Exa Z Z.heap x2 "com/example/davka/davka/AccountingCode") (B2 : Fld Z Z.heap x2 "com/example/davka/davka/AccountingCode" "digit" "C" (.int (50 : Int32))) (S3 : Sta Z Z.heap "com/example/davka/davka/AccountingCode" "CREDIT_CANCELLATION" "Lcom/example/davka/davka/AccountingCode;" (.ref x3)) (A3 : Exa Z Z.heap x3 "com/example/davka/davka/AccountingCode") (B3 : Fld Z Z.heap x3 "com/example/davka/davka/AccountingCode" "digit" "C" (.int (51 : Int32))) :
    MetFree l (⟨"com/example/davka/davka/AccountingCode", "of", "(C)Lcom/example/davka/davka/AccountingCode;"⟩ : MethodName) (head1 (Jvm.Cond.code (⟨"com/example/davka/davka/AccountingCode", "of", "(C)Lcom/example/davka/davka/AccountingCode;"⟩ : MethodName) prog_3_method_5_code 5 (some (.object "com/example/davka/davka/AccountingCode")) :: ws) ({ frames := 0, cells := 0, slots := 0, locals := 0 } : Room)) (fun aq U => aq = #[(.int (49 : Int32))] ∧ Z.Warmed39 U.vm ∧ U.heap = h0) (fun _ _ _ _ _ => True) (fun _ U oo U' => ∃ v L, oo = .returned v ∧ Q_of1 Z h0 n0 xs kx x0 x1 x2 x3 v U'.heap L ∧ FrameEnd U oo U' L ({ frames := 0, cells := 0, slots := 0, locals := 0 } : Room).cells ({ frames := 0, cells := 0, slots := 0, locals := 0 } : Room).slots) := by
  refine MetFree.of_bodySF (plainFor_of_name pn_of1) hisR ?_
  intro p e s m args below meth c s₁ Bd hml0 hP hK
  obtain ⟨rfl, hZ, hh⟩ := hP
  have hx := Bd.exec
  have hby := Bd.bytes
  have hml : c.maxLocals = 5 := hml0
  have hown : s.vm.findClass "com/example/davka/davka/AccountingCode" = some m.cls := findClass_of_methodNamed Bd.named
  have hnm := (name_of_methodNamed Bd.named Bd.method).1
  have hlk := Bd.notSynchronized
  have hret := Bd.returns
  have X0 : Stand p l e ({ frames := 0, cells := 0, slots := 0, locals := 0 } : Room) s m #[(.int (49 : Int32))] below meth c s₁ [] 0 0 := Stand.of_body Bd
  have e0 : s₁.heap = h0 := by rw [← hh, Bd.state]; rfl
  have N0 := Fr.nil n0
  have K0 := Keep.refl h0 []
  refine own_go (S' := (s₁.setTop (mkF m 0 #[.val (.int (49 : Int32)), .unset, .unset, .unset, .unset] []))) (fun tq kq => castTop (ef_of1 m xs kx x0 x1 x2 x3) kq) ?_
  show own_G p e s below (Q_of1 Z h0 n0 xs kx x0 x1 x2 x3) _ _ _
  obtain ⟨T101, X101, e101, st101⟩ := getS2 X0 hx hZ hown (host := "") (Or.inl (hw _ (List.mem_of_getElem? (i := 106) rfl))) Via.refl e0 (SX.ext O0.2) (g := (mkF m 0 #[.val (.int (49 : Int32)), .unset, .unset, .unset, .unset] [])) rfl (hb hby d23_0)
  refine own_go (S' := (T101.setTop (mkF m 5 #[.val (.int (49 : Int32)), .val (.ref xs), .unset, .unset, .unset] [(.ref xs)]))) (fun tq kq => st101 tq (XS.astoreN X101.here hx rfl (hb hby d23_3) rfl rfl (l' := #[.val (.int (49 : Int32)), .val (.ref xs), .unset, .unset, .unset]) rfl (XS.aloadN X101.here hx rfl (hb hby d23_4) rfl rfl kq))) ?_
  obtain ⟨cl102, Ar102, ln102⟩ := (VX.ext O0.2).len
  have lq102 : cl102.slots.size.toInt32 = (4 : Int32) := ln102.trans rfl
  refine own_go (S' := (T101.setTop (mkF m 16 #[.val (.int (49 : Int32)), .val (.ref xs), .val (.int (4 : Int32)), .val (.int (0 : Int32)), .unset] [(.int (0 : Int32)), (.ref xs)]))) (fun tq kq => X101.arraylength hx (by rw [e101]; exact Ar102.1) (State.isArrayOf_alike hZ.alike Ar102.2.1) (g := (mkF m 5 #[.val (.int (49 : Int32)), .val (.ref xs), .unset, .unset, .unset] [(.ref xs)])) rfl rfl (hb hby d23_5) tq (by rw [lq102]; exact (XS.istoreN X101.here hx rfl (hb hby d23_6) rfl (l' := #[.val (.int (49 : Int32)), .val (.ref xs), .val (.int (4 : Int32)), .unset, .unset]) rfl (XS.iconst X101.here hx rfl (hb hby d23_7) (XS.istoreN X101.here hx rfl (hb hby d23_8) rfl (l' := #[.val (.int (49 : Int32)), .val (.ref xs), .val (.int (4 : Int32)), .val (.int (0 : Int32)), .unset]) rfl (XS.iloadN X101.here hx rfl (hb hby d23_9) rfl (XS.iloadN X101.here hx rfl (hb hby d23_10) rfl (XS.icmpNo X101.here hx rfl (hb hby d23_11) rfl (tlt (by decide : (0 : Int32) < (4 : Int32))).2.1 (XS.aloadN X101.here hx rfl (hb hby d23_14) rfl rfl (XS.iloadN X101.here hx rfl (hb hby d23_15) rfl kq)))))))))) ?_
  obtain ⟨cl103, Ar103, -, -, hin103, hat103⟩ := (VX.ext O0.2).at (j := (0 : Int32)) (v := (.ref x0)) (by decide) rfl
  refine own_go (S' := (T101.setTop (mkF m 21 #[.val (.int (49 : Int32)), .val (.ref xs), .val (.int (4 : Int32)), .val (.int (0 : Int32)), .val (.ref x0)] [(.ref x0)]))) (fun tq kq => X101.aaload hx (j := (0 : Int32)) (v := (.ref x0)) (by rw [e101]; exact Ar103.1) (State.isArrayOf_alike hZ.alike Ar103.2.1) rfl Ar103.2.2 hin103 hat103 (g := (mkF m 16 #[.val (.int (49 : Int32)), .val (.ref xs), .val (.int (4 : Int32)), .val (.int (0 : Int32)), .unset] [(.int (0 : Int32)), (.ref xs)])) rfl rfl (hb hby d23_16) tq (XS.astore X101.here hx rfl (hb hby d23_17) rfl rfl (l' := #[.val (.int (49 : Int32)), .val (.ref xs), .val (.int (4 : Int32)), .val (.int (0 : Int32)), .val (.ref x0)]) rfl (XS.aload X101.here hx rfl (hb hby d23_19) rfl rfl kq))) ?_
  obtain ⟨T104, X104, e104, st104⟩ := getF X101 hx hZ hown (host := "") (Or.inl (hw _ (List.mem_of_getElem? (i := 109) rfl))) Via.refl e101 (B0.ext O0.2) (g := (mkF m 21 #[.val (.int (49 : Int32)), .val (.ref xs), .val (.int (4 : Int32)), .val (.int (0 : Int32)), .val (.ref x0)] [(.ref x0)])) rfl rfl (hb hby d23_21)
  refine own_go (S' := (T104.setTop (mkF m 16 #[.val (.int (49 : Int32)), .val (.ref xs), .val (.int (4 : Int32)), .val (.int (1 : Int32)), .val (.ref x0)] [(.int (1 : Int32)), (.ref xs)]))) (fun tq kq => st104 tq (XS.iloadN X104.here hx rfl (hb hby d23_24) rfl (XS.icmpYes X104.here hx rfl (pc0 := 25) (pc' := 31) rfl (hb hby d23_25) rfl (feq (by decide : ¬ ((48 : Int32) = (49 : Int32)))).2 (by decide) (by decide) (XS.iinc X104.here hx rfl (hb hby d23_31) rfl (l' := #[.val (.int (49 : Int32)), .val (.ref xs), .val (.int (4 : Int32)), .val (.int (1 : Int32)), .val (.ref x0)]) rfl (XS.goto X104.here hx rfl (pc0 := 34) (pc' := 9) rfl (hb hby d23_34) (by decide) (by decide) (XS.iloadN X104.here hx rfl (hb hby d23_9) rfl (XS.iloadN X104.here hx rfl (hb hby d23_10) rfl (XS.icmpNo X104.here hx rfl (hb hby d23_11) rfl (tlt (by decide : (1 : Int32) < (4 : Int32))).2.1 (XS.aloadN X104.here hx rfl (hb hby d23_14) rfl rfl (XS.iloadN X104.here hx rfl (hb hby d23_15) rfl kq)))))))))) ?_
  obtain ⟨cl105, Ar105, -, -, hin105, hat105⟩ := (VX.ext O0.2).at (j := (1 : Int32)) (v := (.ref x1)) (by decide) rfl
  refine own_go (S' := (T104.setTop (mkF m 21 #[.val (.int (49 : Int32)), .val (.ref xs), .val (.int (4 : Int32)), .val (.int (1 : Int32)), .val (.ref x1)] [(.ref x1)]))) (fun tq kq => X104.aaload hx (j := (1 : Int32)) (v := (.ref x1)) (by rw [e104]; exact Ar105.1) (State.isArrayOf_alike hZ.alike Ar105.2.1) rfl Ar105.2.2 hin105 hat105 (g := (mkF m 16 #[.val (.int (49 : Int32)), .val (.ref xs), .val (.int (4 : Int32)), .val (.int (1 : Int32)), .val (.ref x0)] [(.int (1 : Int32)), (.ref xs)])) rfl rfl (hb hby d23_16) tq (XS.astore X104.here hx rfl (hb hby d23_17) rfl rfl (l' := #[.val (.int (49 : Int32)), .val (.ref xs), .val (.int (4 : Int32)), .val (.int (1 : Int32)), .val (.ref x1)]) rfl (XS.aload X104.here hx rfl (hb hby d23_19) rfl rfl kq))) ?_
  obtain ⟨T106, X106, e106, st106⟩ := getF X104 hx hZ hown (host := "") (Or.inl (hw _ (List.mem_of_getElem? (i := 109) rfl))) Via.refl e104 (B1.ext O0.2) (g := (mkF m 21 #[.val (.int (49 : Int32)), .val (.ref xs), .val (.int (4 : Int32)), .val (.int (1 : Int32)), .val (.ref x1)] [(.ref x1)])) rfl rfl (hb hby d23_21)
  refine own_go (S' := (T106.setTop (mkF m 30 #[.val (.int (49 : Int32)), .val (.ref xs), .val (.int (4 : Int32)), .val (.int (1 : Int32)), .val (.ref x1)] [(.ref x1)]))) (fun tq kq => st106 tq (XS.iloadN X106.here hx rfl (hb hby d23_24) rfl (XS.icmpNo X106.here hx rfl (hb hby d23_25) rfl (teq (by decide : (49 : Int32) = (49 : Int32))).2 (XS.aload X106.here hx rfl (hb hby d23_28) rfl rfl kq)))) ?_
  refine own_retA X106 hx hlk hret rfl rfl (hb hby d23_30) (by decide) (by decide) ?_
  exact ⟨rfl, N0, e106⟩
theorem pn_of2 : plainName "com/example/davka/davka/AccountingCode" = true := by first | (simp [plainName, overriddenIn]; done) | decide +kernel
theorem ef_of2 (m : MethodId) (xs : Addr) (kx : ClassId) (x0 : Addr) (x1 : Addr) (x2 : Addr) (x3 : Addr) : entryFrame m #[(.int (50 : Int32))] 5 = mkF m 0 #[.val (.int (50 : Int32)), .unset, .unset, .unset, .unset] [] := by first | (simp [entryFrame, mkF, argsToLocals, Value.category]; done) | rfl
def Q_of2 (Z : State) (h0 : Heap) (n0 : Nat) (xs : Addr) (kx : ClassId) (x0 : Addr) (x1 : Addr) (x2 : Addr) (x3 : Addr) (v : Option Value) (h : Heap) (L : List Loc) : Prop := v = some (.ref x2) ∧ Fr n0 L ∧ h = h0
set_option maxRecDepth 65536 in
set_option maxHeartbeats 40000000 in
theorem of2 (l : Launch) (Z : State) (a0 : Array Value) (hw : ∀ d ∈ tables_1, d.before a0 Z = true) (ws : List Jvm.Cond) (h0 : Heap) (n0 : Nat) (O0 : Old Z n0 h0) (xs : Addr) (kx : ClassId) (x0 : Addr) (x1 : Addr) (x2 : Addr) (x3 : Addr) (SX : Sta Z Z.heap "com/example/davka/davka/AccountingCode" "CODES" "[Lcom/example/davka/davka/AccountingCode;" (.ref xs)) (VX : own_Ar Z Z.heap xs kx (.object "com/example/davka/davka/AccountingCode") [(.ref x0), (.ref x1), (.ref x2), (.ref x3)]) (S0 : Sta Z Z.heap "com/example/davka/davka/AccountingCode" "DEBIT" "Lcom/example/davka/davka/AccountingCode;" (.ref x0)) (A0 : Exa Z Z.heap x0 "com/example/davka/davka/AccountingCode") (B0 : Fld Z Z.heap x0 "com/example/davka/davka/AccountingCode" "digit" "C" (.int (48 : Int32))) (S1 : Sta Z Z.heap "com/example/davka/davka/AccountingCode" "CREDIT" "Lcom/example/davka/davka/AccountingCode;" (.ref x1)) (A1 : Exa Z Z.heap x1 "com/example/davka/davka/AccountingCode") (B1 : Fld Z Z.heap x1 "com/example/davka/davka/AccountingCode" "digit" "C" (.int (49 : Int32))) (S2 : Sta Z Z.heap "com/example/davka/davka/AccountingCode" "DEBIT_CANCELLATION" "Lcom/example/davka/davka/AccountingCode;" (.ref x2)) (A2 : Exa Z Z.heap x2 "com/example/davka/davka/AccountingCode") (B2 : Fld Z Z.heap x2 "com/example/davka/davka/AccountingCode" "digit" "C" (.int (50 : Int32))) (S3 : Sta Z Z.heap "com/example/davka/davka/AccountingCode" "CREDIT_CANCELLATION" "Lcom/example/davka/davka/AccountingCode;" (.ref x3)) (A3 : Exa Z Z.heap x3 "com/example/davka/davka/AccountingCode") (B3 : Fld Z Z.heap x3 "com/example/davka/davka/AccountingCode" "digit" "C" (.int (51 : Int32))) :
    MetFree l (⟨"com/example/davka/davka/AccountingCode", "of", "(C)Lcom/example/davka/davka/AccountingCode;"⟩ : MethodName) (head1 (Jvm.Cond.code (⟨"com/example/davka/davka/AccountingCode", "of", "(C)Lcom/example/davka/davka/AccountingCode;"⟩ : MethodName) prog_3_method_5_code 5 (some (.object "com/example/davka/davka/AccountingCode")) :: ws) ({ frames := 0, cells := 0, slots := 0, locals := 0 } : Room)) (fun aq U => aq = #[(.int (50 : Int32))] ∧ Z.Warmed39 U.vm ∧ U.heap = h0) (fun _ _ _ _ _ => True) (fun _ U oo U' => ∃ v L, oo = .returned v ∧ Q_of2 Z h0 n0 xs kx x0 x1 x2 x3 v U'.heap L ∧ FrameEnd U oo U' L ({ frames := 0, cells := 0, slots := 0, locals := 0 } : Room).cells ({ frames := 0, cells := 0, slots := 0, locals := 0 } : Room).slots) := by
  refine MetFree.of_bodySF (plainFor_of_name pn_of2) hisR ?_
  intro p e s m args below meth c s₁ Bd hml0 hP hK
  obtain ⟨rfl, hZ, hh⟩ := hP
  have hx := Bd.exec
  have hby := Bd.bytes
  have hml : c.maxLocals = 5 := hml0
  have hown : s.vm.findClass "com/example/davka/davka/AccountingCode" = some m.cls := findClass_of_methodNamed Bd.named
  have hnm := (name_of_methodNamed Bd.named Bd.method).1
  have hlk := Bd.notSynchronized
  have hret := Bd.returns
  have X0 : Stand p l e ({ frames := 0, cells := 0, slots := 0, locals := 0 } : Room) s m #[(.int (50 : Int32))] below meth c s₁ [] 0 0 := Stand.of_body Bd
  have e0 : s₁.heap = h0 := by rw [← hh, Bd.state]; rfl
  have N0 := Fr.nil n0
  have K0 := Keep.refl h0 []
  refine own_go (S' := (s₁.setTop (mkF m 0 #[.val (.int (50 : Int32)), .unset, .unset, .unset, .unset] []))) (fun tq kq => castTop (ef_of2 m xs kx x0 x1 x2 x3) kq) ?_
  show own_G p e s below (Q_of2 Z h0 n0 xs kx x0 x1 x2 x3) _ _ _
  obtain ⟨T101, X101, e101, st101⟩ := getS2 X0 hx hZ hown (host := "") (Or.inl (hw _ (List.mem_of_getElem? (i := 106) rfl))) Via.refl e0 (SX.ext O0.2) (g := (mkF m 0 #[.val (.int (50 : Int32)), .unset, .unset, .unset, .unset] [])) rfl (hb hby d23_0)
  refine own_go (S' := (T101.setTop (mkF m 5 #[.val (.int (50 : Int32)), .val (.ref xs), .unset, .unset, .unset] [(.ref xs)]))) (fun tq kq => st101 tq (XS.astoreN X101.here hx rfl (hb hby d23_3) rfl rfl (l' := #[.val (.int (50 : Int32)), .val (.ref xs), .unset, .unset, .unset]) rfl (XS.aloadN X101.here hx rfl (hb hby d23_4) rfl rfl kq))) ?_
  obtain ⟨cl102, Ar102, ln102⟩ := (VX.ext O0.2).len
  have lq102 : cl102.slots.size.toInt32 = (4 : Int32) := ln102.trans rfl
  refine own_go (S' := (T101.setTop (mkF m 16 #[.val (.int (50 : Int32)), .val (.ref xs), .val (.int (4 : Int32)), .val (.int (0 : Int32)), .unset] [(.int (0 : Int32)), (.ref xs)]))) (fun tq kq => X101.arraylength hx (by rw [e101]; exact Ar102.1) (State.isArrayOf_alike hZ.alike Ar102.2.1) (g := (mkF m 5 #[.val (.int (50 : Int32)), .val (.ref xs), .unset, .unset, .unset] [(.ref xs)])) rfl rfl (hb hby d23_5) tq (by rw [lq102]; exact (XS.istoreN X101.here hx rfl (hb hby d23_6) rfl (l' := #[.val (.int (50 : Int32)), .val (.ref xs), .val (.int (4 : Int32)), .unset, .unset]) rfl (XS.iconst X101.here hx rfl (hb hby d23_7) (XS.istoreN X101.here hx rfl (hb hby d23_8) rfl (l' := #[.val (.int (50 : Int32)), .val (.ref xs), .val (.int (4 : Int32)), .val (.int (0 : Int32)), .unset]) rfl (XS.iloadN X101.here hx rfl (hb hby d23_9) rfl (XS.iloadN X101.here hx rfl (hb hby d23_10) rfl (XS.icmpNo X101.here hx rfl (hb hby d23_11) rfl (tlt (by decide : (0 : Int32) < (4 : Int32))).2.1 (XS.aloadN X101.here hx rfl (hb hby d23_14) rfl rfl (XS.iloadN X101.here hx rfl (hb hby d23_15) rfl kq)))))))))) ?_
  obtain ⟨cl103, Ar103, -, -, hin103, hat103⟩ := (VX.ext O0.2).at (j := (0 : Int32)) (v := (.ref x0)) (by decide) rfl
  refine own_go (S' := (T101.setTop (mkF m 21 #[.val (.int (50 : Int32)), .val (.ref xs), .val (.int (4 : Int32)), .val (.int (0 : Int32)), .val (.ref x0)] [(.ref x0)]))) (fun tq kq => X101.aaload hx (j := (0 : Int32)) (v := (.ref x0)) (by rw [e101]; exact Ar103.1) (State.isArrayOf_alike hZ.alike Ar103.2.1) rfl Ar103.2.2 hin103 hat103 (g := (mkF m 16 #[.val (.int (50 : Int32)), .val (.ref xs), .val (.int (4 : Int32)), .val (.int (0 : Int32)), .unset] [(.int (0 : Int32)), (.ref xs)])) rfl rfl (hb hby d23_16) tq (XS.astore X101.here hx rfl (hb hby d23_17) rfl rfl (l' := #[.val (.int (50 : Int32)), .val (.ref xs), .val (.int (4 : Int32)), .val (.int (0 : Int32)), .val (.ref x0)]) rfl (XS.aload X101.here hx rfl (hb hby d23_19) rfl rfl kq))) ?_
  obtain ⟨T104, X104, e104, st104⟩ := getF X101 hx hZ hown (host := "") (Or.inl (hw _ (List.mem_of_getElem? (i := 109) rfl))) Via.refl e101 (B0.ext O0.2) (g := (mkF m 21 #[.val (.int (50 : Int32)), .val (.ref xs), .val (.int (4 : Int32)), .val (.int (0 : Int32)), .val (.ref x0)] [(.ref x0)])) rfl rfl (hb hby d23_21)
  refine own_go (S' := (T104.setTop (mkF m 16 #[.val (.int (50 : Int32)), .val (.ref xs), .val (.int (4 : Int32)), .val (.int (1 : Int32)), .val (.ref x0)] [(.int (1 : Int32)), (.ref xs)]))) (fun tq kq => st104 tq (XS.iloadN X104.here hx rfl (hb hby d23_24) rfl (XS.icmpYes X104.here hx rfl (pc0 := 25) (pc' := 31) rfl (hb hby d23_25) rfl (feq (by decide : ¬ ((48 : Int32) = (50 : Int32)))).2 (by decide) (by decide) (XS.iinc X104.here hx rfl (hb hby d23_31) rfl (l' := #[.val (.int (50 : Int32)), .val (.ref xs), .val (.int (4 : Int32)), .val (.int (1 : Int32)), .val (.ref x0)]) rfl (XS.goto X104.here hx rfl (pc0 := 34) (pc' := 9) rfl (hb hby d23_34) (by decide) (by decide) (XS.iloadN X104.here hx rfl (hb hby d23_9) rfl (XS.iloadN X104.here hx rfl (hb hby d23_10) rfl (XS.icmpNo X104.here hx rfl (hb hby d23_11) rfl (tlt (by decide : (1 : Int32) < (4 : Int32))).2.1 (XS.aloadN X104.here hx rfl (hb hby d23_14) rfl rfl (XS.iloadN X104.here hx rfl (hb hby d23_15) rfl kq)))))))))) ?_
  obtain ⟨cl105, Ar105, -, -, hin105, hat105⟩ := (VX.ext O0.2).at (j := (1 : Int32)) (v := (.ref x1)) (by decide) rfl
  refine own_go (S' := (T104.setTop (mkF m 21 #[.val (.int (50 : Int32)), .val (.ref xs), .val (.int (4 : Int32)), .val (.int (1 : Int32)), .val (.ref x1)] [(.ref x1)]))) (fun tq kq => X104.aaload hx (j := (1 : Int32)) (v := (.ref x1)) (by rw [e104]; exact Ar105.1) (State.isArrayOf_alike hZ.alike Ar105.2.1) rfl Ar105.2.2 hin105 hat105 (g := (mkF m 16 #[.val (.int (50 : Int32)), .val (.ref xs), .val (.int (4 : Int32)), .val (.int (1 : Int32)), .val (.ref x0)] [(.int (1 : Int32)), (.ref xs)])) rfl rfl (hb hby d23_16) tq (XS.astore X104.here hx rfl (hb hby d23_17) rfl rfl (l' := #[.val (.int (50 : Int32)), .val (.ref xs), .val (.int (4 : Int32)), .val (.int (1 : Int32)), .val (.ref x1)]) rfl (XS.aload X104.here hx rfl (hb hby d23_19) rfl rfl kq))) ?_
  obtain ⟨T106, X106, e106, st106⟩ := getF X104 hx hZ hown (host := "") (Or.inl (hw _ (List.mem_of_getElem? (i := 109) rfl))) Via.refl e104 (B1.ext O0.2) (g := (mkF m 21 #[.val (.int (50 : Int32)), .val (.ref xs), .val (.int (4 : Int32)), .val (.int (1 : Int32)), .val (.ref x1)] [(.ref x1)])) rfl rfl (hb hby d23_21)
  refine own_go (S' := (T106.setTop (mkF m 16 #[.val (.int (50 : Int32)), .val (.ref xs), .val (.int (4 : Int32)), .val (.int (2 : Int32)), .val (.ref x1)] [(.int (2 : Int32)), (.ref xs)]))) (fun tq kq => st106 tq (XS.iloadN X106.here hx rfl (hb hby d23_24) rfl (XS.icmpYes X106.here hx rfl (pc0 := 25) (pc' := 31) rfl (hb hby d23_25) rfl (feq (by decide : ¬ ((49 : Int32) = (50 : Int32)))).2 (by decide) (by decide) (XS.iinc X106.here hx rfl (hb hby d23_31) rfl (l' := #[.val (.int (50 : Int32)), .val (.ref xs), .val (.int (4 : Int32)), .val (.int (2 : Int32)), .val (.ref x1)]) rfl (XS.goto X106.here hx rfl (pc0 := 34) (pc' := 9) rfl (hb hby d23_34) (by decide) (by decide) (XS.iloadN X106.here hx rfl (hb hby d23_9) rfl (XS.iloadN X106.here hx rfl (hb hby d23_10) rfl (XS.icmpNo X106.here hx rfl (hb hby d23_11) rfl (tlt (by decide : (2 : Int32) < (4 : Int32))).2.1 (XS.aloadN X106.here hx rfl (hb hby d23_14) rfl rfl (XS.iloadN X106.here hx rfl (hb hby d23_15) rfl kq)))))))))) ?_
  obtain ⟨cl107, Ar107, -, -, hin107, hat107⟩ := (VX.ext O0.2).at (j := (2 : Int32)) (v := (.ref x2)) (by decide) rfl
  refine own_go (S' := (T106.setTop (mkF m 21 #[.val (.int (50 : Int32)), .val (.ref xs), .val (.int (4 : Int32)), .val (.int (2 : Int32)), .val (.ref x2)] [(.ref x2)]))) (fun tq kq => X106.aaload hx (j := (2 : Int32)) (v := (.ref x2)) (by rw [e106]; exact Ar107.1) (State.isArrayOf_alike hZ.alike Ar107.2.1) rfl Ar107.2.2 hin107 hat107 (g := (mkF m 16 #[.val (.int (50 : Int32)), .val (.ref xs), .val (.int (4 : Int32)), .val (.int (2 : Int32)), .val (.ref x1)] [(.int (2 : Int32)), (.ref xs)])) rfl rfl (hb hby d23_16) tq (XS.astore X106.here hx rfl (hb hby d23_17) rfl rfl (l' := #[.val (.int (50 : Int32)), .val (.ref xs), .val (.int (4 : Int32)), .val (.int (2 : Int32)), .val (.ref x2)]) rfl (XS.aload X106.here hx rfl (hb hby d23_19) rfl rfl kq))) ?_
  obtain ⟨T108, X108, e108, st108⟩ := getF X106 hx hZ hown (host := "") (Or.inl (hw _ (List.mem_of_getElem? (i := 109) rfl))) Via.refl e106 (B2.ext O0.2) (g := (mkF m 21 #[.val (.int (50 : Int32)), .val (.ref xs), .val (.int (4 : Int32)), .val (.int (2 : Int32)), .val (.ref x2)] [(.ref x2)])) rfl rfl (hb hby d23_21)
  refine own_go (S' := (T108.setTop (mkF m 30 #[.val (.int (50 : Int32)), .val (.ref xs), .val (.int (4 : Int32)), .val (.int (2 : Int32)), .val (.ref x2)] [(.ref x2)]))) (fun tq kq => st108 tq (XS.iloadN X108.here hx rfl (hb hby d23_24) rfl (XS.icmpNo X108.here hx rfl (hb hby d23_25) rfl (teq (by decide : (50 : Int32) = (50 : Int32))).2 (XS.aload X108.here hx rfl (hb hby d23_28) rfl rfl kq)))) ?_
  refine own_retA X108 hx hlk hret rfl rfl (hb hby d23_30) (by decide) (by decide) ?_
  exact ⟨rfl, N0, e108⟩
theorem pn_of3 : plainName "com/example/davka/davka/AccountingCode" = true := by first | (simp [plainName, overriddenIn]; done) | decide +kernel
theorem ef_of3 (m : MethodId) (xs : Addr) (kx : ClassId) (x0 : Addr) (x1 : Addr) (x2 : Addr) (x3 : Addr) : entryFrame m #[(.int (51 : Int32))] 5 = mkF m 0 #[.val (.int (51 : Int32)), .unset, .unset, .unset, .unset] [] := by first | (simp [entryFrame, mkF, argsToLocals, Value.category]; done) | rfl
def Q_of3 (Z : State) (h0 : Heap) (n0 : Nat) (xs : Addr) (kx : ClassId) (x0 : Addr) (x1 : Addr) (x2 : Addr) (x3 : Addr) (v : Option Value) (h : Heap) (L : List Loc) : Prop := v = some (.ref x3) ∧ Fr n0 L ∧ h = h0
set_option maxRecDepth 65536 in
set_option maxHeartbeats 40000000 in
theorem of3 (l : Launch) (Z : State) (a0 : Array Value) (hw : ∀ d ∈ tables_1, d.before a0 Z = true) (ws : List Jvm.Cond) (h0 : Heap) (n0 : Nat) (O0 : Old Z n0 h0) (xs : Addr) (kx : ClassId) (x0 : Addr) (x1 : Addr) (x2 : Addr) (x3 : Addr) (SX : Sta Z Z.heap "com/example/davka/davka/AccountingCode" "CODES" "[Lcom/example/davka/davka/AccountingCode;" (.ref xs)) (VX : own_Ar Z Z.heap xs kx (.object "com/example/davka/davka/AccountingCode") [(.ref x0), (.ref x1), (.ref x2), (.ref x3)]) (S0 : Sta Z Z.heap "com/example/davka/davka/AccountingCode" "DEBIT" "Lcom/example/davka/davka/AccountingCode;" (.ref x0)) (A0 : Exa Z Z.heap x0 "com/example/davka/davka/AccountingCode") (B0 : Fld Z Z.heap x0 "com/example/davka/davka/AccountingCode" "digit" "C" (.int (48 : Int32))) (S1 : Sta Z Z.heap "com/example/davka/davka/AccountingCode" "CREDIT" "Lcom/example/davka/davka/AccountingCode;" (.ref x1)) (A1 : Exa Z Z.heap x1 "com/example/davka/davka/AccountingCode") (B1 : Fld Z Z.heap x1 "com/example/davka/davka/AccountingCode" "digit" "C" (.int (49 : Int32))) (S2 : Sta Z Z.heap "com/example/davka/davka/AccountingCode" "DEBIT_CANCELLATION" "Lcom/example/davka/davka/AccountingCode;" (.ref x2)) (A2 : Exa Z Z.heap x2 "com/example/davka/davka/AccountingCode") (B2 : Fld Z Z.heap x2 "com/example/davka/davka/AccountingCode" "digit" "C" (.int (50 : Int32))) (S3 : Sta Z Z.heap "com/example/davka/davka/AccountingCode" "CREDIT_CANCELLATION" "Lcom/example/davka/davka/AccountingCode;" (.ref x3)) (A3 : Exa Z Z.heap x3 "com/example/davka/davka/AccountingCode") (B3 : Fld Z Z.heap x3 "com/example/davka/davka/AccountingCode" "digit" "C" (.int (51 : Int32))) :
    MetFree l (⟨"com/example/davka/davka/AccountingCode", "of", "(C)Lcom/example/davka/davka/AccountingCode;"⟩ : MethodName) (head1 (Jvm.Cond.code (⟨"com/example/davka/davka/AccountingCode", "of", "(C)Lcom/example/davka/davka/AccountingCode;"⟩ : MethodName) prog_3_method_5_code 5 (some (.object "com/example/davka/davka/AccountingCode")) :: ws) ({ frames := 0, cells := 0, slots := 0, locals := 0 } : Room)) (fun aq U => aq = #[(.int (51 : Int32))] ∧ Z.Warmed39 U.vm ∧ U.heap = h0) (fun _ _ _ _ _ => True) (fun _ U oo U' => ∃ v L, oo = .returned v ∧ Q_of3 Z h0 n0 xs kx x0 x1 x2 x3 v U'.heap L ∧ FrameEnd U oo U' L ({ frames := 0, cells := 0, slots := 0, locals := 0 } : Room).cells ({ frames := 0, cells := 0, slots := 0, locals := 0 } : Room).slots) := by
  refine MetFree.of_bodySF (plainFor_of_name pn_of3) hisR ?_
  intro p e s m args below meth c s₁ Bd hml0 hP hK
  obtain ⟨rfl, hZ, hh⟩ := hP
  have hx := Bd.exec
  have hby := Bd.bytes
  have hml : c.maxLocals = 5 := hml0
  have hown : s.vm.findClass "com/example/davka/davka/AccountingCode" = some m.cls := findClass_of_methodNamed Bd.named
  have hnm := (name_of_methodNamed Bd.named Bd.method).1
  have hlk := Bd.notSynchronized
  have hret := Bd.returns
  have X0 : Stand p l e ({ frames := 0, cells := 0, slots := 0, locals := 0 } : Room) s m #[(.int (51 : Int32))] below meth c s₁ [] 0 0 := Stand.of_body Bd
  have e0 : s₁.heap = h0 := by rw [← hh, Bd.state]; rfl
  have N0 := Fr.nil n0
  have K0 := Keep.refl h0 []
  refine own_go (S' := (s₁.setTop (mkF m 0 #[.val (.int (51 : Int32)), .unset, .unset, .unset, .unset] []))) (fun tq kq => castTop (ef_of3 m xs kx x0 x1 x2 x3) kq) ?_
  show own_G p e s below (Q_of3 Z h0 n0 xs kx x0 x1 x2 x3) _ _ _
  obtain ⟨T101, X101, e101, st101⟩ := getS2 X0 hx hZ hown (host := "") (Or.inl (hw _ (List.mem_of_getElem? (i := 106) rfl))) Via.refl e0 (SX.ext O0.2) (g := (mkF m 0 #[.val (.int (51 : Int32)), .unset, .unset, .unset, .unset] [])) rfl (hb hby d23_0)
  refine own_go (S' := (T101.setTop (mkF m 5 #[.val (.int (51 : Int32)), .val (.ref xs), .unset, .unset, .unset] [(.ref xs)]))) (fun tq kq => st101 tq (XS.astoreN X101.here hx rfl (hb hby d23_3) rfl rfl (l' := #[.val (.int (51 : Int32)), .val (.ref xs), .unset, .unset, .unset]) rfl (XS.aloadN X101.here hx rfl (hb hby d23_4) rfl rfl kq))) ?_
  obtain ⟨cl102, Ar102, ln102⟩ := (VX.ext O0.2).len
  have lq102 : cl102.slots.size.toInt32 = (4 : Int32) := ln102.trans rfl
  refine own_go (S' := (T101.setTop (mkF m 16 #[.val (.int (51 : Int32)), .val (.ref xs), .val (.int (4 : Int32)), .val (.int (0 : Int32)), .unset] [(.int (0 : Int32)), (.ref xs)]))) (fun tq kq => X101.arraylength hx (by rw [e101]; exact Ar102.1) (State.isArrayOf_alike hZ.alike Ar102.2.1) (g := (mkF m 5 #[.val (.int (51 : Int32)), .val (.ref xs), .unset, .unset, .unset] [(.ref xs)])) rfl rfl (hb hby d23_5) tq (by rw [lq102]; exact (XS.istoreN X101.here hx rfl (hb hby d23_6) rfl (l' := #[.val (.int (51 : Int32)), .val (.ref xs), .val (.int (4 : Int32)), .unset, .unset]) rfl (XS.iconst X101.here hx rfl (hb hby d23_7) (XS.istoreN X101.here hx rfl (hb hby d23_8) rfl (l' := #[.val (.int (51 : Int32)), .val (.ref xs), .val (.int (4 : Int32)), .val (.int (0 : Int32)), .unset]) rfl (XS.iloadN X101.here hx rfl (hb hby d23_9) rfl (XS.iloadN X101.here hx rfl (hb hby d23_10) rfl (XS.icmpNo X101.here hx rfl (hb hby d23_11) rfl (tlt (by decide : (0 : Int32) < (4 : Int32))).2.1 (XS.aloadN X101.here hx rfl (hb hby d23_14) rfl rfl (XS.iloadN X101.here hx rfl (hb hby d23_15) rfl kq)))))))))) ?_
  obtain ⟨cl103, Ar103, -, -, hin103, hat103⟩ := (VX.ext O0.2).at (j := (0 : Int32)) (v := (.ref x0)) (by decide) rfl
  refine own_go (S' := (T101.setTop (mkF m 21 #[.val (.int (51 : Int32)), .val (.ref xs), .val (.int (4 : Int32)), .val (.int (0 : Int32)), .val (.ref x0)] [(.ref x0)]))) (fun tq kq => X101.aaload hx (j := (0 : Int32)) (v := (.ref x0)) (by rw [e101]; exact Ar103.1) (State.isArrayOf_alike hZ.alike Ar103.2.1) rfl Ar103.2.2 hin103 hat103 (g := (mkF m 16 #[.val (.int (51 : Int32)), .val (.ref xs), .val (.int (4 : Int32)), .val (.int (0 : Int32)), .unset] [(.int (0 : Int32)), (.ref xs)])) rfl rfl (hb hby d23_16) tq (XS.astore X101.here hx rfl (hb hby d23_17) rfl rfl (l' := #[.val (.int (51 : Int32)), .val (.ref xs), .val (.int (4 : Int32)), .val (.int (0 : Int32)), .val (.ref x0)]) rfl (XS.aload X101.here hx rfl (hb hby d23_19) rfl rfl kq))) ?_
  obtain ⟨T104, X104, e104, st104⟩ := getF X101 hx hZ hown (host := "") (Or.inl (hw _ (List.mem_of_getElem? (i := 109) rfl))) Via.refl e101 (B0.ext O0.2) (g := (mkF m 21 #[.val (.int (51 : Int32)), .val (.ref xs), .val (.int (4 : Int32)), .val (.int (0 : Int32)), .val (.ref x0)] [(.ref x0)])) rfl rfl (hb hby d23_21)
  refine own_go (S' := (T104.setTop (mkF m 16 #[.val (.int (51 : Int32)), .val (.ref xs), .val (.int (4 : Int32)), .val (.int (1 : Int32)), .val (.ref x0)] [(.int (1 : Int32)), (.ref xs)]))) (fun tq kq => st104 tq (XS.iloadN X104.here hx rfl (hb hby d23_24) rfl (XS.icmpYes X104.here hx rfl (pc0 := 25) (pc' := 31) rfl (hb hby d23_25) rfl (feq (by decide : ¬ ((48 : Int32) = (51 : Int32)))).2 (by decide) (by decide) (XS.iinc X104.here hx rfl (hb hby d23_31) rfl (l' := #[.val (.int (51 : Int32)), .val (.ref xs), .val (.int (4 : Int32)), .val (.int (1 : Int32)), .val (.ref x0)]) rfl (XS.goto X104.here hx rfl (pc0 := 34) (pc' := 9) rfl (hb hby d23_34) (by decide) (by decide) (XS.iloadN X104.here hx rfl (hb hby d23_9) rfl (XS.iloadN X104.here hx rfl (hb hby d23_10) rfl (XS.icmpNo X104.here hx rfl (hb hby d23_11) rfl (tlt (by decide : (1 : Int32) < (4 : Int32))).2.1 (XS.aloadN X104.here hx rfl (hb hby d23_14) rfl rfl (XS.iloadN X104.here hx rfl (hb hby d23_15) rfl kq)))))))))) ?_
  obtain ⟨cl105, Ar105, -, -, hin105, hat105⟩ := (VX.ext O0.2).at (j := (1 : Int32)) (v := (.ref x1)) (by decide) rfl
  refine own_go (S' := (T104.setTop (mkF m 21 #[.val (.int (51 : Int32)), .val (.ref xs), .val (.int (4 : Int32)), .val (.int (1 : Int32)), .val (.ref x1)] [(.ref x1)]))) (fun tq kq => X104.aaload hx (j := (1 : Int32)) (v := (.ref x1)) (by rw [e104]; exact Ar105.1) (State.isArrayOf_alike hZ.alike Ar105.2.1) rfl Ar105.2.2 hin105 hat105 (g := (mkF m 16 #[.val (.int (51 : Int32)), .val (.ref xs), .val (.int (4 : Int32)), .val (.int (1 : Int32)), .val (.ref x0)] [(.int (1 : Int32)), (.ref xs)])) rfl rfl (hb hby d23_16) tq (XS.astore X104.here hx rfl (hb hby d23_17) rfl rfl (l' := #[.val (.int (51 : Int32)), .val (.ref xs), .val (.int (4 : Int32)), .val (.int (1 : Int32)), .val (.ref x1)]) rfl (XS.aload X104.here hx rfl (hb hby d23_19) rfl rfl kq))) ?_
  obtain ⟨T106, X106, e106, st106⟩ := getF X104 hx hZ hown (host := "") (Or.inl (hw _ (List.mem_of_getElem? (i := 109) rfl))) Via.refl e104 (B1.ext O0.2) (g := (mkF m 21 #[.val (.int (51 : Int32)), .val (.ref xs), .val (.int (4 : Int32)), .val (.int (1 : Int32)), .val (.ref x1)] [(.ref x1)])) rfl rfl (hb hby d23_21)
  refine own_go (S' := (T106.setTop (mkF m 16 #[.val (.int (51 : Int32)), .val (.ref xs), .val (.int (4 : Int32)), .val (.int (2 : Int32)), .val (.ref x1)] [(.int (2 : Int32)), (.ref xs)]))) (fun tq kq => st106 tq (XS.iloadN X106.here hx rfl (hb hby d23_24) rfl (XS.icmpYes X106.here hx rfl (pc0 := 25) (pc' := 31) rfl (hb hby d23_25) rfl (feq (by decide : ¬ ((49 : Int32) = (51 : Int32)))).2 (by decide) (by decide) (XS.iinc X106.here hx rfl (hb hby d23_31) rfl (l' := #[.val (.int (51 : Int32)), .val (.ref xs), .val (.int (4 : Int32)), .val (.int (2 : Int32)), .val (.ref x1)]) rfl (XS.goto X106.here hx rfl (pc0 := 34) (pc' := 9) rfl (hb hby d23_34) (by decide) (by decide) (XS.iloadN X106.here hx rfl (hb hby d23_9) rfl (XS.iloadN X106.here hx rfl (hb hby d23_10) rfl (XS.icmpNo X106.here hx rfl (hb hby d23_11) rfl (tlt (by decide : (2 : Int32) < (4 : Int32))).2.1 (XS.aloadN X106.here hx rfl (hb hby d23_14) rfl rfl (XS.iloadN X106.here hx rfl (hb hby d23_15) rfl kq)))))))))) ?_
  obtain ⟨cl107, Ar107, -, -, hin107, hat107⟩ := (VX.ext O0.2).at (j := (2 : Int32)) (v := (.ref x2)) (by decide) rfl
  refine own_go (S' := (T106.setTop (mkF m 21 #[.val (.int (51 : Int32)), .val (.ref xs), .val (.int (4 : Int32)), .val (.int (2 : Int32)), .val (.ref x2)] [(.ref x2)]))) (fun tq kq => X106.aaload hx (j := (2 : Int32)) (v := (.ref x2)) (by rw [e106]; exact Ar107.1) (State.isArrayOf_alike hZ.alike Ar107.2.1) rfl Ar107.2.2 hin107 hat107 (g := (mkF m 16 #[.val (.int (51 : Int32)), .val (.ref xs), .val (.int (4 : Int32)), .val (.int (2 : Int32)), .val (.ref x1)] [(.int (2 : Int32)), (.ref xs)])) rfl rfl (hb hby d23_16) tq (XS.astore X106.here hx rfl (hb hby d23_17) rfl rfl (l' := #[.val (.int (51 : Int32)), .val (.ref xs), .val (.int (4 : Int32)), .val (.int (2 : Int32)), .val (.ref x2)]) rfl (XS.aload X106.here hx rfl (hb hby d23_19) rfl rfl kq))) ?_
  obtain ⟨T108, X108, e108, st108⟩ := getF X106 hx hZ hown (host := "") (Or.inl (hw _ (List.mem_of_getElem? (i := 109) rfl))) Via.refl e106 (B2.ext O0.2) (g := (mkF m 21 #[.val (.int (51 : Int32)), .val (.ref xs), .val (.int (4 : Int32)), .val (.int (2 : Int32)), .val (.ref x2)] [(.ref x2)])) rfl rfl (hb hby d23_21)
  refine own_go (S' := (T108.setTop (mkF m 16 #[.val (.int (51 : Int32)), .val (.ref xs), .val (.int (4 : Int32)), .val (.int (3 : Int32)), .val (.ref x2)] [(.int (3 : Int32)), (.ref xs)]))) (fun tq kq => st108 tq (XS.iloadN X108.here hx rfl (hb hby d23_24) rfl (XS.icmpYes X108.here hx rfl (pc0 := 25) (pc' := 31) rfl (hb hby d23_25) rfl (feq (by decide : ¬ ((50 : Int32) = (51 : Int32)))).2 (by decide) (by decide) (XS.iinc X108.here hx rfl (hb hby d23_31) rfl (l' := #[.val (.int (51 : Int32)), .val (.ref xs), .val (.int (4 : Int32)), .val (.int (3 : Int32)), .val (.ref x2)]) rfl (XS.goto X108.here hx rfl (pc0 := 34) (pc' := 9) rfl (hb hby d23_34) (by decide) (by decide) (XS.iloadN X108.here hx rfl (hb hby d23_9) rfl (XS.iloadN X108.here hx rfl (hb hby d23_10) rfl (XS.icmpNo X108.here hx rfl (hb hby d23_11) rfl (tlt (by decide : (3 : Int32) < (4 : Int32))).2.1 (XS.aloadN X108.here hx rfl (hb hby d23_14) rfl rfl (XS.iloadN X108.here hx rfl (hb hby d23_15) rfl kq)))))))))) ?_
  obtain ⟨cl109, Ar109, -, -, hin109, hat109⟩ := (VX.ext O0.2).at (j := (3 : Int32)) (v := (.ref x3)) (by decide) rfl
  refine own_go (S' := (T108.setTop (mkF m 21 #[.val (.int (51 : Int32)), .val (.ref xs), .val (.int (4 : Int32)), .val (.int (3 : Int32)), .val (.ref x3)] [(.ref x3)]))) (fun tq kq => X108.aaload hx (j := (3 : Int32)) (v := (.ref x3)) (by rw [e108]; exact Ar109.1) (State.isArrayOf_alike hZ.alike Ar109.2.1) rfl Ar109.2.2 hin109 hat109 (g := (mkF m 16 #[.val (.int (51 : Int32)), .val (.ref xs), .val (.int (4 : Int32)), .val (.int (3 : Int32)), .val (.ref x2)] [(.int (3 : Int32)), (.ref xs)])) rfl rfl (hb hby d23_16) tq (XS.astore X108.here hx rfl (hb hby d23_17) rfl rfl (l' := #[.val (.int (51 : Int32)), .val (.ref xs), .val (.int (4 : Int32)), .val (.int (3 : Int32)), .val (.ref x3)]) rfl (XS.aload X108.here hx rfl (hb hby d23_19) rfl rfl kq))) ?_
  obtain ⟨T110, X110, e110, st110⟩ := getF X108 hx hZ hown (host := "") (Or.inl (hw _ (List.mem_of_getElem? (i := 109) rfl))) Via.refl e108 (B3.ext O0.2) (g := (mkF m 21 #[.val (.int (51 : Int32)), .val (.ref xs), .val (.int (4 : Int32)), .val (.int (3 : Int32)), .val (.ref x3)] [(.ref x3)])) rfl rfl (hb hby d23_21)
  refine own_go (S' := (T110.setTop (mkF m 30 #[.val (.int (51 : Int32)), .val (.ref xs), .val (.int (4 : Int32)), .val (.int (3 : Int32)), .val (.ref x3)] [(.ref x3)]))) (fun tq kq => st110 tq (XS.iloadN X110.here hx rfl (hb hby d23_24) rfl (XS.icmpNo X110.here hx rfl (hb hby d23_25) rfl (teq (by decide : (51 : Int32) = (51 : Int32))).2 (XS.aload X110.here hx rfl (hb hby d23_28) rfl rfl kq)))) ?_
  refine own_retA X110 hx hlk hret rfl rfl (hb hby d23_30) (by decide) (by decide) ?_
  exact ⟨rfl, N0, e110⟩
theorem pn_ofn : plainName "com/example/davka/davka/AccountingCode" = true := by first | (simp [plainName, overriddenIn]; done) | decide +kernel
theorem ef_ofn (m : MethodId) (xs : Addr) (kx : ClassId) (x0 : Addr) (x1 : Addr) (x2 : Addr) (x3 : Addr) (ch : Int32) : entryFrame m #[(.int ch)] 5 = mkF m 0 #[.val (.int ch), .unset, .unset, .unset, .unset] [] := by first | (simp [entryFrame, mkF, argsToLocals, Value.category]; done) | rfl
def Q_ofn (Z : State) (h0 : Heap) (n0 : Nat) (xs : Addr) (kx : ClassId) (x0 : Addr) (x1 : Addr) (x2 : Addr) (x3 : Addr) (ch : Int32) (v : Option Value) (h : Heap) (L : List Loc) : Prop := v = some .null ∧ Fr n0 L ∧ h = h0
set_option maxRecDepth 65536 in
set_option maxHeartbeats 40000000 in
theorem ofn (l : Launch) (Z : State) (a0 : Array Value) (hw : ∀ d ∈ tables_1, d.before a0 Z = true) (ws : List Jvm.Cond) (h0 : Heap) (n0 : Nat) (O0 : Old Z n0 h0) (xs : Addr) (kx : ClassId) (x0 : Addr) (x1 : Addr) (x2 : Addr) (x3 : Addr) (ch : Int32) (SX : Sta Z Z.heap "com/example/davka/davka/AccountingCode" "CODES" "[Lcom/example/davka/davka/AccountingCode;" (.ref xs)) (VX : own_Ar Z Z.heap xs kx (.object "com/example/davka/davka/AccountingCode") [(.ref x0), (.ref x1), (.ref x2), (.ref x3)]) (S0 : Sta Z Z.heap "com/example/davka/davka/AccountingCode" "DEBIT" "Lcom/example/davka/davka/AccountingCode;" (.ref x0)) (A0 : Exa Z Z.heap x0 "com/example/davka/davka/AccountingCode") (B0 : Fld Z Z.heap x0 "com/example/davka/davka/AccountingCode" "digit" "C" (.int (48 : Int32))) (S1 : Sta Z Z.heap "com/example/davka/davka/AccountingCode" "CREDIT" "Lcom/example/davka/davka/AccountingCode;" (.ref x1)) (A1 : Exa Z Z.heap x1 "com/example/davka/davka/AccountingCode") (B1 : Fld Z Z.heap x1 "com/example/davka/davka/AccountingCode" "digit" "C" (.int (49 : Int32))) (S2 : Sta Z Z.heap "com/example/davka/davka/AccountingCode" "DEBIT_CANCELLATION" "Lcom/example/davka/davka/AccountingCode;" (.ref x2)) (A2 : Exa Z Z.heap x2 "com/example/davka/davka/AccountingCode") (B2 : Fld Z Z.heap x2 "com/example/davka/davka/AccountingCode" "digit" "C" (.int (50 : Int32))) (S3 : Sta Z Z.heap "com/example/davka/davka/AccountingCode" "CREDIT_CANCELLATION" "Lcom/example/davka/davka/AccountingCode;" (.ref x3)) (A3 : Exa Z Z.heap x3 "com/example/davka/davka/AccountingCode") (B3 : Fld Z Z.heap x3 "com/example/davka/davka/AccountingCode" "digit" "C" (.int (51 : Int32))) (hn0 : ¬ ((48 : Int32) = ch)) (hn1 : ¬ ((49 : Int32) = ch)) (hn2 : ¬ ((50 : Int32) = ch)) (hn3 : ¬ ((51 : Int32) = ch)) :
    MetFree l (⟨"com/example/davka/davka/AccountingCode", "of", "(C)Lcom/example/davka/davka/AccountingCode;"⟩ : MethodName) (head1 (Jvm.Cond.code (⟨"com/example/davka/davka/AccountingCode", "of", "(C)Lcom/example/davka/davka/AccountingCode;"⟩ : MethodName) prog_3_method_5_code 5 (some (.object "com/example/davka/davka/AccountingCode")) :: ws) ({ frames := 0, cells := 0, slots := 0, locals := 0 } : Room)) (fun aq U => aq = #[(.int ch)] ∧ Z.Warmed39 U.vm ∧ U.heap = h0) (fun _ _ _ _ _ => True) (fun _ U oo U' => ∃ v L, oo = .returned v ∧ Q_ofn Z h0 n0 xs kx x0 x1 x2 x3 ch v U'.heap L ∧ FrameEnd U oo U' L ({ frames := 0, cells := 0, slots := 0, locals := 0 } : Room).cells ({ frames := 0, cells := 0, slots := 0, locals := 0 } : Room).slots) := by
  refine MetFree.of_bodySF (plainFor_of_name pn_ofn) hisR ?_
  intro p e s m args below meth c s₁ Bd hml0 hP hK
  obtain ⟨rfl, hZ, hh⟩ := hP
  have hx := Bd.exec
  have hby := Bd.bytes
  have hml : c.maxLocals = 5 := hml0
  have hown : s.vm.findClass "com/example/davka/davka/AccountingCode" = some m.cls := findClass_of_methodNamed Bd.named
  have hnm := (name_of_methodNamed Bd.named Bd.method).1
  have hlk := Bd.notSynchronized
  have hret := Bd.returns
  have X0 : Stand p l e ({ frames := 0, cells := 0, slots := 0, locals := 0 } : Room) s m #[(.int ch)] below meth c s₁ [] 0 0 := Stand.of_body Bd
  have e0 : s₁.heap = h0 := by rw [← hh, Bd.state]; rfl
  have N0 := Fr.nil n0
  have K0 := Keep.refl h0 []
  refine own_go (S' := (s₁.setTop (mkF m 0 #[.val (.int ch), .unset, .unset, .unset, .unset] []))) (fun tq kq => castTop (ef_ofn m xs kx x0 x1 x2 x3 ch) kq) ?_
  show own_G p e s below (Q_ofn Z h0 n0 xs kx x0 x1 x2 x3 ch) _ _ _
  obtain ⟨T101, X101, e101, st101⟩ := getS2 X0 hx hZ hown (host := "") (Or.inl (hw _ (List.mem_of_getElem? (i := 106) rfl))) Via.refl e0 (SX.ext O0.2) (g := (mkF m 0 #[.val (.int ch), .unset, .unset, .unset, .unset] [])) rfl (hb hby d23_0)
  refine own_go (S' := (T101.setTop (mkF m 5 #[.val (.int ch), .val (.ref xs), .unset, .unset, .unset] [(.ref xs)]))) (fun tq kq => st101 tq (XS.astoreN X101.here hx rfl (hb hby d23_3) rfl rfl (l' := #[.val (.int ch), .val (.ref xs), .unset, .unset, .unset]) rfl (XS.aloadN X101.here hx rfl (hb hby d23_4) rfl rfl kq))) ?_
  obtain ⟨cl102, Ar102, ln102⟩ := (VX.ext O0.2).len
  have lq102 : cl102.slots.size.toInt32 = (4 : Int32) := ln102.trans rfl
  refine own_go (S' := (T101.setTop (mkF m 16 #[.val (.int ch), .val (.ref xs), .val (.int (4 : Int32)), .val (.int (0 : Int32)), .unset] [(.int (0 : Int32)), (.ref xs)]))) (fun tq kq => X101.arraylength hx (by rw [e101]; exact Ar102.1) (State.isArrayOf_alike hZ.alike Ar102.2.1) (g := (mkF m 5 #[.val (.int ch), .val (.ref xs), .unset, .unset, .unset] [(.ref xs)])) rfl rfl (hb hby d23_5) tq (by rw [lq102]; exact (XS.istoreN X101.here hx rfl (hb hby d23_6) rfl (l' := #[.val (.int ch), .val (.ref xs), .val (.int (4 : Int32)), .unset, .unset]) rfl (XS.iconst X101.here hx rfl (hb hby d23_7) (XS.istoreN X101.here hx rfl (hb hby d23_8) rfl (l' := #[.val (.int ch), .val (.ref xs), .val (.int (4 : Int32)), .val (.int (0 : Int32)), .unset]) rfl (XS.iloadN X101.here hx rfl (hb hby d23_9) rfl (XS.iloadN X101.here hx rfl (hb hby d23_10) rfl (XS.icmpNo X101.here hx rfl (hb hby d23_11) rfl (tlt (by decide : (0 : Int32) < (4 : Int32))).2.1 (XS.aloadN X101.here hx rfl (hb hby d23_14) rfl rfl (XS.iloadN X101.here hx rfl (hb hby d23_15) rfl kq)))))))))) ?_
  obtain ⟨cl103, Ar103, -, -, hin103, hat103⟩ := (VX.ext O0.2).at (j := (0 : Int32)) (v := (.ref x0)) (by decide) rfl
  refine own_go (S' := (T101.setTop (mkF m 21 #[.val (.int ch), .val (.ref xs), .val (.int (4 : Int32)), .val (.int (0 : Int32)), .val (.ref x0)] [(.ref x0)]))) (fun tq kq => X101.aaload hx (j := (0 : Int32)) (v := (.ref x0)) (by rw [e101]; exact Ar103.1) (State.isArrayOf_alike hZ.alike Ar103.2.1) rfl Ar103.2.2 hin103 hat103 (g := (mkF m 16 #[.val (.int ch), .val (.ref xs), .val (.int (4 : Int32)), .val (.int (0 : Int32)), .unset] [(.int (0 : Int32)), (.ref xs)])) rfl rfl (hb hby d23_16) tq (XS.astore X101.here hx rfl (hb hby d23_17) rfl rfl (l' := #[.val (.int ch), .val (.ref xs), .val (.int (4 : Int32)), .val (.int (0 : Int32)), .val (.ref x0)]) rfl (XS.aload X101.here hx rfl (hb hby d23_19) rfl rfl kq))) ?_
  obtain ⟨T104, X104, e104, st104⟩ := getF X101 hx hZ hown (host := "") (Or.inl (hw _ (List.mem_of_getElem? (i := 109) rfl))) Via.refl e101 (B0.ext O0.2) (g := (mkF m 21 #[.val (.int ch), .val (.ref xs), .val (.int (4 : Int32)), .val (.int (0 : Int32)), .val (.ref x0)] [(.ref x0)])) rfl rfl (hb hby d23_21)
  refine own_go (S' := (T104.setTop (mkF m 16 #[.val (.int ch), .val (.ref xs), .val (.int (4 : Int32)), .val (.int (1 : Int32)), .val (.ref x0)] [(.int (1 : Int32)), (.ref xs)]))) (fun tq kq => st104 tq (XS.iloadN X104.here hx rfl (hb hby d23_24) rfl (XS.icmpYes X104.here hx rfl (pc0 := 25) (pc' := 31) rfl (hb hby d23_25) rfl (feq hn0).2 (by decide) (by decide) (XS.iinc X104.here hx rfl (hb hby d23_31) rfl (l' := #[.val (.int ch), .val (.ref xs), .val (.int (4 : Int32)), .val (.int (1 : Int32)), .val (.ref x0)]) rfl (XS.goto X104.here hx rfl (pc0 := 34) (pc' := 9) rfl (hb hby d23_34) (by decide) (by decide) (XS.iloadN X104.here hx rfl (hb hby d23_9) rfl (XS.iloadN X104.here hx rfl (hb hby d23_10) rfl (XS.icmpNo X104.here hx rfl (hb hby d23_11) rfl (tlt (by decide : (1 : Int32) < (4 : Int32))).2.1 (XS.aloadN X104.here hx rfl (hb hby d23_14) rfl rfl (XS.iloadN X104.here hx rfl (hb hby d23_15) rfl kq)))))))))) ?_
  obtain ⟨cl105, Ar105, -, -, hin105, hat105⟩ := (VX.ext O0.2).at (j := (1 : Int32)) (v := (.ref x1)) (by decide) rfl
  refine own_go (S' := (T104.setTop (mkF m 21 #[.val (.int ch), .val (.ref xs), .val (.int (4 : Int32)), .val (.int (1 : Int32)), .val (.ref x1)] [(.ref x1)]))) (fun tq kq => X104.aaload hx (j := (1 : Int32)) (v := (.ref x1)) (by rw [e104]; exact Ar105.1) (State.isArrayOf_alike hZ.alike Ar105.2.1) rfl Ar105.2.2 hin105 hat105 (g := (mkF m 16 #[.val (.int ch), .val (.ref xs), .val (.int (4 : Int32)), .val (.int (1 : Int32)), .val (.ref x0)] [(.int (1 : Int32)), (.ref xs)])) rfl rfl (hb hby d23_16) tq (XS.astore X104.here hx rfl (hb hby d23_17) rfl rfl (l' := #[.val (.int ch), .val (.ref xs), .val (.int (4 : Int32)), .val (.int (1 : Int32)), .val (.ref x1)]) rfl (XS.aload X104.here hx rfl (hb hby d23_19) rfl rfl kq))) ?_
  obtain ⟨T106, X106, e106, st106⟩ := getF X104 hx hZ hown (host := "") (Or.inl (hw _ (List.mem_of_getElem? (i := 109) rfl))) Via.refl e104 (B1.ext O0.2) (g := (mkF m 21 #[.val (.int ch), .val (.ref xs), .val (.int (4 : Int32)), .val (.int (1 : Int32)), .val (.ref x1)] [(.ref x1)])) rfl rfl (hb hby d23_21)
  refine own_go (S' := (T106.setTop (mkF m 16 #[.val (.int ch), .val (.ref xs), .val (.int (4 : Int32)), .val (.int (2 : Int32)), .val (.ref x1)] [(.int (2 : Int32)), (.ref xs)]))) (fun tq kq => st106 tq (XS.iloadN X106.here hx rfl (hb hby d23_24) rfl (XS.icmpYes X106.here hx rfl (pc0 := 25) (pc' := 31) rfl (hb hby d23_25) rfl (feq hn1).2 (by decide) (by decide) (XS.iinc X106.here hx rfl (hb hby d23_31) rfl (l' := #[.val (.int ch), .val (.ref xs), .val (.int (4 : Int32)), .val (.int (2 : Int32)), .val (.ref x1)]) rfl (XS.goto X106.here hx rfl (pc0 := 34) (pc' := 9) rfl (hb hby d23_34) (by decide) (by decide) (XS.iloadN X106.here hx rfl (hb hby d23_9) rfl (XS.iloadN X106.here hx rfl (hb hby d23_10) rfl (XS.icmpNo X106.here hx rfl (hb hby d23_11) rfl (tlt (by decide : (2 : Int32) < (4 : Int32))).2.1 (XS.aloadN X106.here hx rfl (hb hby d23_14) rfl rfl (XS.iloadN X106.here hx rfl (hb hby d23_15) rfl kq)))))))))) ?_
  obtain ⟨cl107, Ar107, -, -, hin107, hat107⟩ := (VX.ext O0.2).at (j := (2 : Int32)) (v := (.ref x2)) (by decide) rfl
  refine own_go (S' := (T106.setTop (mkF m 21 #[.val (.int ch), .val (.ref xs), .val (.int (4 : Int32)), .val (.int (2 : Int32)), .val (.ref x2)] [(.ref x2)]))) (fun tq kq => X106.aaload hx (j := (2 : Int32)) (v := (.ref x2)) (by rw [e106]; exact Ar107.1) (State.isArrayOf_alike hZ.alike Ar107.2.1) rfl Ar107.2.2 hin107 hat107 (g := (mkF m 16 #[.val (.int ch), .val (.ref xs), .val (.int (4 : Int32)), .val (.int (2 : Int32)), .val (.ref x1)] [(.int (2 : Int32)), (.ref xs)])) rfl rfl (hb hby d23_16) tq (XS.astore X106.here hx rfl (hb hby d23_17) rfl rfl (l' := #[.val (.int ch), .val (.ref xs), .val (.int (4 : Int32)), .val (.int (2 : Int32)), .val (.ref x2)]) rfl (XS.aload X106.here hx rfl (hb hby d23_19) rfl rfl kq))) ?_
  obtain ⟨T108, X108, e108, st108⟩ := getF X106 hx hZ hown (host := "") (Or.inl (hw _ (List.mem_of_getElem? (i := 109) rfl))) Via.refl e106 (B2.ext O0.2) (g := (mkF m 21 #[.val (.int ch), .val (.ref xs), .val (.int (4 : Int32)), .val (.int (2 : Int32)), .val (.ref x2)] [(.ref x2)])) rfl rfl (hb hby d23_21)
  refine own_go (S' := (T108.setTop (mkF m 16 #[.val (.int ch), .val (.ref xs), .val (.int (4 : Int32)), .val (.int (3 : Int32)), .val (.ref x2)] [(.int (3 : Int32)), (.ref xs)]))) (fun tq kq => st108 tq (XS.iloadN X108.here hx rfl (hb hby d23_24) rfl (XS.icmpYes X108.here hx rfl (pc0 := 25) (pc' := 31) rfl (hb hby d23_25) rfl (feq hn2).2 (by decide) (by decide) (XS.iinc X108.here hx rfl (hb hby d23_31) rfl (l' := #[.val (.int ch), .val (.ref xs), .val (.int (4 : Int32)), .val (.int (3 : Int32)), .val (.ref x2)]) rfl (XS.goto X108.here hx rfl (pc0 := 34) (pc' := 9) rfl (hb hby d23_34) (by decide) (by decide) (XS.iloadN X108.here hx rfl (hb hby d23_9) rfl (XS.iloadN X108.here hx rfl (hb hby d23_10) rfl (XS.icmpNo X108.here hx rfl (hb hby d23_11) rfl (tlt (by decide : (3 : Int32) < (4 : Int32))).2.1 (XS.aloadN X108.here hx rfl (hb hby d23_14) rfl rfl (XS.iloadN X108.here hx rfl (hb hby d23_15) rfl kq)))))))))) ?_
  obtain ⟨cl109, Ar109, -, -, hin109, hat109⟩ := (VX.ext O0.2).at (j := (3 : Int32)) (v := (.ref x3)) (by decide) rfl
  refine own_go (S' := (T108.setTop (mkF m 21 #[.val (.int ch), .val (.ref xs), .val (.int (4 : Int32)), .val (.int (3 : Int32)), .val (.ref x3)] [(.ref x3)]))) (fun tq kq => X108.aaload hx (j := (3 : Int32)) (v := (.ref x3)) (by rw [e108]; exact Ar109.1) (State.isArrayOf_alike hZ.alike Ar109.2.1) rfl Ar109.2.2 hin109 hat109 (g := (mkF m 16 #[.val (.int ch), .val (.ref xs), .val (.int (4 : Int32)), .val (.int (3 : Int32)), .val (.ref x2)] [(.int (3 : Int32)), (.ref xs)])) rfl rfl (hb hby d23_16) tq (XS.astore X108.here hx rfl (hb hby d23_17) rfl rfl (l' := #[.val (.int ch), .val (.ref xs), .val (.int (4 : Int32)), .val (.int (3 : Int32)), .val (.ref x3)]) rfl (XS.aload X108.here hx rfl (hb hby d23_19) rfl rfl kq))) ?_
  obtain ⟨T110, X110, e110, st110⟩ := getF X108 hx hZ hown (host := "") (Or.inl (hw _ (List.mem_of_getElem? (i := 109) rfl))) Via.refl e108 (B3.ext O0.2) (g := (mkF m 21 #[.val (.int ch), .val (.ref xs), .val (.int (4 : Int32)), .val (.int (3 : Int32)), .val (.ref x3)] [(.ref x3)])) rfl rfl (hb hby d23_21)
  refine own_go (S' := (T110.setTop (mkF m 38 #[.val (.int ch), .val (.ref xs), .val (.int (4 : Int32)), .val (.int (4 : Int32)), .val (.ref x3)] [.null]))) (fun tq kq => st110 tq (XS.iloadN X110.here hx rfl (hb hby d23_24) rfl (XS.icmpYes X110.here hx rfl (pc0 := 25) (pc' := 31) rfl (hb hby d23_25) rfl (feq hn3).2 (by decide) (by decide) (XS.iinc X110.here hx rfl (hb hby d23_31) rfl (l' := #[.val (.int ch), .val (.ref xs), .val (.int (4 : Int32)), .val (.int (4 : Int32)), .val (.ref x3)]) rfl (XS.goto X110.here hx rfl (pc0 := 34) (pc' := 9) rfl (hb hby d23_34) (by decide) (by decide) (XS.iloadN X110.here hx rfl (hb hby d23_9) rfl (XS.iloadN X110.here hx rfl (hb hby d23_10) rfl (XS.icmpYes X110.here hx rfl (pc0 := 11) (pc' := 37) rfl (hb hby d23_11) rfl (flt (by decide : ¬ ((4 : Int32) < (4 : Int32)))).2.1 (by decide) (by decide) (XS.aconstNull X110.here hx rfl (hb hby d23_37) kq))))))))) ?_
  refine own_retA X110 hx hlk hret rfl rfl (hb hby d23_38) (by decide) (by decide) ?_
  exact ⟨rfl, N0, e110⟩
theorem pn_rm8 : plainName "java/util/Optional" = true := by first | (simp [plainName, overriddenIn]; done) | decide +kernel
theorem ef_rm8 (m : MethodId) (em : Addr) : entryFrame m #[] 1 = mkF m 0 #[.unset] [] := by first | (simp [entryFrame, mkF, argsToLocals, Value.category]; done) | rfl
def Q_rm8 (Z : State) (h0 : Heap) (n0 : Nat) (em : Addr) (v : Option Value) (h : Heap) (L : List Loc) : Prop := v = some (.ref em) ∧ Fr n0 L ∧ h = h0
set_option maxRecDepth 65536 in
set_option maxHeartbeats 40000000 in
theorem rm8 (l : Launch) (Z : State) (a0 : Array Value) (hw : ∀ d ∈ tables_1, d.before a0 Z = true) (ws : List Jvm.Cond) (h0 : Heap) (n0 : Nat) (O0 : Old Z n0 h0) (em : Addr) (SE : Sta Z Z.heap "java/util/Optional" "EMPTY" "Ljava/util/Optional;" (.ref em)) (EE : Exa Z Z.heap em "java/util/Optional") (FE : Fld Z Z.heap em "java/util/Optional" "value" "Ljava/lang/Object;" .null) :
    MetFree l (⟨"java/util/Optional", "empty", "()Ljava/util/Optional;"⟩ : MethodName) (head1 (Jvm.Cond.code (⟨"java/util/Optional", "empty", "()Ljava/util/Optional;"⟩ : MethodName) jdk_32_method_1_code 1 (some (.object "java/util/Optional")) :: ws) ({ frames := 0, cells := 0, slots := 0, locals := 0 } : Room)) (fun aq U => aq = #[] ∧ Z.Warmed39 U.vm ∧ U.heap = h0) (fun _ _ _ _ _ => True) (fun _ U oo U' => ∃ v L, oo = .returned v ∧ Q_rm8 Z h0 n0 em v U'.heap L ∧ FrameEnd U oo U' L ({ frames := 0, cells := 0, slots := 0, locals := 0 } : Room).cells ({ frames := 0, cells := 0, slots := 0, locals := 0 } : Room).slots) := by
  refine MetFree.of_bodySF (plainFor_of_name pn_rm8) hisR ?_
  intro p e s m args below meth c s₁ Bd hml0 hP hK
  obtain ⟨rfl, hZ, hh⟩ := hP
  have hx := Bd.exec
  have hby := Bd.bytes
  have hml : c.maxLocals = 1 := hml0
  have hown : s.vm.findClass "java/util/Optional" = some m.cls := findClass_of_methodNamed Bd.named
  have hnm := (name_of_methodNamed Bd.named Bd.method).1
  have hlk := Bd.notSynchronized
  have hret := Bd.returns
  have X0 : Stand p l e ({ frames := 0, cells := 0, slots := 0, locals := 0 } : Room) s m #[] below meth c s₁ [] 0 0 := Stand.of_body Bd
  have e0 : s₁.heap = h0 := by rw [← hh, Bd.state]; rfl
  have N0 := Fr.nil n0
  have K0 := Keep.refl h0 []
  refine own_go (S' := (s₁.setTop (mkF m 0 #[.unset] []))) (fun tq kq => castTop (ef_rm8 m em) kq) ?_
  show own_G p e s below (Q_rm8 Z h0 n0 em) _ _ _
  obtain ⟨T101, X101, e101, st101⟩ := getS2 X0 hx hZ hown (host := "") (Or.inl (hw _ (List.mem_of_getElem? (i := 47) rfl))) Via.refl e0 (SE.ext O0.2) (g := (mkF m 0 #[.unset] [])) rfl (hb hby d8_0)
  refine own_go (S' := (T101.setTop (mkF m 5 #[.val (.ref em)] [(.ref em)]))) (fun tq kq => st101 tq (XS.astoreN X101.here hx rfl (hb hby d8_3) rfl rfl (l' := #[.val (.ref em)]) rfl (XS.aloadN X101.here hx rfl (hb hby d8_4) rfl rfl kq))) ?_
  refine own_retA X101 hx hlk hret rfl rfl (hb hby d8_5) (by decide) (by decide) ?_
  exact ⟨rfl, N0, e101⟩
theorem pn_rm34 : plainName "java/util/Optional" = true := by first | (simp [plainName, overriddenIn]; done) | decide +kernel
theorem ef_rm34 (m : MethodId) (a : Addr) (x : Addr) : entryFrame m #[(.ref a), (.ref x)] 2 = mkF m 0 #[.val (.ref a), .val (.ref x)] [] := by first | (simp [entryFrame, mkF, argsToLocals, Value.category]; done) | rfl
def Q_rm34 (Z : State) (h0 : Heap) (n0 : Nat) (a : Addr) (x : Addr) (v : Option Value) (h : Heap) (L : List Loc) : Prop := v = none ∧ Fr n0 L ∧ Keep h0 h [a] ∧ Fld Z h a "java/util/Optional" "value" "Ljava/lang/Object;" (.ref x)
set_option maxRecDepth 65536 in
set_option maxHeartbeats 40000000 in
theorem rm34 (l : Launch) (Z : State) (a0 : Array Value) (hw : ∀ d ∈ tables_1, d.before a0 Z = true) (ws : List Jvm.Cond) (h0 : Heap) (n0 : Nat) (O0 : Old Z n0 h0) (a : Addr) (x : Addr) (Ea : Exa Z h0 a "java/util/Optional") (Fv : Fld Z h0 a "java/util/Optional" "value" "Ljava/lang/Object;" .null) (ga : n0 ≤ a) :
    MetFree l (⟨"java/util/Optional", "<init>", "(Ljava/lang/Object;)V"⟩ : MethodName) (head1 (Jvm.Cond.code (⟨"java/util/Optional", "<init>", "(Ljava/lang/Object;)V"⟩ : MethodName) jdk_32_method_2_code 2 none :: ws) ({ frames := 1, cells := 0, slots := 0, locals := 12 } : Room)) (fun aq U => aq = #[(.ref a), (.ref x)] ∧ Z.Warmed39 U.vm ∧ U.heap = h0) (fun _ _ _ _ _ => True) (fun _ U oo U' => ∃ v L, oo = .returned v ∧ Q_rm34 Z h0 n0 a x v U'.heap L ∧ FrameEnd U oo U' L ({ frames := 1, cells := 0, slots := 0, locals := 12 } : Room).cells ({ frames := 1, cells := 0, slots := 0, locals := 12 } : Room).slots) := by
  refine MetFree.of_bodySF (plainFor_of_name pn_rm34) hisR ?_
  intro p e s m args below meth c s₁ Bd hml0 hP hK
  obtain ⟨rfl, hZ, hh⟩ := hP
  have hx := Bd.exec
  have hby := Bd.bytes
  have hml : c.maxLocals = 2 := hml0
  have hown : s.vm.findClass "java/util/Optional" = some m.cls := findClass_of_methodNamed Bd.named
  have hnm := (name_of_methodNamed Bd.named Bd.method).1
  have hlk := Bd.notSynchronized
  have hret := Bd.returns
  have X0 : Stand p l e ({ frames := 1, cells := 0, slots := 0, locals := 12 } : Room) s m #[(.ref a), (.ref x)] below meth c s₁ [] 0 0 := Stand.of_body Bd
  have e0 : s₁.heap = h0 := by rw [← hh, Bd.state]; rfl
  have N0 := Fr.nil n0
  have K0 := Keep.refl h0 [a]
  refine own_go (S' := (s₁.setTop (mkF m 0 #[.val (.ref a), .val (.ref x)] []))) (fun tq kq => castTop (ef_rm34 m a x) kq) ?_
  show own_G p e s below (Q_rm34 Z h0 n0 a x) _ _ _
  refine own_go (S' := (s₁.setTop (mkF m 1 #[.val (.ref a), .val (.ref x)] [(.ref a)]))) (fun tq kq => XS.aloadN X0.here hx rfl (hb hby d34_0) rfl rfl kq) ?_
  obtain ⟨T101, X101, e101, st101⟩ := initO X0 hx hZ hown (hw _ (List.mem_of_getElem? (i := 155) rfl)) (hw _ (List.mem_of_getElem? (i := 18) rfl)) (hw _ (List.mem_of_getElem? (i := 19) rfl)) e0 (g := (mkF m 1 #[.val (.ref a), .val (.ref x)] [(.ref a)])) rfl (by rw [hml]; rfl) rfl (hb hby d34_1) (by decide) (W := 0) (by show 2 * 0 + _ ≤ _; exact Nat.le_of_eq rfl) (by decide)
  refine own_go (S' := (T101.setTop (mkF m 6 #[.val (.ref a), .val (.ref x)] [(.ref x), (.ref a)]))) (fun tq kq => st101 tq (XS.aloadN X101.here hx rfl (hb hby d34_4) rfl rfl (XS.aloadN X101.here hx rfl (hb hby d34_5) rfl rfl kq))) ?_
  obtain ⟨T102, h102, X102, e102, W102, st102⟩ := putF X101 hx hZ hown (host := "") (Or.inl (hw _ (List.mem_of_getElem? (i := 53) rfl))) Via.refl e101 Fv Ea (Or.inr ⟨(hw _ (List.mem_of_getElem? (i := 54) rfl)), rfl, hnm⟩) (hw _ (List.mem_of_getElem? (i := 150) rfl)) (ty := (.object "java/lang/Object")) (by decide) rfl rfl (g := (mkF m 6 #[.val (.ref a), .val (.ref x)] [(.ref x), (.ref a)])) rfl rfl (hb hby d34_6)
  have N102 := Fr.snoc X102 N0 ga
  have O102 := O0.wr W102 ga
  have K102 := K0.wr W102 (Or.inl (List.mem_of_getElem? (i := 0) rfl))
  have F102 := Fv.same W102
  refine own_go (S' := (T102.setTop (mkF m 9 #[.val (.ref a), .val (.ref x)] []))) (fun tq kq => st102 tq kq) ?_
  refine own_retV X102 hx hlk hret (hb hby d34_9) (by decide) (by decide) ?_
  rw [e102]
  exact ⟨rfl, N102, K102, F102⟩
theorem pn_onn : plainName "java/util/Optional" = true := by first | (simp [plainName, overriddenIn]; done) | decide +kernel
theorem ef_onn (m : MethodId) (em : Addr) : entryFrame m #[.null] 1 = mkF m 0 #[.val .null] [] := by first | (simp [entryFrame, mkF, argsToLocals, Value.category]; done) | rfl
def Q_onn (Z : State) (h0 : Heap) (n0 : Nat) (em : Addr) (v : Option Value) (h : Heap) (L : List Loc) : Prop := v = some (.ref em) ∧ Fr n0 L ∧ h = h0
set_option maxRecDepth 65536 in
set_option maxHeartbeats 40000000 in
theorem onn (l : Launch) (Z : State) (a0 : Array Value) (hw : ∀ d ∈ tables_1, d.before a0 Z = true) (ws : List Jvm.Cond) (h0 : Heap) (n0 : Nat) (O0 : Old Z n0 h0) (em : Addr) (SE : Sta Z Z.heap "java/util/Optional" "EMPTY" "Ljava/util/Optional;" (.ref em)) (EE : Exa Z Z.heap em "java/util/Optional") (FE : Fld Z Z.heap em "java/util/Optional" "value" "Ljava/lang/Object;" .null) :
    MetFree l (⟨"java/util/Optional", "ofNullable", "(Ljava/lang/Object;)Ljava/util/Optional;"⟩ : MethodName) (head1 (Jvm.Cond.code (⟨"java/util/Optional", "ofNullable", "(Ljava/lang/Object;)Ljava/util/Optional;"⟩ : MethodName) jdk_32_method_4_code 1 (some (.object "java/util/Optional")) :: ws) ({ frames := 0, cells := 0, slots := 0, locals := 0 } : Room)) (fun aq U => aq = #[.null] ∧ Z.Warmed39 U.vm ∧ U.heap = h0) (fun _ _ _ _ _ => True) (fun _ U oo U' => ∃ v L, oo = .returned v ∧ Q_onn Z h0 n0 em v U'.heap L ∧ FrameEnd U oo U' L ({ frames := 0, cells := 0, slots := 0, locals := 0 } : Room).cells ({ frames := 0, cells := 0, slots := 0, locals := 0 } : Room).slots) := by
  refine MetFree.of_bodySF (plainFor_of_name pn_onn) hisR ?_
  intro p e s m args below meth c s₁ Bd hml0 hP hK
  obtain ⟨rfl, hZ, hh⟩ := hP
  have hx := Bd.exec
  have hby := Bd.bytes
  have hml : c.maxLocals = 1 := hml0
  have hown : s.vm.findClass "java/util/Optional" = some m.cls := findClass_of_methodNamed Bd.named
  have hnm := (name_of_methodNamed Bd.named Bd.method).1
  have hlk := Bd.notSynchronized
  have hret := Bd.returns
  have X0 : Stand p l e ({ frames := 0, cells := 0, slots := 0, locals := 0 } : Room) s m #[.null] below meth c s₁ [] 0 0 := Stand.of_body Bd
  have e0 : s₁.heap = h0 := by rw [← hh, Bd.state]; rfl
  have N0 := Fr.nil n0
  have K0 := Keep.refl h0 []
  refine own_go (S' := (s₁.setTop (mkF m 0 #[.val .null] []))) (fun tq kq => castTop (ef_onn m em) kq) ?_
  show own_G p e s below (Q_onn Z h0 n0 em) _ _ _
  refine own_go (S' := (s₁.setTop (mkF m 4 #[.val .null] []))) (fun tq kq => XS.aloadN X0.here hx rfl (hb hby d24_0) rfl rfl (XS.ifnonnullNo X0.here hx rfl (hb hby d24_1) rfl kq)) ?_
  obtain ⟨T101, X101, e101, st101⟩ := getS2 X0 hx hZ hown (host := "") (Or.inl (hw _ (List.mem_of_getElem? (i := 47) rfl))) Via.refl e0 (SE.ext O0.2) (g := (mkF m 4 #[.val .null] [])) rfl (hb hby d24_4)
  refine own_go (S' := (T101.setTop (mkF m 18 #[.val .null] [(.ref em)]))) (fun tq kq => st101 tq (XS.goto X101.here hx rfl (pc0 := 7) (pc' := 18) rfl (hb hby d24_7) (by decide) (by decide) kq)) ?_
  refine own_retA X101 hx hlk hret rfl rfl (hb hby d24_18) (by decide) (by decide) ?_
  exact ⟨rfl, N0, e101⟩
theorem pn_onr : plainName "java/util/Optional" = true := by first | (simp [plainName, overriddenIn]; done) | decide +kernel
theorem ef_onr (m : MethodId) (x : Addr) : entryFrame m #[(.ref x)] 1 = mkF m 0 #[.val (.ref x)] [] := by first | (simp [entryFrame, mkF, argsToLocals, Value.category]; done) | rfl
def Q_onr (Z : State) (h0 : Heap) (n0 : Nat) (x : Addr) (v : Option Value) (h : Heap) (L : List Loc) : Prop := ∃ b : Addr, v = some (.ref b) ∧ Fr n0 L ∧ Keep h0 h [] ∧ h0.size ≤ b ∧ Exa Z h b "java/util/Optional" ∧ Fld Z h b "java/util/Optional" "value" "Ljava/lang/Object;" (.ref x)
set_option maxRecDepth 65536 in
set_option maxHeartbeats 40000000 in
theorem onr (l : Launch) (Z : State) (a0 : Array Value) (hw : ∀ d ∈ tables_1, d.before a0 Z = true) (ws : List Jvm.Cond) (h0 : Heap) (n0 : Nat) (O0 : Old Z n0 h0) (x : Addr)  :
    MetFree l (⟨"java/util/Optional", "ofNullable", "(Ljava/lang/Object;)Ljava/util/Optional;"⟩ : MethodName) (head1 (Jvm.Cond.code (⟨"java/util/Optional", "ofNullable", "(Ljava/lang/Object;)Ljava/util/Optional;"⟩ : MethodName) jdk_32_method_4_code 1 (some (.object "java/util/Optional")) :: ws) ({ frames := 2, cells := 1, slots := 1, locals := 26 } : Room)) (fun aq U => aq = #[(.ref x)] ∧ Z.Warmed39 U.vm ∧ U.heap = h0) (fun _ _ _ _ _ => True) (fun _ U oo U' => ∃ v L, oo = .returned v ∧ Q_onr Z h0 n0 x v U'.heap L ∧ FrameEnd U oo U' L ({ frames := 2, cells := 1, slots := 1, locals := 26 } : Room).cells ({ frames := 2, cells := 1, slots := 1, locals := 26 } : Room).slots) := by
  refine MetFree.of_bodySF (plainFor_of_name pn_onr) hisR ?_
  intro p e s m args below meth c s₁ Bd hml0 hP hK
  obtain ⟨rfl, hZ, hh⟩ := hP
  have hx := Bd.exec
  have hby := Bd.bytes
  have hml : c.maxLocals = 1 := hml0
  have hown : s.vm.findClass "java/util/Optional" = some m.cls := findClass_of_methodNamed Bd.named
  have hnm := (name_of_methodNamed Bd.named Bd.method).1
  have hlk := Bd.notSynchronized
  have hret := Bd.returns
  have X0 : Stand p l e ({ frames := 2, cells := 1, slots := 1, locals := 26 } : Room) s m #[(.ref x)] below meth c s₁ [] 0 0 := Stand.of_body Bd
  have e0 : s₁.heap = h0 := by rw [← hh, Bd.state]; rfl
  have N0 := Fr.nil n0
  have K0 := Keep.refl h0 []
  refine own_go (S' := (s₁.setTop (mkF m 0 #[.val (.ref x)] []))) (fun tq kq => castTop (ef_onr m x) kq) ?_
  show own_G p e s below (Q_onr Z h0 n0 x) _ _ _
  refine own_go (S' := (s₁.setTop (mkF m 10 #[.val (.ref x)] []))) (fun tq kq => XS.aloadN X0.here hx rfl (hb hby d24_0) rfl rfl (XS.ifnonnullYes X0.here hx rfl (pc0 := 1) (pc' := 10) rfl (hb hby d24_1) rfl (by decide) (by decide) kq)) ?_
  obtain ⟨T101, h101, X101, e101, E101, A101, D101, -, st101⟩ := newO X0 hx hZ hown (hw _ (List.mem_of_getElem? (i := 149) rfl)) (hw _ (List.mem_of_getElem? (i := 150) rfl)) (hw _ (List.mem_of_getElem? (i := 45) rfl)) e0 (g := (mkF m 10 #[.val (.ref x)] [])) rfl (hb hby d24_10) (by decide) (by decide)
  obtain ⟨b101, g101⟩ : ∃ z, z = h0.size := ⟨_, rfl⟩
  rw [← g101] at A101 D101 st101
  have ge_b101 : n0 ≤ b101 := Nat.le_trans (own_osz O0) (Nat.le_of_eq g101.symm)
  have gk_b101 : h0.size ≤ b101 := Nat.le_trans K0.1 (Nat.le_of_eq g101.symm)
  have O101 := O0.ext E101
  have K101 := K0.ext E101
  have F_value_b101 : Fld Z h101 b101 "java/util/Optional" "value" "Ljava/lang/Object;" .null := D101 (Or.inr (hw _ (List.mem_of_getElem? (i := 54) rfl))) (ty := (.object "java/lang/Object")) (by decide)
  refine own_go (S' := (T101.setTop (mkF m 15 #[.val (.ref x)] [(.ref x), (.ref b101), (.ref b101)]))) (fun tq kq => st101 tq (XS.dup X101.here hx rfl (hb hby d24_13) rfl rfl (XS.aloadN X101.here hx rfl (hb hby d24_14) rfl rfl kq))) ?_
  obtain ⟨_, _, ⟨T102, L102, k102, n102⟩, -, X102, ⟨Lc102, hQ102, l102, y102, z102⟩, st102⟩ := X101.specialBack hx (y := (⟨"java/util/Optional", "<init>", "(Ljava/lang/Object;)V"⟩ : MethodName)) rfl hown (mvT hZ (hw _ (List.mem_of_getElem? (i := 151) rfl))) (mvT hZ (hw _ (List.mem_of_getElem? (i := 152) rfl))) (mvT hZ (hw _ (List.mem_of_getElem? (i := 154) rfl))) (by decide) (backOf (W := 1) (rm34 l Z a0 hw [] h101 n0 O101 b101 x A101 F_value_b101 ge_b101) hZ (hw _ (List.mem_of_getElem? (i := 154) rfl)) (hw _ (List.mem_of_getElem? (i := 45) rfl)) (by decide) (by decide)) (g := (mkF m 15 #[.val (.ref x)] [(.ref x), (.ref b101), (.ref b101)])) rfl (by rw [hml]; rfl) (Steps.refl _) (a := b101) (argsL := [(.ref x)]) (rest := [(.ref b101)]) (lenOf pd_0 rfl) rfl (by show 2 * 0 + _ ≤ _; exact Nat.le_of_eq rfl) (hb hby d24_15) (fun _ _ => ⟨rfl, e101, (by decide : 1 + 0 ≤ _), (by decide : 1 + 0 ≤ _)⟩)
  dsimp only [Pt.U, Pt.locs, Pt.cells, Pt.slots] at X102 l102 y102 z102 st102 hQ102
  subst l102 y102 z102
  obtain ⟨rfl, N102, K102, Fv102⟩ := hQ102
  have Nf102 := Fr.app N0 N102
  have O102 := O101.keep K102 (allS ge_b101 all0)
  have KK102 := K101.trans K102 (allS (Or.inr gk_b101) all0)
  refine own_go (S' := (T102.setTop (mkF m 18 #[.val (.ref x)] [(.ref b101)]))) (fun tq kq => st102.trans kq) ?_
  refine own_retA X102 hx hlk hret rfl rfl (hb hby d24_18) (by decide) (by decide) ?_
  have f103 := (A101.keep K102)
  exact ⟨b101, rfl, Nf102, KK102, gk_b101, f103, Fv102⟩
theorem pn_orn : plainName "java/util/Optional" = true := by first | (simp [plainName, overriddenIn]; done) | decide +kernel
theorem ef_orn (m : MethodId) (a : Addr) : entryFrame m #[(.ref a), .null] 2 = mkF m 0 #[.val (.ref a), .val .null] [] := by first | (simp [entryFrame, mkF, argsToLocals, Value.category]; done) | rfl
def Q_orn (Z : State) (h0 : Heap) (n0 : Nat) (a : Addr) (v : Option Value) (h : Heap) (L : List Loc) : Prop := v = some .null ∧ Fr n0 L ∧ h = h0
set_option maxRecDepth 65536 in
set_option maxHeartbeats 40000000 in
theorem orn (l : Launch) (Z : State) (a0 : Array Value) (hw : ∀ d ∈ tables_1, d.before a0 Z = true) (ws : List Jvm.Cond) (h0 : Heap) (n0 : Nat) (O0 : Old Z n0 h0) (a : Addr) (Fv : Fld Z h0 a "java/util/Optional" "value" "Ljava/lang/Object;" .null) :
    MetFree l (⟨"java/util/Optional", "orElse", "(Ljava/lang/Object;)Ljava/lang/Object;"⟩ : MethodName) (head1 (Jvm.Cond.code (⟨"java/util/Optional", "orElse", "(Ljava/lang/Object;)Ljava/lang/Object;"⟩ : MethodName) jdk_32_method_15_code 2 (some (.object "java/lang/Object")) :: ws) ({ frames := 0, cells := 0, slots := 0, locals := 0 } : Room)) (fun aq U => aq = #[(.ref a), .null] ∧ Z.Warmed39 U.vm ∧ U.heap = h0) (fun _ _ _ _ _ => True) (fun _ U oo U' => ∃ v L, oo = .returned v ∧ Q_orn Z h0 n0 a v U'.heap L ∧ FrameEnd U oo U' L ({ frames := 0, cells := 0, slots := 0, locals := 0 } : Room).cells ({ frames := 0, cells := 0, slots := 0, locals := 0 } : Room).slots) := by
  refine MetFree.of_bodySF (plainFor_of_name pn_orn) hisR ?_
  intro p e s m args below meth c s₁ Bd hml0 hP hK
  obtain ⟨rfl, hZ, hh⟩ := hP
  have hx := Bd.exec
  have hby := Bd.bytes
  have hml : c.maxLocals = 2 := hml0
  have hown : s.vm.findClass "java/util/Optional" = some m.cls := findClass_of_methodNamed Bd.named
  have hnm := (name_of_methodNamed Bd.named Bd.method).1
  have hlk := Bd.notSynchronized
  have hret := Bd.returns
  have X0 : Stand p l e ({ frames := 0, cells := 0, slots := 0, locals := 0 } : Room) s m #[(.ref a), .null] below meth c s₁ [] 0 0 := Stand.of_body Bd
  have e0 : s₁.heap = h0 := by rw [← hh, Bd.state]; rfl
  have N0 := Fr.nil n0
  have K0 := Keep.refl h0 []
  refine own_go (S' := (s₁.setTop (mkF m 0 #[.val (.ref a), .val .null] []))) (fun tq kq => castTop (ef_orn m a) kq) ?_
  show own_G p e s below (Q_orn Z h0 n0 a) _ _ _
  refine own_go (S' := (s₁.setTop (mkF m 1 #[.val (.ref a), .val .null] [(.ref a)]))) (fun tq kq => XS.aloadN X0.here hx rfl (hb hby d9_0) rfl rfl kq) ?_
  obtain ⟨T101, X101, e101, st101⟩ := getF X0 hx hZ hown (host := "") (Or.inl (hw _ (List.mem_of_getElem? (i := 53) rfl))) Via.refl e0 Fv (g := (mkF m 1 #[.val (.ref a), .val .null] [(.ref a)])) rfl rfl (hb hby d9_1)
  refine own_go (S' := (T101.setTop (mkF m 15 #[.val (.ref a), .val .null] [.null]))) (fun tq kq => st101 tq (XS.ifnullYes X101.here hx rfl (pc0 := 4) (pc' := 14) rfl (hb hby d9_4) rfl (by decide) (by decide) (XS.aloadN X101.here hx rfl (hb hby d9_14) rfl rfl kq))) ?_
  refine own_retA X101 hx hlk hret rfl rfl (hb hby d9_15) (by decide) (by decide) ?_
  exact ⟨rfl, N0, e101⟩
theorem pn_orr : plainName "java/util/Optional" = true := by first | (simp [plainName, overriddenIn]; done) | decide +kernel
theorem ef_orr (m : MethodId) (a : Addr) (x : Addr) : entryFrame m #[(.ref a), .null] 2 = mkF m 0 #[.val (.ref a), .val .null] [] := by first | (simp [entryFrame, mkF, argsToLocals, Value.category]; done) | rfl
def Q_orr (Z : State) (h0 : Heap) (n0 : Nat) (a : Addr) (x : Addr) (v : Option Value) (h : Heap) (L : List Loc) : Prop := v = some (.ref x) ∧ Fr n0 L ∧ h = h0
set_option maxRecDepth 65536 in
set_option maxHeartbeats 40000000 in
theorem orr (l : Launch) (Z : State) (a0 : Array Value) (hw : ∀ d ∈ tables_1, d.before a0 Z = true) (ws : List Jvm.Cond) (h0 : Heap) (n0 : Nat) (O0 : Old Z n0 h0) (a : Addr) (x : Addr) (Fv : Fld Z h0 a "java/util/Optional" "value" "Ljava/lang/Object;" (.ref x)) :
    MetFree l (⟨"java/util/Optional", "orElse", "(Ljava/lang/Object;)Ljava/lang/Object;"⟩ : MethodName) (head1 (Jvm.Cond.code (⟨"java/util/Optional", "orElse", "(Ljava/lang/Object;)Ljava/lang/Object;"⟩ : MethodName) jdk_32_method_15_code 2 (some (.object "java/lang/Object")) :: ws) ({ frames := 0, cells := 0, slots := 0, locals := 0 } : Room)) (fun aq U => aq = #[(.ref a), .null] ∧ Z.Warmed39 U.vm ∧ U.heap = h0) (fun _ _ _ _ _ => True) (fun _ U oo U' => ∃ v L, oo = .returned v ∧ Q_orr Z h0 n0 a x v U'.heap L ∧ FrameEnd U oo U' L ({ frames := 0, cells := 0, slots := 0, locals := 0 } : Room).cells ({ frames := 0, cells := 0, slots := 0, locals := 0 } : Room).slots) := by
  refine MetFree.of_bodySF (plainFor_of_name pn_orr) hisR ?_
  intro p e s m args below meth c s₁ Bd hml0 hP hK
  obtain ⟨rfl, hZ, hh⟩ := hP
  have hx := Bd.exec
  have hby := Bd.bytes
  have hml : c.maxLocals = 2 := hml0
  have hown : s.vm.findClass "java/util/Optional" = some m.cls := findClass_of_methodNamed Bd.named
  have hnm := (name_of_methodNamed Bd.named Bd.method).1
  have hlk := Bd.notSynchronized
  have hret := Bd.returns
  have X0 : Stand p l e ({ frames := 0, cells := 0, slots := 0, locals := 0 } : Room) s m #[(.ref a), .null] below meth c s₁ [] 0 0 := Stand.of_body Bd
  have e0 : s₁.heap = h0 := by rw [← hh, Bd.state]; rfl
  have N0 := Fr.nil n0
  have K0 := Keep.refl h0 []
  refine own_go (S' := (s₁.setTop (mkF m 0 #[.val (.ref a), .val .null] []))) (fun tq kq => castTop (ef_orr m a x) kq) ?_
  show own_G p e s below (Q_orr Z h0 n0 a x) _ _ _
  refine own_go (S' := (s₁.setTop (mkF m 1 #[.val (.ref a), .val .null] [(.ref a)]))) (fun tq kq => XS.aloadN X0.here hx rfl (hb hby d9_0) rfl rfl kq) ?_
  obtain ⟨T101, X101, e101, st101⟩ := getF X0 hx hZ hown (host := "") (Or.inl (hw _ (List.mem_of_getElem? (i := 53) rfl))) Via.refl e0 Fv (g := (mkF m 1 #[.val (.ref a), .val .null] [(.ref a)])) rfl rfl (hb hby d9_1)
  refine own_go (S' := (T101.setTop (mkF m 8 #[.val (.ref a), .val .null] [(.ref a)]))) (fun tq kq => st101 tq (XS.ifnullNo X101.here hx rfl (hb hby d9_4) rfl (XS.aloadN X101.here hx rfl (hb hby d9_7) rfl rfl kq))) ?_
  obtain ⟨T102, X102, e102, st102⟩ := getF X101 hx hZ hown (host := "") (Or.inl (hw _ (List.mem_of_getElem? (i := 53) rfl))) Via.refl e101 Fv (g := (mkF m 8 #[.val (.ref a), .val .null] [(.ref a)])) rfl rfl (hb hby d9_8)
  refine own_go (S' := (T102.setTop (mkF m 15 #[.val (.ref a), .val .null] [(.ref x)]))) (fun tq kq => st102 tq (XS.goto X102.here hx rfl (pc0 := 11) (pc' := 15) rfl (hb hby d9_11) (by decide) (by decide) kq)) ?_
  refine own_retA X102 hx hlk hret rfl rfl (hb hby d9_15) (by decide) (by decide) ?_
  exact ⟨rfl, N0, e102⟩
theorem pn_ex0 : plainName "com/example/davka/davka/AccountingCodeOfPinLaw" = true := by first | (simp [plainName, overriddenIn]; done) | decide +kernel
theorem ef_ex0 (m : MethodId) (xs : Addr) (kx : ClassId) (x0 : Addr) (x1 : Addr) (x2 : Addr) (x3 : Addr) : entryFrame m #[(.int (1 : Int32)), (.int (48 : Int32))] 2 = mkF m 0 #[.val (.int (1 : Int32)), .val (.int (48 : Int32))] [] := by first | (simp [entryFrame, mkF, argsToLocals, Value.category]; done) | rfl
def Q_ex0 (Z : State) (h0 : Heap) (n0 : Nat) (xs : Addr) (kx : ClassId) (x0 : Addr) (x1 : Addr) (x2 : Addr) (x3 : Addr) (v : Option Value) (h : Heap) (L : List Loc) : Prop := v = some (.ref x0) ∧ Fr n0 L ∧ h = h0
set_option maxRecDepth 65536 in
set_option maxHeartbeats 40000000 in
theorem ex0 (l : Launch) (Z : State) (a0 : Array Value) (hw : ∀ d ∈ tables_1, d.before a0 Z = true) (ws : List Jvm.Cond) (h0 : Heap) (n0 : Nat) (O0 : Old Z n0 h0) (xs : Addr) (kx : ClassId) (x0 : Addr) (x1 : Addr) (x2 : Addr) (x3 : Addr) (SX : Sta Z Z.heap "com/example/davka/davka/AccountingCode" "CODES" "[Lcom/example/davka/davka/AccountingCode;" (.ref xs)) (VX : own_Ar Z Z.heap xs kx (.object "com/example/davka/davka/AccountingCode") [(.ref x0), (.ref x1), (.ref x2), (.ref x3)]) (S0 : Sta Z Z.heap "com/example/davka/davka/AccountingCode" "DEBIT" "Lcom/example/davka/davka/AccountingCode;" (.ref x0)) (A0 : Exa Z Z.heap x0 "com/example/davka/davka/AccountingCode") (B0 : Fld Z Z.heap x0 "com/example/davka/davka/AccountingCode" "digit" "C" (.int (48 : Int32))) (S1 : Sta Z Z.heap "com/example/davka/davka/AccountingCode" "CREDIT" "Lcom/example/davka/davka/AccountingCode;" (.ref x1)) (A1 : Exa Z Z.heap x1 "com/example/davka/davka/AccountingCode") (B1 : Fld Z Z.heap x1 "com/example/davka/davka/AccountingCode" "digit" "C" (.int (49 : Int32))) (S2 : Sta Z Z.heap "com/example/davka/davka/AccountingCode" "DEBIT_CANCELLATION" "Lcom/example/davka/davka/AccountingCode;" (.ref x2)) (A2 : Exa Z Z.heap x2 "com/example/davka/davka/AccountingCode") (B2 : Fld Z Z.heap x2 "com/example/davka/davka/AccountingCode" "digit" "C" (.int (50 : Int32))) (S3 : Sta Z Z.heap "com/example/davka/davka/AccountingCode" "CREDIT_CANCELLATION" "Lcom/example/davka/davka/AccountingCode;" (.ref x3)) (A3 : Exa Z Z.heap x3 "com/example/davka/davka/AccountingCode") (B3 : Fld Z Z.heap x3 "com/example/davka/davka/AccountingCode" "digit" "C" (.int (51 : Int32))) :
    MetFree l (⟨"com/example/davka/davka/AccountingCodeOfPinLaw", "expected", "(IC)Lcom/example/davka/davka/AccountingCode;"⟩ : MethodName) (head1 (Jvm.Cond.code (⟨"com/example/davka/davka/AccountingCodeOfPinLaw", "expected", "(IC)Lcom/example/davka/davka/AccountingCode;"⟩ : MethodName) method_4_code 2 (some (.object "com/example/davka/davka/AccountingCode")) :: ws) ({ frames := 0, cells := 0, slots := 0, locals := 0 } : Room)) (fun aq U => aq = #[(.int (1 : Int32)), (.int (48 : Int32))] ∧ Z.Warmed39 U.vm ∧ U.heap = h0) (fun _ _ _ _ _ => True) (fun _ U oo U' => ∃ v L, oo = .returned v ∧ Q_ex0 Z h0 n0 xs kx x0 x1 x2 x3 v U'.heap L ∧ FrameEnd U oo U' L ({ frames := 0, cells := 0, slots := 0, locals := 0 } : Room).cells ({ frames := 0, cells := 0, slots := 0, locals := 0 } : Room).slots) := by
  refine MetFree.of_bodySF (plainFor_of_name pn_ex0) hisR ?_
  intro p e s m args below meth c s₁ Bd hml0 hP hK
  obtain ⟨rfl, hZ, hh⟩ := hP
  have hx := Bd.exec
  have hby := Bd.bytes
  have hml : c.maxLocals = 2 := hml0
  have hown : s.vm.findClass "com/example/davka/davka/AccountingCodeOfPinLaw" = some m.cls := findClass_of_methodNamed Bd.named
  have hnm := (name_of_methodNamed Bd.named Bd.method).1
  have hlk := Bd.notSynchronized
  have hret := Bd.returns
  have X0 : Stand p l e ({ frames := 0, cells := 0, slots := 0, locals := 0 } : Room) s m #[(.int (1 : Int32)), (.int (48 : Int32))] below meth c s₁ [] 0 0 := Stand.of_body Bd
  have e0 : s₁.heap = h0 := by rw [← hh, Bd.state]; rfl
  have N0 := Fr.nil n0
  have K0 := Keep.refl h0 []
  refine own_go (S' := (s₁.setTop (mkF m 0 #[.val (.int (1 : Int32)), .val (.int (48 : Int32))] []))) (fun tq kq => castTop (ef_ex0 m xs kx x0 x1 x2 x3) kq) ?_
  show own_G p e s below (Q_ex0 Z h0 n0 xs kx x0 x1 x2 x3) _ _ _
  refine own_go (S' := (s₁.setTop (mkF m 13 #[.val (.int (1 : Int32)), .val (.int (48 : Int32))] []))) (fun tq kq => XS.iloadN X0.here hx rfl (hb hby d10_0) rfl (XS.iconst X0.here hx rfl (hb hby d10_1) (XS.icmpYes X0.here hx rfl (pc0 := 2) (pc' := 7) rfl (hb hby d10_2) rfl (teq (by decide : (1 : Int32) = (1 : Int32))).1 (by decide) (by decide) (XS.iloadN X0.here hx rfl (hb hby d10_7) rfl (XS.bipush X0.here hx rfl (hb hby d10_8) (XS.icmpNo X0.here hx rfl (hb hby d10_10) rfl (teq (by decide : (48 : Int32) = (48 : Int32))).2 kq)))))) ?_
  obtain ⟨T101, X101, e101, st101⟩ := getS2 X0 hx hZ hown (host := "") (Or.inl (hw _ (List.mem_of_getElem? (i := 158) rfl))) Via.refl e0 (S0.ext O0.2) (g := (mkF m 13 #[.val (.int (1 : Int32)), .val (.int (48 : Int32))] [])) rfl (hb hby d10_13)
  refine own_go (S' := (T101.setTop (mkF m 16 #[.val (.int (1 : Int32)), .val (.int (48 : Int32))] [(.ref x0)]))) (fun tq kq => st101 tq kq) ?_
  refine own_retA X101 hx hlk hret rfl rfl (hb hby d10_16) (by decide) (by decide) ?_
  exact ⟨rfl, N0, e101⟩
theorem pn_ex1 : plainName "com/example/davka/davka/AccountingCodeOfPinLaw" = true := by first | (simp [plainName, overriddenIn]; done) | decide +kernel
theorem ef_ex1 (m : MethodId) (xs : Addr) (kx : ClassId) (x0 : Addr) (x1 : Addr) (x2 : Addr) (x3 : Addr) : entryFrame m #[(.int (1 : Int32)), (.int (49 : Int32))] 2 = mkF m 0 #[.val (.int (1 : Int32)), .val (.int (49 : Int32))] [] := by first | (simp [entryFrame, mkF, argsToLocals, Value.category]; done) | rfl
def Q_ex1 (Z : State) (h0 : Heap) (n0 : Nat) (xs : Addr) (kx : ClassId) (x0 : Addr) (x1 : Addr) (x2 : Addr) (x3 : Addr) (v : Option Value) (h : Heap) (L : List Loc) : Prop := v = some (.ref x1) ∧ Fr n0 L ∧ h = h0
set_option maxRecDepth 65536 in
set_option maxHeartbeats 40000000 in
theorem ex1 (l : Launch) (Z : State) (a0 : Array Value) (hw : ∀ d ∈ tables_1, d.before a0 Z = true) (ws : List Jvm.Cond) (h0 : Heap) (n0 : Nat) (O0 : Old Z n0 h0) (xs : Addr) (kx : ClassId) (x0 : Addr) (x1 : Addr) (x2 : Addr) (x3 : Addr) (SX : Sta Z Z.heap "com/example/davka/davka/AccountingCode" "CODES" "[Lcom/example/davka/davka/AccountingCode;" (.ref xs)) (VX : own_Ar Z Z.heap xs kx (.object "com/example/davka/davka/AccountingCode") [(.ref x0), (.ref x1), (.ref x2), (.ref x3)]) (S0 : Sta Z Z.heap "com/example/davka/davka/AccountingCode" "DEBIT" "Lcom/example/davka/davka/AccountingCode;" (.ref x0)) (A0 : Exa Z Z.heap x0 "com/example/davka/davka/AccountingCode") (B0 : Fld Z Z.heap x0 "com/example/davka/davka/AccountingCode" "digit" "C" (.int (48 : Int32))) (S1 : Sta Z Z.heap "com/example/davka/davka/AccountingCode" "CREDIT" "Lcom/example/davka/davka/AccountingCode;" (.ref x1)) (A1 : Exa Z Z.heap x1 "com/example/davka/davka/AccountingCode") (B1 : Fld Z Z.heap x1 "com/example/davka/davka/AccountingCode" "digit" "C" (.int (49 : Int32))) (S2 : Sta Z Z.heap "com/example/davka/davka/AccountingCode" "DEBIT_CANCELLATION" "Lcom/example/davka/davka/AccountingCode;" (.ref x2)) (A2 : Exa Z Z.heap x2 "com/example/davka/davka/AccountingCode") (B2 : Fld Z Z.heap x2 "com/example/davka/davka/AccountingCode" "digit" "C" (.int (50 : Int32))) (S3 : Sta Z Z.heap "com/example/davka/davka/AccountingCode" "CREDIT_CANCELLATION" "Lcom/example/davka/davka/AccountingCode;" (.ref x3)) (A3 : Exa Z Z.heap x3 "com/example/davka/davka/AccountingCode") (B3 : Fld Z Z.heap x3 "com/example/davka/davka/AccountingCode" "digit" "C" (.int (51 : Int32))) :
    MetFree l (⟨"com/example/davka/davka/AccountingCodeOfPinLaw", "expected", "(IC)Lcom/example/davka/davka/AccountingCode;"⟩ : MethodName) (head1 (Jvm.Cond.code (⟨"com/example/davka/davka/AccountingCodeOfPinLaw", "expected", "(IC)Lcom/example/davka/davka/AccountingCode;"⟩ : MethodName) method_4_code 2 (some (.object "com/example/davka/davka/AccountingCode")) :: ws) ({ frames := 0, cells := 0, slots := 0, locals := 0 } : Room)) (fun aq U => aq = #[(.int (1 : Int32)), (.int (49 : Int32))] ∧ Z.Warmed39 U.vm ∧ U.heap = h0) (fun _ _ _ _ _ => True) (fun _ U oo U' => ∃ v L, oo = .returned v ∧ Q_ex1 Z h0 n0 xs kx x0 x1 x2 x3 v U'.heap L ∧ FrameEnd U oo U' L ({ frames := 0, cells := 0, slots := 0, locals := 0 } : Room).cells ({ frames := 0, cells := 0, slots := 0, locals := 0 } : Room).slots) := by
  refine MetFree.of_bodySF (plainFor_of_name pn_ex1) hisR ?_
  intro p e s m args below meth c s₁ Bd hml0 hP hK
  obtain ⟨rfl, hZ, hh⟩ := hP
  have hx := Bd.exec
  have hby := Bd.bytes
  have hml : c.maxLocals = 2 := hml0
  have hown : s.vm.findClass "com/example/davka/davka/AccountingCodeOfPinLaw" = some m.cls := findClass_of_methodNamed Bd.named
  have hnm := (name_of_methodNamed Bd.named Bd.method).1
  have hlk := Bd.notSynchronized
  have hret := Bd.returns
  have X0 : Stand p l e ({ frames := 0, cells := 0, slots := 0, locals := 0 } : Room) s m #[(.int (1 : Int32)), (.int (49 : Int32))] below meth c s₁ [] 0 0 := Stand.of_body Bd
  have e0 : s₁.heap = h0 := by rw [← hh, Bd.state]; rfl
  have N0 := Fr.nil n0
  have K0 := Keep.refl h0 []
  refine own_go (S' := (s₁.setTop (mkF m 0 #[.val (.int (1 : Int32)), .val (.int (49 : Int32))] []))) (fun tq kq => castTop (ef_ex1 m xs kx x0 x1 x2 x3) kq) ?_
  show own_G p e s below (Q_ex1 Z h0 n0 xs kx x0 x1 x2 x3) _ _ _
  refine own_go (S' := (s₁.setTop (mkF m 23 #[.val (.int (1 : Int32)), .val (.int (49 : Int32))] []))) (fun tq kq => XS.iloadN X0.here hx rfl (hb hby d10_0) rfl (XS.iconst X0.here hx rfl (hb hby d10_1) (XS.icmpYes X0.here hx rfl (pc0 := 2) (pc' := 7) rfl (hb hby d10_2) rfl (teq (by decide : (1 : Int32) = (1 : Int32))).1 (by decide) (by decide) (XS.iloadN X0.here hx rfl (hb hby d10_7) rfl (XS.bipush X0.here hx rfl (hb hby d10_8) (XS.icmpYes X0.here hx rfl (pc0 := 10) (pc' := 17) rfl (hb hby d10_10) rfl (feq (by decide : ¬ ((49 : Int32) = (48 : Int32)))).2 (by decide) (by decide) (XS.iloadN X0.here hx rfl (hb hby d10_17) rfl (XS.bipush X0.here hx rfl (hb hby d10_18) (XS.icmpNo X0.here hx rfl (hb hby d10_20) rfl (teq (by decide : (49 : Int32) = (49 : Int32))).2 kq))))))))) ?_
  obtain ⟨T101, X101, e101, st101⟩ := getS2 X0 hx hZ hown (host := "") (Or.inl (hw _ (List.mem_of_getElem? (i := 160) rfl))) Via.refl e0 (S1.ext O0.2) (g := (mkF m 23 #[.val (.int (1 : Int32)), .val (.int (49 : Int32))] [])) rfl (hb hby d10_23)
  refine own_go (S' := (T101.setTop (mkF m 26 #[.val (.int (1 : Int32)), .val (.int (49 : Int32))] [(.ref x1)]))) (fun tq kq => st101 tq kq) ?_
  refine own_retA X101 hx hlk hret rfl rfl (hb hby d10_26) (by decide) (by decide) ?_
  exact ⟨rfl, N0, e101⟩
theorem pn_ex2 : plainName "com/example/davka/davka/AccountingCodeOfPinLaw" = true := by first | (simp [plainName, overriddenIn]; done) | decide +kernel
theorem ef_ex2 (m : MethodId) (xs : Addr) (kx : ClassId) (x0 : Addr) (x1 : Addr) (x2 : Addr) (x3 : Addr) : entryFrame m #[(.int (1 : Int32)), (.int (50 : Int32))] 2 = mkF m 0 #[.val (.int (1 : Int32)), .val (.int (50 : Int32))] [] := by first | (simp [entryFrame, mkF, argsToLocals, Value.category]; done) | rfl
def Q_ex2 (Z : State) (h0 : Heap) (n0 : Nat) (xs : Addr) (kx : ClassId) (x0 : Addr) (x1 : Addr) (x2 : Addr) (x3 : Addr) (v : Option Value) (h : Heap) (L : List Loc) : Prop := v = some (.ref x2) ∧ Fr n0 L ∧ h = h0
set_option maxRecDepth 65536 in
set_option maxHeartbeats 40000000 in
theorem ex2 (l : Launch) (Z : State) (a0 : Array Value) (hw : ∀ d ∈ tables_1, d.before a0 Z = true) (ws : List Jvm.Cond) (h0 : Heap) (n0 : Nat) (O0 : Old Z n0 h0) (xs : Addr) (kx : ClassId) (x0 : Addr) (x1 : Addr) (x2 : Addr) (x3 : Addr) (SX : Sta Z Z.heap "com/example/davka/davka/AccountingCode" "CODES" "[Lcom/example/davka/davka/AccountingCode;" (.ref xs)) (VX : own_Ar Z Z.heap xs kx (.object "com/example/davka/davka/AccountingCode") [(.ref x0), (.ref x1), (.ref x2), (.ref x3)]) (S0 : Sta Z Z.heap "com/example/davka/davka/AccountingCode" "DEBIT" "Lcom/example/davka/davka/AccountingCode;" (.ref x0)) (A0 : Exa Z Z.heap x0 "com/example/davka/davka/AccountingCode") (B0 : Fld Z Z.heap x0 "com/example/davka/davka/AccountingCode" "digit" "C" (.int (48 : Int32))) (S1 : Sta Z Z.heap "com/example/davka/davka/AccountingCode" "CREDIT" "Lcom/example/davka/davka/AccountingCode;" (.ref x1)) (A1 : Exa Z Z.heap x1 "com/example/davka/davka/AccountingCode") (B1 : Fld Z Z.heap x1 "com/example/davka/davka/AccountingCode" "digit" "C" (.int (49 : Int32))) (S2 : Sta Z Z.heap "com/example/davka/davka/AccountingCode" "DEBIT_CANCELLATION" "Lcom/example/davka/davka/AccountingCode;" (.ref x2)) (A2 : Exa Z Z.heap x2 "com/example/davka/davka/AccountingCode") (B2 : Fld Z Z.heap x2 "com/example/davka/davka/AccountingCode" "digit" "C" (.int (50 : Int32))) (S3 : Sta Z Z.heap "com/example/davka/davka/AccountingCode" "CREDIT_CANCELLATION" "Lcom/example/davka/davka/AccountingCode;" (.ref x3)) (A3 : Exa Z Z.heap x3 "com/example/davka/davka/AccountingCode") (B3 : Fld Z Z.heap x3 "com/example/davka/davka/AccountingCode" "digit" "C" (.int (51 : Int32))) :
    MetFree l (⟨"com/example/davka/davka/AccountingCodeOfPinLaw", "expected", "(IC)Lcom/example/davka/davka/AccountingCode;"⟩ : MethodName) (head1 (Jvm.Cond.code (⟨"com/example/davka/davka/AccountingCodeOfPinLaw", "expected", "(IC)Lcom/example/davka/davka/AccountingCode;"⟩ : MethodName) method_4_code 2 (some (.object "com/example/davka/davka/AccountingCode")) :: ws) ({ frames := 0, cells := 0, slots := 0, locals := 0 } : Room)) (fun aq U => aq = #[(.int (1 : Int32)), (.int (50 : Int32))] ∧ Z.Warmed39 U.vm ∧ U.heap = h0) (fun _ _ _ _ _ => True) (fun _ U oo U' => ∃ v L, oo = .returned v ∧ Q_ex2 Z h0 n0 xs kx x0 x1 x2 x3 v U'.heap L ∧ FrameEnd U oo U' L ({ frames := 0, cells := 0, slots := 0, locals := 0 } : Room).cells ({ frames := 0, cells := 0, slots := 0, locals := 0 } : Room).slots) := by
  refine MetFree.of_bodySF (plainFor_of_name pn_ex2) hisR ?_
  intro p e s m args below meth c s₁ Bd hml0 hP hK
  obtain ⟨rfl, hZ, hh⟩ := hP
  have hx := Bd.exec
  have hby := Bd.bytes
  have hml : c.maxLocals = 2 := hml0
  have hown : s.vm.findClass "com/example/davka/davka/AccountingCodeOfPinLaw" = some m.cls := findClass_of_methodNamed Bd.named
  have hnm := (name_of_methodNamed Bd.named Bd.method).1
  have hlk := Bd.notSynchronized
  have hret := Bd.returns
  have X0 : Stand p l e ({ frames := 0, cells := 0, slots := 0, locals := 0 } : Room) s m #[(.int (1 : Int32)), (.int (50 : Int32))] below meth c s₁ [] 0 0 := Stand.of_body Bd
  have e0 : s₁.heap = h0 := by rw [← hh, Bd.state]; rfl
  have N0 := Fr.nil n0
  have K0 := Keep.refl h0 []
  refine own_go (S' := (s₁.setTop (mkF m 0 #[.val (.int (1 : Int32)), .val (.int (50 : Int32))] []))) (fun tq kq => castTop (ef_ex2 m xs kx x0 x1 x2 x3) kq) ?_
  show own_G p e s below (Q_ex2 Z h0 n0 xs kx x0 x1 x2 x3) _ _ _
  refine own_go (S' := (s₁.setTop (mkF m 28 #[.val (.int (1 : Int32)), .val (.int (50 : Int32))] [(.int (50 : Int32))]))) (fun tq kq => XS.iloadN X0.here hx rfl (hb hby d10_0) rfl (XS.iconst X0.here hx rfl (hb hby d10_1) (XS.icmpYes X0.here hx rfl (pc0 := 2) (pc' := 7) rfl (hb hby d10_2) rfl (teq (by decide : (1 : Int32) = (1 : Int32))).1 (by decide) (by decide) (XS.iloadN X0.here hx rfl (hb hby d10_7) rfl (XS.bipush X0.here hx rfl (hb hby d10_8) (XS.icmpYes X0.here hx rfl (pc0 := 10) (pc' := 17) rfl (hb hby d10_10) rfl (feq (by decide : ¬ ((50 : Int32) = (48 : Int32)))).2 (by decide) (by decide) (XS.iloadN X0.here hx rfl (hb hby d10_17) rfl (XS.bipush X0.here hx rfl (hb hby d10_18) (XS.icmpYes X0.here hx rfl (pc0 := 20) (pc' := 27) rfl (hb hby d10_20) rfl (feq (by decide : ¬ ((50 : Int32) = (49 : Int32)))).2 (by decide) (by decide) (XS.iloadN X0.here hx rfl (hb hby d10_27) rfl kq)))))))))) ?_
  refine own_go (S' := (s₁.setTop (mkF m 33 #[.val (.int (1 : Int32)), .val (.int (50 : Int32))] []))) (fun tq kq => XS.bipush X0.here hx rfl (hb hby d10_28) (XS.icmpNo X0.here hx rfl (hb hby d10_30) rfl (teq (by decide : (50 : Int32) = (50 : Int32))).2 kq)) ?_
  obtain ⟨T101, X101, e101, st101⟩ := getS2 X0 hx hZ hown (host := "") (Or.inl (hw _ (List.mem_of_getElem? (i := 161) rfl))) Via.refl e0 (S2.ext O0.2) (g := (mkF m 33 #[.val (.int (1 : Int32)), .val (.int (50 : Int32))] [])) rfl (hb hby d10_33)
  refine own_go (S' := (T101.setTop (mkF m 36 #[.val (.int (1 : Int32)), .val (.int (50 : Int32))] [(.ref x2)]))) (fun tq kq => st101 tq kq) ?_
  refine own_retA X101 hx hlk hret rfl rfl (hb hby d10_36) (by decide) (by decide) ?_
  exact ⟨rfl, N0, e101⟩
theorem pn_ex3 : plainName "com/example/davka/davka/AccountingCodeOfPinLaw" = true := by first | (simp [plainName, overriddenIn]; done) | decide +kernel
theorem ef_ex3 (m : MethodId) (xs : Addr) (kx : ClassId) (x0 : Addr) (x1 : Addr) (x2 : Addr) (x3 : Addr) : entryFrame m #[(.int (1 : Int32)), (.int (51 : Int32))] 2 = mkF m 0 #[.val (.int (1 : Int32)), .val (.int (51 : Int32))] [] := by first | (simp [entryFrame, mkF, argsToLocals, Value.category]; done) | rfl
def Q_ex3 (Z : State) (h0 : Heap) (n0 : Nat) (xs : Addr) (kx : ClassId) (x0 : Addr) (x1 : Addr) (x2 : Addr) (x3 : Addr) (v : Option Value) (h : Heap) (L : List Loc) : Prop := v = some (.ref x3) ∧ Fr n0 L ∧ h = h0
set_option maxRecDepth 65536 in
set_option maxHeartbeats 40000000 in
theorem ex3 (l : Launch) (Z : State) (a0 : Array Value) (hw : ∀ d ∈ tables_1, d.before a0 Z = true) (ws : List Jvm.Cond) (h0 : Heap) (n0 : Nat) (O0 : Old Z n0 h0) (xs : Addr) (kx : ClassId) (x0 : Addr) (x1 : Addr) (x2 : Addr) (x3 : Addr) (SX : Sta Z Z.heap "com/example/davka/davka/AccountingCode" "CODES" "[Lcom/example/davka/davka/AccountingCode;" (.ref xs)) (VX : own_Ar Z Z.heap xs kx (.object "com/example/davka/davka/AccountingCode") [(.ref x0), (.ref x1), (.ref x2), (.ref x3)]) (S0 : Sta Z Z.heap "com/example/davka/davka/AccountingCode" "DEBIT" "Lcom/example/davka/davka/AccountingCode;" (.ref x0)) (A0 : Exa Z Z.heap x0 "com/example/davka/davka/AccountingCode") (B0 : Fld Z Z.heap x0 "com/example/davka/davka/AccountingCode" "digit" "C" (.int (48 : Int32))) (S1 : Sta Z Z.heap "com/example/davka/davka/AccountingCode" "CREDIT" "Lcom/example/davka/davka/AccountingCode;" (.ref x1)) (A1 : Exa Z Z.heap x1 "com/example/davka/davka/AccountingCode") (B1 : Fld Z Z.heap x1 "com/example/davka/davka/AccountingCode" "digit" "C" (.int (49 : Int32))) (S2 : Sta Z Z.heap "com/example/davka/davka/AccountingCode" "DEBIT_CANCELLATION" "Lcom/example/davka/davka/AccountingCode;" (.ref x2)) (A2 : Exa Z Z.heap x2 "com/example/davka/davka/AccountingCode") (B2 : Fld Z Z.heap x2 "com/example/davka/davka/AccountingCode" "digit" "C" (.int (50 : Int32))) (S3 : Sta Z Z.heap "com/example/davka/davka/AccountingCode" "CREDIT_CANCELLATION" "Lcom/example/davka/davka/AccountingCode;" (.ref x3)) (A3 : Exa Z Z.heap x3 "com/example/davka/davka/AccountingCode") (B3 : Fld Z Z.heap x3 "com/example/davka/davka/AccountingCode" "digit" "C" (.int (51 : Int32))) :
    MetFree l (⟨"com/example/davka/davka/AccountingCodeOfPinLaw", "expected", "(IC)Lcom/example/davka/davka/AccountingCode;"⟩ : MethodName) (head1 (Jvm.Cond.code (⟨"com/example/davka/davka/AccountingCodeOfPinLaw", "expected", "(IC)Lcom/example/davka/davka/AccountingCode;"⟩ : MethodName) method_4_code 2 (some (.object "com/example/davka/davka/AccountingCode")) :: ws) ({ frames := 0, cells := 0, slots := 0, locals := 0 } : Room)) (fun aq U => aq = #[(.int (1 : Int32)), (.int (51 : Int32))] ∧ Z.Warmed39 U.vm ∧ U.heap = h0) (fun _ _ _ _ _ => True) (fun _ U oo U' => ∃ v L, oo = .returned v ∧ Q_ex3 Z h0 n0 xs kx x0 x1 x2 x3 v U'.heap L ∧ FrameEnd U oo U' L ({ frames := 0, cells := 0, slots := 0, locals := 0 } : Room).cells ({ frames := 0, cells := 0, slots := 0, locals := 0 } : Room).slots) := by
  refine MetFree.of_bodySF (plainFor_of_name pn_ex3) hisR ?_
  intro p e s m args below meth c s₁ Bd hml0 hP hK
  obtain ⟨rfl, hZ, hh⟩ := hP
  have hx := Bd.exec
  have hby := Bd.bytes
  have hml : c.maxLocals = 2 := hml0
  have hown : s.vm.findClass "com/example/davka/davka/AccountingCodeOfPinLaw" = some m.cls := findClass_of_methodNamed Bd.named
  have hnm := (name_of_methodNamed Bd.named Bd.method).1
  have hlk := Bd.notSynchronized
  have hret := Bd.returns
  have X0 : Stand p l e ({ frames := 0, cells := 0, slots := 0, locals := 0 } : Room) s m #[(.int (1 : Int32)), (.int (51 : Int32))] below meth c s₁ [] 0 0 := Stand.of_body Bd
  have e0 : s₁.heap = h0 := by rw [← hh, Bd.state]; rfl
  have N0 := Fr.nil n0
  have K0 := Keep.refl h0 []
  refine own_go (S' := (s₁.setTop (mkF m 0 #[.val (.int (1 : Int32)), .val (.int (51 : Int32))] []))) (fun tq kq => castTop (ef_ex3 m xs kx x0 x1 x2 x3) kq) ?_
  show own_G p e s below (Q_ex3 Z h0 n0 xs kx x0 x1 x2 x3) _ _ _
  refine own_go (S' := (s₁.setTop (mkF m 28 #[.val (.int (1 : Int32)), .val (.int (51 : Int32))] [(.int (51 : Int32))]))) (fun tq kq => XS.iloadN X0.here hx rfl (hb hby d10_0) rfl (XS.iconst X0.here hx rfl (hb hby d10_1) (XS.icmpYes X0.here hx rfl (pc0 := 2) (pc' := 7) rfl (hb hby d10_2) rfl (teq (by decide : (1 : Int32) = (1 : Int32))).1 (by decide) (by decide) (XS.iloadN X0.here hx rfl (hb hby d10_7) rfl (XS.bipush X0.here hx rfl (hb hby d10_8) (XS.icmpYes X0.here hx rfl (pc0 := 10) (pc' := 17) rfl (hb hby d10_10) rfl (feq (by decide : ¬ ((51 : Int32) = (48 : Int32)))).2 (by decide) (by decide) (XS.iloadN X0.here hx rfl (hb hby d10_17) rfl (XS.bipush X0.here hx rfl (hb hby d10_18) (XS.icmpYes X0.here hx rfl (pc0 := 20) (pc' := 27) rfl (hb hby d10_20) rfl (feq (by decide : ¬ ((51 : Int32) = (49 : Int32)))).2 (by decide) (by decide) (XS.iloadN X0.here hx rfl (hb hby d10_27) rfl kq)))))))))) ?_
  refine own_go (S' := (s₁.setTop (mkF m 43 #[.val (.int (1 : Int32)), .val (.int (51 : Int32))] []))) (fun tq kq => XS.bipush X0.here hx rfl (hb hby d10_28) (XS.icmpYes X0.here hx rfl (pc0 := 30) (pc' := 37) rfl (hb hby d10_30) rfl (feq (by decide : ¬ ((51 : Int32) = (50 : Int32)))).2 (by decide) (by decide) (XS.iloadN X0.here hx rfl (hb hby d10_37) rfl (XS.bipush X0.here hx rfl (hb hby d10_38) (XS.icmpNo X0.here hx rfl (hb hby d10_40) rfl (teq (by decide : (51 : Int32) = (51 : Int32))).2 kq))))) ?_
  obtain ⟨T101, X101, e101, st101⟩ := getS2 X0 hx hZ hown (host := "") (Or.inl (hw _ (List.mem_of_getElem? (i := 159) rfl))) Via.refl e0 (S3.ext O0.2) (g := (mkF m 43 #[.val (.int (1 : Int32)), .val (.int (51 : Int32))] [])) rfl (hb hby d10_43)
  refine own_go (S' := (T101.setTop (mkF m 46 #[.val (.int (1 : Int32)), .val (.int (51 : Int32))] [(.ref x3)]))) (fun tq kq => st101 tq kq) ?_
  refine own_retA X101 hx hlk hret rfl rfl (hb hby d10_46) (by decide) (by decide) ?_
  exact ⟨rfl, N0, e101⟩
theorem pn_exn : plainName "com/example/davka/davka/AccountingCodeOfPinLaw" = true := by first | (simp [plainName, overriddenIn]; done) | decide +kernel
theorem ef_exn (m : MethodId) (ch : Int32) : entryFrame m #[(.int (1 : Int32)), (.int ch)] 2 = mkF m 0 #[.val (.int (1 : Int32)), .val (.int ch)] [] := by first | (simp [entryFrame, mkF, argsToLocals, Value.category]; done) | rfl
def Q_exn (Z : State) (h0 : Heap) (n0 : Nat) (ch : Int32) (v : Option Value) (h : Heap) (L : List Loc) : Prop := v = some .null ∧ Fr n0 L ∧ h = h0
set_option maxRecDepth 65536 in
set_option maxHeartbeats 40000000 in
theorem exn (l : Launch) (Z : State) (a0 : Array Value) (hw : ∀ d ∈ tables_1, d.before a0 Z = true) (ws : List Jvm.Cond) (h0 : Heap) (n0 : Nat) (O0 : Old Z n0 h0) (ch : Int32) (hn0 : ¬ ((48 : Int32) = ch)) (hn1 : ¬ ((49 : Int32) = ch)) (hn2 : ¬ ((50 : Int32) = ch)) (hn3 : ¬ ((51 : Int32) = ch)) :
    MetFree l (⟨"com/example/davka/davka/AccountingCodeOfPinLaw", "expected", "(IC)Lcom/example/davka/davka/AccountingCode;"⟩ : MethodName) (head1 (Jvm.Cond.code (⟨"com/example/davka/davka/AccountingCodeOfPinLaw", "expected", "(IC)Lcom/example/davka/davka/AccountingCode;"⟩ : MethodName) method_4_code 2 (some (.object "com/example/davka/davka/AccountingCode")) :: ws) ({ frames := 0, cells := 0, slots := 0, locals := 0 } : Room)) (fun aq U => aq = #[(.int (1 : Int32)), (.int ch)] ∧ Z.Warmed39 U.vm ∧ U.heap = h0) (fun _ _ _ _ _ => True) (fun _ U oo U' => ∃ v L, oo = .returned v ∧ Q_exn Z h0 n0 ch v U'.heap L ∧ FrameEnd U oo U' L ({ frames := 0, cells := 0, slots := 0, locals := 0 } : Room).cells ({ frames := 0, cells := 0, slots := 0, locals := 0 } : Room).slots) := by
  refine MetFree.of_bodySF (plainFor_of_name pn_exn) hisR ?_
  intro p e s m args below meth c s₁ Bd hml0 hP hK
  obtain ⟨rfl, hZ, hh⟩ := hP
  have hx := Bd.exec
  have hby := Bd.bytes
  have hml : c.maxLocals = 2 := hml0
  have hown : s.vm.findClass "com/example/davka/davka/AccountingCodeOfPinLaw" = some m.cls := findClass_of_methodNamed Bd.named
  have hnm := (name_of_methodNamed Bd.named Bd.method).1
  have hlk := Bd.notSynchronized
  have hret := Bd.returns
  have X0 : Stand p l e ({ frames := 0, cells := 0, slots := 0, locals := 0 } : Room) s m #[(.int (1 : Int32)), (.int ch)] below meth c s₁ [] 0 0 := Stand.of_body Bd
  have e0 : s₁.heap = h0 := by rw [← hh, Bd.state]; rfl
  have N0 := Fr.nil n0
  have K0 := Keep.refl h0 []
  refine own_go (S' := (s₁.setTop (mkF m 0 #[.val (.int (1 : Int32)), .val (.int ch)] []))) (fun tq kq => castTop (ef_exn m ch) kq) ?_
  show own_G p e s below (Q_exn Z h0 n0 ch) _ _ _
  refine own_go (S' := (s₁.setTop (mkF m 28 #[.val (.int (1 : Int32)), .val (.int ch)] [(.int ch)]))) (fun tq kq => XS.iloadN X0.here hx rfl (hb hby d10_0) rfl (XS.iconst X0.here hx rfl (hb hby d10_1) (XS.icmpYes X0.here hx rfl (pc0 := 2) (pc' := 7) rfl (hb hby d10_2) rfl (teq (by decide : (1 : Int32) = (1 : Int32))).1 (by decide) (by decide) (XS.iloadN X0.here hx rfl (hb hby d10_7) rfl (XS.bipush X0.here hx rfl (hb hby d10_8) (XS.icmpYes X0.here hx rfl (pc0 := 10) (pc' := 17) rfl (hb hby d10_10) rfl (feq (fun q => hn0 q.symm)).2 (by decide) (by decide) (XS.iloadN X0.here hx rfl (hb hby d10_17) rfl (XS.bipush X0.here hx rfl (hb hby d10_18) (XS.icmpYes X0.here hx rfl (pc0 := 20) (pc' := 27) rfl (hb hby d10_20) rfl (feq (fun q => hn1 q.symm)).2 (by decide) (by decide) (XS.iloadN X0.here hx rfl (hb hby d10_27) rfl kq)))))))))) ?_
  refine own_go (S' := (s₁.setTop (mkF m 48 #[.val (.int (1 : Int32)), .val (.int ch)] [.null]))) (fun tq kq => XS.bipush X0.here hx rfl (hb hby d10_28) (XS.icmpYes X0.here hx rfl (pc0 := 30) (pc' := 37) rfl (hb hby d10_30) rfl (feq (fun q => hn2 q.symm)).2 (by decide) (by decide) (XS.iloadN X0.here hx rfl (hb hby d10_37) rfl (XS.bipush X0.here hx rfl (hb hby d10_38) (XS.icmpYes X0.here hx rfl (pc0 := 40) (pc' := 47) rfl (hb hby d10_40) rfl (feq (fun q => hn3 q.symm)).2 (by decide) (by decide) (XS.aconstNull X0.here hx rfl (hb hby d10_47) kq)))))) ?_
  refine own_retA X0 hx hlk hret rfl rfl (hb hby d10_48) (by decide) (by decide) ?_
  exact ⟨rfl, N0, e0⟩
theorem pn_exz0 : plainName "com/example/davka/davka/AccountingCodeOfPinLaw" = true := by first | (simp [plainName, overriddenIn]; done) | decide +kernel
theorem ef_exz0 (m : MethodId) (ch : Int32) : entryFrame m #[(.int (0 : Int32)), (.int ch)] 2 = mkF m 0 #[.val (.int (0 : Int32)), .val (.int ch)] [] := by first | (simp [entryFrame, mkF, argsToLocals, Value.category]; done) | rfl
def Q_exz0 (Z : State) (h0 : Heap) (n0 : Nat) (ch : Int32) (v : Option Value) (h : Heap) (L : List Loc) : Prop := v = some .null ∧ Fr n0 L ∧ h = h0
set_option maxRecDepth 65536 in
set_option maxHeartbeats 40000000 in
theorem exz0 (l : Launch) (Z : State) (a0 : Array Value) (hw : ∀ d ∈ tables_1, d.before a0 Z = true) (ws : List Jvm.Cond) (h0 : Heap) (n0 : Nat) (O0 : Old Z n0 h0) (ch : Int32)  :
    MetFree l (⟨"com/example/davka/davka/AccountingCodeOfPinLaw", "expected", "(IC)Lcom/example/davka/davka/AccountingCode;"⟩ : MethodName) (head1 (Jvm.Cond.code (⟨"com/example/davka/davka/AccountingCodeOfPinLaw", "expected", "(IC)Lcom/example/davka/davka/AccountingCode;"⟩ : MethodName) method_4_code 2 (some (.object "com/example/davka/davka/AccountingCode")) :: ws) ({ frames := 0, cells := 0, slots := 0, locals := 0 } : Room)) (fun aq U => aq = #[(.int (0 : Int32)), (.int ch)] ∧ Z.Warmed39 U.vm ∧ U.heap = h0) (fun _ _ _ _ _ => True) (fun _ U oo U' => ∃ v L, oo = .returned v ∧ Q_exz0 Z h0 n0 ch v U'.heap L ∧ FrameEnd U oo U' L ({ frames := 0, cells := 0, slots := 0, locals := 0 } : Room).cells ({ frames := 0, cells := 0, slots := 0, locals := 0 } : Room).slots) := by
  refine MetFree.of_bodySF (plainFor_of_name pn_exz0) hisR ?_
  intro p e s m args below meth c s₁ Bd hml0 hP hK
  obtain ⟨rfl, hZ, hh⟩ := hP
  have hx := Bd.exec
  have hby := Bd.bytes
  have hml : c.maxLocals = 2 := hml0
  have hown : s.vm.findClass "com/example/davka/davka/AccountingCodeOfPinLaw" = some m.cls := findClass_of_methodNamed Bd.named
  have hnm := (name_of_methodNamed Bd.named Bd.method).1
  have hlk := Bd.notSynchronized
  have hret := Bd.returns
  have X0 : Stand p l e ({ frames := 0, cells := 0, slots := 0, locals := 0 } : Room) s m #[(.int (0 : Int32)), (.int ch)] below meth c s₁ [] 0 0 := Stand.of_body Bd
  have e0 : s₁.heap = h0 := by rw [← hh, Bd.state]; rfl
  have N0 := Fr.nil n0
  have K0 := Keep.refl h0 []
  refine own_go (S' := (s₁.setTop (mkF m 0 #[.val (.int (0 : Int32)), .val (.int ch)] []))) (fun tq kq => castTop (ef_exz0 m ch) kq) ?_
  show own_G p e s below (Q_exz0 Z h0 n0 ch) _ _ _
  refine own_go (S' := (s₁.setTop (mkF m 6 #[.val (.int (0 : Int32)), .val (.int ch)] [.null]))) (fun tq kq => XS.iloadN X0.here hx rfl (hb hby d10_0) rfl (XS.iconst X0.here hx rfl (hb hby d10_1) (XS.icmpNo X0.here hx rfl (hb hby d10_2) rfl (feq (by decide : ¬ ((0 : Int32) = (1 : Int32)))).1 (XS.aconstNull X0.here hx rfl (hb hby d10_5) kq)))) ?_
  refine own_retA X0 hx hlk hret rfl rfl (hb hby d10_6) (by decide) (by decide) ?_
  exact ⟨rfl, N0, e0⟩
theorem pn_exz2 : plainName "com/example/davka/davka/AccountingCodeOfPinLaw" = true := by first | (simp [plainName, overriddenIn]; done) | decide +kernel
theorem ef_exz2 (m : MethodId) (ch : Int32) : entryFrame m #[(.int (2 : Int32)), (.int ch)] 2 = mkF m 0 #[.val (.int (2 : Int32)), .val (.int ch)] [] := by first | (simp [entryFrame, mkF, argsToLocals, Value.category]; done) | rfl
def Q_exz2 (Z : State) (h0 : Heap) (n0 : Nat) (ch : Int32) (v : Option Value) (h : Heap) (L : List Loc) : Prop := v = some .null ∧ Fr n0 L ∧ h = h0
set_option maxRecDepth 65536 in
set_option maxHeartbeats 40000000 in
theorem exz2 (l : Launch) (Z : State) (a0 : Array Value) (hw : ∀ d ∈ tables_1, d.before a0 Z = true) (ws : List Jvm.Cond) (h0 : Heap) (n0 : Nat) (O0 : Old Z n0 h0) (ch : Int32)  :
    MetFree l (⟨"com/example/davka/davka/AccountingCodeOfPinLaw", "expected", "(IC)Lcom/example/davka/davka/AccountingCode;"⟩ : MethodName) (head1 (Jvm.Cond.code (⟨"com/example/davka/davka/AccountingCodeOfPinLaw", "expected", "(IC)Lcom/example/davka/davka/AccountingCode;"⟩ : MethodName) method_4_code 2 (some (.object "com/example/davka/davka/AccountingCode")) :: ws) ({ frames := 0, cells := 0, slots := 0, locals := 0 } : Room)) (fun aq U => aq = #[(.int (2 : Int32)), (.int ch)] ∧ Z.Warmed39 U.vm ∧ U.heap = h0) (fun _ _ _ _ _ => True) (fun _ U oo U' => ∃ v L, oo = .returned v ∧ Q_exz2 Z h0 n0 ch v U'.heap L ∧ FrameEnd U oo U' L ({ frames := 0, cells := 0, slots := 0, locals := 0 } : Room).cells ({ frames := 0, cells := 0, slots := 0, locals := 0 } : Room).slots) := by
  refine MetFree.of_bodySF (plainFor_of_name pn_exz2) hisR ?_
  intro p e s m args below meth c s₁ Bd hml0 hP hK
  obtain ⟨rfl, hZ, hh⟩ := hP
  have hx := Bd.exec
  have hby := Bd.bytes
  have hml : c.maxLocals = 2 := hml0
  have hown : s.vm.findClass "com/example/davka/davka/AccountingCodeOfPinLaw" = some m.cls := findClass_of_methodNamed Bd.named
  have hnm := (name_of_methodNamed Bd.named Bd.method).1
  have hlk := Bd.notSynchronized
  have hret := Bd.returns
  have X0 : Stand p l e ({ frames := 0, cells := 0, slots := 0, locals := 0 } : Room) s m #[(.int (2 : Int32)), (.int ch)] below meth c s₁ [] 0 0 := Stand.of_body Bd
  have e0 : s₁.heap = h0 := by rw [← hh, Bd.state]; rfl
  have N0 := Fr.nil n0
  have K0 := Keep.refl h0 []
  refine own_go (S' := (s₁.setTop (mkF m 0 #[.val (.int (2 : Int32)), .val (.int ch)] []))) (fun tq kq => castTop (ef_exz2 m ch) kq) ?_
  show own_G p e s below (Q_exz2 Z h0 n0 ch) _ _ _
  refine own_go (S' := (s₁.setTop (mkF m 6 #[.val (.int (2 : Int32)), .val (.int ch)] [.null]))) (fun tq kq => XS.iloadN X0.here hx rfl (hb hby d10_0) rfl (XS.iconst X0.here hx rfl (hb hby d10_1) (XS.icmpNo X0.here hx rfl (hb hby d10_2) rfl (feq (by decide : ¬ ((2 : Int32) = (1 : Int32)))).1 (XS.aconstNull X0.here hx rfl (hb hby d10_5) kq)))) ?_
  refine own_retA X0 hx hlk hret rfl rfl (hb hby d10_6) (by decide) (by decide) ?_
  exact ⟨rfl, N0, e0⟩
theorem pn_exz3 : plainName "com/example/davka/davka/AccountingCodeOfPinLaw" = true := by first | (simp [plainName, overriddenIn]; done) | decide +kernel
theorem ef_exz3 (m : MethodId) (ch : Int32) : entryFrame m #[(.int (3 : Int32)), (.int ch)] 2 = mkF m 0 #[.val (.int (3 : Int32)), .val (.int ch)] [] := by first | (simp [entryFrame, mkF, argsToLocals, Value.category]; done) | rfl
def Q_exz3 (Z : State) (h0 : Heap) (n0 : Nat) (ch : Int32) (v : Option Value) (h : Heap) (L : List Loc) : Prop := v = some .null ∧ Fr n0 L ∧ h = h0
set_option maxRecDepth 65536 in
set_option maxHeartbeats 40000000 in
theorem exz3 (l : Launch) (Z : State) (a0 : Array Value) (hw : ∀ d ∈ tables_1, d.before a0 Z = true) (ws : List Jvm.Cond) (h0 : Heap) (n0 : Nat) (O0 : Old Z n0 h0) (ch : Int32)  :
    MetFree l (⟨"com/example/davka/davka/AccountingCodeOfPinLaw", "expected", "(IC)Lcom/example/davka/davka/AccountingCode;"⟩ : MethodName) (head1 (Jvm.Cond.code (⟨"com/example/davka/davka/AccountingCodeOfPinLaw", "expected", "(IC)Lcom/example/davka/davka/AccountingCode;"⟩ : MethodName) method_4_code 2 (some (.object "com/example/davka/davka/AccountingCode")) :: ws) ({ frames := 0, cells := 0, slots := 0, locals := 0 } : Room)) (fun aq U => aq = #[(.int (3 : Int32)), (.int ch)] ∧ Z.Warmed39 U.vm ∧ U.heap = h0) (fun _ _ _ _ _ => True) (fun _ U oo U' => ∃ v L, oo = .returned v ∧ Q_exz3 Z h0 n0 ch v U'.heap L ∧ FrameEnd U oo U' L ({ frames := 0, cells := 0, slots := 0, locals := 0 } : Room).cells ({ frames := 0, cells := 0, slots := 0, locals := 0 } : Room).slots) := by
  refine MetFree.of_bodySF (plainFor_of_name pn_exz3) hisR ?_
  intro p e s m args below meth c s₁ Bd hml0 hP hK
  obtain ⟨rfl, hZ, hh⟩ := hP
  have hx := Bd.exec
  have hby := Bd.bytes
  have hml : c.maxLocals = 2 := hml0
  have hown : s.vm.findClass "com/example/davka/davka/AccountingCodeOfPinLaw" = some m.cls := findClass_of_methodNamed Bd.named
  have hnm := (name_of_methodNamed Bd.named Bd.method).1
  have hlk := Bd.notSynchronized
  have hret := Bd.returns
  have X0 : Stand p l e ({ frames := 0, cells := 0, slots := 0, locals := 0 } : Room) s m #[(.int (3 : Int32)), (.int ch)] below meth c s₁ [] 0 0 := Stand.of_body Bd
  have e0 : s₁.heap = h0 := by rw [← hh, Bd.state]; rfl
  have N0 := Fr.nil n0
  have K0 := Keep.refl h0 []
  refine own_go (S' := (s₁.setTop (mkF m 0 #[.val (.int (3 : Int32)), .val (.int ch)] []))) (fun tq kq => castTop (ef_exz3 m ch) kq) ?_
  show own_G p e s below (Q_exz3 Z h0 n0 ch) _ _ _
  refine own_go (S' := (s₁.setTop (mkF m 6 #[.val (.int (3 : Int32)), .val (.int ch)] [.null]))) (fun tq kq => XS.iloadN X0.here hx rfl (hb hby d10_0) rfl (XS.iconst X0.here hx rfl (hb hby d10_1) (XS.icmpNo X0.here hx rfl (hb hby d10_2) rfl (feq (by decide : ¬ ((3 : Int32) = (1 : Int32)))).1 (XS.aconstNull X0.here hx rfl (hb hby d10_5) kq)))) ?_
  refine own_retA X0 hx hlk hret rfl rfl (hb hby d10_6) (by decide) (by decide) ?_
  exact ⟨rfl, N0, e0⟩
theorem pn_ofs0_0 : plainName "com/example/davka/davka/AccountingCode" = true := by first | (simp [plainName, overriddenIn]; done) | decide +kernel
theorem ef_ofs0_0 (m : MethodId) (a : Addr) (d : Addr) (kd : ClassId) (vs : List Value) (em : Addr) (xs : Addr) (kx : ClassId) (x0 : Addr) (x1 : Addr) (x2 : Addr) (x3 : Addr) (z : Int32) (fm : Value) : entryFrame m #[(.ref a)] 1 = mkF m 0 #[.val (.ref a)] [] := by first | (simp [entryFrame, mkF, argsToLocals, Value.category]; done) | rfl
def Q_ofs0_0 (Z : State) (h0 : Heap) (n0 : Nat) (a : Addr) (d : Addr) (kd : ClassId) (vs : List Value) (em : Addr) (xs : Addr) (kx : ClassId) (x0 : Addr) (x1 : Addr) (x2 : Addr) (x3 : Addr) (z : Int32) (fm : Value) (v : Option Value) (h : Heap) (L : List Loc) : Prop := v = some (.ref em) ∧ Fr n0 L ∧ h = h0
set_option maxRecDepth 65536 in
set_option maxHeartbeats 40000000 in
theorem ofs0_0 (l : Launch) (Z : State) (a0 : Array Value) (hw : ∀ d ∈ tables_1, d.before a0 Z = true) (ws : List Jvm.Cond) (h0 : Heap) (n0 : Nat) (O0 : Old Z n0 h0) (a : Addr) (d : Addr) (kd : ClassId) (vs : List Value) (em : Addr) (xs : Addr) (kx : ClassId) (x0 : Addr) (x1 : Addr) (x2 : Addr) (x3 : Addr) (z : Int32) (fm : Value) (Ea : Exa Z h0 a "java/lang/String") (Fc : Fld Z h0 a "java/lang/String" "coder" "B" (.int (0 : Int32))) (Fv : Fld Z h0 a "java/lang/String" "value" "[B" (.ref d)) (Vd : own_Ar Z h0 d kd .byte vs) (hvs : vs.length = 0) (SE : Sta Z Z.heap "java/util/Optional" "EMPTY" "Ljava/util/Optional;" (.ref em)) (EE : Exa Z Z.heap em "java/util/Optional") (FE : Fld Z Z.heap em "java/util/Optional" "value" "Ljava/lang/Object;" .null) (SX : Sta Z Z.heap "com/example/davka/davka/AccountingCode" "CODES" "[Lcom/example/davka/davka/AccountingCode;" (.ref xs)) (VX : own_Ar Z Z.heap xs kx (.object "com/example/davka/davka/AccountingCode") [(.ref x0), (.ref x1), (.ref x2), (.ref x3)]) (S0 : Sta Z Z.heap "com/example/davka/davka/AccountingCode" "DEBIT" "Lcom/example/davka/davka/AccountingCode;" (.ref x0)) (A0 : Exa Z Z.heap x0 "com/example/davka/davka/AccountingCode") (B0 : Fld Z Z.heap x0 "com/example/davka/davka/AccountingCode" "digit" "C" (.int (48 : Int32))) (S1 : Sta Z Z.heap "com/example/davka/davka/AccountingCode" "CREDIT" "Lcom/example/davka/davka/AccountingCode;" (.ref x1)) (A1 : Exa Z Z.heap x1 "com/example/davka/davka/AccountingCode") (B1 : Fld Z Z.heap x1 "com/example/davka/davka/AccountingCode" "digit" "C" (.int (49 : Int32))) (S2 : Sta Z Z.heap "com/example/davka/davka/AccountingCode" "DEBIT_CANCELLATION" "Lcom/example/davka/davka/AccountingCode;" (.ref x2)) (A2 : Exa Z Z.heap x2 "com/example/davka/davka/AccountingCode") (B2 : Fld Z Z.heap x2 "com/example/davka/davka/AccountingCode" "digit" "C" (.int (50 : Int32))) (S3 : Sta Z Z.heap "com/example/davka/davka/AccountingCode" "CREDIT_CANCELLATION" "Lcom/example/davka/davka/AccountingCode;" (.ref x3)) (A3 : Exa Z Z.heap x3 "com/example/davka/davka/AccountingCode") (B3 : Fld Z Z.heap x3 "com/example/davka/davka/AccountingCode" "digit" "C" (.int (51 : Int32))) (SC : Sta Z Z.heap "java/lang/String" "COMPACT_STRINGS" "Z" (.int z)) (hz : ¬ (z = (0 : Int32))) (SA : Sta Z Z.heap "java/lang/StringUTF16" "$assertionsDisabled" "Z" (.int (1 : Int32))) (SH : Sta Z Z.heap "java/lang/StringUTF16" "HI_BYTE_SHIFT" "I" (.int (0 : Int32))) (SL : Sta Z Z.heap "java/lang/StringUTF16" "LO_BYTE_SHIFT" "I" (.int (8 : Int32))) (SF : Sta Z Z.heap "jdk/internal/util/Preconditions" "SIOOBE_FORMATTER" "Ljava/util/function/BiFunction;" fm) (hfm : fm.isRef = true) :
    MetFree l (⟨"com/example/davka/davka/AccountingCode", "of", "(Ljava/lang/String;)Ljava/util/Optional;"⟩ : MethodName) (head1 (Jvm.Cond.code (⟨"com/example/davka/davka/AccountingCode", "of", "(Ljava/lang/String;)Ljava/util/Optional;"⟩ : MethodName) prog_3_method_4_code 1 (some (.object "java/util/Optional")) :: ws) ({ frames := 2, cells := 0, slots := 0, locals := 25 } : Room)) (fun aq U => aq = #[(.ref a)] ∧ Z.Warmed39 U.vm ∧ U.heap = h0) (fun _ _ _ _ _ => True) (fun _ U oo U' => ∃ v L, oo = .returned v ∧ Q_ofs0_0 Z h0 n0 a d kd vs em xs kx x0 x1 x2 x3 z fm v U'.heap L ∧ FrameEnd U oo U' L ({ frames := 2, cells := 0, slots := 0, locals := 25 } : Room).cells ({ frames := 2, cells := 0, slots := 0, locals := 25 } : Room).slots) := by
  refine MetFree.of_bodySF (plainFor_of_name pn_ofs0_0) hisR ?_
  intro p e s m args below meth c s₁ Bd hml0 hP hK
  obtain ⟨rfl, hZ, hh⟩ := hP
  have hx := Bd.exec
  have hby := Bd.bytes
  have hml : c.maxLocals = 1 := hml0
  have hown : s.vm.findClass "com/example/davka/davka/AccountingCode" = some m.cls := findClass_of_methodNamed Bd.named
  have hnm := (name_of_methodNamed Bd.named Bd.method).1
  have hlk := Bd.notSynchronized
  have hret := Bd.returns
  have X0 : Stand p l e ({ frames := 2, cells := 0, slots := 0, locals := 25 } : Room) s m #[(.ref a)] below meth c s₁ [] 0 0 := Stand.of_body Bd
  have e0 : s₁.heap = h0 := by rw [← hh, Bd.state]; rfl
  have N0 := Fr.nil n0
  have K0 := Keep.refl h0 []
  refine own_go (S' := (s₁.setTop (mkF m 0 #[.val (.ref a)] []))) (fun tq kq => castTop (ef_ofs0_0 m a d kd vs em xs kx x0 x1 x2 x3 z fm) kq) ?_
  show own_G p e s below (Q_ofs0_0 Z h0 n0 a d kd vs em xs kx x0 x1 x2 x3 z fm) _ _ _
  refine own_go (S' := (s₁.setTop (mkF m 1 #[.val (.ref a)] [(.ref a)]))) (fun tq kq => XS.aloadN X0.here hx rfl (hb hby d5_0) rfl rfl kq) ?_
  obtain ⟨cq101, kq101, q101a, q101b, q101c⟩ := isOf hZ e0 Ea
  obtain ⟨_, _, ⟨T101, L101, k101, n101⟩, -, X101, ⟨Lc101, hQ101, l101, y101, z101⟩, st101⟩ := X0.virtualBack hx (y := (⟨"java/lang/String", "length", "()I"⟩ : MethodName)) (z := (⟨"java/lang/String", "length", "()I"⟩ : MethodName)) hown (mvT hZ (hw _ (List.mem_of_getElem? (i := 32) rfl))) (mvT hZ (hw _ (List.mem_of_getElem? (i := 33) rfl))) (notFace_of_selects (args := #[]) (mvT hZ (hw _ (List.mem_of_getElem? (i := 35) rfl)))) (mvT hZ (hw _ (List.mem_of_getElem? (i := 35) rfl))) (mvT hZ (hw _ (List.mem_of_getElem? (i := 34) rfl))) (by decide) (backOf (W := 0) (len0_0 l Z a0 hw [] h0 n0 O0 a d kd vs z fm SC hz SA SH SL SF hfm Ea Fc Fv Vd hvs) hZ (hw _ (List.mem_of_getElem? (i := 36) rfl)) (hw _ (List.mem_of_getElem? (i := 8) rfl)) (by decide) (by decide)) q101a q101c (g := (mkF m 1 #[.val (.ref a)] [(.ref a)])) rfl (by rw [hml]; rfl) (Steps.refl _) (argsL := []) (rest := []) (lenOf pd_18 rfl) rfl (by show 2 * 0 + _ ≤ _; exact Nat.le_of_eq rfl) (hb hby d5_1) (fun _ _ => ⟨rfl, e0, (by decide : 0 + 0 ≤ _), (by decide : 0 + 0 ≤ _)⟩)
  dsimp only [Pt.U, Pt.locs, Pt.cells, Pt.slots] at X101 l101 y101 z101 st101 hQ101
  subst l101 y101 z101
  obtain ⟨rfl, N101, eh101⟩ := hQ101
  have Nf101 := Fr.app N0 N101
  refine own_go (S' := (T101.setTop (mkF m 22 #[.val (.ref a)] []))) (fun tq kq => st101.trans (XS.iconst X101.here hx rfl (hb hby d5_4) (XS.icmpYes X101.here hx rfl (pc0 := 5) (pc' := 22) rfl (hb hby d5_5) rfl (feq (by decide : ¬ ((0 : Int32) = (1 : Int32)))).2 (by decide) (by decide) kq))) ?_
  obtain ⟨_, _, ⟨T102, L102, k102, n102⟩, -, X102, ⟨Lc102, hQ102, l102, y102, z102⟩, st102⟩ := Jvm.LawKit.callS X101 hx (y := (⟨"java/util/Optional", "empty", "()Ljava/util/Optional;"⟩ : MethodName)) hown (mvT hZ (hw _ (List.mem_of_getElem? (i := 43) rfl))) (mvT hZ (hw _ (List.mem_of_getElem? (i := 44) rfl))) (mvT hZ (hw _ (List.mem_of_getElem? (i := 45) rfl))) (mvT hZ (hw _ (List.mem_of_getElem? (i := 46) rfl))) (by decide) (backOf (W := 0) (rm8 l Z a0 hw [] h0 n0 O0 em SE EE FE) hZ (hw _ (List.mem_of_getElem? (i := 46) rfl)) (hw _ (List.mem_of_getElem? (i := 45) rfl)) (by decide) (by decide)) (g := (mkF m 22 #[.val (.ref a)] [])) rfl (by rw [hml]; rfl) (argsL := []) (rest := []) (lenOf pd_19 rfl) rfl (by show 2 * 0 + _ ≤ _; exact Nat.le_of_eq rfl) (hb hby d5_22) (fun _ _ => ⟨rfl, eh101, (by decide : 0 + 0 ≤ _), (by decide : 0 + 0 ≤ _)⟩)
  dsimp only [Pt.U, Pt.locs, Pt.cells, Pt.slots] at X102 l102 y102 z102 st102 hQ102
  subst l102 y102 z102
  obtain ⟨rfl, N102, eh102⟩ := hQ102
  have Nf102 := Fr.app Nf101 N102
  refine own_go (S' := (T102.setTop (mkF m 25 #[.val (.ref a)] [(.ref em)]))) (fun tq kq => st102 tq kq) ?_
  refine own_retA X102 hx hlk hret rfl rfl (hb hby d5_25) (by decide) (by decide) ?_
  exact ⟨rfl, Nf102, eh102⟩
theorem pn_ofs2_0 : plainName "com/example/davka/davka/AccountingCode" = true := by first | (simp [plainName, overriddenIn]; done) | decide +kernel
theorem ef_ofs2_0 (m : MethodId) (a : Addr) (d : Addr) (kd : ClassId) (vs : List Value) (em : Addr) (xs : Addr) (kx : ClassId) (x0 : Addr) (x1 : Addr) (x2 : Addr) (x3 : Addr) (z : Int32) (fm : Value) : entryFrame m #[(.ref a)] 1 = mkF m 0 #[.val (.ref a)] [] := by first | (simp [entryFrame, mkF, argsToLocals, Value.category]; done) | rfl
def Q_ofs2_0 (Z : State) (h0 : Heap) (n0 : Nat) (a : Addr) (d : Addr) (kd : ClassId) (vs : List Value) (em : Addr) (xs : Addr) (kx : ClassId) (x0 : Addr) (x1 : Addr) (x2 : Addr) (x3 : Addr) (z : Int32) (fm : Value) (v : Option Value) (h : Heap) (L : List Loc) : Prop := v = some (.ref em) ∧ Fr n0 L ∧ h = h0
set_option maxRecDepth 65536 in
set_option maxHeartbeats 40000000 in
theorem ofs2_0 (l : Launch) (Z : State) (a0 : Array Value) (hw : ∀ d ∈ tables_1, d.before a0 Z = true) (ws : List Jvm.Cond) (h0 : Heap) (n0 : Nat) (O0 : Old Z n0 h0) (a : Addr) (d : Addr) (kd : ClassId) (vs : List Value) (em : Addr) (xs : Addr) (kx : ClassId) (x0 : Addr) (x1 : Addr) (x2 : Addr) (x3 : Addr) (z : Int32) (fm : Value) (Ea : Exa Z h0 a "java/lang/String") (Fc : Fld Z h0 a "java/lang/String" "coder" "B" (.int (0 : Int32))) (Fv : Fld Z h0 a "java/lang/String" "value" "[B" (.ref d)) (Vd : own_Ar Z h0 d kd .byte vs) (hvs : vs.length = 2) (SE : Sta Z Z.heap "java/util/Optional" "EMPTY" "Ljava/util/Optional;" (.ref em)) (EE : Exa Z Z.heap em "java/util/Optional") (FE : Fld Z Z.heap em "java/util/Optional" "value" "Ljava/lang/Object;" .null) (SX : Sta Z Z.heap "com/example/davka/davka/AccountingCode" "CODES" "[Lcom/example/davka/davka/AccountingCode;" (.ref xs)) (VX : own_Ar Z Z.heap xs kx (.object "com/example/davka/davka/AccountingCode") [(.ref x0), (.ref x1), (.ref x2), (.ref x3)]) (S0 : Sta Z Z.heap "com/example/davka/davka/AccountingCode" "DEBIT" "Lcom/example/davka/davka/AccountingCode;" (.ref x0)) (A0 : Exa Z Z.heap x0 "com/example/davka/davka/AccountingCode") (B0 : Fld Z Z.heap x0 "com/example/davka/davka/AccountingCode" "digit" "C" (.int (48 : Int32))) (S1 : Sta Z Z.heap "com/example/davka/davka/AccountingCode" "CREDIT" "Lcom/example/davka/davka/AccountingCode;" (.ref x1)) (A1 : Exa Z Z.heap x1 "com/example/davka/davka/AccountingCode") (B1 : Fld Z Z.heap x1 "com/example/davka/davka/AccountingCode" "digit" "C" (.int (49 : Int32))) (S2 : Sta Z Z.heap "com/example/davka/davka/AccountingCode" "DEBIT_CANCELLATION" "Lcom/example/davka/davka/AccountingCode;" (.ref x2)) (A2 : Exa Z Z.heap x2 "com/example/davka/davka/AccountingCode") (B2 : Fld Z Z.heap x2 "com/example/davka/davka/AccountingCode" "digit" "C" (.int (50 : Int32))) (S3 : Sta Z Z.heap "com/example/davka/davka/AccountingCode" "CREDIT_CANCELLATION" "Lcom/example/davka/davka/AccountingCode;" (.ref x3)) (A3 : Exa Z Z.heap x3 "com/example/davka/davka/AccountingCode") (B3 : Fld Z Z.heap x3 "com/example/davka/davka/AccountingCode" "digit" "C" (.int (51 : Int32))) (SC : Sta Z Z.heap "java/lang/String" "COMPACT_STRINGS" "Z" (.int z)) (hz : ¬ (z = (0 : Int32))) (SA : Sta Z Z.heap "java/lang/StringUTF16" "$assertionsDisabled" "Z" (.int (1 : Int32))) (SH : Sta Z Z.heap "java/lang/StringUTF16" "HI_BYTE_SHIFT" "I" (.int (0 : Int32))) (SL : Sta Z Z.heap "java/lang/StringUTF16" "LO_BYTE_SHIFT" "I" (.int (8 : Int32))) (SF : Sta Z Z.heap "jdk/internal/util/Preconditions" "SIOOBE_FORMATTER" "Ljava/util/function/BiFunction;" fm) (hfm : fm.isRef = true) :
    MetFree l (⟨"com/example/davka/davka/AccountingCode", "of", "(Ljava/lang/String;)Ljava/util/Optional;"⟩ : MethodName) (head1 (Jvm.Cond.code (⟨"com/example/davka/davka/AccountingCode", "of", "(Ljava/lang/String;)Ljava/util/Optional;"⟩ : MethodName) prog_3_method_4_code 1 (some (.object "java/util/Optional")) :: ws) ({ frames := 2, cells := 0, slots := 0, locals := 25 } : Room)) (fun aq U => aq = #[(.ref a)] ∧ Z.Warmed39 U.vm ∧ U.heap = h0) (fun _ _ _ _ _ => True) (fun _ U oo U' => ∃ v L, oo = .returned v ∧ Q_ofs2_0 Z h0 n0 a d kd vs em xs kx x0 x1 x2 x3 z fm v U'.heap L ∧ FrameEnd U oo U' L ({ frames := 2, cells := 0, slots := 0, locals := 25 } : Room).cells ({ frames := 2, cells := 0, slots := 0, locals := 25 } : Room).slots) := by
  refine MetFree.of_bodySF (plainFor_of_name pn_ofs2_0) hisR ?_
  intro p e s m args below meth c s₁ Bd hml0 hP hK
  obtain ⟨rfl, hZ, hh⟩ := hP
  have hx := Bd.exec
  have hby := Bd.bytes
  have hml : c.maxLocals = 1 := hml0
  have hown : s.vm.findClass "com/example/davka/davka/AccountingCode" = some m.cls := findClass_of_methodNamed Bd.named
  have hnm := (name_of_methodNamed Bd.named Bd.method).1
  have hlk := Bd.notSynchronized
  have hret := Bd.returns
  have X0 : Stand p l e ({ frames := 2, cells := 0, slots := 0, locals := 25 } : Room) s m #[(.ref a)] below meth c s₁ [] 0 0 := Stand.of_body Bd
  have e0 : s₁.heap = h0 := by rw [← hh, Bd.state]; rfl
  have N0 := Fr.nil n0
  have K0 := Keep.refl h0 []
  refine own_go (S' := (s₁.setTop (mkF m 0 #[.val (.ref a)] []))) (fun tq kq => castTop (ef_ofs2_0 m a d kd vs em xs kx x0 x1 x2 x3 z fm) kq) ?_
  show own_G p e s below (Q_ofs2_0 Z h0 n0 a d kd vs em xs kx x0 x1 x2 x3 z fm) _ _ _
  refine own_go (S' := (s₁.setTop (mkF m 1 #[.val (.ref a)] [(.ref a)]))) (fun tq kq => XS.aloadN X0.here hx rfl (hb hby d5_0) rfl rfl kq) ?_
  obtain ⟨cq101, kq101, q101a, q101b, q101c⟩ := isOf hZ e0 Ea
  obtain ⟨_, _, ⟨T101, L101, k101, n101⟩, -, X101, ⟨Lc101, hQ101, l101, y101, z101⟩, st101⟩ := X0.virtualBack hx (y := (⟨"java/lang/String", "length", "()I"⟩ : MethodName)) (z := (⟨"java/lang/String", "length", "()I"⟩ : MethodName)) hown (mvT hZ (hw _ (List.mem_of_getElem? (i := 32) rfl))) (mvT hZ (hw _ (List.mem_of_getElem? (i := 33) rfl))) (notFace_of_selects (args := #[]) (mvT hZ (hw _ (List.mem_of_getElem? (i := 35) rfl)))) (mvT hZ (hw _ (List.mem_of_getElem? (i := 35) rfl))) (mvT hZ (hw _ (List.mem_of_getElem? (i := 34) rfl))) (by decide) (backOf (W := 0) (len2_0 l Z a0 hw [] h0 n0 O0 a d kd vs z fm SC hz SA SH SL SF hfm Ea Fc Fv Vd hvs) hZ (hw _ (List.mem_of_getElem? (i := 36) rfl)) (hw _ (List.mem_of_getElem? (i := 8) rfl)) (by decide) (by decide)) q101a q101c (g := (mkF m 1 #[.val (.ref a)] [(.ref a)])) rfl (by rw [hml]; rfl) (Steps.refl _) (argsL := []) (rest := []) (lenOf pd_18 rfl) rfl (by show 2 * 0 + _ ≤ _; exact Nat.le_of_eq rfl) (hb hby d5_1) (fun _ _ => ⟨rfl, e0, (by decide : 0 + 0 ≤ _), (by decide : 0 + 0 ≤ _)⟩)
  dsimp only [Pt.U, Pt.locs, Pt.cells, Pt.slots] at X101 l101 y101 z101 st101 hQ101
  subst l101 y101 z101
  obtain ⟨rfl, N101, eh101⟩ := hQ101
  have Nf101 := Fr.app N0 N101
  refine own_go (S' := (T101.setTop (mkF m 22 #[.val (.ref a)] []))) (fun tq kq => st101.trans (XS.iconst X101.here hx rfl (hb hby d5_4) (XS.icmpYes X101.here hx rfl (pc0 := 5) (pc' := 22) rfl (hb hby d5_5) rfl (feq (by decide : ¬ ((2 : Int32) = (1 : Int32)))).2 (by decide) (by decide) kq))) ?_
  obtain ⟨_, _, ⟨T102, L102, k102, n102⟩, -, X102, ⟨Lc102, hQ102, l102, y102, z102⟩, st102⟩ := Jvm.LawKit.callS X101 hx (y := (⟨"java/util/Optional", "empty", "()Ljava/util/Optional;"⟩ : MethodName)) hown (mvT hZ (hw _ (List.mem_of_getElem? (i := 43) rfl))) (mvT hZ (hw _ (List.mem_of_getElem? (i := 44) rfl))) (mvT hZ (hw _ (List.mem_of_getElem? (i := 45) rfl))) (mvT hZ (hw _ (List.mem_of_getElem? (i := 46) rfl))) (by decide) (backOf (W := 0) (rm8 l Z a0 hw [] h0 n0 O0 em SE EE FE) hZ (hw _ (List.mem_of_getElem? (i := 46) rfl)) (hw _ (List.mem_of_getElem? (i := 45) rfl)) (by decide) (by decide)) (g := (mkF m 22 #[.val (.ref a)] [])) rfl (by rw [hml]; rfl) (argsL := []) (rest := []) (lenOf pd_19 rfl) rfl (by show 2 * 0 + _ ≤ _; exact Nat.le_of_eq rfl) (hb hby d5_22) (fun _ _ => ⟨rfl, eh101, (by decide : 0 + 0 ≤ _), (by decide : 0 + 0 ≤ _)⟩)
  dsimp only [Pt.U, Pt.locs, Pt.cells, Pt.slots] at X102 l102 y102 z102 st102 hQ102
  subst l102 y102 z102
  obtain ⟨rfl, N102, eh102⟩ := hQ102
  have Nf102 := Fr.app Nf101 N102
  refine own_go (S' := (T102.setTop (mkF m 25 #[.val (.ref a)] [(.ref em)]))) (fun tq kq => st102 tq kq) ?_
  refine own_retA X102 hx hlk hret rfl rfl (hb hby d5_25) (by decide) (by decide) ?_
  exact ⟨rfl, Nf102, eh102⟩
theorem pn_ofs4_1 : plainName "com/example/davka/davka/AccountingCode" = true := by first | (simp [plainName, overriddenIn]; done) | decide +kernel
theorem ef_ofs4_1 (m : MethodId) (a : Addr) (d : Addr) (kd : ClassId) (vs : List Value) (em : Addr) (xs : Addr) (kx : ClassId) (x0 : Addr) (x1 : Addr) (x2 : Addr) (x3 : Addr) (z : Int32) (fm : Value) : entryFrame m #[(.ref a)] 1 = mkF m 0 #[.val (.ref a)] [] := by first | (simp [entryFrame, mkF, argsToLocals, Value.category]; done) | rfl
def Q_ofs4_1 (Z : State) (h0 : Heap) (n0 : Nat) (a : Addr) (d : Addr) (kd : ClassId) (vs : List Value) (em : Addr) (xs : Addr) (kx : ClassId) (x0 : Addr) (x1 : Addr) (x2 : Addr) (x3 : Addr) (z : Int32) (fm : Value) (v : Option Value) (h : Heap) (L : List Loc) : Prop := v = some (.ref em) ∧ Fr n0 L ∧ h = h0
set_option maxRecDepth 65536 in
set_option maxHeartbeats 40000000 in
theorem ofs4_1 (l : Launch) (Z : State) (a0 : Array Value) (hw : ∀ d ∈ tables_1, d.before a0 Z = true) (ws : List Jvm.Cond) (h0 : Heap) (n0 : Nat) (O0 : Old Z n0 h0) (a : Addr) (d : Addr) (kd : ClassId) (vs : List Value) (em : Addr) (xs : Addr) (kx : ClassId) (x0 : Addr) (x1 : Addr) (x2 : Addr) (x3 : Addr) (z : Int32) (fm : Value) (Ea : Exa Z h0 a "java/lang/String") (Fc : Fld Z h0 a "java/lang/String" "coder" "B" (.int (1 : Int32))) (Fv : Fld Z h0 a "java/lang/String" "value" "[B" (.ref d)) (Vd : own_Ar Z h0 d kd .byte vs) (hvs : vs.length = 4) (SE : Sta Z Z.heap "java/util/Optional" "EMPTY" "Ljava/util/Optional;" (.ref em)) (EE : Exa Z Z.heap em "java/util/Optional") (FE : Fld Z Z.heap em "java/util/Optional" "value" "Ljava/lang/Object;" .null) (SX : Sta Z Z.heap "com/example/davka/davka/AccountingCode" "CODES" "[Lcom/example/davka/davka/AccountingCode;" (.ref xs)) (VX : own_Ar Z Z.heap xs kx (.object "com/example/davka/davka/AccountingCode") [(.ref x0), (.ref x1), (.ref x2), (.ref x3)]) (S0 : Sta Z Z.heap "com/example/davka/davka/AccountingCode" "DEBIT" "Lcom/example/davka/davka/AccountingCode;" (.ref x0)) (A0 : Exa Z Z.heap x0 "com/example/davka/davka/AccountingCode") (B0 : Fld Z Z.heap x0 "com/example/davka/davka/AccountingCode" "digit" "C" (.int (48 : Int32))) (S1 : Sta Z Z.heap "com/example/davka/davka/AccountingCode" "CREDIT" "Lcom/example/davka/davka/AccountingCode;" (.ref x1)) (A1 : Exa Z Z.heap x1 "com/example/davka/davka/AccountingCode") (B1 : Fld Z Z.heap x1 "com/example/davka/davka/AccountingCode" "digit" "C" (.int (49 : Int32))) (S2 : Sta Z Z.heap "com/example/davka/davka/AccountingCode" "DEBIT_CANCELLATION" "Lcom/example/davka/davka/AccountingCode;" (.ref x2)) (A2 : Exa Z Z.heap x2 "com/example/davka/davka/AccountingCode") (B2 : Fld Z Z.heap x2 "com/example/davka/davka/AccountingCode" "digit" "C" (.int (50 : Int32))) (S3 : Sta Z Z.heap "com/example/davka/davka/AccountingCode" "CREDIT_CANCELLATION" "Lcom/example/davka/davka/AccountingCode;" (.ref x3)) (A3 : Exa Z Z.heap x3 "com/example/davka/davka/AccountingCode") (B3 : Fld Z Z.heap x3 "com/example/davka/davka/AccountingCode" "digit" "C" (.int (51 : Int32))) (SC : Sta Z Z.heap "java/lang/String" "COMPACT_STRINGS" "Z" (.int z)) (hz : ¬ (z = (0 : Int32))) (SA : Sta Z Z.heap "java/lang/StringUTF16" "$assertionsDisabled" "Z" (.int (1 : Int32))) (SH : Sta Z Z.heap "java/lang/StringUTF16" "HI_BYTE_SHIFT" "I" (.int (0 : Int32))) (SL : Sta Z Z.heap "java/lang/StringUTF16" "LO_BYTE_SHIFT" "I" (.int (8 : Int32))) (SF : Sta Z Z.heap "jdk/internal/util/Preconditions" "SIOOBE_FORMATTER" "Ljava/util/function/BiFunction;" fm) (hfm : fm.isRef = true) :
    MetFree l (⟨"com/example/davka/davka/AccountingCode", "of", "(Ljava/lang/String;)Ljava/util/Optional;"⟩ : MethodName) (head1 (Jvm.Cond.code (⟨"com/example/davka/davka/AccountingCode", "of", "(Ljava/lang/String;)Ljava/util/Optional;"⟩ : MethodName) prog_3_method_4_code 1 (some (.object "java/util/Optional")) :: ws) ({ frames := 2, cells := 0, slots := 0, locals := 25 } : Room)) (fun aq U => aq = #[(.ref a)] ∧ Z.Warmed39 U.vm ∧ U.heap = h0) (fun _ _ _ _ _ => True) (fun _ U oo U' => ∃ v L, oo = .returned v ∧ Q_ofs4_1 Z h0 n0 a d kd vs em xs kx x0 x1 x2 x3 z fm v U'.heap L ∧ FrameEnd U oo U' L ({ frames := 2, cells := 0, slots := 0, locals := 25 } : Room).cells ({ frames := 2, cells := 0, slots := 0, locals := 25 } : Room).slots) := by
  refine MetFree.of_bodySF (plainFor_of_name pn_ofs4_1) hisR ?_
  intro p e s m args below meth c s₁ Bd hml0 hP hK
  obtain ⟨rfl, hZ, hh⟩ := hP
  have hx := Bd.exec
  have hby := Bd.bytes
  have hml : c.maxLocals = 1 := hml0
  have hown : s.vm.findClass "com/example/davka/davka/AccountingCode" = some m.cls := findClass_of_methodNamed Bd.named
  have hnm := (name_of_methodNamed Bd.named Bd.method).1
  have hlk := Bd.notSynchronized
  have hret := Bd.returns
  have X0 : Stand p l e ({ frames := 2, cells := 0, slots := 0, locals := 25 } : Room) s m #[(.ref a)] below meth c s₁ [] 0 0 := Stand.of_body Bd
  have e0 : s₁.heap = h0 := by rw [← hh, Bd.state]; rfl
  have N0 := Fr.nil n0
  have K0 := Keep.refl h0 []
  refine own_go (S' := (s₁.setTop (mkF m 0 #[.val (.ref a)] []))) (fun tq kq => castTop (ef_ofs4_1 m a d kd vs em xs kx x0 x1 x2 x3 z fm) kq) ?_
  show own_G p e s below (Q_ofs4_1 Z h0 n0 a d kd vs em xs kx x0 x1 x2 x3 z fm) _ _ _
  refine own_go (S' := (s₁.setTop (mkF m 1 #[.val (.ref a)] [(.ref a)]))) (fun tq kq => XS.aloadN X0.here hx rfl (hb hby d5_0) rfl rfl kq) ?_
  obtain ⟨cq101, kq101, q101a, q101b, q101c⟩ := isOf hZ e0 Ea
  obtain ⟨_, _, ⟨T101, L101, k101, n101⟩, -, X101, ⟨Lc101, hQ101, l101, y101, z101⟩, st101⟩ := X0.virtualBack hx (y := (⟨"java/lang/String", "length", "()I"⟩ : MethodName)) (z := (⟨"java/lang/String", "length", "()I"⟩ : MethodName)) hown (mvT hZ (hw _ (List.mem_of_getElem? (i := 32) rfl))) (mvT hZ (hw _ (List.mem_of_getElem? (i := 33) rfl))) (notFace_of_selects (args := #[]) (mvT hZ (hw _ (List.mem_of_getElem? (i := 35) rfl)))) (mvT hZ (hw _ (List.mem_of_getElem? (i := 35) rfl))) (mvT hZ (hw _ (List.mem_of_getElem? (i := 34) rfl))) (by decide) (backOf (W := 0) (len4_1 l Z a0 hw [] h0 n0 O0 a d kd vs z fm SC hz SA SH SL SF hfm Ea Fc Fv Vd hvs) hZ (hw _ (List.mem_of_getElem? (i := 36) rfl)) (hw _ (List.mem_of_getElem? (i := 8) rfl)) (by decide) (by decide)) q101a q101c (g := (mkF m 1 #[.val (.ref a)] [(.ref a)])) rfl (by rw [hml]; rfl) (Steps.refl _) (argsL := []) (rest := []) (lenOf pd_18 rfl) rfl (by show 2 * 0 + _ ≤ _; exact Nat.le_of_eq rfl) (hb hby d5_1) (fun _ _ => ⟨rfl, e0, (by decide : 0 + 0 ≤ _), (by decide : 0 + 0 ≤ _)⟩)
  dsimp only [Pt.U, Pt.locs, Pt.cells, Pt.slots] at X101 l101 y101 z101 st101 hQ101
  subst l101 y101 z101
  obtain ⟨rfl, N101, eh101⟩ := hQ101
  have Nf101 := Fr.app N0 N101
  refine own_go (S' := (T101.setTop (mkF m 22 #[.val (.ref a)] []))) (fun tq kq => st101.trans (XS.iconst X101.here hx rfl (hb hby d5_4) (XS.icmpYes X101.here hx rfl (pc0 := 5) (pc' := 22) rfl (hb hby d5_5) rfl (feq (by decide : ¬ ((2 : Int32) = (1 : Int32)))).2 (by decide) (by decide) kq))) ?_
  obtain ⟨_, _, ⟨T102, L102, k102, n102⟩, -, X102, ⟨Lc102, hQ102, l102, y102, z102⟩, st102⟩ := Jvm.LawKit.callS X101 hx (y := (⟨"java/util/Optional", "empty", "()Ljava/util/Optional;"⟩ : MethodName)) hown (mvT hZ (hw _ (List.mem_of_getElem? (i := 43) rfl))) (mvT hZ (hw _ (List.mem_of_getElem? (i := 44) rfl))) (mvT hZ (hw _ (List.mem_of_getElem? (i := 45) rfl))) (mvT hZ (hw _ (List.mem_of_getElem? (i := 46) rfl))) (by decide) (backOf (W := 0) (rm8 l Z a0 hw [] h0 n0 O0 em SE EE FE) hZ (hw _ (List.mem_of_getElem? (i := 46) rfl)) (hw _ (List.mem_of_getElem? (i := 45) rfl)) (by decide) (by decide)) (g := (mkF m 22 #[.val (.ref a)] [])) rfl (by rw [hml]; rfl) (argsL := []) (rest := []) (lenOf pd_19 rfl) rfl (by show 2 * 0 + _ ≤ _; exact Nat.le_of_eq rfl) (hb hby d5_22) (fun _ _ => ⟨rfl, eh101, (by decide : 0 + 0 ≤ _), (by decide : 0 + 0 ≤ _)⟩)
  dsimp only [Pt.U, Pt.locs, Pt.cells, Pt.slots] at X102 l102 y102 z102 st102 hQ102
  subst l102 y102 z102
  obtain ⟨rfl, N102, eh102⟩ := hQ102
  have Nf102 := Fr.app Nf101 N102
  refine own_go (S' := (T102.setTop (mkF m 25 #[.val (.ref a)] [(.ref em)]))) (fun tq kq => st102 tq kq) ?_
  refine own_retA X102 hx hlk hret rfl rfl (hb hby d5_25) (by decide) (by decide) ?_
  exact ⟨rfl, Nf102, eh102⟩
theorem pn_ofs3_0 : plainName "com/example/davka/davka/AccountingCode" = true := by first | (simp [plainName, overriddenIn]; done) | decide +kernel
theorem ef_ofs3_0 (m : MethodId) (a : Addr) (d : Addr) (kd : ClassId) (vs : List Value) (em : Addr) (xs : Addr) (kx : ClassId) (x0 : Addr) (x1 : Addr) (x2 : Addr) (x3 : Addr) (z : Int32) (fm : Value) : entryFrame m #[(.ref a)] 1 = mkF m 0 #[.val (.ref a)] [] := by first | (simp [entryFrame, mkF, argsToLocals, Value.category]; done) | rfl
def Q_ofs3_0 (Z : State) (h0 : Heap) (n0 : Nat) (a : Addr) (d : Addr) (kd : ClassId) (vs : List Value) (em : Addr) (xs : Addr) (kx : ClassId) (x0 : Addr) (x1 : Addr) (x2 : Addr) (x3 : Addr) (z : Int32) (fm : Value) (v : Option Value) (h : Heap) (L : List Loc) : Prop := v = some (.ref em) ∧ Fr n0 L ∧ h = h0
set_option maxRecDepth 65536 in
set_option maxHeartbeats 40000000 in
theorem ofs3_0 (l : Launch) (Z : State) (a0 : Array Value) (hw : ∀ d ∈ tables_1, d.before a0 Z = true) (ws : List Jvm.Cond) (h0 : Heap) (n0 : Nat) (O0 : Old Z n0 h0) (a : Addr) (d : Addr) (kd : ClassId) (vs : List Value) (em : Addr) (xs : Addr) (kx : ClassId) (x0 : Addr) (x1 : Addr) (x2 : Addr) (x3 : Addr) (z : Int32) (fm : Value) (Ea : Exa Z h0 a "java/lang/String") (Fc : Fld Z h0 a "java/lang/String" "coder" "B" (.int (0 : Int32))) (Fv : Fld Z h0 a "java/lang/String" "value" "[B" (.ref d)) (Vd : own_Ar Z h0 d kd .byte vs) (hvs : vs.length = 3) (SE : Sta Z Z.heap "java/util/Optional" "EMPTY" "Ljava/util/Optional;" (.ref em)) (EE : Exa Z Z.heap em "java/util/Optional") (FE : Fld Z Z.heap em "java/util/Optional" "value" "Ljava/lang/Object;" .null) (SX : Sta Z Z.heap "com/example/davka/davka/AccountingCode" "CODES" "[Lcom/example/davka/davka/AccountingCode;" (.ref xs)) (VX : own_Ar Z Z.heap xs kx (.object "com/example/davka/davka/AccountingCode") [(.ref x0), (.ref x1), (.ref x2), (.ref x3)]) (S0 : Sta Z Z.heap "com/example/davka/davka/AccountingCode" "DEBIT" "Lcom/example/davka/davka/AccountingCode;" (.ref x0)) (A0 : Exa Z Z.heap x0 "com/example/davka/davka/AccountingCode") (B0 : Fld Z Z.heap x0 "com/example/davka/davka/AccountingCode" "digit" "C" (.int (48 : Int32))) (S1 : Sta Z Z.heap "com/example/davka/davka/AccountingCode" "CREDIT" "Lcom/example/davka/davka/AccountingCode;" (.ref x1)) (A1 : Exa Z Z.heap x1 "com/example/davka/davka/AccountingCode") (B1 : Fld Z Z.heap x1 "com/example/davka/davka/AccountingCode" "digit" "C" (.int (49 : Int32))) (S2 : Sta Z Z.heap "com/example/davka/davka/AccountingCode" "DEBIT_CANCELLATION" "Lcom/example/davka/davka/AccountingCode;" (.ref x2)) (A2 : Exa Z Z.heap x2 "com/example/davka/davka/AccountingCode") (B2 : Fld Z Z.heap x2 "com/example/davka/davka/AccountingCode" "digit" "C" (.int (50 : Int32))) (S3 : Sta Z Z.heap "com/example/davka/davka/AccountingCode" "CREDIT_CANCELLATION" "Lcom/example/davka/davka/AccountingCode;" (.ref x3)) (A3 : Exa Z Z.heap x3 "com/example/davka/davka/AccountingCode") (B3 : Fld Z Z.heap x3 "com/example/davka/davka/AccountingCode" "digit" "C" (.int (51 : Int32))) (SC : Sta Z Z.heap "java/lang/String" "COMPACT_STRINGS" "Z" (.int z)) (hz : ¬ (z = (0 : Int32))) (SA : Sta Z Z.heap "java/lang/StringUTF16" "$assertionsDisabled" "Z" (.int (1 : Int32))) (SH : Sta Z Z.heap "java/lang/StringUTF16" "HI_BYTE_SHIFT" "I" (.int (0 : Int32))) (SL : Sta Z Z.heap "java/lang/StringUTF16" "LO_BYTE_SHIFT" "I" (.int (8 : Int32))) (SF : Sta Z Z.heap "jdk/internal/util/Preconditions" "SIOOBE_FORMATTER" "Ljava/util/function/BiFunction;" fm) (hfm : fm.isRef = true) :
    MetFree l (⟨"com/example/davka/davka/AccountingCode", "of", "(Ljava/lang/String;)Ljava/util/Optional;"⟩ : MethodName) (head1 (Jvm.Cond.code (⟨"com/example/davka/davka/AccountingCode", "of", "(Ljava/lang/String;)Ljava/util/Optional;"⟩ : MethodName) prog_3_method_4_code 1 (some (.object "java/util/Optional")) :: ws) ({ frames := 2, cells := 0, slots := 0, locals := 25 } : Room)) (fun aq U => aq = #[(.ref a)] ∧ Z.Warmed39 U.vm ∧ U.heap = h0) (fun _ _ _ _ _ => True) (fun _ U oo U' => ∃ v L, oo = .returned v ∧ Q_ofs3_0 Z h0 n0 a d kd vs em xs kx x0 x1 x2 x3 z fm v U'.heap L ∧ FrameEnd U oo U' L ({ frames := 2, cells := 0, slots := 0, locals := 25 } : Room).cells ({ frames := 2, cells := 0, slots := 0, locals := 25 } : Room).slots) := by
  refine MetFree.of_bodySF (plainFor_of_name pn_ofs3_0) hisR ?_
  intro p e s m args below meth c s₁ Bd hml0 hP hK
  obtain ⟨rfl, hZ, hh⟩ := hP
  have hx := Bd.exec
  have hby := Bd.bytes
  have hml : c.maxLocals = 1 := hml0
  have hown : s.vm.findClass "com/example/davka/davka/AccountingCode" = some m.cls := findClass_of_methodNamed Bd.named
  have hnm := (name_of_methodNamed Bd.named Bd.method).1
  have hlk := Bd.notSynchronized
  have hret := Bd.returns
  have X0 : Stand p l e ({ frames := 2, cells := 0, slots := 0, locals := 25 } : Room) s m #[(.ref a)] below meth c s₁ [] 0 0 := Stand.of_body Bd
  have e0 : s₁.heap = h0 := by rw [← hh, Bd.state]; rfl
  have N0 := Fr.nil n0
  have K0 := Keep.refl h0 []
  refine own_go (S' := (s₁.setTop (mkF m 0 #[.val (.ref a)] []))) (fun tq kq => castTop (ef_ofs3_0 m a d kd vs em xs kx x0 x1 x2 x3 z fm) kq) ?_
  show own_G p e s below (Q_ofs3_0 Z h0 n0 a d kd vs em xs kx x0 x1 x2 x3 z fm) _ _ _
  refine own_go (S' := (s₁.setTop (mkF m 1 #[.val (.ref a)] [(.ref a)]))) (fun tq kq => XS.aloadN X0.here hx rfl (hb hby d5_0) rfl rfl kq) ?_
  obtain ⟨cq101, kq101, q101a, q101b, q101c⟩ := isOf hZ e0 Ea
  obtain ⟨_, _, ⟨T101, L101, k101, n101⟩, -, X101, ⟨Lc101, hQ101, l101, y101, z101⟩, st101⟩ := X0.virtualBack hx (y := (⟨"java/lang/String", "length", "()I"⟩ : MethodName)) (z := (⟨"java/lang/String", "length", "()I"⟩ : MethodName)) hown (mvT hZ (hw _ (List.mem_of_getElem? (i := 32) rfl))) (mvT hZ (hw _ (List.mem_of_getElem? (i := 33) rfl))) (notFace_of_selects (args := #[]) (mvT hZ (hw _ (List.mem_of_getElem? (i := 35) rfl)))) (mvT hZ (hw _ (List.mem_of_getElem? (i := 35) rfl))) (mvT hZ (hw _ (List.mem_of_getElem? (i := 34) rfl))) (by decide) (backOf (W := 0) (len3_0 l Z a0 hw [] h0 n0 O0 a d kd vs z fm SC hz SA SH SL SF hfm Ea Fc Fv Vd hvs) hZ (hw _ (List.mem_of_getElem? (i := 36) rfl)) (hw _ (List.mem_of_getElem? (i := 8) rfl)) (by decide) (by decide)) q101a q101c (g := (mkF m 1 #[.val (.ref a)] [(.ref a)])) rfl (by rw [hml]; rfl) (Steps.refl _) (argsL := []) (rest := []) (lenOf pd_18 rfl) rfl (by show 2 * 0 + _ ≤ _; exact Nat.le_of_eq rfl) (hb hby d5_1) (fun _ _ => ⟨rfl, e0, (by decide : 0 + 0 ≤ _), (by decide : 0 + 0 ≤ _)⟩)
  dsimp only [Pt.U, Pt.locs, Pt.cells, Pt.slots] at X101 l101 y101 z101 st101 hQ101
  subst l101 y101 z101
  obtain ⟨rfl, N101, eh101⟩ := hQ101
  have Nf101 := Fr.app N0 N101
  refine own_go (S' := (T101.setTop (mkF m 22 #[.val (.ref a)] []))) (fun tq kq => st101.trans (XS.iconst X101.here hx rfl (hb hby d5_4) (XS.icmpYes X101.here hx rfl (pc0 := 5) (pc' := 22) rfl (hb hby d5_5) rfl (feq (by decide : ¬ ((3 : Int32) = (1 : Int32)))).2 (by decide) (by decide) kq))) ?_
  obtain ⟨_, _, ⟨T102, L102, k102, n102⟩, -, X102, ⟨Lc102, hQ102, l102, y102, z102⟩, st102⟩ := Jvm.LawKit.callS X101 hx (y := (⟨"java/util/Optional", "empty", "()Ljava/util/Optional;"⟩ : MethodName)) hown (mvT hZ (hw _ (List.mem_of_getElem? (i := 43) rfl))) (mvT hZ (hw _ (List.mem_of_getElem? (i := 44) rfl))) (mvT hZ (hw _ (List.mem_of_getElem? (i := 45) rfl))) (mvT hZ (hw _ (List.mem_of_getElem? (i := 46) rfl))) (by decide) (backOf (W := 0) (rm8 l Z a0 hw [] h0 n0 O0 em SE EE FE) hZ (hw _ (List.mem_of_getElem? (i := 46) rfl)) (hw _ (List.mem_of_getElem? (i := 45) rfl)) (by decide) (by decide)) (g := (mkF m 22 #[.val (.ref a)] [])) rfl (by rw [hml]; rfl) (argsL := []) (rest := []) (lenOf pd_19 rfl) rfl (by show 2 * 0 + _ ≤ _; exact Nat.le_of_eq rfl) (hb hby d5_22) (fun _ _ => ⟨rfl, eh101, (by decide : 0 + 0 ≤ _), (by decide : 0 + 0 ≤ _)⟩)
  dsimp only [Pt.U, Pt.locs, Pt.cells, Pt.slots] at X102 l102 y102 z102 st102 hQ102
  subst l102 y102 z102
  obtain ⟨rfl, N102, eh102⟩ := hQ102
  have Nf102 := Fr.app Nf101 N102
  refine own_go (S' := (T102.setTop (mkF m 25 #[.val (.ref a)] [(.ref em)]))) (fun tq kq => st102 tq kq) ?_
  refine own_retA X102 hx hlk hret rfl rfl (hb hby d5_25) (by decide) (by decide) ?_
  exact ⟨rfl, Nf102, eh102⟩
theorem pn_ofs6_1 : plainName "com/example/davka/davka/AccountingCode" = true := by first | (simp [plainName, overriddenIn]; done) | decide +kernel
theorem ef_ofs6_1 (m : MethodId) (a : Addr) (d : Addr) (kd : ClassId) (vs : List Value) (em : Addr) (xs : Addr) (kx : ClassId) (x0 : Addr) (x1 : Addr) (x2 : Addr) (x3 : Addr) (z : Int32) (fm : Value) : entryFrame m #[(.ref a)] 1 = mkF m 0 #[.val (.ref a)] [] := by first | (simp [entryFrame, mkF, argsToLocals, Value.category]; done) | rfl
def Q_ofs6_1 (Z : State) (h0 : Heap) (n0 : Nat) (a : Addr) (d : Addr) (kd : ClassId) (vs : List Value) (em : Addr) (xs : Addr) (kx : ClassId) (x0 : Addr) (x1 : Addr) (x2 : Addr) (x3 : Addr) (z : Int32) (fm : Value) (v : Option Value) (h : Heap) (L : List Loc) : Prop := v = some (.ref em) ∧ Fr n0 L ∧ h = h0
set_option maxRecDepth 65536 in
set_option maxHeartbeats 40000000 in
theorem ofs6_1 (l : Launch) (Z : State) (a0 : Array Value) (hw : ∀ d ∈ tables_1, d.before a0 Z = true) (ws : List Jvm.Cond) (h0 : Heap) (n0 : Nat) (O0 : Old Z n0 h0) (a : Addr) (d : Addr) (kd : ClassId) (vs : List Value) (em : Addr) (xs : Addr) (kx : ClassId) (x0 : Addr) (x1 : Addr) (x2 : Addr) (x3 : Addr) (z : Int32) (fm : Value) (Ea : Exa Z h0 a "java/lang/String") (Fc : Fld Z h0 a "java/lang/String" "coder" "B" (.int (1 : Int32))) (Fv : Fld Z h0 a "java/lang/String" "value" "[B" (.ref d)) (Vd : own_Ar Z h0 d kd .byte vs) (hvs : vs.length = 6) (SE : Sta Z Z.heap "java/util/Optional" "EMPTY" "Ljava/util/Optional;" (.ref em)) (EE : Exa Z Z.heap em "java/util/Optional") (FE : Fld Z Z.heap em "java/util/Optional" "value" "Ljava/lang/Object;" .null) (SX : Sta Z Z.heap "com/example/davka/davka/AccountingCode" "CODES" "[Lcom/example/davka/davka/AccountingCode;" (.ref xs)) (VX : own_Ar Z Z.heap xs kx (.object "com/example/davka/davka/AccountingCode") [(.ref x0), (.ref x1), (.ref x2), (.ref x3)]) (S0 : Sta Z Z.heap "com/example/davka/davka/AccountingCode" "DEBIT" "Lcom/example/davka/davka/AccountingCode;" (.ref x0)) (A0 : Exa Z Z.heap x0 "com/example/davka/davka/AccountingCode") (B0 : Fld Z Z.heap x0 "com/example/davka/davka/AccountingCode" "digit" "C" (.int (48 : Int32))) (S1 : Sta Z Z.heap "com/example/davka/davka/AccountingCode" "CREDIT" "Lcom/example/davka/davka/AccountingCode;" (.ref x1)) (A1 : Exa Z Z.heap x1 "com/example/davka/davka/AccountingCode") (B1 : Fld Z Z.heap x1 "com/example/davka/davka/AccountingCode" "digit" "C" (.int (49 : Int32))) (S2 : Sta Z Z.heap "com/example/davka/davka/AccountingCode" "DEBIT_CANCELLATION" "Lcom/example/davka/davka/AccountingCode;" (.ref x2)) (A2 : Exa Z Z.heap x2 "com/example/davka/davka/AccountingCode") (B2 : Fld Z Z.heap x2 "com/example/davka/davka/AccountingCode" "digit" "C" (.int (50 : Int32))) (S3 : Sta Z Z.heap "com/example/davka/davka/AccountingCode" "CREDIT_CANCELLATION" "Lcom/example/davka/davka/AccountingCode;" (.ref x3)) (A3 : Exa Z Z.heap x3 "com/example/davka/davka/AccountingCode") (B3 : Fld Z Z.heap x3 "com/example/davka/davka/AccountingCode" "digit" "C" (.int (51 : Int32))) (SC : Sta Z Z.heap "java/lang/String" "COMPACT_STRINGS" "Z" (.int z)) (hz : ¬ (z = (0 : Int32))) (SA : Sta Z Z.heap "java/lang/StringUTF16" "$assertionsDisabled" "Z" (.int (1 : Int32))) (SH : Sta Z Z.heap "java/lang/StringUTF16" "HI_BYTE_SHIFT" "I" (.int (0 : Int32))) (SL : Sta Z Z.heap "java/lang/StringUTF16" "LO_BYTE_SHIFT" "I" (.int (8 : Int32))) (SF : Sta Z Z.heap "jdk/internal/util/Preconditions" "SIOOBE_FORMATTER" "Ljava/util/function/BiFunction;" fm) (hfm : fm.isRef = true) :
    MetFree l (⟨"com/example/davka/davka/AccountingCode", "of", "(Ljava/lang/String;)Ljava/util/Optional;"⟩ : MethodName) (head1 (Jvm.Cond.code (⟨"com/example/davka/davka/AccountingCode", "of", "(Ljava/lang/String;)Ljava/util/Optional;"⟩ : MethodName) prog_3_method_4_code 1 (some (.object "java/util/Optional")) :: ws) ({ frames := 2, cells := 0, slots := 0, locals := 25 } : Room)) (fun aq U => aq = #[(.ref a)] ∧ Z.Warmed39 U.vm ∧ U.heap = h0) (fun _ _ _ _ _ => True) (fun _ U oo U' => ∃ v L, oo = .returned v ∧ Q_ofs6_1 Z h0 n0 a d kd vs em xs kx x0 x1 x2 x3 z fm v U'.heap L ∧ FrameEnd U oo U' L ({ frames := 2, cells := 0, slots := 0, locals := 25 } : Room).cells ({ frames := 2, cells := 0, slots := 0, locals := 25 } : Room).slots) := by
  refine MetFree.of_bodySF (plainFor_of_name pn_ofs6_1) hisR ?_
  intro p e s m args below meth c s₁ Bd hml0 hP hK
  obtain ⟨rfl, hZ, hh⟩ := hP
  have hx := Bd.exec
  have hby := Bd.bytes
  have hml : c.maxLocals = 1 := hml0
  have hown : s.vm.findClass "com/example/davka/davka/AccountingCode" = some m.cls := findClass_of_methodNamed Bd.named
  have hnm := (name_of_methodNamed Bd.named Bd.method).1
  have hlk := Bd.notSynchronized
  have hret := Bd.returns
  have X0 : Stand p l e ({ frames := 2, cells := 0, slots := 0, locals := 25 } : Room) s m #[(.ref a)] below meth c s₁ [] 0 0 := Stand.of_body Bd
  have e0 : s₁.heap = h0 := by rw [← hh, Bd.state]; rfl
  have N0 := Fr.nil n0
  have K0 := Keep.refl h0 []
  refine own_go (S' := (s₁.setTop (mkF m 0 #[.val (.ref a)] []))) (fun tq kq => castTop (ef_ofs6_1 m a d kd vs em xs kx x0 x1 x2 x3 z fm) kq) ?_
  show own_G p e s below (Q_ofs6_1 Z h0 n0 a d kd vs em xs kx x0 x1 x2 x3 z fm) _ _ _
  refine own_go (S' := (s₁.setTop (mkF m 1 #[.val (.ref a)] [(.ref a)]))) (fun tq kq => XS.aloadN X0.here hx rfl (hb hby d5_0) rfl rfl kq) ?_
  obtain ⟨cq101, kq101, q101a, q101b, q101c⟩ := isOf hZ e0 Ea
  obtain ⟨_, _, ⟨T101, L101, k101, n101⟩, -, X101, ⟨Lc101, hQ101, l101, y101, z101⟩, st101⟩ := X0.virtualBack hx (y := (⟨"java/lang/String", "length", "()I"⟩ : MethodName)) (z := (⟨"java/lang/String", "length", "()I"⟩ : MethodName)) hown (mvT hZ (hw _ (List.mem_of_getElem? (i := 32) rfl))) (mvT hZ (hw _ (List.mem_of_getElem? (i := 33) rfl))) (notFace_of_selects (args := #[]) (mvT hZ (hw _ (List.mem_of_getElem? (i := 35) rfl)))) (mvT hZ (hw _ (List.mem_of_getElem? (i := 35) rfl))) (mvT hZ (hw _ (List.mem_of_getElem? (i := 34) rfl))) (by decide) (backOf (W := 0) (len6_1 l Z a0 hw [] h0 n0 O0 a d kd vs z fm SC hz SA SH SL SF hfm Ea Fc Fv Vd hvs) hZ (hw _ (List.mem_of_getElem? (i := 36) rfl)) (hw _ (List.mem_of_getElem? (i := 8) rfl)) (by decide) (by decide)) q101a q101c (g := (mkF m 1 #[.val (.ref a)] [(.ref a)])) rfl (by rw [hml]; rfl) (Steps.refl _) (argsL := []) (rest := []) (lenOf pd_18 rfl) rfl (by show 2 * 0 + _ ≤ _; exact Nat.le_of_eq rfl) (hb hby d5_1) (fun _ _ => ⟨rfl, e0, (by decide : 0 + 0 ≤ _), (by decide : 0 + 0 ≤ _)⟩)
  dsimp only [Pt.U, Pt.locs, Pt.cells, Pt.slots] at X101 l101 y101 z101 st101 hQ101
  subst l101 y101 z101
  obtain ⟨rfl, N101, eh101⟩ := hQ101
  have Nf101 := Fr.app N0 N101
  refine own_go (S' := (T101.setTop (mkF m 22 #[.val (.ref a)] []))) (fun tq kq => st101.trans (XS.iconst X101.here hx rfl (hb hby d5_4) (XS.icmpYes X101.here hx rfl (pc0 := 5) (pc' := 22) rfl (hb hby d5_5) rfl (feq (by decide : ¬ ((3 : Int32) = (1 : Int32)))).2 (by decide) (by decide) kq))) ?_
  obtain ⟨_, _, ⟨T102, L102, k102, n102⟩, -, X102, ⟨Lc102, hQ102, l102, y102, z102⟩, st102⟩ := Jvm.LawKit.callS X101 hx (y := (⟨"java/util/Optional", "empty", "()Ljava/util/Optional;"⟩ : MethodName)) hown (mvT hZ (hw _ (List.mem_of_getElem? (i := 43) rfl))) (mvT hZ (hw _ (List.mem_of_getElem? (i := 44) rfl))) (mvT hZ (hw _ (List.mem_of_getElem? (i := 45) rfl))) (mvT hZ (hw _ (List.mem_of_getElem? (i := 46) rfl))) (by decide) (backOf (W := 0) (rm8 l Z a0 hw [] h0 n0 O0 em SE EE FE) hZ (hw _ (List.mem_of_getElem? (i := 46) rfl)) (hw _ (List.mem_of_getElem? (i := 45) rfl)) (by decide) (by decide)) (g := (mkF m 22 #[.val (.ref a)] [])) rfl (by rw [hml]; rfl) (argsL := []) (rest := []) (lenOf pd_19 rfl) rfl (by show 2 * 0 + _ ≤ _; exact Nat.le_of_eq rfl) (hb hby d5_22) (fun _ _ => ⟨rfl, eh101, (by decide : 0 + 0 ≤ _), (by decide : 0 + 0 ≤ _)⟩)
  dsimp only [Pt.U, Pt.locs, Pt.cells, Pt.slots] at X102 l102 y102 z102 st102 hQ102
  subst l102 y102 z102
  obtain ⟨rfl, N102, eh102⟩ := hQ102
  have Nf102 := Fr.app Nf101 N102
  refine own_go (S' := (T102.setTop (mkF m 25 #[.val (.ref a)] [(.ref em)]))) (fun tq kq => st102 tq kq) ?_
  refine own_retA X102 hx hlk hret rfl rfl (hb hby d5_25) (by decide) (by decide) ?_
  exact ⟨rfl, Nf102, eh102⟩
theorem pn_ofc0 : plainName "com/example/davka/davka/AccountingCode" = true := by first | (simp [plainName, overriddenIn]; done) | decide +kernel
theorem ef_ofc0 (m : MethodId) (a : Addr) (d : Addr) (kd : ClassId) (em : Addr) (xs : Addr) (kx : ClassId) (x0 : Addr) (x1 : Addr) (x2 : Addr) (x3 : Addr) (z : Int32) (fm : Value) : entryFrame m #[(.ref a)] 1 = mkF m 0 #[.val (.ref a)] [] := by first | (simp [entryFrame, mkF, argsToLocals, Value.category]; done) | rfl
def Q_ofc0 (Z : State) (h0 : Heap) (n0 : Nat) (a : Addr) (d : Addr) (kd : ClassId) (em : Addr) (xs : Addr) (kx : ClassId) (x0 : Addr) (x1 : Addr) (x2 : Addr) (x3 : Addr) (z : Int32) (fm : Value) (v : Option Value) (h : Heap) (L : List Loc) : Prop := ∃ b : Addr, v = some (.ref b) ∧ Fr n0 L ∧ Keep h0 h [] ∧ h0.size ≤ b ∧ Exa Z h b "java/util/Optional" ∧ Fld Z h b "java/util/Optional" "value" "Ljava/lang/Object;" (.ref x0)
set_option maxRecDepth 65536 in
set_option maxHeartbeats 40000000 in
theorem ofc0 (l : Launch) (Z : State) (a0 : Array Value) (hw : ∀ d ∈ tables_1, d.before a0 Z = true) (ws : List Jvm.Cond) (h0 : Heap) (n0 : Nat) (O0 : Old Z n0 h0) (a : Addr) (d : Addr) (kd : ClassId) (em : Addr) (xs : Addr) (kx : ClassId) (x0 : Addr) (x1 : Addr) (x2 : Addr) (x3 : Addr) (z : Int32) (fm : Value) (Ea : Exa Z h0 a "java/lang/String") (Fc : Fld Z h0 a "java/lang/String" "coder" "B" (.int (0 : Int32))) (Fv : Fld Z h0 a "java/lang/String" "value" "[B" (.ref d)) (Vd : own_Ar Z h0 d kd .byte [(.int (own_lb (48 : Int32)))]) (SE : Sta Z Z.heap "java/util/Optional" "EMPTY" "Ljava/util/Optional;" (.ref em)) (EE : Exa Z Z.heap em "java/util/Optional") (FE : Fld Z Z.heap em "java/util/Optional" "value" "Ljava/lang/Object;" .null) (SX : Sta Z Z.heap "com/example/davka/davka/AccountingCode" "CODES" "[Lcom/example/davka/davka/AccountingCode;" (.ref xs)) (VX : own_Ar Z Z.heap xs kx (.object "com/example/davka/davka/AccountingCode") [(.ref x0), (.ref x1), (.ref x2), (.ref x3)]) (S0 : Sta Z Z.heap "com/example/davka/davka/AccountingCode" "DEBIT" "Lcom/example/davka/davka/AccountingCode;" (.ref x0)) (A0 : Exa Z Z.heap x0 "com/example/davka/davka/AccountingCode") (B0 : Fld Z Z.heap x0 "com/example/davka/davka/AccountingCode" "digit" "C" (.int (48 : Int32))) (S1 : Sta Z Z.heap "com/example/davka/davka/AccountingCode" "CREDIT" "Lcom/example/davka/davka/AccountingCode;" (.ref x1)) (A1 : Exa Z Z.heap x1 "com/example/davka/davka/AccountingCode") (B1 : Fld Z Z.heap x1 "com/example/davka/davka/AccountingCode" "digit" "C" (.int (49 : Int32))) (S2 : Sta Z Z.heap "com/example/davka/davka/AccountingCode" "DEBIT_CANCELLATION" "Lcom/example/davka/davka/AccountingCode;" (.ref x2)) (A2 : Exa Z Z.heap x2 "com/example/davka/davka/AccountingCode") (B2 : Fld Z Z.heap x2 "com/example/davka/davka/AccountingCode" "digit" "C" (.int (50 : Int32))) (S3 : Sta Z Z.heap "com/example/davka/davka/AccountingCode" "CREDIT_CANCELLATION" "Lcom/example/davka/davka/AccountingCode;" (.ref x3)) (A3 : Exa Z Z.heap x3 "com/example/davka/davka/AccountingCode") (B3 : Fld Z Z.heap x3 "com/example/davka/davka/AccountingCode" "digit" "C" (.int (51 : Int32))) (SC : Sta Z Z.heap "java/lang/String" "COMPACT_STRINGS" "Z" (.int z)) (hz : ¬ (z = (0 : Int32))) (SA : Sta Z Z.heap "java/lang/StringUTF16" "$assertionsDisabled" "Z" (.int (1 : Int32))) (SH : Sta Z Z.heap "java/lang/StringUTF16" "HI_BYTE_SHIFT" "I" (.int (0 : Int32))) (SL : Sta Z Z.heap "java/lang/StringUTF16" "LO_BYTE_SHIFT" "I" (.int (8 : Int32))) (SF : Sta Z Z.heap "jdk/internal/util/Preconditions" "SIOOBE_FORMATTER" "Ljava/util/function/BiFunction;" fm) (hfm : fm.isRef = true) :
    MetFree l (⟨"com/example/davka/davka/AccountingCode", "of", "(Ljava/lang/String;)Ljava/util/Optional;"⟩ : MethodName) (head1 (Jvm.Cond.code (⟨"com/example/davka/davka/AccountingCode", "of", "(Ljava/lang/String;)Ljava/util/Optional;"⟩ : MethodName) prog_3_method_4_code 1 (some (.object "java/util/Optional")) :: ws) ({ frames := 4, cells := 1, slots := 1, locals := 53 } : Room)) (fun aq U => aq = #[(.ref a)] ∧ Z.Warmed39 U.vm ∧ U.heap = h0) (fun _ _ _ _ _ => True) (fun _ U oo U' => ∃ v L, oo = .returned v ∧ Q_ofc0 Z h0 n0 a d kd em xs kx x0 x1 x2 x3 z fm v U'.heap L ∧ FrameEnd U oo U' L ({ frames := 4, cells := 1, slots := 1, locals := 53 } : Room).cells ({ frames := 4, cells := 1, slots := 1, locals := 53 } : Room).slots) := by
  refine MetFree.of_bodySF (plainFor_of_name pn_ofc0) hisR ?_
  intro p e s m args below meth c s₁ Bd hml0 hP hK
  obtain ⟨rfl, hZ, hh⟩ := hP
  have hx := Bd.exec
  have hby := Bd.bytes
  have hml : c.maxLocals = 1 := hml0
  have hown : s.vm.findClass "com/example/davka/davka/AccountingCode" = some m.cls := findClass_of_methodNamed Bd.named
  have hnm := (name_of_methodNamed Bd.named Bd.method).1
  have hlk := Bd.notSynchronized
  have hret := Bd.returns
  have X0 : Stand p l e ({ frames := 4, cells := 1, slots := 1, locals := 53 } : Room) s m #[(.ref a)] below meth c s₁ [] 0 0 := Stand.of_body Bd
  have e0 : s₁.heap = h0 := by rw [← hh, Bd.state]; rfl
  have N0 := Fr.nil n0
  have K0 := Keep.refl h0 []
  refine own_go (S' := (s₁.setTop (mkF m 0 #[.val (.ref a)] []))) (fun tq kq => castTop (ef_ofc0 m a d kd em xs kx x0 x1 x2 x3 z fm) kq) ?_
  show own_G p e s below (Q_ofc0 Z h0 n0 a d kd em xs kx x0 x1 x2 x3 z fm) _ _ _
  refine own_go (S' := (s₁.setTop (mkF m 1 #[.val (.ref a)] [(.ref a)]))) (fun tq kq => XS.aloadN X0.here hx rfl (hb hby d5_0) rfl rfl kq) ?_
  obtain ⟨cq101, kq101, q101a, q101b, q101c⟩ := isOf hZ e0 Ea
  obtain ⟨_, _, ⟨T101, L101, k101, n101⟩, -, X101, ⟨Lc101, hQ101, l101, y101, z101⟩, st101⟩ := X0.virtualBack hx (y := (⟨"java/lang/String", "length", "()I"⟩ : MethodName)) (z := (⟨"java/lang/String", "length", "()I"⟩ : MethodName)) hown (mvT hZ (hw _ (List.mem_of_getElem? (i := 32) rfl))) (mvT hZ (hw _ (List.mem_of_getElem? (i := 33) rfl))) (notFace_of_selects (args := #[]) (mvT hZ (hw _ (List.mem_of_getElem? (i := 35) rfl)))) (mvT hZ (hw _ (List.mem_of_getElem? (i := 35) rfl))) (mvT hZ (hw _ (List.mem_of_getElem? (i := 34) rfl))) (by decide) (backOf (W := 0) (len1_0 l Z a0 hw [] h0 n0 O0 a d kd [(.int (own_lb (48 : Int32)))] z fm SC hz SA SH SL SF hfm Ea Fc Fv Vd rfl) hZ (hw _ (List.mem_of_getElem? (i := 36) rfl)) (hw _ (List.mem_of_getElem? (i := 8) rfl)) (by decide) (by decide)) q101a q101c (g := (mkF m 1 #[.val (.ref a)] [(.ref a)])) rfl (by rw [hml]; rfl) (Steps.refl _) (argsL := []) (rest := []) (lenOf pd_18 rfl) rfl (by show 2 * 0 + _ ≤ _; exact Nat.le_of_eq rfl) (hb hby d5_1) (fun _ _ => ⟨rfl, e0, (by decide : 0 + 0 ≤ _), (by decide : 0 + 0 ≤ _)⟩)
  dsimp only [Pt.U, Pt.locs, Pt.cells, Pt.slots] at X101 l101 y101 z101 st101 hQ101
  subst l101 y101 z101
  obtain ⟨rfl, N101, eh101⟩ := hQ101
  have Nf101 := Fr.app N0 N101
  refine own_go (S' := (T101.setTop (mkF m 10 #[.val (.ref a)] [(.int (0 : Int32)), (.ref a)]))) (fun tq kq => st101.trans (XS.iconst X101.here hx rfl (hb hby d5_4) (XS.icmpNo X101.here hx rfl (hb hby d5_5) rfl (teq (by decide : (1 : Int32) = (1 : Int32))).2 (XS.aloadN X101.here hx rfl (hb hby d5_8) rfl rfl (XS.iconst X101.here hx rfl (hb hby d5_9) kq))))) ?_
  obtain ⟨cq102, kq102, q102a, q102b, q102c⟩ := isOf hZ eh101 Ea
  obtain ⟨_, _, ⟨T102, L102, k102, n102⟩, -, X102, ⟨Lc102, hQ102, l102, y102, z102⟩, st102⟩ := X101.virtualBack hx (y := (⟨"java/lang/String", "charAt", "(I)C"⟩ : MethodName)) (z := (⟨"java/lang/String", "charAt", "(I)C"⟩ : MethodName)) hown (mvT hZ (hw _ (List.mem_of_getElem? (i := 82) rfl))) (mvT hZ (hw _ (List.mem_of_getElem? (i := 83) rfl))) (notFace_of_selects (args := #[]) (mvT hZ (hw _ (List.mem_of_getElem? (i := 85) rfl)))) (mvT hZ (hw _ (List.mem_of_getElem? (i := 85) rfl))) (mvT hZ (hw _ (List.mem_of_getElem? (i := 84) rfl))) (by decide) (backOf (W := 0) (chat0_1_0 l Z a0 hw [] h0 n0 O0 a d kd (48 : Int32) z fm SC hz SA SH SL SF hfm Ea Fc Fv Vd (by decide) (by decide) (by decide)) hZ (hw _ (List.mem_of_getElem? (i := 86) rfl)) (hw _ (List.mem_of_getElem? (i := 8) rfl)) (by decide) (by decide)) q102a q102c (g := (mkF m 10 #[.val (.ref a)] [(.int (0 : Int32)), (.ref a)])) rfl (by rw [hml]; rfl) (Steps.refl _) (argsL := [(.int (0 : Int32))]) (rest := []) (lenOf pd_20 rfl) rfl (by show 2 * 0 + _ ≤ _; exact Nat.le_of_eq rfl) (hb hby d5_10) (fun _ _ => ⟨rfl, eh101, (by decide : 0 + 0 ≤ _), (by decide : 0 + 0 ≤ _)⟩)
  dsimp only [Pt.U, Pt.locs, Pt.cells, Pt.slots] at X102 l102 y102 z102 st102 hQ102
  subst l102 y102 z102
  obtain ⟨rfl, N102, eh102⟩ := hQ102
  have Nf102 := Fr.app Nf101 N102
  refine own_go (S' := (T102.setTop (mkF m 13 #[.val (.ref a)] [(.int (48 : Int32))]))) (fun tq kq => st102.trans kq) ?_
  obtain ⟨_, _, ⟨T103, L103, k103, n103⟩, -, X103, ⟨Lc103, hQ103, l103, y103, z103⟩, st103⟩ := Jvm.LawKit.callS X102 hx (y := (⟨"com/example/davka/davka/AccountingCode", "of", "(C)Lcom/example/davka/davka/AccountingCode;"⟩ : MethodName)) hown (mvT hZ (hw _ (List.mem_of_getElem? (i := 103) rfl))) (mvT hZ (hw _ (List.mem_of_getElem? (i := 104) rfl))) (mvT hZ (hw _ (List.mem_of_getElem? (i := 30) rfl))) (mvT hZ (hw _ (List.mem_of_getElem? (i := 105) rfl))) (by decide) (backOf (W := 0) (of0 l Z a0 hw [] h0 n0 O0 xs kx x0 x1 x2 x3 SX VX S0 A0 B0 S1 A1 B1 S2 A2 B2 S3 A3 B3) hZ (hw _ (List.mem_of_getElem? (i := 105) rfl)) (hw _ (List.mem_of_getElem? (i := 30) rfl)) (by decide) (by decide)) (g := (mkF m 13 #[.val (.ref a)] [(.int (48 : Int32))])) rfl (by rw [hml]; rfl) (argsL := [(.int (48 : Int32))]) (rest := []) (lenOf pd_21 rfl) rfl (by show 2 * 0 + _ ≤ _; exact Nat.le_of_eq rfl) (hb hby d5_13) (fun _ _ => ⟨rfl, eh102, (by decide : 0 + 0 ≤ _), (by decide : 0 + 0 ≤ _)⟩)
  dsimp only [Pt.U, Pt.locs, Pt.cells, Pt.slots] at X103 l103 y103 z103 st103 hQ103
  subst l103 y103 z103
  obtain ⟨rfl, N103, eh103⟩ := hQ103
  have Nf103 := Fr.app Nf102 N103
  refine own_go (S' := (T103.setTop (mkF m 16 #[.val (.ref a)] [(.ref x0)]))) (fun tq kq => st103 tq kq) ?_
  obtain ⟨_, _, ⟨T104, L104, k104, n104⟩, -, X104, ⟨Lc104, hQ104, l104, y104, z104⟩, st104⟩ := Jvm.LawKit.callS X103 hx (y := (⟨"java/util/Optional", "ofNullable", "(Ljava/lang/Object;)Ljava/util/Optional;"⟩ : MethodName)) hown (mvT hZ (hw _ (List.mem_of_getElem? (i := 114) rfl))) (mvT hZ (hw _ (List.mem_of_getElem? (i := 115) rfl))) (mvT hZ (hw _ (List.mem_of_getElem? (i := 45) rfl))) (mvT hZ (hw _ (List.mem_of_getElem? (i := 116) rfl))) (by decide) (backOf (W := 0) (onr l Z a0 hw [] h0 n0 O0 x0) hZ (hw _ (List.mem_of_getElem? (i := 116) rfl)) (hw _ (List.mem_of_getElem? (i := 45) rfl)) (by decide) (by decide)) (g := (mkF m 16 #[.val (.ref a)] [(.ref x0)])) rfl (by rw [hml]; rfl) (argsL := [(.ref x0)]) (rest := []) (lenOf pd_22 rfl) rfl (by show 2 * 0 + _ ≤ _; exact Nat.le_of_eq rfl) (hb hby d5_16) (fun _ _ => ⟨rfl, eh103, (by decide : 0 + 1 ≤ _), (by decide : 0 + 1 ≤ _)⟩)
  dsimp only [Pt.U, Pt.locs, Pt.cells, Pt.slots] at X104 l104 y104 z104 st104 hQ104
  subst l104 y104 z104
  obtain ⟨b104, rfl, N104, K104, gb104, Eb104, Fb104⟩ := hQ104
  have Nf104 := Fr.app Nf103 N104
  have O104 := O0.keep K104 all0
  have KK104 := K0.trans K104 all0
  have ne_a_b104 : a ≠ b104 := Nat.ne_of_lt (Nat.lt_of_lt_of_le Ea.lt gb104)
  have ne_d_b104 : d ≠ b104 := Nat.ne_of_lt (Nat.lt_of_lt_of_le Vd.lt gb104)
  have ge_b104 : n0 ≤ b104 := Nat.le_trans (own_osz O0) gb104
  have gk_b104 : h0.size ≤ b104 := Nat.le_trans K0.1 gb104
  refine own_go (S' := (T104.setTop (mkF m 25 #[.val (.ref a)] [(.ref b104)]))) (fun tq kq => st104 tq (XS.goto X104.here hx rfl (pc0 := 19) (pc' := 25) rfl (hb hby d5_19) (by decide) (by decide) kq)) ?_
  refine own_retA X104 hx hlk hret rfl rfl (hb hby d5_25) (by decide) (by decide) ?_
  exact ⟨b104, rfl, Nf104, KK104, gk_b104, Eb104, Fb104⟩
theorem pn_ofc1 : plainName "com/example/davka/davka/AccountingCode" = true := by first | (simp [plainName, overriddenIn]; done) | decide +kernel
theorem ef_ofc1 (m : MethodId) (a : Addr) (d : Addr) (kd : ClassId) (em : Addr) (xs : Addr) (kx : ClassId) (x0 : Addr) (x1 : Addr) (x2 : Addr) (x3 : Addr) (z : Int32) (fm : Value) : entryFrame m #[(.ref a)] 1 = mkF m 0 #[.val (.ref a)] [] := by first | (simp [entryFrame, mkF, argsToLocals, Value.category]; done) | rfl
def Q_ofc1 (Z : State) (h0 : Heap) (n0 : Nat) (a : Addr) (d : Addr) (kd : ClassId) (em : Addr) (xs : Addr) (kx : ClassId) (x0 : Addr) (x1 : Addr) (x2 : Addr) (x3 : Addr) (z : Int32) (fm : Value) (v : Option Value) (h : Heap) (L : List Loc) : Prop := ∃ b : Addr, v = some (.ref b) ∧ Fr n0 L ∧ Keep h0 h [] ∧ h0.size ≤ b ∧ Exa Z h b "java/util/Optional" ∧ Fld Z h b "java/util/Optional" "value" "Ljava/lang/Object;" (.ref x1)
set_option maxRecDepth 65536 in
set_option maxHeartbeats 40000000 in
theorem ofc1 (l : Launch) (Z : State) (a0 : Array Value) (hw : ∀ d ∈ tables_1, d.before a0 Z = true) (ws : List Jvm.Cond) (h0 : Heap) (n0 : Nat) (O0 : Old Z n0 h0) (a : Addr) (d : Addr) (kd : ClassId) (em : Addr) (xs : Addr) (kx : ClassId) (x0 : Addr) (x1 : Addr) (x2 : Addr) (x3 : Addr) (z : Int32) (fm : Value) (Ea : Exa Z h0 a "java/lang/String") (Fc : Fld Z h0 a "java/lang/String" "coder" "B" (.int (0 : Int32))) (Fv : Fld Z h0 a "java/lang/String" "value" "[B" (.ref d)) (Vd : own_Ar Z h0 d kd .byte [(.int (own_lb (49 : Int32)))]) (SE : Sta Z Z.heap "java/util/Optional" "EMPTY" "Ljava/util/Optional;" (.ref em)) (EE : Exa Z Z.heap em "java/util/Optional") (FE : Fld Z Z.heap em "java/util/Optional" "value" "Ljava/lang/Object;" .null) (SX : Sta Z Z.heap "com/example/davka/davka/AccountingCode" "CODES" "[Lcom/example/davka/davka/AccountingCode;" (.ref xs)) (VX : own_Ar Z Z.heap xs kx (.object "com/example/davka/davka/AccountingCode") [(.ref x0), (.ref x1), (.ref x2), (.ref x3)]) (S0 : Sta Z Z.heap "com/example/davka/davka/AccountingCode" "DEBIT" "Lcom/example/davka/davka/AccountingCode;" (.ref x0)) (A0 : Exa Z Z.heap x0 "com/example/davka/davka/AccountingCode") (B0 : Fld Z Z.heap x0 "com/example/davka/davka/AccountingCode" "digit" "C" (.int (48 : Int32))) (S1 : Sta Z Z.heap "com/example/davka/davka/AccountingCode" "CREDIT" "Lcom/example/davka/davka/AccountingCode;" (.ref x1)) (A1 : Exa Z Z.heap x1 "com/example/davka/davka/AccountingCode") (B1 : Fld Z Z.heap x1 "com/example/davka/davka/AccountingCode" "digit" "C" (.int (49 : Int32))) (S2 : Sta Z Z.heap "com/example/davka/davka/AccountingCode" "DEBIT_CANCELLATION" "Lcom/example/davka/davka/AccountingCode;" (.ref x2)) (A2 : Exa Z Z.heap x2 "com/example/davka/davka/AccountingCode") (B2 : Fld Z Z.heap x2 "com/example/davka/davka/AccountingCode" "digit" "C" (.int (50 : Int32))) (S3 : Sta Z Z.heap "com/example/davka/davka/AccountingCode" "CREDIT_CANCELLATION" "Lcom/example/davka/davka/AccountingCode;" (.ref x3)) (A3 : Exa Z Z.heap x3 "com/example/davka/davka/AccountingCode") (B3 : Fld Z Z.heap x3 "com/example/davka/davka/AccountingCode" "digit" "C" (.int (51 : Int32))) (SC : Sta Z Z.heap "java/lang/String" "COMPACT_STRINGS" "Z" (.int z)) (hz : ¬ (z = (0 : Int32))) (SA : Sta Z Z.heap "java/lang/StringUTF16" "$assertionsDisabled" "Z" (.int (1 : Int32))) (SH : Sta Z Z.heap "java/lang/StringUTF16" "HI_BYTE_SHIFT" "I" (.int (0 : Int32))) (SL : Sta Z Z.heap "java/lang/StringUTF16" "LO_BYTE_SHIFT" "I" (.int (8 : Int32))) (SF : Sta Z Z.heap "jdk/internal/util/Preconditions" "SIOOBE_FORMATTER" "Ljava/util/function/BiFunction;" fm) (hfm : fm.isRef = true) :
    MetFree l (⟨"com/example/davka/davka/AccountingCode", "of", "(Ljava/lang/String;)Ljava/util/Optional;"⟩ : MethodName) (head1 (Jvm.Cond.code (⟨"com/example/davka/davka/AccountingCode", "of", "(Ljava/lang/String;)Ljava/util/Optional;"⟩ : MethodName) prog_3_method_4_code 1 (some (.object "java/util/Optional")) :: ws) ({ frames := 4, cells := 1, slots := 1, locals := 53 } : Room)) (fun aq U => aq = #[(.ref a)] ∧ Z.Warmed39 U.vm ∧ U.heap = h0) (fun _ _ _ _ _ => True) (fun _ U oo U' => ∃ v L, oo = .returned v ∧ Q_ofc1 Z h0 n0 a d kd em xs kx x0 x1 x2 x3 z fm v U'.heap L ∧ FrameEnd U oo U' L ({ frames := 4, cells := 1, slots := 1, locals := 53 } : Room).cells ({ frames := 4, cells := 1, slots := 1, locals := 53 } : Room).slots) := by
  refine MetFree.of_bodySF (plainFor_of_name pn_ofc1) hisR ?_
  intro p e s m args below meth c s₁ Bd hml0 hP hK
  obtain ⟨rfl, hZ, hh⟩ := hP
  have hx := Bd.exec
  have hby := Bd.bytes
  have hml : c.maxLocals = 1 := hml0
  have hown : s.vm.findClass "com/example/davka/davka/AccountingCode" = some m.cls := findClass_of_methodNamed Bd.named
  have hnm := (name_of_methodNamed Bd.named Bd.method).1
  have hlk := Bd.notSynchronized
  have hret := Bd.returns
  have X0 : Stand p l e ({ frames := 4, cells := 1, slots := 1, locals := 53 } : Room) s m #[(.ref a)] below meth c s₁ [] 0 0 := Stand.of_body Bd
  have e0 : s₁.heap = h0 := by rw [← hh, Bd.state]; rfl
  have N0 := Fr.nil n0
  have K0 := Keep.refl h0 []
  refine own_go (S' := (s₁.setTop (mkF m 0 #[.val (.ref a)] []))) (fun tq kq => castTop (ef_ofc1 m a d kd em xs kx x0 x1 x2 x3 z fm) kq) ?_
  show own_G p e s below (Q_ofc1 Z h0 n0 a d kd em xs kx x0 x1 x2 x3 z fm) _ _ _
  refine own_go (S' := (s₁.setTop (mkF m 1 #[.val (.ref a)] [(.ref a)]))) (fun tq kq => XS.aloadN X0.here hx rfl (hb hby d5_0) rfl rfl kq) ?_
  obtain ⟨cq101, kq101, q101a, q101b, q101c⟩ := isOf hZ e0 Ea
  obtain ⟨_, _, ⟨T101, L101, k101, n101⟩, -, X101, ⟨Lc101, hQ101, l101, y101, z101⟩, st101⟩ := X0.virtualBack hx (y := (⟨"java/lang/String", "length", "()I"⟩ : MethodName)) (z := (⟨"java/lang/String", "length", "()I"⟩ : MethodName)) hown (mvT hZ (hw _ (List.mem_of_getElem? (i := 32) rfl))) (mvT hZ (hw _ (List.mem_of_getElem? (i := 33) rfl))) (notFace_of_selects (args := #[]) (mvT hZ (hw _ (List.mem_of_getElem? (i := 35) rfl)))) (mvT hZ (hw _ (List.mem_of_getElem? (i := 35) rfl))) (mvT hZ (hw _ (List.mem_of_getElem? (i := 34) rfl))) (by decide) (backOf (W := 0) (len1_0 l Z a0 hw [] h0 n0 O0 a d kd [(.int (own_lb (49 : Int32)))] z fm SC hz SA SH SL SF hfm Ea Fc Fv Vd rfl) hZ (hw _ (List.mem_of_getElem? (i := 36) rfl)) (hw _ (List.mem_of_getElem? (i := 8) rfl)) (by decide) (by decide)) q101a q101c (g := (mkF m 1 #[.val (.ref a)] [(.ref a)])) rfl (by rw [hml]; rfl) (Steps.refl _) (argsL := []) (rest := []) (lenOf pd_18 rfl) rfl (by show 2 * 0 + _ ≤ _; exact Nat.le_of_eq rfl) (hb hby d5_1) (fun _ _ => ⟨rfl, e0, (by decide : 0 + 0 ≤ _), (by decide : 0 + 0 ≤ _)⟩)
  dsimp only [Pt.U, Pt.locs, Pt.cells, Pt.slots] at X101 l101 y101 z101 st101 hQ101
  subst l101 y101 z101
  obtain ⟨rfl, N101, eh101⟩ := hQ101
  have Nf101 := Fr.app N0 N101
  refine own_go (S' := (T101.setTop (mkF m 10 #[.val (.ref a)] [(.int (0 : Int32)), (.ref a)]))) (fun tq kq => st101.trans (XS.iconst X101.here hx rfl (hb hby d5_4) (XS.icmpNo X101.here hx rfl (hb hby d5_5) rfl (teq (by decide : (1 : Int32) = (1 : Int32))).2 (XS.aloadN X101.here hx rfl (hb hby d5_8) rfl rfl (XS.iconst X101.here hx rfl (hb hby d5_9) kq))))) ?_
  obtain ⟨cq102, kq102, q102a, q102b, q102c⟩ := isOf hZ eh101 Ea
  obtain ⟨_, _, ⟨T102, L102, k102, n102⟩, -, X102, ⟨Lc102, hQ102, l102, y102, z102⟩, st102⟩ := X101.virtualBack hx (y := (⟨"java/lang/String", "charAt", "(I)C"⟩ : MethodName)) (z := (⟨"java/lang/String", "charAt", "(I)C"⟩ : MethodName)) hown (mvT hZ (hw _ (List.mem_of_getElem? (i := 82) rfl))) (mvT hZ (hw _ (List.mem_of_getElem? (i := 83) rfl))) (notFace_of_selects (args := #[]) (mvT hZ (hw _ (List.mem_of_getElem? (i := 85) rfl)))) (mvT hZ (hw _ (List.mem_of_getElem? (i := 85) rfl))) (mvT hZ (hw _ (List.mem_of_getElem? (i := 84) rfl))) (by decide) (backOf (W := 0) (chat0_1_0 l Z a0 hw [] h0 n0 O0 a d kd (49 : Int32) z fm SC hz SA SH SL SF hfm Ea Fc Fv Vd (by decide) (by decide) (by decide)) hZ (hw _ (List.mem_of_getElem? (i := 86) rfl)) (hw _ (List.mem_of_getElem? (i := 8) rfl)) (by decide) (by decide)) q102a q102c (g := (mkF m 10 #[.val (.ref a)] [(.int (0 : Int32)), (.ref a)])) rfl (by rw [hml]; rfl) (Steps.refl _) (argsL := [(.int (0 : Int32))]) (rest := []) (lenOf pd_20 rfl) rfl (by show 2 * 0 + _ ≤ _; exact Nat.le_of_eq rfl) (hb hby d5_10) (fun _ _ => ⟨rfl, eh101, (by decide : 0 + 0 ≤ _), (by decide : 0 + 0 ≤ _)⟩)
  dsimp only [Pt.U, Pt.locs, Pt.cells, Pt.slots] at X102 l102 y102 z102 st102 hQ102
  subst l102 y102 z102
  obtain ⟨rfl, N102, eh102⟩ := hQ102
  have Nf102 := Fr.app Nf101 N102
  refine own_go (S' := (T102.setTop (mkF m 13 #[.val (.ref a)] [(.int (49 : Int32))]))) (fun tq kq => st102.trans kq) ?_
  obtain ⟨_, _, ⟨T103, L103, k103, n103⟩, -, X103, ⟨Lc103, hQ103, l103, y103, z103⟩, st103⟩ := Jvm.LawKit.callS X102 hx (y := (⟨"com/example/davka/davka/AccountingCode", "of", "(C)Lcom/example/davka/davka/AccountingCode;"⟩ : MethodName)) hown (mvT hZ (hw _ (List.mem_of_getElem? (i := 103) rfl))) (mvT hZ (hw _ (List.mem_of_getElem? (i := 104) rfl))) (mvT hZ (hw _ (List.mem_of_getElem? (i := 30) rfl))) (mvT hZ (hw _ (List.mem_of_getElem? (i := 105) rfl))) (by decide) (backOf (W := 0) (of1 l Z a0 hw [] h0 n0 O0 xs kx x0 x1 x2 x3 SX VX S0 A0 B0 S1 A1 B1 S2 A2 B2 S3 A3 B3) hZ (hw _ (List.mem_of_getElem? (i := 105) rfl)) (hw _ (List.mem_of_getElem? (i := 30) rfl)) (by decide) (by decide)) (g := (mkF m 13 #[.val (.ref a)] [(.int (49 : Int32))])) rfl (by rw [hml]; rfl) (argsL := [(.int (49 : Int32))]) (rest := []) (lenOf pd_21 rfl) rfl (by show 2 * 0 + _ ≤ _; exact Nat.le_of_eq rfl) (hb hby d5_13) (fun _ _ => ⟨rfl, eh102, (by decide : 0 + 0 ≤ _), (by decide : 0 + 0 ≤ _)⟩)
  dsimp only [Pt.U, Pt.locs, Pt.cells, Pt.slots] at X103 l103 y103 z103 st103 hQ103
  subst l103 y103 z103
  obtain ⟨rfl, N103, eh103⟩ := hQ103
  have Nf103 := Fr.app Nf102 N103
  refine own_go (S' := (T103.setTop (mkF m 16 #[.val (.ref a)] [(.ref x1)]))) (fun tq kq => st103 tq kq) ?_
  obtain ⟨_, _, ⟨T104, L104, k104, n104⟩, -, X104, ⟨Lc104, hQ104, l104, y104, z104⟩, st104⟩ := Jvm.LawKit.callS X103 hx (y := (⟨"java/util/Optional", "ofNullable", "(Ljava/lang/Object;)Ljava/util/Optional;"⟩ : MethodName)) hown (mvT hZ (hw _ (List.mem_of_getElem? (i := 114) rfl))) (mvT hZ (hw _ (List.mem_of_getElem? (i := 115) rfl))) (mvT hZ (hw _ (List.mem_of_getElem? (i := 45) rfl))) (mvT hZ (hw _ (List.mem_of_getElem? (i := 116) rfl))) (by decide) (backOf (W := 0) (onr l Z a0 hw [] h0 n0 O0 x1) hZ (hw _ (List.mem_of_getElem? (i := 116) rfl)) (hw _ (List.mem_of_getElem? (i := 45) rfl)) (by decide) (by decide)) (g := (mkF m 16 #[.val (.ref a)] [(.ref x1)])) rfl (by rw [hml]; rfl) (argsL := [(.ref x1)]) (rest := []) (lenOf pd_22 rfl) rfl (by show 2 * 0 + _ ≤ _; exact Nat.le_of_eq rfl) (hb hby d5_16) (fun _ _ => ⟨rfl, eh103, (by decide : 0 + 1 ≤ _), (by decide : 0 + 1 ≤ _)⟩)
  dsimp only [Pt.U, Pt.locs, Pt.cells, Pt.slots] at X104 l104 y104 z104 st104 hQ104
  subst l104 y104 z104
  obtain ⟨b104, rfl, N104, K104, gb104, Eb104, Fb104⟩ := hQ104
  have Nf104 := Fr.app Nf103 N104
  have O104 := O0.keep K104 all0
  have KK104 := K0.trans K104 all0
  have ne_a_b104 : a ≠ b104 := Nat.ne_of_lt (Nat.lt_of_lt_of_le Ea.lt gb104)
  have ne_d_b104 : d ≠ b104 := Nat.ne_of_lt (Nat.lt_of_lt_of_le Vd.lt gb104)
  have ge_b104 : n0 ≤ b104 := Nat.le_trans (own_osz O0) gb104
  have gk_b104 : h0.size ≤ b104 := Nat.le_trans K0.1 gb104
  refine own_go (S' := (T104.setTop (mkF m 25 #[.val (.ref a)] [(.ref b104)]))) (fun tq kq => st104 tq (XS.goto X104.here hx rfl (pc0 := 19) (pc' := 25) rfl (hb hby d5_19) (by decide) (by decide) kq)) ?_
  refine own_retA X104 hx hlk hret rfl rfl (hb hby d5_25) (by decide) (by decide) ?_
  exact ⟨b104, rfl, Nf104, KK104, gk_b104, Eb104, Fb104⟩
theorem pn_ofc2 : plainName "com/example/davka/davka/AccountingCode" = true := by first | (simp [plainName, overriddenIn]; done) | decide +kernel
theorem ef_ofc2 (m : MethodId) (a : Addr) (d : Addr) (kd : ClassId) (em : Addr) (xs : Addr) (kx : ClassId) (x0 : Addr) (x1 : Addr) (x2 : Addr) (x3 : Addr) (z : Int32) (fm : Value) : entryFrame m #[(.ref a)] 1 = mkF m 0 #[.val (.ref a)] [] := by first | (simp [entryFrame, mkF, argsToLocals, Value.category]; done) | rfl
def Q_ofc2 (Z : State) (h0 : Heap) (n0 : Nat) (a : Addr) (d : Addr) (kd : ClassId) (em : Addr) (xs : Addr) (kx : ClassId) (x0 : Addr) (x1 : Addr) (x2 : Addr) (x3 : Addr) (z : Int32) (fm : Value) (v : Option Value) (h : Heap) (L : List Loc) : Prop := ∃ b : Addr, v = some (.ref b) ∧ Fr n0 L ∧ Keep h0 h [] ∧ h0.size ≤ b ∧ Exa Z h b "java/util/Optional" ∧ Fld Z h b "java/util/Optional" "value" "Ljava/lang/Object;" (.ref x2)
set_option maxRecDepth 65536 in
set_option maxHeartbeats 40000000 in
theorem ofc2 (l : Launch) (Z : State) (a0 : Array Value) (hw : ∀ d ∈ tables_1, d.before a0 Z = true) (ws : List Jvm.Cond) (h0 : Heap) (n0 : Nat) (O0 : Old Z n0 h0) (a : Addr) (d : Addr) (kd : ClassId) (em : Addr) (xs : Addr) (kx : ClassId) (x0 : Addr) (x1 : Addr) (x2 : Addr) (x3 : Addr) (z : Int32) (fm : Value) (Ea : Exa Z h0 a "java/lang/String") (Fc : Fld Z h0 a "java/lang/String" "coder" "B" (.int (0 : Int32))) (Fv : Fld Z h0 a "java/lang/String" "value" "[B" (.ref d)) (Vd : own_Ar Z h0 d kd .byte [(.int (own_lb (50 : Int32)))]) (SE : Sta Z Z.heap "java/util/Optional" "EMPTY" "Ljava/util/Optional;" (.ref em)) (EE : Exa Z Z.heap em "java/util/Optional") (FE : Fld Z Z.heap em "java/util/Optional" "value" "Ljava/lang/Object;" .null) (SX : Sta Z Z.heap "com/example/davka/davka/AccountingCode" "CODES" "[Lcom/example/davka/davka/AccountingCode;" (.ref xs)) (VX : own_Ar Z Z.heap xs kx (.object "com/example/davka/davka/AccountingCode") [(.ref x0), (.ref x1), (.ref x2), (.ref x3)]) (S0 : Sta Z Z.heap "com/example/davka/davka/AccountingCode" "DEBIT" "Lcom/example/davka/davka/AccountingCode;" (.ref x0)) (A0 : Exa Z Z.heap x0 "com/example/davka/davka/AccountingCode") (B0 : Fld Z Z.heap x0 "com/example/davka/davka/AccountingCode" "digit" "C" (.int (48 : Int32))) (S1 : Sta Z Z.heap "com/example/davka/davka/AccountingCode" "CREDIT" "Lcom/example/davka/davka/AccountingCode;" (.ref x1)) (A1 : Exa Z Z.heap x1 "com/example/davka/davka/AccountingCode") (B1 : Fld Z Z.heap x1 "com/example/davka/davka/AccountingCode" "digit" "C" (.int (49 : Int32))) (S2 : Sta Z Z.heap "com/example/davka/davka/AccountingCode" "DEBIT_CANCELLATION" "Lcom/example/davka/davka/AccountingCode;" (.ref x2)) (A2 : Exa Z Z.heap x2 "com/example/davka/davka/AccountingCode") (B2 : Fld Z Z.heap x2 "com/example/davka/davka/AccountingCode" "digit" "C" (.int (50 : Int32))) (S3 : Sta Z Z.heap "com/example/davka/davka/AccountingCode" "CREDIT_CANCELLATION" "Lcom/example/davka/davka/AccountingCode;" (.ref x3)) (A3 : Exa Z Z.heap x3 "com/example/davka/davka/AccountingCode") (B3 : Fld Z Z.heap x3 "com/example/davka/davka/AccountingCode" "digit" "C" (.int (51 : Int32))) (SC : Sta Z Z.heap "java/lang/String" "COMPACT_STRINGS" "Z" (.int z)) (hz : ¬ (z = (0 : Int32))) (SA : Sta Z Z.heap "java/lang/StringUTF16" "$assertionsDisabled" "Z" (.int (1 : Int32))) (SH : Sta Z Z.heap "java/lang/StringUTF16" "HI_BYTE_SHIFT" "I" (.int (0 : Int32))) (SL : Sta Z Z.heap "java/lang/StringUTF16" "LO_BYTE_SHIFT" "I" (.int (8 : Int32))) (SF : Sta Z Z.heap "jdk/internal/util/Preconditions" "SIOOBE_FORMATTER" "Ljava/util/function/BiFunction;" fm) (hfm : fm.isRef = true) :
    MetFree l (⟨"com/example/davka/davka/AccountingCode", "of", "(Ljava/lang/String;)Ljava/util/Optional;"⟩ : MethodName) (head1 (Jvm.Cond.code (⟨"com/example/davka/davka/AccountingCode", "of", "(Ljava/lang/String;)Ljava/util/Optional;"⟩ : MethodName) prog_3_method_4_code 1 (some (.object "java/util/Optional")) :: ws) ({ frames := 4, cells := 1, slots := 1, locals := 53 } : Room)) (fun aq U => aq = #[(.ref a)] ∧ Z.Warmed39 U.vm ∧ U.heap = h0) (fun _ _ _ _ _ => True) (fun _ U oo U' => ∃ v L, oo = .returned v ∧ Q_ofc2 Z h0 n0 a d kd em xs kx x0 x1 x2 x3 z fm v U'.heap L ∧ FrameEnd U oo U' L ({ frames := 4, cells := 1, slots := 1, locals := 53 } : Room).cells ({ frames := 4, cells := 1, slots := 1, locals := 53 } : Room).slots) := by
  refine MetFree.of_bodySF (plainFor_of_name pn_ofc2) hisR ?_
  intro p e s m args below meth c s₁ Bd hml0 hP hK
  obtain ⟨rfl, hZ, hh⟩ := hP
  have hx := Bd.exec
  have hby := Bd.bytes
  have hml : c.maxLocals = 1 := hml0
  have hown : s.vm.findClass "com/example/davka/davka/AccountingCode" = some m.cls := findClass_of_methodNamed Bd.named
  have hnm := (name_of_methodNamed Bd.named Bd.method).1
  have hlk := Bd.notSynchronized
  have hret := Bd.returns
  have X0 : Stand p l e ({ frames := 4, cells := 1, slots := 1, locals := 53 } : Room) s m #[(.ref a)] below meth c s₁ [] 0 0 := Stand.of_body Bd
  have e0 : s₁.heap = h0 := by rw [← hh, Bd.state]; rfl
  have N0 := Fr.nil n0
  have K0 := Keep.refl h0 []
  refine own_go (S' := (s₁.setTop (mkF m 0 #[.val (.ref a)] []))) (fun tq kq => castTop (ef_ofc2 m a d kd em xs kx x0 x1 x2 x3 z fm) kq) ?_
  show own_G p e s below (Q_ofc2 Z h0 n0 a d kd em xs kx x0 x1 x2 x3 z fm) _ _ _
  refine own_go (S' := (s₁.setTop (mkF m 1 #[.val (.ref a)] [(.ref a)]))) (fun tq kq => XS.aloadN X0.here hx rfl (hb hby d5_0) rfl rfl kq) ?_
  obtain ⟨cq101, kq101, q101a, q101b, q101c⟩ := isOf hZ e0 Ea
  obtain ⟨_, _, ⟨T101, L101, k101, n101⟩, -, X101, ⟨Lc101, hQ101, l101, y101, z101⟩, st101⟩ := X0.virtualBack hx (y := (⟨"java/lang/String", "length", "()I"⟩ : MethodName)) (z := (⟨"java/lang/String", "length", "()I"⟩ : MethodName)) hown (mvT hZ (hw _ (List.mem_of_getElem? (i := 32) rfl))) (mvT hZ (hw _ (List.mem_of_getElem? (i := 33) rfl))) (notFace_of_selects (args := #[]) (mvT hZ (hw _ (List.mem_of_getElem? (i := 35) rfl)))) (mvT hZ (hw _ (List.mem_of_getElem? (i := 35) rfl))) (mvT hZ (hw _ (List.mem_of_getElem? (i := 34) rfl))) (by decide) (backOf (W := 0) (len1_0 l Z a0 hw [] h0 n0 O0 a d kd [(.int (own_lb (50 : Int32)))] z fm SC hz SA SH SL SF hfm Ea Fc Fv Vd rfl) hZ (hw _ (List.mem_of_getElem? (i := 36) rfl)) (hw _ (List.mem_of_getElem? (i := 8) rfl)) (by decide) (by decide)) q101a q101c (g := (mkF m 1 #[.val (.ref a)] [(.ref a)])) rfl (by rw [hml]; rfl) (Steps.refl _) (argsL := []) (rest := []) (lenOf pd_18 rfl) rfl (by show 2 * 0 + _ ≤ _; exact Nat.le_of_eq rfl) (hb hby d5_1) (fun _ _ => ⟨rfl, e0, (by decide : 0 + 0 ≤ _), (by decide : 0 + 0 ≤ _)⟩)
  dsimp only [Pt.U, Pt.locs, Pt.cells, Pt.slots] at X101 l101 y101 z101 st101 hQ101
  subst l101 y101 z101
  obtain ⟨rfl, N101, eh101⟩ := hQ101
  have Nf101 := Fr.app N0 N101
  refine own_go (S' := (T101.setTop (mkF m 10 #[.val (.ref a)] [(.int (0 : Int32)), (.ref a)]))) (fun tq kq => st101.trans (XS.iconst X101.here hx rfl (hb hby d5_4) (XS.icmpNo X101.here hx rfl (hb hby d5_5) rfl (teq (by decide : (1 : Int32) = (1 : Int32))).2 (XS.aloadN X101.here hx rfl (hb hby d5_8) rfl rfl (XS.iconst X101.here hx rfl (hb hby d5_9) kq))))) ?_
  obtain ⟨cq102, kq102, q102a, q102b, q102c⟩ := isOf hZ eh101 Ea
  obtain ⟨_, _, ⟨T102, L102, k102, n102⟩, -, X102, ⟨Lc102, hQ102, l102, y102, z102⟩, st102⟩ := X101.virtualBack hx (y := (⟨"java/lang/String", "charAt", "(I)C"⟩ : MethodName)) (z := (⟨"java/lang/String", "charAt", "(I)C"⟩ : MethodName)) hown (mvT hZ (hw _ (List.mem_of_getElem? (i := 82) rfl))) (mvT hZ (hw _ (List.mem_of_getElem? (i := 83) rfl))) (notFace_of_selects (args := #[]) (mvT hZ (hw _ (List.mem_of_getElem? (i := 85) rfl)))) (mvT hZ (hw _ (List.mem_of_getElem? (i := 85) rfl))) (mvT hZ (hw _ (List.mem_of_getElem? (i := 84) rfl))) (by decide) (backOf (W := 0) (chat0_1_0 l Z a0 hw [] h0 n0 O0 a d kd (50 : Int32) z fm SC hz SA SH SL SF hfm Ea Fc Fv Vd (by decide) (by decide) (by decide)) hZ (hw _ (List.mem_of_getElem? (i := 86) rfl)) (hw _ (List.mem_of_getElem? (i := 8) rfl)) (by decide) (by decide)) q102a q102c (g := (mkF m 10 #[.val (.ref a)] [(.int (0 : Int32)), (.ref a)])) rfl (by rw [hml]; rfl) (Steps.refl _) (argsL := [(.int (0 : Int32))]) (rest := []) (lenOf pd_20 rfl) rfl (by show 2 * 0 + _ ≤ _; exact Nat.le_of_eq rfl) (hb hby d5_10) (fun _ _ => ⟨rfl, eh101, (by decide : 0 + 0 ≤ _), (by decide : 0 + 0 ≤ _)⟩)
  dsimp only [Pt.U, Pt.locs, Pt.cells, Pt.slots] at X102 l102 y102 z102 st102 hQ102
  subst l102 y102 z102
  obtain ⟨rfl, N102, eh102⟩ := hQ102
  have Nf102 := Fr.app Nf101 N102
  refine own_go (S' := (T102.setTop (mkF m 13 #[.val (.ref a)] [(.int (50 : Int32))]))) (fun tq kq => st102.trans kq) ?_
  obtain ⟨_, _, ⟨T103, L103, k103, n103⟩, -, X103, ⟨Lc103, hQ103, l103, y103, z103⟩, st103⟩ := Jvm.LawKit.callS X102 hx (y := (⟨"com/example/davka/davka/AccountingCode", "of", "(C)Lcom/example/davka/davka/AccountingCode;"⟩ : MethodName)) hown (mvT hZ (hw _ (List.mem_of_getElem? (i := 103) rfl))) (mvT hZ (hw _ (List.mem_of_getElem? (i := 104) rfl))) (mvT hZ (hw _ (List.mem_of_getElem? (i := 30) rfl))) (mvT hZ (hw _ (List.mem_of_getElem? (i := 105) rfl))) (by decide) (backOf (W := 0) (of2 l Z a0 hw [] h0 n0 O0 xs kx x0 x1 x2 x3 SX VX S0 A0 B0 S1 A1 B1 S2 A2 B2 S3 A3 B3) hZ (hw _ (List.mem_of_getElem? (i := 105) rfl)) (hw _ (List.mem_of_getElem? (i := 30) rfl)) (by decide) (by decide)) (g := (mkF m 13 #[.val (.ref a)] [(.int (50 : Int32))])) rfl (by rw [hml]; rfl) (argsL := [(.int (50 : Int32))]) (rest := []) (lenOf pd_21 rfl) rfl (by show 2 * 0 + _ ≤ _; exact Nat.le_of_eq rfl) (hb hby d5_13) (fun _ _ => ⟨rfl, eh102, (by decide : 0 + 0 ≤ _), (by decide : 0 + 0 ≤ _)⟩)
  dsimp only [Pt.U, Pt.locs, Pt.cells, Pt.slots] at X103 l103 y103 z103 st103 hQ103
  subst l103 y103 z103
  obtain ⟨rfl, N103, eh103⟩ := hQ103
  have Nf103 := Fr.app Nf102 N103
  refine own_go (S' := (T103.setTop (mkF m 16 #[.val (.ref a)] [(.ref x2)]))) (fun tq kq => st103 tq kq) ?_
  obtain ⟨_, _, ⟨T104, L104, k104, n104⟩, -, X104, ⟨Lc104, hQ104, l104, y104, z104⟩, st104⟩ := Jvm.LawKit.callS X103 hx (y := (⟨"java/util/Optional", "ofNullable", "(Ljava/lang/Object;)Ljava/util/Optional;"⟩ : MethodName)) hown (mvT hZ (hw _ (List.mem_of_getElem? (i := 114) rfl))) (mvT hZ (hw _ (List.mem_of_getElem? (i := 115) rfl))) (mvT hZ (hw _ (List.mem_of_getElem? (i := 45) rfl))) (mvT hZ (hw _ (List.mem_of_getElem? (i := 116) rfl))) (by decide) (backOf (W := 0) (onr l Z a0 hw [] h0 n0 O0 x2) hZ (hw _ (List.mem_of_getElem? (i := 116) rfl)) (hw _ (List.mem_of_getElem? (i := 45) rfl)) (by decide) (by decide)) (g := (mkF m 16 #[.val (.ref a)] [(.ref x2)])) rfl (by rw [hml]; rfl) (argsL := [(.ref x2)]) (rest := []) (lenOf pd_22 rfl) rfl (by show 2 * 0 + _ ≤ _; exact Nat.le_of_eq rfl) (hb hby d5_16) (fun _ _ => ⟨rfl, eh103, (by decide : 0 + 1 ≤ _), (by decide : 0 + 1 ≤ _)⟩)
  dsimp only [Pt.U, Pt.locs, Pt.cells, Pt.slots] at X104 l104 y104 z104 st104 hQ104
  subst l104 y104 z104
  obtain ⟨b104, rfl, N104, K104, gb104, Eb104, Fb104⟩ := hQ104
  have Nf104 := Fr.app Nf103 N104
  have O104 := O0.keep K104 all0
  have KK104 := K0.trans K104 all0
  have ne_a_b104 : a ≠ b104 := Nat.ne_of_lt (Nat.lt_of_lt_of_le Ea.lt gb104)
  have ne_d_b104 : d ≠ b104 := Nat.ne_of_lt (Nat.lt_of_lt_of_le Vd.lt gb104)
  have ge_b104 : n0 ≤ b104 := Nat.le_trans (own_osz O0) gb104
  have gk_b104 : h0.size ≤ b104 := Nat.le_trans K0.1 gb104
  refine own_go (S' := (T104.setTop (mkF m 25 #[.val (.ref a)] [(.ref b104)]))) (fun tq kq => st104 tq (XS.goto X104.here hx rfl (pc0 := 19) (pc' := 25) rfl (hb hby d5_19) (by decide) (by decide) kq)) ?_
  refine own_retA X104 hx hlk hret rfl rfl (hb hby d5_25) (by decide) (by decide) ?_
  exact ⟨b104, rfl, Nf104, KK104, gk_b104, Eb104, Fb104⟩
theorem pn_ofc3 : plainName "com/example/davka/davka/AccountingCode" = true := by first | (simp [plainName, overriddenIn]; done) | decide +kernel
theorem ef_ofc3 (m : MethodId) (a : Addr) (d : Addr) (kd : ClassId) (em : Addr) (xs : Addr) (kx : ClassId) (x0 : Addr) (x1 : Addr) (x2 : Addr) (x3 : Addr) (z : Int32) (fm : Value) : entryFrame m #[(.ref a)] 1 = mkF m 0 #[.val (.ref a)] [] := by first | (simp [entryFrame, mkF, argsToLocals, Value.category]; done) | rfl
def Q_ofc3 (Z : State) (h0 : Heap) (n0 : Nat) (a : Addr) (d : Addr) (kd : ClassId) (em : Addr) (xs : Addr) (kx : ClassId) (x0 : Addr) (x1 : Addr) (x2 : Addr) (x3 : Addr) (z : Int32) (fm : Value) (v : Option Value) (h : Heap) (L : List Loc) : Prop := ∃ b : Addr, v = some (.ref b) ∧ Fr n0 L ∧ Keep h0 h [] ∧ h0.size ≤ b ∧ Exa Z h b "java/util/Optional" ∧ Fld Z h b "java/util/Optional" "value" "Ljava/lang/Object;" (.ref x3)
set_option maxRecDepth 65536 in
set_option maxHeartbeats 40000000 in
theorem ofc3 (l : Launch) (Z : State) (a0 : Array Value) (hw : ∀ d ∈ tables_1, d.before a0 Z = true) (ws : List Jvm.Cond) (h0 : Heap) (n0 : Nat) (O0 : Old Z n0 h0) (a : Addr) (d : Addr) (kd : ClassId) (em : Addr) (xs : Addr) (kx : ClassId) (x0 : Addr) (x1 : Addr) (x2 : Addr) (x3 : Addr) (z : Int32) (fm : Value) (Ea : Exa Z h0 a "java/lang/String") (Fc : Fld Z h0 a "java/lang/String" "coder" "B" (.int (0 : Int32))) (Fv : Fld Z h0 a "java/lang/String" "value" "[B" (.ref d)) (Vd : own_Ar Z h0 d kd .byte [(.int (own_lb (51 : Int32)))]) (SE : Sta Z Z.heap "java/util/Optional" "EMPTY" "Ljava/util/Optional;" (.ref em)) (EE : Exa Z Z.heap em "java/util/Optional") (FE : Fld Z Z.heap em "java/util/Optional" "value" "Ljava/lang/Object;" .null) (SX : Sta Z Z.heap "com/example/davka/davka/AccountingCode" "CODES" "[Lcom/example/davka/davka/AccountingCode;" (.ref xs)) (VX : own_Ar Z Z.heap xs kx (.object "com/example/davka/davka/AccountingCode") [(.ref x0), (.ref x1), (.ref x2), (.ref x3)]) (S0 : Sta Z Z.heap "com/example/davka/davka/AccountingCode" "DEBIT" "Lcom/example/davka/davka/AccountingCode;" (.ref x0)) (A0 : Exa Z Z.heap x0 "com/example/davka/davka/AccountingCode") (B0 : Fld Z Z.heap x0 "com/example/davka/davka/AccountingCode" "digit" "C" (.int (48 : Int32))) (S1 : Sta Z Z.heap "com/example/davka/davka/AccountingCode" "CREDIT" "Lcom/example/davka/davka/AccountingCode;" (.ref x1)) (A1 : Exa Z Z.heap x1 "com/example/davka/davka/AccountingCode") (B1 : Fld Z Z.heap x1 "com/example/davka/davka/AccountingCode" "digit" "C" (.int (49 : Int32))) (S2 : Sta Z Z.heap "com/example/davka/davka/AccountingCode" "DEBIT_CANCELLATION" "Lcom/example/davka/davka/AccountingCode;" (.ref x2)) (A2 : Exa Z Z.heap x2 "com/example/davka/davka/AccountingCode") (B2 : Fld Z Z.heap x2 "com/example/davka/davka/AccountingCode" "digit" "C" (.int (50 : Int32))) (S3 : Sta Z Z.heap "com/example/davka/davka/AccountingCode" "CREDIT_CANCELLATION" "Lcom/example/davka/davka/AccountingCode;" (.ref x3)) (A3 : Exa Z Z.heap x3 "com/example/davka/davka/AccountingCode") (B3 : Fld Z Z.heap x3 "com/example/davka/davka/AccountingCode" "digit" "C" (.int (51 : Int32))) (SC : Sta Z Z.heap "java/lang/String" "COMPACT_STRINGS" "Z" (.int z)) (hz : ¬ (z = (0 : Int32))) (SA : Sta Z Z.heap "java/lang/StringUTF16" "$assertionsDisabled" "Z" (.int (1 : Int32))) (SH : Sta Z Z.heap "java/lang/StringUTF16" "HI_BYTE_SHIFT" "I" (.int (0 : Int32))) (SL : Sta Z Z.heap "java/lang/StringUTF16" "LO_BYTE_SHIFT" "I" (.int (8 : Int32))) (SF : Sta Z Z.heap "jdk/internal/util/Preconditions" "SIOOBE_FORMATTER" "Ljava/util/function/BiFunction;" fm) (hfm : fm.isRef = true) :
    MetFree l (⟨"com/example/davka/davka/AccountingCode", "of", "(Ljava/lang/String;)Ljava/util/Optional;"⟩ : MethodName) (head1 (Jvm.Cond.code (⟨"com/example/davka/davka/AccountingCode", "of", "(Ljava/lang/String;)Ljava/util/Optional;"⟩ : MethodName) prog_3_method_4_code 1 (some (.object "java/util/Optional")) :: ws) ({ frames := 4, cells := 1, slots := 1, locals := 53 } : Room)) (fun aq U => aq = #[(.ref a)] ∧ Z.Warmed39 U.vm ∧ U.heap = h0) (fun _ _ _ _ _ => True) (fun _ U oo U' => ∃ v L, oo = .returned v ∧ Q_ofc3 Z h0 n0 a d kd em xs kx x0 x1 x2 x3 z fm v U'.heap L ∧ FrameEnd U oo U' L ({ frames := 4, cells := 1, slots := 1, locals := 53 } : Room).cells ({ frames := 4, cells := 1, slots := 1, locals := 53 } : Room).slots) := by
  refine MetFree.of_bodySF (plainFor_of_name pn_ofc3) hisR ?_
  intro p e s m args below meth c s₁ Bd hml0 hP hK
  obtain ⟨rfl, hZ, hh⟩ := hP
  have hx := Bd.exec
  have hby := Bd.bytes
  have hml : c.maxLocals = 1 := hml0
  have hown : s.vm.findClass "com/example/davka/davka/AccountingCode" = some m.cls := findClass_of_methodNamed Bd.named
  have hnm := (name_of_methodNamed Bd.named Bd.method).1
  have hlk := Bd.notSynchronized
  have hret := Bd.returns
  have X0 : Stand p l e ({ frames := 4, cells := 1, slots := 1, locals := 53 } : Room) s m #[(.ref a)] below meth c s₁ [] 0 0 := Stand.of_body Bd
  have e0 : s₁.heap = h0 := by rw [← hh, Bd.state]; rfl
  have N0 := Fr.nil n0
  have K0 := Keep.refl h0 []
  refine own_go (S' := (s₁.setTop (mkF m 0 #[.val (.ref a)] []))) (fun tq kq => castTop (ef_ofc3 m a d kd em xs kx x0 x1 x2 x3 z fm) kq) ?_
  show own_G p e s below (Q_ofc3 Z h0 n0 a d kd em xs kx x0 x1 x2 x3 z fm) _ _ _
  refine own_go (S' := (s₁.setTop (mkF m 1 #[.val (.ref a)] [(.ref a)]))) (fun tq kq => XS.aloadN X0.here hx rfl (hb hby d5_0) rfl rfl kq) ?_
  obtain ⟨cq101, kq101, q101a, q101b, q101c⟩ := isOf hZ e0 Ea
  obtain ⟨_, _, ⟨T101, L101, k101, n101⟩, -, X101, ⟨Lc101, hQ101, l101, y101, z101⟩, st101⟩ := X0.virtualBack hx (y := (⟨"java/lang/String", "length", "()I"⟩ : MethodName)) (z := (⟨"java/lang/String", "length", "()I"⟩ : MethodName)) hown (mvT hZ (hw _ (List.mem_of_getElem? (i := 32) rfl))) (mvT hZ (hw _ (List.mem_of_getElem? (i := 33) rfl))) (notFace_of_selects (args := #[]) (mvT hZ (hw _ (List.mem_of_getElem? (i := 35) rfl)))) (mvT hZ (hw _ (List.mem_of_getElem? (i := 35) rfl))) (mvT hZ (hw _ (List.mem_of_getElem? (i := 34) rfl))) (by decide) (backOf (W := 0) (len1_0 l Z a0 hw [] h0 n0 O0 a d kd [(.int (own_lb (51 : Int32)))] z fm SC hz SA SH SL SF hfm Ea Fc Fv Vd rfl) hZ (hw _ (List.mem_of_getElem? (i := 36) rfl)) (hw _ (List.mem_of_getElem? (i := 8) rfl)) (by decide) (by decide)) q101a q101c (g := (mkF m 1 #[.val (.ref a)] [(.ref a)])) rfl (by rw [hml]; rfl) (Steps.refl _) (argsL := []) (rest := []) (lenOf pd_18 rfl) rfl (by show 2 * 0 + _ ≤ _; exact Nat.le_of_eq rfl) (hb hby d5_1) (fun _ _ => ⟨rfl, e0, (by decide : 0 + 0 ≤ _), (by decide : 0 + 0 ≤ _)⟩)
  dsimp only [Pt.U, Pt.locs, Pt.cells, Pt.slots] at X101 l101 y101 z101 st101 hQ101
  subst l101 y101 z101
  obtain ⟨rfl, N101, eh101⟩ := hQ101
  have Nf101 := Fr.app N0 N101
  refine own_go (S' := (T101.setTop (mkF m 10 #[.val (.ref a)] [(.int (0 : Int32)), (.ref a)]))) (fun tq kq => st101.trans (XS.iconst X101.here hx rfl (hb hby d5_4) (XS.icmpNo X101.here hx rfl (hb hby d5_5) rfl (teq (by decide : (1 : Int32) = (1 : Int32))).2 (XS.aloadN X101.here hx rfl (hb hby d5_8) rfl rfl (XS.iconst X101.here hx rfl (hb hby d5_9) kq))))) ?_
  obtain ⟨cq102, kq102, q102a, q102b, q102c⟩ := isOf hZ eh101 Ea
  obtain ⟨_, _, ⟨T102, L102, k102, n102⟩, -, X102, ⟨Lc102, hQ102, l102, y102, z102⟩, st102⟩ := X101.virtualBack hx (y := (⟨"java/lang/String", "charAt", "(I)C"⟩ : MethodName)) (z := (⟨"java/lang/String", "charAt", "(I)C"⟩ : MethodName)) hown (mvT hZ (hw _ (List.mem_of_getElem? (i := 82) rfl))) (mvT hZ (hw _ (List.mem_of_getElem? (i := 83) rfl))) (notFace_of_selects (args := #[]) (mvT hZ (hw _ (List.mem_of_getElem? (i := 85) rfl)))) (mvT hZ (hw _ (List.mem_of_getElem? (i := 85) rfl))) (mvT hZ (hw _ (List.mem_of_getElem? (i := 84) rfl))) (by decide) (backOf (W := 0) (chat0_1_0 l Z a0 hw [] h0 n0 O0 a d kd (51 : Int32) z fm SC hz SA SH SL SF hfm Ea Fc Fv Vd (by decide) (by decide) (by decide)) hZ (hw _ (List.mem_of_getElem? (i := 86) rfl)) (hw _ (List.mem_of_getElem? (i := 8) rfl)) (by decide) (by decide)) q102a q102c (g := (mkF m 10 #[.val (.ref a)] [(.int (0 : Int32)), (.ref a)])) rfl (by rw [hml]; rfl) (Steps.refl _) (argsL := [(.int (0 : Int32))]) (rest := []) (lenOf pd_20 rfl) rfl (by show 2 * 0 + _ ≤ _; exact Nat.le_of_eq rfl) (hb hby d5_10) (fun _ _ => ⟨rfl, eh101, (by decide : 0 + 0 ≤ _), (by decide : 0 + 0 ≤ _)⟩)
  dsimp only [Pt.U, Pt.locs, Pt.cells, Pt.slots] at X102 l102 y102 z102 st102 hQ102
  subst l102 y102 z102
  obtain ⟨rfl, N102, eh102⟩ := hQ102
  have Nf102 := Fr.app Nf101 N102
  refine own_go (S' := (T102.setTop (mkF m 13 #[.val (.ref a)] [(.int (51 : Int32))]))) (fun tq kq => st102.trans kq) ?_
  obtain ⟨_, _, ⟨T103, L103, k103, n103⟩, -, X103, ⟨Lc103, hQ103, l103, y103, z103⟩, st103⟩ := Jvm.LawKit.callS X102 hx (y := (⟨"com/example/davka/davka/AccountingCode", "of", "(C)Lcom/example/davka/davka/AccountingCode;"⟩ : MethodName)) hown (mvT hZ (hw _ (List.mem_of_getElem? (i := 103) rfl))) (mvT hZ (hw _ (List.mem_of_getElem? (i := 104) rfl))) (mvT hZ (hw _ (List.mem_of_getElem? (i := 30) rfl))) (mvT hZ (hw _ (List.mem_of_getElem? (i := 105) rfl))) (by decide) (backOf (W := 0) (of3 l Z a0 hw [] h0 n0 O0 xs kx x0 x1 x2 x3 SX VX S0 A0 B0 S1 A1 B1 S2 A2 B2 S3 A3 B3) hZ (hw _ (List.mem_of_getElem? (i := 105) rfl)) (hw _ (List.mem_of_getElem? (i := 30) rfl)) (by decide) (by decide)) (g := (mkF m 13 #[.val (.ref a)] [(.int (51 : Int32))])) rfl (by rw [hml]; rfl) (argsL := [(.int (51 : Int32))]) (rest := []) (lenOf pd_21 rfl) rfl (by show 2 * 0 + _ ≤ _; exact Nat.le_of_eq rfl) (hb hby d5_13) (fun _ _ => ⟨rfl, eh102, (by decide : 0 + 0 ≤ _), (by decide : 0 + 0 ≤ _)⟩)
  dsimp only [Pt.U, Pt.locs, Pt.cells, Pt.slots] at X103 l103 y103 z103 st103 hQ103
  subst l103 y103 z103
  obtain ⟨rfl, N103, eh103⟩ := hQ103
  have Nf103 := Fr.app Nf102 N103
  refine own_go (S' := (T103.setTop (mkF m 16 #[.val (.ref a)] [(.ref x3)]))) (fun tq kq => st103 tq kq) ?_
  obtain ⟨_, _, ⟨T104, L104, k104, n104⟩, -, X104, ⟨Lc104, hQ104, l104, y104, z104⟩, st104⟩ := Jvm.LawKit.callS X103 hx (y := (⟨"java/util/Optional", "ofNullable", "(Ljava/lang/Object;)Ljava/util/Optional;"⟩ : MethodName)) hown (mvT hZ (hw _ (List.mem_of_getElem? (i := 114) rfl))) (mvT hZ (hw _ (List.mem_of_getElem? (i := 115) rfl))) (mvT hZ (hw _ (List.mem_of_getElem? (i := 45) rfl))) (mvT hZ (hw _ (List.mem_of_getElem? (i := 116) rfl))) (by decide) (backOf (W := 0) (onr l Z a0 hw [] h0 n0 O0 x3) hZ (hw _ (List.mem_of_getElem? (i := 116) rfl)) (hw _ (List.mem_of_getElem? (i := 45) rfl)) (by decide) (by decide)) (g := (mkF m 16 #[.val (.ref a)] [(.ref x3)])) rfl (by rw [hml]; rfl) (argsL := [(.ref x3)]) (rest := []) (lenOf pd_22 rfl) rfl (by show 2 * 0 + _ ≤ _; exact Nat.le_of_eq rfl) (hb hby d5_16) (fun _ _ => ⟨rfl, eh103, (by decide : 0 + 1 ≤ _), (by decide : 0 + 1 ≤ _)⟩)
  dsimp only [Pt.U, Pt.locs, Pt.cells, Pt.slots] at X104 l104 y104 z104 st104 hQ104
  subst l104 y104 z104
  obtain ⟨b104, rfl, N104, K104, gb104, Eb104, Fb104⟩ := hQ104
  have Nf104 := Fr.app Nf103 N104
  have O104 := O0.keep K104 all0
  have KK104 := K0.trans K104 all0
  have ne_a_b104 : a ≠ b104 := Nat.ne_of_lt (Nat.lt_of_lt_of_le Ea.lt gb104)
  have ne_d_b104 : d ≠ b104 := Nat.ne_of_lt (Nat.lt_of_lt_of_le Vd.lt gb104)
  have ge_b104 : n0 ≤ b104 := Nat.le_trans (own_osz O0) gb104
  have gk_b104 : h0.size ≤ b104 := Nat.le_trans K0.1 gb104
  refine own_go (S' := (T104.setTop (mkF m 25 #[.val (.ref a)] [(.ref b104)]))) (fun tq kq => st104 tq (XS.goto X104.here hx rfl (pc0 := 19) (pc' := 25) rfl (hb hby d5_19) (by decide) (by decide) kq)) ?_
  refine own_retA X104 hx hlk hret rfl rfl (hb hby d5_25) (by decide) (by decide) ?_
  exact ⟨b104, rfl, Nf104, KK104, gk_b104, Eb104, Fb104⟩
theorem pn_ofg0 : plainName "com/example/davka/davka/AccountingCode" = true := by first | (simp [plainName, overriddenIn]; done) | decide +kernel
theorem ef_ofg0 (m : MethodId) (a : Addr) (d : Addr) (kd : ClassId) (ch : Int32) (em : Addr) (xs : Addr) (kx : ClassId) (x0 : Addr) (x1 : Addr) (x2 : Addr) (x3 : Addr) (z : Int32) (fm : Value) : entryFrame m #[(.ref a)] 1 = mkF m 0 #[.val (.ref a)] [] := by first | (simp [entryFrame, mkF, argsToLocals, Value.category]; done) | rfl
def Q_ofg0 (Z : State) (h0 : Heap) (n0 : Nat) (a : Addr) (d : Addr) (kd : ClassId) (ch : Int32) (em : Addr) (xs : Addr) (kx : ClassId) (x0 : Addr) (x1 : Addr) (x2 : Addr) (x3 : Addr) (z : Int32) (fm : Value) (v : Option Value) (h : Heap) (L : List Loc) : Prop := v = some (.ref em) ∧ Fr n0 L ∧ h = h0
set_option maxRecDepth 65536 in
set_option maxHeartbeats 40000000 in
theorem ofg0 (l : Launch) (Z : State) (a0 : Array Value) (hw : ∀ d ∈ tables_1, d.before a0 Z = true) (ws : List Jvm.Cond) (h0 : Heap) (n0 : Nat) (O0 : Old Z n0 h0) (a : Addr) (d : Addr) (kd : ClassId) (ch : Int32) (em : Addr) (xs : Addr) (kx : ClassId) (x0 : Addr) (x1 : Addr) (x2 : Addr) (x3 : Addr) (z : Int32) (fm : Value) (Ea : Exa Z h0 a "java/lang/String") (Fc : Fld Z h0 a "java/lang/String" "coder" "B" (.int (0 : Int32))) (Fv : Fld Z h0 a "java/lang/String" "value" "[B" (.ref d)) (Vd : own_Ar Z h0 d kd .byte [(.int (own_lb ch))]) (hc0 : 0 ≤ ch.toInt) (hc1 : ch.toInt < 65536) (hcs : ¬ ((255 : Int32) < ch)) (hn0 : ¬ ((48 : Int32) = ch)) (hn1 : ¬ ((49 : Int32) = ch)) (hn2 : ¬ ((50 : Int32) = ch)) (hn3 : ¬ ((51 : Int32) = ch)) (SE : Sta Z Z.heap "java/util/Optional" "EMPTY" "Ljava/util/Optional;" (.ref em)) (EE : Exa Z Z.heap em "java/util/Optional") (FE : Fld Z Z.heap em "java/util/Optional" "value" "Ljava/lang/Object;" .null) (SX : Sta Z Z.heap "com/example/davka/davka/AccountingCode" "CODES" "[Lcom/example/davka/davka/AccountingCode;" (.ref xs)) (VX : own_Ar Z Z.heap xs kx (.object "com/example/davka/davka/AccountingCode") [(.ref x0), (.ref x1), (.ref x2), (.ref x3)]) (S0 : Sta Z Z.heap "com/example/davka/davka/AccountingCode" "DEBIT" "Lcom/example/davka/davka/AccountingCode;" (.ref x0)) (A0 : Exa Z Z.heap x0 "com/example/davka/davka/AccountingCode") (B0 : Fld Z Z.heap x0 "com/example/davka/davka/AccountingCode" "digit" "C" (.int (48 : Int32))) (S1 : Sta Z Z.heap "com/example/davka/davka/AccountingCode" "CREDIT" "Lcom/example/davka/davka/AccountingCode;" (.ref x1)) (A1 : Exa Z Z.heap x1 "com/example/davka/davka/AccountingCode") (B1 : Fld Z Z.heap x1 "com/example/davka/davka/AccountingCode" "digit" "C" (.int (49 : Int32))) (S2 : Sta Z Z.heap "com/example/davka/davka/AccountingCode" "DEBIT_CANCELLATION" "Lcom/example/davka/davka/AccountingCode;" (.ref x2)) (A2 : Exa Z Z.heap x2 "com/example/davka/davka/AccountingCode") (B2 : Fld Z Z.heap x2 "com/example/davka/davka/AccountingCode" "digit" "C" (.int (50 : Int32))) (S3 : Sta Z Z.heap "com/example/davka/davka/AccountingCode" "CREDIT_CANCELLATION" "Lcom/example/davka/davka/AccountingCode;" (.ref x3)) (A3 : Exa Z Z.heap x3 "com/example/davka/davka/AccountingCode") (B3 : Fld Z Z.heap x3 "com/example/davka/davka/AccountingCode" "digit" "C" (.int (51 : Int32))) (SC : Sta Z Z.heap "java/lang/String" "COMPACT_STRINGS" "Z" (.int z)) (hz : ¬ (z = (0 : Int32))) (SA : Sta Z Z.heap "java/lang/StringUTF16" "$assertionsDisabled" "Z" (.int (1 : Int32))) (SH : Sta Z Z.heap "java/lang/StringUTF16" "HI_BYTE_SHIFT" "I" (.int (0 : Int32))) (SL : Sta Z Z.heap "java/lang/StringUTF16" "LO_BYTE_SHIFT" "I" (.int (8 : Int32))) (SF : Sta Z Z.heap "jdk/internal/util/Preconditions" "SIOOBE_FORMATTER" "Ljava/util/function/BiFunction;" fm) (hfm : fm.isRef = true) :
    MetFree l (⟨"com/example/davka/davka/AccountingCode", "of", "(Ljava/lang/String;)Ljava/util/Optional;"⟩ : MethodName) (head1 (Jvm.Cond.code (⟨"com/example/davka/davka/AccountingCode", "of", "(Ljava/lang/String;)Ljava/util/Optional;"⟩ : MethodName) prog_3_method_4_code 1 (some (.object "java/util/Optional")) :: ws) ({ frames := 4, cells := 0, slots := 0, locals := 53 } : Room)) (fun aq U => aq = #[(.ref a)] ∧ Z.Warmed39 U.vm ∧ U.heap = h0) (fun _ _ _ _ _ => True) (fun _ U oo U' => ∃ v L, oo = .returned v ∧ Q_ofg0 Z h0 n0 a d kd ch em xs kx x0 x1 x2 x3 z fm v U'.heap L ∧ FrameEnd U oo U' L ({ frames := 4, cells := 0, slots := 0, locals := 53 } : Room).cells ({ frames := 4, cells := 0, slots := 0, locals := 53 } : Room).slots) := by
  refine MetFree.of_bodySF (plainFor_of_name pn_ofg0) hisR ?_
  intro p e s m args below meth c s₁ Bd hml0 hP hK
  obtain ⟨rfl, hZ, hh⟩ := hP
  have hx := Bd.exec
  have hby := Bd.bytes
  have hml : c.maxLocals = 1 := hml0
  have hown : s.vm.findClass "com/example/davka/davka/AccountingCode" = some m.cls := findClass_of_methodNamed Bd.named
  have hnm := (name_of_methodNamed Bd.named Bd.method).1
  have hlk := Bd.notSynchronized
  have hret := Bd.returns
  have X0 : Stand p l e ({ frames := 4, cells := 0, slots := 0, locals := 53 } : Room) s m #[(.ref a)] below meth c s₁ [] 0 0 := Stand.of_body Bd
  have e0 : s₁.heap = h0 := by rw [← hh, Bd.state]; rfl
  have N0 := Fr.nil n0
  have K0 := Keep.refl h0 []
  refine own_go (S' := (s₁.setTop (mkF m 0 #[.val (.ref a)] []))) (fun tq kq => castTop (ef_ofg0 m a d kd ch em xs kx x0 x1 x2 x3 z fm) kq) ?_
  show own_G p e s below (Q_ofg0 Z h0 n0 a d kd ch em xs kx x0 x1 x2 x3 z fm) _ _ _
  refine own_go (S' := (s₁.setTop (mkF m 1 #[.val (.ref a)] [(.ref a)]))) (fun tq kq => XS.aloadN X0.here hx rfl (hb hby d5_0) rfl rfl kq) ?_
  obtain ⟨cq101, kq101, q101a, q101b, q101c⟩ := isOf hZ e0 Ea
  obtain ⟨_, _, ⟨T101, L101, k101, n101⟩, -, X101, ⟨Lc101, hQ101, l101, y101, z101⟩, st101⟩ := X0.virtualBack hx (y := (⟨"java/lang/String", "length", "()I"⟩ : MethodName)) (z := (⟨"java/lang/String", "length", "()I"⟩ : MethodName)) hown (mvT hZ (hw _ (List.mem_of_getElem? (i := 32) rfl))) (mvT hZ (hw _ (List.mem_of_getElem? (i := 33) rfl))) (notFace_of_selects (args := #[]) (mvT hZ (hw _ (List.mem_of_getElem? (i := 35) rfl)))) (mvT hZ (hw _ (List.mem_of_getElem? (i := 35) rfl))) (mvT hZ (hw _ (List.mem_of_getElem? (i := 34) rfl))) (by decide) (backOf (W := 0) (len1_0 l Z a0 hw [] h0 n0 O0 a d kd [(.int (own_lb ch))] z fm SC hz SA SH SL SF hfm Ea Fc Fv Vd rfl) hZ (hw _ (List.mem_of_getElem? (i := 36) rfl)) (hw _ (List.mem_of_getElem? (i := 8) rfl)) (by decide) (by decide)) q101a q101c (g := (mkF m 1 #[.val (.ref a)] [(.ref a)])) rfl (by rw [hml]; rfl) (Steps.refl _) (argsL := []) (rest := []) (lenOf pd_18 rfl) rfl (by show 2 * 0 + _ ≤ _; exact Nat.le_of_eq rfl) (hb hby d5_1) (fun _ _ => ⟨rfl, e0, (by decide : 0 + 0 ≤ _), (by decide : 0 + 0 ≤ _)⟩)
  dsimp only [Pt.U, Pt.locs, Pt.cells, Pt.slots] at X101 l101 y101 z101 st101 hQ101
  subst l101 y101 z101
  obtain ⟨rfl, N101, eh101⟩ := hQ101
  have Nf101 := Fr.app N0 N101
  refine own_go (S' := (T101.setTop (mkF m 10 #[.val (.ref a)] [(.int (0 : Int32)), (.ref a)]))) (fun tq kq => st101.trans (XS.iconst X101.here hx rfl (hb hby d5_4) (XS.icmpNo X101.here hx rfl (hb hby d5_5) rfl (teq (by decide : (1 : Int32) = (1 : Int32))).2 (XS.aloadN X101.here hx rfl (hb hby d5_8) rfl rfl (XS.iconst X101.here hx rfl (hb hby d5_9) kq))))) ?_
  obtain ⟨cq102, kq102, q102a, q102b, q102c⟩ := isOf hZ eh101 Ea
  obtain ⟨_, _, ⟨T102, L102, k102, n102⟩, -, X102, ⟨Lc102, hQ102, l102, y102, z102⟩, st102⟩ := X101.virtualBack hx (y := (⟨"java/lang/String", "charAt", "(I)C"⟩ : MethodName)) (z := (⟨"java/lang/String", "charAt", "(I)C"⟩ : MethodName)) hown (mvT hZ (hw _ (List.mem_of_getElem? (i := 82) rfl))) (mvT hZ (hw _ (List.mem_of_getElem? (i := 83) rfl))) (notFace_of_selects (args := #[]) (mvT hZ (hw _ (List.mem_of_getElem? (i := 85) rfl)))) (mvT hZ (hw _ (List.mem_of_getElem? (i := 85) rfl))) (mvT hZ (hw _ (List.mem_of_getElem? (i := 84) rfl))) (by decide) (backOf (W := 0) (chat0_1_0 l Z a0 hw [] h0 n0 O0 a d kd ch z fm SC hz SA SH SL SF hfm Ea Fc Fv Vd hc0 hc1 hcs) hZ (hw _ (List.mem_of_getElem? (i := 86) rfl)) (hw _ (List.mem_of_getElem? (i := 8) rfl)) (by decide) (by decide)) q102a q102c (g := (mkF m 10 #[.val (.ref a)] [(.int (0 : Int32)), (.ref a)])) rfl (by rw [hml]; rfl) (Steps.refl _) (argsL := [(.int (0 : Int32))]) (rest := []) (lenOf pd_20 rfl) rfl (by show 2 * 0 + _ ≤ _; exact Nat.le_of_eq rfl) (hb hby d5_10) (fun _ _ => ⟨rfl, eh101, (by decide : 0 + 0 ≤ _), (by decide : 0 + 0 ≤ _)⟩)
  dsimp only [Pt.U, Pt.locs, Pt.cells, Pt.slots] at X102 l102 y102 z102 st102 hQ102
  subst l102 y102 z102
  obtain ⟨rfl, N102, eh102⟩ := hQ102
  have Nf102 := Fr.app Nf101 N102
  refine own_go (S' := (T102.setTop (mkF m 13 #[.val (.ref a)] [(.int ch)]))) (fun tq kq => st102.trans kq) ?_
  obtain ⟨_, _, ⟨T103, L103, k103, n103⟩, -, X103, ⟨Lc103, hQ103, l103, y103, z103⟩, st103⟩ := Jvm.LawKit.callS X102 hx (y := (⟨"com/example/davka/davka/AccountingCode", "of", "(C)Lcom/example/davka/davka/AccountingCode;"⟩ : MethodName)) hown (mvT hZ (hw _ (List.mem_of_getElem? (i := 103) rfl))) (mvT hZ (hw _ (List.mem_of_getElem? (i := 104) rfl))) (mvT hZ (hw _ (List.mem_of_getElem? (i := 30) rfl))) (mvT hZ (hw _ (List.mem_of_getElem? (i := 105) rfl))) (by decide) (backOf (W := 0) (ofn l Z a0 hw [] h0 n0 O0 xs kx x0 x1 x2 x3 ch SX VX S0 A0 B0 S1 A1 B1 S2 A2 B2 S3 A3 B3 hn0 hn1 hn2 hn3) hZ (hw _ (List.mem_of_getElem? (i := 105) rfl)) (hw _ (List.mem_of_getElem? (i := 30) rfl)) (by decide) (by decide)) (g := (mkF m 13 #[.val (.ref a)] [(.int ch)])) rfl (by rw [hml]; rfl) (argsL := [(.int ch)]) (rest := []) (lenOf pd_21 rfl) rfl (by show 2 * 0 + _ ≤ _; exact Nat.le_of_eq rfl) (hb hby d5_13) (fun _ _ => ⟨rfl, eh102, (by decide : 0 + 0 ≤ _), (by decide : 0 + 0 ≤ _)⟩)
  dsimp only [Pt.U, Pt.locs, Pt.cells, Pt.slots] at X103 l103 y103 z103 st103 hQ103
  subst l103 y103 z103
  obtain ⟨rfl, N103, eh103⟩ := hQ103
  have Nf103 := Fr.app Nf102 N103
  refine own_go (S' := (T103.setTop (mkF m 16 #[.val (.ref a)] [.null]))) (fun tq kq => st103 tq kq) ?_
  obtain ⟨_, _, ⟨T104, L104, k104, n104⟩, -, X104, ⟨Lc104, hQ104, l104, y104, z104⟩, st104⟩ := Jvm.LawKit.callS X103 hx (y := (⟨"java/util/Optional", "ofNullable", "(Ljava/lang/Object;)Ljava/util/Optional;"⟩ : MethodName)) hown (mvT hZ (hw _ (List.mem_of_getElem? (i := 114) rfl))) (mvT hZ (hw _ (List.mem_of_getElem? (i := 115) rfl))) (mvT hZ (hw _ (List.mem_of_getElem? (i := 45) rfl))) (mvT hZ (hw _ (List.mem_of_getElem? (i := 116) rfl))) (by decide) (backOf (W := 0) (onn l Z a0 hw [] h0 n0 O0 em SE EE FE) hZ (hw _ (List.mem_of_getElem? (i := 116) rfl)) (hw _ (List.mem_of_getElem? (i := 45) rfl)) (by decide) (by decide)) (g := (mkF m 16 #[.val (.ref a)] [.null])) rfl (by rw [hml]; rfl) (argsL := [.null]) (rest := []) (lenOf pd_22 rfl) rfl (by show 2 * 0 + _ ≤ _; exact Nat.le_of_eq rfl) (hb hby d5_16) (fun _ _ => ⟨rfl, eh103, (by decide : 0 + 0 ≤ _), (by decide : 0 + 0 ≤ _)⟩)
  dsimp only [Pt.U, Pt.locs, Pt.cells, Pt.slots] at X104 l104 y104 z104 st104 hQ104
  subst l104 y104 z104
  obtain ⟨rfl, N104, eh104⟩ := hQ104
  have Nf104 := Fr.app Nf103 N104
  refine own_go (S' := (T104.setTop (mkF m 25 #[.val (.ref a)] [(.ref em)]))) (fun tq kq => st104 tq (XS.goto X104.here hx rfl (pc0 := 19) (pc' := 25) rfl (hb hby d5_19) (by decide) (by decide) kq)) ?_
  refine own_retA X104 hx hlk hret rfl rfl (hb hby d5_25) (by decide) (by decide) ?_
  exact ⟨rfl, Nf104, eh104⟩
theorem pn_ofg1 : plainName "com/example/davka/davka/AccountingCode" = true := by first | (simp [plainName, overriddenIn]; done) | decide +kernel
theorem ef_ofg1 (m : MethodId) (a : Addr) (d : Addr) (kd : ClassId) (ch : Int32) (em : Addr) (xs : Addr) (kx : ClassId) (x0 : Addr) (x1 : Addr) (x2 : Addr) (x3 : Addr) (z : Int32) (fm : Value) : entryFrame m #[(.ref a)] 1 = mkF m 0 #[.val (.ref a)] [] := by first | (simp [entryFrame, mkF, argsToLocals, Value.category]; done) | rfl
def Q_ofg1 (Z : State) (h0 : Heap) (n0 : Nat) (a : Addr) (d : Addr) (kd : ClassId) (ch : Int32) (em : Addr) (xs : Addr) (kx : ClassId) (x0 : Addr) (x1 : Addr) (x2 : Addr) (x3 : Addr) (z : Int32) (fm : Value) (v : Option Value) (h : Heap) (L : List Loc) : Prop := v = some (.ref em) ∧ Fr n0 L ∧ h = h0
set_option maxRecDepth 65536 in
set_option maxHeartbeats 40000000 in
theorem ofg1 (l : Launch) (Z : State) (a0 : Array Value) (hw : ∀ d ∈ tables_1, d.before a0 Z = true) (ws : List Jvm.Cond) (h0 : Heap) (n0 : Nat) (O0 : Old Z n0 h0) (a : Addr) (d : Addr) (kd : ClassId) (ch : Int32) (em : Addr) (xs : Addr) (kx : ClassId) (x0 : Addr) (x1 : Addr) (x2 : Addr) (x3 : Addr) (z : Int32) (fm : Value) (Ea : Exa Z h0 a "java/lang/String") (Fc : Fld Z h0 a "java/lang/String" "coder" "B" (.int (1 : Int32))) (Fv : Fld Z h0 a "java/lang/String" "value" "[B" (.ref d)) (Vd : own_Ar Z h0 d kd .byte [(.int (own_b0 ch)), (.int (own_b1 ch))]) (hc0 : 0 ≤ ch.toInt) (hc1 : ch.toInt < 65536) (hn0 : ¬ ((48 : Int32) = ch)) (hn1 : ¬ ((49 : Int32) = ch)) (hn2 : ¬ ((50 : Int32) = ch)) (hn3 : ¬ ((51 : Int32) = ch)) (SE : Sta Z Z.heap "java/util/Optional" "EMPTY" "Ljava/util/Optional;" (.ref em)) (EE : Exa Z Z.heap em "java/util/Optional") (FE : Fld Z Z.heap em "java/util/Optional" "value" "Ljava/lang/Object;" .null) (SX : Sta Z Z.heap "com/example/davka/davka/AccountingCode" "CODES" "[Lcom/example/davka/davka/AccountingCode;" (.ref xs)) (VX : own_Ar Z Z.heap xs kx (.object "com/example/davka/davka/AccountingCode") [(.ref x0), (.ref x1), (.ref x2), (.ref x3)]) (S0 : Sta Z Z.heap "com/example/davka/davka/AccountingCode" "DEBIT" "Lcom/example/davka/davka/AccountingCode;" (.ref x0)) (A0 : Exa Z Z.heap x0 "com/example/davka/davka/AccountingCode") (B0 : Fld Z Z.heap x0 "com/example/davka/davka/AccountingCode" "digit" "C" (.int (48 : Int32))) (S1 : Sta Z Z.heap "com/example/davka/davka/AccountingCode" "CREDIT" "Lcom/example/davka/davka/AccountingCode;" (.ref x1)) (A1 : Exa Z Z.heap x1 "com/example/davka/davka/AccountingCode") (B1 : Fld Z Z.heap x1 "com/example/davka/davka/AccountingCode" "digit" "C" (.int (49 : Int32))) (S2 : Sta Z Z.heap "com/example/davka/davka/AccountingCode" "DEBIT_CANCELLATION" "Lcom/example/davka/davka/AccountingCode;" (.ref x2)) (A2 : Exa Z Z.heap x2 "com/example/davka/davka/AccountingCode") (B2 : Fld Z Z.heap x2 "com/example/davka/davka/AccountingCode" "digit" "C" (.int (50 : Int32))) (S3 : Sta Z Z.heap "com/example/davka/davka/AccountingCode" "CREDIT_CANCELLATION" "Lcom/example/davka/davka/AccountingCode;" (.ref x3)) (A3 : Exa Z Z.heap x3 "com/example/davka/davka/AccountingCode") (B3 : Fld Z Z.heap x3 "com/example/davka/davka/AccountingCode" "digit" "C" (.int (51 : Int32))) (SC : Sta Z Z.heap "java/lang/String" "COMPACT_STRINGS" "Z" (.int z)) (hz : ¬ (z = (0 : Int32))) (SA : Sta Z Z.heap "java/lang/StringUTF16" "$assertionsDisabled" "Z" (.int (1 : Int32))) (SH : Sta Z Z.heap "java/lang/StringUTF16" "HI_BYTE_SHIFT" "I" (.int (0 : Int32))) (SL : Sta Z Z.heap "java/lang/StringUTF16" "LO_BYTE_SHIFT" "I" (.int (8 : Int32))) (SF : Sta Z Z.heap "jdk/internal/util/Preconditions" "SIOOBE_FORMATTER" "Ljava/util/function/BiFunction;" fm) (hfm : fm.isRef = true) :
    MetFree l (⟨"com/example/davka/davka/AccountingCode", "of", "(Ljava/lang/String;)Ljava/util/Optional;"⟩ : MethodName) (head1 (Jvm.Cond.code (⟨"com/example/davka/davka/AccountingCode", "of", "(Ljava/lang/String;)Ljava/util/Optional;"⟩ : MethodName) prog_3_method_4_code 1 (some (.object "java/util/Optional")) :: ws) ({ frames := 5, cells := 0, slots := 0, locals := 66 } : Room)) (fun aq U => aq = #[(.ref a)] ∧ Z.Warmed39 U.vm ∧ U.heap = h0) (fun _ _ _ _ _ => True) (fun _ U oo U' => ∃ v L, oo = .returned v ∧ Q_ofg1 Z h0 n0 a d kd ch em xs kx x0 x1 x2 x3 z fm v U'.heap L ∧ FrameEnd U oo U' L ({ frames := 5, cells := 0, slots := 0, locals := 66 } : Room).cells ({ frames := 5, cells := 0, slots := 0, locals := 66 } : Room).slots) := by
  refine MetFree.of_bodySF (plainFor_of_name pn_ofg1) hisR ?_
  intro p e s m args below meth c s₁ Bd hml0 hP hK
  obtain ⟨rfl, hZ, hh⟩ := hP
  have hx := Bd.exec
  have hby := Bd.bytes
  have hml : c.maxLocals = 1 := hml0
  have hown : s.vm.findClass "com/example/davka/davka/AccountingCode" = some m.cls := findClass_of_methodNamed Bd.named
  have hnm := (name_of_methodNamed Bd.named Bd.method).1
  have hlk := Bd.notSynchronized
  have hret := Bd.returns
  have X0 : Stand p l e ({ frames := 5, cells := 0, slots := 0, locals := 66 } : Room) s m #[(.ref a)] below meth c s₁ [] 0 0 := Stand.of_body Bd
  have e0 : s₁.heap = h0 := by rw [← hh, Bd.state]; rfl
  have N0 := Fr.nil n0
  have K0 := Keep.refl h0 []
  refine own_go (S' := (s₁.setTop (mkF m 0 #[.val (.ref a)] []))) (fun tq kq => castTop (ef_ofg1 m a d kd ch em xs kx x0 x1 x2 x3 z fm) kq) ?_
  show own_G p e s below (Q_ofg1 Z h0 n0 a d kd ch em xs kx x0 x1 x2 x3 z fm) _ _ _
  refine own_go (S' := (s₁.setTop (mkF m 1 #[.val (.ref a)] [(.ref a)]))) (fun tq kq => XS.aloadN X0.here hx rfl (hb hby d5_0) rfl rfl kq) ?_
  obtain ⟨cq101, kq101, q101a, q101b, q101c⟩ := isOf hZ e0 Ea
  obtain ⟨_, _, ⟨T101, L101, k101, n101⟩, -, X101, ⟨Lc101, hQ101, l101, y101, z101⟩, st101⟩ := X0.virtualBack hx (y := (⟨"java/lang/String", "length", "()I"⟩ : MethodName)) (z := (⟨"java/lang/String", "length", "()I"⟩ : MethodName)) hown (mvT hZ (hw _ (List.mem_of_getElem? (i := 32) rfl))) (mvT hZ (hw _ (List.mem_of_getElem? (i := 33) rfl))) (notFace_of_selects (args := #[]) (mvT hZ (hw _ (List.mem_of_getElem? (i := 35) rfl)))) (mvT hZ (hw _ (List.mem_of_getElem? (i := 35) rfl))) (mvT hZ (hw _ (List.mem_of_getElem? (i := 34) rfl))) (by decide) (backOf (W := 0) (len2_1 l Z a0 hw [] h0 n0 O0 a d kd [(.int (own_b0 ch)), (.int (own_b1 ch))] z fm SC hz SA SH SL SF hfm Ea Fc Fv Vd rfl) hZ (hw _ (List.mem_of_getElem? (i := 36) rfl)) (hw _ (List.mem_of_getElem? (i := 8) rfl)) (by decide) (by decide)) q101a q101c (g := (mkF m 1 #[.val (.ref a)] [(.ref a)])) rfl (by rw [hml]; rfl) (Steps.refl _) (argsL := []) (rest := []) (lenOf pd_18 rfl) rfl (by show 2 * 0 + _ ≤ _; exact Nat.le_of_eq rfl) (hb hby d5_1) (fun _ _ => ⟨rfl, e0, (by decide : 0 + 0 ≤ _), (by decide : 0 + 0 ≤ _)⟩)
  dsimp only [Pt.U, Pt.locs, Pt.cells, Pt.slots] at X101 l101 y101 z101 st101 hQ101
  subst l101 y101 z101
  obtain ⟨rfl, N101, eh101⟩ := hQ101
  have Nf101 := Fr.app N0 N101
  refine own_go (S' := (T101.setTop (mkF m 10 #[.val (.ref a)] [(.int (0 : Int32)), (.ref a)]))) (fun tq kq => st101.trans (XS.iconst X101.here hx rfl (hb hby d5_4) (XS.icmpNo X101.here hx rfl (hb hby d5_5) rfl (teq (by decide : (1 : Int32) = (1 : Int32))).2 (XS.aloadN X101.here hx rfl (hb hby d5_8) rfl rfl (XS.iconst X101.here hx rfl (hb hby d5_9) kq))))) ?_
  obtain ⟨cq102, kq102, q102a, q102b, q102c⟩ := isOf hZ eh101 Ea
  obtain ⟨_, _, ⟨T102, L102, k102, n102⟩, -, X102, ⟨Lc102, hQ102, l102, y102, z102⟩, st102⟩ := X101.virtualBack hx (y := (⟨"java/lang/String", "charAt", "(I)C"⟩ : MethodName)) (z := (⟨"java/lang/String", "charAt", "(I)C"⟩ : MethodName)) hown (mvT hZ (hw _ (List.mem_of_getElem? (i := 82) rfl))) (mvT hZ (hw _ (List.mem_of_getElem? (i := 83) rfl))) (notFace_of_selects (args := #[]) (mvT hZ (hw _ (List.mem_of_getElem? (i := 85) rfl)))) (mvT hZ (hw _ (List.mem_of_getElem? (i := 85) rfl))) (mvT hZ (hw _ (List.mem_of_getElem? (i := 84) rfl))) (by decide) (backOf (W := 0) (chat0_1_1 l Z a0 hw [] h0 n0 O0 a d kd ch z fm SC hz SA SH SL SF hfm Ea Fc Fv Vd hc0 hc1) hZ (hw _ (List.mem_of_getElem? (i := 86) rfl)) (hw _ (List.mem_of_getElem? (i := 8) rfl)) (by decide) (by decide)) q102a q102c (g := (mkF m 10 #[.val (.ref a)] [(.int (0 : Int32)), (.ref a)])) rfl (by rw [hml]; rfl) (Steps.refl _) (argsL := [(.int (0 : Int32))]) (rest := []) (lenOf pd_20 rfl) rfl (by show 2 * 0 + _ ≤ _; exact Nat.le_of_eq rfl) (hb hby d5_10) (fun _ _ => ⟨rfl, eh101, (by decide : 0 + 0 ≤ _), (by decide : 0 + 0 ≤ _)⟩)
  dsimp only [Pt.U, Pt.locs, Pt.cells, Pt.slots] at X102 l102 y102 z102 st102 hQ102
  subst l102 y102 z102
  obtain ⟨rfl, N102, eh102⟩ := hQ102
  have Nf102 := Fr.app Nf101 N102
  refine own_go (S' := (T102.setTop (mkF m 13 #[.val (.ref a)] [(.int ch)]))) (fun tq kq => st102.trans kq) ?_
  obtain ⟨_, _, ⟨T103, L103, k103, n103⟩, -, X103, ⟨Lc103, hQ103, l103, y103, z103⟩, st103⟩ := Jvm.LawKit.callS X102 hx (y := (⟨"com/example/davka/davka/AccountingCode", "of", "(C)Lcom/example/davka/davka/AccountingCode;"⟩ : MethodName)) hown (mvT hZ (hw _ (List.mem_of_getElem? (i := 103) rfl))) (mvT hZ (hw _ (List.mem_of_getElem? (i := 104) rfl))) (mvT hZ (hw _ (List.mem_of_getElem? (i := 30) rfl))) (mvT hZ (hw _ (List.mem_of_getElem? (i := 105) rfl))) (by decide) (backOf (W := 0) (ofn l Z a0 hw [] h0 n0 O0 xs kx x0 x1 x2 x3 ch SX VX S0 A0 B0 S1 A1 B1 S2 A2 B2 S3 A3 B3 hn0 hn1 hn2 hn3) hZ (hw _ (List.mem_of_getElem? (i := 105) rfl)) (hw _ (List.mem_of_getElem? (i := 30) rfl)) (by decide) (by decide)) (g := (mkF m 13 #[.val (.ref a)] [(.int ch)])) rfl (by rw [hml]; rfl) (argsL := [(.int ch)]) (rest := []) (lenOf pd_21 rfl) rfl (by show 2 * 0 + _ ≤ _; exact Nat.le_of_eq rfl) (hb hby d5_13) (fun _ _ => ⟨rfl, eh102, (by decide : 0 + 0 ≤ _), (by decide : 0 + 0 ≤ _)⟩)
  dsimp only [Pt.U, Pt.locs, Pt.cells, Pt.slots] at X103 l103 y103 z103 st103 hQ103
  subst l103 y103 z103
  obtain ⟨rfl, N103, eh103⟩ := hQ103
  have Nf103 := Fr.app Nf102 N103
  refine own_go (S' := (T103.setTop (mkF m 16 #[.val (.ref a)] [.null]))) (fun tq kq => st103 tq kq) ?_
  obtain ⟨_, _, ⟨T104, L104, k104, n104⟩, -, X104, ⟨Lc104, hQ104, l104, y104, z104⟩, st104⟩ := Jvm.LawKit.callS X103 hx (y := (⟨"java/util/Optional", "ofNullable", "(Ljava/lang/Object;)Ljava/util/Optional;"⟩ : MethodName)) hown (mvT hZ (hw _ (List.mem_of_getElem? (i := 114) rfl))) (mvT hZ (hw _ (List.mem_of_getElem? (i := 115) rfl))) (mvT hZ (hw _ (List.mem_of_getElem? (i := 45) rfl))) (mvT hZ (hw _ (List.mem_of_getElem? (i := 116) rfl))) (by decide) (backOf (W := 0) (onn l Z a0 hw [] h0 n0 O0 em SE EE FE) hZ (hw _ (List.mem_of_getElem? (i := 116) rfl)) (hw _ (List.mem_of_getElem? (i := 45) rfl)) (by decide) (by decide)) (g := (mkF m 16 #[.val (.ref a)] [.null])) rfl (by rw [hml]; rfl) (argsL := [.null]) (rest := []) (lenOf pd_22 rfl) rfl (by show 2 * 0 + _ ≤ _; exact Nat.le_of_eq rfl) (hb hby d5_16) (fun _ _ => ⟨rfl, eh103, (by decide : 0 + 0 ≤ _), (by decide : 0 + 0 ≤ _)⟩)
  dsimp only [Pt.U, Pt.locs, Pt.cells, Pt.slots] at X104 l104 y104 z104 st104 hQ104
  subst l104 y104 z104
  obtain ⟨rfl, N104, eh104⟩ := hQ104
  have Nf104 := Fr.app Nf103 N104
  refine own_go (S' := (T104.setTop (mkF m 25 #[.val (.ref a)] [(.ref em)]))) (fun tq kq => st104 tq (XS.goto X104.here hx rfl (pc0 := 19) (pc' := 25) rfl (hb hby d5_19) (by decide) (by decide) kq)) ?_
  refine own_retA X104 hx hlk hret rfl rfl (hb hby d5_25) (by decide) (by decide) ?_
  exact ⟨rfl, Nf104, eh104⟩
theorem pn_icv0 : plainName "java/lang/String" = true := by first | (simp [plainName, overriddenIn]; done) | decide +kernel
theorem ef_icv0 (m : MethodId) (a : Addr) (cs : Addr) (kcs : ClassId) (z : Int32) (fm : Value) : entryFrame m #[(.ref a), (.ref cs), (.int (0 : Int32)), (.int (0 : Int32)), .null] 6 = mkF m 0 #[.val (.ref a), .val (.ref cs), .val (.int (0 : Int32)), .val (.int (0 : Int32)), .val .null, .unset] [] := by first | (simp [entryFrame, mkF, argsToLocals, Value.category]; done) | rfl
def Q_icv0 (Z : State) (h0 : Heap) (n0 : Nat) (a : Addr) (cs : Addr) (kcs : ClassId) (z : Int32) (fm : Value) (v : Option Value) (h : Heap) (L : List Loc) : Prop := v = none ∧ Fr n0 L ∧ Keep h0 h [a] ∧ ∃ (d : Addr) (kd : ClassId), Fld Z h a "java/lang/String" "value" "[B" (.ref d) ∧ own_Ar Z h d kd .byte [] ∧ Fld Z h a "java/lang/String" "coder" "B" (.int (0 : Int32))
set_option maxRecDepth 65536 in
set_option maxHeartbeats 40000000 in
theorem icv0 (l : Launch) (Z : State) (a0 : Array Value) (hw : ∀ d ∈ tables_1, d.before a0 Z = true) (ws : List Jvm.Cond) (h0 : Heap) (n0 : Nat) (O0 : Old Z n0 h0) (a : Addr) (cs : Addr) (kcs : ClassId) (z : Int32) (fm : Value) (hcst : Jvm.Lit.constHeld Z "java/lang/String" 7) (hcw : Jvm.Lit.compactW.before a0 Z = true) (Ea : Exa Z h0 a "java/lang/String") (Fv : Fld Z h0 a "java/lang/String" "value" "[B" .null) (Fc : Fld Z h0 a "java/lang/String" "coder" "B" (.int (0 : Int32))) (ga : n0 ≤ a) (Vcs : own_Ar Z h0 cs kcs .char []) (SC : Sta Z Z.heap "java/lang/String" "COMPACT_STRINGS" "Z" (.int z)) (hz : ¬ (z = (0 : Int32))) (SA : Sta Z Z.heap "java/lang/StringUTF16" "$assertionsDisabled" "Z" (.int (1 : Int32))) (SH : Sta Z Z.heap "java/lang/StringUTF16" "HI_BYTE_SHIFT" "I" (.int (0 : Int32))) (SL : Sta Z Z.heap "java/lang/StringUTF16" "LO_BYTE_SHIFT" "I" (.int (8 : Int32))) (SF : Sta Z Z.heap "jdk/internal/util/Preconditions" "SIOOBE_FORMATTER" "Ljava/util/function/BiFunction;" fm) (hfm : fm.isRef = true) :
    MetFree l (⟨"java/lang/String", "<init>", "([CIILjava/lang/Void;)V"⟩ : MethodName) (head1 (Jvm.Cond.code (⟨"java/lang/String", "<init>", "([CIILjava/lang/Void;)V"⟩ : MethodName) jdk_42_method_149_code 6 none :: ws) ({ frames := 1, cells := 2, slots := 4, locals := 12 } : Room)) (fun aq U => aq = #[(.ref a), (.ref cs), (.int (0 : Int32)), (.int (0 : Int32)), .null] ∧ Z.Warmed39 U.vm ∧ U.heap = h0 ∧ IB Z U.vm []) (fun _ _ _ _ _ => True) (fun _ U oo U' => ∃ v L, oo = .returned v ∧ Q_icv0 Z h0 n0 a cs kcs z fm v U'.heap L ∧ ReturnedEndW U oo U' L ({ frames := 1, cells := 2, slots := 4, locals := 12 } : Room).cells ({ frames := 1, cells := 2, slots := 4, locals := 12 } : Room).slots) := by
  refine MetFree.of_bodySF (plainFor_of_name pn_icv0) hisR ?_
  intro p e s m args below meth c s₁ Bd hml0 hP hK
  obtain ⟨rfl, hZ, hh, hI⟩ := hP
  have hx := Bd.exec
  have hby := Bd.bytes
  have hml : c.maxLocals = 6 := hml0
  have hown : s.vm.findClass "java/lang/String" = some m.cls := findClass_of_methodNamed Bd.named
  have hnm := (name_of_methodNamed Bd.named Bd.method).1
  have hlk := Bd.notSynchronized
  have hret := Bd.returns
  have X0 : Stand p l e ({ frames := 1, cells := 2, slots := 4, locals := 12 } : Room) s m #[(.ref a), (.ref cs), (.int (0 : Int32)), (.int (0 : Int32)), .null] below meth c s₁ [] 0 0 := Stand.of_body Bd
  have e0 : s₁.heap = h0 := by rw [← hh, Bd.state]; rfl
  have N0 := Fr.nil n0
  have K0 := Keep.refl h0 [a]
  refine own_goW (S' := (s₁.setTop (mkF m 0 #[.val (.ref a), .val (.ref cs), .val (.int (0 : Int32)), .val (.int (0 : Int32)), .val .null, .unset] []))) (fun tq kq => castTop (ef_icv0 m a cs kcs z fm) kq) ?_
  show own_GW p e s below (Q_icv0 Z h0 n0 a cs kcs z fm) _ _ _
  refine own_goW (S' := (s₁.setTop (mkF m 1 #[.val (.ref a), .val (.ref cs), .val (.int (0 : Int32)), .val (.int (0 : Int32)), .val .null, .unset] [(.ref a)]))) (fun tq kq => XS.aloadN X0.here hx rfl (hb hby d3_0) rfl rfl kq) ?_
  obtain ⟨T101, X101, e101, st101⟩ := initO X0 hx hZ hown (hw _ (List.mem_of_getElem? (i := 17) rfl)) (hw _ (List.mem_of_getElem? (i := 18) rfl)) (hw _ (List.mem_of_getElem? (i := 19) rfl)) e0 (g := (mkF m 1 #[.val (.ref a), .val (.ref cs), .val (.int (0 : Int32)), .val (.int (0 : Int32)), .val .null, .unset] [(.ref a)])) rfl (by rw [hml]; rfl) rfl (hb hby d3_1) (by decide) (W := 0) (by show 2 * 0 + _ ≤ _; exact Nat.le_of_eq rfl) (by decide)
  refine own_goW (S' := (T101.setTop (mkF m 9 #[.val (.ref a), .val (.ref cs), .val (.int (0 : Int32)), .val (.int (0 : Int32)), .val .null, .unset] [(.ref a)]))) (fun tq kq => st101 tq (XS.iloadN X101.here hx rfl (hb hby d3_4) rfl (XS.ifNo X101.here hx rfl (hb hby d3_5) rfl ((if0 _ _).trans (teq (by decide : (0 : Int32) = (0 : Int32))).2) (XS.aloadN X101.here hx rfl (hb hby d3_8) rfl rfl kq)))) ?_
  have wS := (show ∀ a ∈ Bundle.stringAtoms, a.before a0 Z = true from (fun d hd => by
      simp only [Bundle.stringAtoms, List.mem_cons, List.not_mem_nil, or_false] at hd
      rcases hd with rfl | rfl | rfl | rfl | rfl | rfl | rfl
      · exact (hw _ (List.mem_of_getElem? (i := 8) rfl))
      · exact (hw _ (List.mem_of_getElem? (i := 7) rfl))
      · exact (hw _ (List.mem_of_getElem? (i := 21) rfl))
      · exact (hw _ (List.mem_of_getElem? (i := 22) rfl))
      · exact (hw _ (List.mem_of_getElem? (i := 23) rfl))
      · exact (hw _ (List.mem_of_getElem? (i := 24) rfl))
      · exact (hw _ (List.mem_of_getElem? (i := 25) rfl))))
  obtain ⟨la, T102, h102, k1102, lb, kb, X102, e102, E102, hS102, hk102, hZ, hown, A102, Fc102, Fv102, Av102, -, -, -, Lt, st102⟩ := ldcSVL (s := s) (vm0 := s.vm) X101 hx hZ hown (hw _ (List.mem_of_getElem? (i := 20) rfl)) wS e101 (own_since s s.heap.size) (by rw [hh]; exact K0.1) (Fr.nil _) (fun b cl q => by rw [hh]; exact O0.2.2 b cl q) hI (by simp) hcst hcw (vs := []) (z := 0) ⟨by decide, rfl⟩ (by decide) rfl (g := (mkF m 9 #[.val (.ref a), .val (.ref cs), .val (.int (0 : Int32)), .val (.int (0 : Int32)), .val .null, .unset] [(.ref a)])) rfl (hb hby d3_9) (n := 0) (by decide) (by decide) (by decide) (by decide)
  have ne_lb_a : lb ≠ a := Ne.symm (Exa.neArv (Ea.ext E102) Av102 (hw _ (List.mem_of_getElem? (i := 7) rfl)))
  have O102 := O0.ext E102
  have K102 := K0.ext E102
  have Vb102 := own_ofArv0 Av102
  refine own_goW (S' := (T102.setTop (mkF m 11 #[.val (.ref a), .val (.ref cs), .val (.int (0 : Int32)), .val (.int (0 : Int32)), .val .null, .unset] [(.ref la), (.ref a)]))) (fun tq kq => st102 tq kq) ?_
  obtain ⟨T103, X103, e103, st103⟩ := getF X102 hx hZ hown (host := "") (Or.inl (hw _ (List.mem_of_getElem? (i := 26) rfl))) Via.refl e102 Fv102 (g := (mkF m 11 #[.val (.ref a), .val (.ref cs), .val (.int (0 : Int32)), .val (.int (0 : Int32)), .val .null, .unset] [(.ref la), (.ref a)])) rfl rfl (hb hby d3_11)
  refine own_goW (S' := (T103.setTop (mkF m 14 #[.val (.ref a), .val (.ref cs), .val (.int (0 : Int32)), .val (.int (0 : Int32)), .val .null, .unset] [(.ref lb), (.ref a)]))) (fun tq kq => st103 tq kq) ?_
  have f104 := (Fv.ext E102)
  have f105 := (Ea.ext E102)
  obtain ⟨T106, h106, X106, e106, W106, st106⟩ := putF X103 hx hZ hown (host := "") (Or.inl (hw _ (List.mem_of_getElem? (i := 26) rfl))) Via.refl e103 f104 f105 (Or.inr ⟨(hw _ (List.mem_of_getElem? (i := 22) rfl)), rfl, hnm⟩) (hw _ (List.mem_of_getElem? (i := 7) rfl)) (ty := (.array .byte)) (by decide) rfl rfl (g := (mkF m 14 #[.val (.ref a), .val (.ref cs), .val (.int (0 : Int32)), .val (.int (0 : Int32)), .val .null, .unset] [(.ref lb), (.ref a)])) rfl rfl (hb hby d3_14)
  have N106 := Fr.snoc X106 N0 ga
  have O106 := O102.wr W106 ga
  have K106 := K102.wr W106 (Or.inl (List.mem_of_getElem? (i := 0) rfl))
  have F106 := f104.same W106
  refine own_goW (S' := (T106.setTop (mkF m 20 #[.val (.ref a), .val (.ref cs), .val (.int (0 : Int32)), .val (.int (0 : Int32)), .val .null, .unset] [(.ref la), (.ref a)]))) (fun tq kq => st106 tq (XS.aloadN X106.here hx rfl (hb hby d3_17) rfl rfl (ldcAgain X106 hx hZ hown (hw _ (List.mem_of_getElem? (i := 20) rfl)) Lt (g := (mkF m 18 #[.val (.ref a), .val (.ref cs), .val (.int (0 : Int32)), .val (.int (0 : Int32)), .val .null, .unset] [(.ref a)])) rfl (hb hby d3_18) tq kq))) ?_
  have f107 := (Fc102.other W106 (Or.inr (slot_ne (Or.inr (hw _ (List.mem_of_getElem? (i := 23) rfl))) (Or.inr (hw _ (List.mem_of_getElem? (i := 22) rfl))) (by decide) (t := .byte) (t' := (.array .byte)) (by decide) (by decide))))
  obtain ⟨T108, X108, e108, st108⟩ := getF X106 hx hZ hown (host := "") (Or.inl (hw _ (List.mem_of_getElem? (i := 27) rfl))) Via.refl e106 f107 (g := (mkF m 20 #[.val (.ref a), .val (.ref cs), .val (.int (0 : Int32)), .val (.int (0 : Int32)), .val .null, .unset] [(.ref la), (.ref a)])) rfl rfl (hb hby d3_20)
  refine own_goW (S' := (T108.setTop (mkF m 23 #[.val (.ref a), .val (.ref cs), .val (.int (0 : Int32)), .val (.int (0 : Int32)), .val .null, .unset] [(.int (0 : Int32)), (.ref a)]))) (fun tq kq => st108 tq kq) ?_
  have f109 := ((Fc.ext E102).other W106 (Or.inr (slot_ne (Or.inr (hw _ (List.mem_of_getElem? (i := 23) rfl))) (Or.inr (hw _ (List.mem_of_getElem? (i := 22) rfl))) (by decide) (t := .byte) (t' := (.array .byte)) (by decide) (by decide))))
  have f110 := (f105.wr W106)
  obtain ⟨T111, h111, X111, e111, W111, st111⟩ := putFN X108 hx hZ hown (hw _ (List.mem_of_getElem? (i := 27) rfl)) Via.refl e108 f109 f110 (Or.inr ⟨(hw _ (List.mem_of_getElem? (i := 23) rfl)), rfl, hnm⟩) (hw _ (List.mem_of_getElem? (i := 7) rfl)) (ty := .byte) (v' := (.int (0 : Int32))) (by decide) rfl rfl (g := (mkF m 23 #[.val (.ref a), .val (.ref cs), .val (.int (0 : Int32)), .val (.int (0 : Int32)), .val .null, .unset] [(.int (0 : Int32)), (.ref a)])) rfl rfl (hb hby d3_23)
  have N111 := Fr.snoc X111 N106 ga
  have O111 := O106.wr W111 ga
  have K111 := K106.wr W111 (Or.inl (List.mem_of_getElem? (i := 0) rfl))
  have F111 := f109.same W111
  refine own_goW (S' := (T111.setTop (mkF m 26 #[.val (.ref a), .val (.ref cs), .val (.int (0 : Int32)), .val (.int (0 : Int32)), .val .null, .unset] []))) (fun tq kq => st111 tq kq) ?_
  refine own_retVW X111 hS102 (by rw [e111]; exact (Nat.le_trans (Nat.le_trans hk102 (Nat.le_of_eq W106.size.symm)) (Nat.le_of_eq W111.size.symm))) hx hlk hret (hb hby d3_26) (by decide) (by decide) ?_
  have f112 := (F106.other W111 (Or.inr (slot_ne (Or.inr (hw _ (List.mem_of_getElem? (i := 22) rfl))) (Or.inr (hw _ (List.mem_of_getElem? (i := 23) rfl))) (by decide) (t := (.array .byte)) (t' := .byte) (by decide) (by decide))))
  have f113 := ((Vb102.other W106 ne_lb_a).other W111 ne_lb_a)
  rw [e111]
  exact ⟨rfl, N111, K111, lb, _, f112, f113, F111⟩
theorem pn_inc0 : plainName "java/lang/String" = true := by first | (simp [plainName, overriddenIn]; done) | decide +kernel
theorem ef_inc0 (m : MethodId) (a : Addr) (cs : Addr) (kcs : ClassId) (z : Int32) (fm : Value) : entryFrame m #[(.ref a), (.ref cs)] 2 = mkF m 0 #[.val (.ref a), .val (.ref cs)] [] := by first | (simp [entryFrame, mkF, argsToLocals, Value.category]; done) | rfl
def Q_inc0 (Z : State) (h0 : Heap) (n0 : Nat) (a : Addr) (cs : Addr) (kcs : ClassId) (z : Int32) (fm : Value) (v : Option Value) (h : Heap) (L : List Loc) : Prop := v = none ∧ Fr n0 L ∧ Keep h0 h [a] ∧ ∃ (d : Addr) (kd : ClassId), Fld Z h a "java/lang/String" "value" "[B" (.ref d) ∧ own_Ar Z h d kd .byte [] ∧ Fld Z h a "java/lang/String" "coder" "B" (.int (0 : Int32))
set_option maxRecDepth 65536 in
set_option maxHeartbeats 40000000 in
theorem inc0 (l : Launch) (Z : State) (a0 : Array Value) (hw : ∀ d ∈ tables_1, d.before a0 Z = true) (ws : List Jvm.Cond) (h0 : Heap) (n0 : Nat) (O0 : Old Z n0 h0) (a : Addr) (cs : Addr) (kcs : ClassId) (z : Int32) (fm : Value) (hcst : Jvm.Lit.constHeld Z "java/lang/String" 7) (hcw : Jvm.Lit.compactW.before a0 Z = true) (Ea : Exa Z h0 a "java/lang/String") (Fv : Fld Z h0 a "java/lang/String" "value" "[B" .null) (Fc : Fld Z h0 a "java/lang/String" "coder" "B" (.int (0 : Int32))) (ga : n0 ≤ a) (Vcs : own_Ar Z h0 cs kcs .char []) (SC : Sta Z Z.heap "java/lang/String" "COMPACT_STRINGS" "Z" (.int z)) (hz : ¬ (z = (0 : Int32))) (SA : Sta Z Z.heap "java/lang/StringUTF16" "$assertionsDisabled" "Z" (.int (1 : Int32))) (SH : Sta Z Z.heap "java/lang/StringUTF16" "HI_BYTE_SHIFT" "I" (.int (0 : Int32))) (SL : Sta Z Z.heap "java/lang/StringUTF16" "LO_BYTE_SHIFT" "I" (.int (8 : Int32))) (SF : Sta Z Z.heap "jdk/internal/util/Preconditions" "SIOOBE_FORMATTER" "Ljava/util/function/BiFunction;" fm) (hfm : fm.isRef = true) :
    MetFree l (⟨"java/lang/String", "<init>", "([C)V"⟩ : MethodName) (head1 (Jvm.Cond.code (⟨"java/lang/String", "<init>", "([C)V"⟩ : MethodName) jdk_42_method_3_code 2 none :: ws) ({ frames := 2, cells := 2, slots := 4, locals := 29 } : Room)) (fun aq U => aq = #[(.ref a), (.ref cs)] ∧ Z.Warmed39 U.vm ∧ U.heap = h0 ∧ IB Z U.vm []) (fun _ _ _ _ _ => True) (fun _ U oo U' => ∃ v L, oo = .returned v ∧ Q_inc0 Z h0 n0 a cs kcs z fm v U'.heap L ∧ ReturnedEndW U oo U' L ({ frames := 2, cells := 2, slots := 4, locals := 29 } : Room).cells ({ frames := 2, cells := 2, slots := 4, locals := 29 } : Room).slots) := by
  refine MetFree.of_bodySF (plainFor_of_name pn_inc0) hisR ?_
  intro p e s m args below meth c s₁ Bd hml0 hP hK
  obtain ⟨rfl, hZ, hh, hI⟩ := hP
  have hx := Bd.exec
  have hby := Bd.bytes
  have hml : c.maxLocals = 2 := hml0
  have hown : s.vm.findClass "java/lang/String" = some m.cls := findClass_of_methodNamed Bd.named
  have hnm := (name_of_methodNamed Bd.named Bd.method).1
  have hlk := Bd.notSynchronized
  have hret := Bd.returns
  have X0 : Stand p l e ({ frames := 2, cells := 2, slots := 4, locals := 29 } : Room) s m #[(.ref a), (.ref cs)] below meth c s₁ [] 0 0 := Stand.of_body Bd
  have e0 : s₁.heap = h0 := by rw [← hh, Bd.state]; rfl
  have N0 := Fr.nil n0
  have K0 := Keep.refl h0 [a]
  refine own_goW (S' := (s₁.setTop (mkF m 0 #[.val (.ref a), .val (.ref cs)] []))) (fun tq kq => castTop (ef_inc0 m a cs kcs z fm) kq) ?_
  show own_GW p e s below (Q_inc0 Z h0 n0 a cs kcs z fm) _ _ _
  refine own_goW (S' := (s₁.setTop (mkF m 4 #[.val (.ref a), .val (.ref cs)] [(.ref cs), (.int (0 : Int32)), (.ref cs), (.ref a)]))) (fun tq kq => XS.aloadN X0.here hx rfl (hb hby d2_0) rfl rfl (XS.aloadN X0.here hx rfl (hb hby d2_1) rfl rfl (XS.iconst X0.here hx rfl (hb hby d2_2) (XS.aloadN X0.here hx rfl (hb hby d2_3) rfl rfl kq)))) ?_
  obtain ⟨cl101, Ar101, ln101⟩ := Vcs.len
  have lq101 : cl101.slots.size.toInt32 = (0 : Int32) := ln101.trans rfl
  refine own_goW (S' := (s₁.setTop (mkF m 6 #[.val (.ref a), .val (.ref cs)] [.null, (.int (0 : Int32)), (.int (0 : Int32)), (.ref cs), (.ref a)]))) (fun tq kq => X0.arraylength hx (by rw [e0]; exact Ar101.1) (State.isArrayOf_alike hZ.alike Ar101.2.1) (g := (mkF m 4 #[.val (.ref a), .val (.ref cs)] [(.ref cs), (.int (0 : Int32)), (.ref cs), (.ref a)])) rfl rfl (hb hby d2_4) tq (by rw [lq101]; exact (XS.aconstNull X0.here hx rfl (hb hby d2_5) kq))) ?_
  obtain ⟨_, _, ⟨T102, L102, k102, n102⟩, -, X102, hS102, hg102, ⟨Lc102, hQ102, l102, y102, z102⟩, st102⟩ := X0.specialBackS hx (y := (⟨"java/lang/String", "<init>", "([CIILjava/lang/Void;)V"⟩ : MethodName)) rfl hown (mvT hZ (hw _ (List.mem_of_getElem? (i := 13) rfl))) (mvT hZ (hw _ (List.mem_of_getElem? (i := 14) rfl))) (mvT hZ (hw _ (List.mem_of_getElem? (i := 16) rfl))) (by decide) (own_backS (W := 0) (icv0 l Z a0 hw [] h0 n0 O0 a cs kcs z fm hcst hcw Ea Fv Fc ga Vcs SC hz SA SH SL SF hfm) hZ hI (hw _ (List.mem_of_getElem? (i := 16) rfl)) (hw _ (List.mem_of_getElem? (i := 8) rfl)) (by decide) (by decide)) (g := (mkF m 6 #[.val (.ref a), .val (.ref cs)] [.null, (.int (0 : Int32)), (.int (0 : Int32)), (.ref cs), (.ref a)])) rfl (by rw [hml]; rfl) (Steps.refl _) (a := a) (argsL := [(.ref cs), (.int (0 : Int32)), (.int (0 : Int32)), .null]) (rest := []) (lenOf pd_17 rfl) rfl (by show 2 * 0 + _ ≤ _; exact Nat.le_of_eq rfl) (hb hby d2_6) (fun _ _ => ⟨rfl, e0, (by decide : 0 + 2 ≤ _), (by decide : 0 + 4 ≤ _)⟩)
  dsimp only [Pt.U, Pt.locs, Pt.cells, Pt.slots] at hS102 hg102
  have hZ : Z.Warmed39 (s.setVm T102.vm).vm := State.Warmed39.trans (t := s) hZ hS102.1
  have hown : (s.setVm T102.vm).vm.findClass "java/lang/String" = some m.cls := by rw [show (s.setVm T102.vm).vm = T102.vm from rfl, hS102.1.alike.findClass]; exact hown
  dsimp only [Pt.U, Pt.locs, Pt.cells, Pt.slots] at X102 l102 y102 z102 st102 hQ102
  subst l102 y102 z102
  obtain ⟨rfl, N102, K102, R102⟩ := hQ102
  have Nf102 := Fr.app N0 N102
  have O102 := O0.keep K102 (allS ga all0)
  have KK102 := K0.trans K102 (allS (Or.inl (List.mem_of_getElem? (i := 0) rfl)) all0)
  refine own_goW (S' := (T102.setTop (mkF m 9 #[.val (.ref a), .val (.ref cs)] []))) (fun tq kq => st102.trans kq) ?_
  refine own_retVW X102 hS102 (Nat.le_refl _) hx hlk hret (hb hby d2_9) (by decide) (by decide) ?_
  exact ⟨rfl, Nf102, KK102, R102⟩
theorem pn_rm0 : plainName "com/example/davka/davka/AccountingCodeOfPinLaw" = true := by first | (simp [plainName, overriddenIn]; done) | decide +kernel
theorem ef_rm0 (m : MethodId) (p0 : Int32) (p1 : Int32) (p2 : Int32) (p3 : Int32) (em : Addr) (xs : Addr) (kx : ClassId) (x0 : Addr) (x1 : Addr) (x2 : Addr) (x3 : Addr) (z : Int32) (fm : Value) : entryFrame m #[(.int p0), (.int p1), (.int p2), (.int p3)] maxLocals = mkF m 0 #[.val (.int p0), .val (.int p1), .val (.int p2), .val (.int p3), .unset, .unset, .unset, .unset, .unset, .unset, .unset] [] := by first | (simp [entryFrame, mkF, argsToLocals, Value.category, maxLocals]; done) | rfl
def Q_rm0 (Z : State) (h0 : Heap) (n0 : Nat) (p0 : Int32) (p1 : Int32) (p2 : Int32) (p3 : Int32) (em : Addr) (xs : Addr) (kx : ClassId) (x0 : Addr) (x1 : Addr) (x2 : Addr) (x3 : Addr) (z : Int32) (fm : Value) (v : Option Value) (h : Heap) (L : List Loc) : Prop := v = some (.int 1) ∧ Fr n0 L
set_option maxRecDepth 65536 in
set_option maxHeartbeats 40000000 in
theorem rm0 (l : Launch) (Z : State) (a0 : Array Value) (hw : ∀ d ∈ tables_1, d.before a0 Z = true) (ws : List Jvm.Cond) (h0 : Heap) (n0 : Nat) (O0 : Old Z n0 h0) (p0 : Int32) (p1 : Int32) (p2 : Int32) (p3 : Int32) (em : Addr) (xs : Addr) (kx : ClassId) (x0 : Addr) (x1 : Addr) (x2 : Addr) (x3 : Addr) (z : Int32) (fm : Value) (hcst : Jvm.Lit.constHeld Z "java/lang/String" 7) (hcw : Jvm.Lit.compactW.before a0 Z = true) (SE : Sta Z Z.heap "java/util/Optional" "EMPTY" "Ljava/util/Optional;" (.ref em)) (EE : Exa Z Z.heap em "java/util/Optional") (FE : Fld Z Z.heap em "java/util/Optional" "value" "Ljava/lang/Object;" .null) (SX : Sta Z Z.heap "com/example/davka/davka/AccountingCode" "CODES" "[Lcom/example/davka/davka/AccountingCode;" (.ref xs)) (VX : own_Ar Z Z.heap xs kx (.object "com/example/davka/davka/AccountingCode") [(.ref x0), (.ref x1), (.ref x2), (.ref x3)]) (S0 : Sta Z Z.heap "com/example/davka/davka/AccountingCode" "DEBIT" "Lcom/example/davka/davka/AccountingCode;" (.ref x0)) (A0 : Exa Z Z.heap x0 "com/example/davka/davka/AccountingCode") (B0 : Fld Z Z.heap x0 "com/example/davka/davka/AccountingCode" "digit" "C" (.int (48 : Int32))) (S1 : Sta Z Z.heap "com/example/davka/davka/AccountingCode" "CREDIT" "Lcom/example/davka/davka/AccountingCode;" (.ref x1)) (A1 : Exa Z Z.heap x1 "com/example/davka/davka/AccountingCode") (B1 : Fld Z Z.heap x1 "com/example/davka/davka/AccountingCode" "digit" "C" (.int (49 : Int32))) (S2 : Sta Z Z.heap "com/example/davka/davka/AccountingCode" "DEBIT_CANCELLATION" "Lcom/example/davka/davka/AccountingCode;" (.ref x2)) (A2 : Exa Z Z.heap x2 "com/example/davka/davka/AccountingCode") (B2 : Fld Z Z.heap x2 "com/example/davka/davka/AccountingCode" "digit" "C" (.int (50 : Int32))) (S3 : Sta Z Z.heap "com/example/davka/davka/AccountingCode" "CREDIT_CANCELLATION" "Lcom/example/davka/davka/AccountingCode;" (.ref x3)) (A3 : Exa Z Z.heap x3 "com/example/davka/davka/AccountingCode") (B3 : Fld Z Z.heap x3 "com/example/davka/davka/AccountingCode" "digit" "C" (.int (51 : Int32))) (SC : Sta Z Z.heap "java/lang/String" "COMPACT_STRINGS" "Z" (.int z)) (hz : ¬ (z = (0 : Int32))) (SA : Sta Z Z.heap "java/lang/StringUTF16" "$assertionsDisabled" "Z" (.int (1 : Int32))) (SH : Sta Z Z.heap "java/lang/StringUTF16" "HI_BYTE_SHIFT" "I" (.int (0 : Int32))) (SL : Sta Z Z.heap "java/lang/StringUTF16" "LO_BYTE_SHIFT" "I" (.int (8 : Int32))) (SF : Sta Z Z.heap "jdk/internal/util/Preconditions" "SIOOBE_FORMATTER" "Ljava/util/function/BiFunction;" fm) (hfm : fm.isRef = true) :
    MetFree l x (head1 (Jvm.Cond.code x code maxLocals ret :: ws) room_1) (fun aq U => aq = #[(.int p0), (.int p1), (.int p2), (.int p3)] ∧ Z.Warmed39 U.vm ∧ U.heap = h0 ∧ IB Z U.vm []) (fun _ _ _ _ _ => True) (fun _ U oo U' => ∃ v L, oo = .returned v ∧ Q_rm0 Z h0 n0 p0 p1 p2 p3 em xs kx x0 x1 x2 x3 z fm v U'.heap L ∧ ReturnedEndW U oo U' L room_1.cells room_1.slots) := by
  refine MetFree.of_bodySF (plainFor_of_name pn_rm0) hisR ?_
  intro p e s m args below meth c s₁ Bd hml0 hP hK
  obtain ⟨rfl, hZ, hh, hI⟩ := hP
  have hx := Bd.exec
  have hby := Bd.bytes
  have hml : c.maxLocals = 11 := hml0
  have hown : s.vm.findClass "com/example/davka/davka/AccountingCodeOfPinLaw" = some m.cls := findClass_of_methodNamed Bd.named
  have hnm := (name_of_methodNamed Bd.named Bd.method).1
  have hlk := Bd.notSynchronized
  have hret := Bd.returns
  have X0 : Stand p l e room_1 s m #[(.int p0), (.int p1), (.int p2), (.int p3)] below meth c s₁ [] 0 0 := Stand.of_body Bd
  have e0 : s₁.heap = h0 := by rw [← hh, Bd.state]; rfl
  have N0 := Fr.nil n0
  have K0 := Keep.refl h0 []
  refine own_goW (S' := (s₁.setTop (mkF m 0 #[.val (.int p0), .val (.int p1), .val (.int p2), .val (.int p3), .unset, .unset, .unset, .unset, .unset, .unset, .unset] []))) (fun tq kq => castTop (ef_rm0 m p0 p1 p2 p3 em xs kx x0 x1 x2 x3 z fm) kq) ?_
  show own_GW p e s below (Q_rm0 Z h0 n0 p0 p1 p2 p3 em xs kx x0 x1 x2 x3 z fm) _ _ _
  refine own_goW (S' := (s₁.setTop (mkF m 3 #[.val (.int p0), .val (.int p1), .val (.int p2), .val (.int p3), .unset, .unset, .unset, .unset, .unset, .unset, .unset] [(.int (p0 &&& (3 : Int32)))]))) (fun tq kq => XS.iloadN X0.here hx rfl (hb hby at_0) rfl (XS.iconst X0.here hx rfl (hb hby at_1) (XS.iand X0.here hx rfl (hb hby at_2) rfl kq))) ?_
  rcases own_four p0 with hq | hq | hq | hq
  · rw [hq]
    refine own_goW (S' := (s₁.setTop (mkF m 6 #[.val (.int p0), .val (.int p1), .val (.int p2), .val (.int p3), .val (.int (0 : Int32)), .unset, .unset, .unset, .unset, .unset, .unset] [(.int p1)]))) (fun tq kq => XS.istore X0.here hx rfl (hb hby at_3) rfl (l' := #[.val (.int p0), .val (.int p1), .val (.int p2), .val (.int p3), .val (.int (0 : Int32)), .unset, .unset, .unset, .unset, .unset, .unset]) rfl (XS.iloadN X0.here hx rfl (hb hby at_5) rfl kq)) ?_
    obtain ⟨_, _, ⟨T101, L101, k101, n101⟩, -, X101, ⟨Lc101, hQ101, l101, y101, z101⟩, st101⟩ := Jvm.LawKit.callS X0 hx (y := (⟨"com/example/davka/davka/AccountingCodeOfPinLaw", "draw", "(I)C"⟩ : MethodName)) hown (mvT hZ (hw _ (List.mem_of_getElem? (i := 0) rfl))) (mvT hZ (hw _ (List.mem_of_getElem? (i := 1) rfl))) (mvT hZ (hw _ (List.mem_of_getElem? (i := 2) rfl))) (mvT hZ (hw _ (List.mem_of_getElem? (i := 3) rfl))) (by decide) (backOf (W := 0) (rm1 l Z a0 hw [] h0 n0 O0 p1) hZ (hw _ (List.mem_of_getElem? (i := 3) rfl)) (hw _ (List.mem_of_getElem? (i := 2) rfl)) (by decide) (by decide)) (g := (mkF m 6 #[.val (.int p0), .val (.int p1), .val (.int p2), .val (.int p3), .val (.int (0 : Int32)), .unset, .unset, .unset, .unset, .unset, .unset] [(.int p1)])) rfl (by rw [hml]; rfl) (argsL := [(.int p1)]) (rest := []) (lenOf pd_20 rfl) rfl (by show 2 * 0 + _ ≤ _; exact Nat.le_of_eq rfl) (hb hby at_6) (fun _ _ => ⟨rfl, e0, (by decide : 0 + 0 ≤ _), (by decide : 0 + 0 ≤ _)⟩)
    dsimp only [Pt.U, Pt.locs, Pt.cells, Pt.slots] at X101 l101 y101 z101 st101 hQ101
    subst l101 y101 z101
    obtain ⟨z101, rfl, r101, N101, eh101⟩ := hQ101
    have Nf101 := Fr.app N0 N101
    refine own_goW (S' := (T101.setTop (mkF m 12 #[.val (.int p0), .val (.int p1), .val (.int p2), .val (.int p3), .val (.int (0 : Int32)), .val (.int z101), .unset, .unset, .unset, .unset, .unset] [(.int p2)]))) (fun tq kq => st101 tq (XS.istore X101.here hx rfl (hb hby at_9) rfl (l' := #[.val (.int p0), .val (.int p1), .val (.int p2), .val (.int p3), .val (.int (0 : Int32)), .val (.int z101), .unset, .unset, .unset, .unset, .unset]) rfl (XS.iloadN X101.here hx rfl (hb hby at_11) rfl kq))) ?_
    obtain ⟨_, _, ⟨T102, L102, k102, n102⟩, -, X102, ⟨Lc102, hQ102, l102, y102, z102⟩, st102⟩ := Jvm.LawKit.callS X101 hx (y := (⟨"com/example/davka/davka/AccountingCodeOfPinLaw", "draw", "(I)C"⟩ : MethodName)) hown (mvT hZ (hw _ (List.mem_of_getElem? (i := 0) rfl))) (mvT hZ (hw _ (List.mem_of_getElem? (i := 1) rfl))) (mvT hZ (hw _ (List.mem_of_getElem? (i := 2) rfl))) (mvT hZ (hw _ (List.mem_of_getElem? (i := 3) rfl))) (by decide) (backOf (W := 0) (rm1 l Z a0 hw [] h0 n0 O0 p2) hZ (hw _ (List.mem_of_getElem? (i := 3) rfl)) (hw _ (List.mem_of_getElem? (i := 2) rfl)) (by decide) (by decide)) (g := (mkF m 12 #[.val (.int p0), .val (.int p1), .val (.int p2), .val (.int p3), .val (.int (0 : Int32)), .val (.int z101), .unset, .unset, .unset, .unset, .unset] [(.int p2)])) rfl (by rw [hml]; rfl) (argsL := [(.int p2)]) (rest := []) (lenOf pd_20 rfl) rfl (by show 2 * 0 + _ ≤ _; exact Nat.le_of_eq rfl) (hb hby at_12) (fun _ _ => ⟨rfl, eh101, (by decide : 0 + 0 ≤ _), (by decide : 0 + 0 ≤ _)⟩)
    dsimp only [Pt.U, Pt.locs, Pt.cells, Pt.slots] at X102 l102 y102 z102 st102 hQ102
    subst l102 y102 z102
    obtain ⟨z102, rfl, r102, N102, eh102⟩ := hQ102
    have Nf102 := Fr.app Nf101 N102
    refine own_goW (S' := (T102.setTop (mkF m 18 #[.val (.int p0), .val (.int p1), .val (.int p2), .val (.int p3), .val (.int (0 : Int32)), .val (.int z101), .val (.int z102), .unset, .unset, .unset, .unset] [(.int p3)]))) (fun tq kq => st102 tq (XS.istore X102.here hx rfl (hb hby at_15) rfl (l' := #[.val (.int p0), .val (.int p1), .val (.int p2), .val (.int p3), .val (.int (0 : Int32)), .val (.int z101), .val (.int z102), .unset, .unset, .unset, .unset]) rfl (XS.iloadN X102.here hx rfl (hb hby at_17) rfl kq))) ?_
    obtain ⟨_, _, ⟨T103, L103, k103, n103⟩, -, X103, ⟨Lc103, hQ103, l103, y103, z103⟩, st103⟩ := Jvm.LawKit.callS X102 hx (y := (⟨"com/example/davka/davka/AccountingCodeOfPinLaw", "draw", "(I)C"⟩ : MethodName)) hown (mvT hZ (hw _ (List.mem_of_getElem? (i := 0) rfl))) (mvT hZ (hw _ (List.mem_of_getElem? (i := 1) rfl))) (mvT hZ (hw _ (List.mem_of_getElem? (i := 2) rfl))) (mvT hZ (hw _ (List.mem_of_getElem? (i := 3) rfl))) (by decide) (backOf (W := 0) (rm1 l Z a0 hw [] h0 n0 O0 p3) hZ (hw _ (List.mem_of_getElem? (i := 3) rfl)) (hw _ (List.mem_of_getElem? (i := 2) rfl)) (by decide) (by decide)) (g := (mkF m 18 #[.val (.int p0), .val (.int p1), .val (.int p2), .val (.int p3), .val (.int (0 : Int32)), .val (.int z101), .val (.int z102), .unset, .unset, .unset, .unset] [(.int p3)])) rfl (by rw [hml]; rfl) (argsL := [(.int p3)]) (rest := []) (lenOf pd_20 rfl) rfl (by show 2 * 0 + _ ≤ _; exact Nat.le_of_eq rfl) (hb hby at_18) (fun _ _ => ⟨rfl, eh102, (by decide : 0 + 0 ≤ _), (by decide : 0 + 0 ≤ _)⟩)
    dsimp only [Pt.U, Pt.locs, Pt.cells, Pt.slots] at X103 l103 y103 z103 st103 hQ103
    subst l103 y103 z103
    obtain ⟨z103, rfl, r103, N103, eh103⟩ := hQ103
    have Nf103 := Fr.app Nf102 N103
    refine own_goW (S' := (T103.setTop (mkF m 28 #[.val (.int p0), .val (.int p1), .val (.int p2), .val (.int p3), .val (.int (0 : Int32)), .val (.int z101), .val (.int z102), .val (.int z103), .unset, .unset, .unset] []))) (fun tq kq => st103 tq (XS.istore X103.here hx rfl (hb hby at_21) rfl (l' := #[.val (.int p0), .val (.int p1), .val (.int p2), .val (.int p3), .val (.int (0 : Int32)), .val (.int z101), .val (.int z102), .val (.int z103), .unset, .unset, .unset]) rfl (XS.iload X103.here hx rfl (hb hby at_23) rfl (XS.ifNo X103.here hx rfl (hb hby at_25) rfl ((if0 _ _).trans (teq (by decide : (0 : Int32) = (0 : Int32))).2) kq)))) ?_
    obtain ⟨T104, h104, X104, e104, E104, A104, D104, -, st104⟩ := newO X103 hx hZ hown (hw _ (List.mem_of_getElem? (i := 6) rfl)) (hw _ (List.mem_of_getElem? (i := 7) rfl)) (hw _ (List.mem_of_getElem? (i := 8) rfl)) eh103 (g := (mkF m 28 #[.val (.int p0), .val (.int p1), .val (.int p2), .val (.int p3), .val (.int (0 : Int32)), .val (.int z101), .val (.int z102), .val (.int z103), .unset, .unset, .unset] [])) rfl (hb hby at_28) (by decide) (by decide)
    obtain ⟨b104, g104⟩ : ∃ z, z = h0.size := ⟨_, rfl⟩
    rw [← g104] at A104 D104 st104
    have ne_em_b104 : em ≠ b104 := Nat.ne_of_lt (Nat.lt_of_lt_of_le (EE.ext O0.2).lt (Nat.le_of_eq g104.symm))
    have ne_x0_b104 : x0 ≠ b104 := Nat.ne_of_lt (Nat.lt_of_lt_of_le (A0.ext O0.2).lt (Nat.le_of_eq g104.symm))
    have ne_x1_b104 : x1 ≠ b104 := Nat.ne_of_lt (Nat.lt_of_lt_of_le (A1.ext O0.2).lt (Nat.le_of_eq g104.symm))
    have ne_x2_b104 : x2 ≠ b104 := Nat.ne_of_lt (Nat.lt_of_lt_of_le (A2.ext O0.2).lt (Nat.le_of_eq g104.symm))
    have ne_x3_b104 : x3 ≠ b104 := Nat.ne_of_lt (Nat.lt_of_lt_of_le (A3.ext O0.2).lt (Nat.le_of_eq g104.symm))
    have ne_xs_b104 : xs ≠ b104 := Nat.ne_of_lt (Nat.lt_of_lt_of_le (VX.ext O0.2).lt (Nat.le_of_eq g104.symm))
    have ge_b104 : n0 ≤ b104 := Nat.le_trans (own_osz O0) (Nat.le_of_eq g104.symm)
    have gk_b104 : h0.size ≤ b104 := Nat.le_trans K0.1 (Nat.le_of_eq g104.symm)
    have O104 := O0.ext E104
    have K104 := K0.ext E104
    have F_value_b104 : Fld Z h104 b104 "java/lang/String" "value" "[B" .null := D104 (Or.inr (hw _ (List.mem_of_getElem? (i := 22) rfl))) (ty := (.array .byte)) (by decide)
    have F_coder_b104 : Fld Z h104 b104 "java/lang/String" "coder" "B" (.int (0 : Int32)) := D104 (Or.inr (hw _ (List.mem_of_getElem? (i := 23) rfl))) (ty := .byte) (by decide)
    refine own_goW (S' := (T104.setTop (mkF m 33 #[.val (.int p0), .val (.int p1), .val (.int p2), .val (.int p3), .val (.int (0 : Int32)), .val (.int z101), .val (.int z102), .val (.int z103), .unset, .unset, .unset] [(.int (0 : Int32)), (.ref b104), (.ref b104)]))) (fun tq kq => st104 tq (XS.dup X104.here hx rfl (hb hby at_31) rfl rfl (XS.iconst X104.here hx rfl (hb hby at_32) kq))) ?_
    obtain ⟨T105, h105, k105, X105, e105, E105, A105, st105⟩ := newP X104 hx hZ (hw _ (List.mem_of_getElem? (i := 9) rfl)) e104 (g := (mkF m 33 #[.val (.int p0), .val (.int p1), .val (.int p2), .val (.int p3), .val (.int (0 : Int32)), .val (.int z101), .val (.int z102), .val (.int z103), .unset, .unset, .unset] [(.int (0 : Int32)), (.ref b104), (.ref b104)])) rfl (hb hby at_33) rfl (by decide) (cap := 0) (by decide) (by decide) (by decide) (by decide)
    obtain ⟨b105, g105⟩ : ∃ z, z = h104.size := ⟨_, rfl⟩
    rw [← g105] at A105 st105
    have ne_b104_b105 : b104 ≠ b105 := Nat.ne_of_lt (Nat.lt_of_lt_of_le A104.lt (Nat.le_of_eq g105.symm))
    have ne_em_b105 : em ≠ b105 := Nat.ne_of_lt (Nat.lt_of_lt_of_le (EE.ext O104.2).lt (Nat.le_of_eq g105.symm))
    have ne_x0_b105 : x0 ≠ b105 := Nat.ne_of_lt (Nat.lt_of_lt_of_le (A0.ext O104.2).lt (Nat.le_of_eq g105.symm))
    have ne_x1_b105 : x1 ≠ b105 := Nat.ne_of_lt (Nat.lt_of_lt_of_le (A1.ext O104.2).lt (Nat.le_of_eq g105.symm))
    have ne_x2_b105 : x2 ≠ b105 := Nat.ne_of_lt (Nat.lt_of_lt_of_le (A2.ext O104.2).lt (Nat.le_of_eq g105.symm))
    have ne_x3_b105 : x3 ≠ b105 := Nat.ne_of_lt (Nat.lt_of_lt_of_le (A3.ext O104.2).lt (Nat.le_of_eq g105.symm))
    have ne_xs_b105 : xs ≠ b105 := Nat.ne_of_lt (Nat.lt_of_lt_of_le (VX.ext O104.2).lt (Nat.le_of_eq g105.symm))
    have ge_b105 : n0 ≤ b105 := Nat.le_trans (own_osz O104) (Nat.le_of_eq g105.symm)
    have gk_b105 : h0.size ≤ b105 := Nat.le_trans K104.1 (Nat.le_of_eq g105.symm)
    have V105 : own_Ar Z h105 b105 k105 .char [] := own_Ar.new A105 (by decide)
    have O105 := O104.ext E105
    have K105 := K104.ext E105
    refine own_goW (S' := (T105.setTop (mkF m 35 #[.val (.int p0), .val (.int p1), .val (.int p2), .val (.int p3), .val (.int (0 : Int32)), .val (.int z101), .val (.int z102), .val (.int z103), .unset, .unset, .unset] [(.ref b105), (.ref b104), (.ref b104)]))) (fun tq kq => st105 tq kq) ?_
    have f106 := (A104.ext E105)
    have f107 := (F_value_b104.ext E105)
    have f108 := (F_coder_b104.ext E105)
    obtain ⟨_, _, ⟨T109, L109, k109, n109⟩, -, X109, hS109, hg109, ⟨Lc109, hQ109, l109, y109, z109⟩, st109⟩ := X105.specialBackS hx (y := (⟨"java/lang/String", "<init>", "([C)V"⟩ : MethodName)) rfl hown (mvT hZ (hw _ (List.mem_of_getElem? (i := 10) rfl))) (mvT hZ (hw _ (List.mem_of_getElem? (i := 11) rfl))) (mvT hZ (hw _ (List.mem_of_getElem? (i := 12) rfl))) (by decide) (own_backS (W := 1) (inc0 l Z a0 hw [] h105 n0 O105 b104 b105 k105 z fm hcst hcw f106 f107 f108 ge_b104 V105 SC hz SA SH SL SF hfm) hZ hI (hw _ (List.mem_of_getElem? (i := 12) rfl)) (hw _ (List.mem_of_getElem? (i := 8) rfl)) (by decide) (by decide)) (g := (mkF m 35 #[.val (.int p0), .val (.int p1), .val (.int p2), .val (.int p3), .val (.int (0 : Int32)), .val (.int z101), .val (.int z102), .val (.int z103), .unset, .unset, .unset] [(.ref b105), (.ref b104), (.ref b104)])) rfl (by rw [hml]; rfl) (Steps.refl _) (a := b104) (argsL := [(.ref b105)]) (rest := [(.ref b104)]) (lenOf pd_23 rfl) rfl (by show 2 * 0 + _ ≤ _; exact Nat.le_of_eq rfl) (hb hby at_35) (fun _ _ => ⟨rfl, e105, (by decide : 2 + 2 ≤ _), (by decide : 4 + 4 ≤ _)⟩)
    dsimp only [Pt.U, Pt.locs, Pt.cells, Pt.slots] at hS109 hg109
    have hZ : Z.Warmed39 (s.setVm T109.vm).vm := State.Warmed39.trans (t := s) hZ hS109.1
    have hown : (s.setVm T109.vm).vm.findClass "com/example/davka/davka/AccountingCodeOfPinLaw" = some m.cls := by rw [show (s.setVm T109.vm).vm = T109.vm from rfl, hS109.1.alike.findClass]; exact hown
    dsimp only [Pt.U, Pt.locs, Pt.cells, Pt.slots] at X109 l109 y109 z109 st109 hQ109
    subst l109 y109 z109
    obtain ⟨rfl, N109, K109, R109⟩ := hQ109
    have Nf109 := Fr.app Nf103 N109
    have O109 := O105.keep K109 (allS ge_b104 all0)
    have KK109 := K105.trans K109 (allS (Or.inr gk_b104) all0)
    obtain ⟨d109, kd109, Fv109, Vd109, Fc109⟩ := R109
    refine own_goW (S' := (T109.setTop (mkF m 119 #[.val (.int p0), .val (.int p1), .val (.int p2), .val (.int p3), .val (.int (0 : Int32)), .val (.int z101), .val (.int z102), .val (.int z103), .val (.ref b104), .unset, .unset] [(.ref b104)]))) (fun tq kq => st109.trans (XS.astore X109.here hx rfl (hb hby at_38) rfl rfl (l' := #[.val (.int p0), .val (.int p1), .val (.int p2), .val (.int p3), .val (.int (0 : Int32)), .val (.int z101), .val (.int z102), .val (.int z103), .val (.ref b104), .unset, .unset]) rfl (XS.goto X109.here hx rfl (pc0 := 40) (pc' := 117) rfl (hb hby at_40) (by decide) (by decide) (XS.aload X109.here hx rfl (hb hby at_117) rfl rfl kq)))) ?_
    have f110 := (f106.keep K109)
    obtain ⟨_, _, ⟨T111, L111, k111, n111⟩, -, X111, ⟨Lc111, hQ111, l111, y111, z111⟩, st111⟩ := Jvm.LawKit.callS X109 hx (y := (⟨"com/example/davka/davka/AccountingCode", "of", "(Ljava/lang/String;)Ljava/util/Optional;"⟩ : MethodName)) hown (mvT hZ (hw _ (List.mem_of_getElem? (i := 28) rfl))) (mvT hZ (hw _ (List.mem_of_getElem? (i := 29) rfl))) (mvT hZ (hw _ (List.mem_of_getElem? (i := 30) rfl))) (mvT hZ (hw _ (List.mem_of_getElem? (i := 31) rfl))) (by decide) (backOf (W := 0) (ofs0_0 l Z a0 hw [] T109.heap n0 O109 b104 d109 kd109 [] em xs kx x0 x1 x2 x3 z fm f110 Fc109 Fv109 Vd109 rfl SE EE FE SX VX S0 A0 B0 S1 A1 B1 S2 A2 B2 S3 A3 B3 SC hz SA SH SL SF hfm) hZ (hw _ (List.mem_of_getElem? (i := 31) rfl)) (hw _ (List.mem_of_getElem? (i := 30) rfl)) (by decide) (by decide)) (g := (mkF m 119 #[.val (.int p0), .val (.int p1), .val (.int p2), .val (.int p3), .val (.int (0 : Int32)), .val (.int z101), .val (.int z102), .val (.int z103), .val (.ref b104), .unset, .unset] [(.ref b104)])) rfl (by rw [hml]; rfl) (argsL := [(.ref b104)]) (rest := []) (lenOf pd_24 rfl) rfl (by show 2 * 0 + _ ≤ _; exact Nat.le_of_eq rfl) (hb hby at_119) (fun _ _ => ⟨rfl, rfl, (by decide : 4 + 0 ≤ _), (by decide : 8 + 0 ≤ _)⟩)
    dsimp only [Pt.U, Pt.locs, Pt.cells, Pt.slots] at X111 l111 y111 z111 st111 hQ111
    subst l111 y111 z111
    obtain ⟨rfl, N111, eh111⟩ := hQ111
    have Nf111 := Fr.app Nf109 N111
    refine own_goW (S' := (T111.setTop (mkF m 127 #[.val (.int p0), .val (.int p1), .val (.int p2), .val (.int p3), .val (.int (0 : Int32)), .val (.int z101), .val (.int z102), .val (.int z103), .val (.ref b104), .val (.ref em), .unset] [.null, (.ref em)]))) (fun tq kq => st111 tq (XS.astore X111.here hx rfl (hb hby at_122) rfl rfl (l' := #[.val (.int p0), .val (.int p1), .val (.int p2), .val (.int p3), .val (.int (0 : Int32)), .val (.int z101), .val (.int z102), .val (.int z103), .val (.ref b104), .val (.ref em), .unset]) rfl (XS.aload X111.here hx rfl (hb hby at_124) rfl rfl (XS.aconstNull X111.here hx rfl (hb hby at_126) kq)))) ?_
    obtain ⟨cq112, kq112, q112a, q112b, q112c⟩ := isOf hZ eh111 (EE.ext O109.2)
    obtain ⟨_, _, ⟨T112, L112, k112, n112⟩, -, X112, ⟨Lc112, hQ112, l112, y112, z112⟩, st112⟩ := X111.virtualBack hx (y := (⟨"java/util/Optional", "orElse", "(Ljava/lang/Object;)Ljava/lang/Object;"⟩ : MethodName)) (z := (⟨"java/util/Optional", "orElse", "(Ljava/lang/Object;)Ljava/lang/Object;"⟩ : MethodName)) hown (mvT hZ (hw _ (List.mem_of_getElem? (i := 48) rfl))) (mvT hZ (hw _ (List.mem_of_getElem? (i := 49) rfl))) (notFace_of_selects (args := #[]) (mvT hZ (hw _ (List.mem_of_getElem? (i := 51) rfl)))) (mvT hZ (hw _ (List.mem_of_getElem? (i := 51) rfl))) (mvT hZ (hw _ (List.mem_of_getElem? (i := 50) rfl))) (by decide) (backOf (W := 0) (orn l Z a0 hw [] T109.heap n0 O109 em (FE.ext O109.2)) hZ (hw _ (List.mem_of_getElem? (i := 52) rfl)) (hw _ (List.mem_of_getElem? (i := 45) rfl)) (by decide) (by decide)) q112a q112c (g := (mkF m 127 #[.val (.int p0), .val (.int p1), .val (.int p2), .val (.int p3), .val (.int (0 : Int32)), .val (.int z101), .val (.int z102), .val (.int z103), .val (.ref b104), .val (.ref em), .unset] [.null, (.ref em)])) rfl (by rw [hml]; rfl) (Steps.refl _) (argsL := [.null]) (rest := []) (lenOf pd_25 rfl) rfl (by show 2 * 0 + _ ≤ _; exact Nat.le_of_eq rfl) (hb hby at_127) (fun _ _ => ⟨rfl, eh111, (by decide : 4 + 0 ≤ _), (by decide : 8 + 0 ≤ _)⟩)
    dsimp only [Pt.U, Pt.locs, Pt.cells, Pt.slots] at X112 l112 y112 z112 st112 hQ112
    subst l112 y112 z112
    obtain ⟨rfl, N112, eh112⟩ := hQ112
    have Nf112 := Fr.app Nf111 N112
    refine own_goW (S' := (T112.setTop (mkF m 141 #[.val (.int p0), .val (.int p1), .val (.int p2), .val (.int p3), .val (.int (0 : Int32)), .val (.int z101), .val (.int z102), .val (.int z103), .val (.ref b104), .val (.ref em), .val .null] [(.int z101), (.int (0 : Int32)), .null]))) (fun tq kq => st112.trans (X112.checkcastNull hx (g := (mkF m 130 #[.val (.int p0), .val (.int p1), .val (.int p2), .val (.int p3), .val (.int (0 : Int32)), .val (.int z101), .val (.int z102), .val (.int z103), .val (.ref b104), .val (.ref em), .unset] [.null])) rfl rfl (hb hby at_130) tq (XS.astore X112.here hx rfl (hb hby at_133) rfl rfl (l' := #[.val (.int p0), .val (.int p1), .val (.int p2), .val (.int p3), .val (.int (0 : Int32)), .val (.int z101), .val (.int z102), .val (.int z103), .val (.ref b104), .val (.ref em), .val .null]) rfl (XS.aload X112.here hx rfl (hb hby at_135) rfl rfl (XS.iload X112.here hx rfl (hb hby at_137) rfl (XS.iload X112.here hx rfl (hb hby at_139) rfl kq)))))) ?_
    obtain ⟨_, _, ⟨T113, L113, k113, n113⟩, -, X113, ⟨Lc113, hQ113, l113, y113, z113⟩, st113⟩ := Jvm.LawKit.callS X112 hx (y := (⟨"com/example/davka/davka/AccountingCodeOfPinLaw", "expected", "(IC)Lcom/example/davka/davka/AccountingCode;"⟩ : MethodName)) hown (mvT hZ (hw _ (List.mem_of_getElem? (i := 55) rfl))) (mvT hZ (hw _ (List.mem_of_getElem? (i := 56) rfl))) (mvT hZ (hw _ (List.mem_of_getElem? (i := 2) rfl))) (mvT hZ (hw _ (List.mem_of_getElem? (i := 57) rfl))) (by decide) (backOf (W := 1) (exz0 l Z a0 hw [] T109.heap n0 O109 z101) hZ (hw _ (List.mem_of_getElem? (i := 57) rfl)) (hw _ (List.mem_of_getElem? (i := 2) rfl)) (by decide) (by decide)) (g := (mkF m 141 #[.val (.int p0), .val (.int p1), .val (.int p2), .val (.int p3), .val (.int (0 : Int32)), .val (.int z101), .val (.int z102), .val (.int z103), .val (.ref b104), .val (.ref em), .val .null] [(.int z101), (.int (0 : Int32)), .null])) rfl (by rw [hml]; rfl) (argsL := [(.int (0 : Int32)), (.int z101)]) (rest := [.null]) (lenOf pd_26 rfl) rfl (by show 2 * 0 + _ ≤ _; exact Nat.le_of_eq rfl) (hb hby at_141) (fun _ _ => ⟨rfl, eh112, (by decide : 4 + 0 ≤ _), (by decide : 8 + 0 ≤ _)⟩)
    dsimp only [Pt.U, Pt.locs, Pt.cells, Pt.slots] at X113 l113 y113 z113 st113 hQ113
    subst l113 y113 z113
    obtain ⟨rfl, N113, eh113⟩ := hQ113
    have Nf113 := Fr.app Nf112 N113
    refine own_goW (S' := (T113.setTop (mkF m 152 #[.val (.int p0), .val (.int p1), .val (.int p2), .val (.int p3), .val (.int (0 : Int32)), .val (.int z101), .val (.int z102), .val (.int z103), .val (.ref b104), .val (.ref em), .val .null] [(.int (1 : Int32))]))) (fun tq kq => st113 tq (Jvm.RoadKit.acmp (g := (mkF m 144 #[.val (.int p0), .val (.int p1), .val (.int p2), .val (.int p3), .val (.int (0 : Int32)), .val (.int z101), .val (.int z102), .val (.int z103), .val (.ref b104), .val (.ref em), .val .null] [.null, .null])) X113 hx rfl rfl rfl (pc0 := 144) (pc' := 147) (same := true) rfl (hb hby at_144) rfl (decide_eq_true rfl) (by decide) (by decide) (XS.iconst X113.here hx rfl (hb hby at_147) (XS.goto X113.here hx rfl (pc0 := 148) (pc' := 152) rfl (hb hby at_148) (by decide) (by decide) kq)))) ?_
    refine own_retNW X113 hS109 (by rw [eh113]; exact (Nat.le_refl _)) hx hlk hret (by simp) (hb hby at_152) (by decide) (by decide) ?_
    exact ⟨rfl, Nf113⟩
  · rw [hq]
    refine own_wide ?_
    refine own_go (S' := (s₁.setTop (mkF m 6 #[.val (.int p0), .val (.int p1), .val (.int p2), .val (.int p3), .val (.int (1 : Int32)), .unset, .unset, .unset, .unset, .unset, .unset] [(.int p1)]))) (fun tq kq => XS.istore X0.here hx rfl (hb hby at_3) rfl (l' := #[.val (.int p0), .val (.int p1), .val (.int p2), .val (.int p3), .val (.int (1 : Int32)), .unset, .unset, .unset, .unset, .unset, .unset]) rfl (XS.iloadN X0.here hx rfl (hb hby at_5) rfl kq)) ?_
    obtain ⟨_, _, ⟨T114, L114, k114, n114⟩, -, X114, ⟨Lc114, hQ114, l114, y114, z114⟩, st114⟩ := Jvm.LawKit.callS X0 hx (y := (⟨"com/example/davka/davka/AccountingCodeOfPinLaw", "draw", "(I)C"⟩ : MethodName)) hown (mvT hZ (hw _ (List.mem_of_getElem? (i := 0) rfl))) (mvT hZ (hw _ (List.mem_of_getElem? (i := 1) rfl))) (mvT hZ (hw _ (List.mem_of_getElem? (i := 2) rfl))) (mvT hZ (hw _ (List.mem_of_getElem? (i := 3) rfl))) (by decide) (backOf (W := 0) (rm1 l Z a0 hw [] h0 n0 O0 p1) hZ (hw _ (List.mem_of_getElem? (i := 3) rfl)) (hw _ (List.mem_of_getElem? (i := 2) rfl)) (by decide) (by decide)) (g := (mkF m 6 #[.val (.int p0), .val (.int p1), .val (.int p2), .val (.int p3), .val (.int (1 : Int32)), .unset, .unset, .unset, .unset, .unset, .unset] [(.int p1)])) rfl (by rw [hml]; rfl) (argsL := [(.int p1)]) (rest := []) (lenOf pd_20 rfl) rfl (by show 2 * 0 + _ ≤ _; exact Nat.le_of_eq rfl) (hb hby at_6) (fun _ _ => ⟨rfl, e0, (by decide : 0 + 0 ≤ _), (by decide : 0 + 0 ≤ _)⟩)
    dsimp only [Pt.U, Pt.locs, Pt.cells, Pt.slots] at X114 l114 y114 z114 st114 hQ114
    subst l114 y114 z114
    obtain ⟨z114, rfl, r114, N114, eh114⟩ := hQ114
    have Nf114 := Fr.app N0 N114
    refine own_go (S' := (T114.setTop (mkF m 12 #[.val (.int p0), .val (.int p1), .val (.int p2), .val (.int p3), .val (.int (1 : Int32)), .val (.int z114), .unset, .unset, .unset, .unset, .unset] [(.int p2)]))) (fun tq kq => st114 tq (XS.istore X114.here hx rfl (hb hby at_9) rfl (l' := #[.val (.int p0), .val (.int p1), .val (.int p2), .val (.int p3), .val (.int (1 : Int32)), .val (.int z114), .unset, .unset, .unset, .unset, .unset]) rfl (XS.iloadN X114.here hx rfl (hb hby at_11) rfl kq))) ?_
    obtain ⟨_, _, ⟨T115, L115, k115, n115⟩, -, X115, ⟨Lc115, hQ115, l115, y115, z115⟩, st115⟩ := Jvm.LawKit.callS X114 hx (y := (⟨"com/example/davka/davka/AccountingCodeOfPinLaw", "draw", "(I)C"⟩ : MethodName)) hown (mvT hZ (hw _ (List.mem_of_getElem? (i := 0) rfl))) (mvT hZ (hw _ (List.mem_of_getElem? (i := 1) rfl))) (mvT hZ (hw _ (List.mem_of_getElem? (i := 2) rfl))) (mvT hZ (hw _ (List.mem_of_getElem? (i := 3) rfl))) (by decide) (backOf (W := 0) (rm1 l Z a0 hw [] h0 n0 O0 p2) hZ (hw _ (List.mem_of_getElem? (i := 3) rfl)) (hw _ (List.mem_of_getElem? (i := 2) rfl)) (by decide) (by decide)) (g := (mkF m 12 #[.val (.int p0), .val (.int p1), .val (.int p2), .val (.int p3), .val (.int (1 : Int32)), .val (.int z114), .unset, .unset, .unset, .unset, .unset] [(.int p2)])) rfl (by rw [hml]; rfl) (argsL := [(.int p2)]) (rest := []) (lenOf pd_20 rfl) rfl (by show 2 * 0 + _ ≤ _; exact Nat.le_of_eq rfl) (hb hby at_12) (fun _ _ => ⟨rfl, eh114, (by decide : 0 + 0 ≤ _), (by decide : 0 + 0 ≤ _)⟩)
    dsimp only [Pt.U, Pt.locs, Pt.cells, Pt.slots] at X115 l115 y115 z115 st115 hQ115
    subst l115 y115 z115
    obtain ⟨z115, rfl, r115, N115, eh115⟩ := hQ115
    have Nf115 := Fr.app Nf114 N115
    refine own_go (S' := (T115.setTop (mkF m 18 #[.val (.int p0), .val (.int p1), .val (.int p2), .val (.int p3), .val (.int (1 : Int32)), .val (.int z114), .val (.int z115), .unset, .unset, .unset, .unset] [(.int p3)]))) (fun tq kq => st115 tq (XS.istore X115.here hx rfl (hb hby at_15) rfl (l' := #[.val (.int p0), .val (.int p1), .val (.int p2), .val (.int p3), .val (.int (1 : Int32)), .val (.int z114), .val (.int z115), .unset, .unset, .unset, .unset]) rfl (XS.iloadN X115.here hx rfl (hb hby at_17) rfl kq))) ?_
    obtain ⟨_, _, ⟨T116, L116, k116, n116⟩, -, X116, ⟨Lc116, hQ116, l116, y116, z116⟩, st116⟩ := Jvm.LawKit.callS X115 hx (y := (⟨"com/example/davka/davka/AccountingCodeOfPinLaw", "draw", "(I)C"⟩ : MethodName)) hown (mvT hZ (hw _ (List.mem_of_getElem? (i := 0) rfl))) (mvT hZ (hw _ (List.mem_of_getElem? (i := 1) rfl))) (mvT hZ (hw _ (List.mem_of_getElem? (i := 2) rfl))) (mvT hZ (hw _ (List.mem_of_getElem? (i := 3) rfl))) (by decide) (backOf (W := 0) (rm1 l Z a0 hw [] h0 n0 O0 p3) hZ (hw _ (List.mem_of_getElem? (i := 3) rfl)) (hw _ (List.mem_of_getElem? (i := 2) rfl)) (by decide) (by decide)) (g := (mkF m 18 #[.val (.int p0), .val (.int p1), .val (.int p2), .val (.int p3), .val (.int (1 : Int32)), .val (.int z114), .val (.int z115), .unset, .unset, .unset, .unset] [(.int p3)])) rfl (by rw [hml]; rfl) (argsL := [(.int p3)]) (rest := []) (lenOf pd_20 rfl) rfl (by show 2 * 0 + _ ≤ _; exact Nat.le_of_eq rfl) (hb hby at_18) (fun _ _ => ⟨rfl, eh115, (by decide : 0 + 0 ≤ _), (by decide : 0 + 0 ≤ _)⟩)
    dsimp only [Pt.U, Pt.locs, Pt.cells, Pt.slots] at X116 l116 y116 z116 st116 hQ116
    subst l116 y116 z116
    obtain ⟨z116, rfl, r116, N116, eh116⟩ := hQ116
    have Nf116 := Fr.app Nf115 N116
    refine own_go (S' := (T116.setTop (mkF m 49 #[.val (.int p0), .val (.int p1), .val (.int p2), .val (.int p3), .val (.int (1 : Int32)), .val (.int z114), .val (.int z115), .val (.int z116), .unset, .unset, .unset] []))) (fun tq kq => st116 tq (XS.istore X116.here hx rfl (hb hby at_21) rfl (l' := #[.val (.int p0), .val (.int p1), .val (.int p2), .val (.int p3), .val (.int (1 : Int32)), .val (.int z114), .val (.int z115), .val (.int z116), .unset, .unset, .unset]) rfl (XS.iload X116.here hx rfl (hb hby at_23) rfl (XS.ifYes X116.here hx rfl (pc0 := 25) (pc' := 43) rfl (hb hby at_25) rfl ((if0 _ _).trans (feq (by decide : ¬ ((1 : Int32) = (0 : Int32)))).2) (by decide) (by decide) (XS.iload X116.here hx rfl (hb hby at_43) rfl (XS.iconst X116.here hx rfl (hb hby at_45) (XS.icmpNo X116.here hx rfl (hb hby at_46) rfl (teq (by decide : (1 : Int32) = (1 : Int32))).2 kq))))))) ?_
    have hch := r114
    obtain ⟨ch, ech⟩ : ∃ q, q = z114 := ⟨_, rfl⟩
    rw [← ech] at hch ⊢
    rcases own_five ch with hq | hq | hq | hq | ⟨hn0, hn1, hn2, hn3⟩
    · rw [hq]
      refine own_go (S' := (T116.setTop (mkF m 51 #[.val (.int p0), .val (.int p1), .val (.int p2), .val (.int p3), .val (.int (1 : Int32)), .val (.int (48 : Int32)), .val (.int z115), .val (.int z116), .unset, .unset, .unset] [(.int (48 : Int32))]))) (fun tq kq => XS.iload X116.here hx rfl (hb hby at_49) rfl kq) ?_
      obtain ⟨_, _, ⟨T117, L117, k117, n117⟩, -, X117, ⟨Lc117, hQ117, l117, y117, z117⟩, st117⟩ := Jvm.LawKit.callS X116 hx (y := (⟨"java/lang/String", "valueOf", "(C)Ljava/lang/String;"⟩ : MethodName)) hown (mvT hZ (hw _ (List.mem_of_getElem? (i := 68) rfl))) (mvT hZ (hw _ (List.mem_of_getElem? (i := 69) rfl))) (mvT hZ (hw _ (List.mem_of_getElem? (i := 8) rfl))) (mvT hZ (hw _ (List.mem_of_getElem? (i := 70) rfl))) (by decide) (backOf (W := 0) (valc l Z a0 hw [] h0 n0 O0 (48 : Int32) z fm SC hz SA SH SL SF hfm ) hZ (hw _ (List.mem_of_getElem? (i := 70) rfl)) (hw _ (List.mem_of_getElem? (i := 8) rfl)) (by decide) (by decide)) (g := (mkF m 51 #[.val (.int p0), .val (.int p1), .val (.int p2), .val (.int p3), .val (.int (1 : Int32)), .val (.int (48 : Int32)), .val (.int z115), .val (.int z116), .unset, .unset, .unset] [(.int (48 : Int32))])) rfl (by rw [hml]; rfl) (argsL := [(.int (48 : Int32))]) (rest := []) (lenOf pd_27 rfl) rfl (by show 2 * 0 + _ ≤ _; exact Nat.le_of_eq rfl) (hb hby at_51) (fun _ _ => ⟨rfl, eh116, (by decide : 0 + 2 ≤ _), (by decide : 0 + 6 ≤ _)⟩)
      dsimp only [Pt.U, Pt.locs, Pt.cells, Pt.slots] at X117 l117 y117 z117 st117 hQ117
      subst l117 y117 z117
      obtain ⟨b117, rfl, N117, K117, gb117, Eb117, d117, kd117, hor117⟩ := hQ117
      have Nf117 := Fr.app Nf116 N117
      have O117 := O0.keep K117 all0
      have KK117 := K0.trans K117 all0
      have ge_b117 : n0 ≤ b117 := Nat.le_trans (own_osz O0) gb117
      have gk_b117 : h0.size ≤ b117 := Nat.le_trans K0.1 gb117
      refine own_go (S' := (T117.setTop (mkF m 54 #[.val (.int p0), .val (.int p1), .val (.int p2), .val (.int p3), .val (.int (1 : Int32)), .val (.int (48 : Int32)), .val (.int z115), .val (.int z116), .unset, .unset, .unset] [(.ref b117)]))) (fun tq kq => st117 tq kq) ?_
      rcases hor117 with ⟨Fcz, Fvz, Vdz, hcs⟩ | ⟨Fcz, Fvz, Vdz, hcs⟩
      · refine own_go (S' := (T117.setTop (mkF m 119 #[.val (.int p0), .val (.int p1), .val (.int p2), .val (.int p3), .val (.int (1 : Int32)), .val (.int (48 : Int32)), .val (.int z115), .val (.int z116), .val (.ref b117), .unset, .unset] [(.ref b117)]))) (fun tq kq => XS.astore X117.here hx rfl (hb hby at_54) rfl rfl (l' := #[.val (.int p0), .val (.int p1), .val (.int p2), .val (.int p3), .val (.int (1 : Int32)), .val (.int (48 : Int32)), .val (.int z115), .val (.int z116), .val (.ref b117), .unset, .unset]) rfl (XS.goto X117.here hx rfl (pc0 := 56) (pc' := 117) rfl (hb hby at_56) (by decide) (by decide) (XS.aload X117.here hx rfl (hb hby at_117) rfl rfl kq))) ?_
        obtain ⟨_, _, ⟨T118, L118, k118, n118⟩, -, X118, ⟨Lc118, hQ118, l118, y118, z118⟩, st118⟩ := Jvm.LawKit.callS X117 hx (y := (⟨"com/example/davka/davka/AccountingCode", "of", "(Ljava/lang/String;)Ljava/util/Optional;"⟩ : MethodName)) hown (mvT hZ (hw _ (List.mem_of_getElem? (i := 28) rfl))) (mvT hZ (hw _ (List.mem_of_getElem? (i := 29) rfl))) (mvT hZ (hw _ (List.mem_of_getElem? (i := 30) rfl))) (mvT hZ (hw _ (List.mem_of_getElem? (i := 31) rfl))) (by decide) (backOf (W := 0) (ofc0 l Z a0 hw [] T117.heap n0 O117 b117 d117 kd117 em xs kx x0 x1 x2 x3 z fm Eb117 Fcz Fvz Vdz SE EE FE SX VX S0 A0 B0 S1 A1 B1 S2 A2 B2 S3 A3 B3 SC hz SA SH SL SF hfm) hZ (hw _ (List.mem_of_getElem? (i := 31) rfl)) (hw _ (List.mem_of_getElem? (i := 30) rfl)) (by decide) (by decide)) (g := (mkF m 119 #[.val (.int p0), .val (.int p1), .val (.int p2), .val (.int p3), .val (.int (1 : Int32)), .val (.int (48 : Int32)), .val (.int z115), .val (.int z116), .val (.ref b117), .unset, .unset] [(.ref b117)])) rfl (by rw [hml]; rfl) (argsL := [(.ref b117)]) (rest := []) (lenOf pd_24 rfl) rfl (by show 2 * 0 + _ ≤ _; exact Nat.le_of_eq rfl) (hb hby at_119) (fun _ _ => ⟨rfl, rfl, (by decide : 2 + 1 ≤ _), (by decide : 6 + 1 ≤ _)⟩)
        dsimp only [Pt.U, Pt.locs, Pt.cells, Pt.slots] at X118 l118 y118 z118 st118 hQ118
        subst l118 y118 z118
        obtain ⟨b118, rfl, N118, K118, gb118, Eb118, Fb118⟩ := hQ118
        have Nf118 := Fr.app Nf117 N118
        have O118 := O117.keep K118 all0
        have KK118 := KK117.trans K118 all0
        have ne_b117_b118 : b117 ≠ b118 := Nat.ne_of_lt (Nat.lt_of_lt_of_le Eb117.lt gb118)
        have ne_d117_b118 : d117 ≠ b118 := Nat.ne_of_lt (Nat.lt_of_lt_of_le Vdz.lt gb118)
        have ge_b118 : n0 ≤ b118 := Nat.le_trans (own_osz O117) gb118
        have gk_b118 : h0.size ≤ b118 := Nat.le_trans KK117.1 gb118
        refine own_go (S' := (T118.setTop (mkF m 127 #[.val (.int p0), .val (.int p1), .val (.int p2), .val (.int p3), .val (.int (1 : Int32)), .val (.int (48 : Int32)), .val (.int z115), .val (.int z116), .val (.ref b117), .val (.ref b118), .unset] [.null, (.ref b118)]))) (fun tq kq => st118 tq (XS.astore X118.here hx rfl (hb hby at_122) rfl rfl (l' := #[.val (.int p0), .val (.int p1), .val (.int p2), .val (.int p3), .val (.int (1 : Int32)), .val (.int (48 : Int32)), .val (.int z115), .val (.int z116), .val (.ref b117), .val (.ref b118), .unset]) rfl (XS.aload X118.here hx rfl (hb hby at_124) rfl rfl (XS.aconstNull X118.here hx rfl (hb hby at_126) kq)))) ?_
        obtain ⟨cq119, kq119, q119a, q119b, q119c⟩ := isOf hZ rfl Eb118
        obtain ⟨_, _, ⟨T119, L119, k119, n119⟩, -, X119, ⟨Lc119, hQ119, l119, y119, z119⟩, st119⟩ := X118.virtualBack hx (y := (⟨"java/util/Optional", "orElse", "(Ljava/lang/Object;)Ljava/lang/Object;"⟩ : MethodName)) (z := (⟨"java/util/Optional", "orElse", "(Ljava/lang/Object;)Ljava/lang/Object;"⟩ : MethodName)) hown (mvT hZ (hw _ (List.mem_of_getElem? (i := 48) rfl))) (mvT hZ (hw _ (List.mem_of_getElem? (i := 49) rfl))) (notFace_of_selects (args := #[]) (mvT hZ (hw _ (List.mem_of_getElem? (i := 51) rfl)))) (mvT hZ (hw _ (List.mem_of_getElem? (i := 51) rfl))) (mvT hZ (hw _ (List.mem_of_getElem? (i := 50) rfl))) (by decide) (backOf (W := 0) (orr l Z a0 hw [] T118.heap n0 O118 b118 x0 Fb118) hZ (hw _ (List.mem_of_getElem? (i := 52) rfl)) (hw _ (List.mem_of_getElem? (i := 45) rfl)) (by decide) (by decide)) q119a q119c (g := (mkF m 127 #[.val (.int p0), .val (.int p1), .val (.int p2), .val (.int p3), .val (.int (1 : Int32)), .val (.int (48 : Int32)), .val (.int z115), .val (.int z116), .val (.ref b117), .val (.ref b118), .unset] [.null, (.ref b118)])) rfl (by rw [hml]; rfl) (Steps.refl _) (argsL := [.null]) (rest := []) (lenOf pd_25 rfl) rfl (by show 2 * 0 + _ ≤ _; exact Nat.le_of_eq rfl) (hb hby at_127) (fun _ _ => ⟨rfl, rfl, (by decide : 3 + 0 ≤ _), (by decide : 7 + 0 ≤ _)⟩)
        dsimp only [Pt.U, Pt.locs, Pt.cells, Pt.slots] at X119 l119 y119 z119 st119 hQ119
        subst l119 y119 z119
        obtain ⟨rfl, N119, eh119⟩ := hQ119
        have Nf119 := Fr.app Nf118 N119
        refine own_go (S' := (T119.setTop (mkF m 130 #[.val (.int p0), .val (.int p1), .val (.int p2), .val (.int p3), .val (.int (1 : Int32)), .val (.int (48 : Int32)), .val (.int z115), .val (.int z116), .val (.ref b117), .val (.ref b118), .unset] [(.ref x0)]))) (fun tq kq => st119.trans kq) ?_
        obtain ⟨T120, X120, e120, st120⟩ := castY X119 hx hZ hown (hw _ (List.mem_of_getElem? (i := 156) rfl)) eh119 (Ins.self (A0.ext O118.2)) (g := (mkF m 130 #[.val (.int p0), .val (.int p1), .val (.int p2), .val (.int p3), .val (.int (1 : Int32)), .val (.int (48 : Int32)), .val (.int z115), .val (.int z116), .val (.ref b117), .val (.ref b118), .unset] [(.ref x0)])) rfl rfl (hb hby at_130)
        refine own_go (S' := (T120.setTop (mkF m 141 #[.val (.int p0), .val (.int p1), .val (.int p2), .val (.int p3), .val (.int (1 : Int32)), .val (.int (48 : Int32)), .val (.int z115), .val (.int z116), .val (.ref b117), .val (.ref b118), .val (.ref x0)] [(.int (48 : Int32)), (.int (1 : Int32)), (.ref x0)]))) (fun tq kq => st120 tq (XS.astore X120.here hx rfl (hb hby at_133) rfl rfl (l' := #[.val (.int p0), .val (.int p1), .val (.int p2), .val (.int p3), .val (.int (1 : Int32)), .val (.int (48 : Int32)), .val (.int z115), .val (.int z116), .val (.ref b117), .val (.ref b118), .val (.ref x0)]) rfl (XS.aload X120.here hx rfl (hb hby at_135) rfl rfl (XS.iload X120.here hx rfl (hb hby at_137) rfl (XS.iload X120.here hx rfl (hb hby at_139) rfl kq))))) ?_
        obtain ⟨_, _, ⟨T121, L121, k121, n121⟩, -, X121, ⟨Lc121, hQ121, l121, y121, z121⟩, st121⟩ := Jvm.LawKit.callS X120 hx (y := (⟨"com/example/davka/davka/AccountingCodeOfPinLaw", "expected", "(IC)Lcom/example/davka/davka/AccountingCode;"⟩ : MethodName)) hown (mvT hZ (hw _ (List.mem_of_getElem? (i := 55) rfl))) (mvT hZ (hw _ (List.mem_of_getElem? (i := 56) rfl))) (mvT hZ (hw _ (List.mem_of_getElem? (i := 2) rfl))) (mvT hZ (hw _ (List.mem_of_getElem? (i := 57) rfl))) (by decide) (backOf (W := 1) (ex0 l Z a0 hw [] T118.heap n0 O118 xs kx x0 x1 x2 x3 SX VX S0 A0 B0 S1 A1 B1 S2 A2 B2 S3 A3 B3) hZ (hw _ (List.mem_of_getElem? (i := 57) rfl)) (hw _ (List.mem_of_getElem? (i := 2) rfl)) (by decide) (by decide)) (g := (mkF m 141 #[.val (.int p0), .val (.int p1), .val (.int p2), .val (.int p3), .val (.int (1 : Int32)), .val (.int (48 : Int32)), .val (.int z115), .val (.int z116), .val (.ref b117), .val (.ref b118), .val (.ref x0)] [(.int (48 : Int32)), (.int (1 : Int32)), (.ref x0)])) rfl (by rw [hml]; rfl) (argsL := [(.int (1 : Int32)), (.int (48 : Int32))]) (rest := [(.ref x0)]) (lenOf pd_26 rfl) rfl (by show 2 * 0 + _ ≤ _; exact Nat.le_of_eq rfl) (hb hby at_141) (fun _ _ => ⟨rfl, e120, (by decide : 3 + 0 ≤ _), (by decide : 7 + 0 ≤ _)⟩)
        dsimp only [Pt.U, Pt.locs, Pt.cells, Pt.slots] at X121 l121 y121 z121 st121 hQ121
        subst l121 y121 z121
        obtain ⟨rfl, N121, eh121⟩ := hQ121
        have Nf121 := Fr.app Nf119 N121
        refine own_go (S' := (T121.setTop (mkF m 152 #[.val (.int p0), .val (.int p1), .val (.int p2), .val (.int p3), .val (.int (1 : Int32)), .val (.int (48 : Int32)), .val (.int z115), .val (.int z116), .val (.ref b117), .val (.ref b118), .val (.ref x0)] [(.int (1 : Int32))]))) (fun tq kq => st121 tq (Jvm.RoadKit.acmp (g := (mkF m 144 #[.val (.int p0), .val (.int p1), .val (.int p2), .val (.int p3), .val (.int (1 : Int32)), .val (.int (48 : Int32)), .val (.int z115), .val (.int z116), .val (.ref b117), .val (.ref b118), .val (.ref x0)] [(.ref x0), (.ref x0)])) X121 hx rfl rfl rfl (pc0 := 144) (pc' := 147) (same := true) rfl (hb hby at_144) rfl (decide_eq_true rfl) (by decide) (by decide) (XS.iconst X121.here hx rfl (hb hby at_147) (XS.goto X121.here hx rfl (pc0 := 148) (pc' := 152) rfl (hb hby at_148) (by decide) (by decide) kq)))) ?_
        refine own_retN X121 hx hlk hret (by simp) (hb hby at_152) (by decide) (by decide) ?_
        exact ⟨rfl, Nf121⟩
      · exact absurd hcs (by decide)
    · rw [hq]
      refine own_go (S' := (T116.setTop (mkF m 51 #[.val (.int p0), .val (.int p1), .val (.int p2), .val (.int p3), .val (.int (1 : Int32)), .val (.int (49 : Int32)), .val (.int z115), .val (.int z116), .unset, .unset, .unset] [(.int (49 : Int32))]))) (fun tq kq => XS.iload X116.here hx rfl (hb hby at_49) rfl kq) ?_
      obtain ⟨_, _, ⟨T122, L122, k122, n122⟩, -, X122, ⟨Lc122, hQ122, l122, y122, z122⟩, st122⟩ := Jvm.LawKit.callS X116 hx (y := (⟨"java/lang/String", "valueOf", "(C)Ljava/lang/String;"⟩ : MethodName)) hown (mvT hZ (hw _ (List.mem_of_getElem? (i := 68) rfl))) (mvT hZ (hw _ (List.mem_of_getElem? (i := 69) rfl))) (mvT hZ (hw _ (List.mem_of_getElem? (i := 8) rfl))) (mvT hZ (hw _ (List.mem_of_getElem? (i := 70) rfl))) (by decide) (backOf (W := 0) (valc l Z a0 hw [] h0 n0 O0 (49 : Int32) z fm SC hz SA SH SL SF hfm ) hZ (hw _ (List.mem_of_getElem? (i := 70) rfl)) (hw _ (List.mem_of_getElem? (i := 8) rfl)) (by decide) (by decide)) (g := (mkF m 51 #[.val (.int p0), .val (.int p1), .val (.int p2), .val (.int p3), .val (.int (1 : Int32)), .val (.int (49 : Int32)), .val (.int z115), .val (.int z116), .unset, .unset, .unset] [(.int (49 : Int32))])) rfl (by rw [hml]; rfl) (argsL := [(.int (49 : Int32))]) (rest := []) (lenOf pd_27 rfl) rfl (by show 2 * 0 + _ ≤ _; exact Nat.le_of_eq rfl) (hb hby at_51) (fun _ _ => ⟨rfl, eh116, (by decide : 0 + 2 ≤ _), (by decide : 0 + 6 ≤ _)⟩)
      dsimp only [Pt.U, Pt.locs, Pt.cells, Pt.slots] at X122 l122 y122 z122 st122 hQ122
      subst l122 y122 z122
      obtain ⟨b122, rfl, N122, K122, gb122, Eb122, d122, kd122, hor122⟩ := hQ122
      have Nf122 := Fr.app Nf116 N122
      have O122 := O0.keep K122 all0
      have KK122 := K0.trans K122 all0
      have ge_b122 : n0 ≤ b122 := Nat.le_trans (own_osz O0) gb122
      have gk_b122 : h0.size ≤ b122 := Nat.le_trans K0.1 gb122
      refine own_go (S' := (T122.setTop (mkF m 54 #[.val (.int p0), .val (.int p1), .val (.int p2), .val (.int p3), .val (.int (1 : Int32)), .val (.int (49 : Int32)), .val (.int z115), .val (.int z116), .unset, .unset, .unset] [(.ref b122)]))) (fun tq kq => st122 tq kq) ?_
      rcases hor122 with ⟨Fcz, Fvz, Vdz, hcs⟩ | ⟨Fcz, Fvz, Vdz, hcs⟩
      · refine own_go (S' := (T122.setTop (mkF m 119 #[.val (.int p0), .val (.int p1), .val (.int p2), .val (.int p3), .val (.int (1 : Int32)), .val (.int (49 : Int32)), .val (.int z115), .val (.int z116), .val (.ref b122), .unset, .unset] [(.ref b122)]))) (fun tq kq => XS.astore X122.here hx rfl (hb hby at_54) rfl rfl (l' := #[.val (.int p0), .val (.int p1), .val (.int p2), .val (.int p3), .val (.int (1 : Int32)), .val (.int (49 : Int32)), .val (.int z115), .val (.int z116), .val (.ref b122), .unset, .unset]) rfl (XS.goto X122.here hx rfl (pc0 := 56) (pc' := 117) rfl (hb hby at_56) (by decide) (by decide) (XS.aload X122.here hx rfl (hb hby at_117) rfl rfl kq))) ?_
        obtain ⟨_, _, ⟨T123, L123, k123, n123⟩, -, X123, ⟨Lc123, hQ123, l123, y123, z123⟩, st123⟩ := Jvm.LawKit.callS X122 hx (y := (⟨"com/example/davka/davka/AccountingCode", "of", "(Ljava/lang/String;)Ljava/util/Optional;"⟩ : MethodName)) hown (mvT hZ (hw _ (List.mem_of_getElem? (i := 28) rfl))) (mvT hZ (hw _ (List.mem_of_getElem? (i := 29) rfl))) (mvT hZ (hw _ (List.mem_of_getElem? (i := 30) rfl))) (mvT hZ (hw _ (List.mem_of_getElem? (i := 31) rfl))) (by decide) (backOf (W := 0) (ofc1 l Z a0 hw [] T122.heap n0 O122 b122 d122 kd122 em xs kx x0 x1 x2 x3 z fm Eb122 Fcz Fvz Vdz SE EE FE SX VX S0 A0 B0 S1 A1 B1 S2 A2 B2 S3 A3 B3 SC hz SA SH SL SF hfm) hZ (hw _ (List.mem_of_getElem? (i := 31) rfl)) (hw _ (List.mem_of_getElem? (i := 30) rfl)) (by decide) (by decide)) (g := (mkF m 119 #[.val (.int p0), .val (.int p1), .val (.int p2), .val (.int p3), .val (.int (1 : Int32)), .val (.int (49 : Int32)), .val (.int z115), .val (.int z116), .val (.ref b122), .unset, .unset] [(.ref b122)])) rfl (by rw [hml]; rfl) (argsL := [(.ref b122)]) (rest := []) (lenOf pd_24 rfl) rfl (by show 2 * 0 + _ ≤ _; exact Nat.le_of_eq rfl) (hb hby at_119) (fun _ _ => ⟨rfl, rfl, (by decide : 2 + 1 ≤ _), (by decide : 6 + 1 ≤ _)⟩)
        dsimp only [Pt.U, Pt.locs, Pt.cells, Pt.slots] at X123 l123 y123 z123 st123 hQ123
        subst l123 y123 z123
        obtain ⟨b123, rfl, N123, K123, gb123, Eb123, Fb123⟩ := hQ123
        have Nf123 := Fr.app Nf122 N123
        have O123 := O122.keep K123 all0
        have KK123 := KK122.trans K123 all0
        have ne_b122_b123 : b122 ≠ b123 := Nat.ne_of_lt (Nat.lt_of_lt_of_le Eb122.lt gb123)
        have ne_d122_b123 : d122 ≠ b123 := Nat.ne_of_lt (Nat.lt_of_lt_of_le Vdz.lt gb123)
        have ge_b123 : n0 ≤ b123 := Nat.le_trans (own_osz O122) gb123
        have gk_b123 : h0.size ≤ b123 := Nat.le_trans KK122.1 gb123
        refine own_go (S' := (T123.setTop (mkF m 127 #[.val (.int p0), .val (.int p1), .val (.int p2), .val (.int p3), .val (.int (1 : Int32)), .val (.int (49 : Int32)), .val (.int z115), .val (.int z116), .val (.ref b122), .val (.ref b123), .unset] [.null, (.ref b123)]))) (fun tq kq => st123 tq (XS.astore X123.here hx rfl (hb hby at_122) rfl rfl (l' := #[.val (.int p0), .val (.int p1), .val (.int p2), .val (.int p3), .val (.int (1 : Int32)), .val (.int (49 : Int32)), .val (.int z115), .val (.int z116), .val (.ref b122), .val (.ref b123), .unset]) rfl (XS.aload X123.here hx rfl (hb hby at_124) rfl rfl (XS.aconstNull X123.here hx rfl (hb hby at_126) kq)))) ?_
        obtain ⟨cq124, kq124, q124a, q124b, q124c⟩ := isOf hZ rfl Eb123
        obtain ⟨_, _, ⟨T124, L124, k124, n124⟩, -, X124, ⟨Lc124, hQ124, l124, y124, z124⟩, st124⟩ := X123.virtualBack hx (y := (⟨"java/util/Optional", "orElse", "(Ljava/lang/Object;)Ljava/lang/Object;"⟩ : MethodName)) (z := (⟨"java/util/Optional", "orElse", "(Ljava/lang/Object;)Ljava/lang/Object;"⟩ : MethodName)) hown (mvT hZ (hw _ (List.mem_of_getElem? (i := 48) rfl))) (mvT hZ (hw _ (List.mem_of_getElem? (i := 49) rfl))) (notFace_of_selects (args := #[]) (mvT hZ (hw _ (List.mem_of_getElem? (i := 51) rfl)))) (mvT hZ (hw _ (List.mem_of_getElem? (i := 51) rfl))) (mvT hZ (hw _ (List.mem_of_getElem? (i := 50) rfl))) (by decide) (backOf (W := 0) (orr l Z a0 hw [] T123.heap n0 O123 b123 x1 Fb123) hZ (hw _ (List.mem_of_getElem? (i := 52) rfl)) (hw _ (List.mem_of_getElem? (i := 45) rfl)) (by decide) (by decide)) q124a q124c (g := (mkF m 127 #[.val (.int p0), .val (.int p1), .val (.int p2), .val (.int p3), .val (.int (1 : Int32)), .val (.int (49 : Int32)), .val (.int z115), .val (.int z116), .val (.ref b122), .val (.ref b123), .unset] [.null, (.ref b123)])) rfl (by rw [hml]; rfl) (Steps.refl _) (argsL := [.null]) (rest := []) (lenOf pd_25 rfl) rfl (by show 2 * 0 + _ ≤ _; exact Nat.le_of_eq rfl) (hb hby at_127) (fun _ _ => ⟨rfl, rfl, (by decide : 3 + 0 ≤ _), (by decide : 7 + 0 ≤ _)⟩)
        dsimp only [Pt.U, Pt.locs, Pt.cells, Pt.slots] at X124 l124 y124 z124 st124 hQ124
        subst l124 y124 z124
        obtain ⟨rfl, N124, eh124⟩ := hQ124
        have Nf124 := Fr.app Nf123 N124
        refine own_go (S' := (T124.setTop (mkF m 130 #[.val (.int p0), .val (.int p1), .val (.int p2), .val (.int p3), .val (.int (1 : Int32)), .val (.int (49 : Int32)), .val (.int z115), .val (.int z116), .val (.ref b122), .val (.ref b123), .unset] [(.ref x1)]))) (fun tq kq => st124.trans kq) ?_
        obtain ⟨T125, X125, e125, st125⟩ := castY X124 hx hZ hown (hw _ (List.mem_of_getElem? (i := 156) rfl)) eh124 (Ins.self (A1.ext O123.2)) (g := (mkF m 130 #[.val (.int p0), .val (.int p1), .val (.int p2), .val (.int p3), .val (.int (1 : Int32)), .val (.int (49 : Int32)), .val (.int z115), .val (.int z116), .val (.ref b122), .val (.ref b123), .unset] [(.ref x1)])) rfl rfl (hb hby at_130)
        refine own_go (S' := (T125.setTop (mkF m 141 #[.val (.int p0), .val (.int p1), .val (.int p2), .val (.int p3), .val (.int (1 : Int32)), .val (.int (49 : Int32)), .val (.int z115), .val (.int z116), .val (.ref b122), .val (.ref b123), .val (.ref x1)] [(.int (49 : Int32)), (.int (1 : Int32)), (.ref x1)]))) (fun tq kq => st125 tq (XS.astore X125.here hx rfl (hb hby at_133) rfl rfl (l' := #[.val (.int p0), .val (.int p1), .val (.int p2), .val (.int p3), .val (.int (1 : Int32)), .val (.int (49 : Int32)), .val (.int z115), .val (.int z116), .val (.ref b122), .val (.ref b123), .val (.ref x1)]) rfl (XS.aload X125.here hx rfl (hb hby at_135) rfl rfl (XS.iload X125.here hx rfl (hb hby at_137) rfl (XS.iload X125.here hx rfl (hb hby at_139) rfl kq))))) ?_
        obtain ⟨_, _, ⟨T126, L126, k126, n126⟩, -, X126, ⟨Lc126, hQ126, l126, y126, z126⟩, st126⟩ := Jvm.LawKit.callS X125 hx (y := (⟨"com/example/davka/davka/AccountingCodeOfPinLaw", "expected", "(IC)Lcom/example/davka/davka/AccountingCode;"⟩ : MethodName)) hown (mvT hZ (hw _ (List.mem_of_getElem? (i := 55) rfl))) (mvT hZ (hw _ (List.mem_of_getElem? (i := 56) rfl))) (mvT hZ (hw _ (List.mem_of_getElem? (i := 2) rfl))) (mvT hZ (hw _ (List.mem_of_getElem? (i := 57) rfl))) (by decide) (backOf (W := 1) (ex1 l Z a0 hw [] T123.heap n0 O123 xs kx x0 x1 x2 x3 SX VX S0 A0 B0 S1 A1 B1 S2 A2 B2 S3 A3 B3) hZ (hw _ (List.mem_of_getElem? (i := 57) rfl)) (hw _ (List.mem_of_getElem? (i := 2) rfl)) (by decide) (by decide)) (g := (mkF m 141 #[.val (.int p0), .val (.int p1), .val (.int p2), .val (.int p3), .val (.int (1 : Int32)), .val (.int (49 : Int32)), .val (.int z115), .val (.int z116), .val (.ref b122), .val (.ref b123), .val (.ref x1)] [(.int (49 : Int32)), (.int (1 : Int32)), (.ref x1)])) rfl (by rw [hml]; rfl) (argsL := [(.int (1 : Int32)), (.int (49 : Int32))]) (rest := [(.ref x1)]) (lenOf pd_26 rfl) rfl (by show 2 * 0 + _ ≤ _; exact Nat.le_of_eq rfl) (hb hby at_141) (fun _ _ => ⟨rfl, e125, (by decide : 3 + 0 ≤ _), (by decide : 7 + 0 ≤ _)⟩)
        dsimp only [Pt.U, Pt.locs, Pt.cells, Pt.slots] at X126 l126 y126 z126 st126 hQ126
        subst l126 y126 z126
        obtain ⟨rfl, N126, eh126⟩ := hQ126
        have Nf126 := Fr.app Nf124 N126
        refine own_go (S' := (T126.setTop (mkF m 152 #[.val (.int p0), .val (.int p1), .val (.int p2), .val (.int p3), .val (.int (1 : Int32)), .val (.int (49 : Int32)), .val (.int z115), .val (.int z116), .val (.ref b122), .val (.ref b123), .val (.ref x1)] [(.int (1 : Int32))]))) (fun tq kq => st126 tq (Jvm.RoadKit.acmp (g := (mkF m 144 #[.val (.int p0), .val (.int p1), .val (.int p2), .val (.int p3), .val (.int (1 : Int32)), .val (.int (49 : Int32)), .val (.int z115), .val (.int z116), .val (.ref b122), .val (.ref b123), .val (.ref x1)] [(.ref x1), (.ref x1)])) X126 hx rfl rfl rfl (pc0 := 144) (pc' := 147) (same := true) rfl (hb hby at_144) rfl (decide_eq_true rfl) (by decide) (by decide) (XS.iconst X126.here hx rfl (hb hby at_147) (XS.goto X126.here hx rfl (pc0 := 148) (pc' := 152) rfl (hb hby at_148) (by decide) (by decide) kq)))) ?_
        refine own_retN X126 hx hlk hret (by simp) (hb hby at_152) (by decide) (by decide) ?_
        exact ⟨rfl, Nf126⟩
      · exact absurd hcs (by decide)
    · rw [hq]
      refine own_go (S' := (T116.setTop (mkF m 51 #[.val (.int p0), .val (.int p1), .val (.int p2), .val (.int p3), .val (.int (1 : Int32)), .val (.int (50 : Int32)), .val (.int z115), .val (.int z116), .unset, .unset, .unset] [(.int (50 : Int32))]))) (fun tq kq => XS.iload X116.here hx rfl (hb hby at_49) rfl kq) ?_
      obtain ⟨_, _, ⟨T127, L127, k127, n127⟩, -, X127, ⟨Lc127, hQ127, l127, y127, z127⟩, st127⟩ := Jvm.LawKit.callS X116 hx (y := (⟨"java/lang/String", "valueOf", "(C)Ljava/lang/String;"⟩ : MethodName)) hown (mvT hZ (hw _ (List.mem_of_getElem? (i := 68) rfl))) (mvT hZ (hw _ (List.mem_of_getElem? (i := 69) rfl))) (mvT hZ (hw _ (List.mem_of_getElem? (i := 8) rfl))) (mvT hZ (hw _ (List.mem_of_getElem? (i := 70) rfl))) (by decide) (backOf (W := 0) (valc l Z a0 hw [] h0 n0 O0 (50 : Int32) z fm SC hz SA SH SL SF hfm ) hZ (hw _ (List.mem_of_getElem? (i := 70) rfl)) (hw _ (List.mem_of_getElem? (i := 8) rfl)) (by decide) (by decide)) (g := (mkF m 51 #[.val (.int p0), .val (.int p1), .val (.int p2), .val (.int p3), .val (.int (1 : Int32)), .val (.int (50 : Int32)), .val (.int z115), .val (.int z116), .unset, .unset, .unset] [(.int (50 : Int32))])) rfl (by rw [hml]; rfl) (argsL := [(.int (50 : Int32))]) (rest := []) (lenOf pd_27 rfl) rfl (by show 2 * 0 + _ ≤ _; exact Nat.le_of_eq rfl) (hb hby at_51) (fun _ _ => ⟨rfl, eh116, (by decide : 0 + 2 ≤ _), (by decide : 0 + 6 ≤ _)⟩)
      dsimp only [Pt.U, Pt.locs, Pt.cells, Pt.slots] at X127 l127 y127 z127 st127 hQ127
      subst l127 y127 z127
      obtain ⟨b127, rfl, N127, K127, gb127, Eb127, d127, kd127, hor127⟩ := hQ127
      have Nf127 := Fr.app Nf116 N127
      have O127 := O0.keep K127 all0
      have KK127 := K0.trans K127 all0
      have ge_b127 : n0 ≤ b127 := Nat.le_trans (own_osz O0) gb127
      have gk_b127 : h0.size ≤ b127 := Nat.le_trans K0.1 gb127
      refine own_go (S' := (T127.setTop (mkF m 54 #[.val (.int p0), .val (.int p1), .val (.int p2), .val (.int p3), .val (.int (1 : Int32)), .val (.int (50 : Int32)), .val (.int z115), .val (.int z116), .unset, .unset, .unset] [(.ref b127)]))) (fun tq kq => st127 tq kq) ?_
      rcases hor127 with ⟨Fcz, Fvz, Vdz, hcs⟩ | ⟨Fcz, Fvz, Vdz, hcs⟩
      · refine own_go (S' := (T127.setTop (mkF m 119 #[.val (.int p0), .val (.int p1), .val (.int p2), .val (.int p3), .val (.int (1 : Int32)), .val (.int (50 : Int32)), .val (.int z115), .val (.int z116), .val (.ref b127), .unset, .unset] [(.ref b127)]))) (fun tq kq => XS.astore X127.here hx rfl (hb hby at_54) rfl rfl (l' := #[.val (.int p0), .val (.int p1), .val (.int p2), .val (.int p3), .val (.int (1 : Int32)), .val (.int (50 : Int32)), .val (.int z115), .val (.int z116), .val (.ref b127), .unset, .unset]) rfl (XS.goto X127.here hx rfl (pc0 := 56) (pc' := 117) rfl (hb hby at_56) (by decide) (by decide) (XS.aload X127.here hx rfl (hb hby at_117) rfl rfl kq))) ?_
        obtain ⟨_, _, ⟨T128, L128, k128, n128⟩, -, X128, ⟨Lc128, hQ128, l128, y128, z128⟩, st128⟩ := Jvm.LawKit.callS X127 hx (y := (⟨"com/example/davka/davka/AccountingCode", "of", "(Ljava/lang/String;)Ljava/util/Optional;"⟩ : MethodName)) hown (mvT hZ (hw _ (List.mem_of_getElem? (i := 28) rfl))) (mvT hZ (hw _ (List.mem_of_getElem? (i := 29) rfl))) (mvT hZ (hw _ (List.mem_of_getElem? (i := 30) rfl))) (mvT hZ (hw _ (List.mem_of_getElem? (i := 31) rfl))) (by decide) (backOf (W := 0) (ofc2 l Z a0 hw [] T127.heap n0 O127 b127 d127 kd127 em xs kx x0 x1 x2 x3 z fm Eb127 Fcz Fvz Vdz SE EE FE SX VX S0 A0 B0 S1 A1 B1 S2 A2 B2 S3 A3 B3 SC hz SA SH SL SF hfm) hZ (hw _ (List.mem_of_getElem? (i := 31) rfl)) (hw _ (List.mem_of_getElem? (i := 30) rfl)) (by decide) (by decide)) (g := (mkF m 119 #[.val (.int p0), .val (.int p1), .val (.int p2), .val (.int p3), .val (.int (1 : Int32)), .val (.int (50 : Int32)), .val (.int z115), .val (.int z116), .val (.ref b127), .unset, .unset] [(.ref b127)])) rfl (by rw [hml]; rfl) (argsL := [(.ref b127)]) (rest := []) (lenOf pd_24 rfl) rfl (by show 2 * 0 + _ ≤ _; exact Nat.le_of_eq rfl) (hb hby at_119) (fun _ _ => ⟨rfl, rfl, (by decide : 2 + 1 ≤ _), (by decide : 6 + 1 ≤ _)⟩)
        dsimp only [Pt.U, Pt.locs, Pt.cells, Pt.slots] at X128 l128 y128 z128 st128 hQ128
        subst l128 y128 z128
        obtain ⟨b128, rfl, N128, K128, gb128, Eb128, Fb128⟩ := hQ128
        have Nf128 := Fr.app Nf127 N128
        have O128 := O127.keep K128 all0
        have KK128 := KK127.trans K128 all0
        have ne_b127_b128 : b127 ≠ b128 := Nat.ne_of_lt (Nat.lt_of_lt_of_le Eb127.lt gb128)
        have ne_d127_b128 : d127 ≠ b128 := Nat.ne_of_lt (Nat.lt_of_lt_of_le Vdz.lt gb128)
        have ge_b128 : n0 ≤ b128 := Nat.le_trans (own_osz O127) gb128
        have gk_b128 : h0.size ≤ b128 := Nat.le_trans KK127.1 gb128
        refine own_go (S' := (T128.setTop (mkF m 127 #[.val (.int p0), .val (.int p1), .val (.int p2), .val (.int p3), .val (.int (1 : Int32)), .val (.int (50 : Int32)), .val (.int z115), .val (.int z116), .val (.ref b127), .val (.ref b128), .unset] [.null, (.ref b128)]))) (fun tq kq => st128 tq (XS.astore X128.here hx rfl (hb hby at_122) rfl rfl (l' := #[.val (.int p0), .val (.int p1), .val (.int p2), .val (.int p3), .val (.int (1 : Int32)), .val (.int (50 : Int32)), .val (.int z115), .val (.int z116), .val (.ref b127), .val (.ref b128), .unset]) rfl (XS.aload X128.here hx rfl (hb hby at_124) rfl rfl (XS.aconstNull X128.here hx rfl (hb hby at_126) kq)))) ?_
        obtain ⟨cq129, kq129, q129a, q129b, q129c⟩ := isOf hZ rfl Eb128
        obtain ⟨_, _, ⟨T129, L129, k129, n129⟩, -, X129, ⟨Lc129, hQ129, l129, y129, z129⟩, st129⟩ := X128.virtualBack hx (y := (⟨"java/util/Optional", "orElse", "(Ljava/lang/Object;)Ljava/lang/Object;"⟩ : MethodName)) (z := (⟨"java/util/Optional", "orElse", "(Ljava/lang/Object;)Ljava/lang/Object;"⟩ : MethodName)) hown (mvT hZ (hw _ (List.mem_of_getElem? (i := 48) rfl))) (mvT hZ (hw _ (List.mem_of_getElem? (i := 49) rfl))) (notFace_of_selects (args := #[]) (mvT hZ (hw _ (List.mem_of_getElem? (i := 51) rfl)))) (mvT hZ (hw _ (List.mem_of_getElem? (i := 51) rfl))) (mvT hZ (hw _ (List.mem_of_getElem? (i := 50) rfl))) (by decide) (backOf (W := 0) (orr l Z a0 hw [] T128.heap n0 O128 b128 x2 Fb128) hZ (hw _ (List.mem_of_getElem? (i := 52) rfl)) (hw _ (List.mem_of_getElem? (i := 45) rfl)) (by decide) (by decide)) q129a q129c (g := (mkF m 127 #[.val (.int p0), .val (.int p1), .val (.int p2), .val (.int p3), .val (.int (1 : Int32)), .val (.int (50 : Int32)), .val (.int z115), .val (.int z116), .val (.ref b127), .val (.ref b128), .unset] [.null, (.ref b128)])) rfl (by rw [hml]; rfl) (Steps.refl _) (argsL := [.null]) (rest := []) (lenOf pd_25 rfl) rfl (by show 2 * 0 + _ ≤ _; exact Nat.le_of_eq rfl) (hb hby at_127) (fun _ _ => ⟨rfl, rfl, (by decide : 3 + 0 ≤ _), (by decide : 7 + 0 ≤ _)⟩)
        dsimp only [Pt.U, Pt.locs, Pt.cells, Pt.slots] at X129 l129 y129 z129 st129 hQ129
        subst l129 y129 z129
        obtain ⟨rfl, N129, eh129⟩ := hQ129
        have Nf129 := Fr.app Nf128 N129
        refine own_go (S' := (T129.setTop (mkF m 130 #[.val (.int p0), .val (.int p1), .val (.int p2), .val (.int p3), .val (.int (1 : Int32)), .val (.int (50 : Int32)), .val (.int z115), .val (.int z116), .val (.ref b127), .val (.ref b128), .unset] [(.ref x2)]))) (fun tq kq => st129.trans kq) ?_
        obtain ⟨T130, X130, e130, st130⟩ := castY X129 hx hZ hown (hw _ (List.mem_of_getElem? (i := 156) rfl)) eh129 (Ins.self (A2.ext O128.2)) (g := (mkF m 130 #[.val (.int p0), .val (.int p1), .val (.int p2), .val (.int p3), .val (.int (1 : Int32)), .val (.int (50 : Int32)), .val (.int z115), .val (.int z116), .val (.ref b127), .val (.ref b128), .unset] [(.ref x2)])) rfl rfl (hb hby at_130)
        refine own_go (S' := (T130.setTop (mkF m 141 #[.val (.int p0), .val (.int p1), .val (.int p2), .val (.int p3), .val (.int (1 : Int32)), .val (.int (50 : Int32)), .val (.int z115), .val (.int z116), .val (.ref b127), .val (.ref b128), .val (.ref x2)] [(.int (50 : Int32)), (.int (1 : Int32)), (.ref x2)]))) (fun tq kq => st130 tq (XS.astore X130.here hx rfl (hb hby at_133) rfl rfl (l' := #[.val (.int p0), .val (.int p1), .val (.int p2), .val (.int p3), .val (.int (1 : Int32)), .val (.int (50 : Int32)), .val (.int z115), .val (.int z116), .val (.ref b127), .val (.ref b128), .val (.ref x2)]) rfl (XS.aload X130.here hx rfl (hb hby at_135) rfl rfl (XS.iload X130.here hx rfl (hb hby at_137) rfl (XS.iload X130.here hx rfl (hb hby at_139) rfl kq))))) ?_
        obtain ⟨_, _, ⟨T131, L131, k131, n131⟩, -, X131, ⟨Lc131, hQ131, l131, y131, z131⟩, st131⟩ := Jvm.LawKit.callS X130 hx (y := (⟨"com/example/davka/davka/AccountingCodeOfPinLaw", "expected", "(IC)Lcom/example/davka/davka/AccountingCode;"⟩ : MethodName)) hown (mvT hZ (hw _ (List.mem_of_getElem? (i := 55) rfl))) (mvT hZ (hw _ (List.mem_of_getElem? (i := 56) rfl))) (mvT hZ (hw _ (List.mem_of_getElem? (i := 2) rfl))) (mvT hZ (hw _ (List.mem_of_getElem? (i := 57) rfl))) (by decide) (backOf (W := 1) (ex2 l Z a0 hw [] T128.heap n0 O128 xs kx x0 x1 x2 x3 SX VX S0 A0 B0 S1 A1 B1 S2 A2 B2 S3 A3 B3) hZ (hw _ (List.mem_of_getElem? (i := 57) rfl)) (hw _ (List.mem_of_getElem? (i := 2) rfl)) (by decide) (by decide)) (g := (mkF m 141 #[.val (.int p0), .val (.int p1), .val (.int p2), .val (.int p3), .val (.int (1 : Int32)), .val (.int (50 : Int32)), .val (.int z115), .val (.int z116), .val (.ref b127), .val (.ref b128), .val (.ref x2)] [(.int (50 : Int32)), (.int (1 : Int32)), (.ref x2)])) rfl (by rw [hml]; rfl) (argsL := [(.int (1 : Int32)), (.int (50 : Int32))]) (rest := [(.ref x2)]) (lenOf pd_26 rfl) rfl (by show 2 * 0 + _ ≤ _; exact Nat.le_of_eq rfl) (hb hby at_141) (fun _ _ => ⟨rfl, e130, (by decide : 3 + 0 ≤ _), (by decide : 7 + 0 ≤ _)⟩)
        dsimp only [Pt.U, Pt.locs, Pt.cells, Pt.slots] at X131 l131 y131 z131 st131 hQ131
        subst l131 y131 z131
        obtain ⟨rfl, N131, eh131⟩ := hQ131
        have Nf131 := Fr.app Nf129 N131
        refine own_go (S' := (T131.setTop (mkF m 152 #[.val (.int p0), .val (.int p1), .val (.int p2), .val (.int p3), .val (.int (1 : Int32)), .val (.int (50 : Int32)), .val (.int z115), .val (.int z116), .val (.ref b127), .val (.ref b128), .val (.ref x2)] [(.int (1 : Int32))]))) (fun tq kq => st131 tq (Jvm.RoadKit.acmp (g := (mkF m 144 #[.val (.int p0), .val (.int p1), .val (.int p2), .val (.int p3), .val (.int (1 : Int32)), .val (.int (50 : Int32)), .val (.int z115), .val (.int z116), .val (.ref b127), .val (.ref b128), .val (.ref x2)] [(.ref x2), (.ref x2)])) X131 hx rfl rfl rfl (pc0 := 144) (pc' := 147) (same := true) rfl (hb hby at_144) rfl (decide_eq_true rfl) (by decide) (by decide) (XS.iconst X131.here hx rfl (hb hby at_147) (XS.goto X131.here hx rfl (pc0 := 148) (pc' := 152) rfl (hb hby at_148) (by decide) (by decide) kq)))) ?_
        refine own_retN X131 hx hlk hret (by simp) (hb hby at_152) (by decide) (by decide) ?_
        exact ⟨rfl, Nf131⟩
      · exact absurd hcs (by decide)
    · rw [hq]
      refine own_go (S' := (T116.setTop (mkF m 51 #[.val (.int p0), .val (.int p1), .val (.int p2), .val (.int p3), .val (.int (1 : Int32)), .val (.int (51 : Int32)), .val (.int z115), .val (.int z116), .unset, .unset, .unset] [(.int (51 : Int32))]))) (fun tq kq => XS.iload X116.here hx rfl (hb hby at_49) rfl kq) ?_
      obtain ⟨_, _, ⟨T132, L132, k132, n132⟩, -, X132, ⟨Lc132, hQ132, l132, y132, z132⟩, st132⟩ := Jvm.LawKit.callS X116 hx (y := (⟨"java/lang/String", "valueOf", "(C)Ljava/lang/String;"⟩ : MethodName)) hown (mvT hZ (hw _ (List.mem_of_getElem? (i := 68) rfl))) (mvT hZ (hw _ (List.mem_of_getElem? (i := 69) rfl))) (mvT hZ (hw _ (List.mem_of_getElem? (i := 8) rfl))) (mvT hZ (hw _ (List.mem_of_getElem? (i := 70) rfl))) (by decide) (backOf (W := 0) (valc l Z a0 hw [] h0 n0 O0 (51 : Int32) z fm SC hz SA SH SL SF hfm ) hZ (hw _ (List.mem_of_getElem? (i := 70) rfl)) (hw _ (List.mem_of_getElem? (i := 8) rfl)) (by decide) (by decide)) (g := (mkF m 51 #[.val (.int p0), .val (.int p1), .val (.int p2), .val (.int p3), .val (.int (1 : Int32)), .val (.int (51 : Int32)), .val (.int z115), .val (.int z116), .unset, .unset, .unset] [(.int (51 : Int32))])) rfl (by rw [hml]; rfl) (argsL := [(.int (51 : Int32))]) (rest := []) (lenOf pd_27 rfl) rfl (by show 2 * 0 + _ ≤ _; exact Nat.le_of_eq rfl) (hb hby at_51) (fun _ _ => ⟨rfl, eh116, (by decide : 0 + 2 ≤ _), (by decide : 0 + 6 ≤ _)⟩)
      dsimp only [Pt.U, Pt.locs, Pt.cells, Pt.slots] at X132 l132 y132 z132 st132 hQ132
      subst l132 y132 z132
      obtain ⟨b132, rfl, N132, K132, gb132, Eb132, d132, kd132, hor132⟩ := hQ132
      have Nf132 := Fr.app Nf116 N132
      have O132 := O0.keep K132 all0
      have KK132 := K0.trans K132 all0
      have ge_b132 : n0 ≤ b132 := Nat.le_trans (own_osz O0) gb132
      have gk_b132 : h0.size ≤ b132 := Nat.le_trans K0.1 gb132
      refine own_go (S' := (T132.setTop (mkF m 54 #[.val (.int p0), .val (.int p1), .val (.int p2), .val (.int p3), .val (.int (1 : Int32)), .val (.int (51 : Int32)), .val (.int z115), .val (.int z116), .unset, .unset, .unset] [(.ref b132)]))) (fun tq kq => st132 tq kq) ?_
      rcases hor132 with ⟨Fcz, Fvz, Vdz, hcs⟩ | ⟨Fcz, Fvz, Vdz, hcs⟩
      · refine own_go (S' := (T132.setTop (mkF m 119 #[.val (.int p0), .val (.int p1), .val (.int p2), .val (.int p3), .val (.int (1 : Int32)), .val (.int (51 : Int32)), .val (.int z115), .val (.int z116), .val (.ref b132), .unset, .unset] [(.ref b132)]))) (fun tq kq => XS.astore X132.here hx rfl (hb hby at_54) rfl rfl (l' := #[.val (.int p0), .val (.int p1), .val (.int p2), .val (.int p3), .val (.int (1 : Int32)), .val (.int (51 : Int32)), .val (.int z115), .val (.int z116), .val (.ref b132), .unset, .unset]) rfl (XS.goto X132.here hx rfl (pc0 := 56) (pc' := 117) rfl (hb hby at_56) (by decide) (by decide) (XS.aload X132.here hx rfl (hb hby at_117) rfl rfl kq))) ?_
        obtain ⟨_, _, ⟨T133, L133, k133, n133⟩, -, X133, ⟨Lc133, hQ133, l133, y133, z133⟩, st133⟩ := Jvm.LawKit.callS X132 hx (y := (⟨"com/example/davka/davka/AccountingCode", "of", "(Ljava/lang/String;)Ljava/util/Optional;"⟩ : MethodName)) hown (mvT hZ (hw _ (List.mem_of_getElem? (i := 28) rfl))) (mvT hZ (hw _ (List.mem_of_getElem? (i := 29) rfl))) (mvT hZ (hw _ (List.mem_of_getElem? (i := 30) rfl))) (mvT hZ (hw _ (List.mem_of_getElem? (i := 31) rfl))) (by decide) (backOf (W := 0) (ofc3 l Z a0 hw [] T132.heap n0 O132 b132 d132 kd132 em xs kx x0 x1 x2 x3 z fm Eb132 Fcz Fvz Vdz SE EE FE SX VX S0 A0 B0 S1 A1 B1 S2 A2 B2 S3 A3 B3 SC hz SA SH SL SF hfm) hZ (hw _ (List.mem_of_getElem? (i := 31) rfl)) (hw _ (List.mem_of_getElem? (i := 30) rfl)) (by decide) (by decide)) (g := (mkF m 119 #[.val (.int p0), .val (.int p1), .val (.int p2), .val (.int p3), .val (.int (1 : Int32)), .val (.int (51 : Int32)), .val (.int z115), .val (.int z116), .val (.ref b132), .unset, .unset] [(.ref b132)])) rfl (by rw [hml]; rfl) (argsL := [(.ref b132)]) (rest := []) (lenOf pd_24 rfl) rfl (by show 2 * 0 + _ ≤ _; exact Nat.le_of_eq rfl) (hb hby at_119) (fun _ _ => ⟨rfl, rfl, (by decide : 2 + 1 ≤ _), (by decide : 6 + 1 ≤ _)⟩)
        dsimp only [Pt.U, Pt.locs, Pt.cells, Pt.slots] at X133 l133 y133 z133 st133 hQ133
        subst l133 y133 z133
        obtain ⟨b133, rfl, N133, K133, gb133, Eb133, Fb133⟩ := hQ133
        have Nf133 := Fr.app Nf132 N133
        have O133 := O132.keep K133 all0
        have KK133 := KK132.trans K133 all0
        have ne_b132_b133 : b132 ≠ b133 := Nat.ne_of_lt (Nat.lt_of_lt_of_le Eb132.lt gb133)
        have ne_d132_b133 : d132 ≠ b133 := Nat.ne_of_lt (Nat.lt_of_lt_of_le Vdz.lt gb133)
        have ge_b133 : n0 ≤ b133 := Nat.le_trans (own_osz O132) gb133
        have gk_b133 : h0.size ≤ b133 := Nat.le_trans KK132.1 gb133
        refine own_go (S' := (T133.setTop (mkF m 127 #[.val (.int p0), .val (.int p1), .val (.int p2), .val (.int p3), .val (.int (1 : Int32)), .val (.int (51 : Int32)), .val (.int z115), .val (.int z116), .val (.ref b132), .val (.ref b133), .unset] [.null, (.ref b133)]))) (fun tq kq => st133 tq (XS.astore X133.here hx rfl (hb hby at_122) rfl rfl (l' := #[.val (.int p0), .val (.int p1), .val (.int p2), .val (.int p3), .val (.int (1 : Int32)), .val (.int (51 : Int32)), .val (.int z115), .val (.int z116), .val (.ref b132), .val (.ref b133), .unset]) rfl (XS.aload X133.here hx rfl (hb hby at_124) rfl rfl (XS.aconstNull X133.here hx rfl (hb hby at_126) kq)))) ?_
        obtain ⟨cq134, kq134, q134a, q134b, q134c⟩ := isOf hZ rfl Eb133
        obtain ⟨_, _, ⟨T134, L134, k134, n134⟩, -, X134, ⟨Lc134, hQ134, l134, y134, z134⟩, st134⟩ := X133.virtualBack hx (y := (⟨"java/util/Optional", "orElse", "(Ljava/lang/Object;)Ljava/lang/Object;"⟩ : MethodName)) (z := (⟨"java/util/Optional", "orElse", "(Ljava/lang/Object;)Ljava/lang/Object;"⟩ : MethodName)) hown (mvT hZ (hw _ (List.mem_of_getElem? (i := 48) rfl))) (mvT hZ (hw _ (List.mem_of_getElem? (i := 49) rfl))) (notFace_of_selects (args := #[]) (mvT hZ (hw _ (List.mem_of_getElem? (i := 51) rfl)))) (mvT hZ (hw _ (List.mem_of_getElem? (i := 51) rfl))) (mvT hZ (hw _ (List.mem_of_getElem? (i := 50) rfl))) (by decide) (backOf (W := 0) (orr l Z a0 hw [] T133.heap n0 O133 b133 x3 Fb133) hZ (hw _ (List.mem_of_getElem? (i := 52) rfl)) (hw _ (List.mem_of_getElem? (i := 45) rfl)) (by decide) (by decide)) q134a q134c (g := (mkF m 127 #[.val (.int p0), .val (.int p1), .val (.int p2), .val (.int p3), .val (.int (1 : Int32)), .val (.int (51 : Int32)), .val (.int z115), .val (.int z116), .val (.ref b132), .val (.ref b133), .unset] [.null, (.ref b133)])) rfl (by rw [hml]; rfl) (Steps.refl _) (argsL := [.null]) (rest := []) (lenOf pd_25 rfl) rfl (by show 2 * 0 + _ ≤ _; exact Nat.le_of_eq rfl) (hb hby at_127) (fun _ _ => ⟨rfl, rfl, (by decide : 3 + 0 ≤ _), (by decide : 7 + 0 ≤ _)⟩)
        dsimp only [Pt.U, Pt.locs, Pt.cells, Pt.slots] at X134 l134 y134 z134 st134 hQ134
        subst l134 y134 z134
        obtain ⟨rfl, N134, eh134⟩ := hQ134
        have Nf134 := Fr.app Nf133 N134
        refine own_go (S' := (T134.setTop (mkF m 130 #[.val (.int p0), .val (.int p1), .val (.int p2), .val (.int p3), .val (.int (1 : Int32)), .val (.int (51 : Int32)), .val (.int z115), .val (.int z116), .val (.ref b132), .val (.ref b133), .unset] [(.ref x3)]))) (fun tq kq => st134.trans kq) ?_
        obtain ⟨T135, X135, e135, st135⟩ := castY X134 hx hZ hown (hw _ (List.mem_of_getElem? (i := 156) rfl)) eh134 (Ins.self (A3.ext O133.2)) (g := (mkF m 130 #[.val (.int p0), .val (.int p1), .val (.int p2), .val (.int p3), .val (.int (1 : Int32)), .val (.int (51 : Int32)), .val (.int z115), .val (.int z116), .val (.ref b132), .val (.ref b133), .unset] [(.ref x3)])) rfl rfl (hb hby at_130)
        refine own_go (S' := (T135.setTop (mkF m 141 #[.val (.int p0), .val (.int p1), .val (.int p2), .val (.int p3), .val (.int (1 : Int32)), .val (.int (51 : Int32)), .val (.int z115), .val (.int z116), .val (.ref b132), .val (.ref b133), .val (.ref x3)] [(.int (51 : Int32)), (.int (1 : Int32)), (.ref x3)]))) (fun tq kq => st135 tq (XS.astore X135.here hx rfl (hb hby at_133) rfl rfl (l' := #[.val (.int p0), .val (.int p1), .val (.int p2), .val (.int p3), .val (.int (1 : Int32)), .val (.int (51 : Int32)), .val (.int z115), .val (.int z116), .val (.ref b132), .val (.ref b133), .val (.ref x3)]) rfl (XS.aload X135.here hx rfl (hb hby at_135) rfl rfl (XS.iload X135.here hx rfl (hb hby at_137) rfl (XS.iload X135.here hx rfl (hb hby at_139) rfl kq))))) ?_
        obtain ⟨_, _, ⟨T136, L136, k136, n136⟩, -, X136, ⟨Lc136, hQ136, l136, y136, z136⟩, st136⟩ := Jvm.LawKit.callS X135 hx (y := (⟨"com/example/davka/davka/AccountingCodeOfPinLaw", "expected", "(IC)Lcom/example/davka/davka/AccountingCode;"⟩ : MethodName)) hown (mvT hZ (hw _ (List.mem_of_getElem? (i := 55) rfl))) (mvT hZ (hw _ (List.mem_of_getElem? (i := 56) rfl))) (mvT hZ (hw _ (List.mem_of_getElem? (i := 2) rfl))) (mvT hZ (hw _ (List.mem_of_getElem? (i := 57) rfl))) (by decide) (backOf (W := 1) (ex3 l Z a0 hw [] T133.heap n0 O133 xs kx x0 x1 x2 x3 SX VX S0 A0 B0 S1 A1 B1 S2 A2 B2 S3 A3 B3) hZ (hw _ (List.mem_of_getElem? (i := 57) rfl)) (hw _ (List.mem_of_getElem? (i := 2) rfl)) (by decide) (by decide)) (g := (mkF m 141 #[.val (.int p0), .val (.int p1), .val (.int p2), .val (.int p3), .val (.int (1 : Int32)), .val (.int (51 : Int32)), .val (.int z115), .val (.int z116), .val (.ref b132), .val (.ref b133), .val (.ref x3)] [(.int (51 : Int32)), (.int (1 : Int32)), (.ref x3)])) rfl (by rw [hml]; rfl) (argsL := [(.int (1 : Int32)), (.int (51 : Int32))]) (rest := [(.ref x3)]) (lenOf pd_26 rfl) rfl (by show 2 * 0 + _ ≤ _; exact Nat.le_of_eq rfl) (hb hby at_141) (fun _ _ => ⟨rfl, e135, (by decide : 3 + 0 ≤ _), (by decide : 7 + 0 ≤ _)⟩)
        dsimp only [Pt.U, Pt.locs, Pt.cells, Pt.slots] at X136 l136 y136 z136 st136 hQ136
        subst l136 y136 z136
        obtain ⟨rfl, N136, eh136⟩ := hQ136
        have Nf136 := Fr.app Nf134 N136
        refine own_go (S' := (T136.setTop (mkF m 152 #[.val (.int p0), .val (.int p1), .val (.int p2), .val (.int p3), .val (.int (1 : Int32)), .val (.int (51 : Int32)), .val (.int z115), .val (.int z116), .val (.ref b132), .val (.ref b133), .val (.ref x3)] [(.int (1 : Int32))]))) (fun tq kq => st136 tq (Jvm.RoadKit.acmp (g := (mkF m 144 #[.val (.int p0), .val (.int p1), .val (.int p2), .val (.int p3), .val (.int (1 : Int32)), .val (.int (51 : Int32)), .val (.int z115), .val (.int z116), .val (.ref b132), .val (.ref b133), .val (.ref x3)] [(.ref x3), (.ref x3)])) X136 hx rfl rfl rfl (pc0 := 144) (pc' := 147) (same := true) rfl (hb hby at_144) rfl (decide_eq_true rfl) (by decide) (by decide) (XS.iconst X136.here hx rfl (hb hby at_147) (XS.goto X136.here hx rfl (pc0 := 148) (pc' := 152) rfl (hb hby at_148) (by decide) (by decide) kq)))) ?_
        refine own_retN X136 hx hlk hret (by simp) (hb hby at_152) (by decide) (by decide) ?_
        exact ⟨rfl, Nf136⟩
      · exact absurd hcs (by decide)
    · refine own_go (S' := (T116.setTop (mkF m 51 #[.val (.int p0), .val (.int p1), .val (.int p2), .val (.int p3), .val (.int (1 : Int32)), .val (.int ch), .val (.int z115), .val (.int z116), .unset, .unset, .unset] [(.int ch)]))) (fun tq kq => XS.iload X116.here hx rfl (hb hby at_49) rfl kq) ?_
      obtain ⟨_, _, ⟨T137, L137, k137, n137⟩, -, X137, ⟨Lc137, hQ137, l137, y137, z137⟩, st137⟩ := Jvm.LawKit.callS X116 hx (y := (⟨"java/lang/String", "valueOf", "(C)Ljava/lang/String;"⟩ : MethodName)) hown (mvT hZ (hw _ (List.mem_of_getElem? (i := 68) rfl))) (mvT hZ (hw _ (List.mem_of_getElem? (i := 69) rfl))) (mvT hZ (hw _ (List.mem_of_getElem? (i := 8) rfl))) (mvT hZ (hw _ (List.mem_of_getElem? (i := 70) rfl))) (by decide) (backOf (W := 0) (valc l Z a0 hw [] h0 n0 O0 ch z fm SC hz SA SH SL SF hfm ) hZ (hw _ (List.mem_of_getElem? (i := 70) rfl)) (hw _ (List.mem_of_getElem? (i := 8) rfl)) (by decide) (by decide)) (g := (mkF m 51 #[.val (.int p0), .val (.int p1), .val (.int p2), .val (.int p3), .val (.int (1 : Int32)), .val (.int ch), .val (.int z115), .val (.int z116), .unset, .unset, .unset] [(.int ch)])) rfl (by rw [hml]; rfl) (argsL := [(.int ch)]) (rest := []) (lenOf pd_27 rfl) rfl (by show 2 * 0 + _ ≤ _; exact Nat.le_of_eq rfl) (hb hby at_51) (fun _ _ => ⟨rfl, eh116, (by decide : 0 + 2 ≤ _), (by decide : 0 + 6 ≤ _)⟩)
      dsimp only [Pt.U, Pt.locs, Pt.cells, Pt.slots] at X137 l137 y137 z137 st137 hQ137
      subst l137 y137 z137
      obtain ⟨b137, rfl, N137, K137, gb137, Eb137, d137, kd137, hor137⟩ := hQ137
      have Nf137 := Fr.app Nf116 N137
      have O137 := O0.keep K137 all0
      have KK137 := K0.trans K137 all0
      have ge_b137 : n0 ≤ b137 := Nat.le_trans (own_osz O0) gb137
      have gk_b137 : h0.size ≤ b137 := Nat.le_trans K0.1 gb137
      refine own_go (S' := (T137.setTop (mkF m 54 #[.val (.int p0), .val (.int p1), .val (.int p2), .val (.int p3), .val (.int (1 : Int32)), .val (.int ch), .val (.int z115), .val (.int z116), .unset, .unset, .unset] [(.ref b137)]))) (fun tq kq => st137 tq kq) ?_
      rcases hor137 with ⟨Fcz, Fvz, Vdz, hcs⟩ | ⟨Fcz, Fvz, Vdz, hcs⟩
      · refine own_go (S' := (T137.setTop (mkF m 119 #[.val (.int p0), .val (.int p1), .val (.int p2), .val (.int p3), .val (.int (1 : Int32)), .val (.int ch), .val (.int z115), .val (.int z116), .val (.ref b137), .unset, .unset] [(.ref b137)]))) (fun tq kq => XS.astore X137.here hx rfl (hb hby at_54) rfl rfl (l' := #[.val (.int p0), .val (.int p1), .val (.int p2), .val (.int p3), .val (.int (1 : Int32)), .val (.int ch), .val (.int z115), .val (.int z116), .val (.ref b137), .unset, .unset]) rfl (XS.goto X137.here hx rfl (pc0 := 56) (pc' := 117) rfl (hb hby at_56) (by decide) (by decide) (XS.aload X137.here hx rfl (hb hby at_117) rfl rfl kq))) ?_
        obtain ⟨_, _, ⟨T138, L138, k138, n138⟩, -, X138, ⟨Lc138, hQ138, l138, y138, z138⟩, st138⟩ := Jvm.LawKit.callS X137 hx (y := (⟨"com/example/davka/davka/AccountingCode", "of", "(Ljava/lang/String;)Ljava/util/Optional;"⟩ : MethodName)) hown (mvT hZ (hw _ (List.mem_of_getElem? (i := 28) rfl))) (mvT hZ (hw _ (List.mem_of_getElem? (i := 29) rfl))) (mvT hZ (hw _ (List.mem_of_getElem? (i := 30) rfl))) (mvT hZ (hw _ (List.mem_of_getElem? (i := 31) rfl))) (by decide) (backOf (W := 0) (ofg0 l Z a0 hw [] T137.heap n0 O137 b137 d137 kd137 ch em xs kx x0 x1 x2 x3 z fm Eb137 Fcz Fvz Vdz hch.1 hch.2 hcs hn0 hn1 hn2 hn3 SE EE FE SX VX S0 A0 B0 S1 A1 B1 S2 A2 B2 S3 A3 B3 SC hz SA SH SL SF hfm) hZ (hw _ (List.mem_of_getElem? (i := 31) rfl)) (hw _ (List.mem_of_getElem? (i := 30) rfl)) (by decide) (by decide)) (g := (mkF m 119 #[.val (.int p0), .val (.int p1), .val (.int p2), .val (.int p3), .val (.int (1 : Int32)), .val (.int ch), .val (.int z115), .val (.int z116), .val (.ref b137), .unset, .unset] [(.ref b137)])) rfl (by rw [hml]; rfl) (argsL := [(.ref b137)]) (rest := []) (lenOf pd_24 rfl) rfl (by show 2 * 0 + _ ≤ _; exact Nat.le_of_eq rfl) (hb hby at_119) (fun _ _ => ⟨rfl, rfl, (by decide : 2 + 0 ≤ _), (by decide : 6 + 0 ≤ _)⟩)
        dsimp only [Pt.U, Pt.locs, Pt.cells, Pt.slots] at X138 l138 y138 z138 st138 hQ138
        subst l138 y138 z138
        obtain ⟨rfl, N138, eh138⟩ := hQ138
        have Nf138 := Fr.app Nf137 N138
        refine own_go (S' := (T138.setTop (mkF m 127 #[.val (.int p0), .val (.int p1), .val (.int p2), .val (.int p3), .val (.int (1 : Int32)), .val (.int ch), .val (.int z115), .val (.int z116), .val (.ref b137), .val (.ref em), .unset] [.null, (.ref em)]))) (fun tq kq => st138 tq (XS.astore X138.here hx rfl (hb hby at_122) rfl rfl (l' := #[.val (.int p0), .val (.int p1), .val (.int p2), .val (.int p3), .val (.int (1 : Int32)), .val (.int ch), .val (.int z115), .val (.int z116), .val (.ref b137), .val (.ref em), .unset]) rfl (XS.aload X138.here hx rfl (hb hby at_124) rfl rfl (XS.aconstNull X138.here hx rfl (hb hby at_126) kq)))) ?_
        obtain ⟨cq139, kq139, q139a, q139b, q139c⟩ := isOf hZ eh138 (EE.ext O137.2)
        obtain ⟨_, _, ⟨T139, L139, k139, n139⟩, -, X139, ⟨Lc139, hQ139, l139, y139, z139⟩, st139⟩ := X138.virtualBack hx (y := (⟨"java/util/Optional", "orElse", "(Ljava/lang/Object;)Ljava/lang/Object;"⟩ : MethodName)) (z := (⟨"java/util/Optional", "orElse", "(Ljava/lang/Object;)Ljava/lang/Object;"⟩ : MethodName)) hown (mvT hZ (hw _ (List.mem_of_getElem? (i := 48) rfl))) (mvT hZ (hw _ (List.mem_of_getElem? (i := 49) rfl))) (notFace_of_selects (args := #[]) (mvT hZ (hw _ (List.mem_of_getElem? (i := 51) rfl)))) (mvT hZ (hw _ (List.mem_of_getElem? (i := 51) rfl))) (mvT hZ (hw _ (List.mem_of_getElem? (i := 50) rfl))) (by decide) (backOf (W := 0) (orn l Z a0 hw [] T137.heap n0 O137 em (FE.ext O137.2)) hZ (hw _ (List.mem_of_getElem? (i := 52) rfl)) (hw _ (List.mem_of_getElem? (i := 45) rfl)) (by decide) (by decide)) q139a q139c (g := (mkF m 127 #[.val (.int p0), .val (.int p1), .val (.int p2), .val (.int p3), .val (.int (1 : Int32)), .val (.int ch), .val (.int z115), .val (.int z116), .val (.ref b137), .val (.ref em), .unset] [.null, (.ref em)])) rfl (by rw [hml]; rfl) (Steps.refl _) (argsL := [.null]) (rest := []) (lenOf pd_25 rfl) rfl (by show 2 * 0 + _ ≤ _; exact Nat.le_of_eq rfl) (hb hby at_127) (fun _ _ => ⟨rfl, eh138, (by decide : 2 + 0 ≤ _), (by decide : 6 + 0 ≤ _)⟩)
        dsimp only [Pt.U, Pt.locs, Pt.cells, Pt.slots] at X139 l139 y139 z139 st139 hQ139
        subst l139 y139 z139
        obtain ⟨rfl, N139, eh139⟩ := hQ139
        have Nf139 := Fr.app Nf138 N139
        refine own_go (S' := (T139.setTop (mkF m 141 #[.val (.int p0), .val (.int p1), .val (.int p2), .val (.int p3), .val (.int (1 : Int32)), .val (.int ch), .val (.int z115), .val (.int z116), .val (.ref b137), .val (.ref em), .val .null] [(.int ch), (.int (1 : Int32)), .null]))) (fun tq kq => st139.trans (X139.checkcastNull hx (g := (mkF m 130 #[.val (.int p0), .val (.int p1), .val (.int p2), .val (.int p3), .val (.int (1 : Int32)), .val (.int ch), .val (.int z115), .val (.int z116), .val (.ref b137), .val (.ref em), .unset] [.null])) rfl rfl (hb hby at_130) tq (XS.astore X139.here hx rfl (hb hby at_133) rfl rfl (l' := #[.val (.int p0), .val (.int p1), .val (.int p2), .val (.int p3), .val (.int (1 : Int32)), .val (.int ch), .val (.int z115), .val (.int z116), .val (.ref b137), .val (.ref em), .val .null]) rfl (XS.aload X139.here hx rfl (hb hby at_135) rfl rfl (XS.iload X139.here hx rfl (hb hby at_137) rfl (XS.iload X139.here hx rfl (hb hby at_139) rfl kq)))))) ?_
        obtain ⟨_, _, ⟨T140, L140, k140, n140⟩, -, X140, ⟨Lc140, hQ140, l140, y140, z140⟩, st140⟩ := Jvm.LawKit.callS X139 hx (y := (⟨"com/example/davka/davka/AccountingCodeOfPinLaw", "expected", "(IC)Lcom/example/davka/davka/AccountingCode;"⟩ : MethodName)) hown (mvT hZ (hw _ (List.mem_of_getElem? (i := 55) rfl))) (mvT hZ (hw _ (List.mem_of_getElem? (i := 56) rfl))) (mvT hZ (hw _ (List.mem_of_getElem? (i := 2) rfl))) (mvT hZ (hw _ (List.mem_of_getElem? (i := 57) rfl))) (by decide) (backOf (W := 1) (exn l Z a0 hw [] T137.heap n0 O137 ch hn0 hn1 hn2 hn3) hZ (hw _ (List.mem_of_getElem? (i := 57) rfl)) (hw _ (List.mem_of_getElem? (i := 2) rfl)) (by decide) (by decide)) (g := (mkF m 141 #[.val (.int p0), .val (.int p1), .val (.int p2), .val (.int p3), .val (.int (1 : Int32)), .val (.int ch), .val (.int z115), .val (.int z116), .val (.ref b137), .val (.ref em), .val .null] [(.int ch), (.int (1 : Int32)), .null])) rfl (by rw [hml]; rfl) (argsL := [(.int (1 : Int32)), (.int ch)]) (rest := [.null]) (lenOf pd_26 rfl) rfl (by show 2 * 0 + _ ≤ _; exact Nat.le_of_eq rfl) (hb hby at_141) (fun _ _ => ⟨rfl, eh139, (by decide : 2 + 0 ≤ _), (by decide : 6 + 0 ≤ _)⟩)
        dsimp only [Pt.U, Pt.locs, Pt.cells, Pt.slots] at X140 l140 y140 z140 st140 hQ140
        subst l140 y140 z140
        obtain ⟨rfl, N140, eh140⟩ := hQ140
        have Nf140 := Fr.app Nf139 N140
        refine own_go (S' := (T140.setTop (mkF m 152 #[.val (.int p0), .val (.int p1), .val (.int p2), .val (.int p3), .val (.int (1 : Int32)), .val (.int ch), .val (.int z115), .val (.int z116), .val (.ref b137), .val (.ref em), .val .null] [(.int (1 : Int32))]))) (fun tq kq => st140 tq (Jvm.RoadKit.acmp (g := (mkF m 144 #[.val (.int p0), .val (.int p1), .val (.int p2), .val (.int p3), .val (.int (1 : Int32)), .val (.int ch), .val (.int z115), .val (.int z116), .val (.ref b137), .val (.ref em), .val .null] [.null, .null])) X140 hx rfl rfl rfl (pc0 := 144) (pc' := 147) (same := true) rfl (hb hby at_144) rfl (decide_eq_true rfl) (by decide) (by decide) (XS.iconst X140.here hx rfl (hb hby at_147) (XS.goto X140.here hx rfl (pc0 := 148) (pc' := 152) rfl (hb hby at_148) (by decide) (by decide) kq)))) ?_
        refine own_retN X140 hx hlk hret (by simp) (hb hby at_152) (by decide) (by decide) ?_
        exact ⟨rfl, Nf140⟩
      · refine own_go (S' := (T137.setTop (mkF m 119 #[.val (.int p0), .val (.int p1), .val (.int p2), .val (.int p3), .val (.int (1 : Int32)), .val (.int ch), .val (.int z115), .val (.int z116), .val (.ref b137), .unset, .unset] [(.ref b137)]))) (fun tq kq => XS.astore X137.here hx rfl (hb hby at_54) rfl rfl (l' := #[.val (.int p0), .val (.int p1), .val (.int p2), .val (.int p3), .val (.int (1 : Int32)), .val (.int ch), .val (.int z115), .val (.int z116), .val (.ref b137), .unset, .unset]) rfl (XS.goto X137.here hx rfl (pc0 := 56) (pc' := 117) rfl (hb hby at_56) (by decide) (by decide) (XS.aload X137.here hx rfl (hb hby at_117) rfl rfl kq))) ?_
        obtain ⟨_, _, ⟨T141, L141, k141, n141⟩, -, X141, ⟨Lc141, hQ141, l141, y141, z141⟩, st141⟩ := Jvm.LawKit.callS X137 hx (y := (⟨"com/example/davka/davka/AccountingCode", "of", "(Ljava/lang/String;)Ljava/util/Optional;"⟩ : MethodName)) hown (mvT hZ (hw _ (List.mem_of_getElem? (i := 28) rfl))) (mvT hZ (hw _ (List.mem_of_getElem? (i := 29) rfl))) (mvT hZ (hw _ (List.mem_of_getElem? (i := 30) rfl))) (mvT hZ (hw _ (List.mem_of_getElem? (i := 31) rfl))) (by decide) (backOf (W := 0) (ofg1 l Z a0 hw [] T137.heap n0 O137 b137 d137 kd137 ch em xs kx x0 x1 x2 x3 z fm Eb137 Fcz Fvz Vdz hch.1 hch.2 hn0 hn1 hn2 hn3 SE EE FE SX VX S0 A0 B0 S1 A1 B1 S2 A2 B2 S3 A3 B3 SC hz SA SH SL SF hfm) hZ (hw _ (List.mem_of_getElem? (i := 31) rfl)) (hw _ (List.mem_of_getElem? (i := 30) rfl)) (by decide) (by decide)) (g := (mkF m 119 #[.val (.int p0), .val (.int p1), .val (.int p2), .val (.int p3), .val (.int (1 : Int32)), .val (.int ch), .val (.int z115), .val (.int z116), .val (.ref b137), .unset, .unset] [(.ref b137)])) rfl (by rw [hml]; rfl) (argsL := [(.ref b137)]) (rest := []) (lenOf pd_24 rfl) rfl (by show 2 * 0 + _ ≤ _; exact Nat.le_of_eq rfl) (hb hby at_119) (fun _ _ => ⟨rfl, rfl, (by decide : 2 + 0 ≤ _), (by decide : 6 + 0 ≤ _)⟩)
        dsimp only [Pt.U, Pt.locs, Pt.cells, Pt.slots] at X141 l141 y141 z141 st141 hQ141
        subst l141 y141 z141
        obtain ⟨rfl, N141, eh141⟩ := hQ141
        have Nf141 := Fr.app Nf137 N141
        refine own_go (S' := (T141.setTop (mkF m 127 #[.val (.int p0), .val (.int p1), .val (.int p2), .val (.int p3), .val (.int (1 : Int32)), .val (.int ch), .val (.int z115), .val (.int z116), .val (.ref b137), .val (.ref em), .unset] [.null, (.ref em)]))) (fun tq kq => st141 tq (XS.astore X141.here hx rfl (hb hby at_122) rfl rfl (l' := #[.val (.int p0), .val (.int p1), .val (.int p2), .val (.int p3), .val (.int (1 : Int32)), .val (.int ch), .val (.int z115), .val (.int z116), .val (.ref b137), .val (.ref em), .unset]) rfl (XS.aload X141.here hx rfl (hb hby at_124) rfl rfl (XS.aconstNull X141.here hx rfl (hb hby at_126) kq)))) ?_
        obtain ⟨cq142, kq142, q142a, q142b, q142c⟩ := isOf hZ eh141 (EE.ext O137.2)
        obtain ⟨_, _, ⟨T142, L142, k142, n142⟩, -, X142, ⟨Lc142, hQ142, l142, y142, z142⟩, st142⟩ := X141.virtualBack hx (y := (⟨"java/util/Optional", "orElse", "(Ljava/lang/Object;)Ljava/lang/Object;"⟩ : MethodName)) (z := (⟨"java/util/Optional", "orElse", "(Ljava/lang/Object;)Ljava/lang/Object;"⟩ : MethodName)) hown (mvT hZ (hw _ (List.mem_of_getElem? (i := 48) rfl))) (mvT hZ (hw _ (List.mem_of_getElem? (i := 49) rfl))) (notFace_of_selects (args := #[]) (mvT hZ (hw _ (List.mem_of_getElem? (i := 51) rfl)))) (mvT hZ (hw _ (List.mem_of_getElem? (i := 51) rfl))) (mvT hZ (hw _ (List.mem_of_getElem? (i := 50) rfl))) (by decide) (backOf (W := 0) (orn l Z a0 hw [] T137.heap n0 O137 em (FE.ext O137.2)) hZ (hw _ (List.mem_of_getElem? (i := 52) rfl)) (hw _ (List.mem_of_getElem? (i := 45) rfl)) (by decide) (by decide)) q142a q142c (g := (mkF m 127 #[.val (.int p0), .val (.int p1), .val (.int p2), .val (.int p3), .val (.int (1 : Int32)), .val (.int ch), .val (.int z115), .val (.int z116), .val (.ref b137), .val (.ref em), .unset] [.null, (.ref em)])) rfl (by rw [hml]; rfl) (Steps.refl _) (argsL := [.null]) (rest := []) (lenOf pd_25 rfl) rfl (by show 2 * 0 + _ ≤ _; exact Nat.le_of_eq rfl) (hb hby at_127) (fun _ _ => ⟨rfl, eh141, (by decide : 2 + 0 ≤ _), (by decide : 6 + 0 ≤ _)⟩)
        dsimp only [Pt.U, Pt.locs, Pt.cells, Pt.slots] at X142 l142 y142 z142 st142 hQ142
        subst l142 y142 z142
        obtain ⟨rfl, N142, eh142⟩ := hQ142
        have Nf142 := Fr.app Nf141 N142
        refine own_go (S' := (T142.setTop (mkF m 141 #[.val (.int p0), .val (.int p1), .val (.int p2), .val (.int p3), .val (.int (1 : Int32)), .val (.int ch), .val (.int z115), .val (.int z116), .val (.ref b137), .val (.ref em), .val .null] [(.int ch), (.int (1 : Int32)), .null]))) (fun tq kq => st142.trans (X142.checkcastNull hx (g := (mkF m 130 #[.val (.int p0), .val (.int p1), .val (.int p2), .val (.int p3), .val (.int (1 : Int32)), .val (.int ch), .val (.int z115), .val (.int z116), .val (.ref b137), .val (.ref em), .unset] [.null])) rfl rfl (hb hby at_130) tq (XS.astore X142.here hx rfl (hb hby at_133) rfl rfl (l' := #[.val (.int p0), .val (.int p1), .val (.int p2), .val (.int p3), .val (.int (1 : Int32)), .val (.int ch), .val (.int z115), .val (.int z116), .val (.ref b137), .val (.ref em), .val .null]) rfl (XS.aload X142.here hx rfl (hb hby at_135) rfl rfl (XS.iload X142.here hx rfl (hb hby at_137) rfl (XS.iload X142.here hx rfl (hb hby at_139) rfl kq)))))) ?_
        obtain ⟨_, _, ⟨T143, L143, k143, n143⟩, -, X143, ⟨Lc143, hQ143, l143, y143, z143⟩, st143⟩ := Jvm.LawKit.callS X142 hx (y := (⟨"com/example/davka/davka/AccountingCodeOfPinLaw", "expected", "(IC)Lcom/example/davka/davka/AccountingCode;"⟩ : MethodName)) hown (mvT hZ (hw _ (List.mem_of_getElem? (i := 55) rfl))) (mvT hZ (hw _ (List.mem_of_getElem? (i := 56) rfl))) (mvT hZ (hw _ (List.mem_of_getElem? (i := 2) rfl))) (mvT hZ (hw _ (List.mem_of_getElem? (i := 57) rfl))) (by decide) (backOf (W := 1) (exn l Z a0 hw [] T137.heap n0 O137 ch hn0 hn1 hn2 hn3) hZ (hw _ (List.mem_of_getElem? (i := 57) rfl)) (hw _ (List.mem_of_getElem? (i := 2) rfl)) (by decide) (by decide)) (g := (mkF m 141 #[.val (.int p0), .val (.int p1), .val (.int p2), .val (.int p3), .val (.int (1 : Int32)), .val (.int ch), .val (.int z115), .val (.int z116), .val (.ref b137), .val (.ref em), .val .null] [(.int ch), (.int (1 : Int32)), .null])) rfl (by rw [hml]; rfl) (argsL := [(.int (1 : Int32)), (.int ch)]) (rest := [.null]) (lenOf pd_26 rfl) rfl (by show 2 * 0 + _ ≤ _; exact Nat.le_of_eq rfl) (hb hby at_141) (fun _ _ => ⟨rfl, eh142, (by decide : 2 + 0 ≤ _), (by decide : 6 + 0 ≤ _)⟩)
        dsimp only [Pt.U, Pt.locs, Pt.cells, Pt.slots] at X143 l143 y143 z143 st143 hQ143
        subst l143 y143 z143
        obtain ⟨rfl, N143, eh143⟩ := hQ143
        have Nf143 := Fr.app Nf142 N143
        refine own_go (S' := (T143.setTop (mkF m 152 #[.val (.int p0), .val (.int p1), .val (.int p2), .val (.int p3), .val (.int (1 : Int32)), .val (.int ch), .val (.int z115), .val (.int z116), .val (.ref b137), .val (.ref em), .val .null] [(.int (1 : Int32))]))) (fun tq kq => st143 tq (Jvm.RoadKit.acmp (g := (mkF m 144 #[.val (.int p0), .val (.int p1), .val (.int p2), .val (.int p3), .val (.int (1 : Int32)), .val (.int ch), .val (.int z115), .val (.int z116), .val (.ref b137), .val (.ref em), .val .null] [.null, .null])) X143 hx rfl rfl rfl (pc0 := 144) (pc' := 147) (same := true) rfl (hb hby at_144) rfl (decide_eq_true rfl) (by decide) (by decide) (XS.iconst X143.here hx rfl (hb hby at_147) (XS.goto X143.here hx rfl (pc0 := 148) (pc' := 152) rfl (hb hby at_148) (by decide) (by decide) kq)))) ?_
        refine own_retN X143 hx hlk hret (by simp) (hb hby at_152) (by decide) (by decide) ?_
        exact ⟨rfl, Nf143⟩
  · rw [hq]
    refine own_wide ?_
    refine own_go (S' := (s₁.setTop (mkF m 6 #[.val (.int p0), .val (.int p1), .val (.int p2), .val (.int p3), .val (.int (2 : Int32)), .unset, .unset, .unset, .unset, .unset, .unset] [(.int p1)]))) (fun tq kq => XS.istore X0.here hx rfl (hb hby at_3) rfl (l' := #[.val (.int p0), .val (.int p1), .val (.int p2), .val (.int p3), .val (.int (2 : Int32)), .unset, .unset, .unset, .unset, .unset, .unset]) rfl (XS.iloadN X0.here hx rfl (hb hby at_5) rfl kq)) ?_
    obtain ⟨_, _, ⟨T144, L144, k144, n144⟩, -, X144, ⟨Lc144, hQ144, l144, y144, z144⟩, st144⟩ := Jvm.LawKit.callS X0 hx (y := (⟨"com/example/davka/davka/AccountingCodeOfPinLaw", "draw", "(I)C"⟩ : MethodName)) hown (mvT hZ (hw _ (List.mem_of_getElem? (i := 0) rfl))) (mvT hZ (hw _ (List.mem_of_getElem? (i := 1) rfl))) (mvT hZ (hw _ (List.mem_of_getElem? (i := 2) rfl))) (mvT hZ (hw _ (List.mem_of_getElem? (i := 3) rfl))) (by decide) (backOf (W := 0) (rm1 l Z a0 hw [] h0 n0 O0 p1) hZ (hw _ (List.mem_of_getElem? (i := 3) rfl)) (hw _ (List.mem_of_getElem? (i := 2) rfl)) (by decide) (by decide)) (g := (mkF m 6 #[.val (.int p0), .val (.int p1), .val (.int p2), .val (.int p3), .val (.int (2 : Int32)), .unset, .unset, .unset, .unset, .unset, .unset] [(.int p1)])) rfl (by rw [hml]; rfl) (argsL := [(.int p1)]) (rest := []) (lenOf pd_20 rfl) rfl (by show 2 * 0 + _ ≤ _; exact Nat.le_of_eq rfl) (hb hby at_6) (fun _ _ => ⟨rfl, e0, (by decide : 0 + 0 ≤ _), (by decide : 0 + 0 ≤ _)⟩)
    dsimp only [Pt.U, Pt.locs, Pt.cells, Pt.slots] at X144 l144 y144 z144 st144 hQ144
    subst l144 y144 z144
    obtain ⟨z144, rfl, r144, N144, eh144⟩ := hQ144
    have Nf144 := Fr.app N0 N144
    refine own_go (S' := (T144.setTop (mkF m 12 #[.val (.int p0), .val (.int p1), .val (.int p2), .val (.int p3), .val (.int (2 : Int32)), .val (.int z144), .unset, .unset, .unset, .unset, .unset] [(.int p2)]))) (fun tq kq => st144 tq (XS.istore X144.here hx rfl (hb hby at_9) rfl (l' := #[.val (.int p0), .val (.int p1), .val (.int p2), .val (.int p3), .val (.int (2 : Int32)), .val (.int z144), .unset, .unset, .unset, .unset, .unset]) rfl (XS.iloadN X144.here hx rfl (hb hby at_11) rfl kq))) ?_
    obtain ⟨_, _, ⟨T145, L145, k145, n145⟩, -, X145, ⟨Lc145, hQ145, l145, y145, z145⟩, st145⟩ := Jvm.LawKit.callS X144 hx (y := (⟨"com/example/davka/davka/AccountingCodeOfPinLaw", "draw", "(I)C"⟩ : MethodName)) hown (mvT hZ (hw _ (List.mem_of_getElem? (i := 0) rfl))) (mvT hZ (hw _ (List.mem_of_getElem? (i := 1) rfl))) (mvT hZ (hw _ (List.mem_of_getElem? (i := 2) rfl))) (mvT hZ (hw _ (List.mem_of_getElem? (i := 3) rfl))) (by decide) (backOf (W := 0) (rm1 l Z a0 hw [] h0 n0 O0 p2) hZ (hw _ (List.mem_of_getElem? (i := 3) rfl)) (hw _ (List.mem_of_getElem? (i := 2) rfl)) (by decide) (by decide)) (g := (mkF m 12 #[.val (.int p0), .val (.int p1), .val (.int p2), .val (.int p3), .val (.int (2 : Int32)), .val (.int z144), .unset, .unset, .unset, .unset, .unset] [(.int p2)])) rfl (by rw [hml]; rfl) (argsL := [(.int p2)]) (rest := []) (lenOf pd_20 rfl) rfl (by show 2 * 0 + _ ≤ _; exact Nat.le_of_eq rfl) (hb hby at_12) (fun _ _ => ⟨rfl, eh144, (by decide : 0 + 0 ≤ _), (by decide : 0 + 0 ≤ _)⟩)
    dsimp only [Pt.U, Pt.locs, Pt.cells, Pt.slots] at X145 l145 y145 z145 st145 hQ145
    subst l145 y145 z145
    obtain ⟨z145, rfl, r145, N145, eh145⟩ := hQ145
    have Nf145 := Fr.app Nf144 N145
    refine own_go (S' := (T145.setTop (mkF m 18 #[.val (.int p0), .val (.int p1), .val (.int p2), .val (.int p3), .val (.int (2 : Int32)), .val (.int z144), .val (.int z145), .unset, .unset, .unset, .unset] [(.int p3)]))) (fun tq kq => st145 tq (XS.istore X145.here hx rfl (hb hby at_15) rfl (l' := #[.val (.int p0), .val (.int p1), .val (.int p2), .val (.int p3), .val (.int (2 : Int32)), .val (.int z144), .val (.int z145), .unset, .unset, .unset, .unset]) rfl (XS.iloadN X145.here hx rfl (hb hby at_17) rfl kq))) ?_
    obtain ⟨_, _, ⟨T146, L146, k146, n146⟩, -, X146, ⟨Lc146, hQ146, l146, y146, z146⟩, st146⟩ := Jvm.LawKit.callS X145 hx (y := (⟨"com/example/davka/davka/AccountingCodeOfPinLaw", "draw", "(I)C"⟩ : MethodName)) hown (mvT hZ (hw _ (List.mem_of_getElem? (i := 0) rfl))) (mvT hZ (hw _ (List.mem_of_getElem? (i := 1) rfl))) (mvT hZ (hw _ (List.mem_of_getElem? (i := 2) rfl))) (mvT hZ (hw _ (List.mem_of_getElem? (i := 3) rfl))) (by decide) (backOf (W := 0) (rm1 l Z a0 hw [] h0 n0 O0 p3) hZ (hw _ (List.mem_of_getElem? (i := 3) rfl)) (hw _ (List.mem_of_getElem? (i := 2) rfl)) (by decide) (by decide)) (g := (mkF m 18 #[.val (.int p0), .val (.int p1), .val (.int p2), .val (.int p3), .val (.int (2 : Int32)), .val (.int z144), .val (.int z145), .unset, .unset, .unset, .unset] [(.int p3)])) rfl (by rw [hml]; rfl) (argsL := [(.int p3)]) (rest := []) (lenOf pd_20 rfl) rfl (by show 2 * 0 + _ ≤ _; exact Nat.le_of_eq rfl) (hb hby at_18) (fun _ _ => ⟨rfl, eh145, (by decide : 0 + 0 ≤ _), (by decide : 0 + 0 ≤ _)⟩)
    dsimp only [Pt.U, Pt.locs, Pt.cells, Pt.slots] at X146 l146 y146 z146 st146 hQ146
    subst l146 y146 z146
    obtain ⟨z146, rfl, r146, N146, eh146⟩ := hQ146
    have Nf146 := Fr.app Nf145 N146
    refine own_go (S' := (T146.setTop (mkF m 65 #[.val (.int p0), .val (.int p1), .val (.int p2), .val (.int p3), .val (.int (2 : Int32)), .val (.int z144), .val (.int z145), .val (.int z146), .unset, .unset, .unset] []))) (fun tq kq => st146 tq (XS.istore X146.here hx rfl (hb hby at_21) rfl (l' := #[.val (.int p0), .val (.int p1), .val (.int p2), .val (.int p3), .val (.int (2 : Int32)), .val (.int z144), .val (.int z145), .val (.int z146), .unset, .unset, .unset]) rfl (XS.iload X146.here hx rfl (hb hby at_23) rfl (XS.ifYes X146.here hx rfl (pc0 := 25) (pc' := 43) rfl (hb hby at_25) rfl ((if0 _ _).trans (feq (by decide : ¬ ((2 : Int32) = (0 : Int32)))).2) (by decide) (by decide) (XS.iload X146.here hx rfl (hb hby at_43) rfl (XS.iconst X146.here hx rfl (hb hby at_45) (XS.icmpYes X146.here hx rfl (pc0 := 46) (pc' := 59) rfl (hb hby at_46) rfl (feq (by decide : ¬ ((2 : Int32) = (1 : Int32)))).2 (by decide) (by decide) (XS.iload X146.here hx rfl (hb hby at_59) rfl (XS.iconst X146.here hx rfl (hb hby at_61) (XS.icmpNo X146.here hx rfl (hb hby at_62) rfl (teq (by decide : (2 : Int32) = (2 : Int32))).2 kq)))))))))) ?_
    obtain ⟨T147, h147, X147, e147, E147, A147, D147, -, st147⟩ := newO X146 hx hZ hown (hw _ (List.mem_of_getElem? (i := 6) rfl)) (hw _ (List.mem_of_getElem? (i := 7) rfl)) (hw _ (List.mem_of_getElem? (i := 8) rfl)) eh146 (g := (mkF m 65 #[.val (.int p0), .val (.int p1), .val (.int p2), .val (.int p3), .val (.int (2 : Int32)), .val (.int z144), .val (.int z145), .val (.int z146), .unset, .unset, .unset] [])) rfl (hb hby at_65) (by decide) (by decide)
    obtain ⟨b147, g147⟩ : ∃ z, z = h0.size := ⟨_, rfl⟩
    rw [← g147] at A147 D147 st147
    have ne_em_b147 : em ≠ b147 := Nat.ne_of_lt (Nat.lt_of_lt_of_le (EE.ext O0.2).lt (Nat.le_of_eq g147.symm))
    have ne_x0_b147 : x0 ≠ b147 := Nat.ne_of_lt (Nat.lt_of_lt_of_le (A0.ext O0.2).lt (Nat.le_of_eq g147.symm))
    have ne_x1_b147 : x1 ≠ b147 := Nat.ne_of_lt (Nat.lt_of_lt_of_le (A1.ext O0.2).lt (Nat.le_of_eq g147.symm))
    have ne_x2_b147 : x2 ≠ b147 := Nat.ne_of_lt (Nat.lt_of_lt_of_le (A2.ext O0.2).lt (Nat.le_of_eq g147.symm))
    have ne_x3_b147 : x3 ≠ b147 := Nat.ne_of_lt (Nat.lt_of_lt_of_le (A3.ext O0.2).lt (Nat.le_of_eq g147.symm))
    have ne_xs_b147 : xs ≠ b147 := Nat.ne_of_lt (Nat.lt_of_lt_of_le (VX.ext O0.2).lt (Nat.le_of_eq g147.symm))
    have ge_b147 : n0 ≤ b147 := Nat.le_trans (own_osz O0) (Nat.le_of_eq g147.symm)
    have gk_b147 : h0.size ≤ b147 := Nat.le_trans K0.1 (Nat.le_of_eq g147.symm)
    have O147 := O0.ext E147
    have K147 := K0.ext E147
    have F_value_b147 : Fld Z h147 b147 "java/lang/String" "value" "[B" .null := D147 (Or.inr (hw _ (List.mem_of_getElem? (i := 22) rfl))) (ty := (.array .byte)) (by decide)
    have F_coder_b147 : Fld Z h147 b147 "java/lang/String" "coder" "B" (.int (0 : Int32)) := D147 (Or.inr (hw _ (List.mem_of_getElem? (i := 23) rfl))) (ty := .byte) (by decide)
    refine own_go (S' := (T147.setTop (mkF m 70 #[.val (.int p0), .val (.int p1), .val (.int p2), .val (.int p3), .val (.int (2 : Int32)), .val (.int z144), .val (.int z145), .val (.int z146), .unset, .unset, .unset] [(.int (2 : Int32)), (.ref b147), (.ref b147)]))) (fun tq kq => st147 tq (XS.dup X147.here hx rfl (hb hby at_68) rfl rfl (XS.iconst X147.here hx rfl (hb hby at_69) kq))) ?_
    obtain ⟨T148, h148, k148, X148, e148, E148, A148, st148⟩ := newP X147 hx hZ (hw _ (List.mem_of_getElem? (i := 9) rfl)) e147 (g := (mkF m 70 #[.val (.int p0), .val (.int p1), .val (.int p2), .val (.int p3), .val (.int (2 : Int32)), .val (.int z144), .val (.int z145), .val (.int z146), .unset, .unset, .unset] [(.int (2 : Int32)), (.ref b147), (.ref b147)])) rfl (hb hby at_70) rfl (by decide) (cap := 2) (by decide) (by decide) (by decide) (by decide)
    obtain ⟨b148, g148⟩ : ∃ z, z = h147.size := ⟨_, rfl⟩
    rw [← g148] at A148 st148
    have ne_b147_b148 : b147 ≠ b148 := Nat.ne_of_lt (Nat.lt_of_lt_of_le A147.lt (Nat.le_of_eq g148.symm))
    have ne_em_b148 : em ≠ b148 := Nat.ne_of_lt (Nat.lt_of_lt_of_le (EE.ext O147.2).lt (Nat.le_of_eq g148.symm))
    have ne_x0_b148 : x0 ≠ b148 := Nat.ne_of_lt (Nat.lt_of_lt_of_le (A0.ext O147.2).lt (Nat.le_of_eq g148.symm))
    have ne_x1_b148 : x1 ≠ b148 := Nat.ne_of_lt (Nat.lt_of_lt_of_le (A1.ext O147.2).lt (Nat.le_of_eq g148.symm))
    have ne_x2_b148 : x2 ≠ b148 := Nat.ne_of_lt (Nat.lt_of_lt_of_le (A2.ext O147.2).lt (Nat.le_of_eq g148.symm))
    have ne_x3_b148 : x3 ≠ b148 := Nat.ne_of_lt (Nat.lt_of_lt_of_le (A3.ext O147.2).lt (Nat.le_of_eq g148.symm))
    have ne_xs_b148 : xs ≠ b148 := Nat.ne_of_lt (Nat.lt_of_lt_of_le (VX.ext O147.2).lt (Nat.le_of_eq g148.symm))
    have ge_b148 : n0 ≤ b148 := Nat.le_trans (own_osz O147) (Nat.le_of_eq g148.symm)
    have gk_b148 : h0.size ≤ b148 := Nat.le_trans K147.1 (Nat.le_of_eq g148.symm)
    have V148 : own_Ar Z h148 b148 k148 .char [(.int (0 : Int32)), (.int (0 : Int32))] := own_Ar.new A148 (by decide)
    have O148 := O147.ext E148
    have K148 := K147.ext E148
    refine own_go (S' := (T148.setTop (mkF m 76 #[.val (.int p0), .val (.int p1), .val (.int p2), .val (.int p3), .val (.int (2 : Int32)), .val (.int z144), .val (.int z145), .val (.int z146), .unset, .unset, .unset] [(.int z144), (.int (0 : Int32)), (.ref b148), (.ref b148), (.ref b147), (.ref b147)]))) (fun tq kq => st148 tq (XS.dup X148.here hx rfl (hb hby at_72) rfl rfl (XS.iconst X148.here hx rfl (hb hby at_73) (XS.iload X148.here hx rfl (hb hby at_74) rfl kq)))) ?_
    obtain ⟨cl149, Ar149, qa149, sa149, hin149, -⟩ := V148.at (j := (0 : Int32)) (by decide) rfl
    obtain ⟨T149, h149, X149, e149, W149, st149⟩ := stC X148 hx hZ e148 Ar149 (j := (0 : Int32)) hin149 (g := (mkF m 76 #[.val (.int p0), .val (.int p1), .val (.int p2), .val (.int p3), .val (.int (2 : Int32)), .val (.int z144), .val (.int z145), .val (.int z146), .unset, .unset, .unset] [(.int z144), (.int (0 : Int32)), (.ref b148), (.ref b148), (.ref b147), (.ref b147)])) rfl rfl (hb hby at_76)
    have N149 := Fr.snoc X149 Nf146 ge_b148
    have O149 := O148.wr W149 ge_b148
    have K149 := K148.wr W149 (Or.inr gk_b148)
    have V149 : own_Ar Z h149 b148 k148 .char [(.int (z144.toUInt32.toUInt16.toUInt32.toInt32)), (.int (0 : Int32))] := own_Ar.set Ar149 qa149 sa149 V148.small W149
    refine own_go (S' := (T149.setTop (mkF m 81 #[.val (.int p0), .val (.int p1), .val (.int p2), .val (.int p3), .val (.int (2 : Int32)), .val (.int z144), .val (.int z145), .val (.int z146), .unset, .unset, .unset] [(.int z145), (.int (1 : Int32)), (.ref b148), (.ref b148), (.ref b147), (.ref b147)]))) (fun tq kq => st149 tq (XS.dup X149.here hx rfl (hb hby at_77) rfl rfl (XS.iconst X149.here hx rfl (hb hby at_78) (XS.iload X149.here hx rfl (hb hby at_79) rfl kq)))) ?_
    obtain ⟨cl150, Ar150, qa150, sa150, hin150, -⟩ := V149.at (j := (1 : Int32)) (by decide) rfl
    obtain ⟨T150, h150, X150, e150, W150, st150⟩ := stC X149 hx hZ e149 Ar150 (j := (1 : Int32)) hin150 (g := (mkF m 81 #[.val (.int p0), .val (.int p1), .val (.int p2), .val (.int p3), .val (.int (2 : Int32)), .val (.int z144), .val (.int z145), .val (.int z146), .unset, .unset, .unset] [(.int z145), (.int (1 : Int32)), (.ref b148), (.ref b148), (.ref b147), (.ref b147)])) rfl rfl (hb hby at_81)
    have N150 := Fr.snoc X150 N149 ge_b148
    have O150 := O149.wr W150 ge_b148
    have K150 := K149.wr W150 (Or.inr gk_b148)
    have V150 : own_Ar Z h150 b148 k148 .char [(.int (z144.toUInt32.toUInt16.toUInt32.toInt32)), (.int (z145.toUInt32.toUInt16.toUInt32.toInt32))] := own_Ar.set Ar150 qa150 sa150 V149.small W150
    refine own_go (S' := (T150.setTop (mkF m 82 #[.val (.int p0), .val (.int p1), .val (.int p2), .val (.int p3), .val (.int (2 : Int32)), .val (.int z144), .val (.int z145), .val (.int z146), .unset, .unset, .unset] [(.ref b148), (.ref b147), (.ref b147)]))) (fun tq kq => st150 tq kq) ?_
    have f151 := (((A147.ext E148).wr W149).wr W150)
    have f152 := (((F_value_b147.ext E148).other W149 (Or.inl ne_b147_b148)).other W150 (Or.inl ne_b147_b148))
    have f153 := (((F_coder_b147.ext E148).other W149 (Or.inl ne_b147_b148)).other W150 (Or.inl ne_b147_b148))
    obtain ⟨_, _, ⟨T154, L154, k154, n154⟩, -, X154, ⟨Lc154, hQ154, l154, y154, z154⟩, st154⟩ := X150.specialBack hx (y := (⟨"java/lang/String", "<init>", "([C)V"⟩ : MethodName)) rfl hown (mvT hZ (hw _ (List.mem_of_getElem? (i := 10) rfl))) (mvT hZ (hw _ (List.mem_of_getElem? (i := 11) rfl))) (mvT hZ (hw _ (List.mem_of_getElem? (i := 12) rfl))) (by decide) (backOf (W := 1) (inc2 l Z a0 hw [] h150 n0 O150 b147 b148 k148 (z144.toUInt32.toUInt16.toUInt32.toInt32) (z145.toUInt32.toUInt16.toUInt32.toInt32) z fm SC hz SA SH SL SF hfm f151 f152 f153 ge_b147 V150 (own_charR _) (own_charR _) (Ne.symm ne_b147_b148)) hZ (hw _ (List.mem_of_getElem? (i := 12) rfl)) (hw _ (List.mem_of_getElem? (i := 8) rfl)) (by decide) (by decide)) (g := (mkF m 82 #[.val (.int p0), .val (.int p1), .val (.int p2), .val (.int p3), .val (.int (2 : Int32)), .val (.int z144), .val (.int z145), .val (.int z146), .unset, .unset, .unset] [(.ref b148), (.ref b147), (.ref b147)])) rfl (by rw [hml]; rfl) (Steps.refl _) (a := b147) (argsL := [(.ref b148)]) (rest := [(.ref b147)]) (lenOf pd_23 rfl) rfl (by show 2 * 0 + _ ≤ _; exact Nat.le_of_eq rfl) (hb hby at_82) (fun _ _ => ⟨rfl, e150, (by decide : 2 + 2 ≤ _), (by decide : 6 + 6 ≤ _)⟩)
    dsimp only [Pt.U, Pt.locs, Pt.cells, Pt.slots] at X154 l154 y154 z154 st154 hQ154
    subst l154 y154 z154
    obtain ⟨rfl, N154, K154, R154⟩ := hQ154
    have Nf154 := Fr.app N150 N154
    have O154 := O150.keep K154 (allS ge_b147 all0)
    have KK154 := K150.trans K154 (allS (Or.inr gk_b147) all0)
    obtain ⟨d154, kd154, vs154, Fv154, Vd154, hor⟩ := R154
    refine own_go (S' := (T154.setTop (mkF m 85 #[.val (.int p0), .val (.int p1), .val (.int p2), .val (.int p3), .val (.int (2 : Int32)), .val (.int z144), .val (.int z145), .val (.int z146), .unset, .unset, .unset] [(.ref b147)]))) (fun tq kq => st154.trans kq) ?_
    rcases hor with ⟨Fcz, hlz⟩ | ⟨Fcz, hlz⟩
    · refine own_go (S' := (T154.setTop (mkF m 119 #[.val (.int p0), .val (.int p1), .val (.int p2), .val (.int p3), .val (.int (2 : Int32)), .val (.int z144), .val (.int z145), .val (.int z146), .val (.ref b147), .unset, .unset] [(.ref b147)]))) (fun tq kq => XS.astore X154.here hx rfl (hb hby at_85) rfl rfl (l' := #[.val (.int p0), .val (.int p1), .val (.int p2), .val (.int p3), .val (.int (2 : Int32)), .val (.int z144), .val (.int z145), .val (.int z146), .val (.ref b147), .unset, .unset]) rfl (XS.goto X154.here hx rfl (pc0 := 87) (pc' := 117) rfl (hb hby at_87) (by decide) (by decide) (XS.aload X154.here hx rfl (hb hby at_117) rfl rfl kq))) ?_
      have f155 := (f151.keep K154)
      obtain ⟨_, _, ⟨T156, L156, k156, n156⟩, -, X156, ⟨Lc156, hQ156, l156, y156, z156⟩, st156⟩ := Jvm.LawKit.callS X154 hx (y := (⟨"com/example/davka/davka/AccountingCode", "of", "(Ljava/lang/String;)Ljava/util/Optional;"⟩ : MethodName)) hown (mvT hZ (hw _ (List.mem_of_getElem? (i := 28) rfl))) (mvT hZ (hw _ (List.mem_of_getElem? (i := 29) rfl))) (mvT hZ (hw _ (List.mem_of_getElem? (i := 30) rfl))) (mvT hZ (hw _ (List.mem_of_getElem? (i := 31) rfl))) (by decide) (backOf (W := 0) (ofs2_0 l Z a0 hw [] T154.heap n0 O154 b147 d154 kd154 vs154 em xs kx x0 x1 x2 x3 z fm f155 Fcz Fv154 Vd154 hlz SE EE FE SX VX S0 A0 B0 S1 A1 B1 S2 A2 B2 S3 A3 B3 SC hz SA SH SL SF hfm) hZ (hw _ (List.mem_of_getElem? (i := 31) rfl)) (hw _ (List.mem_of_getElem? (i := 30) rfl)) (by decide) (by decide)) (g := (mkF m 119 #[.val (.int p0), .val (.int p1), .val (.int p2), .val (.int p3), .val (.int (2 : Int32)), .val (.int z144), .val (.int z145), .val (.int z146), .val (.ref b147), .unset, .unset] [(.ref b147)])) rfl (by rw [hml]; rfl) (argsL := [(.ref b147)]) (rest := []) (lenOf pd_24 rfl) rfl (by show 2 * 0 + _ ≤ _; exact Nat.le_of_eq rfl) (hb hby at_119) (fun _ _ => ⟨rfl, rfl, (by decide : 4 + 0 ≤ _), (by decide : 12 + 0 ≤ _)⟩)
      dsimp only [Pt.U, Pt.locs, Pt.cells, Pt.slots] at X156 l156 y156 z156 st156 hQ156
      subst l156 y156 z156
      obtain ⟨rfl, N156, eh156⟩ := hQ156
      have Nf156 := Fr.app Nf154 N156
      refine own_go (S' := (T156.setTop (mkF m 127 #[.val (.int p0), .val (.int p1), .val (.int p2), .val (.int p3), .val (.int (2 : Int32)), .val (.int z144), .val (.int z145), .val (.int z146), .val (.ref b147), .val (.ref em), .unset] [.null, (.ref em)]))) (fun tq kq => st156 tq (XS.astore X156.here hx rfl (hb hby at_122) rfl rfl (l' := #[.val (.int p0), .val (.int p1), .val (.int p2), .val (.int p3), .val (.int (2 : Int32)), .val (.int z144), .val (.int z145), .val (.int z146), .val (.ref b147), .val (.ref em), .unset]) rfl (XS.aload X156.here hx rfl (hb hby at_124) rfl rfl (XS.aconstNull X156.here hx rfl (hb hby at_126) kq)))) ?_
      obtain ⟨cq157, kq157, q157a, q157b, q157c⟩ := isOf hZ eh156 (EE.ext O154.2)
      obtain ⟨_, _, ⟨T157, L157, k157, n157⟩, -, X157, ⟨Lc157, hQ157, l157, y157, z157⟩, st157⟩ := X156.virtualBack hx (y := (⟨"java/util/Optional", "orElse", "(Ljava/lang/Object;)Ljava/lang/Object;"⟩ : MethodName)) (z := (⟨"java/util/Optional", "orElse", "(Ljava/lang/Object;)Ljava/lang/Object;"⟩ : MethodName)) hown (mvT hZ (hw _ (List.mem_of_getElem? (i := 48) rfl))) (mvT hZ (hw _ (List.mem_of_getElem? (i := 49) rfl))) (notFace_of_selects (args := #[]) (mvT hZ (hw _ (List.mem_of_getElem? (i := 51) rfl)))) (mvT hZ (hw _ (List.mem_of_getElem? (i := 51) rfl))) (mvT hZ (hw _ (List.mem_of_getElem? (i := 50) rfl))) (by decide) (backOf (W := 0) (orn l Z a0 hw [] T154.heap n0 O154 em (FE.ext O154.2)) hZ (hw _ (List.mem_of_getElem? (i := 52) rfl)) (hw _ (List.mem_of_getElem? (i := 45) rfl)) (by decide) (by decide)) q157a q157c (g := (mkF m 127 #[.val (.int p0), .val (.int p1), .val (.int p2), .val (.int p3), .val (.int (2 : Int32)), .val (.int z144), .val (.int z145), .val (.int z146), .val (.ref b147), .val (.ref em), .unset] [.null, (.ref em)])) rfl (by rw [hml]; rfl) (Steps.refl _) (argsL := [.null]) (rest := []) (lenOf pd_25 rfl) rfl (by show 2 * 0 + _ ≤ _; exact Nat.le_of_eq rfl) (hb hby at_127) (fun _ _ => ⟨rfl, eh156, (by decide : 4 + 0 ≤ _), (by decide : 12 + 0 ≤ _)⟩)
      dsimp only [Pt.U, Pt.locs, Pt.cells, Pt.slots] at X157 l157 y157 z157 st157 hQ157
      subst l157 y157 z157
      obtain ⟨rfl, N157, eh157⟩ := hQ157
      have Nf157 := Fr.app Nf156 N157
      refine own_go (S' := (T157.setTop (mkF m 141 #[.val (.int p0), .val (.int p1), .val (.int p2), .val (.int p3), .val (.int (2 : Int32)), .val (.int z144), .val (.int z145), .val (.int z146), .val (.ref b147), .val (.ref em), .val .null] [(.int z144), (.int (2 : Int32)), .null]))) (fun tq kq => st157.trans (X157.checkcastNull hx (g := (mkF m 130 #[.val (.int p0), .val (.int p1), .val (.int p2), .val (.int p3), .val (.int (2 : Int32)), .val (.int z144), .val (.int z145), .val (.int z146), .val (.ref b147), .val (.ref em), .unset] [.null])) rfl rfl (hb hby at_130) tq (XS.astore X157.here hx rfl (hb hby at_133) rfl rfl (l' := #[.val (.int p0), .val (.int p1), .val (.int p2), .val (.int p3), .val (.int (2 : Int32)), .val (.int z144), .val (.int z145), .val (.int z146), .val (.ref b147), .val (.ref em), .val .null]) rfl (XS.aload X157.here hx rfl (hb hby at_135) rfl rfl (XS.iload X157.here hx rfl (hb hby at_137) rfl (XS.iload X157.here hx rfl (hb hby at_139) rfl kq)))))) ?_
      obtain ⟨_, _, ⟨T158, L158, k158, n158⟩, -, X158, ⟨Lc158, hQ158, l158, y158, z158⟩, st158⟩ := Jvm.LawKit.callS X157 hx (y := (⟨"com/example/davka/davka/AccountingCodeOfPinLaw", "expected", "(IC)Lcom/example/davka/davka/AccountingCode;"⟩ : MethodName)) hown (mvT hZ (hw _ (List.mem_of_getElem? (i := 55) rfl))) (mvT hZ (hw _ (List.mem_of_getElem? (i := 56) rfl))) (mvT hZ (hw _ (List.mem_of_getElem? (i := 2) rfl))) (mvT hZ (hw _ (List.mem_of_getElem? (i := 57) rfl))) (by decide) (backOf (W := 1) (exz2 l Z a0 hw [] T154.heap n0 O154 z144) hZ (hw _ (List.mem_of_getElem? (i := 57) rfl)) (hw _ (List.mem_of_getElem? (i := 2) rfl)) (by decide) (by decide)) (g := (mkF m 141 #[.val (.int p0), .val (.int p1), .val (.int p2), .val (.int p3), .val (.int (2 : Int32)), .val (.int z144), .val (.int z145), .val (.int z146), .val (.ref b147), .val (.ref em), .val .null] [(.int z144), (.int (2 : Int32)), .null])) rfl (by rw [hml]; rfl) (argsL := [(.int (2 : Int32)), (.int z144)]) (rest := [.null]) (lenOf pd_26 rfl) rfl (by show 2 * 0 + _ ≤ _; exact Nat.le_of_eq rfl) (hb hby at_141) (fun _ _ => ⟨rfl, eh157, (by decide : 4 + 0 ≤ _), (by decide : 12 + 0 ≤ _)⟩)
      dsimp only [Pt.U, Pt.locs, Pt.cells, Pt.slots] at X158 l158 y158 z158 st158 hQ158
      subst l158 y158 z158
      obtain ⟨rfl, N158, eh158⟩ := hQ158
      have Nf158 := Fr.app Nf157 N158
      refine own_go (S' := (T158.setTop (mkF m 152 #[.val (.int p0), .val (.int p1), .val (.int p2), .val (.int p3), .val (.int (2 : Int32)), .val (.int z144), .val (.int z145), .val (.int z146), .val (.ref b147), .val (.ref em), .val .null] [(.int (1 : Int32))]))) (fun tq kq => st158 tq (Jvm.RoadKit.acmp (g := (mkF m 144 #[.val (.int p0), .val (.int p1), .val (.int p2), .val (.int p3), .val (.int (2 : Int32)), .val (.int z144), .val (.int z145), .val (.int z146), .val (.ref b147), .val (.ref em), .val .null] [.null, .null])) X158 hx rfl rfl rfl (pc0 := 144) (pc' := 147) (same := true) rfl (hb hby at_144) rfl (decide_eq_true rfl) (by decide) (by decide) (XS.iconst X158.here hx rfl (hb hby at_147) (XS.goto X158.here hx rfl (pc0 := 148) (pc' := 152) rfl (hb hby at_148) (by decide) (by decide) kq)))) ?_
      refine own_retN X158 hx hlk hret (by simp) (hb hby at_152) (by decide) (by decide) ?_
      exact ⟨rfl, Nf158⟩
    · refine own_go (S' := (T154.setTop (mkF m 119 #[.val (.int p0), .val (.int p1), .val (.int p2), .val (.int p3), .val (.int (2 : Int32)), .val (.int z144), .val (.int z145), .val (.int z146), .val (.ref b147), .unset, .unset] [(.ref b147)]))) (fun tq kq => XS.astore X154.here hx rfl (hb hby at_85) rfl rfl (l' := #[.val (.int p0), .val (.int p1), .val (.int p2), .val (.int p3), .val (.int (2 : Int32)), .val (.int z144), .val (.int z145), .val (.int z146), .val (.ref b147), .unset, .unset]) rfl (XS.goto X154.here hx rfl (pc0 := 87) (pc' := 117) rfl (hb hby at_87) (by decide) (by decide) (XS.aload X154.here hx rfl (hb hby at_117) rfl rfl kq))) ?_
      have f159 := (f151.keep K154)
      obtain ⟨_, _, ⟨T160, L160, k160, n160⟩, -, X160, ⟨Lc160, hQ160, l160, y160, z160⟩, st160⟩ := Jvm.LawKit.callS X154 hx (y := (⟨"com/example/davka/davka/AccountingCode", "of", "(Ljava/lang/String;)Ljava/util/Optional;"⟩ : MethodName)) hown (mvT hZ (hw _ (List.mem_of_getElem? (i := 28) rfl))) (mvT hZ (hw _ (List.mem_of_getElem? (i := 29) rfl))) (mvT hZ (hw _ (List.mem_of_getElem? (i := 30) rfl))) (mvT hZ (hw _ (List.mem_of_getElem? (i := 31) rfl))) (by decide) (backOf (W := 0) (ofs4_1 l Z a0 hw [] T154.heap n0 O154 b147 d154 kd154 vs154 em xs kx x0 x1 x2 x3 z fm f159 Fcz Fv154 Vd154 hlz SE EE FE SX VX S0 A0 B0 S1 A1 B1 S2 A2 B2 S3 A3 B3 SC hz SA SH SL SF hfm) hZ (hw _ (List.mem_of_getElem? (i := 31) rfl)) (hw _ (List.mem_of_getElem? (i := 30) rfl)) (by decide) (by decide)) (g := (mkF m 119 #[.val (.int p0), .val (.int p1), .val (.int p2), .val (.int p3), .val (.int (2 : Int32)), .val (.int z144), .val (.int z145), .val (.int z146), .val (.ref b147), .unset, .unset] [(.ref b147)])) rfl (by rw [hml]; rfl) (argsL := [(.ref b147)]) (rest := []) (lenOf pd_24 rfl) rfl (by show 2 * 0 + _ ≤ _; exact Nat.le_of_eq rfl) (hb hby at_119) (fun _ _ => ⟨rfl, rfl, (by decide : 4 + 0 ≤ _), (by decide : 12 + 0 ≤ _)⟩)
      dsimp only [Pt.U, Pt.locs, Pt.cells, Pt.slots] at X160 l160 y160 z160 st160 hQ160
      subst l160 y160 z160
      obtain ⟨rfl, N160, eh160⟩ := hQ160
      have Nf160 := Fr.app Nf154 N160
      refine own_go (S' := (T160.setTop (mkF m 127 #[.val (.int p0), .val (.int p1), .val (.int p2), .val (.int p3), .val (.int (2 : Int32)), .val (.int z144), .val (.int z145), .val (.int z146), .val (.ref b147), .val (.ref em), .unset] [.null, (.ref em)]))) (fun tq kq => st160 tq (XS.astore X160.here hx rfl (hb hby at_122) rfl rfl (l' := #[.val (.int p0), .val (.int p1), .val (.int p2), .val (.int p3), .val (.int (2 : Int32)), .val (.int z144), .val (.int z145), .val (.int z146), .val (.ref b147), .val (.ref em), .unset]) rfl (XS.aload X160.here hx rfl (hb hby at_124) rfl rfl (XS.aconstNull X160.here hx rfl (hb hby at_126) kq)))) ?_
      obtain ⟨cq161, kq161, q161a, q161b, q161c⟩ := isOf hZ eh160 (EE.ext O154.2)
      obtain ⟨_, _, ⟨T161, L161, k161, n161⟩, -, X161, ⟨Lc161, hQ161, l161, y161, z161⟩, st161⟩ := X160.virtualBack hx (y := (⟨"java/util/Optional", "orElse", "(Ljava/lang/Object;)Ljava/lang/Object;"⟩ : MethodName)) (z := (⟨"java/util/Optional", "orElse", "(Ljava/lang/Object;)Ljava/lang/Object;"⟩ : MethodName)) hown (mvT hZ (hw _ (List.mem_of_getElem? (i := 48) rfl))) (mvT hZ (hw _ (List.mem_of_getElem? (i := 49) rfl))) (notFace_of_selects (args := #[]) (mvT hZ (hw _ (List.mem_of_getElem? (i := 51) rfl)))) (mvT hZ (hw _ (List.mem_of_getElem? (i := 51) rfl))) (mvT hZ (hw _ (List.mem_of_getElem? (i := 50) rfl))) (by decide) (backOf (W := 0) (orn l Z a0 hw [] T154.heap n0 O154 em (FE.ext O154.2)) hZ (hw _ (List.mem_of_getElem? (i := 52) rfl)) (hw _ (List.mem_of_getElem? (i := 45) rfl)) (by decide) (by decide)) q161a q161c (g := (mkF m 127 #[.val (.int p0), .val (.int p1), .val (.int p2), .val (.int p3), .val (.int (2 : Int32)), .val (.int z144), .val (.int z145), .val (.int z146), .val (.ref b147), .val (.ref em), .unset] [.null, (.ref em)])) rfl (by rw [hml]; rfl) (Steps.refl _) (argsL := [.null]) (rest := []) (lenOf pd_25 rfl) rfl (by show 2 * 0 + _ ≤ _; exact Nat.le_of_eq rfl) (hb hby at_127) (fun _ _ => ⟨rfl, eh160, (by decide : 4 + 0 ≤ _), (by decide : 12 + 0 ≤ _)⟩)
      dsimp only [Pt.U, Pt.locs, Pt.cells, Pt.slots] at X161 l161 y161 z161 st161 hQ161
      subst l161 y161 z161
      obtain ⟨rfl, N161, eh161⟩ := hQ161
      have Nf161 := Fr.app Nf160 N161
      refine own_go (S' := (T161.setTop (mkF m 141 #[.val (.int p0), .val (.int p1), .val (.int p2), .val (.int p3), .val (.int (2 : Int32)), .val (.int z144), .val (.int z145), .val (.int z146), .val (.ref b147), .val (.ref em), .val .null] [(.int z144), (.int (2 : Int32)), .null]))) (fun tq kq => st161.trans (X161.checkcastNull hx (g := (mkF m 130 #[.val (.int p0), .val (.int p1), .val (.int p2), .val (.int p3), .val (.int (2 : Int32)), .val (.int z144), .val (.int z145), .val (.int z146), .val (.ref b147), .val (.ref em), .unset] [.null])) rfl rfl (hb hby at_130) tq (XS.astore X161.here hx rfl (hb hby at_133) rfl rfl (l' := #[.val (.int p0), .val (.int p1), .val (.int p2), .val (.int p3), .val (.int (2 : Int32)), .val (.int z144), .val (.int z145), .val (.int z146), .val (.ref b147), .val (.ref em), .val .null]) rfl (XS.aload X161.here hx rfl (hb hby at_135) rfl rfl (XS.iload X161.here hx rfl (hb hby at_137) rfl (XS.iload X161.here hx rfl (hb hby at_139) rfl kq)))))) ?_
      obtain ⟨_, _, ⟨T162, L162, k162, n162⟩, -, X162, ⟨Lc162, hQ162, l162, y162, z162⟩, st162⟩ := Jvm.LawKit.callS X161 hx (y := (⟨"com/example/davka/davka/AccountingCodeOfPinLaw", "expected", "(IC)Lcom/example/davka/davka/AccountingCode;"⟩ : MethodName)) hown (mvT hZ (hw _ (List.mem_of_getElem? (i := 55) rfl))) (mvT hZ (hw _ (List.mem_of_getElem? (i := 56) rfl))) (mvT hZ (hw _ (List.mem_of_getElem? (i := 2) rfl))) (mvT hZ (hw _ (List.mem_of_getElem? (i := 57) rfl))) (by decide) (backOf (W := 1) (exz2 l Z a0 hw [] T154.heap n0 O154 z144) hZ (hw _ (List.mem_of_getElem? (i := 57) rfl)) (hw _ (List.mem_of_getElem? (i := 2) rfl)) (by decide) (by decide)) (g := (mkF m 141 #[.val (.int p0), .val (.int p1), .val (.int p2), .val (.int p3), .val (.int (2 : Int32)), .val (.int z144), .val (.int z145), .val (.int z146), .val (.ref b147), .val (.ref em), .val .null] [(.int z144), (.int (2 : Int32)), .null])) rfl (by rw [hml]; rfl) (argsL := [(.int (2 : Int32)), (.int z144)]) (rest := [.null]) (lenOf pd_26 rfl) rfl (by show 2 * 0 + _ ≤ _; exact Nat.le_of_eq rfl) (hb hby at_141) (fun _ _ => ⟨rfl, eh161, (by decide : 4 + 0 ≤ _), (by decide : 12 + 0 ≤ _)⟩)
      dsimp only [Pt.U, Pt.locs, Pt.cells, Pt.slots] at X162 l162 y162 z162 st162 hQ162
      subst l162 y162 z162
      obtain ⟨rfl, N162, eh162⟩ := hQ162
      have Nf162 := Fr.app Nf161 N162
      refine own_go (S' := (T162.setTop (mkF m 152 #[.val (.int p0), .val (.int p1), .val (.int p2), .val (.int p3), .val (.int (2 : Int32)), .val (.int z144), .val (.int z145), .val (.int z146), .val (.ref b147), .val (.ref em), .val .null] [(.int (1 : Int32))]))) (fun tq kq => st162 tq (Jvm.RoadKit.acmp (g := (mkF m 144 #[.val (.int p0), .val (.int p1), .val (.int p2), .val (.int p3), .val (.int (2 : Int32)), .val (.int z144), .val (.int z145), .val (.int z146), .val (.ref b147), .val (.ref em), .val .null] [.null, .null])) X162 hx rfl rfl rfl (pc0 := 144) (pc' := 147) (same := true) rfl (hb hby at_144) rfl (decide_eq_true rfl) (by decide) (by decide) (XS.iconst X162.here hx rfl (hb hby at_147) (XS.goto X162.here hx rfl (pc0 := 148) (pc' := 152) rfl (hb hby at_148) (by decide) (by decide) kq)))) ?_
      refine own_retN X162 hx hlk hret (by simp) (hb hby at_152) (by decide) (by decide) ?_
      exact ⟨rfl, Nf162⟩
  · rw [hq]
    refine own_wide ?_
    refine own_go (S' := (s₁.setTop (mkF m 6 #[.val (.int p0), .val (.int p1), .val (.int p2), .val (.int p3), .val (.int (3 : Int32)), .unset, .unset, .unset, .unset, .unset, .unset] [(.int p1)]))) (fun tq kq => XS.istore X0.here hx rfl (hb hby at_3) rfl (l' := #[.val (.int p0), .val (.int p1), .val (.int p2), .val (.int p3), .val (.int (3 : Int32)), .unset, .unset, .unset, .unset, .unset, .unset]) rfl (XS.iloadN X0.here hx rfl (hb hby at_5) rfl kq)) ?_
    obtain ⟨_, _, ⟨T163, L163, k163, n163⟩, -, X163, ⟨Lc163, hQ163, l163, y163, z163⟩, st163⟩ := Jvm.LawKit.callS X0 hx (y := (⟨"com/example/davka/davka/AccountingCodeOfPinLaw", "draw", "(I)C"⟩ : MethodName)) hown (mvT hZ (hw _ (List.mem_of_getElem? (i := 0) rfl))) (mvT hZ (hw _ (List.mem_of_getElem? (i := 1) rfl))) (mvT hZ (hw _ (List.mem_of_getElem? (i := 2) rfl))) (mvT hZ (hw _ (List.mem_of_getElem? (i := 3) rfl))) (by decide) (backOf (W := 0) (rm1 l Z a0 hw [] h0 n0 O0 p1) hZ (hw _ (List.mem_of_getElem? (i := 3) rfl)) (hw _ (List.mem_of_getElem? (i := 2) rfl)) (by decide) (by decide)) (g := (mkF m 6 #[.val (.int p0), .val (.int p1), .val (.int p2), .val (.int p3), .val (.int (3 : Int32)), .unset, .unset, .unset, .unset, .unset, .unset] [(.int p1)])) rfl (by rw [hml]; rfl) (argsL := [(.int p1)]) (rest := []) (lenOf pd_20 rfl) rfl (by show 2 * 0 + _ ≤ _; exact Nat.le_of_eq rfl) (hb hby at_6) (fun _ _ => ⟨rfl, e0, (by decide : 0 + 0 ≤ _), (by decide : 0 + 0 ≤ _)⟩)
    dsimp only [Pt.U, Pt.locs, Pt.cells, Pt.slots] at X163 l163 y163 z163 st163 hQ163
    subst l163 y163 z163
    obtain ⟨z163, rfl, r163, N163, eh163⟩ := hQ163
    have Nf163 := Fr.app N0 N163
    refine own_go (S' := (T163.setTop (mkF m 12 #[.val (.int p0), .val (.int p1), .val (.int p2), .val (.int p3), .val (.int (3 : Int32)), .val (.int z163), .unset, .unset, .unset, .unset, .unset] [(.int p2)]))) (fun tq kq => st163 tq (XS.istore X163.here hx rfl (hb hby at_9) rfl (l' := #[.val (.int p0), .val (.int p1), .val (.int p2), .val (.int p3), .val (.int (3 : Int32)), .val (.int z163), .unset, .unset, .unset, .unset, .unset]) rfl (XS.iloadN X163.here hx rfl (hb hby at_11) rfl kq))) ?_
    obtain ⟨_, _, ⟨T164, L164, k164, n164⟩, -, X164, ⟨Lc164, hQ164, l164, y164, z164⟩, st164⟩ := Jvm.LawKit.callS X163 hx (y := (⟨"com/example/davka/davka/AccountingCodeOfPinLaw", "draw", "(I)C"⟩ : MethodName)) hown (mvT hZ (hw _ (List.mem_of_getElem? (i := 0) rfl))) (mvT hZ (hw _ (List.mem_of_getElem? (i := 1) rfl))) (mvT hZ (hw _ (List.mem_of_getElem? (i := 2) rfl))) (mvT hZ (hw _ (List.mem_of_getElem? (i := 3) rfl))) (by decide) (backOf (W := 0) (rm1 l Z a0 hw [] h0 n0 O0 p2) hZ (hw _ (List.mem_of_getElem? (i := 3) rfl)) (hw _ (List.mem_of_getElem? (i := 2) rfl)) (by decide) (by decide)) (g := (mkF m 12 #[.val (.int p0), .val (.int p1), .val (.int p2), .val (.int p3), .val (.int (3 : Int32)), .val (.int z163), .unset, .unset, .unset, .unset, .unset] [(.int p2)])) rfl (by rw [hml]; rfl) (argsL := [(.int p2)]) (rest := []) (lenOf pd_20 rfl) rfl (by show 2 * 0 + _ ≤ _; exact Nat.le_of_eq rfl) (hb hby at_12) (fun _ _ => ⟨rfl, eh163, (by decide : 0 + 0 ≤ _), (by decide : 0 + 0 ≤ _)⟩)
    dsimp only [Pt.U, Pt.locs, Pt.cells, Pt.slots] at X164 l164 y164 z164 st164 hQ164
    subst l164 y164 z164
    obtain ⟨z164, rfl, r164, N164, eh164⟩ := hQ164
    have Nf164 := Fr.app Nf163 N164
    refine own_go (S' := (T164.setTop (mkF m 18 #[.val (.int p0), .val (.int p1), .val (.int p2), .val (.int p3), .val (.int (3 : Int32)), .val (.int z163), .val (.int z164), .unset, .unset, .unset, .unset] [(.int p3)]))) (fun tq kq => st164 tq (XS.istore X164.here hx rfl (hb hby at_15) rfl (l' := #[.val (.int p0), .val (.int p1), .val (.int p2), .val (.int p3), .val (.int (3 : Int32)), .val (.int z163), .val (.int z164), .unset, .unset, .unset, .unset]) rfl (XS.iloadN X164.here hx rfl (hb hby at_17) rfl kq))) ?_
    obtain ⟨_, _, ⟨T165, L165, k165, n165⟩, -, X165, ⟨Lc165, hQ165, l165, y165, z165⟩, st165⟩ := Jvm.LawKit.callS X164 hx (y := (⟨"com/example/davka/davka/AccountingCodeOfPinLaw", "draw", "(I)C"⟩ : MethodName)) hown (mvT hZ (hw _ (List.mem_of_getElem? (i := 0) rfl))) (mvT hZ (hw _ (List.mem_of_getElem? (i := 1) rfl))) (mvT hZ (hw _ (List.mem_of_getElem? (i := 2) rfl))) (mvT hZ (hw _ (List.mem_of_getElem? (i := 3) rfl))) (by decide) (backOf (W := 0) (rm1 l Z a0 hw [] h0 n0 O0 p3) hZ (hw _ (List.mem_of_getElem? (i := 3) rfl)) (hw _ (List.mem_of_getElem? (i := 2) rfl)) (by decide) (by decide)) (g := (mkF m 18 #[.val (.int p0), .val (.int p1), .val (.int p2), .val (.int p3), .val (.int (3 : Int32)), .val (.int z163), .val (.int z164), .unset, .unset, .unset, .unset] [(.int p3)])) rfl (by rw [hml]; rfl) (argsL := [(.int p3)]) (rest := []) (lenOf pd_20 rfl) rfl (by show 2 * 0 + _ ≤ _; exact Nat.le_of_eq rfl) (hb hby at_18) (fun _ _ => ⟨rfl, eh164, (by decide : 0 + 0 ≤ _), (by decide : 0 + 0 ≤ _)⟩)
    dsimp only [Pt.U, Pt.locs, Pt.cells, Pt.slots] at X165 l165 y165 z165 st165 hQ165
    subst l165 y165 z165
    obtain ⟨z165, rfl, r165, N165, eh165⟩ := hQ165
    have Nf165 := Fr.app Nf164 N165
    refine own_go (S' := (T165.setTop (mkF m 90 #[.val (.int p0), .val (.int p1), .val (.int p2), .val (.int p3), .val (.int (3 : Int32)), .val (.int z163), .val (.int z164), .val (.int z165), .unset, .unset, .unset] []))) (fun tq kq => st165 tq (XS.istore X165.here hx rfl (hb hby at_21) rfl (l' := #[.val (.int p0), .val (.int p1), .val (.int p2), .val (.int p3), .val (.int (3 : Int32)), .val (.int z163), .val (.int z164), .val (.int z165), .unset, .unset, .unset]) rfl (XS.iload X165.here hx rfl (hb hby at_23) rfl (XS.ifYes X165.here hx rfl (pc0 := 25) (pc' := 43) rfl (hb hby at_25) rfl ((if0 _ _).trans (feq (by decide : ¬ ((3 : Int32) = (0 : Int32)))).2) (by decide) (by decide) (XS.iload X165.here hx rfl (hb hby at_43) rfl (XS.iconst X165.here hx rfl (hb hby at_45) (XS.icmpYes X165.here hx rfl (pc0 := 46) (pc' := 59) rfl (hb hby at_46) rfl (feq (by decide : ¬ ((3 : Int32) = (1 : Int32)))).2 (by decide) (by decide) (XS.iload X165.here hx rfl (hb hby at_59) rfl (XS.iconst X165.here hx rfl (hb hby at_61) (XS.icmpYes X165.here hx rfl (pc0 := 62) (pc' := 90) rfl (hb hby at_62) rfl (feq (by decide : ¬ ((3 : Int32) = (2 : Int32)))).2 (by decide) (by decide) kq)))))))))) ?_
    obtain ⟨T166, h166, X166, e166, E166, A166, D166, -, st166⟩ := newO X165 hx hZ hown (hw _ (List.mem_of_getElem? (i := 6) rfl)) (hw _ (List.mem_of_getElem? (i := 7) rfl)) (hw _ (List.mem_of_getElem? (i := 8) rfl)) eh165 (g := (mkF m 90 #[.val (.int p0), .val (.int p1), .val (.int p2), .val (.int p3), .val (.int (3 : Int32)), .val (.int z163), .val (.int z164), .val (.int z165), .unset, .unset, .unset] [])) rfl (hb hby at_90) (by decide) (by decide)
    obtain ⟨b166, g166⟩ : ∃ z, z = h0.size := ⟨_, rfl⟩
    rw [← g166] at A166 D166 st166
    have ne_em_b166 : em ≠ b166 := Nat.ne_of_lt (Nat.lt_of_lt_of_le (EE.ext O0.2).lt (Nat.le_of_eq g166.symm))
    have ne_x0_b166 : x0 ≠ b166 := Nat.ne_of_lt (Nat.lt_of_lt_of_le (A0.ext O0.2).lt (Nat.le_of_eq g166.symm))
    have ne_x1_b166 : x1 ≠ b166 := Nat.ne_of_lt (Nat.lt_of_lt_of_le (A1.ext O0.2).lt (Nat.le_of_eq g166.symm))
    have ne_x2_b166 : x2 ≠ b166 := Nat.ne_of_lt (Nat.lt_of_lt_of_le (A2.ext O0.2).lt (Nat.le_of_eq g166.symm))
    have ne_x3_b166 : x3 ≠ b166 := Nat.ne_of_lt (Nat.lt_of_lt_of_le (A3.ext O0.2).lt (Nat.le_of_eq g166.symm))
    have ne_xs_b166 : xs ≠ b166 := Nat.ne_of_lt (Nat.lt_of_lt_of_le (VX.ext O0.2).lt (Nat.le_of_eq g166.symm))
    have ge_b166 : n0 ≤ b166 := Nat.le_trans (own_osz O0) (Nat.le_of_eq g166.symm)
    have gk_b166 : h0.size ≤ b166 := Nat.le_trans K0.1 (Nat.le_of_eq g166.symm)
    have O166 := O0.ext E166
    have K166 := K0.ext E166
    have F_value_b166 : Fld Z h166 b166 "java/lang/String" "value" "[B" .null := D166 (Or.inr (hw _ (List.mem_of_getElem? (i := 22) rfl))) (ty := (.array .byte)) (by decide)
    have F_coder_b166 : Fld Z h166 b166 "java/lang/String" "coder" "B" (.int (0 : Int32)) := D166 (Or.inr (hw _ (List.mem_of_getElem? (i := 23) rfl))) (ty := .byte) (by decide)
    refine own_go (S' := (T166.setTop (mkF m 95 #[.val (.int p0), .val (.int p1), .val (.int p2), .val (.int p3), .val (.int (3 : Int32)), .val (.int z163), .val (.int z164), .val (.int z165), .unset, .unset, .unset] [(.int (3 : Int32)), (.ref b166), (.ref b166)]))) (fun tq kq => st166 tq (XS.dup X166.here hx rfl (hb hby at_93) rfl rfl (XS.iconst X166.here hx rfl (hb hby at_94) kq))) ?_
    obtain ⟨T167, h167, k167, X167, e167, E167, A167, st167⟩ := newP X166 hx hZ (hw _ (List.mem_of_getElem? (i := 9) rfl)) e166 (g := (mkF m 95 #[.val (.int p0), .val (.int p1), .val (.int p2), .val (.int p3), .val (.int (3 : Int32)), .val (.int z163), .val (.int z164), .val (.int z165), .unset, .unset, .unset] [(.int (3 : Int32)), (.ref b166), (.ref b166)])) rfl (hb hby at_95) rfl (by decide) (cap := 3) (by decide) (by decide) (by decide) (by decide)
    obtain ⟨b167, g167⟩ : ∃ z, z = h166.size := ⟨_, rfl⟩
    rw [← g167] at A167 st167
    have ne_b166_b167 : b166 ≠ b167 := Nat.ne_of_lt (Nat.lt_of_lt_of_le A166.lt (Nat.le_of_eq g167.symm))
    have ne_em_b167 : em ≠ b167 := Nat.ne_of_lt (Nat.lt_of_lt_of_le (EE.ext O166.2).lt (Nat.le_of_eq g167.symm))
    have ne_x0_b167 : x0 ≠ b167 := Nat.ne_of_lt (Nat.lt_of_lt_of_le (A0.ext O166.2).lt (Nat.le_of_eq g167.symm))
    have ne_x1_b167 : x1 ≠ b167 := Nat.ne_of_lt (Nat.lt_of_lt_of_le (A1.ext O166.2).lt (Nat.le_of_eq g167.symm))
    have ne_x2_b167 : x2 ≠ b167 := Nat.ne_of_lt (Nat.lt_of_lt_of_le (A2.ext O166.2).lt (Nat.le_of_eq g167.symm))
    have ne_x3_b167 : x3 ≠ b167 := Nat.ne_of_lt (Nat.lt_of_lt_of_le (A3.ext O166.2).lt (Nat.le_of_eq g167.symm))
    have ne_xs_b167 : xs ≠ b167 := Nat.ne_of_lt (Nat.lt_of_lt_of_le (VX.ext O166.2).lt (Nat.le_of_eq g167.symm))
    have ge_b167 : n0 ≤ b167 := Nat.le_trans (own_osz O166) (Nat.le_of_eq g167.symm)
    have gk_b167 : h0.size ≤ b167 := Nat.le_trans K166.1 (Nat.le_of_eq g167.symm)
    have V167 : own_Ar Z h167 b167 k167 .char [(.int (0 : Int32)), (.int (0 : Int32)), (.int (0 : Int32))] := own_Ar.new A167 (by decide)
    have O167 := O166.ext E167
    have K167 := K166.ext E167
    refine own_go (S' := (T167.setTop (mkF m 101 #[.val (.int p0), .val (.int p1), .val (.int p2), .val (.int p3), .val (.int (3 : Int32)), .val (.int z163), .val (.int z164), .val (.int z165), .unset, .unset, .unset] [(.int z163), (.int (0 : Int32)), (.ref b167), (.ref b167), (.ref b166), (.ref b166)]))) (fun tq kq => st167 tq (XS.dup X167.here hx rfl (hb hby at_97) rfl rfl (XS.iconst X167.here hx rfl (hb hby at_98) (XS.iload X167.here hx rfl (hb hby at_99) rfl kq)))) ?_
    obtain ⟨cl168, Ar168, qa168, sa168, hin168, -⟩ := V167.at (j := (0 : Int32)) (by decide) rfl
    obtain ⟨T168, h168, X168, e168, W168, st168⟩ := stC X167 hx hZ e167 Ar168 (j := (0 : Int32)) hin168 (g := (mkF m 101 #[.val (.int p0), .val (.int p1), .val (.int p2), .val (.int p3), .val (.int (3 : Int32)), .val (.int z163), .val (.int z164), .val (.int z165), .unset, .unset, .unset] [(.int z163), (.int (0 : Int32)), (.ref b167), (.ref b167), (.ref b166), (.ref b166)])) rfl rfl (hb hby at_101)
    have N168 := Fr.snoc X168 Nf165 ge_b167
    have O168 := O167.wr W168 ge_b167
    have K168 := K167.wr W168 (Or.inr gk_b167)
    have V168 : own_Ar Z h168 b167 k167 .char [(.int (z163.toUInt32.toUInt16.toUInt32.toInt32)), (.int (0 : Int32)), (.int (0 : Int32))] := own_Ar.set Ar168 qa168 sa168 V167.small W168
    refine own_go (S' := (T168.setTop (mkF m 106 #[.val (.int p0), .val (.int p1), .val (.int p2), .val (.int p3), .val (.int (3 : Int32)), .val (.int z163), .val (.int z164), .val (.int z165), .unset, .unset, .unset] [(.int z164), (.int (1 : Int32)), (.ref b167), (.ref b167), (.ref b166), (.ref b166)]))) (fun tq kq => st168 tq (XS.dup X168.here hx rfl (hb hby at_102) rfl rfl (XS.iconst X168.here hx rfl (hb hby at_103) (XS.iload X168.here hx rfl (hb hby at_104) rfl kq)))) ?_
    obtain ⟨cl169, Ar169, qa169, sa169, hin169, -⟩ := V168.at (j := (1 : Int32)) (by decide) rfl
    obtain ⟨T169, h169, X169, e169, W169, st169⟩ := stC X168 hx hZ e168 Ar169 (j := (1 : Int32)) hin169 (g := (mkF m 106 #[.val (.int p0), .val (.int p1), .val (.int p2), .val (.int p3), .val (.int (3 : Int32)), .val (.int z163), .val (.int z164), .val (.int z165), .unset, .unset, .unset] [(.int z164), (.int (1 : Int32)), (.ref b167), (.ref b167), (.ref b166), (.ref b166)])) rfl rfl (hb hby at_106)
    have N169 := Fr.snoc X169 N168 ge_b167
    have O169 := O168.wr W169 ge_b167
    have K169 := K168.wr W169 (Or.inr gk_b167)
    have V169 : own_Ar Z h169 b167 k167 .char [(.int (z163.toUInt32.toUInt16.toUInt32.toInt32)), (.int (z164.toUInt32.toUInt16.toUInt32.toInt32)), (.int (0 : Int32))] := own_Ar.set Ar169 qa169 sa169 V168.small W169
    refine own_go (S' := (T169.setTop (mkF m 111 #[.val (.int p0), .val (.int p1), .val (.int p2), .val (.int p3), .val (.int (3 : Int32)), .val (.int z163), .val (.int z164), .val (.int z165), .unset, .unset, .unset] [(.int z165), (.int (2 : Int32)), (.ref b167), (.ref b167), (.ref b166), (.ref b166)]))) (fun tq kq => st169 tq (XS.dup X169.here hx rfl (hb hby at_107) rfl rfl (XS.iconst X169.here hx rfl (hb hby at_108) (XS.iload X169.here hx rfl (hb hby at_109) rfl kq)))) ?_
    obtain ⟨cl170, Ar170, qa170, sa170, hin170, -⟩ := V169.at (j := (2 : Int32)) (by decide) rfl
    obtain ⟨T170, h170, X170, e170, W170, st170⟩ := stC X169 hx hZ e169 Ar170 (j := (2 : Int32)) hin170 (g := (mkF m 111 #[.val (.int p0), .val (.int p1), .val (.int p2), .val (.int p3), .val (.int (3 : Int32)), .val (.int z163), .val (.int z164), .val (.int z165), .unset, .unset, .unset] [(.int z165), (.int (2 : Int32)), (.ref b167), (.ref b167), (.ref b166), (.ref b166)])) rfl rfl (hb hby at_111)
    have N170 := Fr.snoc X170 N169 ge_b167
    have O170 := O169.wr W170 ge_b167
    have K170 := K169.wr W170 (Or.inr gk_b167)
    have V170 : own_Ar Z h170 b167 k167 .char [(.int (z163.toUInt32.toUInt16.toUInt32.toInt32)), (.int (z164.toUInt32.toUInt16.toUInt32.toInt32)), (.int (z165.toUInt32.toUInt16.toUInt32.toInt32))] := own_Ar.set Ar170 qa170 sa170 V169.small W170
    refine own_go (S' := (T170.setTop (mkF m 112 #[.val (.int p0), .val (.int p1), .val (.int p2), .val (.int p3), .val (.int (3 : Int32)), .val (.int z163), .val (.int z164), .val (.int z165), .unset, .unset, .unset] [(.ref b167), (.ref b166), (.ref b166)]))) (fun tq kq => st170 tq kq) ?_
    have f171 := ((((A166.ext E167).wr W168).wr W169).wr W170)
    have f172 := ((((F_value_b166.ext E167).other W168 (Or.inl ne_b166_b167)).other W169 (Or.inl ne_b166_b167)).other W170 (Or.inl ne_b166_b167))
    have f173 := ((((F_coder_b166.ext E167).other W168 (Or.inl ne_b166_b167)).other W169 (Or.inl ne_b166_b167)).other W170 (Or.inl ne_b166_b167))
    obtain ⟨_, _, ⟨T174, L174, k174, n174⟩, -, X174, ⟨Lc174, hQ174, l174, y174, z174⟩, st174⟩ := X170.specialBack hx (y := (⟨"java/lang/String", "<init>", "([C)V"⟩ : MethodName)) rfl hown (mvT hZ (hw _ (List.mem_of_getElem? (i := 10) rfl))) (mvT hZ (hw _ (List.mem_of_getElem? (i := 11) rfl))) (mvT hZ (hw _ (List.mem_of_getElem? (i := 12) rfl))) (by decide) (backOf (W := 1) (inc3 l Z a0 hw [] h170 n0 O170 b166 b167 k167 (z163.toUInt32.toUInt16.toUInt32.toInt32) (z164.toUInt32.toUInt16.toUInt32.toInt32) (z165.toUInt32.toUInt16.toUInt32.toInt32) z fm SC hz SA SH SL SF hfm f171 f172 f173 ge_b166 V170 (own_charR _) (own_charR _) (own_charR _) (Ne.symm ne_b166_b167)) hZ (hw _ (List.mem_of_getElem? (i := 12) rfl)) (hw _ (List.mem_of_getElem? (i := 8) rfl)) (by decide) (by decide)) (g := (mkF m 112 #[.val (.int p0), .val (.int p1), .val (.int p2), .val (.int p3), .val (.int (3 : Int32)), .val (.int z163), .val (.int z164), .val (.int z165), .unset, .unset, .unset] [(.ref b167), (.ref b166), (.ref b166)])) rfl (by rw [hml]; rfl) (Steps.refl _) (a := b166) (argsL := [(.ref b167)]) (rest := [(.ref b166)]) (lenOf pd_23 rfl) rfl (by show 2 * 0 + _ ≤ _; exact Nat.le_of_eq rfl) (hb hby at_112) (fun _ _ => ⟨rfl, e170, (by decide : 2 + 2 ≤ _), (by decide : 7 + 9 ≤ _)⟩)
    dsimp only [Pt.U, Pt.locs, Pt.cells, Pt.slots] at X174 l174 y174 z174 st174 hQ174
    subst l174 y174 z174
    obtain ⟨rfl, N174, K174, R174⟩ := hQ174
    have Nf174 := Fr.app N170 N174
    have O174 := O170.keep K174 (allS ge_b166 all0)
    have KK174 := K170.trans K174 (allS (Or.inr gk_b166) all0)
    obtain ⟨d174, kd174, vs174, Fv174, Vd174, hor⟩ := R174
    refine own_go (S' := (T174.setTop (mkF m 115 #[.val (.int p0), .val (.int p1), .val (.int p2), .val (.int p3), .val (.int (3 : Int32)), .val (.int z163), .val (.int z164), .val (.int z165), .unset, .unset, .unset] [(.ref b166)]))) (fun tq kq => st174.trans kq) ?_
    rcases hor with ⟨Fcz, hlz⟩ | ⟨Fcz, hlz⟩
    · refine own_go (S' := (T174.setTop (mkF m 119 #[.val (.int p0), .val (.int p1), .val (.int p2), .val (.int p3), .val (.int (3 : Int32)), .val (.int z163), .val (.int z164), .val (.int z165), .val (.ref b166), .unset, .unset] [(.ref b166)]))) (fun tq kq => XS.astore X174.here hx rfl (hb hby at_115) rfl rfl (l' := #[.val (.int p0), .val (.int p1), .val (.int p2), .val (.int p3), .val (.int (3 : Int32)), .val (.int z163), .val (.int z164), .val (.int z165), .val (.ref b166), .unset, .unset]) rfl (XS.aload X174.here hx rfl (hb hby at_117) rfl rfl kq)) ?_
      have f175 := (f171.keep K174)
      obtain ⟨_, _, ⟨T176, L176, k176, n176⟩, -, X176, ⟨Lc176, hQ176, l176, y176, z176⟩, st176⟩ := Jvm.LawKit.callS X174 hx (y := (⟨"com/example/davka/davka/AccountingCode", "of", "(Ljava/lang/String;)Ljava/util/Optional;"⟩ : MethodName)) hown (mvT hZ (hw _ (List.mem_of_getElem? (i := 28) rfl))) (mvT hZ (hw _ (List.mem_of_getElem? (i := 29) rfl))) (mvT hZ (hw _ (List.mem_of_getElem? (i := 30) rfl))) (mvT hZ (hw _ (List.mem_of_getElem? (i := 31) rfl))) (by decide) (backOf (W := 0) (ofs3_0 l Z a0 hw [] T174.heap n0 O174 b166 d174 kd174 vs174 em xs kx x0 x1 x2 x3 z fm f175 Fcz Fv174 Vd174 hlz SE EE FE SX VX S0 A0 B0 S1 A1 B1 S2 A2 B2 S3 A3 B3 SC hz SA SH SL SF hfm) hZ (hw _ (List.mem_of_getElem? (i := 31) rfl)) (hw _ (List.mem_of_getElem? (i := 30) rfl)) (by decide) (by decide)) (g := (mkF m 119 #[.val (.int p0), .val (.int p1), .val (.int p2), .val (.int p3), .val (.int (3 : Int32)), .val (.int z163), .val (.int z164), .val (.int z165), .val (.ref b166), .unset, .unset] [(.ref b166)])) rfl (by rw [hml]; rfl) (argsL := [(.ref b166)]) (rest := []) (lenOf pd_24 rfl) rfl (by show 2 * 0 + _ ≤ _; exact Nat.le_of_eq rfl) (hb hby at_119) (fun _ _ => ⟨rfl, rfl, (by decide : 4 + 0 ≤ _), (by decide : 16 + 0 ≤ _)⟩)
      dsimp only [Pt.U, Pt.locs, Pt.cells, Pt.slots] at X176 l176 y176 z176 st176 hQ176
      subst l176 y176 z176
      obtain ⟨rfl, N176, eh176⟩ := hQ176
      have Nf176 := Fr.app Nf174 N176
      refine own_go (S' := (T176.setTop (mkF m 127 #[.val (.int p0), .val (.int p1), .val (.int p2), .val (.int p3), .val (.int (3 : Int32)), .val (.int z163), .val (.int z164), .val (.int z165), .val (.ref b166), .val (.ref em), .unset] [.null, (.ref em)]))) (fun tq kq => st176 tq (XS.astore X176.here hx rfl (hb hby at_122) rfl rfl (l' := #[.val (.int p0), .val (.int p1), .val (.int p2), .val (.int p3), .val (.int (3 : Int32)), .val (.int z163), .val (.int z164), .val (.int z165), .val (.ref b166), .val (.ref em), .unset]) rfl (XS.aload X176.here hx rfl (hb hby at_124) rfl rfl (XS.aconstNull X176.here hx rfl (hb hby at_126) kq)))) ?_
      obtain ⟨cq177, kq177, q177a, q177b, q177c⟩ := isOf hZ eh176 (EE.ext O174.2)
      obtain ⟨_, _, ⟨T177, L177, k177, n177⟩, -, X177, ⟨Lc177, hQ177, l177, y177, z177⟩, st177⟩ := X176.virtualBack hx (y := (⟨"java/util/Optional", "orElse", "(Ljava/lang/Object;)Ljava/lang/Object;"⟩ : MethodName)) (z := (⟨"java/util/Optional", "orElse", "(Ljava/lang/Object;)Ljava/lang/Object;"⟩ : MethodName)) hown (mvT hZ (hw _ (List.mem_of_getElem? (i := 48) rfl))) (mvT hZ (hw _ (List.mem_of_getElem? (i := 49) rfl))) (notFace_of_selects (args := #[]) (mvT hZ (hw _ (List.mem_of_getElem? (i := 51) rfl)))) (mvT hZ (hw _ (List.mem_of_getElem? (i := 51) rfl))) (mvT hZ (hw _ (List.mem_of_getElem? (i := 50) rfl))) (by decide) (backOf (W := 0) (orn l Z a0 hw [] T174.heap n0 O174 em (FE.ext O174.2)) hZ (hw _ (List.mem_of_getElem? (i := 52) rfl)) (hw _ (List.mem_of_getElem? (i := 45) rfl)) (by decide) (by decide)) q177a q177c (g := (mkF m 127 #[.val (.int p0), .val (.int p1), .val (.int p2), .val (.int p3), .val (.int (3 : Int32)), .val (.int z163), .val (.int z164), .val (.int z165), .val (.ref b166), .val (.ref em), .unset] [.null, (.ref em)])) rfl (by rw [hml]; rfl) (Steps.refl _) (argsL := [.null]) (rest := []) (lenOf pd_25 rfl) rfl (by show 2 * 0 + _ ≤ _; exact Nat.le_of_eq rfl) (hb hby at_127) (fun _ _ => ⟨rfl, eh176, (by decide : 4 + 0 ≤ _), (by decide : 16 + 0 ≤ _)⟩)
      dsimp only [Pt.U, Pt.locs, Pt.cells, Pt.slots] at X177 l177 y177 z177 st177 hQ177
      subst l177 y177 z177
      obtain ⟨rfl, N177, eh177⟩ := hQ177
      have Nf177 := Fr.app Nf176 N177
      refine own_go (S' := (T177.setTop (mkF m 141 #[.val (.int p0), .val (.int p1), .val (.int p2), .val (.int p3), .val (.int (3 : Int32)), .val (.int z163), .val (.int z164), .val (.int z165), .val (.ref b166), .val (.ref em), .val .null] [(.int z163), (.int (3 : Int32)), .null]))) (fun tq kq => st177.trans (X177.checkcastNull hx (g := (mkF m 130 #[.val (.int p0), .val (.int p1), .val (.int p2), .val (.int p3), .val (.int (3 : Int32)), .val (.int z163), .val (.int z164), .val (.int z165), .val (.ref b166), .val (.ref em), .unset] [.null])) rfl rfl (hb hby at_130) tq (XS.astore X177.here hx rfl (hb hby at_133) rfl rfl (l' := #[.val (.int p0), .val (.int p1), .val (.int p2), .val (.int p3), .val (.int (3 : Int32)), .val (.int z163), .val (.int z164), .val (.int z165), .val (.ref b166), .val (.ref em), .val .null]) rfl (XS.aload X177.here hx rfl (hb hby at_135) rfl rfl (XS.iload X177.here hx rfl (hb hby at_137) rfl (XS.iload X177.here hx rfl (hb hby at_139) rfl kq)))))) ?_
      obtain ⟨_, _, ⟨T178, L178, k178, n178⟩, -, X178, ⟨Lc178, hQ178, l178, y178, z178⟩, st178⟩ := Jvm.LawKit.callS X177 hx (y := (⟨"com/example/davka/davka/AccountingCodeOfPinLaw", "expected", "(IC)Lcom/example/davka/davka/AccountingCode;"⟩ : MethodName)) hown (mvT hZ (hw _ (List.mem_of_getElem? (i := 55) rfl))) (mvT hZ (hw _ (List.mem_of_getElem? (i := 56) rfl))) (mvT hZ (hw _ (List.mem_of_getElem? (i := 2) rfl))) (mvT hZ (hw _ (List.mem_of_getElem? (i := 57) rfl))) (by decide) (backOf (W := 1) (exz3 l Z a0 hw [] T174.heap n0 O174 z163) hZ (hw _ (List.mem_of_getElem? (i := 57) rfl)) (hw _ (List.mem_of_getElem? (i := 2) rfl)) (by decide) (by decide)) (g := (mkF m 141 #[.val (.int p0), .val (.int p1), .val (.int p2), .val (.int p3), .val (.int (3 : Int32)), .val (.int z163), .val (.int z164), .val (.int z165), .val (.ref b166), .val (.ref em), .val .null] [(.int z163), (.int (3 : Int32)), .null])) rfl (by rw [hml]; rfl) (argsL := [(.int (3 : Int32)), (.int z163)]) (rest := [.null]) (lenOf pd_26 rfl) rfl (by show 2 * 0 + _ ≤ _; exact Nat.le_of_eq rfl) (hb hby at_141) (fun _ _ => ⟨rfl, eh177, (by decide : 4 + 0 ≤ _), (by decide : 16 + 0 ≤ _)⟩)
      dsimp only [Pt.U, Pt.locs, Pt.cells, Pt.slots] at X178 l178 y178 z178 st178 hQ178
      subst l178 y178 z178
      obtain ⟨rfl, N178, eh178⟩ := hQ178
      have Nf178 := Fr.app Nf177 N178
      refine own_go (S' := (T178.setTop (mkF m 152 #[.val (.int p0), .val (.int p1), .val (.int p2), .val (.int p3), .val (.int (3 : Int32)), .val (.int z163), .val (.int z164), .val (.int z165), .val (.ref b166), .val (.ref em), .val .null] [(.int (1 : Int32))]))) (fun tq kq => st178 tq (Jvm.RoadKit.acmp (g := (mkF m 144 #[.val (.int p0), .val (.int p1), .val (.int p2), .val (.int p3), .val (.int (3 : Int32)), .val (.int z163), .val (.int z164), .val (.int z165), .val (.ref b166), .val (.ref em), .val .null] [.null, .null])) X178 hx rfl rfl rfl (pc0 := 144) (pc' := 147) (same := true) rfl (hb hby at_144) rfl (decide_eq_true rfl) (by decide) (by decide) (XS.iconst X178.here hx rfl (hb hby at_147) (XS.goto X178.here hx rfl (pc0 := 148) (pc' := 152) rfl (hb hby at_148) (by decide) (by decide) kq)))) ?_
      refine own_retN X178 hx hlk hret (by simp) (hb hby at_152) (by decide) (by decide) ?_
      exact ⟨rfl, Nf178⟩
    · refine own_go (S' := (T174.setTop (mkF m 119 #[.val (.int p0), .val (.int p1), .val (.int p2), .val (.int p3), .val (.int (3 : Int32)), .val (.int z163), .val (.int z164), .val (.int z165), .val (.ref b166), .unset, .unset] [(.ref b166)]))) (fun tq kq => XS.astore X174.here hx rfl (hb hby at_115) rfl rfl (l' := #[.val (.int p0), .val (.int p1), .val (.int p2), .val (.int p3), .val (.int (3 : Int32)), .val (.int z163), .val (.int z164), .val (.int z165), .val (.ref b166), .unset, .unset]) rfl (XS.aload X174.here hx rfl (hb hby at_117) rfl rfl kq)) ?_
      have f179 := (f171.keep K174)
      obtain ⟨_, _, ⟨T180, L180, k180, n180⟩, -, X180, ⟨Lc180, hQ180, l180, y180, z180⟩, st180⟩ := Jvm.LawKit.callS X174 hx (y := (⟨"com/example/davka/davka/AccountingCode", "of", "(Ljava/lang/String;)Ljava/util/Optional;"⟩ : MethodName)) hown (mvT hZ (hw _ (List.mem_of_getElem? (i := 28) rfl))) (mvT hZ (hw _ (List.mem_of_getElem? (i := 29) rfl))) (mvT hZ (hw _ (List.mem_of_getElem? (i := 30) rfl))) (mvT hZ (hw _ (List.mem_of_getElem? (i := 31) rfl))) (by decide) (backOf (W := 0) (ofs6_1 l Z a0 hw [] T174.heap n0 O174 b166 d174 kd174 vs174 em xs kx x0 x1 x2 x3 z fm f179 Fcz Fv174 Vd174 hlz SE EE FE SX VX S0 A0 B0 S1 A1 B1 S2 A2 B2 S3 A3 B3 SC hz SA SH SL SF hfm) hZ (hw _ (List.mem_of_getElem? (i := 31) rfl)) (hw _ (List.mem_of_getElem? (i := 30) rfl)) (by decide) (by decide)) (g := (mkF m 119 #[.val (.int p0), .val (.int p1), .val (.int p2), .val (.int p3), .val (.int (3 : Int32)), .val (.int z163), .val (.int z164), .val (.int z165), .val (.ref b166), .unset, .unset] [(.ref b166)])) rfl (by rw [hml]; rfl) (argsL := [(.ref b166)]) (rest := []) (lenOf pd_24 rfl) rfl (by show 2 * 0 + _ ≤ _; exact Nat.le_of_eq rfl) (hb hby at_119) (fun _ _ => ⟨rfl, rfl, (by decide : 4 + 0 ≤ _), (by decide : 16 + 0 ≤ _)⟩)
      dsimp only [Pt.U, Pt.locs, Pt.cells, Pt.slots] at X180 l180 y180 z180 st180 hQ180
      subst l180 y180 z180
      obtain ⟨rfl, N180, eh180⟩ := hQ180
      have Nf180 := Fr.app Nf174 N180
      refine own_go (S' := (T180.setTop (mkF m 127 #[.val (.int p0), .val (.int p1), .val (.int p2), .val (.int p3), .val (.int (3 : Int32)), .val (.int z163), .val (.int z164), .val (.int z165), .val (.ref b166), .val (.ref em), .unset] [.null, (.ref em)]))) (fun tq kq => st180 tq (XS.astore X180.here hx rfl (hb hby at_122) rfl rfl (l' := #[.val (.int p0), .val (.int p1), .val (.int p2), .val (.int p3), .val (.int (3 : Int32)), .val (.int z163), .val (.int z164), .val (.int z165), .val (.ref b166), .val (.ref em), .unset]) rfl (XS.aload X180.here hx rfl (hb hby at_124) rfl rfl (XS.aconstNull X180.here hx rfl (hb hby at_126) kq)))) ?_
      obtain ⟨cq181, kq181, q181a, q181b, q181c⟩ := isOf hZ eh180 (EE.ext O174.2)
      obtain ⟨_, _, ⟨T181, L181, k181, n181⟩, -, X181, ⟨Lc181, hQ181, l181, y181, z181⟩, st181⟩ := X180.virtualBack hx (y := (⟨"java/util/Optional", "orElse", "(Ljava/lang/Object;)Ljava/lang/Object;"⟩ : MethodName)) (z := (⟨"java/util/Optional", "orElse", "(Ljava/lang/Object;)Ljava/lang/Object;"⟩ : MethodName)) hown (mvT hZ (hw _ (List.mem_of_getElem? (i := 48) rfl))) (mvT hZ (hw _ (List.mem_of_getElem? (i := 49) rfl))) (notFace_of_selects (args := #[]) (mvT hZ (hw _ (List.mem_of_getElem? (i := 51) rfl)))) (mvT hZ (hw _ (List.mem_of_getElem? (i := 51) rfl))) (mvT hZ (hw _ (List.mem_of_getElem? (i := 50) rfl))) (by decide) (backOf (W := 0) (orn l Z a0 hw [] T174.heap n0 O174 em (FE.ext O174.2)) hZ (hw _ (List.mem_of_getElem? (i := 52) rfl)) (hw _ (List.mem_of_getElem? (i := 45) rfl)) (by decide) (by decide)) q181a q181c (g := (mkF m 127 #[.val (.int p0), .val (.int p1), .val (.int p2), .val (.int p3), .val (.int (3 : Int32)), .val (.int z163), .val (.int z164), .val (.int z165), .val (.ref b166), .val (.ref em), .unset] [.null, (.ref em)])) rfl (by rw [hml]; rfl) (Steps.refl _) (argsL := [.null]) (rest := []) (lenOf pd_25 rfl) rfl (by show 2 * 0 + _ ≤ _; exact Nat.le_of_eq rfl) (hb hby at_127) (fun _ _ => ⟨rfl, eh180, (by decide : 4 + 0 ≤ _), (by decide : 16 + 0 ≤ _)⟩)
      dsimp only [Pt.U, Pt.locs, Pt.cells, Pt.slots] at X181 l181 y181 z181 st181 hQ181
      subst l181 y181 z181
      obtain ⟨rfl, N181, eh181⟩ := hQ181
      have Nf181 := Fr.app Nf180 N181
      refine own_go (S' := (T181.setTop (mkF m 141 #[.val (.int p0), .val (.int p1), .val (.int p2), .val (.int p3), .val (.int (3 : Int32)), .val (.int z163), .val (.int z164), .val (.int z165), .val (.ref b166), .val (.ref em), .val .null] [(.int z163), (.int (3 : Int32)), .null]))) (fun tq kq => st181.trans (X181.checkcastNull hx (g := (mkF m 130 #[.val (.int p0), .val (.int p1), .val (.int p2), .val (.int p3), .val (.int (3 : Int32)), .val (.int z163), .val (.int z164), .val (.int z165), .val (.ref b166), .val (.ref em), .unset] [.null])) rfl rfl (hb hby at_130) tq (XS.astore X181.here hx rfl (hb hby at_133) rfl rfl (l' := #[.val (.int p0), .val (.int p1), .val (.int p2), .val (.int p3), .val (.int (3 : Int32)), .val (.int z163), .val (.int z164), .val (.int z165), .val (.ref b166), .val (.ref em), .val .null]) rfl (XS.aload X181.here hx rfl (hb hby at_135) rfl rfl (XS.iload X181.here hx rfl (hb hby at_137) rfl (XS.iload X181.here hx rfl (hb hby at_139) rfl kq)))))) ?_
      obtain ⟨_, _, ⟨T182, L182, k182, n182⟩, -, X182, ⟨Lc182, hQ182, l182, y182, z182⟩, st182⟩ := Jvm.LawKit.callS X181 hx (y := (⟨"com/example/davka/davka/AccountingCodeOfPinLaw", "expected", "(IC)Lcom/example/davka/davka/AccountingCode;"⟩ : MethodName)) hown (mvT hZ (hw _ (List.mem_of_getElem? (i := 55) rfl))) (mvT hZ (hw _ (List.mem_of_getElem? (i := 56) rfl))) (mvT hZ (hw _ (List.mem_of_getElem? (i := 2) rfl))) (mvT hZ (hw _ (List.mem_of_getElem? (i := 57) rfl))) (by decide) (backOf (W := 1) (exz3 l Z a0 hw [] T174.heap n0 O174 z163) hZ (hw _ (List.mem_of_getElem? (i := 57) rfl)) (hw _ (List.mem_of_getElem? (i := 2) rfl)) (by decide) (by decide)) (g := (mkF m 141 #[.val (.int p0), .val (.int p1), .val (.int p2), .val (.int p3), .val (.int (3 : Int32)), .val (.int z163), .val (.int z164), .val (.int z165), .val (.ref b166), .val (.ref em), .val .null] [(.int z163), (.int (3 : Int32)), .null])) rfl (by rw [hml]; rfl) (argsL := [(.int (3 : Int32)), (.int z163)]) (rest := [.null]) (lenOf pd_26 rfl) rfl (by show 2 * 0 + _ ≤ _; exact Nat.le_of_eq rfl) (hb hby at_141) (fun _ _ => ⟨rfl, eh181, (by decide : 4 + 0 ≤ _), (by decide : 16 + 0 ≤ _)⟩)
      dsimp only [Pt.U, Pt.locs, Pt.cells, Pt.slots] at X182 l182 y182 z182 st182 hQ182
      subst l182 y182 z182
      obtain ⟨rfl, N182, eh182⟩ := hQ182
      have Nf182 := Fr.app Nf181 N182
      refine own_go (S' := (T182.setTop (mkF m 152 #[.val (.int p0), .val (.int p1), .val (.int p2), .val (.int p3), .val (.int (3 : Int32)), .val (.int z163), .val (.int z164), .val (.int z165), .val (.ref b166), .val (.ref em), .val .null] [(.int (1 : Int32))]))) (fun tq kq => st182 tq (Jvm.RoadKit.acmp (g := (mkF m 144 #[.val (.int p0), .val (.int p1), .val (.int p2), .val (.int p3), .val (.int (3 : Int32)), .val (.int z163), .val (.int z164), .val (.int z165), .val (.ref b166), .val (.ref em), .val .null] [.null, .null])) X182 hx rfl rfl rfl (pc0 := 144) (pc' := 147) (same := true) rfl (hb hby at_144) rfl (decide_eq_true rfl) (by decide) (by decide) (XS.iconst X182.here hx rfl (hb hby at_147) (XS.goto X182.here hx rfl (pc0 := 148) (pc' := 152) rfl (hb hby at_148) (by decide) (by decide) kq)))) ?_
      refine own_retN X182 hx hlk hret (by simp) (hb hby at_152) (by decide) (by decide) ?_
      exact ⟨rfl, Nf182⟩
set_option maxRecDepth 65536 in
set_option maxHeartbeats 40000000 in
theorem comes_1 {Post : Tables → Env → Array Value → State → Outcome → State → Prop} (hpost : ∀ tb e args s v u, (limb_1_1.after args s (.returned v) u = true ∧ limb_1_2.after args s (.returned v) u = true ∧ True) → FramedW s (.returned v) u (Jvm.fieldLocs frame_1_writes args s ++ Jvm.arrayLocs frame_1_arrays args s ++ Jvm.staticLocs frame_1_statics s) 24 1152 → Post tb e args s (.returned v) u) :
    ArmFor flags0 classFile x code maxLocals ret World_1 tables_1 room_1 Calls_1 rest_1 Pre_1 Post := by
  intro l hfl _ _ p e ha hc hk s m args below hf hA hF happ hP
  obtain ⟨hcalls, hrest, hpre⟩ := hP
  obtain ⟨-, -, -, hnamed, -, -, -, hat⟩ := (Spec.applies_iff hf).mp happ
  obtain ⟨hg, hn⟩ := and_e (Cond.before_iff.mp (show (Jvm.Cond.and given_1 narrow_1).before args s = true from hpre))
  obtain ⟨hcount, hg0⟩ := and_e hg
  obtain ⟨ga0, hg1⟩ := and_e hg0
  obtain ⟨ga1, hg2⟩ := and_e hg1
  obtain ⟨ga2, hg3⟩ := and_e hg2
  have ga3 := hg3
  obtain ⟨w0, w1, w2, w3, rfl⟩ : ∃ w0 w1 w2 w3 : Value, args = #[w0, w1, w2, w3] := by
    have hs : args.size = 4 := by simpa [Cond.value, given_1] using hcount
    obtain ⟨L⟩ := args
    match L, hs with
    | [w0, w1, w2, w3], _ => exact ⟨w0, w1, w2, w3, rfl⟩
  have hw := fun d (hd : d ∈ tables_1) => atoms_spec (ws := Jvm.Cond.code x code maxLocals ret :: tables_1) hat d (List.mem_cons_of_mem _ hd)
  have hfit : Fit s := fun {y c} hc i hi => by
    obtain ⟨ha, rfl⟩ := Array.getElem?_eq_some_iff.mp hc
    have q := List.all_eq_true.mp ((Array.all_eq_true_iff_forall_mem.mp hF) _ (Array.getElem_mem ha)) i (List.mem_range.mpr hi)
    simpa [Array.getElem?_eq_getElem hi] using q
  obtain ⟨hsets, hown0⟩ := atoms_of _ (rest_1_c_eq ▸ (show rest_1_c.before _ s = true from hrest))
  have hr0 := Cond.before_iff.mp hown0
  obtain ⟨i0, ei0⟩ := is_v ga0
  obtain rfl : w0 = (.int i0) := Option.some.inj ei0
  obtain ⟨i1, ei1⟩ := is_v ga1
  obtain rfl : w1 = (.int i1) := Option.some.inj ei1
  obtain ⟨i2, ei2⟩ := is_v ga2
  obtain rfl : w2 = (.int i2) := Option.some.inj ei2
  obtain ⟨i3, ei3⟩ := is_v ga3
  obtain rfl : w3 = (.int i3) := Option.some.inj ei3
  obtain ⟨z, ez⟩ := is_v (Cond.before_iff.mp (hsets _ (List.mem_of_getElem? (i := 1) rfl)))
  have SC := Sta.start ez (Or.inl (hsets _ (List.mem_of_getElem? (i := 0) rfl)))
  have hz := own_nz ez (Cond.before_iff.mp (hsets _ (List.mem_of_getElem? (i := 2) rfl)))
  obtain ⟨fm, efm, hfm⟩ := isR_v (Cond.before_iff.mp (hsets _ (List.mem_of_getElem? (i := 8) rfl)))
  have SF := Sta.start efm (Or.inl (hsets _ (List.mem_of_getElem? (i := 7) rfl)))
  obtain ⟨em, eem⟩ := exa_v (Cond.before_iff.mp (hsets _ (List.mem_of_getElem? (i := 11) rfl)))
  have SE := Sta.start eem (Or.inl (hsets _ (List.mem_of_getElem? (i := 10) rfl)))
  have EE := Exa.start eem (Cond.before_iff.mp (hsets _ (List.mem_of_getElem? (i := 11) rfl)))
  have FE := Fld.start ((fld_at eem).symm.trans (own_eqNul (Cond.before_iff.mp (hsets _ (List.mem_of_getElem? (i := 12) rfl)))))
  have SA := Sta.start (own_eqI (Cond.before_iff.mp (hsets _ (List.mem_of_getElem? (i := 16) rfl)))) (Or.inl (hsets _ (List.mem_of_getElem? (i := 15) rfl)))
  have SH := Sta.start (own_eqI (Cond.before_iff.mp (hsets _ (List.mem_of_getElem? (i := 19) rfl)))) (Or.inl (hsets _ (List.mem_of_getElem? (i := 18) rfl)))
  have SL := Sta.start (own_eqI (Cond.before_iff.mp (hsets _ (List.mem_of_getElem? (i := 22) rfl)))) (Or.inl (hsets _ (List.mem_of_getElem? (i := 21) rfl)))
  have hcw : Jvm.Lit.compactW.before _ s = true := (hsets _ (List.mem_of_getElem? (i := 2) rfl))
  have hcst : Jvm.Lit.constHeld s "java/lang/String" 7 := hcalls.1 ("java/lang/String", 7) (List.mem_of_getElem? (i := 0) rfl)
  obtain ⟨n0, hn⟩ := and_e hn
  obtain ⟨n1, hn⟩ := and_e hn
  obtain ⟨n2, hn⟩ := and_e hn
  obtain ⟨n3, hn⟩ := and_e hn
  obtain ⟨n4, hn⟩ := and_e hn
  obtain ⟨n5, hn⟩ := and_e hn
  obtain ⟨n6, hn⟩ := and_e hn
  obtain ⟨n7, hn⟩ := and_e hn
  obtain ⟨n8, hn⟩ := and_e hn
  obtain ⟨n9, hn⟩ := and_e hn
  obtain ⟨n10, hn⟩ := and_e hn
  obtain ⟨n11, hn⟩ := and_e hn
  obtain ⟨n12, hn⟩ := and_e hn
  have n13 := hn
  obtain ⟨xs, exs⟩ := arr_v n0
  obtain ⟨x0, ex0⟩ := exa_v n2
  have S0 := Sta.start ex0 (Or.inr ⟨(hw _ (List.mem_of_getElem? (i := 30) rfl)), (hw _ (List.mem_of_getElem? (i := 108) rfl))⟩)
  have A0 := Exa.start ex0 n2
  have B0 := Fld.start ((fld_at ex0).symm.trans (own_eqI n4))
  obtain ⟨x1, ex1⟩ := exa_v n5
  have S1 := Sta.start ex1 (Or.inr ⟨(hw _ (List.mem_of_getElem? (i := 30) rfl)), (hw _ (List.mem_of_getElem? (i := 111) rfl))⟩)
  have A1 := Exa.start ex1 n5
  have B1 := Fld.start ((fld_at ex1).symm.trans (own_eqI n7))
  obtain ⟨x2, ex2⟩ := exa_v n8
  have S2 := Sta.start ex2 (Or.inr ⟨(hw _ (List.mem_of_getElem? (i := 30) rfl)), (hw _ (List.mem_of_getElem? (i := 112) rfl))⟩)
  have A2 := Exa.start ex2 n8
  have B2 := Fld.start ((fld_at ex2).symm.trans (own_eqI n10))
  obtain ⟨x3, ex3⟩ := exa_v n11
  have S3 := Sta.start ex3 (Or.inr ⟨(hw _ (List.mem_of_getElem? (i := 30) rfl)), (hw _ (List.mem_of_getElem? (i := 113) rfl))⟩)
  have A3 := Exa.start ex3 n11
  have B3 := Fld.start ((fld_at ex3).symm.trans (own_eqI n13))
  have SX := Sta.start exs (Or.inr ⟨(hw _ (List.mem_of_getElem? (i := 30) rfl)), (hw _ (List.mem_of_getElem? (i := 107) rfl))⟩)
  obtain ⟨kx, VX⟩ := own_codes exs n0 (own_eqI n1) (own_eqR n3 ex0) (own_eqR n6 ex1) (own_eqR n9 ex2) (own_eqR n12 ex3)
  obtain ⟨n, o, h1, h2, h3, _, L, rfl, ⟨rfl, N⟩, hq⟩ := rm0 l s _ hw tables_1 s.heap s.heap.size (Old.start s) i0 i1 i2 i3 em xs kx x0 x1 x2 x3 z fm hcst hcw SE EE FE SX VX S0 A0 B0 S1 A1 B1 S2 A2 B2 S3 A3 B3 SC hz SA SH SL SF hfm p e ha hc hk s m _ below hf ((Spec.applies_iff_loose hf).mp happ).1 ⟨rfl, State.Warmed39.refl s, rfl, IB.start⟩ trivial
  refine ⟨n, _, h1, h2, h3, hpost _ _ _ _ _ _ ⟨Cond.after_iff.mpr rfl, Cond.after_iff.mpr (eq_i res_at (Term.int_eval (1)) rfl), trivial⟩ ⟨hq.1, hq.2.1, hq.2.2.1, (hq.2.2.2.sift fun y hy => Or.inr (N y hy)).mono (by decide) (by decide)⟩⟩
theorem main_1_1 : Claimed_1_1 := comes_1 fun _ _ _ _ _ _ h hF => ⟨h.1, hF⟩
theorem main_1_2 : Claimed_1_2 := comes_1 fun _ _ _ _ _ _ h hF => ⟨h.2.1, hF⟩
end Jvm.Pilot.@@N@@
namespace Jvm.Pilot.@@N@@
open Jvm Jvm.ClassFile Sem Op Lib Jvm.Free Jvm.Stand Jvm.Pilot.@@N@@.Jvm.D
/-! MADE BY PROGRAM (witnessworld.py) out of the Statement's table words and the real class files: 23 classes; the members and pool entries that the words name. The judged class is class 1, her method 1. -/
namespace start1
open Jvm.ClassFile
def u (s : String) : CpInfo := .utf8 (stringToUtf16 s)
/-- a pool by its gaps: so many unusable entries, then the entry; so many at the end -/
def gap : Nat → List CpInfo → List CpInfo
  | 0, r => r
  | n + 1, r => .unusable :: gap n r
def poolList (es : List (Nat × CpInfo)) (last : Nat) : List CpInfo := es.foldr (fun e r => gap e.1 (e.2 :: r)) (gap last [])
def pool (es : List (Nat × CpInfo)) (last : Nat) : Array CpInfo := ⟨poolList es last⟩
def fileOf (pool : Array CpInfo) (this : Nat) (attrs : Array Attribute := #[]) (ms : Array MethodInfo := #[]) (fl : Nat := 33) (sup : Nat := 0) (ifs : Array Nat := #[]) (fds : Array FieldInfo := #[]) : ClassFile where
  minorVersion := 0
  majorVersion := 65
  constantPool := pool
  accessFlags := fl
  thisClass := this
  superClass := sup
  interfaces := ifs
  fields := fds
  methods := ms
  attributes := attrs
def plain (name : String) (sup : Option ClassId) : Class where
  name := name
  kind := .ordinary
  loader := none
  accessFlags := 33
  super := sup
  interfaces := #[]
  cf := none
  fields := #[]
  methods := #[]
  instanceTypes := #[]
  staticTypes := #[]
  resolved := #[]
  callSites := []
  init := .initialized
  statics := none
  mirror := none

def pool0 : Array CpInfo := pool [(5, u "<init>"), (0, u "()V"), (1, .class_ 10), (1, u "java/lang/Object")] 113

def k0c0 : Code := { maxStack := 0, maxLocals := 1, code := object_method_1_code, exceptionTable := #[], attributes := #[] }
def k0m0 : Method := { name := "<init>", desc := "()V", sig := { parameters := [], returnType := none }, accessFlags := 1, code := some k0c0 }
/-- java/lang/Object -/
def k0 : Class := { plain "java/lang/Object" none with
  accessFlags := 33
  interfaces := #[]
  cf := some (fileOf pool0 8 #[] #[{ accessFlags := 1, nameIndex := 5, descriptorIndex := 6, attributes := #[] }] 33 0 #[] #[])
  fields := #[]
  methods := #[k0m0]
  instanceTypes := #[]
  staticTypes := #[]
  resolved := Array.replicate 124 none
  statics := none }

def pool1 : Array CpInfo := pool [(2, .class_ 4), (1, u "java/lang/Object"), (0, u "<init>"), (0, u "()V"), (0, .methodref 8 9), (0, .class_ 10), (0, .nameAndType 11 12), (0, u "com/example/davka/davka/AccountingCodeOfPinLaw"), (0, u "draw"), (0, u "(I)C"), (0, .class_ 14), (0, u "java/lang/String"), (0, .methodref 13 16), (0, .nameAndType 5 17), (0, u "([C)V"), (0, .methodref 13 19), (0, .nameAndType 20 21), (0, u "valueOf"), (0, u "(C)Ljava/lang/String;"), (0, .methodref 23 24), (0, .class_ 25), (0, .nameAndType 26 27), (0, u "com/example/davka/davka/AccountingCode"), (0, u "of"), (0, u "(Ljava/lang/String;)Ljava/util/Optional;"), (0, .methodref 29 30), (0, .class_ 31), (0, .nameAndType 32 33), (0, u "java/util/Optional"), (0, u "orElse"), (0, u "(Ljava/lang/Object;)Ljava/lang/Object;"), (0, .methodref 8 35), (0, .nameAndType 36 37), (0, u "expected"), (0, u "(IC)Lcom/example/davka/davka/AccountingCode;"), (0, .integer 65536), (0, .integer 65535), (0, .fieldref 23 41), (0, .nameAndType 42 43), (0, u "DEBIT"), (0, u "Lcom/example/davka/davka/AccountingCode;"), (0, .fieldref 23 45), (0, .nameAndType 46 43), (0, u "CREDIT"), (0, .fieldref 23 48), (0, .nameAndType 49 43), (0, u "DEBIT_CANCELLATION"), (0, .fieldref 23 51), (0, .nameAndType 52 43), (0, u "CREDIT_CANCELLATION"), (2, u "law"), (0, u "(IIII)Z")] 3

def k1m0 : Method := { name := "<init>", desc := "()V", sig := { parameters := [], returnType := none }, accessFlags := 1, code := none }
def k1c1 : Code := { maxStack := 6, maxLocals := 11, code := code, exceptionTable := #[], attributes := #[] }
def k1m1 : Method := { name := "law", desc := "(IIII)Z", sig := { parameters := [.int, .int, .int, .int], returnType := some .boolean }, accessFlags := 9, code := some k1c1 }
def k1c2 : Code := { maxStack := 3, maxLocals := 1, code := method_3_code, exceptionTable := #[], attributes := #[] }
def k1m2 : Method := { name := "draw", desc := "(I)C", sig := { parameters := [.int], returnType := some .char }, accessFlags := 10, code := some k1c2 }
def k1c3 : Code := { maxStack := 2, maxLocals := 2, code := method_4_code, exceptionTable := #[], attributes := #[] }
def k1m3 : Method := { name := "expected", desc := "(IC)Lcom/example/davka/davka/AccountingCode;", sig := { parameters := [.int, .char], returnType := some (.object "com/example/davka/davka/AccountingCode") }, accessFlags := 10, code := some k1c3 }
/-- com/example/davka/davka/AccountingCodeOfPinLaw -/
def k1 : Class := { plain "com/example/davka/davka/AccountingCodeOfPinLaw" (some 0) with
  accessFlags := 49
  interfaces := #[]
  cf := some (fileOf pool1 8 #[] #[{ accessFlags := 1, nameIndex := 5, descriptorIndex := 6, attributes := #[] }, { accessFlags := 9, nameIndex := 55, descriptorIndex := 56, attributes := #[] }, { accessFlags := 10, nameIndex := 11, descriptorIndex := 12, attributes := #[] }, { accessFlags := 10, nameIndex := 36, descriptorIndex := 37, attributes := #[] }] 49 2 #[] #[])
  fields := #[]
  methods := #[k1m0, k1m1, k1m2, k1m3]
  instanceTypes := #[]
  staticTypes := #[]
  resolved := Array.replicate 60 none
  statics := none }

def pool2 : Array CpInfo := pool [(1, .class_ 2), (0, u "java/io/Serializable"), (0, .class_ 4), (0, u "java/lang/Object")] 2

/-- java/io/Serializable -/
def k2 : Class := { plain "java/io/Serializable" (some 0) with
  accessFlags := 1537
  interfaces := #[]
  cf := some (fileOf pool2 1 #[] #[] 1537 3 #[] #[])
  fields := #[]
  methods := #[]
  instanceTypes := #[]
  staticTypes := #[]
  resolved := Array.replicate 7 none
  statics := none }

def pool3 : Array CpInfo := pool [(1, .class_ 2), (0, u "java/lang/Comparable"), (0, .class_ 4), (0, u "java/lang/Object")] 7

/-- java/lang/Comparable -/
def k3 : Class := { plain "java/lang/Comparable" (some 0) with
  accessFlags := 1537
  interfaces := #[]
  cf := some (fileOf pool3 1 #[] #[] 1537 3 #[] #[])
  fields := #[]
  methods := #[]
  instanceTypes := #[]
  staticTypes := #[]
  resolved := Array.replicate 12 none
  statics := none }

def pool4 : Array CpInfo := pool [(2, .class_ 4), (1, u "java/lang/CharSequence"), (42, .class_ 48), (0, u "java/lang/CharSequence$1CodePointIterator"), (10, .class_ 60), (0, u "java/lang/CharSequence$1CharIterator"), (5, .class_ 67), (0, u "java/lang/Object")] 63

/-- java/lang/CharSequence -/
def k4 : Class := { plain "java/lang/CharSequence" (some 0) with
  accessFlags := 1537
  interfaces := #[]
  cf := some (fileOf pool4 2 #[.nestMembers #[47, 59]] #[] 1537 66 #[] #[])
  fields := #[]
  methods := #[]
  instanceTypes := #[]
  staticTypes := #[]
  resolved := Array.replicate 131 none
  statics := none }

def pool5 : Array CpInfo := pool [(1, .class_ 2), (0, u "java/lang/constant/Constable"), (0, .class_ 4), (0, u "java/lang/Object")] 6

/-- java/lang/constant/Constable -/
def k5 : Class := { plain "java/lang/constant/Constable" (some 0) with
  accessFlags := 1537
  interfaces := #[]
  cf := some (fileOf pool5 1 #[] #[] 1537 3 #[] #[])
  fields := #[]
  methods := #[]
  instanceTypes := #[]
  staticTypes := #[]
  resolved := Array.replicate 11 none
  statics := none }

def pool6 : Array CpInfo := pool [(1, .class_ 2), (0, u "java/lang/constant/ConstantDesc"), (0, .class_ 4), (0, u "java/lang/Object")] 32

/-- java/lang/constant/ConstantDesc -/
def k6 : Class := { plain "java/lang/constant/ConstantDesc" (some 0) with
  accessFlags := 1537
  interfaces := #[]
  cf := some (fileOf pool6 1 #[] #[] 1537 3 #[] #[])
  fields := #[]
  methods := #[]
  instanceTypes := #[]
  staticTypes := #[]
  resolved := Array.replicate 37 none
  statics := none }

def pool7 : Array CpInfo := pool [(1, .methodref 2 3), (0, .class_ 4), (0, .nameAndType 5 6), (0, u "java/lang/Object"), (0, u "<init>"), (0, u "()V"), (0, .string 8), (0, u ""), (0, .fieldref 10 11), (0, .class_ 12), (0, .nameAndType 13 14), (0, u "java/lang/String"), (0, u "value"), (0, u "[B"), (0, .fieldref 10 16), (0, .nameAndType 17 18), (0, u "coder"), (0, u "B"), (2, u "hash"), (0, u "I"), (2, u "hashIsZero"), (0, u "Z"), (0, .methodref 10 28), (0, .nameAndType 5 29), (0, u "([CIILjava/lang/Void;)V"), (8, .fieldref 10 39), (0, .nameAndType 40 26), (0, u "COMPACT_STRINGS"), (1, .class_ 44), (1, u "java/lang/StringUTF16"), (0, u "compress"), (1, .methodref 42 48), (0, .nameAndType 49 50), (0, u "coderFromArrayLen"), (0, u "([BI)B"), (2, u "toBytes"), (53, .class_ 109), (1, u "java/lang/StringLatin1"), (32, u "()Z"), (34, .methodref 42 178), (0, .nameAndType 45 179), (0, u "([CII)[B"), (29, .methodref 10 210), (0, .nameAndType 5 211), (0, u "([BB)V"), (122, u "()I"), (0, .methodref 10 336), (0, .nameAndType 17 337), (0, u "()B"), (25, u "([BI)C"), (5, u "(C)Z"), (21, u "(II)V"), (35, u "(I)C"), (64, .methodref 10 493), (0, .nameAndType 494 142), (0, u "isLatin1"), (0, .methodref 107 496), (0, .nameAndType 497 363), (0, u "charAt"), (0, .methodref 42 496), (2, u "checkIndex"), (5, u "length"), (67, .class_ 576), (0, u "java/lang/CharSequence"), (22, u "CASE_INSENSITIVE_ORDER"), (0, u "Ljava/util/Comparator;"), (181, u "valueOf"), (0, u "(C)Ljava/lang/String;"), (226, u "([C)V"), (4, .methodref 107 1016), (0, .nameAndType 1017 369), (0, u "canEncode"), (0, .methodref 107 1019), (0, .nameAndType 53 1020), (0, u "(C)[B"), (0, .methodref 42 1019), (31, .fieldref 1054 1055), (0, .class_ 1056), (0, .nameAndType 1057 1058), (0, u "jdk/internal/util/Preconditions"), (0, u "SIOOBE_FORMATTER"), (0, u "Ljava/util/function/BiFunction;"), (0, .methodref 1054 1060), (0, .nameAndType 501 1061), (0, u "(IILjava/util/function/BiFunction;)I"), (39, u "serialPersistentFields"), (0, u "[Ljava/io/ObjectStreamField;"), (0, .class_ 1104), (0, u "java/lang/String$CaseInsensitiveComparator"), (1, .class_ 1107), (0, u "java/io/Serializable"), (0, .class_ 1109), (0, u "java/lang/Comparable"), (0, .class_ 1111), (0, u "java/lang/constant/Constable"), (0, .class_ 1113), (0, u "java/lang/constant/ConstantDesc"), (2, u "serialVersionUID"), (0, u "J"), (3, u "REPL"), (0, u "C"), (2, u "LATIN1"), (1, u "UTF16")] 323

def k7m0 : Method := { name := "<init>", desc := "()V", sig := { parameters := [], returnType := none }, accessFlags := 1, code := none }
def k7c1 : Code := { maxStack := 5, maxLocals := 2, code := jdk_42_method_3_code, exceptionTable := #[], attributes := #[] }
def k7m1 : Method := { name := "<init>", desc := "([C)V", sig := { parameters := [(.array .char)], returnType := none }, accessFlags := 1, code := some k7c1 }
def k7c2 : Code := { maxStack := 2, maxLocals := 1, code := jdk_42_method_54_code, exceptionTable := #[], attributes := #[] }
def k7m2 : Method := { name := "length", desc := "()I", sig := { parameters := [], returnType := some .int }, accessFlags := 1, code := some k7c2 }
def k7c3 : Code := { maxStack := 2, maxLocals := 2, code := jdk_42_method_56_code, exceptionTable := #[], attributes := #[] }
def k7m3 : Method := { name := "charAt", desc := "(I)C", sig := { parameters := [.int], returnType := some .char }, accessFlags := 1, code := some k7c3 }
def k7c4 : Code := { maxStack := 4, maxLocals := 1, code := jdk_42_method_139_code, exceptionTable := #[], attributes := #[] }
def k7m4 : Method := { name := "valueOf", desc := "(C)Ljava/lang/String;", sig := { parameters := [.char], returnType := some (.object "java/lang/String") }, accessFlags := 9, code := some k7c4 }
def k7c5 : Code := { maxStack := 4, maxLocals := 6, code := jdk_42_method_149_code, exceptionTable := #[], attributes := #[] }
def k7m5 : Method := { name := "<init>", desc := "([CIILjava/lang/Void;)V", sig := { parameters := [(.array .char), .int, .int, (.object "java/lang/Void")], returnType := none }, accessFlags := 2, code := some k7c5 }
def k7c6 : Code := { maxStack := 2, maxLocals := 3, code := jdk_42_method_151_code, exceptionTable := #[], attributes := #[] }
def k7m6 : Method := { name := "<init>", desc := "([BB)V", sig := { parameters := [(.array .byte), .byte], returnType := none }, accessFlags := 0, code := some k7c6 }
def k7c7 : Code := { maxStack := 1, maxLocals := 1, code := jdk_42_method_152_code, exceptionTable := #[], attributes := #[] }
def k7m7 : Method := { name := "coder", desc := "()B", sig := { parameters := [], returnType := some .byte }, accessFlags := 0, code := some k7c7 }
def k7c8 : Code := { maxStack := 1, maxLocals := 1, code := jdk_42_method_154_code, exceptionTable := #[], attributes := #[] }
def k7m8 : Method := { name := "isLatin1", desc := "()Z", sig := { parameters := [], returnType := some .boolean }, accessFlags := 0, code := some k7c8 }
def k7c9 : Code := { maxStack := 3, maxLocals := 2, code := jdk_42_method_155_code, exceptionTable := #[], attributes := #[] }
def k7m9 : Method := { name := "checkIndex", desc := "(II)V", sig := { parameters := [.int, .int], returnType := none }, accessFlags := 8, code := some k7c9 }
/-- java/lang/String -/
def k7 : Class := { plain "java/lang/String" (some 0) with
  accessFlags := 49
  interfaces := #[2, 3, 4, 5, 6]
  cf := some (fileOf pool7 10 #[.nestMembers #[1103]] #[{ accessFlags := 1, nameIndex := 5, descriptorIndex := 6, attributes := #[] }, { accessFlags := 1, nameIndex := 5, descriptorIndex := 1010, attributes := #[] }, { accessFlags := 1, nameIndex := 507, descriptorIndex := 334, attributes := #[] }, { accessFlags := 1, nameIndex := 497, descriptorIndex := 427, attributes := #[] }, { accessFlags := 9, nameIndex := 782, descriptorIndex := 783, attributes := #[] }, { accessFlags := 2, nameIndex := 5, descriptorIndex := 29, attributes := #[] }, { accessFlags := 0, nameIndex := 5, descriptorIndex := 211, attributes := #[] }, { accessFlags := 0, nameIndex := 17, descriptorIndex := 337, attributes := #[] }, { accessFlags := 0, nameIndex := 494, descriptorIndex := 142, attributes := #[] }, { accessFlags := 8, nameIndex := 501, descriptorIndex := 391, attributes := #[] }] 49 2 #[1106, 1108, 575, 1110, 1112] #[{ accessFlags := 18, nameIndex := 13, descriptorIndex := 14, attributes := #[] }, { accessFlags := 18, nameIndex := 17, descriptorIndex := 18, attributes := #[] }, { accessFlags := 2, nameIndex := 21, descriptorIndex := 22, attributes := #[] }, { accessFlags := 2, nameIndex := 25, descriptorIndex := 26, attributes := #[] }, { accessFlags := 26, nameIndex := 1116, descriptorIndex := 1117, attributes := #[] }, { accessFlags := 24, nameIndex := 40, descriptorIndex := 26, attributes := #[] }, { accessFlags := 26, nameIndex := 1101, descriptorIndex := 1102, attributes := #[] }, { accessFlags := 26, nameIndex := 1121, descriptorIndex := 1122, attributes := #[] }, { accessFlags := 25, nameIndex := 599, descriptorIndex := 600, attributes := #[] }, { accessFlags := 24, nameIndex := 1125, descriptorIndex := 18, attributes := #[] }, { accessFlags := 24, nameIndex := 1127, descriptorIndex := 18, attributes := #[] }])
  fields := #[{ name := "value", type := (.array .byte), accessFlags := 18, slot := 0, constantValue := 0 }, { name := "coder", type := .byte, accessFlags := 18, slot := 1, constantValue := 0 }, { name := "hash", type := .int, accessFlags := 2, slot := 2, constantValue := 0 }, { name := "hashIsZero", type := .boolean, accessFlags := 2, slot := 3, constantValue := 0 }, { name := "serialVersionUID", type := .long, accessFlags := 26, slot := 0, constantValue := 0 }, { name := "COMPACT_STRINGS", type := .boolean, accessFlags := 24, slot := 1, constantValue := 0 }, { name := "serialPersistentFields", type := (.array (.object "java/io/ObjectStreamField")), accessFlags := 26, slot := 2, constantValue := 0 }, { name := "REPL", type := .char, accessFlags := 26, slot := 3, constantValue := 0 }, { name := "CASE_INSENSITIVE_ORDER", type := (.object "java/util/Comparator"), accessFlags := 25, slot := 4, constantValue := 0 }, { name := "LATIN1", type := .byte, accessFlags := 24, slot := 5, constantValue := 0 }, { name := "UTF16", type := .byte, accessFlags := 24, slot := 6, constantValue := 0 }]
  methods := #[k7m0, k7m1, k7m2, k7m3, k7m4, k7m5, k7m6, k7m7, k7m8, k7m9]
  instanceTypes := #[(.array .byte), .byte, .int, .boolean]
  staticTypes := #[.long, .boolean, (.array (.object "java/io/ObjectStreamField")), .char, (.object "java/util/Comparator"), .byte, .byte]
  resolved := Array.replicate 1451 none
  statics := some 0 }

def pool8 : Array CpInfo := pool [(2, .class_ 4), (1, u "java/lang/Enum"), (0, u "name"), (0, u "Ljava/lang/String;"), (2, u "ordinal"), (0, u "I"), (1, .class_ 14), (1, u "java/lang/Object"), (4, u "hash"), (86, .class_ 108), (1, u "java/lang/Enum$EnumDesc"), (2, .class_ 112), (0, u "java/lang/constant/Constable"), (0, .class_ 114), (0, u "java/lang/Comparable"), (0, .class_ 116), (0, u "java/io/Serializable")] 87

/-- java/lang/Enum -/
def k8 : Class := { plain "java/lang/Enum" (some 0) with
  accessFlags := 1057
  interfaces := #[5, 3, 2]
  cf := some (fileOf pool8 2 #[.nestMembers #[106]] #[] 1057 12 #[111, 113, 115] #[{ accessFlags := 18, nameIndex := 5, descriptorIndex := 6, attributes := #[] }, { accessFlags := 18, nameIndex := 9, descriptorIndex := 10, attributes := #[] }, { accessFlags := 2, nameIndex := 19, descriptorIndex := 10, attributes := #[] }])
  fields := #[{ name := "name", type := (.object "java/lang/String"), accessFlags := 18, slot := 0, constantValue := 0 }, { name := "ordinal", type := .int, accessFlags := 18, slot := 1, constantValue := 0 }, { name := "hash", type := .int, accessFlags := 2, slot := 2, constantValue := 0 }]
  methods := #[]
  instanceTypes := #[(.object "java/lang/String"), .int, .int]
  staticTypes := #[]
  resolved := Array.replicate 204 none
  statics := none }

def pool9 : Array CpInfo := pool [(1, .class_ 2), (0, u "com/example/davka/davka/AccountingCode"), (2, u "DEBIT"), (0, u "Lcom/example/davka/davka/AccountingCode;"), (2, u "CREDIT"), (2, u "DEBIT_CANCELLATION"), (2, u "CREDIT_CANCELLATION"), (2, u "$VALUES"), (0, u "[Lcom/example/davka/davka/AccountingCode;"), (6, .class_ 28), (1, u "java/lang/Enum"), (6, .fieldref 1 36), (0, .nameAndType 37 38), (0, u "digit"), (0, u "C"), (2, u "mark"), (0, u "Ljava/lang/String;"), (2, u "debit"), (0, u "Z"), (2, u "sign"), (0, u "I"), (0, .methodref 52 53), (0, .class_ 54), (0, .nameAndType 55 56), (0, u "java/lang/String"), (0, u "length"), (0, u "()I"), (0, .methodref 52 58), (0, .nameAndType 59 60), (0, u "charAt"), (0, u "(I)C"), (0, .methodref 1 62), (0, .nameAndType 63 64), (0, u "of"), (0, u "(C)Lcom/example/davka/davka/AccountingCode;"), (0, .methodref 66 67), (0, .class_ 68), (0, .nameAndType 69 70), (0, u "java/util/Optional"), (0, u "ofNullable"), (0, u "(Ljava/lang/Object;)Ljava/util/Optional;"), (0, .methodref 66 72), (0, .nameAndType 73 74), (0, u "empty"), (0, u "()Ljava/util/Optional;"), (0, .fieldref 1 76), (0, .nameAndType 77 19), (0, u "CODES"), (46, u "(Ljava/lang/String;)Ljava/util/Optional;")] 13

def k9c0 : Code := { maxStack := 2, maxLocals := 1, code := prog_3_method_4_code, exceptionTable := #[], attributes := #[] }
def k9m0 : Method := { name := "of", desc := "(Ljava/lang/String;)Ljava/util/Optional;", sig := { parameters := [(.object "java/lang/String")], returnType := some (.object "java/util/Optional") }, accessFlags := 8, code := some k9c0 }
def k9c1 : Code := { maxStack := 2, maxLocals := 5, code := prog_3_method_5_code, exceptionTable := #[], attributes := #[] }
def k9m1 : Method := { name := "of", desc := "(C)Lcom/example/davka/davka/AccountingCode;", sig := { parameters := [.char], returnType := some (.object "com/example/davka/davka/AccountingCode") }, accessFlags := 8, code := some k9c1 }
/-- com/example/davka/davka/AccountingCode -/
def k9 : Class := { plain "com/example/davka/davka/AccountingCode" (some 8) with
  accessFlags := 16432
  interfaces := #[]
  cf := some (fileOf pool9 1 #[] #[{ accessFlags := 8, nameIndex := 63, descriptorIndex := 124, attributes := #[] }, { accessFlags := 8, nameIndex := 63, descriptorIndex := 64, attributes := #[] }] 16432 26 #[] #[{ accessFlags := 16409, nameIndex := 5, descriptorIndex := 6, attributes := #[] }, { accessFlags := 16409, nameIndex := 9, descriptorIndex := 6, attributes := #[] }, { accessFlags := 16409, nameIndex := 12, descriptorIndex := 6, attributes := #[] }, { accessFlags := 16409, nameIndex := 15, descriptorIndex := 6, attributes := #[] }, { accessFlags := 26, nameIndex := 77, descriptorIndex := 19, attributes := #[] }, { accessFlags := 18, nameIndex := 37, descriptorIndex := 38, attributes := #[] }, { accessFlags := 18, nameIndex := 41, descriptorIndex := 42, attributes := #[] }, { accessFlags := 18, nameIndex := 45, descriptorIndex := 46, attributes := #[] }, { accessFlags := 18, nameIndex := 49, descriptorIndex := 50, attributes := #[] }, { accessFlags := 4122, nameIndex := 18, descriptorIndex := 19, attributes := #[] }])
  fields := #[{ name := "DEBIT", type := (.object "com/example/davka/davka/AccountingCode"), accessFlags := 16409, slot := 0, constantValue := 0 }, { name := "CREDIT", type := (.object "com/example/davka/davka/AccountingCode"), accessFlags := 16409, slot := 1, constantValue := 0 }, { name := "DEBIT_CANCELLATION", type := (.object "com/example/davka/davka/AccountingCode"), accessFlags := 16409, slot := 2, constantValue := 0 }, { name := "CREDIT_CANCELLATION", type := (.object "com/example/davka/davka/AccountingCode"), accessFlags := 16409, slot := 3, constantValue := 0 }, { name := "CODES", type := (.array (.object "com/example/davka/davka/AccountingCode")), accessFlags := 26, slot := 4, constantValue := 0 }, { name := "digit", type := .char, accessFlags := 18, slot := 3, constantValue := 0 }, { name := "mark", type := (.object "java/lang/String"), accessFlags := 18, slot := 4, constantValue := 0 }, { name := "debit", type := .boolean, accessFlags := 18, slot := 5, constantValue := 0 }, { name := "sign", type := .int, accessFlags := 18, slot := 6, constantValue := 0 }, { name := "$VALUES", type := (.array (.object "com/example/davka/davka/AccountingCode")), accessFlags := 4122, slot := 5, constantValue := 0 }]
  methods := #[k9m0, k9m1]
  instanceTypes := #[(.object "java/lang/String"), .int, .int, .char, (.object "java/lang/String"), .boolean, .int]
  staticTypes := #[(.object "com/example/davka/davka/AccountingCode"), (.object "com/example/davka/davka/AccountingCode"), (.object "com/example/davka/davka/AccountingCode"), (.object "com/example/davka/davka/AccountingCode"), (.array (.object "com/example/davka/davka/AccountingCode")), (.array (.object "com/example/davka/davka/AccountingCode"))]
  resolved := Array.replicate 138 none
  statics := some 1 }

def pool10 : Array CpInfo := pool [(1, .fieldref 2 3), (0, .class_ 4), (0, .nameAndType 5 6), (0, u "java/util/Optional"), (0, u "EMPTY"), (0, u "Ljava/util/Optional;"), (0, .methodref 8 9), (0, .class_ 10), (0, .nameAndType 11 12), (0, u "java/lang/Object"), (0, u "<init>"), (0, u "()V"), (0, .fieldref 2 14), (0, .nameAndType 15 16), (0, u "value"), (0, u "Ljava/lang/Object;"), (5, u "(Ljava/lang/Object;)Ljava/lang/Object;"), (0, .methodref 2 24), (0, .nameAndType 11 25), (0, u "(Ljava/lang/Object;)V"), (29, u "empty"), (0, u "()Ljava/util/Optional;"), (7, u "ofNullable"), (0, u "(Ljava/lang/Object;)Ljava/util/Optional;"), (99, u "orElse")] 21

def k10c0 : Code := { maxStack := 1, maxLocals := 1, code := jdk_32_method_1_code, exceptionTable := #[], attributes := #[] }
def k10m0 : Method := { name := "empty", desc := "()Ljava/util/Optional;", sig := { parameters := [], returnType := some (.object "java/util/Optional") }, accessFlags := 9, code := some k10c0 }
def k10c1 : Code := { maxStack := 2, maxLocals := 2, code := jdk_32_method_2_code, exceptionTable := #[], attributes := #[] }
def k10m1 : Method := { name := "<init>", desc := "(Ljava/lang/Object;)V", sig := { parameters := [(.object "java/lang/Object")], returnType := none }, accessFlags := 2, code := some k10c1 }
def k10c2 : Code := { maxStack := 3, maxLocals := 1, code := jdk_32_method_4_code, exceptionTable := #[], attributes := #[] }
def k10m2 : Method := { name := "ofNullable", desc := "(Ljava/lang/Object;)Ljava/util/Optional;", sig := { parameters := [(.object "java/lang/Object")], returnType := some (.object "java/util/Optional") }, accessFlags := 9, code := some k10c2 }
def k10c3 : Code := { maxStack := 1, maxLocals := 2, code := jdk_32_method_15_code, exceptionTable := #[], attributes := #[] }
def k10m3 : Method := { name := "orElse", desc := "(Ljava/lang/Object;)Ljava/lang/Object;", sig := { parameters := [(.object "java/lang/Object")], returnType := some (.object "java/lang/Object") }, accessFlags := 1, code := some k10c3 }
/-- java/util/Optional -/
def k10 : Class := { plain "java/util/Optional" (some 0) with
  accessFlags := 49
  interfaces := #[]
  cf := some (fileOf pool10 2 #[] #[{ accessFlags := 9, nameIndex := 55, descriptorIndex := 56, attributes := #[] }, { accessFlags := 2, nameIndex := 11, descriptorIndex := 25, attributes := #[] }, { accessFlags := 9, nameIndex := 64, descriptorIndex := 65, attributes := #[] }, { accessFlags := 1, nameIndex := 165, descriptorIndex := 22, attributes := #[] }] 49 8 #[] #[{ accessFlags := 26, nameIndex := 5, descriptorIndex := 6, attributes := #[] }, { accessFlags := 18, nameIndex := 15, descriptorIndex := 16, attributes := #[] }])
  fields := #[{ name := "EMPTY", type := (.object "java/util/Optional"), accessFlags := 26, slot := 0, constantValue := 0 }, { name := "value", type := (.object "java/lang/Object"), accessFlags := 18, slot := 0, constantValue := 0 }]
  methods := #[k10m0, k10m1, k10m2, k10m3]
  instanceTypes := #[(.object "java/lang/Object")]
  staticTypes := #[(.object "java/util/Optional")]
  resolved := Array.replicate 187 none
  statics := some 2 }

def pool11 : Array CpInfo := pool [(3, .class_ 4), (0, u "java/lang/String"), (1, .class_ 8), (1, u "java/lang/Object"), (0, u "<init>"), (0, u "()V"), (0, .methodref 12 13), (0, .class_ 14), (0, .nameAndType 15 16), (0, u "java/lang/StringUTF16"), (0, u "newBytesLength"), (0, u "(I)I"), (3, .integer 1073741823), (23, .fieldref 12 45), (0, .nameAndType 46 47), (0, u "$assertionsDisabled"), (0, u "Z"), (0, .methodref 12 49), (0, .nameAndType 50 51), (0, u "length"), (0, u "([B)I"), (7, .fieldref 12 60), (0, .nameAndType 61 62), (0, u "HI_BYTE_SHIFT"), (0, u "I"), (0, .fieldref 12 64), (0, .nameAndType 65 62), (0, u "LO_BYTE_SHIFT"), (1, .methodref 12 68), (0, .nameAndType 69 70), (0, u "checkIndex"), (0, u "(I[B)V"), (0, .methodref 12 72), (0, .nameAndType 73 74), (0, u "getChar"), (0, u "([BI)C"), (32, .methodref 12 108), (0, .nameAndType 109 110), (0, u "newBytesFor"), (0, u "(I)[B"), (0, .methodref 12 112), (0, .nameAndType 113 114), (0, u "putChar"), (0, u "([BII)V"), (0, .methodref 12 116), (0, .nameAndType 117 118), (0, u "compress"), (0, u "([CI[BII)I"), (0, .methodref 12 120), (0, .nameAndType 121 122), (0, u "toBytes"), (0, u "([CII)[B"), (138, u "coderFromArrayLen"), (0, u "([BI)B"), (106, .class_ 371), (1, u "java/lang/StringUTF16$LinesSpliterator"), (20, u "charAt"), (21, .methodref 3 415), (0, .nameAndType 69 416), (0, u "(II)V"), (13, u "MAX_LENGTH"), (44, u "(C)[B"), (151, .class_ 628), (0, u "java/lang/StringUTF16$CodePointsSpliterator"), (0, .class_ 630), (0, u "java/lang/StringUTF16$CharsSpliterator")] 4

def k11m0 : Method := { name := "<init>", desc := "()V", sig := { parameters := [], returnType := none }, accessFlags := 0, code := none }
def k11c1 : Code := { maxStack := 1, maxLocals := 1, code := jdk_52_method_2_code, exceptionTable := #[], attributes := #[] }
def k11m1 : Method := { name := "newBytesFor", desc := "(I)[B", sig := { parameters := [.int], returnType := some (.array .byte) }, accessFlags := 9, code := some k11c1 }
def k11c2 : Code := { maxStack := 4, maxLocals := 1, code := jdk_52_method_3_code, exceptionTable := #[], attributes := #[] }
def k11m2 : Method := { name := "newBytesLength", desc := "(I)I", sig := { parameters := [.int], returnType := some .int }, accessFlags := 9, code := some k11c2 }
def k11c3 : Code := { maxStack := 4, maxLocals := 3, code := jdk_52_method_4_code, exceptionTable := #[], attributes := #[] }
def k11m3 : Method := { name := "putChar", desc := "([BII)V", sig := { parameters := [(.array .byte), .int, .int], returnType := none }, accessFlags := 8, code := some k11c3 }
def k11c4 : Code := { maxStack := 3, maxLocals := 2, code := jdk_52_method_5_code, exceptionTable := #[], attributes := #[] }
def k11m4 : Method := { name := "getChar", desc := "([BI)C", sig := { parameters := [(.array .byte), .int], returnType := some .char }, accessFlags := 8, code := some k11c4 }
def k11c5 : Code := { maxStack := 2, maxLocals := 1, code := jdk_52_method_6_code, exceptionTable := #[], attributes := #[] }
def k11m5 : Method := { name := "length", desc := "([B)I", sig := { parameters := [(.array .byte)], returnType := some .int }, accessFlags := 9, code := some k11c5 }
def k11c6 : Code := { maxStack := 4, maxLocals := 5, code := jdk_52_method_14_code, exceptionTable := #[], attributes := #[] }
def k11m6 : Method := { name := "toBytes", desc := "([CII)[B", sig := { parameters := [(.array .char), .int, .int], returnType := some (.array .byte) }, accessFlags := 9, code := some k11c6 }
def k11c7 : Code := { maxStack := 2, maxLocals := 2, code := jdk_52_method_15_code, exceptionTable := #[], attributes := #[] }
def k11m7 : Method := { name := "coderFromArrayLen", desc := "([BI)B", sig := { parameters := [(.array .byte), .int], returnType := some .byte }, accessFlags := 8, code := some k11c7 }
def k11c8 : Code := { maxStack := 5, maxLocals := 6, code := jdk_52_method_16_code, exceptionTable := #[], attributes := #[] }
def k11m8 : Method := { name := "compress", desc := "([CII)[B", sig := { parameters := [(.array .char), .int, .int], returnType := some (.array .byte) }, accessFlags := 9, code := some k11c8 }
def k11c9 : Code := { maxStack := 3, maxLocals := 7, code := jdk_52_method_21_code, exceptionTable := #[], attributes := #[] }
def k11m9 : Method := { name := "compress", desc := "([CI[BII)I", sig := { parameters := [(.array .char), .int, (.array .byte), .int, .int], returnType := some .int }, accessFlags := 9, code := some k11c9 }
def k11c10 : Code := { maxStack := 3, maxLocals := 2, code := jdk_52_method_24_code, exceptionTable := #[], attributes := #[] }
def k11m10 : Method := { name := "toBytes", desc := "(C)[B", sig := { parameters := [.char], returnType := some (.array .byte) }, accessFlags := 9, code := some k11c10 }
def k11c11 : Code := { maxStack := 2, maxLocals := 2, code := jdk_52_method_83_code, exceptionTable := #[], attributes := #[] }
def k11m11 : Method := { name := "charAt", desc := "([BI)C", sig := { parameters := [(.array .byte), .int], returnType := some .char }, accessFlags := 9, code := some k11c11 }
def k11c12 : Code := { maxStack := 2, maxLocals := 2, code := jdk_52_method_91_code, exceptionTable := #[], attributes := #[] }
def k11m12 : Method := { name := "checkIndex", desc := "(I[B)V", sig := { parameters := [.int, (.array .byte)], returnType := none }, accessFlags := 9, code := some k11c12 }
/-- java/lang/StringUTF16 -/
def k11 : Class := { plain "java/lang/StringUTF16" (some 0) with
  accessFlags := 48
  interfaces := #[]
  cf := some (fileOf pool11 12 #[.nestMembers #[627, 629, 369]] #[{ accessFlags := 0, nameIndex := 9, descriptorIndex := 10, attributes := #[] }, { accessFlags := 9, nameIndex := 109, descriptorIndex := 110, attributes := #[] }, { accessFlags := 9, nameIndex := 15, descriptorIndex := 16, attributes := #[] }, { accessFlags := 8, nameIndex := 113, descriptorIndex := 114, attributes := #[] }, { accessFlags := 8, nameIndex := 73, descriptorIndex := 74, attributes := #[] }, { accessFlags := 9, nameIndex := 50, descriptorIndex := 51, attributes := #[] }, { accessFlags := 9, nameIndex := 121, descriptorIndex := 122, attributes := #[] }, { accessFlags := 8, nameIndex := 261, descriptorIndex := 262, attributes := #[] }, { accessFlags := 9, nameIndex := 117, descriptorIndex := 122, attributes := #[] }, { accessFlags := 9, nameIndex := 117, descriptorIndex := 118, attributes := #[] }, { accessFlags := 9, nameIndex := 121, descriptorIndex := 475, attributes := #[] }, { accessFlags := 9, nameIndex := 392, descriptorIndex := 74, attributes := #[] }, { accessFlags := 9, nameIndex := 69, descriptorIndex := 70, attributes := #[] }] 48 6 #[] #[{ accessFlags := 26, nameIndex := 61, descriptorIndex := 62, attributes := #[] }, { accessFlags := 26, nameIndex := 65, descriptorIndex := 62, attributes := #[] }, { accessFlags := 24, nameIndex := 430, descriptorIndex := 62, attributes := #[] }, { accessFlags := 4120, nameIndex := 46, descriptorIndex := 47, attributes := #[] }])
  fields := #[{ name := "HI_BYTE_SHIFT", type := .int, accessFlags := 26, slot := 0, constantValue := 0 }, { name := "LO_BYTE_SHIFT", type := .int, accessFlags := 26, slot := 1, constantValue := 0 }, { name := "MAX_LENGTH", type := .int, accessFlags := 24, slot := 2, constantValue := 0 }, { name := "$assertionsDisabled", type := .boolean, accessFlags := 4120, slot := 3, constantValue := 0 }]
  methods := #[k11m0, k11m1, k11m2, k11m3, k11m4, k11m5, k11m6, k11m7, k11m8, k11m9, k11m10, k11m11, k11m12]
  instanceTypes := #[]
  staticTypes := #[.int, .int, .int, .boolean]
  resolved := Array.replicate 635 none
  statics := some 3 }

def pool12 : Array CpInfo := pool [(1, .class_ 2), (0, u "java/lang/String"), (1, .class_ 6), (1, u "java/lang/Object"), (0, u "<init>"), (0, u "()V"), (0, .methodref 1 10), (0, .nameAndType 11 12), (0, u "checkIndex"), (0, u "(II)V"), (1, .class_ 16), (1, u "java/lang/StringLatin1"), (36, u "([BI)C"), (36, u "canEncode"), (14, u "(C)Z"), (15, u "$assertionsDisabled"), (0, u "Z"), (98, .class_ 223), (1, u "java/lang/StringLatin1$LinesSpliterator"), (28, u "charAt"), (127, u "toBytes"), (1, u "(C)[B"), (7, .class_ 391), (0, u "java/lang/StringLatin1$CharsSpliterator")] 3

def k12m0 : Method := { name := "<init>", desc := "()V", sig := { parameters := [], returnType := none }, accessFlags := 0, code := none }
def k12c1 : Code := { maxStack := 2, maxLocals := 2, code := jdk_43_method_2_code, exceptionTable := #[], attributes := #[] }
def k12m1 : Method := { name := "charAt", desc := "([BI)C", sig := { parameters := [(.array .byte), .int], returnType := some .char }, accessFlags := 9, code := some k12c1 }
def k12c2 : Code := { maxStack := 2, maxLocals := 1, code := jdk_43_method_3_code, exceptionTable := #[], attributes := #[] }
def k12m2 : Method := { name := "canEncode", desc := "(C)Z", sig := { parameters := [.char], returnType := some .boolean }, accessFlags := 9, code := some k12c2 }
def k12c3 : Code := { maxStack := 4, maxLocals := 1, code := jdk_43_method_46_code, exceptionTable := #[], attributes := #[] }
def k12m3 : Method := { name := "toBytes", desc := "(C)[B", sig := { parameters := [.char], returnType := some (.array .byte) }, accessFlags := 9, code := some k12c3 }
/-- java/lang/StringLatin1 -/
def k12 : Class := { plain "java/lang/StringLatin1" (some 0) with
  accessFlags := 48
  interfaces := #[]
  cf := some (fileOf pool12 14 #[.nestMembers #[390, 221]] #[{ accessFlags := 0, nameIndex := 7, descriptorIndex := 8, attributes := #[] }, { accessFlags := 9, nameIndex := 252, descriptorIndex := 53, attributes := #[] }, { accessFlags := 9, nameIndex := 90, descriptorIndex := 105, attributes := #[] }, { accessFlags := 9, nameIndex := 380, descriptorIndex := 382, attributes := #[] }] 48 4 #[] #[{ accessFlags := 4120, nameIndex := 121, descriptorIndex := 122, attributes := #[] }])
  fields := #[{ name := "$assertionsDisabled", type := .boolean, accessFlags := 4120, slot := 0, constantValue := 0 }]
  methods := #[k12m0, k12m1, k12m2, k12m3]
  instanceTypes := #[]
  staticTypes := #[.boolean]
  resolved := Array.replicate 395 none
  statics := none }

def pool13 : Array CpInfo := pool [(2, .class_ 4), (1, u "java/lang/Object"), (0, u "<init>"), (0, u "()V"), (17, .class_ 26), (1, u "jdk/internal/util/Preconditions"), (6, u "checkIndex"), (21, .class_ 56), (0, u "jdk/internal/util/Preconditions$4"), (57, .class_ 115), (0, u "jdk/internal/util/Preconditions$1"), (7, u "SIOOBE_FORMATTER"), (0, u "Ljava/util/function/BiFunction;"), (0, .class_ 126), (0, u "jdk/internal/util/Preconditions$2"), (3, u "AIOOBE_FORMATTER"), (0, .class_ 132), (0, u "jdk/internal/util/Preconditions$3"), (3, u "IOOBE_FORMATTER"), (41, u "(IILjava/util/function/BiFunction;)I")] 15

def k13m0 : Method := { name := "<init>", desc := "()V", sig := { parameters := [], returnType := none }, accessFlags := 1, code := none }
def k13c1 : Code := { maxStack := 3, maxLocals := 3, code := jdk_41_method_11_code, exceptionTable := #[], attributes := #[] }
def k13m1 : Method := { name := "checkIndex", desc := "(IILjava/util/function/BiFunction;)I", sig := { parameters := [.int, .int, (.object "java/util/function/BiFunction")], returnType := some .int }, accessFlags := 9, code := some k13c1 }
/-- jdk/internal/util/Preconditions -/
def k13 : Class := { plain "jdk/internal/util/Preconditions" (some 0) with
  accessFlags := 33
  interfaces := #[]
  cf := some (fileOf pool13 24 #[.nestMembers #[55, 131, 125, 114]] #[{ accessFlags := 1, nameIndex := 5, descriptorIndex := 6, attributes := #[] }, { accessFlags := 9, nameIndex := 33, descriptorIndex := 178, attributes := #[] }] 33 2 #[] #[{ accessFlags := 25, nameIndex := 123, descriptorIndex := 124, attributes := #[] }, { accessFlags := 25, nameIndex := 130, descriptorIndex := 124, attributes := #[] }, { accessFlags := 25, nameIndex := 136, descriptorIndex := 124, attributes := #[] }])
  fields := #[{ name := "SIOOBE_FORMATTER", type := (.object "java/util/function/BiFunction"), accessFlags := 25, slot := 0, constantValue := 0 }, { name := "AIOOBE_FORMATTER", type := (.object "java/util/function/BiFunction"), accessFlags := 25, slot := 1, constantValue := 0 }, { name := "IOOBE_FORMATTER", type := (.object "java/util/function/BiFunction"), accessFlags := 25, slot := 2, constantValue := 0 }]
  methods := #[k13m0, k13m1]
  instanceTypes := #[]
  staticTypes := #[(.object "java/util/function/BiFunction"), (.object "java/util/function/BiFunction"), (.object "java/util/function/BiFunction")]
  resolved := Array.replicate 194 none
  statics := some 4 }

def pool14 : Array CpInfo := pool [(9, u "<init>"), (6, .class_ 18), (1, u "java/lang/Object"), (0, u "()V"), (1, .class_ 23), (1, u "jdk/internal/util/ArraysSupport"), (0, u "LOG2_ARRAY_LONG_INDEX_SCALE"), (0, u "I"), (2, u "U"), (0, u "Ljdk/internal/misc/Unsafe;"), (8, u "BIG_ENDIAN"), (0, u "Z"), (8, u "LOG2_BYTE_BIT_SIZE"), (4, u "LOG2_ARRAY_INT_INDEX_SCALE"), (54, u "JLA"), (0, u "Ljdk/internal/access/JavaLangAccess;"), (11, u "LOG2_ARRAY_BOOLEAN_INDEX_SCALE"), (9, u "LOG2_ARRAY_BYTE_INDEX_SCALE"), (5, u "LOG2_ARRAY_CHAR_INDEX_SCALE"), (5, u "LOG2_ARRAY_SHORT_INDEX_SCALE"), (18, u "LOG2_ARRAY_FLOAT_INDEX_SCALE"), (24, u "LOG2_ARRAY_DOUBLE_INDEX_SCALE"), (89, u "T_BOOLEAN"), (2, u "T_CHAR"), (1, u "T_FLOAT"), (1, u "T_DOUBLE"), (1, u "T_BYTE"), (1, u "T_SHORT"), (1, u "T_INT"), (1, u "T_LONG"), (1, u "SOFT_MAX_ARRAY_LENGTH")] 83

def k14m0 : Method := { name := "<init>", desc := "()V", sig := { parameters := [], returnType := none }, accessFlags := 2, code := none }
/-- jdk/internal/util/ArraysSupport -/
def k14 : Class := { plain "jdk/internal/util/ArraysSupport" (some 0) with
  accessFlags := 33
  interfaces := #[]
  cf := some (fileOf pool14 21 #[] #[{ accessFlags := 2, nameIndex := 9, descriptorIndex := 19, attributes := #[] }] 33 16 #[] #[{ accessFlags := 24, nameIndex := 28, descriptorIndex := 29, attributes := #[] }, { accessFlags := 26, nameIndex := 38, descriptorIndex := 39, attributes := #[] }, { accessFlags := 25, nameIndex := 121, descriptorIndex := 25, attributes := #[] }, { accessFlags := 25, nameIndex := 131, descriptorIndex := 25, attributes := #[] }, { accessFlags := 25, nameIndex := 137, descriptorIndex := 25, attributes := #[] }, { accessFlags := 25, nameIndex := 143, descriptorIndex := 25, attributes := #[] }, { accessFlags := 25, nameIndex := 53, descriptorIndex := 25, attributes := #[] }, { accessFlags := 25, nameIndex := 24, descriptorIndex := 25, attributes := #[] }, { accessFlags := 25, nameIndex := 162, descriptorIndex := 25, attributes := #[] }, { accessFlags := 25, nameIndex := 187, descriptorIndex := 25, attributes := #[] }, { accessFlags := 26, nameIndex := 48, descriptorIndex := 25, attributes := #[] }, { accessFlags := 25, nameIndex := 277, descriptorIndex := 25, attributes := #[] }, { accessFlags := 25, nameIndex := 280, descriptorIndex := 25, attributes := #[] }, { accessFlags := 25, nameIndex := 282, descriptorIndex := 25, attributes := #[] }, { accessFlags := 25, nameIndex := 284, descriptorIndex := 25, attributes := #[] }, { accessFlags := 25, nameIndex := 286, descriptorIndex := 25, attributes := #[] }, { accessFlags := 25, nameIndex := 288, descriptorIndex := 25, attributes := #[] }, { accessFlags := 25, nameIndex := 290, descriptorIndex := 25, attributes := #[] }, { accessFlags := 25, nameIndex := 292, descriptorIndex := 25, attributes := #[] }, { accessFlags := 26, nameIndex := 108, descriptorIndex := 109, attributes := #[] }, { accessFlags := 25, nameIndex := 294, descriptorIndex := 25, attributes := #[] }])
  fields := #[{ name := "U", type := (.object "jdk/internal/misc/Unsafe"), accessFlags := 24, slot := 0, constantValue := 0 }, { name := "BIG_ENDIAN", type := .boolean, accessFlags := 26, slot := 1, constantValue := 0 }, { name := "LOG2_ARRAY_BOOLEAN_INDEX_SCALE", type := .int, accessFlags := 25, slot := 2, constantValue := 0 }, { name := "LOG2_ARRAY_BYTE_INDEX_SCALE", type := .int, accessFlags := 25, slot := 3, constantValue := 0 }, { name := "LOG2_ARRAY_CHAR_INDEX_SCALE", type := .int, accessFlags := 25, slot := 4, constantValue := 0 }, { name := "LOG2_ARRAY_SHORT_INDEX_SCALE", type := .int, accessFlags := 25, slot := 5, constantValue := 0 }, { name := "LOG2_ARRAY_INT_INDEX_SCALE", type := .int, accessFlags := 25, slot := 6, constantValue := 0 }, { name := "LOG2_ARRAY_LONG_INDEX_SCALE", type := .int, accessFlags := 25, slot := 7, constantValue := 0 }, { name := "LOG2_ARRAY_FLOAT_INDEX_SCALE", type := .int, accessFlags := 25, slot := 8, constantValue := 0 }, { name := "LOG2_ARRAY_DOUBLE_INDEX_SCALE", type := .int, accessFlags := 25, slot := 9, constantValue := 0 }, { name := "LOG2_BYTE_BIT_SIZE", type := .int, accessFlags := 26, slot := 10, constantValue := 0 }, { name := "T_BOOLEAN", type := .int, accessFlags := 25, slot := 11, constantValue := 0 }, { name := "T_CHAR", type := .int, accessFlags := 25, slot := 12, constantValue := 0 }, { name := "T_FLOAT", type := .int, accessFlags := 25, slot := 13, constantValue := 0 }, { name := "T_DOUBLE", type := .int, accessFlags := 25, slot := 14, constantValue := 0 }, { name := "T_BYTE", type := .int, accessFlags := 25, slot := 15, constantValue := 0 }, { name := "T_SHORT", type := .int, accessFlags := 25, slot := 16, constantValue := 0 }, { name := "T_INT", type := .int, accessFlags := 25, slot := 17, constantValue := 0 }, { name := "T_LONG", type := .int, accessFlags := 25, slot := 18, constantValue := 0 }, { name := "JLA", type := (.object "jdk/internal/access/JavaLangAccess"), accessFlags := 26, slot := 19, constantValue := 0 }, { name := "SOFT_MAX_ARRAY_LENGTH", type := .int, accessFlags := 25, slot := 20, constantValue := 0 }]
  methods := #[k14m0]
  instanceTypes := #[]
  staticTypes := #[(.object "jdk/internal/misc/Unsafe"), .boolean, .int, .int, .int, .int, .int, .int, .int, .int, .int, .int, .int, .int, .int, .int, .int, .int, .int, (.object "jdk/internal/access/JavaLangAccess"), .int]
  resolved := Array.replicate 378 none
  statics := none }

def pool15 : Array CpInfo := pool [(1, u "java/lang/Cloneable"), (0, .class_ 1), (0, u "java/lang/Object"), (0, .class_ 3)] 3

/-- java/lang/Cloneable -/
def k15 : Class := { plain "java/lang/Cloneable" (some 0) with
  accessFlags := 1537
  interfaces := #[]
  cf := some (fileOf pool15 2 #[] #[] 1537 4 #[] #[])
  fields := #[]
  methods := #[]
  instanceTypes := #[]
  staticTypes := #[]
  resolved := Array.replicate 8 none
  statics := none }

/-- the primitive byte -/
def k16 : Class := { plain "byte" none with kind := .primitive 'B', accessFlags := 0x411 }
/-- [B -/
def k17 : Class := { plain "[B" (some 0) with kind := .array 16 .byte, interfaces := #[15, 2], accessFlags := 1041 }

/-- the primitive char -/
def k18 : Class := { plain "char" none with kind := .primitive 'C', accessFlags := 0x411 }
/-- [C -/
def k19 : Class := { plain "[C" (some 0) with kind := .array 18 .char, interfaces := #[15, 2], accessFlags := 1041 }

/-- the primitive int -/
def k20 : Class := { plain "int" none with kind := .primitive 'I', accessFlags := 0x411 }
/-- [I -/
def k21 : Class := { plain "[I" (some 0) with kind := .array 20 .int, interfaces := #[15, 2], accessFlags := 1041 }

/-- [Lcom/example/davka/davka/AccountingCode; -/
def k22 : Class := { plain "[Lcom/example/davka/davka/AccountingCode;" (some 0) with kind := .array 9 (.object "com/example/davka/davka/AccountingCode"), interfaces := #[15, 2], accessFlags := 1041 }

def heap : Heap := #[{ cls := 7, slots := #[.long 0, .int 1, .null, .int 0, .null, .int 0, .int 0], vm := .statics 7 },
  { cls := 9, slots := #[.ref 6, .ref 7, .ref 8, .ref 9, .ref 5, .null], vm := .statics 9 },
  { cls := 10, slots := #[.ref 10], vm := .statics 10 },
  { cls := 11, slots := #[.int 0, .int 8, .int 0, .int 1], vm := .statics 11 },
  { cls := 13, slots := #[.null, .null, .null], vm := .statics 13 },
  { cls := 22, slots := #[.ref 6, .ref 7, .ref 8, .ref 9], vm := .none },
  { cls := 9, slots := #[.null, .int 0, .int 0, .int 48, .null, .int 1, .int 1], vm := .none },
  { cls := 9, slots := #[.null, .int 1, .int 0, .int 49, .null, .int 0, .int 1], vm := .none },
  { cls := 9, slots := #[.null, .int 2, .int 0, .int 50, .null, .int 1, .int 1], vm := .none },
  { cls := 9, slots := #[.null, .int 3, .int 0, .int 51, .null, .int 0, .int 1], vm := .none },
  { cls := 10, slots := #[.null], vm := .none }]
def classes : Array Class := #[k0, k1, k2, k3, k4, k5, k6, k7, k8, k9, k10, k11, k12, k13, k14, k15, k16, k17, k18, k19, k20, k21, k22]
def interned : List (Array UInt16 × Addr) := []
def slotsUsed : Nat := 54
def theMethod : MethodId := ⟨1, 1⟩
def args0 : Array Value := #[.int 1, .int 65536, .int 7, .int 3]
def aboutOver (below : List Frame) : State where
  vm := { classes := classes, interned := interned.toArray }
  heap := heap
  slotsUsed := slotsUsed
  threads := #[{ frames := .invoking theMethod args0 :: below }]
def below0 : List Frame := [.native { method := ⟨0, 0⟩, args := #[] }]
def about1 : State := aboutOver below0
def p0 : Program := .bare "" "" ""
def e0 : Env := launch0.env 0 0 0
theorem w_frames : about1.frames = Frame.invoking theMethod args0 :: below0 := rfl
set_option maxRecDepth 65536 in
theorem w_args : argsFit about1.vm theMethod args0 = true := by decide +kernel
set_option maxRecDepth 65536 in
theorem w_heap : heapFits about1 = true := by decide +kernel
set_option maxRecDepth 65536 in
theorem w_runnable : about1.curStatus? = some .runnable := by decide +kernel
set_option maxRecDepth 65536 in
theorem w_alone : about1.alone = true := by decide +kernel
set_option maxRecDepth 65536 in
theorem w_named : about1.methodNamed? x = some theMethod := by decide +kernel
set_option maxRecDepth 65536 in
theorem w_hears : about1.hears theMethod below0 = true := by decide +kernel
set_option maxRecDepth 65536 in
theorem w_ripe : about1.ripe theMethod args0 below0 = true := by decide +kernel
theorem w_running : about1.status = .running := rfl
set_option maxRecDepth 65536 in
theorem w_room : about1.hasRoom e0.platform room_1 = true :=
  launch0.hasRoom_least _ room_1 (by decide +kernel) (by decide +kernel) (by decide +kernel) (by decide +kernel) (by decide +kernel) (by decide +kernel)
theorem allAtoms_all (ts : List Jvm.Cond) (a : Array Jvm.Value) (st : Jvm.State) : (allAtoms ts).before a st = ts.all (fun c => c.before a st) := by
  induction ts with
  | nil => rfl
  | cons c t ih =>
    show (Jvm.Cond.and c (allAtoms t)).before a st = _
    rw [Jvm.Cond.before_and, ih, List.all_cons]
def words1 : List Jvm.Cond := Jvm.Cond.code x code maxLocals ret :: tables_1
/-- a 'code' word, met by the world's own term for the bytes: nothing is compared byte by byte -/
theorem code_word {y : MethodName} {bytes : ByteArray} {mx : Nat} {rt : Option FieldType} {a : Array Value} {s : State} {m : MethodId} {meth : Method} {c : Code} (h1 : s.methodNamed? y = some m) (h2 : s.vm.method? m = some meth) (h3 : meth.code = some c) (h4 : c.code = bytes)
    (h5 : (c.maxLocals == mx && c.exceptionTable.isEmpty && decide (c.maxStack ≤ mostOperands) && decide (meth.sig.returnType = rt) && !meth.locks && decide (parseMethodDescriptor y.desc = some meth.sig)) = true) : (Jvm.Cond.code y bytes mx rt).before a s = true := by
  simp only [Bool.and_eq_true, beq_iff_eq, Bool.not_eq_true', decide_eq_true_eq] at h5
  obtain ⟨⟨⟨⟨⟨g1, g2⟩, g3⟩, g4⟩, g5⟩, g6⟩ := h5
  simp [Cond.before, Cond.holds, Cond.value, h1, h2, h3, h4, g1, g2, g3, g4, g5, g6]
def isCode : Jvm.Cond → Bool
  | .code _ _ _ _ => true
  | _ => false
theorem all_split {L : List Jvm.Cond} {P : Jvm.Cond → Bool} (h1 : L.all (fun c => isCode c || P c) = true) (h2 : ∀ c ∈ L.filter isCode, P c = true) : L.all P = true := by
  refine List.all_eq_true.mpr fun c hc => ?_
  have h := List.all_eq_true.mp h1 c hc
  rcases Bool.eq_false_or_eq_true (isCode c) with hi | hi
  · exact h2 c (List.mem_filter.mpr ⟨hc, hi⟩)
  · simpa [hi] using h
set_option maxRecDepth 65536 in
theorem w_c0 : (Jvm.Cond.code x code maxLocals ret).before args0 about1 = true := code_word (m := ⟨1, 1⟩) (meth := k1m1) (c := k1c1) (by decide +kernel) rfl rfl rfl (by decide +kernel)
set_option maxRecDepth 65536 in
theorem w_c1 : (Jvm.Cond.code ({ cls := "com/example/davka/davka/AccountingCodeOfPinLaw", name := "draw", desc := "(I)C" } : Jvm.MethodName) method_3_code (1 : Nat) (Option.some Jvm.ClassFile.FieldType.char)).before args0 about1 = true := code_word (m := ⟨1, 2⟩) (meth := k1m2) (c := k1c2) (by decide +kernel) rfl rfl rfl (by decide +kernel)
set_option maxRecDepth 65536 in
theorem w_c2 : (Jvm.Cond.code ({ cls := "java/lang/String", name := "<init>", desc := "([C)V" } : Jvm.MethodName) jdk_42_method_3_code (2 : Nat) (Option.none : Option Jvm.ClassFile.FieldType)).before args0 about1 = true := code_word (m := ⟨7, 1⟩) (meth := k7m1) (c := k7c1) (by decide +kernel) rfl rfl rfl (by decide +kernel)
set_option maxRecDepth 65536 in
theorem w_c3 : (Jvm.Cond.code ({ cls := "java/lang/String", name := "<init>", desc := "([CIILjava/lang/Void;)V" } : Jvm.MethodName) jdk_42_method_149_code (6 : Nat) (Option.none : Option Jvm.ClassFile.FieldType)).before args0 about1 = true := code_word (m := ⟨7, 5⟩) (meth := k7m5) (c := k7c5) (by decide +kernel) rfl rfl rfl (by decide +kernel)
set_option maxRecDepth 65536 in
theorem w_c4 : (Jvm.Cond.code ({ cls := "java/lang/Object", name := "<init>", desc := "()V" } : Jvm.MethodName) object_method_1_code (1 : Nat) (Option.none : Option Jvm.ClassFile.FieldType)).before args0 about1 = true := code_word (m := ⟨0, 0⟩) (meth := k0m0) (c := k0c0) (by decide +kernel) rfl rfl rfl (by decide +kernel)
set_option maxRecDepth 65536 in
theorem w_c5 : (Jvm.Cond.code ({ cls := "com/example/davka/davka/AccountingCode", name := "of", desc := "(Ljava/lang/String;)Ljava/util/Optional;" } : Jvm.MethodName) prog_3_method_4_code (1 : Nat) (Option.some (Jvm.ClassFile.FieldType.object "java/util/Optional"))).before args0 about1 = true := code_word (m := ⟨9, 0⟩) (meth := k9m0) (c := k9c0) (by decide +kernel) rfl rfl rfl (by decide +kernel)
set_option maxRecDepth 65536 in
theorem w_c6 : (Jvm.Cond.code ({ cls := "java/lang/String", name := "length", desc := "()I" } : Jvm.MethodName) jdk_42_method_54_code (1 : Nat) (Option.some Jvm.ClassFile.FieldType.int)).before args0 about1 = true := code_word (m := ⟨7, 2⟩) (meth := k7m2) (c := k7c2) (by decide +kernel) rfl rfl rfl (by decide +kernel)
set_option maxRecDepth 65536 in
theorem w_c7 : (Jvm.Cond.code ({ cls := "java/lang/String", name := "coder", desc := "()B" } : Jvm.MethodName) jdk_42_method_152_code (1 : Nat) (Option.some Jvm.ClassFile.FieldType.byte)).before args0 about1 = true := code_word (m := ⟨7, 7⟩) (meth := k7m7) (c := k7c7) (by decide +kernel) rfl rfl rfl (by decide +kernel)
set_option maxRecDepth 65536 in
theorem w_c8 : (Jvm.Cond.code ({ cls := "java/util/Optional", name := "empty", desc := "()Ljava/util/Optional;" } : Jvm.MethodName) jdk_32_method_1_code (1 : Nat) (Option.some (Jvm.ClassFile.FieldType.object "java/util/Optional"))).before args0 about1 = true := code_word (m := ⟨10, 0⟩) (meth := k10m0) (c := k10c0) (by decide +kernel) rfl rfl rfl (by decide +kernel)
set_option maxRecDepth 65536 in
theorem w_c9 : (Jvm.Cond.code ({ cls := "java/util/Optional", name := "orElse", desc := "(Ljava/lang/Object;)Ljava/lang/Object;" } : Jvm.MethodName) jdk_32_method_15_code (2 : Nat) (Option.some (Jvm.ClassFile.FieldType.object "java/lang/Object"))).before args0 about1 = true := code_word (m := ⟨10, 3⟩) (meth := k10m3) (c := k10c3) (by decide +kernel) rfl rfl rfl (by decide +kernel)
set_option maxRecDepth 65536 in
theorem w_c10 : (Jvm.Cond.code ({ cls := "com/example/davka/davka/AccountingCodeOfPinLaw", name := "expected", desc := "(IC)Lcom/example/davka/davka/AccountingCode;" } : Jvm.MethodName) method_4_code (2 : Nat) (Option.some (Jvm.ClassFile.FieldType.object "com/example/davka/davka/AccountingCode"))).before args0 about1 = true := code_word (m := ⟨1, 3⟩) (meth := k1m3) (c := k1c3) (by decide +kernel) rfl rfl rfl (by decide +kernel)
set_option maxRecDepth 65536 in
theorem w_c11 : (Jvm.Cond.code ({ cls := "java/lang/StringUTF16", name := "compress", desc := "([CII)[B" } : Jvm.MethodName) jdk_52_method_16_code (6 : Nat) (Option.some (Jvm.ClassFile.FieldType.array Jvm.ClassFile.FieldType.byte))).before args0 about1 = true := code_word (m := ⟨11, 8⟩) (meth := k11m8) (c := k11c8) (by decide +kernel) rfl rfl rfl (by decide +kernel)
set_option maxRecDepth 65536 in
theorem w_c12 : (Jvm.Cond.code ({ cls := "java/lang/StringUTF16", name := "compress", desc := "([CI[BII)I" } : Jvm.MethodName) jdk_52_method_21_code (7 : Nat) (Option.some Jvm.ClassFile.FieldType.int)).before args0 about1 = true := code_word (m := ⟨11, 9⟩) (meth := k11m9) (c := k11c9) (by decide +kernel) rfl rfl rfl (by decide +kernel)
set_option maxRecDepth 65536 in
theorem w_c13 : (Jvm.Cond.code ({ cls := "java/lang/StringUTF16", name := "coderFromArrayLen", desc := "([BI)B" } : Jvm.MethodName) jdk_52_method_15_code (2 : Nat) (Option.some Jvm.ClassFile.FieldType.byte)).before args0 about1 = true := code_word (m := ⟨11, 7⟩) (meth := k11m7) (c := k11c7) (by decide +kernel) rfl rfl rfl (by decide +kernel)
set_option maxRecDepth 65536 in
theorem w_c14 : (Jvm.Cond.code ({ cls := "java/lang/String", name := "valueOf", desc := "(C)Ljava/lang/String;" } : Jvm.MethodName) jdk_42_method_139_code (1 : Nat) (Option.some (Jvm.ClassFile.FieldType.object "java/lang/String"))).before args0 about1 = true := code_word (m := ⟨7, 4⟩) (meth := k7m4) (c := k7c4) (by decide +kernel) rfl rfl rfl (by decide +kernel)
set_option maxRecDepth 65536 in
theorem w_c15 : (Jvm.Cond.code ({ cls := "java/lang/StringLatin1", name := "canEncode", desc := "(C)Z" } : Jvm.MethodName) jdk_43_method_3_code (1 : Nat) (Option.some Jvm.ClassFile.FieldType.boolean)).before args0 about1 = true := code_word (m := ⟨12, 2⟩) (meth := k12m2) (c := k12c2) (by decide +kernel) rfl rfl rfl (by decide +kernel)
set_option maxRecDepth 65536 in
theorem w_c16 : (Jvm.Cond.code ({ cls := "java/lang/StringLatin1", name := "toBytes", desc := "(C)[B" } : Jvm.MethodName) jdk_43_method_46_code (1 : Nat) (Option.some (Jvm.ClassFile.FieldType.array Jvm.ClassFile.FieldType.byte))).before args0 about1 = true := code_word (m := ⟨12, 3⟩) (meth := k12m3) (c := k12c3) (by decide +kernel) rfl rfl rfl (by decide +kernel)
set_option maxRecDepth 65536 in
theorem w_c17 : (Jvm.Cond.code ({ cls := "java/lang/String", name := "<init>", desc := "([BB)V" } : Jvm.MethodName) jdk_42_method_151_code (3 : Nat) (Option.none : Option Jvm.ClassFile.FieldType)).before args0 about1 = true := code_word (m := ⟨7, 6⟩) (meth := k7m6) (c := k7c6) (by decide +kernel) rfl rfl rfl (by decide +kernel)
set_option maxRecDepth 65536 in
theorem w_c18 : (Jvm.Cond.code ({ cls := "java/lang/String", name := "charAt", desc := "(I)C" } : Jvm.MethodName) jdk_42_method_56_code (2 : Nat) (Option.some Jvm.ClassFile.FieldType.char)).before args0 about1 = true := code_word (m := ⟨7, 3⟩) (meth := k7m3) (c := k7c3) (by decide +kernel) rfl rfl rfl (by decide +kernel)
set_option maxRecDepth 65536 in
theorem w_c19 : (Jvm.Cond.code ({ cls := "java/lang/String", name := "isLatin1", desc := "()Z" } : Jvm.MethodName) jdk_42_method_154_code (1 : Nat) (Option.some Jvm.ClassFile.FieldType.boolean)).before args0 about1 = true := code_word (m := ⟨7, 8⟩) (meth := k7m8) (c := k7c8) (by decide +kernel) rfl rfl rfl (by decide +kernel)
set_option maxRecDepth 65536 in
theorem w_c20 : (Jvm.Cond.code ({ cls := "java/lang/StringLatin1", name := "charAt", desc := "([BI)C" } : Jvm.MethodName) jdk_43_method_2_code (2 : Nat) (Option.some Jvm.ClassFile.FieldType.char)).before args0 about1 = true := code_word (m := ⟨12, 1⟩) (meth := k12m1) (c := k12c1) (by decide +kernel) rfl rfl rfl (by decide +kernel)
set_option maxRecDepth 65536 in
theorem w_c21 : (Jvm.Cond.code ({ cls := "java/lang/String", name := "checkIndex", desc := "(II)V" } : Jvm.MethodName) jdk_42_method_155_code (2 : Nat) (Option.none : Option Jvm.ClassFile.FieldType)).before args0 about1 = true := code_word (m := ⟨7, 9⟩) (meth := k7m9) (c := k7c9) (by decide +kernel) rfl rfl rfl (by decide +kernel)
set_option maxRecDepth 65536 in
theorem w_c22 : (Jvm.Cond.code ({ cls := "jdk/internal/util/Preconditions", name := "checkIndex", desc := "(IILjava/util/function/BiFunction;)I" } : Jvm.MethodName) jdk_41_method_11_code (3 : Nat) (Option.some Jvm.ClassFile.FieldType.int)).before args0 about1 = true := code_word (m := ⟨13, 1⟩) (meth := k13m1) (c := k13c1) (by decide +kernel) rfl rfl rfl (by decide +kernel)
set_option maxRecDepth 65536 in
theorem w_c23 : (Jvm.Cond.code ({ cls := "com/example/davka/davka/AccountingCode", name := "of", desc := "(C)Lcom/example/davka/davka/AccountingCode;" } : Jvm.MethodName) prog_3_method_5_code (5 : Nat) (Option.some (Jvm.ClassFile.FieldType.object "com/example/davka/davka/AccountingCode"))).before args0 about1 = true := code_word (m := ⟨9, 1⟩) (meth := k9m1) (c := k9c1) (by decide +kernel) rfl rfl rfl (by decide +kernel)
set_option maxRecDepth 65536 in
theorem w_c24 : (Jvm.Cond.code ({ cls := "java/util/Optional", name := "ofNullable", desc := "(Ljava/lang/Object;)Ljava/util/Optional;" } : Jvm.MethodName) jdk_32_method_4_code (1 : Nat) (Option.some (Jvm.ClassFile.FieldType.object "java/util/Optional"))).before args0 about1 = true := code_word (m := ⟨10, 2⟩) (meth := k10m2) (c := k10c2) (by decide +kernel) rfl rfl rfl (by decide +kernel)
set_option maxRecDepth 65536 in
theorem w_c25 : (Jvm.Cond.code ({ cls := "java/lang/StringUTF16", name := "toBytes", desc := "([CII)[B" } : Jvm.MethodName) jdk_52_method_14_code (5 : Nat) (Option.some (Jvm.ClassFile.FieldType.array Jvm.ClassFile.FieldType.byte))).before args0 about1 = true := code_word (m := ⟨11, 6⟩) (meth := k11m6) (c := k11c6) (by decide +kernel) rfl rfl rfl (by decide +kernel)
set_option maxRecDepth 65536 in
theorem w_c26 : (Jvm.Cond.code ({ cls := "java/lang/StringUTF16", name := "newBytesFor", desc := "(I)[B" } : Jvm.MethodName) jdk_52_method_2_code (1 : Nat) (Option.some (Jvm.ClassFile.FieldType.array Jvm.ClassFile.FieldType.byte))).before args0 about1 = true := code_word (m := ⟨11, 1⟩) (meth := k11m1) (c := k11c1) (by decide +kernel) rfl rfl rfl (by decide +kernel)
set_option maxRecDepth 65536 in
theorem w_c27 : (Jvm.Cond.code ({ cls := "java/lang/StringUTF16", name := "newBytesLength", desc := "(I)I" } : Jvm.MethodName) jdk_52_method_3_code (1 : Nat) (Option.some Jvm.ClassFile.FieldType.int)).before args0 about1 = true := code_word (m := ⟨11, 2⟩) (meth := k11m2) (c := k11c2) (by decide +kernel) rfl rfl rfl (by decide +kernel)
set_option maxRecDepth 65536 in
theorem w_c28 : (Jvm.Cond.code ({ cls := "java/lang/StringUTF16", name := "putChar", desc := "([BII)V" } : Jvm.MethodName) jdk_52_method_4_code (3 : Nat) (Option.none : Option Jvm.ClassFile.FieldType)).before args0 about1 = true := code_word (m := ⟨11, 3⟩) (meth := k11m3) (c := k11c3) (by decide +kernel) rfl rfl rfl (by decide +kernel)
set_option maxRecDepth 65536 in
theorem w_c29 : (Jvm.Cond.code ({ cls := "java/lang/StringUTF16", name := "getChar", desc := "([BI)C" } : Jvm.MethodName) jdk_52_method_5_code (2 : Nat) (Option.some Jvm.ClassFile.FieldType.char)).before args0 about1 = true := code_word (m := ⟨11, 4⟩) (meth := k11m4) (c := k11c4) (by decide +kernel) rfl rfl rfl (by decide +kernel)
set_option maxRecDepth 65536 in
theorem w_c30 : (Jvm.Cond.code ({ cls := "java/lang/StringUTF16", name := "toBytes", desc := "(C)[B" } : Jvm.MethodName) jdk_52_method_24_code (2 : Nat) (Option.some (Jvm.ClassFile.FieldType.array Jvm.ClassFile.FieldType.byte))).before args0 about1 = true := code_word (m := ⟨11, 10⟩) (meth := k11m10) (c := k11c10) (by decide +kernel) rfl rfl rfl (by decide +kernel)
set_option maxRecDepth 65536 in
theorem w_c31 : (Jvm.Cond.code ({ cls := "java/lang/StringUTF16", name := "charAt", desc := "([BI)C" } : Jvm.MethodName) jdk_52_method_83_code (2 : Nat) (Option.some Jvm.ClassFile.FieldType.char)).before args0 about1 = true := code_word (m := ⟨11, 11⟩) (meth := k11m11) (c := k11c11) (by decide +kernel) rfl rfl rfl (by decide +kernel)
set_option maxRecDepth 65536 in
theorem w_c32 : (Jvm.Cond.code ({ cls := "java/lang/StringUTF16", name := "checkIndex", desc := "(I[B)V" } : Jvm.MethodName) jdk_52_method_91_code (2 : Nat) (Option.none : Option Jvm.ClassFile.FieldType)).before args0 about1 = true := code_word (m := ⟨11, 12⟩) (meth := k11m12) (c := k11c12) (by decide +kernel) rfl rfl rfl (by decide +kernel)
set_option maxRecDepth 65536 in
theorem w_c33 : (Jvm.Cond.code ({ cls := "java/lang/StringUTF16", name := "length", desc := "([B)I" } : Jvm.MethodName) jdk_52_method_6_code (1 : Nat) (Option.some Jvm.ClassFile.FieldType.int)).before args0 about1 = true := code_word (m := ⟨11, 5⟩) (meth := k11m5) (c := k11c5) (by decide +kernel) rfl rfl rfl (by decide +kernel)
set_option maxRecDepth 65536 in
theorem w_c34 : (Jvm.Cond.code ({ cls := "java/util/Optional", name := "<init>", desc := "(Ljava/lang/Object;)V" } : Jvm.MethodName) jdk_32_method_2_code (2 : Nat) (Option.none : Option Jvm.ClassFile.FieldType)).before args0 about1 = true := code_word (m := ⟨10, 1⟩) (meth := k10m1) (c := k10c1) (by decide +kernel) rfl rfl rfl (by decide +kernel)
def codes1 : List Jvm.Cond := [Jvm.Cond.code x code maxLocals ret, Jvm.Cond.code ({ cls := "com/example/davka/davka/AccountingCodeOfPinLaw", name := "draw", desc := "(I)C" } : Jvm.MethodName) method_3_code (1 : Nat) (Option.some Jvm.ClassFile.FieldType.char), Jvm.Cond.code ({ cls := "java/lang/String", name := "<init>", desc := "([C)V" } : Jvm.MethodName) jdk_42_method_3_code (2 : Nat) (Option.none : Option Jvm.ClassFile.FieldType), Jvm.Cond.code ({ cls := "java/lang/String", name := "<init>", desc := "([CIILjava/lang/Void;)V" } : Jvm.MethodName) jdk_42_method_149_code (6 : Nat) (Option.none : Option Jvm.ClassFile.FieldType), Jvm.Cond.code ({ cls := "java/lang/Object", name := "<init>", desc := "()V" } : Jvm.MethodName) object_method_1_code (1 : Nat) (Option.none : Option Jvm.ClassFile.FieldType), Jvm.Cond.code ({ cls := "com/example/davka/davka/AccountingCode", name := "of", desc := "(Ljava/lang/String;)Ljava/util/Optional;" } : Jvm.MethodName) prog_3_method_4_code (1 : Nat) (Option.some (Jvm.ClassFile.FieldType.object "java/util/Optional")), Jvm.Cond.code ({ cls := "java/lang/String", name := "length", desc := "()I" } : Jvm.MethodName) jdk_42_method_54_code (1 : Nat) (Option.some Jvm.ClassFile.FieldType.int), Jvm.Cond.code ({ cls := "java/lang/String", name := "coder", desc := "()B" } : Jvm.MethodName) jdk_42_method_152_code (1 : Nat) (Option.some Jvm.ClassFile.FieldType.byte), Jvm.Cond.code ({ cls := "java/util/Optional", name := "empty", desc := "()Ljava/util/Optional;" } : Jvm.MethodName) jdk_32_method_1_code (1 : Nat) (Option.some (Jvm.ClassFile.FieldType.object "java/util/Optional")), Jvm.Cond.code ({ cls := "java/util/Optional", name := "orElse", desc := "(Ljava/lang/Object;)Ljava/lang/Object;" } : Jvm.MethodName) jdk_32_method_15_code (2 : Nat) (Option.some (Jvm.ClassFile.FieldType.object "java/lang/Object")), Jvm.Cond.code ({ cls := "com/example/davka/davka/AccountingCodeOfPinLaw", name := "expected", desc := "(IC)Lcom/example/davka/davka/AccountingCode;" } : Jvm.MethodName) method_4_code (2 : Nat) (Option.some (Jvm.ClassFile.FieldType.object "com/example/davka/davka/AccountingCode")), Jvm.Cond.code ({ cls := "java/lang/StringUTF16", name := "compress", desc := "([CII)[B" } : Jvm.MethodName) jdk_52_method_16_code (6 : Nat) (Option.some (Jvm.ClassFile.FieldType.array Jvm.ClassFile.FieldType.byte)), Jvm.Cond.code ({ cls := "java/lang/StringUTF16", name := "compress", desc := "([CI[BII)I" } : Jvm.MethodName) jdk_52_method_21_code (7 : Nat) (Option.some Jvm.ClassFile.FieldType.int), Jvm.Cond.code ({ cls := "java/lang/StringUTF16", name := "coderFromArrayLen", desc := "([BI)B" } : Jvm.MethodName) jdk_52_method_15_code (2 : Nat) (Option.some Jvm.ClassFile.FieldType.byte), Jvm.Cond.code ({ cls := "java/lang/String", name := "valueOf", desc := "(C)Ljava/lang/String;" } : Jvm.MethodName) jdk_42_method_139_code (1 : Nat) (Option.some (Jvm.ClassFile.FieldType.object "java/lang/String")), Jvm.Cond.code ({ cls := "java/lang/StringLatin1", name := "canEncode", desc := "(C)Z" } : Jvm.MethodName) jdk_43_method_3_code (1 : Nat) (Option.some Jvm.ClassFile.FieldType.boolean), Jvm.Cond.code ({ cls := "java/lang/StringLatin1", name := "toBytes", desc := "(C)[B" } : Jvm.MethodName) jdk_43_method_46_code (1 : Nat) (Option.some (Jvm.ClassFile.FieldType.array Jvm.ClassFile.FieldType.byte)), Jvm.Cond.code ({ cls := "java/lang/String", name := "<init>", desc := "([BB)V" } : Jvm.MethodName) jdk_42_method_151_code (3 : Nat) (Option.none : Option Jvm.ClassFile.FieldType), Jvm.Cond.code ({ cls := "java/lang/String", name := "charAt", desc := "(I)C" } : Jvm.MethodName) jdk_42_method_56_code (2 : Nat) (Option.some Jvm.ClassFile.FieldType.char), Jvm.Cond.code ({ cls := "java/lang/String", name := "isLatin1", desc := "()Z" } : Jvm.MethodName) jdk_42_method_154_code (1 : Nat) (Option.some Jvm.ClassFile.FieldType.boolean), Jvm.Cond.code ({ cls := "java/lang/StringLatin1", name := "charAt", desc := "([BI)C" } : Jvm.MethodName) jdk_43_method_2_code (2 : Nat) (Option.some Jvm.ClassFile.FieldType.char), Jvm.Cond.code ({ cls := "java/lang/String", name := "checkIndex", desc := "(II)V" } : Jvm.MethodName) jdk_42_method_155_code (2 : Nat) (Option.none : Option Jvm.ClassFile.FieldType), Jvm.Cond.code ({ cls := "jdk/internal/util/Preconditions", name := "checkIndex", desc := "(IILjava/util/function/BiFunction;)I" } : Jvm.MethodName) jdk_41_method_11_code (3 : Nat) (Option.some Jvm.ClassFile.FieldType.int), Jvm.Cond.code ({ cls := "com/example/davka/davka/AccountingCode", name := "of", desc := "(C)Lcom/example/davka/davka/AccountingCode;" } : Jvm.MethodName) prog_3_method_5_code (5 : Nat) (Option.some (Jvm.ClassFile.FieldType.object "com/example/davka/davka/AccountingCode")), Jvm.Cond.code ({ cls := "java/util/Optional", name := "ofNullable", desc := "(Ljava/lang/Object;)Ljava/util/Optional;" } : Jvm.MethodName) jdk_32_method_4_code (1 : Nat) (Option.some (Jvm.ClassFile.FieldType.object "java/util/Optional")), Jvm.Cond.code ({ cls := "java/lang/StringUTF16", name := "toBytes", desc := "([CII)[B" } : Jvm.MethodName) jdk_52_method_14_code (5 : Nat) (Option.some (Jvm.ClassFile.FieldType.array Jvm.ClassFile.FieldType.byte)), Jvm.Cond.code ({ cls := "java/lang/StringUTF16", name := "newBytesFor", desc := "(I)[B" } : Jvm.MethodName) jdk_52_method_2_code (1 : Nat) (Option.some (Jvm.ClassFile.FieldType.array Jvm.ClassFile.FieldType.byte)), Jvm.Cond.code ({ cls := "java/lang/StringUTF16", name := "newBytesLength", desc := "(I)I" } : Jvm.MethodName) jdk_52_method_3_code (1 : Nat) (Option.some Jvm.ClassFile.FieldType.int), Jvm.Cond.code ({ cls := "java/lang/StringUTF16", name := "putChar", desc := "([BII)V" } : Jvm.MethodName) jdk_52_method_4_code (3 : Nat) (Option.none : Option Jvm.ClassFile.FieldType), Jvm.Cond.code ({ cls := "java/lang/StringUTF16", name := "getChar", desc := "([BI)C" } : Jvm.MethodName) jdk_52_method_5_code (2 : Nat) (Option.some Jvm.ClassFile.FieldType.char), Jvm.Cond.code ({ cls := "java/lang/StringUTF16", name := "toBytes", desc := "(C)[B" } : Jvm.MethodName) jdk_52_method_24_code (2 : Nat) (Option.some (Jvm.ClassFile.FieldType.array Jvm.ClassFile.FieldType.byte)), Jvm.Cond.code ({ cls := "java/lang/StringUTF16", name := "charAt", desc := "([BI)C" } : Jvm.MethodName) jdk_52_method_83_code (2 : Nat) (Option.some Jvm.ClassFile.FieldType.char), Jvm.Cond.code ({ cls := "java/lang/StringUTF16", name := "checkIndex", desc := "(I[B)V" } : Jvm.MethodName) jdk_52_method_91_code (2 : Nat) (Option.none : Option Jvm.ClassFile.FieldType), Jvm.Cond.code ({ cls := "java/lang/StringUTF16", name := "length", desc := "([B)I" } : Jvm.MethodName) jdk_52_method_6_code (1 : Nat) (Option.some Jvm.ClassFile.FieldType.int), Jvm.Cond.code ({ cls := "java/util/Optional", name := "<init>", desc := "(Ljava/lang/Object;)V" } : Jvm.MethodName) jdk_32_method_2_code (2 : Nat) (Option.none : Option Jvm.ClassFile.FieldType)]
set_option maxRecDepth 65536 in
theorem codes_eq : words1.filter isCode = codes1 := rfl
theorem w_codes : ∀ c ∈ words1.filter isCode, c.before args0 about1 = true := by
  rw [codes_eq]
  intro c hc
  simp only [codes1, List.mem_cons, List.not_mem_nil, or_false] at hc
  rcases hc with rfl | rfl | rfl | rfl | rfl | rfl | rfl | rfl | rfl | rfl | rfl | rfl | rfl | rfl | rfl | rfl | rfl | rfl | rfl | rfl | rfl | rfl | rfl | rfl | rfl | rfl | rfl | rfl | rfl | rfl | rfl | rfl | rfl | rfl | rfl
  · exact w_c0
  · exact w_c1
  · exact w_c2
  · exact w_c3
  · exact w_c4
  · exact w_c5
  · exact w_c6
  · exact w_c7
  · exact w_c8
  · exact w_c9
  · exact w_c10
  · exact w_c11
  · exact w_c12
  · exact w_c13
  · exact w_c14
  · exact w_c15
  · exact w_c16
  · exact w_c17
  · exact w_c18
  · exact w_c19
  · exact w_c20
  · exact w_c21
  · exact w_c22
  · exact w_c23
  · exact w_c24
  · exact w_c25
  · exact w_c26
  · exact w_c27
  · exact w_c28
  · exact w_c29
  · exact w_c30
  · exact w_c31
  · exact w_c32
  · exact w_c33
  · exact w_c34
set_option maxRecDepth 65536 in
theorem w_t1 : (words1.take 24).all (fun c => isCode c || c.before args0 about1) = true := by decide +kernel
set_option maxRecDepth 65536 in
theorem w_t2 : ((words1.drop 24).take 24).all (fun c => isCode c || c.before args0 about1) = true := by decide +kernel
set_option maxRecDepth 65536 in
theorem w_t3 : (((words1.drop 24).drop 24).take 24).all (fun c => isCode c || c.before args0 about1) = true := by decide +kernel
set_option maxRecDepth 65536 in
theorem w_t4 : ((((words1.drop 24).drop 24).drop 24).take 24).all (fun c => isCode c || c.before args0 about1) = true := by decide +kernel
set_option maxRecDepth 65536 in
theorem w_t5 : (((((words1.drop 24).drop 24).drop 24).drop 24).take 24).all (fun c => isCode c || c.before args0 about1) = true := by decide +kernel
set_option maxRecDepth 65536 in
theorem w_t6 : ((((((words1.drop 24).drop 24).drop 24).drop 24).drop 24).take 24).all (fun c => isCode c || c.before args0 about1) = true := by decide +kernel
set_option maxRecDepth 65536 in
theorem w_t7 : ((((((words1.drop 24).drop 24).drop 24).drop 24).drop 24).drop 24).all (fun c => isCode c || c.before args0 about1) = true := by decide +kernel
theorem w_tables : (allAtoms (Jvm.Cond.code x code maxLocals ret :: tables_1)).before args0 about1 = true := by
  rw [allAtoms_all]
  show words1.all (fun c => c.before args0 about1) = true
  refine all_split ?_ w_codes
  rw [← List.take_append_drop 24 words1, List.all_append, w_t1, ← List.take_append_drop 24 (words1.drop 24), List.all_append, w_t2, ← List.take_append_drop 24 ((words1.drop 24).drop 24), List.all_append, w_t3, ← List.take_append_drop 24 (((words1.drop 24).drop 24).drop 24), List.all_append, w_t4, ← List.take_append_drop 24 ((((words1.drop 24).drop 24).drop 24).drop 24), List.all_append, w_t5, ← List.take_append_drop 24 (((((words1.drop 24).drop 24).drop 24).drop 24).drop 24), List.all_append, w_t6, w_t7]
  rfl
set_option maxRecDepth 65536 in
theorem w_rest : rest_1_c.before args0 about1 = true := by decide +kernel
set_option maxRecDepth 65536 in
theorem w_case : (Jvm.Cond.and given_1 narrow_1).before args0 about1 = true := by decide +kernel
set_option maxRecDepth 65536 in
theorem w_consts : constsHeld consts_1 about1 := Jvm.Lit.constsHeldB_iff.mp (by decide +kernel)
theorem w_applies : (headSpec (Jvm.Cond.code x code maxLocals ret :: tables_1) room_1).applies x e0.platform about1 = true :=
  (Spec.applies_iff w_frames).mpr ⟨w_running, w_runnable, w_alone, w_named, w_hears, w_ripe, w_room, w_tables⟩
theorem atStart : AtStart classFile x code maxLocals ret World_1 tables_1 room_1 Calls_1 rest_1 Pre_1 launch0 p0 e0 about1 theMethod args0 below0 :=
  ⟨lists_1, trivial, launch0.admits_env _ _ _, launch0.least_env, fairChoices_fair.cas, fairChoices_fair.clock, w_frames, w_args, w_heap, w_applies, ⟨w_consts, trivial⟩, w_rest, w_case⟩
end start1
theorem witness_1 : WitnessClaimed_1 := ⟨start1.p0, start1.e0, start1.about1, start1.theMethod, start1.args0, start1.below0, start1.atStart⟩
end Jvm.Pilot.@@N@@
