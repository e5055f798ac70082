import JvmDerived
import JvmDerived.Pilot.@@N@@Statement
import JvmDerived.Pilot.@@N@@Code
set_option linter.unusedVariables false
set_option linter.unusedSimpArgs false
namespace Jvm.Pilot.@@N@@
open Jvm Jvm.ClassFile Sem Op Lib Jvm.Free Jvm.Stand Jvm.LawKit Jvm.RoadKit Bundle Jvm.Pilot.@@N@@.Jvm.D
section Own
variable {p : Program} {l : Launch} {e : Env} {R : Room} {s : State} {m : MethodId} {args : Array Value} {below : List Frame} {meth : Method} {c : Code} {T : State} {locs : List Loc} {cells slots : Nat} {Z : State} {a0 : Array Value} {h h' : Heap}
/-- the walk's goal: from S the method comes back with what Q says -/
def own_G (p : Program) (e : Env) (s : State) (below : List Frame) (Q : Option Value → Heap → List Loc → Prop) (kc ks : Nat) (S : State) : Prop :=
  ∃ s₂ o, Steps p.tables e below S s₂ ∧ s₂.status = .running ∧ Ended s₂ below o ∧ ∃ v L, o = .returned v ∧ Q v s₂.heap L ∧ FrameEnd s o s₂ L kc ks
theorem own_go {Q : Option Value → Heap → List Loc → Prop} {kc ks : Nat} {S S' : State} (k : ∀ t, Steps p.tables e below S' t → Steps p.tables e below S t) (g : own_G p e s below Q kc ks S') : own_G p e s below Q kc ks S := by
  obtain ⟨s2, o, h1, h2⟩ := g
  exact ⟨s2, o, k _ h1, h2⟩
theorem own_retI {Q : Option Value → Heap → List Loc → Prop} {kc ks : Nat} (X : Stand p l e R s m args below meth c T locs cells slots) (hx : p.tables.exec = Jvm.exec) (hlk : meth.locks = false) (hret : meth.sig.returnType = some .int) {pc : Nat} {Ls : Array Slot} {z : Int32} {rest : List Value} (hd : decode c.code pc = .ok (.ireturn, 1)) (hc : cells ≤ kc) (hs : slots ≤ ks) (hQ : Q (some (.int z)) T.heap locs) :
    own_G p e s below Q kc ks (T.setTop (mkF m pc Ls (.int z :: rest))) := by
  obtain ⟨fs, hr, hrun, hended, hW, hsame⟩ := X.leave (v := some (.int z)) (fun h => by rw [hret] at h; cases h) hlk
  exact ⟨_, _, retOut X hx hret rfl (Or.inl ⟨rfl, Or.inl rfl, z, rfl⟩) hd hr, hrun, hended, _, _, rfl, hQ, ⟨_, rfl⟩, hW, hsame.mono hc hs⟩
theorem own_retN {Q : Option Value → Heap → List Loc → Prop} {kc ks : Nat} (X : Stand p l e R s m args below meth c T locs cells slots) (hx : p.tables.exec = Jvm.exec) (hlk : meth.locks = false) {t : FieldType} (hret : meth.sig.returnType = some t) (ht : t = .boolean ∨ t = .byte ∨ t = .char ∨ t = .short) {pc : Nat} {Ls : Array Slot} {z : Int32} {rest : List Value} (hd : decode c.code pc = .ok (.ireturn, 1)) (hc : cells ≤ kc) (hs : slots ≤ ks) (hQ : Q (some (.int (nar t z))) T.heap locs) :
    own_G p e s below Q kc ks (T.setTop (mkF m pc Ls (.int z :: rest))) := by
  obtain ⟨fs, hr, hrun, hended, hW, hsame⟩ := X.leave (v := some (.int (nar t z))) (fun h => by rw [hret] at h; cases h) hlk
  exact ⟨_, _, retN X hx hret ht hd hr, hrun, hended, _, _, rfl, hQ, ⟨_, rfl⟩, hW, hsame.mono hc hs⟩
theorem own_retA {Q : Option Value → Heap → List Loc → Prop} {kc ks : Nat} (X : Stand p l e R s m args below meth c T locs cells slots) (hx : p.tables.exec = Jvm.exec) (hlk : meth.locks = false) {t : FieldType} (hret : meth.sig.returnType = some t) (ht : t.isReference = true) {pc : Nat} {Ls : Array Slot} {w : Value} (hv : w.isRef = true) {rest : List Value} (hd : decode c.code pc = .ok (.areturn, 1)) (hc : cells ≤ kc) (hs : slots ≤ ks) (hQ : Q (some w) T.heap locs) :
    own_G p e s below Q kc ks (T.setTop (mkF m pc Ls (w :: rest))) := by
  obtain ⟨fs, hr, hrun, hended, hW, hsame⟩ := X.leave (v := some w) (fun h => by rw [hret] at h; cases h) hlk
  have hn : narrow t w = w := by rcases ref_cases hv with rfl | ⟨z, rfl⟩ <;> cases t <;> rfl
  exact ⟨_, _, retOut X hx hret hn (Or.inr (Or.inr (Or.inr (Or.inr ⟨rfl, ht, hv⟩)))) hd hr, hrun, hended, _, _, rfl, hQ, ⟨_, rfl⟩, hW, hsame.mono hc hs⟩
theorem own_retJ {Q : Option Value → Heap → List Loc → Prop} {kc ks : Nat} (X : Stand p l e R s m args below meth c T locs cells slots) (hx : p.tables.exec = Jvm.exec) (hlk : meth.locks = false) (hret : meth.sig.returnType = some .long) {pc : Nat} {Ls : Array Slot} {z : Int64} {rest : List Value} (hd : decode c.code pc = .ok (.lreturn, 1)) (hc : cells ≤ kc) (hs : slots ≤ ks) (hQ : Q (some (.long z)) T.heap locs) :
    own_G p e s below Q kc ks (T.setTop (mkF m pc Ls (.long z :: rest))) := by
  obtain ⟨fs, hr, hrun, hended, hW, hsame⟩ := X.leave (v := some (.long z)) (fun h => by rw [hret] at h; cases h) hlk
  exact ⟨_, _, retOut X hx hret rfl (Or.inr (Or.inl ⟨rfl, rfl, z, rfl⟩)) hd hr, hrun, hended, _, _, rfl, hQ, ⟨_, rfl⟩, hW, hsame.mono hc hs⟩
theorem own_retV {Q : Option Value → Heap → List Loc → Prop} {kc ks : Nat} (X : Stand p l e R s m args below meth c T locs cells slots) (hx : p.tables.exec = Jvm.exec) (hlk : meth.locks = false) (hret : meth.sig.returnType = none) {pc : Nat} {Ls : Array Slot} (hd : decode c.code pc = .ok (.return_, 1)) (hc : cells ≤ kc) (hs : slots ≤ ks) (hQ : Q none T.heap locs) :
    own_G p e s below Q kc ks (T.setTop (mkF m pc Ls [])) := by
  obtain ⟨fs, hr, hrun, hended, hW, hsame⟩ := X.leave (v := none) (fun _ => rfl) hlk
  exact ⟨_, _, X.returnOut hx hret hd hr, hrun, hended, _, _, rfl, hQ, ⟨_, rfl⟩, hW, hsame.mono hc hs⟩
theorem own_osz {n0 : Nat} (O : Old Z n0 h) : n0 ≤ h.size := O.1 ▸ O.2.1
end Own
section Own2
variable {Z : State} {h h' : Heap} {a b : Addr} {k : ClassId} {ty : FieldType} {vs : List Value} {sl : Nat} {v w : Value} {ws : List Addr} {c : Cell} {j : Int32}
/-- an array and what it holds -/
def own_Ar (Z : State) (h : Heap) (a : Addr) (k : ClassId) (ty : FieldType) (vs : List Value) : Prop := ∃ c : Cell, Arr Z h a c ty ∧ c.cls = k ∧ c.slots = vs.toArray ∧ vs.length < 2 ^ 31
theorem own_Ar.lt (F : own_Ar Z h a k ty vs) : a < h.size := by obtain ⟨c, A, -⟩ := F; exact A.lt
theorem own_Ar.ext (F : own_Ar Z h a k ty vs) (E : Ext h h') : own_Ar Z h' a k ty vs := by obtain ⟨c, A, r⟩ := F; exact ⟨c, A.ext E, r⟩
theorem own_Ar.other (F : own_Ar Z h b k ty vs) (W : Wr h h' a sl v) (q : b ≠ a) : own_Ar Z h' b k ty vs := by obtain ⟨c, A, r⟩ := F; exact ⟨c, A.other W q, r⟩
theorem own_Ar.keep (F : own_Ar Z h a k ty vs) (K : Keep h h' ws) (q : a ∉ ws) : own_Ar Z h' a k ty vs := by obtain ⟨c, A, r⟩ := F; exact ⟨c, ⟨K.2.1 a c A.1 q, A.2⟩, r⟩
theorem own_Ar.at (F : own_Ar Z h a k ty vs) (hj : ¬ j < 0) (hv : vs[j.toNatClampNeg]? = some v) : ∃ c : Cell, Arr Z h a c ty ∧ c.cls = k ∧ c.slots = vs.toArray ∧ ¬ (j < 0 ∨ c.slots.size ≤ j.toNatClampNeg) ∧ c.slots[j.toNatClampNeg]? = some v := by
  obtain ⟨c, A, q, e, r⟩ := F
  have hl := (List.getElem?_eq_some_iff.mp hv).1
  refine ⟨c, A, q, e, ?_, ?_⟩
  · rintro (q | q)
    · exact hj q
    · rw [e] at q; simp at q; omega
  · rw [e]; simpa using hv
theorem own_Ar.set (A : Arr Z h a c ty) (q : c.cls = k) (e : c.slots = vs.toArray) (hl : vs.length < 2 ^ 31) {i : Nat} (W : Wr h h' a i v) : own_Ar Z h' a k ty (vs.set i v) := by
  refine ⟨c.setSlot i v, A.same W, q, ?_, by simpa using hl⟩
  show (c.slots.setIfInBounds i v) = _
  rw [e]; simp
theorem own_Ar.small (F : own_Ar Z h a k ty vs) : vs.length < 2 ^ 31 := F.choose_spec.2.2.2
theorem own_Ar.len (F : own_Ar Z h a k ty vs) : ∃ c : Cell, Arr Z h a c ty ∧ c.slots.size.toInt32 = Int32.ofNat vs.length := by
  obtain ⟨c, A, q, e, r⟩ := F
  exact ⟨c, A, by rw [e]; simp⟩
theorem own_Ar.new {n : Int32} (A : Arr Z h a (newA k ty n) ty) (q : ¬ n < 0) : own_Ar Z h a k ty (List.replicate n.toNatClampNeg (defaultValue ty)) :=
  ⟨_, A, rfl, by simp [newA], by rw [List.length_replicate]; exact (back32 q).2⟩
theorem own_nat {n : Nat} (hn : n < 2 ^ 31) : (Int32.ofNat n).toInt = n := Int32.toInt_ofNat_of_lt hn
theorem own_clamp {n : Nat} (hn : n < 2 ^ 31) : (Int32.ofNat n).toNatClampNeg = n := by
  show (Int32.ofNat n).toInt.toNat = n
  rw [own_nat hn]; simp
theorem own_pos {n : Nat} (hn : n < 2 ^ 31) : ¬ Int32.ofNat n < 0 := by
  rw [Int32.lt_iff_toInt_lt, own_nat hn]; simp
theorem own_lt {a b : Nat} (ha : a < 2 ^ 31) (hb : b < 2 ^ 31) : Int32.ofNat a < Int32.ofNat b ↔ a < b := by
  rw [Int32.lt_iff_toInt_lt, own_nat ha, own_nat hb]; omega
theorem own_succ (a : Nat) : Int32.ofNat a + 1 = Int32.ofNat (a + 1) := by rw [Int32.ofNat_add]; rfl
theorem own_eqN {a b : Nat} (ha : a < 2 ^ 31) (hb : b < 2 ^ 31) : Int32.ofNat a = Int32.ofNat b ↔ a = b := by
  rw [← Int32.toInt_inj, own_nat ha, own_nat hb]; omega
theorem own_eqI {args : Array Value} {first s : State} {o : Option Outcome} {idx : List Nat} {a : Term} {n : Int32} (h : (Cond.eq a (.int n)).value args first o s idx = some true) : a.eval args first o idx s = some (.int n) := by
  simp only [Cond.value, Term.eval] at h
  cases ha : a.eval args first o idx s with
  | none => simp [ha] at h
  | some x => cases x <;> simp [ha] at h ⊢; exact h
end Own2
section Own3
variable {p : Program} {l : Launch} {e : Env} {R : Room} {s : State} {m : MethodId} {args : Array Value} {below : List Frame} {meth : Method} {c : Code} {T : State} {locs : List Loc} {cells slots : Nat} {Z : State} {a0 : Array Value} {h : Heap} {a b : Addr} {k k' : ClassId} {ty : FieldType} {vs vd : List Value} {d : Value}
theorem own_Ar.arv (F : own_Ar Z h a k ty vs) (hf : ∀ v ∈ vs, fits ty v = true) (d : Value) : Arv Z h a k ty (Int32.ofNat vs.length) vs d := by
  obtain ⟨c, A, q, e, hl⟩ := F
  refine ⟨c, A, q, by rw [e, own_clamp hl]; simp, own_pos hl, fun i hi => ?_, fun i hi => ?_⟩
  · rw [e] at hi ⊢
    have hi' : i < vs.length := by simpa using hi
    simp [List.getD, hi']
  · rw [e] at hi
    have hi' : i < vs.length := by simpa using hi
    have : vs.getD i d = vs[i] := by simp [List.getD, hi']
    rw [this]; exact hf _ (List.getElem_mem hi')
theorem own_of_arv {z : Int32} (F : Arv Z h a k ty z vs d) (hz : z.toNatClampNeg = vs.length) : own_Ar Z h a k ty vs := by
  obtain ⟨c, A, q, S, nz, H, G⟩ := F
  refine ⟨c, A, q, ?_, by rw [← hz]; exact (back32 nz).2⟩
  apply Array.ext
  · rw [S, hz]; simp
  · intro i h1 h2
    have h3 := H i h1
    have h4 : i < vs.length := by simpa using h2
    rw [Array.getElem?_eq_getElem h1] at h3
    have : vs.getD i d = vs[i] := by simp [List.getD, h4]
    rw [this] at h3
    simpa using Option.some.inj h3
theorem own_us (vs : List Value) (dv : Value) (sp n : Nat) (hl : sp + n ≤ vs.length) : ((List.range n).map fun i => vs.getD (sp + i) dv) = (vs.drop sp).take n := by
  apply List.ext_getElem
  · simp; omega
  · intro i h1 h2
    simp at h1
    have : sp + i < vs.length := by omega
    simp [List.getD, this]
/-- System.arraycopy between two arrays of one primitive kind -/
theorem own_cp (X : Stand p l e R s m args below meth c T locs cells slots) (hx : p.tables.exec = Jvm.exec) (hZ : Z.Warmed39 s.vm) {own : String} {index : Nat} (hown : s.vm.findClass own = some m.cls)
    (w1 : (Cond.methodLink own index Jvm.Stand.acN).before a0 Z = true) (w2 : (Cond.native Jvm.Stand.acN).before a0 Z = true) (w3 : (Cond.static Jvm.Stand.acN).before a0 Z = true) (w4 : (Cond.initialized "java/lang/System").before a0 Z = true) (eT : T.heap = h)
    {sp dp nn : Int32} (A : own_Ar Z h a k ty vs) (B : own_Ar Z h b k' ty vd) (hty : refKind ty = false) (fa : ∀ v ∈ vs, fits ty v = true) (fb : ∀ v ∈ vd, fits ty v = true)
    (h1 : ¬ sp < 0) (h2 : ¬ dp < 0) (h3 : ¬ nn < 0) (h4 : sp.toNatClampNeg + nn.toNatClampNeg ≤ vs.length) (h5 : dp.toNatClampNeg + nn.toNatClampNeg ≤ vd.length) {n0 : Nat} (N : Fr n0 locs) (ge : n0 ≤ b)
    {g : JFrame} (hg : g.method = m) (hsize : g.locals.size = c.maxLocals) {rest : List Value} (hs : g.stack = .int nn :: .int dp :: .ref b :: .int sp :: .ref a :: rest) (hd : decode c.code g.pc = .ok (.invokestatic index, 3))
    (hf : 1 ≤ R.frames) {W : Nat} (hW : 2 * g.monitorRoom + (rest.map fun v => v.category).sum ≤ W) (hlo : W + (nativeFrameWords "java/lang/System" "arraycopy" 5 + 11) ≤ R.locals) :
    ∃ T' h' L, Stand p l e R s m args below meth c T' L cells slots ∧ T'.heap = h' ∧ Fr n0 L ∧ Keep h h' [b] ∧ own_Ar Z h' b k' ty (vd.take dp.toNatClampNeg ++ (vs.drop sp.toNatClampNeg).take nn.toNatClampNeg ++ vd.drop (dp.toNatClampNeg + nn.toNatClampNeg)) ∧
      ∀ target, Steps p.tables e below (T'.setTop { g with pc := g.pc + 3, stack := rest }) target → Steps p.tables e below (T.setTop g) target := by
  have ha := A.small
  have hb := B.small
  obtain ⟨T', h', L, X', e', N', K', V', st⟩ := cpA X hx hZ hown w1 w2 w3 w4 eT (A.arv fa .null) (B.arv fb .null) (Or.inl ⟨rfl, hty⟩) h1 h2 h3 (by rw [own_clamp ha]; exact h4) (by rw [own_clamp hb]; exact h5) (us := (List.range nn.toNatClampNeg).map fun i => vs.getD (sp.toNatClampNeg + i) .null) rfl h5 N ge hg hsize hs hd hf hW hlo
  refine ⟨T', h', L, X', e', N', K', ?_, st⟩
  rw [own_us _ _ _ _ h4] at V'
  exact own_of_arv V' (by rw [own_clamp hb]; simp; omega)
theorem own_selfsel {y : MethodName} {n : Nat} (hZ : Z.Warmed39 s.vm) (wi : (Cond.instantiable y.cls n).before a0 Z = true) (wp : (Cond.privateMethod y).before a0 Z = true) (wm : (Cond.instanceMethod y).before a0 Z = true) (hy : y.cls ≠ "java/lang/invoke/MethodHandle" ∧ y.cls ≠ "java/lang/invoke/VarHandle") : (Cond.selects y.cls y y).before args s = true := by
  obtain ⟨c2, k2, i1, i2, i3, i4⟩ := Cond.instantiable_spec (mvT hZ wi (args := args))
  exact selects_self_of_private i1 i2 (by have q := i4.1; simp only [Bool.or_eq_false_iff] at q; exact q.1) (Cond.privateMethod_at (mvP hZ wp (args := #[]))) (mvT hZ wm) hy
theorem own_selfsel2 {y : MethodName} {C : String} (hZ : Z.Warmed39 s.vm) (ws : (Cond.selects C y y).before a0 Z = true) (wp : (Cond.privateMethod y).before a0 Z = true) (wm : (Cond.instanceMethod y).before a0 Z = true) (hy : y.cls ≠ "java/lang/invoke/MethodHandle" ∧ y.cls ≠ "java/lang/invoke/VarHandle") : (Cond.selects y.cls y y).before args s = true := by
  have hm := mvT hZ wm (args := args)
  obtain ⟨mk, methM, hnamed, -⟩ := Cond.instanceMethod_spec hm
  obtain ⟨kP, hk, hki⟩ := notFace_of_selects (mvT hZ ws (args := args)) mk hnamed
  exact selects_self_of_private (findClass_of_methodNamed hnamed) hk hki (Cond.privateMethod_at (mvP hZ wp (args := #[]))) hm hy
theorem own_same {y y2 : MethodName} {C : String} (ws : (Cond.selects C y2 y2).before a0 Z = true) (wm2 : (Cond.instanceMethod y2).before a0 Z = true) (wm : (Cond.instanceMethod y).before a0 Z = true) (hc : y2.cls = y.cls) (hy : y.cls ≠ "java/lang/invoke/MethodHandle" ∧ y.cls ≠ "java/lang/invoke/VarHandle") : (Cond.sameMethod y.cls y.cls y.name y.desc).before a0 Z = true := by
  obtain ⟨mk2, -, hnamed2, -⟩ := Cond.instanceMethod_spec wm2
  obtain ⟨mk, -, hnamed, -⟩ := Cond.instanceMethod_spec wm
  obtain ⟨kP, hk, hki⟩ := notFace_of_selects ws mk2 hnamed2
  have hcls2 := findClass_of_methodNamed hnamed2
  have hcls := findClass_of_methodNamed hnamed
  rw [hc] at hcls2
  have e : mk2.cls = mk.cls := Option.some.inj (hcls2.symm.trans hcls)
  rw [e] at hk
  simp only [Cond.before, Cond.holds, Cond.value, hcls, State.methodFound?_of_named hnamed hy, hnamed, hk]
  simp [hki]
theorem own_nf {y y2 : MethodName} {C : String} (ws : (Cond.selects C y2 y2).before args s = true) (hc : y2.cls = y.cls) : NotFace s y := fun r0 h0 => by
  obtain ⟨c2, r2, m2, q1, q2, q3, q4, kP, hkP, hkPi⟩ := Cond.selects_spec ws
  have e1 := findClass_of_methodNamed q3
  rw [hc] at e1
  have e : m2.cls = r0.cls := Option.some.inj (e1.symm.trans (findClass_of_methodNamed h0))
  exact ⟨kP, e ▸ hkP, hkPi⟩
end Own3
/-- a char as two bytes (little end first), and back -/
def own_b0 (c : Int32) : Int32 := ((c >>> ((0 : Int32) &&& 31)).toInt8.toInt32).toInt8.toInt32
def own_b1 (c : Int32) : Int32 := ((c >>> ((8 : Int32) &&& 31)).toInt8.toInt32).toInt8.toInt32
def own_lb (c : Int32) : Int32 := (c.toInt8.toInt32).toInt8.toInt32
def own_gc (x y : Int32) : Int32 := nar .char ((((x &&& (255 : Int32)) <<< ((0 : Int32) &&& 31)) ||| ((y &&& (255 : Int32)) <<< ((8 : Int32) &&& 31))).toUInt32.toUInt16.toUInt32.toInt32)
def own_l1 (x : Int32) : Int32 := nar .char ((x &&& (255 : Int32)).toUInt32.toUInt16.toUInt32.toInt32)
theorem own_i2c {x : Int32} (h0 : 0 ≤ x.toInt) (h1 : x.toInt < 65536) : x.toUInt32.toUInt16.toUInt32.toInt32 = x := by
  obtain ⟨a, b, c⟩ := c_i2c x
  exact Int32.toInt_inj.mp (by omega)
theorem own_l1c {c : Int32} (h0 : 0 ≤ c.toInt) (h : ¬ ((255 : Int32) < c)) : own_l1 (own_lb c) = c := by
  have e : (255 : Int32).toInt = 255 := by decide
  rw [Int32.lt_iff_toInt_lt, e] at h
  obtain ⟨a1, a2, a3⟩ := c_i2b c
  obtain ⟨b1, b2, b3⟩ := c_i2b (c.toInt8.toInt32)
  have m := c_mask (own_lb c) 255 8 (by decide) (by decide)
  have hm : (own_lb c &&& 255).toInt = c.toInt := by rw [m]; show (c.toInt8.toInt32.toInt8.toInt32).toInt % _ = _; omega
  show ((own_lb c &&& 255).toUInt32.toUInt16.toUInt32.toInt32).toUInt32.toUInt16.toUInt32.toInt32 = c
  rw [own_i2c (x := own_lb c &&& 255) (by omega) (by omega), own_i2c (by omega) (by omega)]
  exact Int32.toInt_inj.mp hm
theorem own_gcc {c : Int32} (h0 : 0 ≤ c.toInt) (h1 : c.toInt < 65536) : own_gc (own_b0 c) (own_b1 c) = c := by
  have s0 := c_ishr c 0 0 (by decide)
  have s8 := c_ishr c 8 8 (by decide)
  obtain ⟨a1, a2, a3⟩ := c_i2b (c >>> ((0 : Int32) &&& 31))
  obtain ⟨b1, b2, b3⟩ := c_i2b ((c >>> ((0 : Int32) &&& 31)).toInt8.toInt32)
  obtain ⟨d1, d2, d3⟩ := c_i2b (c >>> ((8 : Int32) &&& 31))
  obtain ⟨e1, e2, e3⟩ := c_i2b ((c >>> ((8 : Int32) &&& 31)).toInt8.toInt32)
  have m0 : (own_b0 c &&& 255).toInt = c.toInt % 256 := by
    have m := c_mask (own_b0 c) 255 8 (by decide) (by decide)
    rw [m]; show ((c >>> ((0 : Int32) &&& 31)).toInt8.toInt32.toInt8.toInt32).toInt % _ = _
    simp only [Nat.pow_zero, Int.natCast_one, Int.ediv_one] at s0
    omega
  have m8 : (own_b1 c &&& 255).toInt = c.toInt / 256 := by
    have m := c_mask (own_b1 c) 255 8 (by decide) (by decide)
    rw [m]; show ((c >>> ((8 : Int32) &&& 31)).toInt8.toInt32.toInt8.toInt32).toInt % _ = _
    omega
  have l0 : ((own_b0 c &&& 255) <<< ((0 : Int32) &&& 31)).toInt = c.toInt % 256 := by
    have q := c_ishl (own_b0 c &&& 255) 0 0 (by decide)
    have r := rng32 ((own_b0 c &&& 255) <<< ((0 : Int32) &&& 31))
    simp only [Nat.pow_zero, Int.natCast_one, Int.mul_one] at q
    omega
  have l8 : ((own_b1 c &&& 255) <<< ((8 : Int32) &&& 31)).toInt = (c.toInt / 256) * 256 := by
    have q := c_ishl (own_b1 c &&& 255) 8 8 (by decide)
    have r := rng32 ((own_b1 c &&& 255) <<< ((8 : Int32) &&& 31))
    omega
  have ho := c_or' ((own_b0 c &&& 255) <<< ((0 : Int32) &&& 31)) ((own_b1 c &&& 255) <<< ((8 : Int32) &&& 31)) 8 (by decide) 256 (by decide) (by omega) (by omega) (by omega)
  have hr := rng32 (((own_b0 c &&& 255) <<< ((0 : Int32) &&& 31)) ||| ((own_b1 c &&& 255) <<< ((8 : Int32) &&& 31)))
  have hv : (((own_b0 c &&& 255) <<< ((0 : Int32) &&& 31)) ||| ((own_b1 c &&& 255) <<< ((8 : Int32) &&& 31))).toInt = c.toInt := by omega
  show ((((own_b0 c &&& 255) <<< ((0 : Int32) &&& 31)) ||| ((own_b1 c &&& 255) <<< ((8 : Int32) &&& 31))).toUInt32.toUInt16.toUInt32.toInt32).toUInt32.toUInt16.toUInt32.toInt32 = c
  rw [own_i2c (x := ((own_b0 c &&& 255) <<< ((0 : Int32) &&& 31)) ||| ((own_b1 c &&& 255) <<< ((8 : Int32) &&& 31))) (by omega) (by omega), own_i2c (by omega) (by omega)]
  exact Int32.toInt_inj.mp hv
def own_cnt2 (c0 c1 : Int32) : Int32 := if (255 : Int32) < c0 then 0 else if (255 : Int32) < c1 then 1 else 2
def own_cnt3 (c0 c1 c2 : Int32) : Int32 := if (255 : Int32) < c0 then 0 else if (255 : Int32) < c1 then 1 else if (255 : Int32) < c2 then 2 else 3
def own_can (c : Int32) : Int32 := if (255 : Int32) < c then 0 else 1

section OwnW
variable {p : Program} {l : Launch} {e : Env} {R : Room} {s : State} {m : MethodId} {args : Array Value} {below : List Frame} {meth : Method} {c : Code} {T : State} {locs : List Loc} {cells slots : Nat} {Z : State} {a0 : Array Value} {h h' : Heap} {vm0 : Vm}
/-- the walk's goal where a String constant may have been interned on the way -/
def own_GW (p : Program) (e : Env) (s : State) (below : List Frame) (Q : Option Value → Heap → List Loc → Prop) (kc ks : Nat) (S : State) : Prop :=
  ∃ s₂ o, Steps p.tables e below S s₂ ∧ s₂.status = .running ∧ Ended s₂ below o ∧ ∃ v L, o = .returned v ∧ Q v s₂.heap L ∧ ReturnedEndW s o s₂ L kc ks
theorem own_goW {Q : Option Value → Heap → List Loc → Prop} {kc ks : Nat} {S S' : State} (k : ∀ t, Steps p.tables e below S' t → Steps p.tables e below S t) (g : own_GW p e s below Q kc ks S') : own_GW p e s below Q kc ks S := by
  obtain ⟨s2, o, h1, h2⟩ := g
  exact ⟨s2, o, k _ h1, h2⟩
theorem own_wide {Q : Option Value → Heap → List Loc → Prop} {kc ks : Nat} {S : State} (g : own_G p e s below Q kc ks S) : own_GW p e s below Q kc ks S := by
  obtain ⟨s2, o, h1, h2, h3, v, L, h4, h5, h6⟩ := g
  exact ⟨s2, o, h1, h2, h3, v, L, h4, h5, ReturnedEndW.of_narrow h6.1 h6.2.1 h6.2.2⟩
theorem own_endW {kc ks : Nat} {v : Option Value} {fs : List Frame} {k0 : Nat} (hS : s.Since vm0 k0) (hk : k0 ≤ T.heap.size) (hW : (s.setVm vm0).WarmedH (T.setFrames fs).vm) (hsame : (s.setVm vm0).sameButNew ({ T.setFrames fs with vm := (s.setVm vm0).vm } : State) locs cells slots) (hc : cells ≤ kc) (hs : slots ≤ ks) : ReturnedEndW s (.returned v) (T.setFrames fs) locs kc ks := by
  obtain ⟨q1, q2, q3⟩ := hS.ended (U := T.setFrames fs) hW hk hsame
  exact ⟨⟨_, rfl⟩, q1, q2, q3.mono hc hs⟩
theorem own_retVW {Q : Option Value → Heap → List Loc → Prop} {kc ks : Nat} (X : Stand p l e R (s.setVm vm0) m args below meth c T locs cells slots) {k0 : Nat} (hS : s.Since vm0 k0) (hk : k0 ≤ T.heap.size) (hx : p.tables.exec = Jvm.exec) (hlk : meth.locks = false) (hret : meth.sig.returnType = none) {pc : Nat} {Ls : Array Slot} (hd : decode c.code pc = .ok (.return_, 1)) (hc : cells ≤ kc) (hs : slots ≤ ks) (hQ : Q none T.heap locs) :
    own_GW p e s below Q kc ks (T.setTop (mkF m pc Ls [])) := by
  obtain ⟨fs, hr, hrun, hended, hW, hsame⟩ := X.leave (v := none) (fun _ => rfl) hlk
  exact ⟨_, _, X.returnOut hx hret hd hr, hrun, hended, _, _, rfl, hQ, own_endW hS hk hW hsame hc hs⟩
theorem own_retNW {Q : Option Value → Heap → List Loc → Prop} {kc ks : Nat} (X : Stand p l e R (s.setVm vm0) m args below meth c T locs cells slots) {k0 : Nat} (hS : s.Since vm0 k0) (hk : k0 ≤ T.heap.size) (hx : p.tables.exec = Jvm.exec) (hlk : meth.locks = false) {t : FieldType} (hret : meth.sig.returnType = some t) (ht : t = .boolean ∨ t = .byte ∨ t = .char ∨ t = .short) {pc : Nat} {Ls : Array Slot} {z : Int32} {rest : List Value} (hd : decode c.code pc = .ok (.ireturn, 1)) (hc : cells ≤ kc) (hs : slots ≤ ks) (hQ : Q (some (.int (nar t z))) T.heap locs) :
    own_GW p e s below Q kc ks (T.setTop (mkF m pc Ls (.int z :: rest))) := by
  obtain ⟨fs, hr, hrun, hended, hW, hsame⟩ := X.leave (v := some (.int (nar t z))) (fun h => by rw [hret] at h; cases h) hlk
  exact ⟨_, _, retN X hx hret ht hd hr, hrun, hended, _, _, rfl, hQ, own_endW hS hk hW hsame hc hs⟩
theorem own_retAW {Q : Option Value → Heap → List Loc → Prop} {kc ks : Nat} (X : Stand p l e R (s.setVm vm0) m args below meth c T locs cells slots) {k0 : Nat} (hS : s.Since vm0 k0) (hk : k0 ≤ T.heap.size) (hx : p.tables.exec = Jvm.exec) (hlk : meth.locks = false) {t : FieldType} (hret : meth.sig.returnType = some t) (ht : t.isReference = true) {pc : Nat} {Ls : Array Slot} {w : Value} (hv : w.isRef = true) {rest : List Value} (hd : decode c.code pc = .ok (.areturn, 1)) (hc : cells ≤ kc) (hs : slots ≤ ks) (hQ : Q (some w) T.heap locs) :
    own_GW p e s below Q kc ks (T.setTop (mkF m pc Ls (w :: rest))) := by
  obtain ⟨fs, hr, hrun, hended, hW, hsame⟩ := X.leave (v := some w) (fun h => by rw [hret] at h; cases h) hlk
  have hn : narrow t w = w := by rcases ref_cases hv with rfl | ⟨z, rfl⟩ <;> cases t <;> rfl
  exact ⟨_, _, retOut X hx hret hn (Or.inr (Or.inr (Or.inr (Or.inr ⟨rfl, ht, hv⟩)))) hd hr, hrun, hended, _, _, rfl, hQ, own_endW hS hk hW hsame hc hs⟩
end OwnW

section OwnU8
/-- UTF-8: the bytes that encodeUTF8 stores for a char, as the code reckons them -/
def own_x2a (c : Int32) : Int32 := (((192 : Int32) ||| (c >>> ((6 : Int32) &&& 31))).toInt8.toInt32).toInt8.toInt32
def own_x2b (c : Int32) : Int32 := (((128 : Int32) ||| (c &&& (63 : Int32))).toInt8.toInt32).toInt8.toInt32
def own_x3a (c : Int32) : Int32 := (((224 : Int32) ||| (c >>> ((12 : Int32) &&& 31))).toInt8.toInt32).toInt8.toInt32
def own_x3b (c : Int32) : Int32 := (((128 : Int32) ||| ((c >>> ((6 : Int32) &&& 31)) &&& (63 : Int32))).toInt8.toInt32).toInt8.toInt32
def own_d2 (x y : Int32) : Int32 := nar .char ((((x <<< ((6 : Int32) &&& 31)) ^^^ y) ^^^ (3968 : Int32)).toUInt32.toUInt16.toUInt32.toInt32)
def own_d3 (x y z : Int32) : Int32 := nar .char ((((x <<< ((12 : Int32) &&& 31)) ^^^ (y <<< ((6 : Int32) &&& 31))) ^^^ (z ^^^ (-123008 : Int32))).toUInt32.toUInt16.toUInt32.toInt32)
theorem own_bb (x : Int32) (z : Int) (h : (x.toInt - z) % 256 = 0) (h0 : -128 ≤ z) (h1 : z < 128) : (x.toInt8.toInt32).toInt8.toInt32 = Int32.ofInt z := by
  obtain ⟨a1, a2, a3⟩ := c_i2b x
  obtain ⟨b1, b2, b3⟩ := c_i2b (x.toInt8.toInt32)
  apply Int32.toInt_inj.mp
  rw [Int32.toInt_ofInt_of_le (by omega) (by omega)]
  omega
theorem own_x2aE {n : Nat} (h : n < 2048) : own_x2a (Int32.ofNat n) = Int32.ofInt ((n / 64 : Nat) - 64 : Int) := by
  have s := c_ishr (Int32.ofNat n) 6 6 (by decide)
  rw [own_nat (by omega)] at s
  have o := c_or (192 : Int32) (Int32.ofNat n >>> ((6 : Int32) &&& 31)) 6 (by decide) 64 (by decide) (by decide) (by omega) (by omega)
  have e : (192 : Int32).toInt = 192 := by decide
  exact own_bb _ _ (by omega) (by omega) (by omega)
theorem own_x2bE (n : Nat) (h : n < 2 ^ 31) : own_x2b (Int32.ofNat n) = Int32.ofInt ((n % 64 : Nat) - 128 : Int) := by
  have m := c_mask (Int32.ofNat n) 63 6 (by decide) (by decide)
  rw [own_nat h] at m
  have o := c_or (128 : Int32) (Int32.ofNat n &&& (63 : Int32)) 6 (by decide) 64 (by decide) (by decide) (by omega) (by omega)
  have e : (128 : Int32).toInt = 128 := by decide
  exact own_bb _ _ (by omega) (by omega) (by omega)
theorem own_x3aE {n : Nat} (h : n < 32768) : own_x3a (Int32.ofNat n) = Int32.ofInt ((n / 4096 : Nat) - 32 : Int) := by
  have s := c_ishr (Int32.ofNat n) 12 12 (by decide)
  rw [own_nat (by omega)] at s
  have o := c_or (224 : Int32) (Int32.ofNat n >>> ((12 : Int32) &&& 31)) 5 (by decide) 32 (by decide) (by decide) (by omega) (by omega)
  have e : (224 : Int32).toInt = 224 := by decide
  exact own_bb _ _ (by omega) (by omega) (by omega)
theorem own_x3bE {n : Nat} (h : n < 32768) : own_x3b (Int32.ofNat n) = Int32.ofInt ((n / 64 % 64 : Nat) - 128 : Int) := by
  have s := c_ishr (Int32.ofNat n) 6 6 (by decide)
  rw [own_nat (by omega)] at s
  have m := c_mask (Int32.ofNat n >>> ((6 : Int32) &&& 31)) 63 6 (by decide) (by decide)
  have o := c_or (128 : Int32) ((Int32.ofNat n >>> ((6 : Int32) &&& 31)) &&& (63 : Int32)) 6 (by decide) 64 (by decide) (by decide) (by omega) (by omega)
  have e : (128 : Int32).toInt = 128 := by decide
  exact own_bb _ _ (by omega) (by omega) (by omega)
theorem own_lbE {n : Nat} (h : n < 256) : own_lb (Int32.ofNat n) = Int32.ofInt (if n < 128 then (n : Int) else n - 256) := by
  have e : (Int32.ofNat n).toInt = n := own_nat (by omega)
  split
  · exact own_bb _ _ (by omega) (by omega) (by omega)
  · exact own_bb _ _ (by omega) (by omega) (by omega)
/-- what decoding asks of the first byte of two: p = c / 64 -/
theorem own_p2 : ∀ p, p < 32 → Int32.ofInt ((p : Nat) - 64 : Int) < 0 ∧ (Int32.ofInt ((p : Nat) - 64 : Int) >>> ((5 : Int32) &&& 31)) = -2 ∧ (2 ≤ p → ¬ ((Int32.ofInt ((p : Nat) - 64 : Int) &&& (30 : Int32)) = 0)) ∧ ((Int32.ofInt ((p : Nat) - 64 : Int) &&& (254 : Int32)) = 194 ↔ p = 2 ∨ p = 3) := by decide +kernel
/-- .. of a byte that goes on -/
theorem own_q2 : ∀ q, q < 64 → (Int32.ofInt ((q : Nat) - 128 : Int) &&& (192 : Int32)) = 128 ∧ Int32.ofInt ((q : Nat) - 128 : Int) < -64 ∧ (32 ≤ q → ¬ ((Int32.ofInt ((q : Nat) - 128 : Int) &&& (224 : Int32)) = 128)) := by decide +kernel
/-- .. of the first byte of three -/
theorem own_p3 : ∀ p, p < 8 → Int32.ofInt ((p : Nat) - 32 : Int) < 0 ∧ ¬ ((Int32.ofInt ((p : Nat) - 32 : Int) >>> ((5 : Int32) &&& 31)) = -2) ∧ (Int32.ofInt ((p : Nat) - 32 : Int) >>> ((4 : Int32) &&& 31)) = -2 ∧ ¬ ((Int32.ofInt ((p : Nat) - 32 : Int) &&& (254 : Int32)) = 194) ∧ (Int32.ofInt ((p : Nat) - 32 : Int) = -32 ↔ p = 0) := by decide +kernel
theorem own_d2E : ∀ p, p < 32 → ∀ q, q < 64 → own_d2 (Int32.ofInt ((p : Nat) - 64 : Int)) (Int32.ofInt ((q : Nat) - 128 : Int)) = Int32.ofNat (64 * p + q) := by decide +kernel
theorem own_xa : ∀ p, p < 8 → (Int32.ofInt ((p : Nat) - 32 : Int) <<< ((12 : Int32) &&& 31)) = (-131072 : Int32) ^^^ Int32.ofNat (4096 * p) := by decide +kernel
theorem own_xb : ∀ p, p < 64 → (Int32.ofInt ((p : Nat) - 128 : Int) <<< ((6 : Int32) &&& 31)) = (-8192 : Int32) ^^^ Int32.ofNat (64 * p) := by decide +kernel
theorem own_xc : ∀ p, p < 64 → Int32.ofInt ((p : Nat) - 128 : Int) ^^^ (-123008 : Int32) = (122880 : Int32) ^^^ Int32.ofNat p := by decide +kernel
theorem own_xab : ∀ p, p < 8 → ∀ q, q < 64 → Int32.ofNat (4096 * p) ^^^ Int32.ofNat (64 * q) = Int32.ofNat (64 * (64 * p + q)) := by decide +kernel
theorem own_xabc : ∀ p, p < 512 → ∀ q, q < 64 → Int32.ofNat (64 * p) ^^^ Int32.ofNat q = Int32.ofNat (64 * p + q) := by decide +kernel
theorem own_x3 (A B C : Int32) : (((-131072 : Int32) ^^^ A) ^^^ ((-8192 : Int32) ^^^ B)) ^^^ ((122880 : Int32) ^^^ C) = (A ^^^ B) ^^^ C := by
  have h : ((-131072 : Int32) ^^^ (-8192 : Int32)) ^^^ (122880 : Int32) = 0 := by decide
  calc (((-131072 : Int32) ^^^ A) ^^^ ((-8192 : Int32) ^^^ B)) ^^^ ((122880 : Int32) ^^^ C) = (((-131072 : Int32) ^^^ (-8192 : Int32)) ^^^ (122880 : Int32)) ^^^ ((A ^^^ B) ^^^ C) := by
        ac_rfl
    _ = (A ^^^ B) ^^^ C := by rw [h]; simp
theorem own_d3E {a b c : Nat} (ha : a < 8) (hb : b < 64) (hc : c < 64) : own_d3 (Int32.ofInt ((a : Nat) - 32 : Int)) (Int32.ofInt ((b : Nat) - 128 : Int)) (Int32.ofInt ((c : Nat) - 128 : Int)) = Int32.ofNat (4096 * a + 64 * b + c) := by
  have h1 : Int32.ofNat (4096 * a) ^^^ Int32.ofNat (64 * b) ^^^ Int32.ofNat c = Int32.ofNat (4096 * a + 64 * b + c) := by
    rw [own_xab a ha b hb, own_xabc (64 * a + b) (by omega) c hc]; congr 1; omega
  have h2 : (Int32.ofNat (4096 * a + 64 * b + c)).toInt = (4096 * a + 64 * b + c : Nat) := own_nat (by omega)
  unfold own_d3
  rw [own_xa a ha, own_xb b hb, own_xc c hc, own_x3, h1]
  show ((Int32.ofNat (4096 * a + 64 * b + c)).toUInt32.toUInt16.toUInt32.toInt32).toUInt32.toUInt16.toUInt32.toInt32 = _
  rw [own_i2c (x := Int32.ofNat (4096 * a + 64 * b + c)) (by omega) (by omega), own_i2c (by omega) (by omega)]
end OwnU8
section OwnPad
def own_pad (vs : List Value) (n : Nat) (d : Value) : List Value := vs ++ List.replicate (n - vs.length) d
theorem own_padget {vs : List Value} {n : Nat} {d : Value} {i : Nat} (h : i < vs.length) : (own_pad vs n d)[i]? = vs[i]? := by
  unfold own_pad; rw [List.getElem?_append_left h]
theorem own_padat {vs : List Value} {n : Nat} {d : Value} (h : vs.length < n) : (own_pad vs n d)[vs.length]? = some d := by
  unfold own_pad
  rw [List.getElem?_append_right (Nat.le_refl _), Nat.sub_self, List.getElem?_replicate, if_pos (by omega)]
theorem own_padset {vs : List Value} {n : Nat} {d v : Value} (h : vs.length < n) : (own_pad vs n d).set vs.length v = own_pad (vs ++ [v]) n d := by
  unfold own_pad
  rw [List.set_append_right _ _ (Nat.le_refl _), Nat.sub_self]
  have e : n - vs.length = (n - (vs ++ [v]).length) + 1 := by simp; omega
  rw [e, List.replicate_succ, List.set_cons_zero]
  simp
theorem own_padlen {vs : List Value} {n : Nat} {d : Value} (h : vs.length ≤ n) : (own_pad vs n d).length = n := by unfold own_pad; simp; omega
theorem own_shl1 {i : Nat} (h : i < 2 ^ 30) : Int32.ofNat i <<< ((1 : Int32) &&& 31) = Int32.ofNat (2 * i) := by
  have q := c_ishl (Int32.ofNat i) 1 1 (by decide)
  have r := rng32 (Int32.ofNat i <<< ((1 : Int32) &&& 31))
  rw [own_nat (by omega)] at q
  apply Int32.toInt_inj.mp
  rw [own_nat (by omega)]
  omega
def own_cv (cs : List Nat) : List Value := cs.map fun n => .int (Int32.ofNat n)
def own_lv (cs : List Nat) : List Value := cs.map fun n => .int (own_lb (Int32.ofNat n))
def own_wv : List Nat → List Value
  | [] => []
  | n :: cs => .int (own_b0 (Int32.ofNat n)) :: .int (own_b1 (Int32.ofNat n)) :: own_wv cs
theorem own_wvlen (cs : List Nat) : (own_wv cs).length = 2 * cs.length := by
  induction cs with
  | nil => rfl
  | cons n cs ih => simp [own_wv, ih]; omega
theorem own_wvapp (cs : List Nat) (n : Nat) : own_wv (cs ++ [n]) = own_wv cs ++ [.int (own_b0 (Int32.ofNat n)), .int (own_b1 (Int32.ofNat n))] := by
  induction cs with
  | nil => rfl
  | cons m cs ih => simp [own_wv, ih]
theorem own_padfull {vs : List Value} {n : Nat} {d : Value} (h : vs.length = n) : own_pad vs n d = vs := by unfold own_pad; simp [h]
theorem own_cvlen (cs : List Nat) : (own_cv cs).length = cs.length := by simp [own_cv]
theorem own_cvat {cs : List Nat} {i : Nat} (h : i < cs.length) : (own_cv cs)[i]? = some (.int (Int32.ofNat (cs.getD i 0))) := by simp [own_cv, List.getD, h]
theorem own_takeS {cs : List Nat} {i : Nat} (h : i < cs.length) : cs.take (i + 1) = cs.take i ++ [cs.getD i 0] := by rw [List.take_succ]; simp [List.getD, h]
theorem own_wvS {cs : List Nat} {i : Nat} (h : i < cs.length) : own_wv (cs.take i) ++ [.int (own_b0 (Int32.ofNat (cs.getD i 0)))] ++ [.int (own_b1 (Int32.ofNat (cs.getD i 0)))] = own_wv (cs.take (i + 1)) := by rw [own_takeS h, own_wvapp, List.append_assoc]; rfl
theorem own_wvtl {cs : List Nat} {i : Nat} (h : i ≤ cs.length) : (own_wv (cs.take i)).length = 2 * i := by rw [own_wvlen, List.length_take]; omega
theorem own_lvlen (cs : List Nat) : (own_lv cs).length = cs.length := by simp [own_lv]
theorem own_lvtl {cs : List Nat} {i : Nat} (h : i ≤ cs.length) : (own_lv (cs.take i)).length = i := by rw [own_lvlen, List.length_take]; omega
theorem own_lvS {cs : List Nat} {i : Nat} (h : i < cs.length) : own_lv (cs.take i) ++ [.int (own_lb (Int32.ofNat (cs.getD i 0)))] = own_lv (cs.take (i + 1)) := by rw [own_takeS h]; simp [own_lv]
/-- where the first char above 255 stands (the length, if none does) -/
def own_fi (cs : List Nat) : Nat := cs.findIdx fun c => decide (255 < c)
theorem own_fi_all {cs : List Nat} (h : ∀ j, j < cs.length → cs.getD j 0 ≤ 255) : own_fi cs = cs.length := by
  refine List.findIdx_eq_length.mpr fun x hx => ?_
  obtain ⟨j, hj, rfl⟩ := List.getElem_of_mem hx
  have q := h j hj
  simp [List.getD, hj] at q
  simpa using q
theorem own_fi_at {cs : List Nat} {i : Nat} (hi : i < cs.length) (h : ∀ j, j < i → cs.getD j 0 ≤ 255) (hb : 255 < cs.getD i 0) : own_fi cs = i := by
  refine (List.findIdx_eq hi).mpr ⟨?_, fun j hj => ?_⟩
  · simp [List.getD, hi] at hb; simpa using hb
  · have q := h j hj
    have hj2 : j < cs.length := by omega
    simp [List.getD, hj2] at q; simpa using q
def own_sv (cs : List Nat) : List Value := if own_fi cs = cs.length then own_lv cs else own_wv cs
theorem own_fi_lt {cs : List Nat} (h : ¬ (own_fi cs = cs.length)) : own_fi cs < cs.length := Nat.lt_of_le_of_ne List.findIdx_le_length h
theorem own_fi_big {cs : List Nat} (h : own_fi cs < cs.length) : 255 < cs.getD (own_fi cs) 0 := by
  have q := List.findIdx_getElem (xs := cs) (p := fun c => decide (255 < c)) (w := h)
  have r : cs.getD (own_fi cs) 0 = cs[own_fi cs]'h := by simp [List.getD, h]
  rw [r]; exact of_decide_eq_true q
theorem own_wvat {cs : List Nat} {i : Nat} (h : i < cs.length) : (own_wv cs)[2 * i]? = some (.int (own_b0 (Int32.ofNat (cs.getD i 0)))) ∧ (own_wv cs)[2 * i + 1]? = some (.int (own_b1 (Int32.ofNat (cs.getD i 0)))) := by
  induction cs generalizing i with
  | nil => simp at h
  | cons n cs ih =>
    cases i with
    | zero => exact ⟨rfl, rfl⟩
    | succ i =>
      have q := ih (i := i) (by simpa using h)
      exact ⟨by rw [show 2 * (i + 1) = 2 * i + 1 + 1 from by omega]; simpa [own_wv] using q.1, by rw [show 2 * (i + 1) + 1 = (2 * i + 1) + 1 + 1 from by omega]; simpa [own_wv] using q.2⟩
end OwnPad

section OwnU
def own_min (x y : Int32) : Int32 := if y < x then y else x
theorem own_minN {a b : Nat} (ha : a < 2 ^ 31) (hb : b < 2 ^ 31) : own_min (Int32.ofNat a) (Int32.ofNat b) = Int32.ofNat (min a b) := by
  unfold own_min
  by_cases h : b < a
  · rw [if_pos ((own_lt hb ha).mpr h), Nat.min_eq_right (by omega)]
  · rw [if_neg (fun q => h ((own_lt hb ha).mp q)), Nat.min_eq_left (by omega)]
theorem own_subN {a b : Nat} (h : b ≤ a) : Int32.ofNat a - Int32.ofNat b = Int32.ofNat (a - b) := (Int32.ofNat_sub _ _ h).symm
/-- UTF-8 of a char below 0x8000, as integers -/
def own_ui (n : Nat) : List Int := if n < 128 then [(n : Int)] else if n < 2048 then [((n / 64 : Nat) - 64 : Int), ((n % 64 : Nat) - 128 : Int)] else [((n / 4096 : Nat) - 32 : Int), ((n / 64 % 64 : Nat) - 128 : Int), ((n % 64 : Nat) - 128 : Int)]
theorem own_ui1 {n : Nat} (h : n < 128) : own_ui n = [(n : Int)] := if_pos h
theorem own_ui2 {n : Nat} (h : ¬ n < 128) (h2 : n < 2048) : own_ui n = [((n / 64 : Nat) - 64 : Int), ((n % 64 : Nat) - 128 : Int)] := by unfold own_ui; rw [if_neg h, if_pos h2]
theorem own_ui3 {n : Nat} (h : ¬ n < 2048) : own_ui n = [((n / 4096 : Nat) - 32 : Int), ((n / 64 % 64 : Nat) - 128 : Int), ((n % 64 : Nat) - 128 : Int)] := by unfold own_ui; rw [if_neg (by omega), if_neg h]
theorem own_uil (n : Nat) : 1 ≤ (own_ui n).length ∧ (own_ui n).length ≤ 3 := by
  by_cases h : n < 128
  · rw [own_ui1 h]; simp
  · by_cases h2 : n < 2048
    · rw [own_ui2 h h2]; simp
    · rw [own_ui3 h2]; simp
theorem own_uir {n : Nat} (hn : n < 32768) : ∀ z ∈ own_ui n, -128 ≤ z ∧ z < 128 := by
  intro z hz
  by_cases h : n < 128
  · rw [own_ui1 h] at hz; simp at hz; omega
  · by_cases h2 : n < 2048
    · rw [own_ui2 h h2] at hz; simp at hz; omega
    · rw [own_ui3 h2] at hz; simp at hz; omega
def own_u8 (cs : List Nat) : List Int := cs.flatMap own_ui
theorem own_u8app (a b : List Nat) : own_u8 (a ++ b) = own_u8 a ++ own_u8 b := by simp [own_u8]
theorem own_u8S {cs : List Nat} {i : Nat} (h : i < cs.length) : own_u8 (cs.take (i + 1)) = own_u8 (cs.take i) ++ own_ui (cs.getD i 0) := by rw [own_takeS h]; simp [own_u8]
theorem own_u8le (cs : List Nat) : (own_u8 cs).length ≤ 3 * cs.length := by
  induction cs with
  | nil => simp [own_u8]
  | cons n cs ih =>
    have q := own_uil n
    have e : (own_u8 (n :: cs)).length = (own_ui n).length + (own_u8 cs).length := by simp [own_u8]
    rw [e, List.length_cons]; omega
theorem own_u8ge (cs : List Nat) : cs.length ≤ (own_u8 cs).length := by
  induction cs with
  | nil => simp
  | cons n cs ih =>
    have q := own_uil n
    have e : (own_u8 (n :: cs)).length = (own_ui n).length + (own_u8 cs).length := by simp [own_u8]
    rw [e, List.length_cons]; omega
theorem own_u8at {cs : List Nat} {i : Nat} (h : i < cs.length) : own_u8 cs = own_u8 (cs.take i) ++ (own_ui (cs.getD i 0) ++ own_u8 (cs.drop (i + 1))) := by
  rw [← List.append_assoc, ← own_u8S h, ← own_u8app, List.take_append_drop]
theorem own_u8lt {cs : List Nat} {i : Nat} (h : i < cs.length) : (own_u8 (cs.take i)).length + (own_ui (cs.getD i 0)).length ≤ (own_u8 cs).length := by
  have q := congrArg List.length (own_u8at h)
  simp only [List.length_append] at q; omega
theorem own_u8get {cs : List Nat} {i t : Nat} (h : i < cs.length) (ht : t < (own_ui (cs.getD i 0)).length) : (own_u8 cs).getD ((own_u8 (cs.take i)).length + t) 0 = (own_ui (cs.getD i 0)).getD t 0 := by
  have q := own_u8at h
  rw [List.getD_eq_getElem?_getD, q, List.getElem?_append_right (by omega), Nat.add_sub_cancel_left, List.getElem?_append_left ht]
  simp [List.getD_eq_getElem?_getD]
theorem own_u8r {cs : List Nat} (hch : ∀ j, cs.getD j 0 < 32768) : ∀ z ∈ own_u8 cs, -128 ≤ z ∧ z < 128 := by
  intro z hz
  obtain ⟨n, hn, hz⟩ := List.mem_flatMap.mp hz
  obtain ⟨j, hj, rfl⟩ := List.getElem_of_mem hn
  have q := hch j
  simp [List.getD, hj] at q
  exact own_uir q z hz
def own_bv (l : List Int) : List Value := l.map fun z => .int (Int32.ofInt z)
theorem own_bvlen (l : List Int) : (own_bv l).length = l.length := by simp [own_bv]
theorem own_bvapp (a b : List Int) : own_bv (a ++ b) = own_bv a ++ own_bv b := by simp [own_bv]
theorem own_bvtake (l : List Int) (n : Nat) : (own_bv l).take n = own_bv (l.take n) := by simp [own_bv, List.map_take]
theorem own_bvdrop (l : List Int) (n : Nat) : (own_bv l).drop n = own_bv (l.drop n) := by simp [own_bv, List.map_drop]
theorem own_bvat {l : List Int} {j : Nat} (h : j < l.length) : (own_bv l)[j]? = some (.int (Int32.ofInt (l.getD j 0))) := by simp [own_bv, List.getD, h]
theorem own_bvS1 {cs : List Nat} {i : Nat} (h : i < cs.length) (h1 : cs.getD i 0 < 128) : own_bv (own_u8 (cs.take i)) ++ [.int (Int32.ofInt (cs.getD i 0 : Nat))] = own_bv (own_u8 (cs.take (i + 1))) := by rw [own_u8S h, own_bvapp, own_ui1 h1]; rfl
theorem own_bvS2 {cs : List Nat} {i : Nat} (h : i < cs.length) (h1 : ¬ cs.getD i 0 < 128) (h2 : cs.getD i 0 < 2048) : own_bv (own_u8 (cs.take i)) ++ [.int (Int32.ofInt ((cs.getD i 0 / 64 : Nat) - 64 : Int))] ++ [.int (Int32.ofInt ((cs.getD i 0 % 64 : Nat) - 128 : Int))] = own_bv (own_u8 (cs.take (i + 1))) := by rw [own_u8S h, own_bvapp, own_ui2 h1 h2, List.append_assoc]; rfl
theorem own_bvS3 {cs : List Nat} {i : Nat} (h : i < cs.length) (h2 : ¬ cs.getD i 0 < 2048) : own_bv (own_u8 (cs.take i)) ++ [.int (Int32.ofInt ((cs.getD i 0 / 4096 : Nat) - 32 : Int))] ++ [.int (Int32.ofInt ((cs.getD i 0 / 64 % 64 : Nat) - 128 : Int))] ++ [.int (Int32.ofInt ((cs.getD i 0 % 64 : Nat) - 128 : Int))] = own_bv (own_u8 (cs.take (i + 1))) := by rw [own_u8S h, own_bvapp, own_ui3 h2, List.append_assoc, List.append_assoc]; rfl
theorem own_ofI (n : Nat) : Int32.ofInt (n : Int) = Int32.ofNat n := rfl
/-- how many leading of the n values f are not negative -/
def own_np (f : Nat → Int32) (n : Nat) : Nat := (List.range n).findIdx fun j => decide (f j < 0)
theorem own_np_le (f : Nat → Int32) (n : Nat) : own_np f n ≤ n := by
  have q := List.findIdx_le_length (xs := List.range n) (p := fun j => decide (f j < 0))
  rw [List.length_range] at q; exact q
theorem own_np_all {f : Nat → Int32} {n : Nat} (h : ∀ j, j < n → ¬ f j < 0) : own_np f n = n := by
  have q : own_np f n = (List.range n).length := List.findIdx_eq_length.mpr fun x hx => by
    have := h x (by simpa using hx)
    simpa using this
  simpa using q
theorem own_np_at {f : Nat → Int32} {n i : Nat} (hi : i < n) (h : ∀ j, j < i → ¬ f j < 0) (hb : f i < 0) : own_np f n = i := by
  refine (List.findIdx_eq (by simpa using hi)).mpr ⟨?_, fun j hj => ?_⟩
  · simpa using hb
  · have := h j hj
    simpa using this
theorem own_np_pos {f : Nat → Int32} {n j : Nat} (h : j < own_np f n) : ¬ f j < 0 := by
  have q := List.not_of_lt_findIdx (xs := List.range n) (p := fun j => decide (f j < 0)) h
  simpa using q
theorem own_np_neg {f : Nat → Int32} {n : Nat} (h : own_np f n < n) : f (own_np f n) < 0 := by
  have q := List.findIdx_getElem (xs := List.range n) (p := fun j => decide (f j < 0)) (w := by simpa [own_np] using h)
  simpa [own_np] using q
/-- the in-place decoding's array: the first j decoded, the rest as it was -/
theorem own_arat {cs : List Nat} {X : List Value} {j D : Nat} (hj : j ≤ cs.length) (hD : j ≤ D) : (own_lv (cs.take j) ++ X.drop j)[D]? = X[D]? := by
  have e : (own_lv (cs.take j)).length = j := by rw [own_lvlen, List.length_take]; omega
  rw [List.getElem?_append_right (by omega), e, List.getElem?_drop]; congr 1; omega
theorem own_arset {cs : List Nat} {X : List Value} {j : Nat} (hj : j < cs.length) (hX : j < X.length) : (own_lv (cs.take j) ++ X.drop j).set j (.int (own_lb (Int32.ofNat (cs.getD j 0)))) = own_lv (cs.take (j + 1)) ++ X.drop (j + 1) := by
  have e : (own_lv (cs.take j)).length = j := by rw [own_lvlen, List.length_take]; omega
  rw [List.set_append_right _ _ (by omega), e, Nat.sub_self, List.drop_eq_getElem_cons hX, List.set_cons_zero, own_takeS hj]
  simp [own_lv]
theorem own_arlen {cs : List Nat} {X : List Value} {j : Nat} (hj : j ≤ cs.length) (hX : j ≤ X.length) : (own_lv (cs.take j) ++ X.drop j).length = X.length := by
  rw [List.length_append, own_lvlen, List.length_take, List.length_drop]; omega
theorem own_lvat {cs : List Nat} {i : Nat} (h : i < cs.length) : (own_lv cs)[i]? = some (.int (own_lb (Int32.ofNat (cs.getD i 0)))) := by simp [own_lv, List.getD, h]
/-- Latin1's bytes -/
theorem own_lbs : ∀ n, n < 256 → (own_lb (Int32.ofNat n) < 0 ↔ 128 ≤ n) ∧ (own_lb (Int32.ofNat n) &&& (255 : Int32)) = Int32.ofNat n ∧ (n < 128 → own_lb (Int32.ofNat n) = Int32.ofNat n ∧ (own_lb (Int32.ofNat n)).toInt8.toInt32 = Int32.ofInt (n : Nat)) ∧ (128 ≤ n → (((192 : Int32) ||| ((own_lb (Int32.ofNat n) &&& (255 : Int32)) >>> ((6 : Int32) &&& 31))).toInt8.toInt32).toInt8.toInt32 = Int32.ofInt ((n / 64 : Nat) - 64 : Int) ∧ (((128 : Int32) ||| (own_lb (Int32.ofNat n) &&& (63 : Int32))).toInt8.toInt32).toInt8.toInt32 = Int32.ofInt ((n % 64 : Nat) - 128 : Int)) := by decide +kernel
theorem own_lv8 {cs : List Nat} (h : ∀ j, j < cs.length → cs.getD j 0 < 128) : own_lv cs = own_bv (own_u8 cs) := by
  induction cs with
  | nil => rfl
  | cons n cs ih =>
    have h0 : n < 128 := h 0 (by simp)
    have h1 := ih fun j hj => by have := h (j + 1) (by simpa using hj); simpa using this
    have e : own_u8 (n :: cs) = own_ui n ++ own_u8 cs := by simp [own_u8]
    rw [e, own_bvapp, ← h1, own_ui1 h0]
    show Value.int (own_lb (Int32.ofNat n)) :: own_lv cs = Value.int (Int32.ofInt (n : Int)) :: own_lv cs
    rw [((own_lbs n (by omega)).2.2.1 h0).1]; rfl
/-- a length of at most two groups of seven bits -/
def own_vl (n : Nat) : List Int := if n < 128 then [(n : Int)] else [((n % 128 : Nat) - 128 : Int), ((n / 128 : Nat) : Int)]
theorem own_vl1 {n : Nat} (h : n < 128) : own_vl n = [(n : Int)] := if_pos h
theorem own_vl2 {n : Nat} (h : ¬ n < 128) : own_vl n = [((n % 128 : Nat) - 128 : Int), ((n / 128 : Nat) : Int)] := if_neg h
def own_en (cs : List Nat) : List Int := own_vl (own_u8 cs).length ++ own_u8 cs
theorem own_fitB {z : Int} (h0 : -128 ≤ z) (h1 : z < 128) : fits .byte (.int (Int32.ofInt z)) = true := by
  have e : (Int32.ofInt z).toInt = z := Int32.toInt_ofInt_of_le (by omega) (by omega)
  have a : (-128 : Int32) ≤ Int32.ofInt z := by rw [Int32.le_iff_toInt_le, e]; exact h0
  have b : Int32.ofInt z ≤ (127 : Int32) := by rw [Int32.le_iff_toInt_le, e]; show z ≤ 127; omega
  simp [fits, a, b]
theorem own_bvfit {l : List Int} (h : ∀ z ∈ l, -128 ≤ z ∧ z < 128) : ∀ v ∈ own_bv l, fits .byte v = true := by
  intro v hv
  obtain ⟨z, hz, rfl⟩ := List.mem_map.mp hv
  exact own_fitB (h z hz).1 (h z hz).2
theorem own_padfit {us : List Value} {n : Nat} (h : ∀ v ∈ us, fits .byte v = true) : ∀ v ∈ own_pad us n (.int 0), fits .byte v = true := by
  intro v hv
  rcases List.mem_append.mp hv with q | q
  · exact h v q
  · rw [List.eq_of_mem_replicate q]; decide
theorem own_lbfit (x : Int32) : fits .byte (.int (own_lb x)) = true := by
  obtain ⟨-, b2, b3⟩ := c_i2b (x.toInt8.toInt32)
  have a : (-128 : Int32) ≤ own_lb x := by rw [Int32.le_iff_toInt_le]; exact b2
  have b : own_lb x ≤ (127 : Int32) := by rw [Int32.le_iff_toInt_le]; show _ ≤ (127 : Int); exact Int.le_of_lt_add_one b3
  simp [fits, a, b]
theorem own_lvfit (cs : List Nat) : ∀ v ∈ own_lv cs, fits .byte v = true := by
  intro v hv
  obtain ⟨n, -, rfl⟩ := List.mem_map.mp hv
  exact own_lbfit _
theorem own_b0fit (x : Int32) : fits .byte (.int (own_b0 x)) = true := own_lbfit (x >>> ((0 : Int32) &&& 31))
theorem own_b1fit (x : Int32) : fits .byte (.int (own_b1 x)) = true := own_lbfit (x >>> ((8 : Int32) &&& 31))
theorem own_wvfit (cs : List Nat) : ∀ v ∈ own_wv cs, fits .byte v = true := by
  induction cs with
  | nil => intro v hv; cases hv
  | cons n cs ih =>
    intro v hv
    rcases List.mem_cons.mp hv with rfl | hv
    · exact own_b0fit _
    · rcases List.mem_cons.mp hv with rfl | hv
      · exact own_b1fit _
      · exact ih v hv
theorem own_arfit {cs : List Nat} {X : List Value} {j : Nat} (h : ∀ v ∈ X, fits .byte v = true) : ∀ v ∈ own_lv cs ++ X.drop j, fits .byte v = true := by
  intro v hv
  rcases List.mem_append.mp hv with q | q
  · exact own_lvfit cs v q
  · exact h v (List.mem_of_mem_drop q)
/-- the coder -/
def own_cd (cs : List Nat) : Int32 := if own_fi cs = cs.length then 0 else 1
theorem own_cd0 {cs : List Nat} (h : own_fi cs = cs.length) : own_cd cs = 0 := if_pos h
theorem own_cd1 {cs : List Nat} (h : ¬ own_fi cs = cs.length) : own_cd cs = 1 := if_neg h
theorem own_cdN (cs : List Nat) : narrow .byte (.int (own_cd cs)) = .int (own_cd cs) := by
  by_cases h : own_fi cs = cs.length
  · rw [own_cd0 h]; rfl
  · rw [own_cd1 h]; rfl
theorem own_cdF (cs : List Nat) : fits .byte (.int (own_cd cs)) = true := by
  by_cases h : own_fi cs = cs.length
  · rw [own_cd0 h]; rfl
  · rw [own_cd1 h]; rfl
theorem own_svlen (cs : List Nat) : (own_sv cs).length = if own_fi cs = cs.length then cs.length else 2 * cs.length := by
  unfold own_sv
  split
  · exact own_lvlen cs
  · exact own_wvlen cs
def own_cfal (x : Int32) : Int32 := nar .byte (((x.toUInt32 >>> ((31 : Int32) &&& 31).toUInt32).toInt32).toInt8.toInt32)
theorem own_cfalE {n m : Nat} (hn : n < 2 ^ 30) (hm : m < 2 ^ 30) : own_cfal (Int32.ofNat n - Int32.ofNat m) = if m ≤ n then 0 else 1 := by
  have s := c_isub (Int32.ofNat n) (Int32.ofNat m)
  have r := rng32 (Int32.ofNat n - Int32.ofNat m)
  rw [own_nat (by omega), own_nat (by omega)] at s
  have u := c_iushr (Int32.ofNat n - Int32.ofNat m) 31 31 (by decide) (by decide)
  have b1 := c_i2b (((Int32.ofNat n - Int32.ofNat m).toUInt32 >>> ((31 : Int32) &&& 31).toUInt32).toInt32)
  have b2 := c_i2b ((((Int32.ofNat n - Int32.ofNat m).toUInt32 >>> ((31 : Int32) &&& 31).toUInt32).toInt32).toInt8.toInt32)
  apply Int32.toInt_inj.mp
  show (((((Int32.ofNat n - Int32.ofNat m).toUInt32 >>> ((31 : Int32) &&& 31).toUInt32).toInt32).toInt8.toInt32).toInt8.toInt32).toInt = _
  split
  · rw [show (0 : Int32).toInt = 0 from rfl]; omega
  · rw [show (1 : Int32).toInt = 1 from rfl]; omega
theorem own_cfsv {cs : List Nat} {n : Nat} (h : cs.length = n) (h0 : 0 < n) (hn : n ≤ 400) : own_cfal (Int32.ofNat n - Int32.ofNat (own_sv cs).length) = own_cd cs := by
  have q := own_svlen cs
  by_cases hh : own_fi cs = cs.length
  · rw [if_pos hh] at q; rw [own_cd0 hh, own_cfalE (by omega) (by omega), if_pos (by omega)]
  · rw [if_neg hh] at q; rw [own_cd1 hh, own_cfalE (by omega) (by omega), if_neg (by omega)]
theorem own_fi_le {cs : List Nat} (h : own_fi cs = cs.length) {j : Nat} (hj : j < cs.length) : cs.getD j 0 ≤ 255 := by
  have q := List.not_of_lt_findIdx (xs := cs) (p := fun c => decide (255 < c)) (i := j) (by show j < own_fi cs; omega)
  simp only [List.getD_eq_getElem?_getD, List.getElem?_eq_getElem hj, Option.getD_some]
  simpa using q
theorem own_fi_ne {cs : List Nat} {j : Nat} (hj : j < cs.length) (hb : 255 < cs.getD j 0) : ¬ own_fi cs = cs.length := fun q => by have := own_fi_le q hj; omega
theorem own_sv0 {cs : List Nat} (h : own_fi cs = cs.length) : own_sv cs = own_lv cs := if_pos h
theorem own_sv1 {cs : List Nat} (h : ¬ own_fi cs = cs.length) : own_sv cs = own_wv cs := if_neg h
theorem own_svint (cs : List Nat) : ∀ j, j < (own_sv cs).length → ∃ x, (own_sv cs)[j]? = some (.int x) := by
  have key : ∀ vs : List Value, (∀ v ∈ vs, ∃ x, v = .int x) → ∀ j, j < vs.length → ∃ x, vs[j]? = some (.int x) := fun vs h j hj => by
    obtain ⟨x, hx⟩ := h _ (List.getElem_mem hj)
    exact ⟨x, by rw [List.getElem?_eq_getElem hj, hx]⟩
  apply key
  intro v hv
  unfold own_sv at hv
  split at hv
  · obtain ⟨n, -, rfl⟩ := List.mem_map.mp hv; exact ⟨_, rfl⟩
  · have := own_wvfit cs v hv
    cases v <;> simp [fits] at this ⊢
theorem own_min_le {a b : Nat} (ha : a < 2 ^ 31) (hb : b < 2 ^ 31) (h : b ≤ a) : own_min (Int32.ofNat a) (Int32.ofNat b) = Int32.ofNat b := by rw [own_minN ha hb, Nat.min_eq_right h]
end OwnU
section OwnA
theorem own_addN (a b : Nat) : Int32.ofNat a + Int32.ofNat b = Int32.ofNat (a + b) := (Int32.ofNat_add a b).symm
theorem own_shr1 {n : Nat} (h : n < 2 ^ 29) : Int32.ofNat (2 * n) >>> ((1 : Int32) &&& 31) = Int32.ofNat n := by
  have q := c_ishr (Int32.ofNat (2 * n)) 1 1 (by decide)
  apply Int32.toInt_inj.mp
  rw [own_nat (by omega)] at q ⊢
  omega
theorem own_mul3 {n : Nat} (h : n < 2 ^ 28) : Int32.ofNat n * (3 : Int32) = Int32.ofNat (3 * n) := by
  have q := c_imul (Int32.ofNat n) 3
  have r := rng32 (Int32.ofNat n * (3 : Int32))
  have e : (3 : Int32).toInt = 3 := rfl
  apply Int32.toInt_inj.mp
  rw [own_nat (by omega), e] at q
  rw [own_nat (by omega)]
  omega
theorem own_DS {cs : List Nat} {i D k : Nat} (hD : D = (own_u8 (cs.take i)).length) (h : i < cs.length) (hk : (own_ui (cs.getD i 0)).length = k) : D + k = (own_u8 (cs.take (i + 1))).length := by
  rw [own_u8S h, List.length_append, hk, ← hD]
theorem own_D3 {cs : List Nat} {i D : Nat} (hD : D = (own_u8 (cs.take i)).length) (h : i ≤ cs.length) : D ≤ 3 * i ∧ i ≤ D := by
  have a := own_u8le (cs.take i)
  have b := own_u8ge (cs.take i)
  rw [List.length_take, Nat.min_eq_left h] at a b
  omega
theorem own_padtake {us : List Value} {n : Nat} {d : Value} : (own_pad us n d).take us.length = us := by unfold own_pad; simp
theorem own_lbE1 {n : Nat} (h : n < 128) : ((Int32.ofNat n).toInt8.toInt32).toInt8.toInt32 = Int32.ofInt (n : Nat) := by
  have q := own_lbE (n := n) (by omega)
  rw [if_pos h] at q; exact q
theorem own_wvat2 {cs : List Nat} {i : Nat} (h : i < cs.length) : (own_wv cs)[2 * i]? = some (.int (own_b0 (Int32.ofNat (cs.getD i 0)))) ∧ (own_wv cs)[2 * i + 1]? = some (.int (own_b1 (Int32.ofNat (cs.getD i 0)))) := own_wvat h
theorem own_gcN {n : Nat} (h : n < 32768) : own_gc (own_b0 (Int32.ofNat n)) (own_b1 (Int32.ofNat n)) = Int32.ofNat n := own_gcc (by rw [own_nat (by omega)]; omega) (by rw [own_nat (by omega)]; omega)
end OwnA
section OwnD
theorem own_D2 {cs : List Nat} {i D n : Nat} (hD : D = (own_u8 (cs.take i)).length) (h : i ≤ n) (hc : ∀ j, j < i → cs.getD j 0 ≤ 255) : D ≤ 2 * n := by
  have key : ∀ l : List Nat, (∀ x ∈ l, x ≤ 255) → (own_u8 l).length ≤ 2 * l.length := by
    intro l
    induction l with
    | nil => intro _; simp [own_u8]
    | cons a l ih =>
      intro hl
      have h1 := ih fun x hx => hl x (List.mem_cons_of_mem _ hx)
      have h2 : a ≤ 255 := hl a List.mem_cons_self
      have h3 : (own_ui a).length ≤ 2 := by
        by_cases q : a < 128
        · rw [own_ui1 q]; simp
        · rw [own_ui2 q (by omega)]; simp
      have e : (own_u8 (a :: l)).length = (own_ui a).length + (own_u8 l).length := by simp [own_u8]
      rw [e, List.length_cons]; omega
  have k := key (cs.take i) fun x hx => by
    obtain ⟨j, hj, rfl⟩ := List.getElem_of_mem hx
    rw [List.length_take] at hj
    have q := hc j (by omega)
    simp [List.getD, show j < cs.length by omega] at q
    simpa using q
  rw [List.length_take] at k
  omega
theorem own_D2b {cs : List Nat} {i D n : Nat} (hD : D = (own_u8 (cs.take i)).length) (h : i < n) (hn : cs.length = n) (hc : ∀ j, j < i → cs.getD j 0 ≤ 255) : D + 2 ≤ 2 * n := by
  have := own_D2 (n := i) hD (Nat.le_refl _) hc
  omega
end OwnD
section OwnStr
variable {Z : State} {h h' : Heap} {a b : Addr} {n n' : Nat} {cs : List Nat} {k k' : ClassId} {ty ty' : FieldType} {vs vs' : List Value} {ws : List Addr}
/-- the String a says cs; its cells lie below n -/
def own_Str (Z : State) (h : Heap) (n : Nat) (a : Addr) (cs : List Nat) : Prop := n ≤ h.size ∧ a < n ∧ Exa Z h a "java/lang/String" ∧ Fld Z h a "java/lang/String" "coder" "B" (.int (own_cd cs)) ∧ ∃ (d : Addr) (kd : ClassId), d < n ∧ Fld Z h a "java/lang/String" "value" "[B" (.ref d) ∧ own_Ar Z h d kd .byte (own_sv cs) ∧ Exa Z h d "[B"
theorem own_Str.ext (F : own_Str Z h n a cs) (E : Ext h h') : own_Str Z h' n a cs := by
  obtain ⟨q1, q2, q3, q4, d, kd, q5, q6, q7, q8⟩ := F
  exact ⟨Nat.le_trans q1 E.1, q2, q3.ext E, q4.ext E, d, kd, q5, q6.ext E, q7.ext E, q8.ext E⟩
theorem own_Str.wr {o : Addr} {sl : Nat} {v : Value} (F : own_Str Z h n a cs) (W : Wr h h' o sl v) (q : n ≤ o) : own_Str Z h' n a cs := by
  obtain ⟨q1, q2, q3, q4, d, kd, q5, q6, q7, q8⟩ := F
  have na : a ≠ o := Nat.ne_of_lt (Nat.lt_of_lt_of_le q2 q)
  have nd : d ≠ o := Nat.ne_of_lt (Nat.lt_of_lt_of_le q5 q)
  exact ⟨Nat.le_trans q1 (Nat.le_of_eq W.size.symm), q2, q3.wr W, q4.other W (Or.inl na), d, kd, q5, q6.other W (Or.inl na), q7.other W nd, q8.wr W⟩
theorem own_Str.keep (F : own_Str Z h n a cs) (K : Keep h h' ws) (q : ∀ x ∈ ws, n ≤ x) : own_Str Z h' n a cs := by
  obtain ⟨q1, q2, q3, q4, d, kd, q5, q6, q7, q8⟩ := F
  have na : a ∉ ws := fun m => absurd (q a m) (Nat.not_le.mpr q2)
  have nd : d ∉ ws := fun m => absurd (q d m) (Nat.not_le.mpr q5)
  exact ⟨Nat.le_trans q1 K.1, q2, q3.keep K, q4.keep K na, d, kd, q5, q6.keep K na, q7.keep K nd, q8.keep K⟩
theorem own_Str.lt (F : own_Str Z h n a cs) : a < h.size := Nat.lt_of_lt_of_le F.2.1 F.1
theorem own_ArNe (A : own_Ar Z h a k ty vs) (B : own_Ar Z h b k' ty' vs') (q : ty ≠ ty') : a ≠ b := by
  rintro rfl
  obtain ⟨c, ⟨h1, ⟨-, kk, hk, comp, hkind⟩, -⟩, -⟩ := A
  obtain ⟨c', ⟨h2, ⟨-, kk', hk', comp', hkind'⟩, -⟩, -⟩ := B
  cases h1.symm.trans h2
  cases hk.symm.trans hk'
  have := hkind.symm.trans hkind'
  injection this with _ e
  exact q e
theorem own_bkExa {vm : Vm} {EL : List (String × Nat)} {x : Addr} (hal : Z.vm.Alike vm) (A : own_Ar Z h x k .byte vs) (B : Bk Z EL vm h x) : Exa Z h x "[B" := by
  obtain ⟨c, ⟨A1, ⟨st, kA, hkA, compA, hkindA⟩, -⟩, -⟩ := A
  obtain ⟨kA', hkA', ekA⟩ := hal.2.2 _ _ hkA
  obtain ⟨p, -, u, a, -, q, -, F, rfl | rfl⟩ := B
  · exfalso
    cases (show h[q.sa]? = some q.sC from F.ha).symm.trans A1
    obtain ⟨cS, ⟨-, -, e⟩, ⟨kS, g1, g2, -⟩, -⟩ := F
    subst e
    cases (show vm.classes[q.sC.cls]? = some kS from g1).symm.trans hkA'
    rw [ekA] at g2
    have := hkindA.symm.trans g2
    cases this
  · cases (show h[q.sd]? = some q.SA from F.hd).symm.trans A1
    obtain ⟨cS, -, -, f, -⟩ := F
    have f' : vm.findClass "[B" = some q.SA.cls := f
    rw [hal.findClass] at f'
    have st' : q.SA.vm.isStatics = false := by
      cases hv : q.SA.vm with
      | statics k => exact absurd hv (st k)
      | _ => rfl
    exact ⟨q.SA, kA, A1, f', hkA, st', fun ho => by rw [hkindA] at ho; cases ho⟩
theorem own_cdn (cs : List Nat) : nar .byte (own_cd cs) = own_cd cs := by
  by_cases h : own_fi cs = cs.length
  · rw [own_cd0 h]; rfl
  · rw [own_cd1 h]; rfl
theorem own_lvall {cs : List Nat} {n : Nat} (hcs : cs.length = n) (hall : own_fi cs = cs.length) (hnp : own_np (fun j => own_lb (Int32.ofNat (cs.getD j 0))) n = n) : own_lv cs = own_bv (own_u8 cs) := own_lv8 fun j hj => by
  have q := own_np_pos (f := fun j => own_lb (Int32.ofNat (cs.getD j 0))) (n := n) (j := j) (by omega)
  have r := (own_lbs _ (Nat.lt_succ_of_le (own_fi_le hall hj))).1
  have s : ¬ 128 ≤ cs.getD j 0 := fun z => q (r.mpr z)
  omega
theorem own_vb {n : Nat} (h : n < 2 ^ 30) : (((Int32.ofNat n &&& (127 : Int32)) ||| (128 : Int32)).toInt8.toInt32).toInt8.toInt32 = Int32.ofInt ((n % 128 : Nat) - 128 : Int) := by
  have m := c_mask (Int32.ofNat n) 127 7 (by decide) (by decide)
  rw [own_nat (by omega)] at m
  have o := c_or' (Int32.ofNat n &&& (127 : Int32)) (128 : Int32) 7 (by decide) 128 (by decide) (by decide) (by omega) (by omega)
  have e : (128 : Int32).toInt = 128 := by decide
  exact own_bb _ _ (by omega) (by omega) (by omega)
theorem own_sh7 {n : Nat} (h : n < 2 ^ 30) : ((Int32.ofNat n).toUInt32 >>> ((7 : Int32) &&& 31).toUInt32).toInt32 = Int32.ofNat (n / 128) := by
  have u := c_iushr (Int32.ofNat n) 7 7 (by decide) (by decide)
  apply Int32.toInt_inj.mp
  rw [own_nat (by omega)] at u ⊢
  omega
theorem own_nat64 {n : Nat} (hn : n < 2 ^ 62) : (Int64.ofNat n).toInt = n := Int64.toInt_ofNat_of_lt (by omega)
theorem own_lA {x k : Nat} (hx : x < 2 ^ 20) (hk : k < 2 ^ 20) : Int64.ofNat x + ((5 : Int32) + Int32.ofNat k).toInt64 = Int64.ofNat (x + (5 + k)) := by
  have e : (5 : Int32) + Int32.ofNat k = Int32.ofNat (5 + k) := own_addN 5 k
  have q := c_ladd (Int64.ofNat x) (Int32.ofNat (5 + k)).toInt64
  have r := c_i2l (Int32.ofNat (5 + k))
  have z := rng64 (Int64.ofNat x + (Int32.ofNat (5 + k)).toInt64)
  rw [e]
  apply Int64.toInt_inj.mp
  rw [own_nat64 (by omega)]
  rw [r, own_nat (by omega), own_nat64 (by omega)] at q
  omega
theorem own_lc {x U : Nat} (hx : x < 2 ^ 20) (hU : U < 2 ^ 20) : ¬ ((0 : Int32) < lcmpW (Int64.ofNat x) (((2147483639 : Int32) - Int32.ofNat U).toInt64)) := by
  have q := c_isub (2147483639 : Int32) (Int32.ofNat U)
  have r := c_i2l ((2147483639 : Int32) - Int32.ofNat U)
  have w := rng32 ((2147483639 : Int32) - Int32.ofNat U)
  have e : (2147483639 : Int32).toInt = 2147483639 := by decide
  rw [own_nat (by omega), e] at q
  have z := (c_lcmp (Int64.ofNat x) (((2147483639 : Int32) - Int32.ofNat U).toInt64)).1 (by rw [r, own_nat64 (by omega)]; omega)
  rw [Int32.lt_iff_toInt_lt, z]; decide
theorem own_l2i {x : Nat} (hx : x < 2 ^ 20) : (Int64.ofNat x).toInt32 = Int32.ofNat x := by
  have q := c_l2i (Int64.ofNat x)
  have w := rng32 (Int64.ofNat x).toInt32
  apply Int32.toInt_inj.mp
  rw [own_nat64 (by omega)] at q
  rw [own_nat (by omega)]
  omega
end OwnStr
section OwnTR
/-- a TableRows: its fields, its three arrays -/
def own_TR (Z : State) (h : Heap) (t bb bs bk : Addr) (k1 k2 k3 : ClassId) (wd : Int32) (bl : List Int) (sl kl : List Value) (r : Nat) : Prop :=
  (Exa Z h t "com/example/vestwright/vestwright/cli/TableRows" ∧ Fld Z h t "com/example/vestwright/vestwright/cli/TableRows" "width" "I" (.int wd) ∧ Fld Z h t "com/example/vestwright/vestwright/cli/TableRows" "bytes" "[B" (.ref bb) ∧ Fld Z h t "com/example/vestwright/vestwright/cli/TableRows" "used" "I" (.int (Int32.ofNat bl.length)) ∧ Fld Z h t "com/example/vestwright/vestwright/cli/TableRows" "starts" "[I" (.ref bs) ∧ Fld Z h t "com/example/vestwright/vestwright/cli/TableRows" "keys" "[I" (.ref bk) ∧ Fld Z h t "com/example/vestwright/vestwright/cli/TableRows" "size" "I" (.int (Int32.ofNat r))) ∧
  (own_Ar Z h bb k1 .byte (own_pad (own_bv bl) 4096 (.int 0)) ∧ own_Ar Z h bs k2 .int sl ∧ own_Ar Z h bk k3 .int kl) ∧ (sl.length = 4096 ∧ kl.length = 4096) ∧ t ≠ bb ∧ t ≠ bs ∧ t ≠ bk ∧ bb ≠ bs ∧ bb ≠ bk ∧ bs ≠ bk
theorem own_vll (n : Nat) : (own_vl n).length ≤ 2 ∧ 1 ≤ (own_vl n).length := by
  by_cases h : n < 128
  · rw [own_vl1 h]; simp
  · rw [own_vl2 h]; simp
theorem own_padcopy {us X : List Value} {M : Nat} {d : Value} (h : us.length + X.length ≤ M) : (own_pad us M d).take us.length ++ X ++ (own_pad us M d).drop (us.length + X.length) = own_pad (us ++ X) M d := by
  rw [own_padtake]
  unfold own_pad
  rw [List.drop_append, List.drop_of_length_le (by omega), List.nil_append, List.drop_replicate, List.length_append]
  congr 2
  omega
theorem own_rapp {l m : List Int} (h : ∀ z ∈ l, -128 ≤ z ∧ z < 128) (g : ∀ z ∈ m, -128 ≤ z ∧ z < 128) : ∀ z ∈ l ++ m, -128 ≤ z ∧ z < 128 := fun z hz => (List.mem_append.mp hz).elim (h z) (g z)
theorem own_vlr {n : Nat} (h : n < 16384) : ∀ z ∈ own_vl n, -128 ≤ z ∧ z < 128 := by
  intro z hz
  by_cases q : n < 128
  · rw [own_vl1 q] at hz; simp at hz; omega
  · rw [own_vl2 q] at hz; simp at hz; omega
end OwnTR
section OwnDec
def own_fb (cs : List Nat) : Nat → Int32 := fun j => Int32.ofInt ((own_u8 cs).getD j 0)
theorem own_i2cN {n : Nat} (h : n < 32768) : (Int32.ofInt (n : Nat)).toUInt32.toUInt16.toUInt32.toInt32 = Int32.ofNat n := by
  rw [own_ofI]; exact own_i2c (by rw [own_nat (by omega)]; omega) (by rw [own_nat (by omega)]; omega)
theorem own_or3 {a b c : Nat} (ha : a < 2 ^ 31) (hb : b < 2 ^ 31) (hc : c < 2 ^ 31) : ¬ ((Int32.ofNat a ||| Int32.ofNat b) ||| Int32.ofNat c) < 0 := by
  have q := c_or0 (Int32.ofNat a) (Int32.ofNat b) (by rw [own_nat ha]; omega) (by rw [own_nat hb]; omega)
  rw [own_nat ha] at q
  have r := c_or0 (Int32.ofNat a ||| Int32.ofNat b) (Int32.ofNat c) (by omega) (by rw [own_nat hc]; omega)
  rw [own_nat hc] at r
  rw [Int32.lt_iff_toInt_lt, show (0 : Int32).toInt = 0 from rfl]; omega
theorem own_pred (D : Nat) : Int32.ofNat (D + 1) + (-1 : Int32) = Int32.ofNat D := by
  rw [← own_succ, Int32.add_assoc, show (1 : Int32) + (-1 : Int32) = 0 from by decide, Int32.add_zero]
theorem own_rd {cs : List Nat} {vs : List Value} {i D L0 m0 : Nat} (hs : ∀ t, m0 ≤ t → t < L0 → vs[t]? = some (.int (own_fb cs t))) (hL : L0 = (own_u8 cs).length) (hD : D = (own_u8 (cs.take i)).length) (hm : m0 ≤ D) (h : i < cs.length) (t : Nat) (ht : t < (own_ui (cs.getD i 0)).length) : vs[D + t]? = some (.int (Int32.ofInt ((own_ui (cs.getD i 0)).getD t 0))) := by
  have q := own_u8lt h
  rw [hs (D + t) (by omega) (by omega)]
  unfold own_fb
  rw [hD, own_u8get h ht]
theorem own_first {n : Nat} (hn : n < 32768) : Int32.ofInt ((own_ui n).getD 0 0) < 0 ↔ ¬ n < 128 := by
  have key : ∀ z : Int, -128 ≤ z → z < 128 → (Int32.ofInt z < 0 ↔ z < 0) := fun z a b => by
    rw [Int32.lt_iff_toInt_lt, Int32.toInt_ofInt_of_le (by omega) (by omega)]; rfl
  by_cases h : n < 128
  · rw [own_ui1 h]
    show Int32.ofInt (n : Int) < 0 ↔ _
    rw [key _ (by omega) (by omega)]; omega
  · by_cases h2 : n < 2048
    · rw [own_ui2 h h2]
      show Int32.ofInt ((n / 64 : Nat) - 64 : Int) < 0 ↔ _
      rw [key _ (by omega) (by omega)]; omega
    · rw [own_ui3 h2]
      show Int32.ofInt ((n / 4096 : Nat) - 32 : Int) < 0 ↔ _
      rw [key _ (by omega) (by omega)]; omega
theorem own_npk {cs : List Nat} (hch : ∀ j, cs.getD j 0 < 32768) : ∀ j, j ≤ own_np (own_fb cs) (own_u8 cs).length → j ≤ cs.length ∧ j = (own_u8 (cs.take j)).length ∧ ∀ t, t < j → cs.getD t 0 < 128 := by
  intro j
  induction j with
  | zero => intro _; exact ⟨Nat.zero_le _, rfl, fun t ht => absurd ht (Nat.not_lt_zero t)⟩
  | succ j ih =>
    intro hj
    obtain ⟨h1, h2, h3⟩ := ih (by omega)
    have hle := own_np_le (own_fb cs) (own_u8 cs).length
    have hlt : j < cs.length := by
      rcases Nat.lt_or_ge j cs.length with q | q
      · exact q
      · rw [List.take_of_length_le q] at h2; omega
    have hg := own_u8get (t := 0) hlt (by have := own_uil (cs.getD j 0); omega)
    rw [← h2, Nat.add_zero] at hg
    have hp := own_np_pos (f := own_fb cs) (n := (own_u8 cs).length) (j := j) (by omega)
    have hc : cs.getD j 0 < 128 := by
      by_cases q : cs.getD j 0 < 128
      · exact q
      · exact absurd ((own_first (hch j)).mpr q) (by unfold own_fb at hp; rw [hg] at hp; exact hp)
    refine ⟨hlt, ?_, fun t ht => ?_⟩
    · rw [own_u8S hlt, List.length_append, own_ui1 hc, ← h2]; rfl
    · rcases Nat.lt_succ_iff_lt_or_eq.mp ht with q | q
      · exact h3 t q
      · rw [q]; exact hc
theorem own_npA {cs : List Nat} (hch : ∀ j, cs.getD j 0 < 32768) (h : own_np (own_fb cs) (own_u8 cs).length = (own_u8 cs).length) : ∀ j, j < cs.length → cs.getD j 0 < 128 := by
  have k := own_npk hch (own_u8 cs).length (by omega)
  have g := own_u8ge cs
  exact fun j hj => k.2.2 j (by omega)
theorem own_npS {cs : List Nat} (hch : ∀ j, cs.getD j 0 < 32768) (h : ¬ own_np (own_fb cs) (own_u8 cs).length = (own_u8 cs).length) : own_np (own_fb cs) (own_u8 cs).length < cs.length ∧ own_np (own_fb cs) (own_u8 cs).length = (own_u8 (cs.take (own_np (own_fb cs) (own_u8 cs).length))).length ∧ (∀ t, t < own_np (own_fb cs) (own_u8 cs).length → cs.getD t 0 < 128) ∧ cs.length < (own_u8 cs).length := by
  have hle := own_np_le (own_fb cs) (own_u8 cs).length
  obtain ⟨h1, h2, h3⟩ := own_npk hch _ (Nat.le_refl (own_np (own_fb cs) (own_u8 cs).length))
  have hng := own_np_neg (f := own_fb cs) (n := (own_u8 cs).length) (by omega)
  have hlt : own_np (own_fb cs) (own_u8 cs).length < cs.length := by
    rcases Nat.lt_or_ge (own_np (own_fb cs) (own_u8 cs).length) cs.length with q | q
    · exact q
    · rw [List.take_of_length_le q] at h2; omega
  refine ⟨hlt, h2, h3, ?_⟩
  have hg := own_u8get (t := 0) hlt (by have := own_uil (cs.getD (own_np (own_fb cs) (own_u8 cs).length) 0); omega)
  rw [← h2, Nat.add_zero] at hg
  have hc : ¬ cs.getD (own_np (own_fb cs) (own_u8 cs).length) 0 < 128 := (own_first (hch _)).mp (by unfold own_fb at hng ⊢; unfold own_fb at hg; rw [hg] at hng; exact hng)
  have l := congrArg List.length (own_u8at hlt)
  simp only [List.length_append] at l
  have g := own_u8ge (cs.drop (own_np (own_fb cs) (own_u8 cs).length + 1))
  rw [List.length_drop] at g
  have u : 2 ≤ (own_ui (cs.getD (own_np (own_fb cs) (own_u8 cs).length) 0)).length := by
    by_cases q : cs.getD (own_np (own_fb cs) (own_u8 cs).length) 0 < 2048
    · rw [own_ui2 hc q]; simp
    · rw [own_ui3 q]; simp
  omega
theorem own_slice {u : List Int} {vs : List Value} {off : Nat} (h : ∀ t, t < u.length → vs[off + t]? = some (.int (Int32.ofInt (u.getD t 0)))) : (vs.drop off).take u.length = own_bv u := by
  apply List.ext_getElem?
  intro t
  rcases Nat.lt_or_ge t u.length with q | q
  · rw [List.getElem?_take_of_lt q, List.getElem?_drop, h t q, own_bvat q]
  · rw [List.getElem?_take_eq_none q, List.getElem?_eq_none (by rw [own_bvlen]; exact q)]
theorem own_arstart {cs : List Nat} {i : Nat} (h : i = (own_u8 (cs.take i)).length) (hc : ∀ t, t < i → cs.getD t 0 < 128) (hl : i ≤ cs.length) : own_bv (own_u8 cs) = own_lv (cs.take i) ++ (own_bv (own_u8 cs)).drop i := by
  have e : own_lv (cs.take i) = own_bv (own_u8 (cs.take i)) := own_lv8 fun j hj => by
    rw [List.length_take] at hj
    have q := hc j (by omega)
    simpa [List.getD_eq_getElem?_getD, List.getElem?_take, show j < i by omega] using q
  have f : (own_bv (own_u8 cs)).take i = own_bv (own_u8 (cs.take i)) := by
    conv => lhs; rw [← List.take_append_drop i cs, own_u8app, own_bvapp]
    rw [List.take_append_of_le_length (by rw [own_bvlen]; omega), List.take_of_length_le (by rw [own_bvlen]; omega)]
  rw [e, ← f, List.take_append_drop]
theorem own_wvpt {cs : List Nat} {n M : Nat} (h : cs.length = n) : (own_pad (own_wv cs) M (.int 0)).take (2 * n) = own_wv cs := by
  have e := own_padtake (us := own_wv cs) (n := M) (d := .int 0)
  rw [own_wvlen, h] at e; exact e
theorem own_arpt {cs : List Nat} {X : List Value} {i n : Nat} (h : cs.length = n) (hi : i = n) : (own_lv (cs.take i) ++ X).take n = own_lv cs := by
  rw [List.take_of_length_le (l := cs) (by omega)]
  have e : (own_lv cs).length = n := by rw [own_lvlen]; exact h
  rw [← e]; simp
end OwnDec
section OwnLdc
variable {p : Program} {l : Launch} {e : Env} {R : Room} {s : State} {m : MethodId} {args : Array Value} {below : List Frame} {meth : Method} {c : Code} {T : State} {locs : List Loc} {cells slots : Nat}
theorem own_ldcwInt (X : Stand p l e R s m args below meth c T locs cells slots) (hexec : p.tables.exec = Jvm.exec) {own : String} {index : Nat} {v : Int32} (hown : s.vm.findClass own = some m.cls) (hconst : (Cond.constant own index v).before args s = true) {g : JFrame} (hg : g.method = m) (hdg : decode c.code g.pc = .ok (.ldc_w index, 3)) :
    ∀ target, Steps p.tables e below (T.setTop { g with pc := g.pc + 3, stack := .int v :: g.stack }) target → Steps p.tables e below (T.setTop g) target := by
  intro target hrest
  obtain ⟨k, cf, bytes, hk, hcf, hcp, hv⟩ := Cond.constant_spec hown hconst
  obtain ⟨k', hk', he⟩ := X.warmed.alike.2.2 _ _ hk
  subst hg
  jvm_step X.here [hexec, hdg, ldc_w.wp_int (s := T) (f := g) X.here.top hk' (by rw [he]; exact hcf) hcp, hv]
  exact hrest
end OwnLdc

def own_PK (Z : State) (z : Int32) : Prop := (Sta Z Z.heap "java/lang/String" "COMPACT_STRINGS" "Z" (.int z)) ∧ (¬ (z = (0 : Int32))) ∧ (Sta Z Z.heap "java/lang/StringUTF16" "$assertionsDisabled" "Z" (.int (1 : Int32))) ∧ (Sta Z Z.heap "java/lang/StringUTF16" "HI_BYTE_SHIFT" "I" (.int (0 : Int32))) ∧ (Sta Z Z.heap "java/lang/StringUTF16" "LO_BYTE_SHIFT" "I" (.int (8 : Int32)))
def own_UK (Z : State) (u : Addr) : Prop := (Sta Z Z.heap "sun/nio/cs/UTF_8" "INSTANCE" "Lsun/nio/cs/UTF_8;" (.ref u)) ∧ (Sta Z Z.heap "java/nio/charset/StandardCharsets" "UTF_8" "Ljava/nio/charset/Charset;" (.ref u)) ∧ (Exa Z Z.heap u "sun/nio/cs/UTF_8")
def own_FK (Z : State) (fm : Value) : Prop := (Sta Z Z.heap "jdk/internal/util/Preconditions" "SIOOBE_FORMATTER" "Ljava/util/function/BiFunction;" fm) ∧ (fm.isRef = true)
section OwnH
variable {p : Program} {l : Launch} {e : Env} {R : Room} {s : State} {m : MethodId} {args : Array Value} {below : List Frame} {meth : Method} {c : Code} {T : State} {locs : List Loc} {cells slots : Nat} {Z : State} {a0 : Array Value} {h h' h0 : Heap} {vm vm0 vm1 : Vm} {EL : List (String × Nat)} {x : Addr} {ws : List Addr}
/-- the walk's goal where the constants of EL may be loaded, here and in callees, before and behind -/
def own_GH (p : Program) (e : Env) (s : State) (below : List Frame) (Z : State) (EL : List (String × Nat)) (Q : Option Value → Heap → List Loc → Prop) (kc ks : Nat) (S : State) : Prop :=
  ∃ s₂ o, Steps p.tables e below S s₂ ∧ s₂.status = .running ∧ Ended s₂ below o ∧ ∃ v L, o = .returned v ∧ Q v s₂.heap L ∧ CHr Z EL s.vm s.heap s₂.vm s₂.heap ∧ ReturnedEndW s o s₂ L kc ks
theorem own_goH {Q : Option Value → Heap → List Loc → Prop} {kc ks : Nat} {S S' : State} (k : ∀ t, Steps p.tables e below S' t → Steps p.tables e below S t) (g : own_GH p e s below Z EL Q kc ks S') : own_GH p e s below Z EL Q kc ks S := by
  obtain ⟨s2, o, h1, h2⟩ := g
  exact ⟨s2, o, k _ h1, h2⟩
theorem own_endH (X : Stand p l e R (s.setVm vm0) m args below meth c T locs cells slots) (hZ : Z.Warmed39 vm0) (hEL : EW Z a0 EL) (hh : s.heap = h0) (C : CHr Z EL s.vm h0 vm0 T.heap) : CHr Z EL s.vm s.heap T.vm T.heap := by
  rw [hh]; exact C.trans (CHv.at X hZ hEL C.1)
theorem own_retVH {Q : Option Value → Heap → List Loc → Prop} {kc ks : Nat} (X : Stand p l e R (s.setVm vm0) m args below meth c T locs cells slots) {k0 : Nat} (hS : s.Since vm0 k0) (hk : k0 ≤ T.heap.size) (hZ : Z.Warmed39 vm0) (hEL : EW Z a0 EL) (hh : s.heap = h0) (C : CHr Z EL s.vm h0 vm0 T.heap) (hx : p.tables.exec = Jvm.exec) (hlk : meth.locks = false) (hret : meth.sig.returnType = none) {pc : Nat} {Ls : Array Slot} (hd : decode c.code pc = .ok (.return_, 1)) (hc : cells ≤ kc) (hs : slots ≤ ks) (hQ : Q none T.heap locs) :
    own_GH p e s below Z EL Q kc ks (T.setTop (mkF m pc Ls [])) := by
  obtain ⟨fs, hr, hrun, hended, hW, hsame⟩ := X.leave (v := none) (fun _ => rfl) hlk
  exact ⟨_, _, X.returnOut hx hret hd hr, hrun, hended, _, _, rfl, hQ, (show CHr Z EL s.vm s.heap T.vm T.heap from own_endH X hZ hEL hh C), own_endW hS hk hW hsame hc hs⟩
theorem own_retNH {Q : Option Value → Heap → List Loc → Prop} {kc ks : Nat} (X : Stand p l e R (s.setVm vm0) m args below meth c T locs cells slots) {k0 : Nat} (hS : s.Since vm0 k0) (hk : k0 ≤ T.heap.size) (hZ : Z.Warmed39 vm0) (hEL : EW Z a0 EL) (hh : s.heap = h0) (C : CHr Z EL s.vm h0 vm0 T.heap) (hx : p.tables.exec = Jvm.exec) (hlk : meth.locks = false) {t : FieldType} (hret : meth.sig.returnType = some t) (ht : t = .boolean ∨ t = .byte ∨ t = .char ∨ t = .short) {pc : Nat} {Ls : Array Slot} {z : Int32} {rest : List Value} (hd : decode c.code pc = .ok (.ireturn, 1)) (hc : cells ≤ kc) (hs : slots ≤ ks) (hQ : Q (some (.int (nar t z))) T.heap locs) :
    own_GH p e s below Z EL Q kc ks (T.setTop (mkF m pc Ls (.int z :: rest))) := by
  obtain ⟨fs, hr, hrun, hended, hW, hsame⟩ := X.leave (v := some (.int (nar t z))) (fun h => by rw [hret] at h; cases h) hlk
  exact ⟨_, _, retN X hx hret ht hd hr, hrun, hended, _, _, rfl, hQ, (show CHr Z EL s.vm s.heap T.vm T.heap from own_endH X hZ hEL hh C), own_endW hS hk hW hsame hc hs⟩
theorem own_retAH {Q : Option Value → Heap → List Loc → Prop} {kc ks : Nat} (X : Stand p l e R (s.setVm vm0) m args below meth c T locs cells slots) {k0 : Nat} (hS : s.Since vm0 k0) (hk : k0 ≤ T.heap.size) (hZ : Z.Warmed39 vm0) (hEL : EW Z a0 EL) (hh : s.heap = h0) (C : CHr Z EL s.vm h0 vm0 T.heap) (hx : p.tables.exec = Jvm.exec) (hlk : meth.locks = false) {t : FieldType} (hret : meth.sig.returnType = some t) (ht : t.isReference = true) {pc : Nat} {Ls : Array Slot} {w : Value} (hv : w.isRef = true) {rest : List Value} (hd : decode c.code pc = .ok (.areturn, 1)) (hc : cells ≤ kc) (hs : slots ≤ ks) (hQ : Q (some w) T.heap locs) :
    own_GH p e s below Z EL Q kc ks (T.setTop (mkF m pc Ls (w :: rest))) := by
  obtain ⟨fs, hr, hrun, hended, hW, hsame⟩ := X.leave (v := some w) (fun h => by rw [hret] at h; cases h) hlk
  have hn : narrow t w = w := by rcases ref_cases hv with rfl | ⟨z, rfl⟩ <;> cases t <;> rfl
  exact ⟨_, _, retOut X hx hret hn (Or.inr (Or.inr (Or.inr (Or.inr ⟨rfl, ht, hv⟩)))) hd hr, hrun, hended, _, _, rfl, hQ, (show CHr Z EL s.vm s.heap T.vm T.heap from own_endH X hZ hEL hh C), own_endW hS hk hW hsame hc hs⟩
/-- not to be taken for a constant's cell, and there -/
def own_Sf (Z : State) (EL : List (String × Nat)) (vm : Vm) (h : Heap) (x : Addr) : Prop := Safe Z EL vm h x ∧ x < h.size
theorem own_Sf.go (S : own_Sf Z EL vm h x) (A : CHr Z EL vm h vm1 h') : own_Sf Z EL vm1 h' x := ⟨A.safe S.2 S.1, Nat.lt_of_lt_of_le S.2 A.2.1⟩
theorem own_Sf.ext (H : CHv Z EL vm h) (E : Ext h h') (g : x = h.size) (lt : x < h'.size) : own_Sf Z EL vm h' x := ⟨Safe.ext E H (Safe.new (Nat.le_of_eq g.symm)), lt⟩
theorem own_Sf.keep (H : CHv Z EL vm h) (K : Keep h h' ws) (hs : ∀ y ∈ ws, Safe Z EL vm h y) (g : h.size ≤ x) (lt : x < h'.size) : own_Sf Z EL vm h' x := ⟨Safe.keep K hs H (Safe.new g), lt⟩
theorem own_safeAr {k : ClassId} {ty : FieldType} {vs : List Value} (hal : Z.vm.Alike vm) (F : own_Ar Z h x k ty vs) (ht : ty ≠ .byte) : Safe Z EL vm h x := by obtain ⟨c, A, -⟩ := F; exact Safe.arr hal A ht
/-- a callee with an exception table, whose law keeps the constants' invariant, pays a BackS -/
theorem own_backSX {y : MethodName} {bytes : ByteArray} {maxL : Nat} {ret : Option FieldType} {hs : List (Nat × Nat × Nat × Nat)} {rm : Room} {len W : Nat} {as' : Array Value} {Q : Option Value → Heap → List Loc → Prop}
    (hM : MetFree l y (head1 [Cond.codeWith y bytes maxL ret hs] rm) (fun a U => a = as' ∧ Z.Warmed39 U.vm ∧ U.heap = h ∧ CHv Z EL U.vm h) (fun _ _ _ _ _ => True) (fun _ U o U' => ∃ v L, o = .returned v ∧ Q v U'.heap L ∧ CHr Z EL U.vm U.heap U'.vm U'.heap ∧ ReturnedEndW U o U' L rm.cells rm.slots))
    (hZ : Z.Warmed39 vm0) (wc : (Cond.codeWith y bytes maxL ret hs).before a0 Z = true) (wz : (Cond.initialized y.cls).before a0 Z = true) (hf : rm.frames + 1 ≤ R.frames) (hl : W + (maxL + 11) + rm.locals ≤ R.locals) (hEL : EW Z a0 EL) (H : CHv Z EL vm0 h) :
    BackS l R p e below (s.setVm vm0) args y len W (fun A a => a = as' ∧ A.U.heap = h ∧ A.cells + rm.cells ≤ R.cells ∧ A.slots + rm.slots ≤ R.slots)
      (fun A _ v B => ∃ L, Q v B.U.heap L ∧ B.locs = A.locs ++ L ∧ B.cells = A.cells + rm.cells ∧ B.slots = A.slots + rm.slots ∧ CHr Z EL vm0 h B.U.vm B.U.heap) := by
  intro m meth c A g ig mk a X hg hsize hdg hW hn hp
  subst hg
  obtain ⟨U, Ls, c0, s0⟩ := A
  obtain ⟨hp1, hp2, hp3, hp4⟩ := hp
  dsimp only [Pt.U, Pt.locs, Pt.cells, Pt.slots] at hp1 hp2 hp3 hp4 X hn ⊢
  have hU : Z.Warmed39 U.vm := wtrans (s := s.setVm vm0) hZ X.warmed
  have wcU : (Cond.codeWith y bytes maxL ret hs).before a U = true := mv hU wc
  obtain ⟨mk', methY, cY, hn', hmY, hcY, -, hlY, -, -, -, -⟩ := Cond.codeWith_spec wcU
  cases hn.symm.trans hn'
  obtain ⟨kY, hkY, -⟩ := className_of_methodNamed hn
  have hin : kY.init = .initialized := Cond.initialized_spec (findClass_of_methodNamed hn) hkY (mv hU wz (args := a))
  have hAt : At U g.method c below := X.here
  have happ : (head1 [Cond.codeWith y bytes maxL ret hs] rm).appliesLoose y e.platform (U.calling g mk a) = true :=
    Spec.appliesLoose_calling (g := g) hAt hdg hn hkY hin (X.room_calling (g := g) (R' := rm) hsize hmY hcY hf (by rw [hlY]; omega) hp3 hp4)
      (by show (Cond.and _ .tt).before a U = true; rw [Cond.before_and, wcU]; rfl)
  obtain ⟨mid, hmid⟩ := hAt.above
  obtain ⟨o, t, hsteps, -, hend, v, L, rfl, hQ, hC, hE⟩ := Steps.callFree hM p X.admits X.cas X.clock (acts := []) (show (U.setTop g).frames = (.java g :: mid) ++ below by rw [State.frames_setTop' g hAt.top, hmid]; rfl) happ ⟨hp1, hU, hp2, (CHv.at X hZ hEL H).1⟩ trivial
  rw [State.frames_setTop' g hAt.top] at hend
  have hE2 : ReturnedEndW (U.calling g mk a) (.returned v) t L rm.cells rm.slots := hE
  obtain ⟨-, hW2, hB2, e2, q2, q3, q4, q5, q6⟩ := hE2
  have hW2' : U.Warmed39 t.vm := hW2
  obtain ⟨c2, i2, len2, hc2, hd2, hf2⟩ := hend
  obtain rfl : c2 = c := Option.some.inj (hc2.symm.trans ((show t.code? g.method = U.code? g.method by rw [State.code?_eq, State.code?_eq, hW2'.alike.method?]).trans hAt.code))
  obtain rfl : len2 = len := by rw [hdg] at hd2; cases hd2; rfl
  obtain ⟨g0, hg0⟩ := Option.isSome_iff_exists.mp hAt.top
  obtain ⟨r, hr⟩ := State.topJava?_eq_some.mp hg0
  have ht : t = (({ U with heap := t.heap, slotsUsed := t.slotsUsed } : State).setVm t.vm).setTop { g with pc := g.pc + len2, stack := v.toList ++ g.stack } := by
    have a1 : t = ({ (U.calling g mk a).setFrames t.frames with heap := t.heap, slotsUsed := t.slotsUsed } : State).setVm t.vm := by
      have a2 : t = ({ t with vm := (U.calling g mk a).vm } : State).setVm t.vm := rfl
      rw [e2] at a2; exact a2
    have a3 : (({ U with heap := t.heap, slotsUsed := t.slotsUsed } : State).setVm t.vm).frames = .java g0 :: r := hr
    refine a1.trans ?_
    rw [hf2, State.calling_eq hAt.top, State.setFrames_setFrames, State.setTop_of_frames _ a3, hr]
    rfl
  have hsame : U.sameButNew ({ U with heap := t.heap, slotsUsed := t.slotsUsed } : State) L rm.cells rm.slots := by
    obtain ⟨w, hw, -⟩ := State.frames_cons hr
    refine ⟨?_, q2, q3, q4, q5, q6⟩
    show ({ U with heap := t.heap, slotsUsed := t.slotsUsed } : State) = { U.setFrames U.frames with heap := t.heap, slotsUsed := t.slotsUsed }
    rw [State.setFrames_self hw]
  obtain ⟨X', hS⟩ := X.movedW (T₂ := (({ U with heap := t.heap, slotsUsed := t.slotsUsed } : State).setVm t.vm)) ((X.here.setHeapUsed t.heap t.slotsUsed).setVm hW2'.alike) X.tail rfl rfl hW2' hB2 hsame
  refine ⟨v, ⟨(({ U with heap := t.heap, slotsUsed := t.slotsUsed } : State).setVm t.vm), Ls ++ L, c0 + rm.cells, s0 + rm.slots⟩, X', hS, hsame.2.1, ⟨L, hQ, rfl, rfl, rfl, (CHv.at X hZ hEL H).trans (by rw [← hp2]; exact hC)⟩, ?_⟩
  show Steps p.tables e below _ ((({ U with heap := t.heap, slotsUsed := t.slotsUsed } : State).setVm t.vm).setTop { g with pc := g.pc + len2, stack := v.toList ++ g.stack })
  rw [← ht]
  exact hsteps
theorem own_specialBackSX (X : Stand p l e R s m args below meth c T locs cells slots) (hexec : p.tables.exec = Jvm.exec) {own : String} {index : Nat} {y : MethodName} (hy1 : y.name = "<init>")
    (hown : s.vm.findClass own = some m.cls) (hlink : (Cond.methodLink own index y).before args s = true) (hinst : (Cond.instanceMethod y).before args s = true)
    {bytes : ByteArray} {maxL : Nat} {hs : List (Nat × Nat × Nat × Nat)} (hcode : (Cond.codeWith y bytes maxL none hs).before args s = true)
    (hy : y.cls ≠ "java/lang/invoke/MethodHandle" ∧ y.cls ≠ "java/lang/invoke/VarHandle")
    {W : Nat} {Pre : Pt → Array Value → Prop} {Post : Pt → Array Value → Option Value → Pt → Prop} (hK : BackS l R p e below s args y 3 W Pre Post)
    {g : JFrame} (hg : g.method = m) (hsize : g.locals.size = c.maxLocals) {s₀ : State} (hcome : Steps p.tables e below s₀ (T.setTop g)) {a : Addr} {argsL rest : List Value}
    (hlen : ∀ sig, parseMethodDescriptor y.desc = some sig → argsL.length = sig.parameters.length) (hstack : g.stack = argsL.reverse ++ .ref a :: rest) (hW : 2 * g.monitorRoom + (rest.map fun v => v.category).sum ≤ W)
    (hdg : decode c.code g.pc = .ok (.invokespecial index, 3)) (hpre : ∀ vm₁, s.WarmedH vm₁ → Pre ⟨T.setVm vm₁, locs, cells, slots⟩ (.ref a :: argsL).toArray) :
    ∃ (v : Option Value) (vm₁ : Vm) (B : Pt), s.WarmedH vm₁ ∧ Stand p l e R (s.setVm B.U.vm) m args below meth c B.U B.locs B.cells B.slots ∧ s.Since B.U.vm B.U.heap.size ∧ T.heap.size ≤ B.U.heap.size ∧ Post ⟨T.setVm vm₁, locs, cells, slots⟩ (.ref a :: argsL).toArray v B ∧
      Steps p.tables e below s₀ (B.U.setTop { g with pc := g.pc + 3, stack := v.toList ++ rest }) := by
  obtain ⟨mk, -, -, -, vm₁, hnamed, -, -, -, -, -, -, -, hW₁, st⟩ := Steps.initColdArgsH (e := e) X.here hexec X.warmed (by rw [X.admits.platform]) hown hy1 hy hlink hinst hcode (f := g) hg hlen hstack hdg
  have X₁ := X.noted hW₁
  obtain ⟨v, B, X', hS, hgr, hpost, come⟩ := hK m meth c ⟨T.setVm vm₁, locs, cells, slots⟩ { g with stack := rest } (.invokespecial index) mk (.ref a :: argsL).toArray X₁ hg hsize hdg hW (X₁.named hnamed) (hpre vm₁ hW₁)
  refine ⟨v, vm₁, B, hW₁, X', hS, hgr, hpost, Steps.trans (hcome.trans (st _ fun acts => ?_)) come⟩
  rw [doInvoke_state]; exact Steps.refl _
theorem own_since (s : State) (k : Nat) : s.Since s.vm k := (State.WarmedH.refl s).since k
theorem own_ofArv0 {k : ClassId} {ty : FieldType} {d : Value} (F : Arv Z h x k ty 0 [] d) : own_Ar Z h x k ty [] := by
  obtain ⟨c, A, q, e, -, -, -⟩ := F
  exact ⟨c, A, q, Array.eq_empty_of_size_eq_zero e, by decide⟩
end OwnH
section OwnH2
variable {Z : State} {h h' : Heap} {vm : Vm} {EL : List (String × Nat)} {x a : Addr} {n n' : Nat} {cs : List Nat}
/-- a String that has no bytes yet is no constant -/
theorem own_safeNull (hal : Z.vm.Alike vm) (E : Exa Z h x "java/lang/String") (F : Fld Z h x "java/lang/String" "value" "[B" .null) : Safe Z EL vm h x := fun B => by
  obtain ⟨cell, k, e1, e2, e3, -, -⟩ := E
  obtain ⟨p, -, u, a, -, q, -, G, rfl | rfl⟩ := B
  · cases (show h[q.sa]? = some q.sC from G.ha).symm.trans e1
    obtain ⟨c1, cf, kf, i, f, f1, f2, -, -, -, -, f7⟩ := F
    cases f1.symm.trans e1
    obtain ⟨cS, ⟨⟨-, -, -, ⟨cv, kv, iv, s4, -⟩, -, -, -, s8, -⟩, -⟩, -⟩ := G
    obtain ⟨kv', z4⟩ := ff_back (U := Wst Z vm h) hal s4
    have e := z4.symm.trans f2
    simp only [Option.some.injEq, Prod.mk.injEq] at e
    rw [e.2.2.2, f7] at s8
    cases s8
  · cases (show h[q.sd]? = some q.SA from G.hd).symm.trans e1
    obtain ⟨cS, -, -, f, -⟩ := G
    have f' : vm.findClass "[B" = some q.SA.cls := f
    rw [hal.findClass] at f'
    obtain ⟨k1, q1, q2⟩ := Vm.findClass_spec f'
    obtain ⟨k2, q3, q4⟩ := Vm.findClass_spec e2
    cases q1.symm.trans q3
    exact absurd (q2.symm.trans q4) (by decide)
theorem own_Str.mono (F : own_Str Z h n a cs) (hn : n ≤ n') (hh : n' ≤ h.size) : own_Str Z h n' a cs := by
  obtain ⟨q1, q2, q3, q4, d, kd, q5, q6⟩ := F
  exact ⟨hh, Nat.lt_of_lt_of_le q2 hn, q3, q4, d, kd, Nat.lt_of_lt_of_le q5 hn, q6⟩
theorem own_and3 (x : Int32) : x &&& 3 = 0 ∨ x &&& 3 = 1 ∨ x &&& 3 = 2 ∨ x &&& 3 = 3 := by
  have m := c_mask x 3 2 (by decide) (by decide)
  have d : ∀ k : Int32, (x &&& 3).toInt = k.toInt → x &&& 3 = k := fun k h => Int32.toInt_inj.mp h
  have e0 : (0 : Int32).toInt = 0 := rfl
  have e1 : (1 : Int32).toInt = 1 := rfl
  have e2 : (2 : Int32).toInt = 2 := rfl
  have e3 : (3 : Int32).toInt = 3 := rfl
  have r : (x &&& 3).toInt = 0 ∨ (x &&& 3).toInt = 1 ∨ (x &&& 3).toInt = 2 ∨ (x &&& 3).toInt = 3 := by omega
  rcases r with r | r | r | r
  · exact Or.inl (d 0 (r.trans e0.symm))
  · exact Or.inr (Or.inl (d 1 (r.trans e1.symm)))
  · exact Or.inr (Or.inr (Or.inl (d 2 (r.trans e2.symm))))
  · exact Or.inr (Or.inr (Or.inr (d 3 (r.trans e3.symm))))
theorem own_and1 (x : Int32) : x &&& 1 = 0 ∨ x &&& 1 = 1 := by
  have m := c_mask x 1 1 (by decide) (by decide)
  have r : (x &&& 1).toInt = 0 ∨ (x &&& 1).toInt = 1 := by omega
  rcases r with r | r
  · exact Or.inl (Int32.toInt_inj.mp r)
  · exact Or.inr (Int32.toInt_inj.mp r)
theorem own_i2cO {n : Nat} (h : n < 32768) : (Int32.ofNat n).toUInt32.toUInt16.toUInt32.toInt32 = Int32.ofNat n := own_i2c (by rw [own_nat (by omega)]; omega) (by rw [own_nat (by omega)]; omega)
theorem own_chE (x : Int32) : ∃ n : Nat, n < 32768 ∧ nar .char ((x &&& (32767 : Int32)).toUInt32.toUInt16.toUInt32.toInt32) = Int32.ofNat n := by
  have m := c_mask x 32767 15 (by decide) (by decide)
  refine ⟨(x &&& (32767 : Int32)).toInt.toNat, by omega, ?_⟩
  have e : x &&& (32767 : Int32) = Int32.ofNat (x &&& (32767 : Int32)).toInt.toNat := by
    apply Int32.toInt_inj.mp
    rw [own_nat (by omega)]; omega
  show (((x &&& (32767 : Int32)).toUInt32.toUInt16.toUInt32.toInt32).toUInt32.toUInt16.toUInt32.toInt32) = _
  rw [own_i2c (x := x &&& (32767 : Int32)) (by omega) (by omega), own_i2c (by omega) (by omega)]; exact e
theorem own_cvset {l : List Nat} {i n : Nat} : (own_cv l).set i (.int (Int32.ofNat n)) = own_cv (l.set i n) := by simp [own_cv, List.map_set]
theorem own_cvrep (k : Nat) : List.replicate k (Value.int 0) = own_cv (List.replicate k 0) := by simp [own_cv]
theorem own_bset {l : List Nat} {i n B : Nat} (h : ∀ j, l.getD j 0 < B) (hn : n < B) : ∀ j, (l.set i n).getD j 0 < B := fun j => by
  rw [List.getD_eq_getElem?_getD, List.getElem?_set]
  split
  · split
    · exact hn
    · exact Nat.lt_of_le_of_lt (Nat.zero_le _) hn
  · rw [← List.getD_eq_getElem?_getD]; exact h j
theorem own_brep {k B : Nat} (hB : 0 < B) : ∀ j, (List.replicate k 0).getD j 0 < B := fun j => by
  rw [List.getD_eq_getElem?_getD, List.getElem?_replicate]
  split <;> exact hB
theorem own_enlen (cs : List Nat) : (own_en cs).length = (own_vl (own_u8 cs).length).length + (own_u8 cs).length := by simp [own_en]
theorem own_get {bl pre mid post : List Int} (hb : bl = pre ++ (mid ++ post)) {t P : Nat} (hP : P = pre.length + t) (ht : t < mid.length) : (own_pad (own_bv bl) 4096 (.int 0))[P]? = some (.int (Int32.ofInt (mid.getD t 0))) := by
  have hl := congrArg List.length hb
  simp only [List.length_append] at hl
  rw [own_padget (by rw [own_bvlen]; omega), own_bvat (by omega), hb, hP]
  congr 3
  rw [List.getD_eq_getElem?_getD, List.getElem?_append_right (by omega), Nat.add_sub_cancel_left, List.getElem?_append_left ht, List.getD_eq_getElem?_getD]
theorem own_src {bl pre post : List Int} {cs : List Nat} (hb : bl = pre ++ (own_en cs ++ post)) {P : Nat} (hP : P = pre.length + (own_vl (own_u8 cs).length).length) : ∀ t, t < (own_u8 cs).length → (own_pad (own_bv bl) 4096 (.int 0))[P + t]? = some (.int (own_fb cs t)) := fun t ht => by
  have hb2 : bl = (pre ++ own_vl (own_u8 cs).length) ++ (own_u8 cs ++ post) := by rw [hb]; simp [own_en]
  exact own_get hb2 (by rw [List.length_append]; omega) ht
theorem own_v1 : ∀ N, N < 128 → ((0 : Int32) ||| ((Int32.ofInt (N : Nat) &&& (127 : Int32)) <<< ((0 : Int32) &&& 31))) = Int32.ofNat N ∧ (Int32.ofInt (N : Nat) &&& (128 : Int32)) = 0 := by decide +kernel
theorem own_v2 : ∀ N, N < 400 → 128 ≤ N → ((0 : Int32) ||| ((Int32.ofInt ((N % 128 : Nat) - 128 : Int) &&& (127 : Int32)) <<< ((0 : Int32) &&& 31))) = Int32.ofNat (N % 128) ∧ ¬ ((Int32.ofInt ((N % 128 : Nat) - 128 : Int) &&& (128 : Int32)) = 0) ∧ (Int32.ofNat (N % 128) ||| ((Int32.ofInt ((N / 128 : Nat) : Int) &&& (127 : Int32)) <<< ((7 : Int32) &&& 31))) = Int32.ofNat N ∧ (Int32.ofInt ((N / 128 : Nat) : Int) &&& (128 : Int32)) = 0 := by decide +kernel
end OwnH2
section OwnCodes
variable {args : Array Value} {first s Z : State} {o : Option Outcome} {idx : List Nat} {a b : Term} {h : Heap}
theorem own_eqR {x : Addr} (h : (Cond.eq a b).value args first o s idx = some true) (hb : b.eval args first o idx s = some (.ref x)) : a.eval args first o idx s = some (.ref x) := by
  simp only [Cond.value] at h
  cases ha : a.eval args first o idx s with
  | none => simp [ha] at h
  | some y => cases y <;> simp [ha, hb] at h ⊢; exact h
theorem own_nz {t : Term} {z : Int32} (e : t.eval args s none [] s = some (.int z)) (h : (Cond.not (Cond.eq t (.int 0))).value args s none s [] = some true) : ¬ (z = (0 : Int32)) := by
  have h1 := not_v h
  intro q; subst q
  simp [Cond.value, e, Term.eval] at h1
end OwnCodes
section OwnSeg
variable {p : Program} {e : Env} {below : List Frame}
/-- a stretch of the walk: from S it comes to some U of which P holds -/
def own_SG (p : Program) (e : Env) (below : List Frame) (P : State → Prop) (S : State) : Prop := ∃ U, P U ∧ ∀ target, Steps p.tables e below U target → Steps p.tables e below S target
theorem own_goS {P : State → Prop} {S S' : State} (k : ∀ t, Steps p.tables e below S' t → Steps p.tables e below S t) (g : own_SG p e below P S') : own_SG p e below P S := by
  obtain ⟨U, h, f⟩ := g
  exact ⟨U, h, fun t q => k t (f t q)⟩
end OwnSeg
theorem ww {a0 : Array Value} {Z : State} (hw : ∀ d ∈ tables_1, d.before a0 Z = true) (i : Nat) {d : Cond} (e : tables_1[i]? = some d) : d.before a0 Z = true := hw _ (List.mem_of_getElem? e)
abbrev DL (b : ByteArray) (l : List (Nat × Instr × Nat)) : Prop := (l.all fun x => decide (decode b x.1 = .ok (x.2.1, x.2.2))) = true
theorem dq {c : Code} {b : ByteArray} {l : List (Nat × Instr × Nat)} (h : c.code = b) (D : DL b l) (i : Nat) {pc n : Nat} {ins : Instr} (e : l[i]? = some (pc, ins, n)) : decode c.code pc = .ok (ins, n) := by
  have q := List.all_eq_true.mp D _ (List.mem_of_getElem? e)
  dsimp only at q
  rw [h]; exact of_decide_eq_true q
abbrev vi (x : Int32) : Slot := .val (.int x)
abbrev vr (a : Addr) : Slot := .val (.ref a)
abbrev M0 : MethodName := ⟨"java/lang/String", "equals", "(Ljava/lang/Object;)Z"⟩
abbrev M1 : MethodName := ⟨"com/example/vestwright/vestwright/cli/TableRows", "cells", "(I)[Ljava/lang/String;"⟩
abbrev M2 : MethodName := ⟨"com/example/vestwright/vestwright/cli/TableRows", "add", "([Ljava/lang/String;I)Z"⟩
abbrev M3 : MethodName := ⟨"java/lang/String", "getBytes", "(Ljava/nio/charset/Charset;)[B"⟩
abbrev M4 : MethodName := ⟨"java/lang/StringUTF16", "putChar", "([BII)V"⟩
abbrev M5 : MethodName := ⟨"java/lang/StringUTF16", "getChar", "([BI)C"⟩
abbrev M6 : MethodName := ⟨"java/util/Arrays", "copyOf", "([BI)[B"⟩
abbrev M7 : MethodName := ⟨"java/lang/StringUTF16", "newBytesFor", "(I)[B"⟩
abbrev M8 : MethodName := ⟨"jdk/internal/util/Preconditions", "checkFromIndexSize", "(IIILjava/util/function/BiFunction;)I"⟩
abbrev M9 : MethodName := ⟨"java/lang/String", "<init>", "(Ljava/nio/charset/Charset;[BII)V"⟩
abbrev M10 : MethodName := ⟨"com/example/vestwright/vestwright/cli/TableRowsCellsPinLaw", "pick", "(II)Ljava/lang/String;"⟩
abbrev M11 : MethodName := ⟨"java/lang/String", "<init>", "([C)V"⟩
abbrev M12 : MethodName := ⟨"com/example/vestwright/vestwright/cli/TableRows", "writeLength", "(I)V"⟩
abbrev M13 : MethodName := ⟨"java/lang/String", "<init>", "([BIILjava/nio/charset/Charset;)V"⟩
abbrev M14 : MethodName := ⟨"java/lang/StringCoding", "countPositives", "([BII)I"⟩
abbrev M15 : MethodName := ⟨"java/lang/Math", "min", "(II)I"⟩
abbrev M16 : MethodName := ⟨"java/util/Arrays", "copyOfRange", "([BII)[B"⟩
abbrev M17 : MethodName := ⟨"java/lang/Character", "isSurrogate", "(C)Z"⟩
abbrev M18 : MethodName := ⟨"java/lang/String", "decode2", "(II)C"⟩
abbrev M19 : MethodName := ⟨"java/lang/String", "coder", "()B"⟩
abbrev M20 : MethodName := ⟨"com/example/vestwright/vestwright/cli/TableRows", "<init>", "(I)V"⟩
abbrev M21 : MethodName := ⟨"com/example/vestwright/vestwright/cli/TableRows", "ensureRoom", "(I)V"⟩
abbrev M22 : MethodName := ⟨"java/lang/String", "checkBoundsOffCount", "(III)I"⟩
abbrev M23 : MethodName := ⟨"java/lang/StringLatin1", "inflate", "([BI[BII)V"⟩
abbrev M24 : MethodName := ⟨"java/lang/String", "decodeUTF8_UTF16", "([BII[BIZ)I"⟩
abbrev M25 : MethodName := ⟨"com/example/vestwright/vestwright/cli/TableRowsCellsPinLaw", "ch", "(I)C"⟩
abbrev M26 : MethodName := ⟨"java/lang/StringUTF16", "newBytesLength", "(I)I"⟩
abbrev M27 : MethodName := ⟨"java/lang/StringUTF16", "toBytes", "([CII)[B"⟩
abbrev M28 : MethodName := ⟨"java/lang/StringUTF16", "compress", "([CI[BII)I"⟩
abbrev M29 : MethodName := ⟨"java/lang/StringUTF16", "compress", "([CII)[B"⟩
abbrev M30 : MethodName := ⟨"java/lang/StringUTF16", "coderFromArrayLen", "([BI)B"⟩
abbrev M31 : MethodName := ⟨"java/lang/String", "<init>", "([CIILjava/lang/Void;)V"⟩
abbrev M32 : MethodName := ⟨"java/lang/StringCoding", "hasNegatives", "([BII)Z"⟩
abbrev M33 : MethodName := ⟨"java/util/Arrays", "checkLength", "(II)V"⟩
abbrev M34 : MethodName := ⟨"java/util/Arrays", "copyOfRangeByte", "([BII)[B"⟩
abbrev M35 : MethodName := ⟨"java/lang/String", "decode3", "(III)C"⟩
abbrev M36 : MethodName := ⟨"java/lang/String", "isNotContinuation", "(I)Z"⟩
abbrev M37 : MethodName := ⟨"java/lang/String", "isMalformed3", "(III)Z"⟩
abbrev M38 : MethodName := ⟨"java/lang/String", "encodeUTF8_UTF16", "([BZ)[B"⟩
abbrev M39 : MethodName := ⟨"java/lang/String", "encodeUTF8", "(B[BZ)[B"⟩
abbrev M40 : MethodName := ⟨"java/lang/String", "encode", "(Ljava/nio/charset/Charset;B[B)[B"⟩
abbrev M41 : MethodName := ⟨"java/lang/StringUTF16", "length", "([B)I"⟩
abbrev M42 : MethodName := ⟨"java/lang/StringUTF16", "checkBoundsOffCount", "(II[B)V"⟩
abbrev M43 : MethodName := ⟨"java/lang/StringUTF16", "inflate", "([BI[BII)V"⟩
abbrev M44 : MethodName := ⟨"java/util/Objects", "requireNonNull", "(Ljava/lang/Object;)Ljava/lang/Object;"⟩
abbrev M45 : MethodName := ⟨"java/lang/StringLatin1", "equals", "([B[B)Z"⟩
theorem D36 : DL jdk_52_method_4_code [(0, .getstatic 44, 3), (3, .ifCond .ne 25, 3), (28, .iload_n 1, 1), (29, .iconst 1, 1), (30, .ishl, 1), (31, .istore_n 1, 1), (32, .aload_n 0, 1), (33, .iload_n 1, 1), (34, .iinc 1 1, 3), (37, .iload_n 2, 1), (38, .getstatic 59, 3), (41, .ishr, 1), (42, .i2b, 1), (43, .bastore, 1), (44, .aload_n 0, 1), (45, .iload_n 1, 1), (46, .iload_n 2, 1), (47, .getstatic 63, 3), (50, .ishr, 1), (51, .i2b, 1), (52, .bastore, 1), (53, .return_, 1)] := by decide +kernel
theorem D37 : DL jdk_52_method_5_code [(0, .getstatic 44, 3), (3, .ifCond .ne 25, 3), (28, .iload_n 1, 1), (29, .iconst 1, 1), (30, .ishl, 1), (31, .istore_n 1, 1), (32, .aload_n 0, 1), (33, .iload_n 1, 1), (34, .iinc 1 1, 3), (37, .baload, 1), (38, .sipush 255, 3), (41, .iand, 1), (42, .getstatic 59, 3), (45, .ishl, 1), (46, .aload_n 0, 1), (47, .iload_n 1, 1), (48, .baload, 1), (49, .sipush 255, 3), (52, .iand, 1), (53, .getstatic 63, 3), (56, .ishl, 1), (57, .ior, 1), (58, .i2c, 1), (59, .ireturn, 1)] := by decide +kernel
theorem D32 : DL jdk_52_method_3_code [(0, .iload_n 0, 1), (1, .ifCond .ge 11, 3), (12, .iload_n 0, 1), (13, .ldc 20, 2), (15, .if_icmp .lt 40, 3), (55, .iload_n 0, 1), (56, .iconst 1, 1), (57, .ishl, 1), (58, .ireturn, 1)] := by decide +kernel
theorem D31 : DL jdk_52_method_2_code [(0, .iload_n 0, 1), (1, .invokestatic 11, 3), (4, .newarray .byte, 2), (6, .areturn, 1)] := by decide +kernel
theorem D35 : DL jdk_52_method_14_code [(8, .iload 4, 2), (10, .iload_n 2, 1), (11, .if_icmp .ge 21, 3), (32, .aload_n 3, 1), (33, .areturn, 1), (14, .aload_n 3, 1), (15, .iload 4, 2), (17, .aload_n 0, 1), (18, .iload_n 1, 1), (19, .caload, 1), (20, .invokestatic 111, 3), (23, .iinc 1 1, 3), (26, .iinc 4 1, 3), (29, .goto (-21), 3), (0, .iload_n 2, 1), (1, .invokestatic 107, 3), (4, .astore_n 3, 1), (5, .iconst 0, 1), (6, .istore 4, 2)] := by decide +kernel
theorem D7 : DL jdk_52_method_21_code [(3, .iload 5, 2), (5, .iload 4, 2), (7, .if_icmp .ge 37, 3), (44, .iload 4, 2), (46, .ireturn, 1), (10, .aload_n 0, 1), (11, .iload_n 1, 1), (12, .caload, 1), (13, .istore 6, 2), (15, .iload 6, 2), (17, .sipush 255, 3), (20, .if_icmp .le 6, 3), (26, .aload_n 2, 1), (27, .iload_n 3, 1), (28, .iload 6, 2), (30, .i2b, 1), (31, .bastore, 1), (32, .iinc 1 1, 3), (35, .iinc 3 1, 3), (38, .iinc 5 1, 3), (41, .goto (-38), 3), (23, .iload 5, 2), (25, .ireturn, 1), (0, .iconst 0, 1), (1, .istore 5, 2)] := by decide +kernel
theorem D6 : DL jdk_52_method_16_code [(0, .iload_n 2, 1), (1, .newarray .byte, 2), (3, .astore_n 3, 1), (4, .aload_n 0, 1), (5, .iload_n 1, 1), (6, .aload_n 3, 1), (7, .iconst 0, 1), (8, .iload_n 2, 1), (9, .invokestatic 115, 3), (12, .istore 4, 2), (14, .iload 4, 2), (16, .iload_n 2, 1), (17, .if_icmp .eq 40, 3), (57, .aload_n 3, 1), (58, .areturn, 1), (20, .aload_n 0, 1), (21, .iload_n 1, 1), (22, .iload_n 2, 1), (23, .invokestatic 119, 3), (26, .astore 5, 2), (28, .aload 5, 2), (30, .iload 4, 2), (32, .invokestatic 71, 3), (35, .sipush 255, 3), (38, .if_icmp .gt 16, 3), (54, .aload 5, 2), (56, .areturn, 1)] := by decide +kernel
theorem D8 : DL jdk_52_method_15_code [(0, .iload_n 1, 1), (1, .aload_n 0, 1), (2, .arraylength, 1), (3, .isub, 1), (4, .bipush 31, 2), (6, .iushr, 1), (7, .i2b, 1), (8, .ireturn, 1)] := by decide +kernel
theorem D4 : DL jdk_42_method_149_code [(0, .aload_n 0, 1), (1, .invokespecial 1, 3), (4, .iload_n 3, 1), (5, .ifCond .ne 22, 3), (27, .getstatic 38, 3), (30, .ifCond .eq 28, 3), (33, .aload_n 1, 1), (34, .iload_n 2, 1), (35, .iload_n 3, 1), (36, .invokestatic 177, 3), (39, .astore 5, 2), (41, .aload_n 0, 1), (42, .aload 5, 2), (44, .iload_n 3, 1), (45, .invokestatic 47, 3), (48, .putfield 15, 3), (51, .aload_n 0, 1), (52, .aload 5, 2), (54, .putfield 9, 3), (57, .return_, 1)] := by decide +kernel
theorem D3 : DL jdk_42_method_3_code [(0, .aload_n 0, 1), (1, .aload_n 1, 1), (2, .iconst 0, 1), (3, .aload_n 1, 1), (4, .arraylength, 1), (5, .aconst_null, 1), (6, .invokespecial 27, 3), (9, .return_, 1)] := by decide +kernel
theorem D16 : DL jdk_123_method_3_code [(7, .iload 4, 2), (9, .iload_n 3, 1), (10, .if_icmp .ge 21, 3), (31, .iload_n 2, 1), (32, .ireturn, 1), (13, .aload_n 0, 1), (14, .iload 4, 2), (16, .baload, 1), (17, .ifCond .ge 8, 3), (20, .iload 4, 2), (22, .iload_n 1, 1), (23, .isub, 1), (24, .ireturn, 1), (25, .iinc 4 1, 3), (28, .goto (-21), 3), (0, .iload_n 1, 1), (1, .iload_n 2, 1), (2, .iadd, 1), (3, .istore_n 3, 1), (4, .iload_n 1, 1), (5, .istore 4, 2)] := by decide +kernel
theorem D15 : DL jdk_123_method_2_code [(0, .aload_n 0, 1), (1, .iload_n 1, 1), (2, .iload_n 2, 1), (3, .invokestatic 7, 3), (6, .iload_n 2, 1), (7, .if_icmp .eq 7, 3), (14, .iconst 0, 1), (15, .ireturn, 1), (10, .iconst 1, 1), (11, .goto 4, 3)] := by decide +kernel
theorem D28 : DL jdk_29_method_69_code [(0, .iload_n 0, 1), (1, .iload_n 1, 1), (2, .if_icmp .gt 7, 3), (9, .iload_n 1, 1), (10, .ireturn, 1), (5, .iload_n 0, 1), (6, .goto 4, 3)] := by decide +kernel
theorem D27 : DL jdk_65_method_131_code [(0, .iload_n 1, 1), (1, .iload_n 0, 1), (2, .if_icmp .ge 35, 3), (37, .return_, 1)] := by decide +kernel
theorem D33 : DL jdk_65_method_121_code [(0, .iload_n 1, 1), (1, .aload_n 0, 1), (2, .arraylength, 1), (3, .if_icmp .ne 11, 3), (14, .iload_n 1, 1), (15, .newarray .byte, 2), (17, .astore_n 2, 1), (18, .aload_n 0, 1), (19, .iconst 0, 1), (20, .aload_n 2, 1), (21, .iconst 0, 1), (22, .aload_n 0, 1), (23, .arraylength, 1), (24, .iload_n 1, 1), (25, .invokestatic 304, 3), (28, .invokestatic 150, 3), (31, .aload_n 2, 1), (32, .areturn, 1)] := by decide +kernel
theorem D26 : DL jdk_65_method_133_code [(0, .iload_n 1, 1), (1, .iload_n 2, 1), (2, .invokestatic 343, 3), (5, .iload_n 2, 1), (6, .iload_n 1, 1), (7, .isub, 1), (8, .istore_n 3, 1), (9, .iload_n 3, 1), (10, .newarray .byte, 2), (12, .astore 4, 2), (14, .aload_n 0, 1), (15, .iload_n 1, 1), (16, .aload 4, 2), (18, .iconst 0, 1), (19, .aload_n 0, 1), (20, .arraylength, 1), (21, .iload_n 1, 1), (22, .isub, 1), (23, .iload_n 3, 1), (24, .invokestatic 304, 3), (27, .invokestatic 150, 3), (30, .aload 4, 2), (32, .areturn, 1)] := by decide +kernel
theorem D25 : DL jdk_65_method_132_code [(0, .iload_n 1, 1), (1, .ifCond .ne 9, 3), (10, .aload_n 0, 1), (11, .iload_n 1, 1), (12, .iload_n 2, 1), (13, .invokestatic 339, 3), (16, .areturn, 1)] := by decide +kernel
theorem D39 : DL jdk_89_method_16_code [(0, .iload_n 0, 1), (1, .ldc 75, 2), (3, .if_icmp .lt 13, 3), (16, .iconst 0, 1), (17, .ireturn, 1)] := by decide +kernel
theorem D34 : DL jdk_42_method_35_code [(0, .iload_n 0, 1), (1, .bipush 6, 2), (3, .ishl, 1), (4, .iload_n 1, 1), (5, .ixor, 1), (6, .sipush 3968, 3), (9, .ixor, 1), (10, .i2c, 1), (11, .ireturn, 1)] := by decide +kernel
theorem D46 : DL jdk_42_method_36_code [(0, .iload_n 0, 1), (1, .bipush 12, 2), (3, .ishl, 1), (4, .iload_n 1, 1), (5, .bipush 6, 2), (7, .ishl, 1), (8, .ixor, 1), (9, .iload_n 2, 1), (10, .ldc_w 383, 3), (13, .ixor, 1), (14, .ixor, 1), (15, .i2c, 1), (16, .ireturn, 1)] := by decide +kernel
theorem D47 : DL jdk_42_method_29_code [(0, .iload_n 0, 1), (1, .sipush 192, 3), (4, .iand, 1), (5, .sipush 128, 3), (8, .if_icmp .eq 7, 3), (15, .iconst 0, 1), (16, .ireturn, 1)] := by decide +kernel
theorem D45 : DL jdk_42_method_30_code [(0, .iload_n 0, 1), (1, .bipush (-32), 2), (3, .if_icmp .ne 14, 3), (6, .iload_n 1, 1), (7, .sipush 224, 3), (10, .iand, 1), (11, .sipush 128, 3), (14, .if_icmp .eq 25, 3), (17, .iload_n 1, 1), (18, .sipush 192, 3), (21, .iand, 1), (22, .sipush 128, 3), (25, .if_icmp .ne 14, 3), (28, .iload_n 2, 1), (29, .sipush 192, 3), (32, .iand, 1), (33, .sipush 128, 3), (36, .if_icmp .eq 7, 3), (43, .iconst 0, 1), (44, .ireturn, 1)] := by decide +kernel
theorem D38 : DL jdk_42_method_47_code [(58, .iload_n 3, 1), (59, .iload 4, 2), (61, .if_icmp .ge 294, 3), (355, .iload_n 2, 1), (356, .aload 5, 2), (358, .arraylength, 1), (359, .if_icmp .ne 6, 3), (362, .aload 5, 2), (364, .areturn, 1), (365, .aload 5, 2), (367, .iload_n 2, 1), (368, .invokestatic 102, 3), (371, .areturn, 1), (64, .aload_n 0, 1), (65, .iload_n 3, 1), (66, .iinc 3 1, 3), (69, .invokestatic 360, 3), (72, .istore 6, 2), (74, .iload 6, 2), (76, .sipush 128, 3), (79, .if_icmp .ge 16, 3), (82, .aload 5, 2), (84, .iload_n 2, 1), (85, .iinc 2 1, 3), (88, .iload 6, 2), (90, .i2b, 1), (91, .bastore, 1), (92, .goto 260, 3), (352, .goto (-294), 3), (95, .iload 6, 2), (97, .sipush 2048, 3), (100, .if_icmp .ge 40, 3), (103, .aload 5, 2), (105, .iload_n 2, 1), (106, .iinc 2 1, 3), (109, .sipush 192, 3), (112, .iload 6, 2), (114, .bipush 6, 2), (116, .ishr, 1), (117, .ior, 1), (118, .i2b, 1), (119, .bastore, 1), (120, .aload 5, 2), (122, .iload_n 2, 1), (123, .iinc 2 1, 3), (126, .sipush 128, 3), (129, .iload 6, 2), (131, .bipush 63, 2), (133, .iand, 1), (134, .ior, 1), (135, .i2b, 1), (136, .bastore, 1), (137, .goto 215, 3), (140, .iload 6, 2), (142, .invokestatic 404, 3), (145, .ifCond .eq 153, 3), (298, .aload 5, 2), (300, .iload_n 2, 1), (301, .iinc 2 1, 3), (304, .sipush 224, 3), (307, .iload 6, 2), (309, .bipush 12, 2), (311, .ishr, 1), (312, .ior, 1), (313, .i2b, 1), (314, .bastore, 1), (315, .aload 5, 2), (317, .iload_n 2, 1), (318, .iinc 2 1, 3), (321, .sipush 128, 3), (324, .iload 6, 2), (326, .bipush 6, 2), (328, .ishr, 1), (329, .bipush 63, 2), (331, .iand, 1), (332, .ior, 1), (333, .i2b, 1), (334, .bastore, 1), (335, .aload 5, 2), (337, .iload_n 2, 1), (338, .iinc 2 1, 3), (341, .sipush 128, 3), (344, .iload 6, 2), (346, .bipush 63, 2), (348, .iand, 1), (349, .ior, 1), (350, .i2b, 1), (351, .bastore, 1), (18, .iload_n 3, 1), (19, .iload 4, 2), (21, .if_icmp .ge 37, 3), (24, .aload_n 0, 1), (25, .iload_n 3, 1), (26, .invokestatic 360, 3), (29, .istore 6, 2), (31, .iload 6, 2), (33, .sipush 128, 3), (36, .if_icmp .lt 6, 3), (42, .aload 5, 2), (44, .iload_n 2, 1), (45, .iinc 2 1, 3), (48, .iload 6, 2), (50, .i2b, 1), (51, .bastore, 1), (52, .iinc 3 1, 3), (55, .goto (-37), 3), (39, .goto 19, 3), (0, .iconst 0, 1), (1, .istore_n 2, 1), (2, .iconst 0, 1), (3, .istore_n 3, 1), (4, .aload_n 0, 1), (5, .arraylength, 1), (6, .iconst 1, 1), (7, .ishr, 1), (8, .istore 4, 2), (10, .iload 4, 2), (12, .iconst 3, 1), (13, .imul, 1), (14, .newarray .byte, 2), (16, .astore 5, 2)] := by decide +kernel
theorem D14 : DL jdk_42_method_46_code [(49, .iload 7, 2), (51, .iload 6, 2), (53, .if_icmp .ge 71, 3), (124, .iload_n 3, 1), (125, .aload 4, 2), (127, .arraylength, 1), (128, .if_icmp .ne 6, 3), (131, .aload 4, 2), (133, .areturn, 1), (134, .aload 4, 2), (136, .iload_n 3, 1), (137, .invokestatic 102, 3), (140, .areturn, 1), (56, .aload 5, 2), (58, .iload 7, 2), (60, .baload, 1), (61, .istore 8, 2), (63, .iload 8, 2), (65, .ifCond .ge 44, 3), (109, .aload 4, 2), (111, .iload_n 3, 1), (112, .iinc 3 1, 3), (115, .iload 8, 2), (117, .bastore, 1), (118, .iinc 7 1, 3), (121, .goto (-72), 3), (68, .aload 4, 2), (70, .iload_n 3, 1), (71, .iinc 3 1, 3), (74, .sipush 192, 3), (77, .iload 8, 2), (79, .sipush 255, 3), (82, .iand, 1), (83, .bipush 6, 2), (85, .ishr, 1), (86, .ior, 1), (87, .i2b, 1), (88, .bastore, 1), (89, .aload 4, 2), (91, .iload_n 3, 1), (92, .iinc 3 1, 3), (95, .sipush 128, 3), (98, .iload 8, 2), (100, .bipush 63, 2), (102, .iand, 1), (103, .ior, 1), (104, .i2b, 1), (105, .bastore, 1), (106, .goto 12, 3), (0, .iload_n 0, 1), (1, .iconst 1, 1), (2, .if_icmp .ne 9, 3), (11, .aload_n 1, 1), (12, .iconst 0, 1), (13, .aload_n 1, 1), (14, .arraylength, 1), (15, .invokestatic 128, 3), (18, .ifCond .ne 11, 3), (21, .aload_n 1, 1), (22, .invokevirtual 279, 3), (25, .checkcast 280, 3), (28, .areturn, 1), (29, .iconst 0, 1), (30, .istore_n 3, 1), (31, .aload_n 1, 1), (32, .arraylength, 1), (33, .invokestatic 60, 3), (36, .astore 4, 2), (38, .aload_n 1, 1), (39, .astore 5, 2), (41, .aload 5, 2), (43, .arraylength, 1), (44, .istore 6, 2), (46, .iconst 0, 1), (47, .istore 7, 2), (5, .aload_n 1, 1), (6, .iload_n 2, 1), (7, .invokestatic 473, 3), (10, .areturn, 1)] := by decide +kernel
theorem D13 : DL jdk_42_method_18_code [(0, .aload_n 0, 1), (1, .getstatic 86, 3), (4, .if_acmp .ne 10, 3), (7, .iload_n 1, 1), (8, .aload_n 2, 1), (9, .iconst 1, 1), (10, .invokestatic 252, 3), (13, .areturn, 1)] := by decide +kernel
theorem D12 : DL jdk_42_method_152_code [(0, .getstatic 38, 3), (3, .ifCond .eq 10, 3), (6, .aload_n 0, 1), (7, .getfield 15, 3), (10, .goto 4, 3), (14, .ireturn, 1)] := by decide +kernel
theorem D11 : DL jdk_42_method_64_code [(0, .aload_n 1, 1), (1, .ifnonnull 11, 3), (12, .aload_n 1, 1), (13, .aload_n 0, 1), (14, .invokevirtual 335, 3), (17, .aload_n 0, 1), (18, .getfield 9, 3), (21, .invokestatic 535, 3), (24, .areturn, 1)] := by decide +kernel
theorem D9 : DL prog_15_method_1_code [(0, .aload_n 0, 1), (1, .invokespecial 5, 3), (4, .aload_n 0, 1), (5, .sipush 4096, 3), (8, .newarray .byte, 2), (10, .putfield 11, 3), (13, .aload_n 0, 1), (14, .sipush 4096, 3), (17, .newarray .int, 2), (19, .putfield 15, 3), (22, .aload_n 0, 1), (23, .sipush 4096, 3), (26, .newarray .int, 2), (28, .putfield 19, 3), (31, .aload_n 0, 1), (32, .iload_n 1, 1), (33, .putfield 22, 3), (36, .return_, 1)] := by decide +kernel
theorem D17 : DL prog_15_method_8_code [(0, .aload_n 0, 1), (1, .getfield 11, 3), (4, .arraylength, 1), (5, .aload_n 0, 1), (6, .getfield 40, 3), (9, .isub, 1), (10, .iload_n 1, 1), (11, .if_icmp .ge 42, 3), (53, .aload_n 0, 1), (54, .getfield 47, 3), (57, .aload_n 0, 1), (58, .getfield 15, 3), (61, .arraylength, 1), (62, .if_icmp .ne 44, 3), (106, .return_, 1)] := by decide +kernel
theorem D18 : DL prog_15_method_7_code [(0, .iload_n 1, 1), (1, .istore_n 2, 1), (2, .iload_n 2, 1), (3, .sipush 128, 3), (6, .if_icmp .lt 36, 3), (42, .aload_n 0, 1), (43, .getfield 11, 3), (46, .aload_n 0, 1), (47, .dup, 1), (48, .getfield 40, 3), (51, .dup_x1, 1), (52, .iconst 1, 1), (53, .iadd, 1), (54, .putfield 40, 3), (57, .iload_n 2, 1), (58, .i2b, 1), (59, .bastore, 1), (60, .return_, 1), (9, .aload_n 0, 1), (10, .getfield 11, 3), (13, .aload_n 0, 1), (14, .dup, 1), (15, .getfield 40, 3), (18, .dup_x1, 1), (19, .iconst 1, 1), (20, .iadd, 1), (21, .putfield 40, 3), (24, .iload_n 2, 1), (25, .bipush 127, 2), (27, .iand, 1), (28, .sipush 128, 3), (31, .ior, 1), (32, .i2b, 1), (33, .bastore, 1), (34, .iload_n 2, 1), (35, .bipush 7, 2), (37, .iushr, 1), (38, .istore_n 2, 1), (39, .goto (-37), 3)] := by decide +kernel
theorem D10 : DL prog_15_method_2_code [(0, .aload_n 0, 1), (1, .getfield 22, 3), (4, .anewarray 26, 3), (7, .astore_n 3, 1), (8, .lconst 0, 1), (9, .lstore 4, 2), (11, .iconst 0, 1), (12, .istore 6, 2), (14, .iload 6, 2), (16, .aload_n 0, 1), (17, .getfield 22, 3), (20, .if_icmp .ge 36, 3), (23, .aload_n 3, 1), (24, .iload 6, 2), (26, .aload_n 1, 1), (27, .iload 6, 2), (29, .aaload, 1), (30, .getstatic 27, 3), (33, .invokevirtual 33, 3), (36, .aastore, 1), (37, .lload 4, 2), (39, .iconst 5, 1), (40, .aload_n 3, 1), (41, .iload 6, 2), (43, .aaload, 1), (44, .arraylength, 1), (45, .iadd, 1), (46, .i2l, 1), (47, .ladd, 1), (48, .lstore 4, 2), (50, .iinc 6 1, 3), (53, .goto (-39), 3), (56, .lload 4, 2), (58, .ldc 39, 2), (60, .aload_n 0, 1), (61, .getfield 40, 3), (64, .isub, 1), (65, .i2l, 1), (66, .lcmp, 1), (67, .ifCond .gt 7, 3), (70, .iconst 1, 1), (71, .goto 4, 3), (75, .istore 6, 2), (77, .iload 6, 2), (79, .ifCond .eq 110, 3), (82, .aload_n 0, 1), (83, .lload 4, 2), (85, .l2i, 1), (86, .invokevirtual 43, 3), (89, .aload_n 0, 1), (90, .getfield 15, 3), (93, .aload_n 0, 1), (94, .getfield 47, 3), (97, .aload_n 0, 1), (98, .getfield 40, 3), (101, .iastore, 1), (102, .aload_n 0, 1), (103, .getfield 19, 3), (106, .aload_n 0, 1), (107, .getfield 47, 3), (110, .iload_n 2, 1), (111, .iastore, 1), (112, .aload_n 0, 1), (113, .dup, 1), (114, .getfield 47, 3), (117, .iconst 1, 1), (118, .iadd, 1), (119, .putfield 47, 3), (122, .aload_n 3, 1), (123, .astore 7, 2), (125, .aload 7, 2), (127, .arraylength, 1), (128, .istore 8, 2), (130, .iconst 0, 1), (131, .istore 9, 2), (133, .iload 9, 2), (135, .iload 8, 2), (137, .if_icmp .ge 52, 3), (140, .aload 7, 2), (142, .iload 9, 2), (144, .aaload, 1), (145, .astore 10, 2), (147, .aload_n 0, 1), (148, .aload 10, 2), (150, .arraylength, 1), (151, .invokevirtual 50, 3), (154, .aload 10, 2), (156, .iconst 0, 1), (157, .aload_n 0, 1), (158, .getfield 11, 3), (161, .aload_n 0, 1), (162, .getfield 40, 3), (165, .aload 10, 2), (167, .arraylength, 1), (168, .invokestatic 53, 3), (171, .aload_n 0, 1), (172, .dup, 1), (173, .getfield 40, 3), (176, .aload 10, 2), (178, .arraylength, 1), (179, .iadd, 1), (180, .putfield 40, 3), (183, .iinc 9 1, 3), (186, .goto (-53), 3), (189, .iload 6, 2), (191, .ireturn, 1)] := by decide +kernel
theorem D23 : DL jdk_41_method_13_code [(0, .iload_n 2, 1), (1, .iload_n 0, 1), (2, .ior, 1), (3, .iload_n 1, 1), (4, .ior, 1), (5, .ifCond .lt 10, 3), (8, .iload_n 1, 1), (9, .iload_n 2, 1), (10, .iload_n 0, 1), (11, .isub, 1), (12, .if_icmp .le 11, 3), (23, .iload_n 0, 1), (24, .ireturn, 1)] := by decide +kernel
theorem D22 : DL jdk_42_method_157_code [(0, .iload_n 0, 1), (1, .iload_n 1, 1), (2, .iload_n 2, 1), (3, .getstatic 1053, 3), (6, .invokestatic 1065, 3), (9, .ireturn, 1)] := by decide +kernel
theorem D43 : DL jdk_52_method_6_code [(0, .aload_n 0, 1), (1, .arraylength, 1), (2, .iconst 1, 1), (3, .ishr, 1), (4, .ireturn, 1)] := by decide +kernel
theorem D42 : DL jdk_52_method_94_code [(0, .iload_n 0, 1), (1, .iload_n 1, 1), (2, .aload_n 2, 1), (3, .invokestatic 48, 3), (6, .invokestatic 419, 3), (9, .pop, 1), (10, .return_, 1)] := by decide +kernel
theorem D41 : DL jdk_52_method_86_code [(10, .iload 5, 2), (12, .iload 4, 2), (14, .if_icmp .ge 27, 3), (41, .return_, 1), (17, .aload_n 2, 1), (18, .iload_n 3, 1), (19, .iinc 3 1, 3), (22, .aload_n 0, 1), (23, .iload_n 1, 1), (24, .iinc 1 1, 3), (27, .baload, 1), (28, .sipush 255, 3), (31, .iand, 1), (32, .invokestatic 111, 3), (35, .iinc 5 1, 3), (38, .goto (-28), 3), (0, .iload_n 3, 1), (1, .iload 4, 2), (3, .aload_n 2, 1), (4, .invokestatic 173, 3), (7, .iconst 0, 1), (8, .istore 5, 2)] := by decide +kernel
theorem D40 : DL jdk_43_method_50_code [(0, .aload_n 0, 1), (1, .iload_n 1, 1), (2, .aload_n 2, 1), (3, .iload_n 3, 1), (4, .iload 4, 2), (6, .invokestatic 240, 3), (9, .return_, 1)] := by decide +kernel
theorem D44 : DL jdk_42_method_38_code [(0, .iload_n 1, 1), (1, .iload_n 2, 1), (2, .if_icmp .ge 619, 3), (621, .iload 4, 2), (623, .ireturn, 1), (5, .aload_n 0, 1), (6, .iload_n 1, 1), (7, .iinc 1 1, 3), (10, .baload, 1), (11, .istore 6, 2), (13, .iload 6, 2), (15, .ifCond .lt 18, 3), (18, .aload_n 3, 1), (19, .iload 4, 2), (21, .iinc 4 1, 3), (24, .iload 6, 2), (26, .i2c, 1), (27, .invokestatic 64, 3), (30, .goto 588, 3), (618, .goto (-618), 3), (33, .iload 6, 2), (35, .iconst 5, 1), (36, .ishr, 1), (37, .bipush (-2), 2), (39, .if_icmp .ne 104, 3), (42, .iload 6, 2), (44, .bipush 30, 2), (46, .iand, 1), (47, .ifCond .eq 96, 3), (50, .iload_n 1, 1), (51, .iload_n 2, 1), (52, .if_icmp .ge 67, 3), (55, .aload_n 0, 1), (56, .iload_n 1, 1), (57, .iinc 1 1, 3), (60, .baload, 1), (61, .istore 7, 2), (63, .iload 7, 2), (65, .invokestatic 385, 3), (68, .ifCond .eq 32, 3), (100, .aload_n 3, 1), (101, .iload 4, 2), (103, .iinc 4 1, 3), (106, .iload 6, 2), (108, .iload 7, 2), (110, .invokestatic 98, 3), (113, .invokestatic 64, 3), (116, .goto (-116), 3), (143, .iload 6, 2), (145, .iconst 4, 1), (146, .ishr, 1), (147, .bipush (-2), 2), (149, .if_icmp .ne 200, 3), (152, .iload_n 1, 1), (153, .iconst 1, 1), (154, .iadd, 1), (155, .iload_n 2, 1), (156, .if_icmp .ge 127, 3), (159, .aload_n 0, 1), (160, .iload_n 1, 1), (161, .iinc 1 1, 3), (164, .baload, 1), (165, .istore 7, 2), (167, .aload_n 0, 1), (168, .iload_n 1, 1), (169, .iinc 1 1, 3), (172, .baload, 1), (173, .istore 8, 2), (175, .iload 6, 2), (177, .iload 7, 2), (179, .iload 8, 2), (181, .invokestatic 392, 3), (184, .ifCond .eq 40, 3), (224, .iload 6, 2), (226, .iload 7, 2), (228, .iload 8, 2), (230, .invokestatic 400, 3), (233, .istore 9, 2), (235, .iload 9, 2), (237, .invokestatic 404, 3), (240, .ifCond .eq 29, 3), (269, .aload_n 3, 1), (270, .iload 4, 2), (272, .iinc 4 1, 3), (275, .iload 9, 2), (277, .invokestatic 64, 3), (280, .goto (-280), 3)] := by decide +kernel
theorem D24 : DL jdk_42_method_11_code [(93, .iload 7, 2), (95, .iload 4, 2), (97, .if_icmp .ge 93, 3), (190, .iload 7, 2), (192, .iload 4, 2), (194, .if_icmp .ne 32, 3), (197, .iload 5, 2), (199, .aload 6, 2), (201, .arraylength, 1), (202, .if_icmp .eq 12, 3), (205, .aload 6, 2), (207, .iload 5, 2), (209, .invokestatic 102, 3), (212, .astore 6, 2), (214, .aload_n 0, 1), (215, .aload 6, 2), (217, .putfield 9, 3), (220, .aload_n 0, 1), (221, .iconst 0, 1), (222, .putfield 15, 3), (225, .return_, 1), (100, .aload 6, 2), (102, .iload 7, 2), (104, .iinc 7 1, 3), (107, .baload, 1), (108, .istore 8, 2), (110, .iload 8, 2), (112, .ifCond .lt 17, 3), (115, .aload 6, 2), (117, .iload 5, 2), (119, .iinc 5 1, 3), (122, .iload 8, 2), (124, .i2b, 1), (125, .bastore, 1), (126, .goto (-33), 3), (129, .iload 8, 2), (131, .sipush 254, 3), (134, .iand, 1), (135, .sipush 194, 3), (138, .if_icmp .ne 46, 3), (141, .iload 7, 2), (143, .iload 4, 2), (145, .if_icmp .ge 39, 3), (148, .aload 6, 2), (150, .iload 7, 2), (152, .baload, 1), (153, .istore 9, 2), (155, .iload 9, 2), (157, .bipush (-64), 2), (159, .if_icmp .ge 25, 3), (162, .aload 6, 2), (164, .iload 5, 2), (166, .iinc 5 1, 3), (169, .iload 8, 2), (171, .iload 9, 2), (173, .invokestatic 98, 3), (176, .i2b, 1), (177, .bastore, 1), (178, .iinc 7 1, 3), (181, .goto (-88), 3), (184, .iinc 7 (-1), 3), (187, .goto 3, 3), (226, .iload 4, 2), (228, .invokestatic 60, 3), (231, .astore 8, 2), (233, .aload 6, 2), (235, .iconst 0, 1), (236, .aload 8, 2), (238, .iconst 0, 1), (239, .iload 5, 2), (241, .invokestatic 106, 3), (244, .aload 6, 2), (246, .iload 7, 2), (248, .iload 4, 2), (250, .aload 8, 2), (252, .iload 5, 2), (254, .iconst 1, 1), (255, .invokestatic 112, 3), (258, .istore 5, 2), (260, .iload 5, 2), (262, .iload 4, 2), (264, .if_icmp .eq 14, 3), (267, .aload 8, 2), (269, .iload 5, 2), (271, .iconst 1, 1), (272, .ishl, 1), (273, .invokestatic 102, 3), (276, .astore 8, 2), (278, .aload_n 0, 1), (279, .aload 8, 2), (281, .putfield 9, 3), (284, .aload_n 0, 1), (285, .iconst 1, 1), (286, .putfield 15, 3), (289, .goto 590, 3), (879, .return_, 1), (0, .aload_n 0, 1), (1, .invokespecial 1, 3), (4, .iload 4, 2), (6, .ifCond .ne 24, 3), (30, .aload_n 1, 1), (31, .getstatic 86, 3), (34, .if_acmp .ne 312, 3), (37, .getstatic 38, 3), (40, .ifCond .eq 252, 3), (43, .aload_n 2, 1), (44, .iload_n 3, 1), (45, .iload 4, 2), (47, .invokestatic 92, 3), (50, .istore 5, 2), (52, .iload 5, 2), (54, .iload 4, 2), (56, .if_icmp .ne 22, 3), (59, .aload_n 0, 1), (60, .aload_n 2, 1), (61, .iload_n 3, 1), (62, .iload_n 3, 1), (63, .iload 4, 2), (65, .iadd, 1), (66, .invokestatic 54, 3), (69, .putfield 9, 3), (72, .aload_n 0, 1), (73, .iconst 0, 1), (74, .putfield 15, 3), (77, .return_, 1), (78, .aload_n 2, 1), (79, .iload_n 3, 1), (80, .iload_n 3, 1), (81, .iload 4, 2), (83, .iadd, 1), (84, .invokestatic 54, 3), (87, .astore 6, 2), (89, .iload 5, 2), (91, .istore 7, 2), (9, .aload_n 0, 1), (10, .ldc 7, 2), (12, .getfield 9, 3), (15, .putfield 9, 3), (18, .aload_n 0, 1), (19, .ldc 7, 2), (21, .getfield 15, 3), (24, .putfield 15, 3), (27, .goto 852, 3)] := by decide +kernel
theorem D21 : DL jdk_31_method_10_code [(0, .aload_n 0, 1), (1, .ifnonnull 11, 3), (12, .aload_n 0, 1), (13, .areturn, 1)] := by decide +kernel
theorem D20 : DL jdk_42_method_10_code [(0, .aload_n 0, 1), (1, .aload 4, 2), (3, .invokestatic 78, 3), (6, .checkcast 84, 3), (9, .aload_n 1, 1), (10, .iload_n 2, 1), (11, .iload_n 3, 1), (12, .aload_n 1, 1), (13, .arraylength, 1), (14, .invokestatic 34, 3), (17, .iload_n 3, 1), (18, .invokespecial 75, 3), (21, .return_, 1)] := by decide +kernel
theorem D30 : DL jdk_43_method_13_code [(9, .iload_n 2, 1), (10, .aload_n 0, 1), (11, .arraylength, 1), (12, .if_icmp .ge 20, 3), (32, .iconst 1, 1), (33, .ireturn, 1), (15, .aload_n 0, 1), (16, .iload_n 2, 1), (17, .baload, 1), (18, .aload_n 1, 1), (19, .iload_n 2, 1), (20, .baload, 1), (21, .if_icmp .eq 5, 3), (26, .iinc 2 1, 3), (29, .goto (-20), 3), (0, .aload_n 0, 1), (1, .arraylength, 1), (2, .aload_n 1, 1), (3, .arraylength, 1), (4, .if_icmp .ne 30, 3), (7, .iconst 0, 1), (8, .istore_n 2, 1)] := by decide +kernel
theorem D29 : DL jdk_42_method_66_code [(0, .aload_n 0, 1), (1, .aload_n 1, 1), (2, .if_acmp .ne 5, 3), (5, .iconst 1, 1), (6, .ireturn, 1), (7, .aload_n 1, 1), (8, .instanceof 10, 3), (11, .ifCond .eq 43, 3), (14, .aload_n 1, 1), (15, .checkcast 10, 3), (18, .astore_n 2, 1), (19, .getstatic 38, 3), (22, .ifCond .eq 14, 3), (25, .aload_n 0, 1), (26, .getfield 15, 3), (29, .aload_n 2, 1), (30, .getfield 15, 3), (33, .if_icmp .ne 21, 3), (36, .aload_n 0, 1), (37, .getfield 9, 3), (40, .aload_n 2, 1), (41, .getfield 9, 3), (44, .invokestatic 541, 3), (47, .ifCond .eq 7, 3), (50, .iconst 1, 1), (51, .goto 4, 3), (55, .ireturn, 1)] := by decide +kernel
theorem D2 : DL method_2_code [(0, .iload_n 0, 1), (1, .sipush 32767, 3), (4, .iand, 1), (5, .i2c, 1), (6, .ireturn, 1)] := by decide +kernel
theorem D1 : DL method_3_code [(0, .iload_n 1, 1), (1, .invokestatic 7, 3), (4, .istore_n 2, 1), (5, .iload_n 1, 1), (6, .bipush 15, 2), (8, .iushr, 1), (9, .invokestatic 7, 3), (12, .istore_n 3, 1), (13, .iload_n 0, 1), (14, .iconst 3, 1), (15, .iand, 1), (16, .istore 4, 2), (18, .iload 4, 2), (20, .ifCond .ne 6, 3), (23, .ldc 13, 2), (25, .areturn, 1), (26, .iload 4, 2), (28, .iconst 1, 1), (29, .if_icmp .ne 18, 3), (32, .new 15, 3), (35, .dup, 1), (36, .iconst 1, 1), (37, .newarray .char, 2), (39, .dup, 1), (40, .iconst 0, 1), (41, .iload_n 2, 1), (42, .castore, 1), (43, .invokespecial 17, 3), (46, .areturn, 1), (47, .iload 4, 2), (49, .iconst 2, 1), (50, .if_icmp .ne 22, 3), (53, .new 15, 3), (56, .dup, 1), (57, .iconst 2, 1), (58, .newarray .char, 2), (60, .dup, 1), (61, .iconst 0, 1), (62, .iload_n 2, 1), (63, .castore, 1), (64, .dup, 1), (65, .iconst 1, 1), (66, .iload_n 3, 1), (67, .castore, 1), (68, .invokespecial 17, 3), (71, .areturn, 1), (72, .sipush 130, 3), (75, .newarray .char, 2), (77, .astore 5, 2), (79, .aload 5, 2), (81, .iconst 0, 1), (82, .iload_n 2, 1), (83, .castore, 1), (84, .aload 5, 2), (86, .bipush 64, 2), (88, .iload_n 3, 1), (89, .castore, 1), (90, .aload 5, 2), (92, .sipush 129, 3), (95, .iload_n 2, 1), (96, .castore, 1), (97, .new 15, 3), (100, .dup, 1), (101, .aload 5, 2), (103, .invokespecial 17, 3), (106, .areturn, 1)] := by decide +kernel
theorem D19 : DL prog_15_method_5_code [(33, .aload_n 0, 1), (34, .getfield 11, 3), (37, .iload_n 3, 1), (38, .iinc 3 1, 3), (41, .baload, 1), (42, .istore 7, 2), (44, .iload 5, 2), (46, .iload 7, 2), (48, .bipush 127, 2), (50, .iand, 1), (51, .iload 6, 2), (53, .ishl, 1), (54, .ior, 1), (55, .istore 5, 2), (57, .iinc 6 7, 3), (60, .iload 7, 2), (62, .sipush 128, 3), (65, .iand, 1), (66, .ifCond .ne (-33), 3), (0, .aload_n 0, 1), (1, .getfield 22, 3), (4, .anewarray 34, 3), (7, .astore_n 2, 1), (8, .aload_n 0, 1), (9, .getfield 15, 3), (12, .iload_n 1, 1), (13, .iaload, 1), (14, .istore_n 3, 1), (15, .iconst 0, 1), (16, .istore 4, 2), (18, .iload 4, 2), (20, .aload_n 0, 1), (21, .getfield 22, 3), (24, .if_icmp .ge 77, 3), (27, .iconst 0, 1), (28, .istore 5, 2), (30, .iconst 0, 1), (31, .istore 6, 2), (69, .aload_n 2, 1), (70, .iload 4, 2), (72, .new 34, 3), (75, .dup, 1), (76, .aload_n 0, 1), (77, .getfield 11, 3), (80, .iload_n 3, 1), (81, .iload 5, 2), (83, .getstatic 27, 3), (86, .invokespecial 59, 3), (89, .aastore, 1), (90, .iload_n 3, 1), (91, .iload 5, 2), (93, .iadd, 1), (94, .istore_n 3, 1), (95, .iinc 4 1, 3), (98, .goto (-80), 3), (101, .aload_n 2, 1), (102, .areturn, 1)] := by decide +kernel
theorem own_nL {x y n : Nat} (h : x < n) (g : n ≤ y) : x ≠ y := Nat.ne_of_lt (Nat.lt_of_lt_of_le h g)
theorem own_nE {x y n : Nat} (h : x < n) (g : y = n) : x ≠ y := Nat.ne_of_lt (Nat.lt_of_lt_of_le h (Nat.le_of_eq g.symm))
theorem pd_0 : parseMethodDescriptor "(I)I" = some ⟨[.int], some .int⟩ := by decide +kernel
theorem pd_1 : parseMethodDescriptor "([BII)V" = some ⟨[(.array .byte), .int, .int], none⟩ := by decide +kernel
theorem pd_2 : parseMethodDescriptor "(I)[B" = some ⟨[.int], some (.array .byte)⟩ := by decide +kernel
theorem pd_3 : parseMethodDescriptor "([CI[BII)I" = some ⟨[(.array .char), .int, (.array .byte), .int, .int], some .int⟩ := by decide +kernel
theorem pd_4 : parseMethodDescriptor "([CII)[B" = some ⟨[(.array .char), .int, .int], some (.array .byte)⟩ := by decide +kernel
theorem pd_5 : parseMethodDescriptor "([BI)C" = some ⟨[(.array .byte), .int], some .char⟩ := by decide +kernel
theorem pd_6 : parseMethodDescriptor "([BI)B" = some ⟨[(.array .byte), .int], some .byte⟩ := by decide +kernel
theorem pd_7 : parseMethodDescriptor "([CIILjava/lang/Void;)V" = some ⟨[(.array .char), .int, .int, (.object "java/lang/Void")], none⟩ := by decide +kernel
theorem pd_8 : parseMethodDescriptor "([BII)I" = some ⟨[(.array .byte), .int, .int], some .int⟩ := by decide +kernel
theorem pd_9 : parseMethodDescriptor "(II)I" = some ⟨[.int, .int], some .int⟩ := by decide +kernel
theorem pd_10 : parseMethodDescriptor "(II)V" = some ⟨[.int, .int], none⟩ := by decide +kernel
theorem pd_11 : parseMethodDescriptor "([BII)[B" = some ⟨[(.array .byte), .int, .int], some (.array .byte)⟩ := by decide +kernel
theorem pd_12 : parseMethodDescriptor "([BI)[B" = some ⟨[(.array .byte), .int], some (.array .byte)⟩ := by decide +kernel
theorem pd_13 : parseMethodDescriptor "(C)Z" = some ⟨[.char], some .boolean⟩ := by decide +kernel
theorem pd_14 : parseMethodDescriptor "([BII)Z" = some ⟨[(.array .byte), .int, .int], some .boolean⟩ := by decide +kernel
theorem pd_15 : parseMethodDescriptor "([BZ)[B" = some ⟨[(.array .byte), .boolean], some (.array .byte)⟩ := by decide +kernel
theorem pd_16 : parseMethodDescriptor "(B[BZ)[B" = some ⟨[.byte, (.array .byte), .boolean], some (.array .byte)⟩ := by decide +kernel
theorem pd_17 : parseMethodDescriptor "()B" = some ⟨[], some .byte⟩ := by decide +kernel
theorem pd_18 : parseMethodDescriptor "(Ljava/nio/charset/Charset;B[B)[B" = some ⟨[(.object "java/nio/charset/Charset"), .byte, (.array .byte)], some (.array .byte)⟩ := by decide +kernel
theorem pd_19 : parseMethodDescriptor "(Ljava/nio/charset/Charset;)[B" = some ⟨[(.object "java/nio/charset/Charset")], some (.array .byte)⟩ := by decide +kernel
theorem pd_20 : parseMethodDescriptor "(I)V" = some ⟨[.int], none⟩ := by decide +kernel
theorem pd_21 : parseMethodDescriptor "(IIILjava/util/function/BiFunction;)I" = some ⟨[.int, .int, .int, (.object "java/util/function/BiFunction")], some .int⟩ := by decide +kernel
theorem pd_22 : parseMethodDescriptor "([B)I" = some ⟨[(.array .byte)], some .int⟩ := by decide +kernel
theorem pd_23 : parseMethodDescriptor "(III)I" = some ⟨[.int, .int, .int], some .int⟩ := by decide +kernel
theorem pd_24 : parseMethodDescriptor "(II[B)V" = some ⟨[.int, .int, (.array .byte)], none⟩ := by decide +kernel
theorem pd_25 : parseMethodDescriptor "([BI[BII)V" = some ⟨[(.array .byte), .int, (.array .byte), .int, .int], none⟩ := by decide +kernel
theorem pd_26 : parseMethodDescriptor "(I)Z" = some ⟨[.int], some .boolean⟩ := by decide +kernel
theorem pd_27 : parseMethodDescriptor "(II)C" = some ⟨[.int, .int], some .char⟩ := by decide +kernel
theorem pd_28 : parseMethodDescriptor "(III)Z" = some ⟨[.int, .int, .int], some .boolean⟩ := by decide +kernel
theorem pd_29 : parseMethodDescriptor "(III)C" = some ⟨[.int, .int, .int], some .char⟩ := by decide +kernel
theorem pd_30 : parseMethodDescriptor "([BII[BIZ)I" = some ⟨[(.array .byte), .int, .int, (.array .byte), .int, .boolean], some .int⟩ := by decide +kernel
theorem pd_31 : parseMethodDescriptor "(Ljava/lang/Object;)Ljava/lang/Object;" = some ⟨[(.object "java/lang/Object")], some (.object "java/lang/Object")⟩ := by decide +kernel
theorem pd_32 : parseMethodDescriptor "(Ljava/nio/charset/Charset;[BII)V" = some ⟨[(.object "java/nio/charset/Charset"), (.array .byte), .int, .int], none⟩ := by decide +kernel
theorem pd_33 : parseMethodDescriptor "([B[B)Z" = some ⟨[(.array .byte), (.array .byte)], some .boolean⟩ := by decide +kernel
theorem pd_34 : parseMethodDescriptor "(I)C" = some ⟨[.int], some .char⟩ := by decide +kernel
theorem pd_35 : parseMethodDescriptor "([C)V" = some ⟨[(.array .char)], none⟩ := by decide +kernel
theorem pd_36 : parseMethodDescriptor "([BIILjava/nio/charset/Charset;)V" = some ⟨[(.array .byte), .int, .int, (.object "java/nio/charset/Charset")], none⟩ := by decide +kernel
theorem pd_37 : parseMethodDescriptor "(II)Ljava/lang/String;" = some ⟨[.int, .int], some (.object "java/lang/String")⟩ := by decide +kernel
theorem pd_38 : parseMethodDescriptor "([Ljava/lang/String;I)Z" = some ⟨[(.array (.object "java/lang/String")), .int], some .boolean⟩ := by decide +kernel
theorem pd_39 : parseMethodDescriptor "(I)[Ljava/lang/String;" = some ⟨[.int], some (.array (.object "java/lang/String"))⟩ := by decide +kernel
theorem pd_40 : parseMethodDescriptor "(Ljava/lang/Object;)Z" = some ⟨[(.object "java/lang/Object")], some .boolean⟩ := by decide +kernel
set_option maxRecDepth 65536
set_option maxHeartbeats 40000000
def own_EL : List (String × Nat) := [("com/example/vestwright/vestwright/cli/TableRowsCellsPinLaw", 13), ("java/lang/String", 7)]
theorem own_sAt {a0 : Array Value} {Z : State} (hw : ∀ d ∈ tables_1, d.before a0 Z = true) : ∀ a ∈ Bundle.stringAtoms, a.before a0 Z = true := fun d hd => by
  simp only [Bundle.stringAtoms, List.mem_cons, List.not_mem_nil, or_false] at hd
  rcases hd with rfl | rfl | rfl | rfl | rfl | rfl | rfl
  · exact (ww hw 10 rfl)
  · exact (ww hw 9 rfl)
  · exact (ww hw 26 rfl)
  · exact (ww hw 36 rfl)
  · exact (ww hw 34 rfl)
  · exact (ww hw 38 rfl)
  · exact (ww hw 39 rfl)
theorem pn_rm36 : plainName "java/lang/StringUTF16" = true := by first | (simp [plainName, overriddenIn]; done) | decide +kernel
def Q_rm36 (Z : State) (h0 : Heap) (n0 : Nat) (b : Addr) (kb : ClassId) (i : Nat) (M : Nat) (ch : Int32) (us : List Value) (z : Int32) (v : Option Value) (h : Heap) (L : List Loc) : Prop := v = none ∧ Fr n0 L ∧ Keep h0 h [b] ∧ own_Ar Z h b kb .byte (own_pad (us ++ [.int (own_b0 ch)] ++ [.int (own_b1 ch)]) M (.int 0))
theorem rm36 (l : Launch) (Z : State) (a0 : Array Value) (hw : ∀ d ∈ tables_1, d.before a0 Z = true) (ws : List Jvm.Cond) (h0 : Heap) (n0 : Nat) (O0 : Old Z n0 h0) (b : Addr) (kb : ClassId) (i : Nat) (M : Nat) (ch : Int32) (us : List Value) (z : Int32) (HP : own_PK Z z) (Vb : own_Ar Z h0 b kb .byte (own_pad us M (.int 0))) (hwl : us.length = 2 * i) (hM : 2 * i + 2 ≤ M) (hMb : M < 2 ^ 30) (gb : n0 ≤ b) :
    MetFree l M4 (head1 (Jvm.Cond.code M4 jdk_52_method_4_code 3 none :: ws) ({ frames := 0, cells := 0, slots := 0, locals := 0 } : Room)) (fun aq U => aq = #[(.ref b), (.int (Int32.ofNat i)), (.int ch)] ∧ Z.Warmed39 U.vm ∧ U.heap = h0) (fun _ _ _ _ _ => True) (fun _ U oo U' => ∃ v L, oo = .returned v ∧ Q_rm36 Z h0 n0 b kb i M ch us z v U'.heap L ∧ FrameEnd U oo U' L ({ frames := 0, cells := 0, slots := 0, locals := 0 } : Room).cells ({ frames := 0, cells := 0, slots := 0, locals := 0 } : Room).slots) := by
  refine MetFree.of_bodySF (plainFor_of_name pn_rm36) hisR ?_
  intro p e s m args below meth c s₁ Bd hml0 hP hK
  obtain ⟨rfl, hZ, hh⟩ := hP
  have hx := Bd.exec
  have hby := Bd.bytes
  have dd := @dq _ _ _ hby D36
  have hml : c.maxLocals = 3 := hml0
  have hown : s.vm.findClass "java/lang/StringUTF16" = some m.cls := findClass_of_methodNamed Bd.named
  have hnm := (name_of_methodNamed Bd.named Bd.method).1
  have hlk := Bd.notSynchronized
  have hret := Bd.returns
  have X0 : Stand p l e ({ frames := 0, cells := 0, slots := 0, locals := 0 } : Room) s m #[(.ref b), (.int (Int32.ofNat i)), (.int ch)] below meth c s₁ [] 0 0 := Stand.of_body Bd
  have e0 : s₁.heap = h0 := by rw [← hh, Bd.state]; rfl
  have N0 := Fr.nil n0
  have K0 := Keep.refl h0 [b]
  refine own_go (S' := (s₁.setTop (mkF m 0 #[vr b, vi (Int32.ofNat i), vi ch] []))) (fun tq kq => castTop rfl kq) ?_
  show own_G p e s below (Q_rm36 Z h0 n0 b kb i M ch us z) _ _ _
  obtain ⟨SC, hz, SA, SH, SL⟩ := id HP
  have hw1 : (us ++ [Value.int (own_b0 ch)]).length = 2 * i + 1 := by simp [hwl]
  obtain ⟨T101, X101, e101, st101⟩ := getS2 X0 hx hZ hown (host := "") (Or.inl (ww hw 190 rfl)) Via.refl e0 (SA.ext O0.2) (g := (mkF m 0 #[vr b, vi (Int32.ofNat i), vi ch] [])) rfl (dd 0 rfl)
  refine own_go (S' := (T101.setTop (mkF m 31 #[vr b, vi (Int32.ofNat i), vi ch] [(.int ((Int32.ofNat i) <<< ((1 : Int32) &&& 31)))]))) (fun tq kq => st101 tq (XS.ifYes X101.here hx rfl (pc0 := 3) (pc' := 28) rfl (dd 1 rfl) rfl ((if0 _ _).trans (feq (by decide : ¬ ((1 : Int32) = (0 : Int32)))).2) (by decide) (by decide) (XS.iloadN X101.here hx rfl (dd 2 rfl) rfl (XS.iconst X101.here hx rfl (dd 3 rfl) (XS.ishl X101.here hx rfl (dd 4 rfl) rfl kq))))) ?_
  rw [own_shl1 (by omega)]
  obtain ⟨T102, X102, e102, st102⟩ := getS2 X101 hx hZ hown (host := "") (Or.inl (ww hw 191 rfl)) Via.refl e101 (SH.ext O0.2) (g := (mkF m 38 #[vr b, vi ((Int32.ofNat (2 * i)) + (1 : Int32)), vi ch] [(.int ch), (.int (Int32.ofNat (2 * i))), (.ref b)])) rfl (dd 10 rfl)
  obtain ⟨cl103, Ar103, qa103, sa103, hin103, -⟩ := Vb.at (j := (Int32.ofNat (2 * i))) (own_pos (by omega)) (by rw [own_clamp (by omega), ← hwl]; exact own_padat (by omega))
  obtain ⟨T103, h103, X103, e103, W103, st103⟩ := stB X102 hx hZ e102 Ar103 (j := (Int32.ofNat (2 * i))) hin103 (g := (mkF m 43 #[vr b, vi ((Int32.ofNat (2 * i)) + (1 : Int32)), vi ch] [(.int ((ch >>> ((0 : Int32) &&& 31)).toInt8.toInt32)), (.int (Int32.ofNat (2 * i))), (.ref b)])) rfl rfl (dd 13 rfl)
  have N103 := Fr.snoc X103 N0 gb
  have O103 := O0.wr W103 gb
  have K103 := K0.wr W103 (Or.inl (List.mem_of_getElem? (i := 0) rfl))
  have V103 : own_Ar Z h103 b kb .byte (own_pad (us ++ [.int (own_b0 ch)]) M (.int 0)) := (by have q := (own_Ar.set Ar103 qa103 sa103 Vb.small W103); rw [own_clamp (by omega), ← hwl, own_padset (by omega)] at q; exact q)
  refine own_go (S' := (T103.setTop (mkF m 46 #[vr b, vi ((Int32.ofNat (2 * i)) + (1 : Int32)), vi ch] [(.int ((Int32.ofNat (2 * i)) + (1 : Int32))), (.ref b)]))) (fun tq kq => XS.istoreN X101.here hx rfl (dd 5 rfl) rfl (l' := #[vr b, vi (Int32.ofNat (2 * i)), vi ch]) rfl (XS.aloadN X101.here hx rfl (dd 6 rfl) rfl rfl (XS.iloadN X101.here hx rfl (dd 7 rfl) rfl (XS.iinc X101.here hx rfl (dd 8 rfl) rfl (l' := #[vr b, vi ((Int32.ofNat (2 * i)) + (1 : Int32)), vi ch]) rfl (XS.iloadN X101.here hx rfl (dd 9 rfl) rfl (st102 tq (XS.ishr X102.here hx rfl (dd 11 rfl) rfl (XS.i2b X102.here hx rfl (dd 12 rfl) rfl (st103 tq (XS.aloadN X103.here hx rfl (dd 14 rfl) rfl rfl (XS.iloadN X103.here hx rfl (dd 15 rfl) rfl kq))))))))))) ?_
  rw [own_succ (2 * i)]
  obtain ⟨T104, X104, e104, st104⟩ := getS2 X103 hx hZ hown (host := "") (Or.inl (ww hw 192 rfl)) Via.refl e103 (SL.ext O103.2) (g := (mkF m 47 #[vr b, vi (Int32.ofNat (2 * i + 1)), vi ch] [(.int ch), (.int (Int32.ofNat (2 * i + 1))), (.ref b)])) rfl (dd 17 rfl)
  obtain ⟨cl105, Ar105, qa105, sa105, hin105, -⟩ := V103.at (j := (Int32.ofNat (2 * i + 1))) (own_pos (by omega)) (by rw [own_clamp (by omega), ← hw1]; exact own_padat (by omega))
  obtain ⟨T105, h105, X105, e105, W105, st105⟩ := stB X104 hx hZ e104 Ar105 (j := (Int32.ofNat (2 * i + 1))) hin105 (g := (mkF m 52 #[vr b, vi (Int32.ofNat (2 * i + 1)), vi ch] [(.int ((ch >>> ((8 : Int32) &&& 31)).toInt8.toInt32)), (.int (Int32.ofNat (2 * i + 1))), (.ref b)])) rfl rfl (dd 20 rfl)
  have N105 := Fr.snoc X105 N103 gb
  have K105 := K103.wr W105 (Or.inl (List.mem_of_getElem? (i := 0) rfl))
  have V105 : own_Ar Z h105 b kb .byte (own_pad (us ++ [.int (own_b0 ch)] ++ [.int (own_b1 ch)]) M (.int 0)) := (by have q := (own_Ar.set Ar105 qa105 sa105 V103.small W105); rw [own_clamp (by omega), ← hw1, own_padset (by omega)] at q; exact q)
  refine own_go (S' := (T105.setTop (mkF m 53 #[vr b, vi (Int32.ofNat (2 * i + 1)), vi ch] []))) (fun tq kq => XS.iloadN X103.here hx rfl (dd 16 rfl) rfl (st104 tq (XS.ishr X104.here hx rfl (dd 18 rfl) rfl (XS.i2b X104.here hx rfl (dd 19 rfl) rfl (st105 tq kq))))) ?_
  refine own_retV X105 hx hlk hret (dd 21 rfl) (by decide) (by decide) ?_
  rw [e105]
  exact ⟨rfl, N105, K105, V105⟩
def Q_rm32 (Z : State) (h0 : Heap) (n0 : Nat) (n : Nat) (v : Option Value) (h : Heap) (L : List Loc) : Prop := v = some (.int (Int32.ofNat (2 * n))) ∧ Fr n0 L ∧ h = h0
theorem rm32 (l : Launch) (Z : State) (a0 : Array Value) (hw : ∀ d ∈ tables_1, d.before a0 Z = true) (ws : List Jvm.Cond) (h0 : Heap) (n0 : Nat) (O0 : Old Z n0 h0) (n : Nat) (hnb : n ≤ 400) :
    MetFree l M26 (head1 (Jvm.Cond.code M26 jdk_52_method_3_code 1 (some .int) :: ws) ({ frames := 0, cells := 0, slots := 0, locals := 0 } : Room)) (fun aq U => aq = #[(.int (Int32.ofNat n))] ∧ Z.Warmed39 U.vm ∧ U.heap = h0) (fun _ _ _ _ _ => True) (fun _ U oo U' => ∃ v L, oo = .returned v ∧ Q_rm32 Z h0 n0 n v U'.heap L ∧ FrameEnd U oo U' L ({ frames := 0, cells := 0, slots := 0, locals := 0 } : Room).cells ({ frames := 0, cells := 0, slots := 0, locals := 0 } : Room).slots) := by
  refine MetFree.of_bodySF (plainFor_of_name pn_rm36) hisR ?_
  intro p e s m args below meth c s₁ Bd hml0 hP hK
  obtain ⟨rfl, hZ, hh⟩ := hP
  have hx := Bd.exec
  have hby := Bd.bytes
  have dd := @dq _ _ _ hby D32
  have hml : c.maxLocals = 1 := hml0
  have hown : s.vm.findClass "java/lang/StringUTF16" = some m.cls := findClass_of_methodNamed Bd.named
  have hnm := (name_of_methodNamed Bd.named Bd.method).1
  have hlk := Bd.notSynchronized
  have hret := Bd.returns
  have X0 : Stand p l e ({ frames := 0, cells := 0, slots := 0, locals := 0 } : Room) s m #[(.int (Int32.ofNat n))] below meth c s₁ [] 0 0 := Stand.of_body Bd
  have e0 : s₁.heap = h0 := by rw [← hh, Bd.state]; rfl
  have N0 := Fr.nil n0
  have K0 := Keep.refl h0 []
  refine own_go (S' := (s₁.setTop (mkF m 0 #[vi (Int32.ofNat n)] []))) (fun tq kq => castTop rfl kq) ?_
  show own_G p e s below (Q_rm32 Z h0 n0 n) _ _ _
  refine own_go (S' := (s₁.setTop (mkF m 58 #[vi (Int32.ofNat n)] [(.int ((Int32.ofNat n) <<< ((1 : Int32) &&& 31)))]))) (fun tq kq => XS.iloadN X0.here hx rfl (dd 0 rfl) rfl (XS.ifYes X0.here hx rfl (pc0 := 1) (pc' := 12) rfl (dd 1 rfl) rfl ((if0 _ _).trans (flt (own_pos (by omega))).2.1) (by decide) (by decide) (XS.iloadN X0.here hx rfl (dd 2 rfl) rfl (X0.ldcInt hx hown (mvT hZ (ww hw 176 rfl)) (g := (mkF m 13 #[vi (Int32.ofNat n)] [(.int (Int32.ofNat n))])) rfl (dd 3 rfl) tq (XS.icmpYes X0.here hx rfl (pc0 := 15) (pc' := 55) rfl (dd 4 rfl) rfl (tlt ((own_lt (by omega) (by decide) : Int32.ofNat n < Int32.ofNat 1073741823 ↔ _).mpr (by omega))).1 (by decide) (by decide) (XS.iloadN X0.here hx rfl (dd 5 rfl) rfl (XS.iconst X0.here hx rfl (dd 6 rfl) (XS.ishl X0.here hx rfl (dd 7 rfl) rfl kq)))))))) ?_
  rw [own_shl1 (by omega)]
  refine own_retI X0 hx hlk hret (dd 8 rfl) (by decide) (by decide) ?_
  exact ⟨rfl, N0, e0⟩
def Q_rm31 (Z : State) (h0 : Heap) (n0 : Nat) (n : Nat) (v : Option Value) (h : Heap) (L : List Loc) : Prop := ∃ (b : Addr) (kb : ClassId), v = some (.ref b) ∧ Fr n0 L ∧ Keep h0 h [] ∧ h0.size ≤ b ∧ own_Ar Z h b kb .byte (own_pad [] (2 * n) (.int 0)) ∧ Exa Z h b "[B"
theorem rm31 (l : Launch) (Z : State) (a0 : Array Value) (hw : ∀ d ∈ tables_1, d.before a0 Z = true) (ws : List Jvm.Cond) (h0 : Heap) (n0 : Nat) (O0 : Old Z n0 h0) (n : Nat) (hnb : n ≤ 400) :
    MetFree l M7 (head1 (Jvm.Cond.code M7 jdk_52_method_2_code 1 (some (.array .byte)) :: ws) ({ frames := 1, cells := 1, slots := 800, locals := 12 } : Room)) (fun aq U => aq = #[(.int (Int32.ofNat n))] ∧ Z.Warmed39 U.vm ∧ U.heap = h0) (fun _ _ _ _ _ => True) (fun _ U oo U' => ∃ v L, oo = .returned v ∧ Q_rm31 Z h0 n0 n v U'.heap L ∧ FrameEnd U oo U' L ({ frames := 1, cells := 1, slots := 800, locals := 12 } : Room).cells ({ frames := 1, cells := 1, slots := 800, locals := 12 } : Room).slots) := by
  refine MetFree.of_bodySF (plainFor_of_name pn_rm36) hisR ?_
  intro p e s m args below meth c s₁ Bd hml0 hP hK
  obtain ⟨rfl, hZ, hh⟩ := hP
  have hx := Bd.exec
  have hby := Bd.bytes
  have dd := @dq _ _ _ hby D31
  have hml : c.maxLocals = 1 := hml0
  have hown : s.vm.findClass "java/lang/StringUTF16" = some m.cls := findClass_of_methodNamed Bd.named
  have hnm := (name_of_methodNamed Bd.named Bd.method).1
  have hlk := Bd.notSynchronized
  have hret := Bd.returns
  have X0 : Stand p l e ({ frames := 1, cells := 1, slots := 800, locals := 12 } : Room) s m #[(.int (Int32.ofNat n))] below meth c s₁ [] 0 0 := Stand.of_body Bd
  have e0 : s₁.heap = h0 := by rw [← hh, Bd.state]; rfl
  have N0 := Fr.nil n0
  have K0 := Keep.refl h0 []
  refine own_go (S' := (s₁.setTop (mkF m 0 #[vi (Int32.ofNat n)] []))) (fun tq kq => castTop rfl kq) ?_
  show own_G p e s below (Q_rm31 Z h0 n0 n) _ _ _
  obtain ⟨_, _, ⟨T101, L101, k101, n101⟩, -, X101, ⟨Lc101, hQ101, l101, y101, z101⟩, st101⟩ := Jvm.LawKit.callS X0 hx (y := M26) hown (mvT hZ (ww hw 173 rfl)) (mvT hZ (ww hw 174 rfl)) (mvT hZ (ww hw 24 rfl)) (mvT hZ (ww hw 175 rfl)) (by decide) (backOf (W := 0) (rm32 l Z a0 hw [] h0 n0 O0 n hnb) hZ (ww hw 175 rfl) (ww hw 24 rfl) (by decide) (by decide)) (g := (mkF m 1 #[vi (Int32.ofNat n)] [(.int (Int32.ofNat n))])) rfl (by rw [hml]; rfl) (argsL := [(.int (Int32.ofNat n))]) (rest := []) (lenOf pd_0 rfl) rfl (by show 2 * 0 + _ ≤ _; exact Nat.le_of_eq rfl) (dd 1 rfl) (fun _ _ => ⟨rfl, e0, (by decide : 0 + 0 ≤ _), (by decide : 0 + 0 ≤ _)⟩)
  dsimp only [Pt.U, Pt.locs, Pt.cells, Pt.slots] at X101 l101 y101 z101 st101 hQ101
  subst l101 y101 z101
  obtain ⟨rfl, N101, eh101⟩ := hQ101
  have Nf101 := Fr.app N0 N101
  obtain ⟨T102, h102, k102, X102, e102, E102, A102, Ex102, st102⟩ := newPE X101 hx hZ (ww hw 26 rfl) eh101 (g := (mkF m 4 #[vi (Int32.ofNat n)] [(.int (Int32.ofNat (2 * n)))])) rfl (dd 2 rfl) rfl (own_pos (by omega)) (cap := 800) (by rw [own_clamp (by omega)]; omega) (by decide) (by decide) (by decide) (ad := "[B") (by decide +kernel)
  obtain ⟨b102, g102⟩ : ∃ z, z = h0.size := ⟨_, rfl⟩
  rw [← g102] at A102 st102 Ex102
  have gk_b102 : h0.size ≤ b102 := Nat.le_trans K0.1 (Nat.le_of_eq g102.symm)
  have V102 : own_Ar Z h102 b102 k102 .byte (List.replicate (Int32.ofNat (2 * n)).toNatClampNeg (.int 0)) := own_Ar.new A102 (own_pos (by omega))
  have K102 := K0.ext E102
  refine own_go (S' := (T102.setTop (mkF m 6 #[vi (Int32.ofNat n)] [(.ref b102)]))) (fun tq kq => XS.iloadN X0.here hx rfl (dd 0 rfl) rfl (st101 tq (st102 tq kq))) ?_
  refine own_retA X102 hx hlk hret rfl rfl (dd 3 rfl) (by decide) (by decide) ?_
  rw [e102]
  exact ⟨b102, _, rfl, Nf101, K102, gk_b102, (by have q := V102; rw [own_clamp (by omega)] at q; exact q), Ex102⟩
theorem loop35 {p : Program} {l : Launch} {e : Env} {s : State} {m : MethodId} {args : Array Value} {below : List Frame} {meth : Method} {c : Code} {Z : State} {a0 : Array Value} {h0 : Heap} {n0 : Nat} (hlk : meth.locks = false) (hret : meth.sig.returnType = some (.array .byte)) (hx : p.tables.exec = Jvm.exec) (hZ : Z.Warmed39 s.vm) (hw : ∀ d ∈ tables_1, d.before a0 Z = true) (hby : c.code = jdk_52_method_14_code) (hml : c.maxLocals = 5) (hown : s.vm.findClass "java/lang/StringUTF16" = some m.cls) (hnm : meth.name = "toBytes") (a : Addr) (ka : ClassId) (b : Addr) (kb : ClassId) (cs : List Nat) (n : Nat) (z : Int32) (HP : own_PK Z z) (hcs : cs.length = n) (hnb : n ≤ 400) (gb : n0 ≤ b) (gkb : h0.size ≤ b) (nab : a ≠ b) :
    ∀ (kt : Nat) (i : Nat), i + kt = n → ∀ {Tp : State} {locs : List Loc} {hp : Heap} (Xp : Stand p l e ({ frames := 2, cells := 1, slots := 800, locals := 60 } : Room) s m args below meth c Tp locs 1 800) (ep : Tp.heap = hp) (Np : Fr n0 locs) (Op : Old Z n0 hp) (Kp : Keep h0 hp []) (Va : own_Ar Z hp a ka .char (own_cv cs)) (Vb : own_Ar Z hp b kb .byte (own_pad (own_wv (cs.take i)) (2 * n) (.int 0))) (Xb : Exa Z hp b "[B"), own_G p e s below (fun v h L => ∃ (b : Addr) (kb : ClassId), v = some (.ref b) ∧ Fr n0 L ∧ Keep h0 h [] ∧ h0.size ≤ b ∧ own_Ar Z h b kb .byte (own_wv cs) ∧ Exa Z h b "[B") ({ frames := 2, cells := 1, slots := 800, locals := 60 } : Room).cells ({ frames := 2, cells := 1, slots := 800, locals := 60 } : Room).slots (Tp.setTop (mkF m 8 #[vr a, vi (Int32.ofNat i), vi (Int32.ofNat n), vr b, vi (Int32.ofNat i)] [])) := by
  have dd := @dq _ _ _ hby D35
  intro kt
  induction kt with
  | zero =>
    intro i  hi Tp locs hp Xp ep Np Op Kp Va Vb Xb
    obtain ⟨SC, hz, SA, SH, SL⟩ := id HP
    refine own_go (S' := (Tp.setTop (mkF m 33 #[vr a, vi (Int32.ofNat i), vi (Int32.ofNat n), vr b, vi (Int32.ofNat i)] [(.ref b)]))) (fun tq kq => XS.iload Xp.here hx rfl (dd 0 rfl) rfl (XS.iloadN Xp.here hx rfl (dd 1 rfl) rfl (XS.icmpYes Xp.here hx rfl (pc0 := 11) (pc' := 32) rfl (dd 2 rfl) rfl (flt (fun q => absurd ((own_lt (by omega) (by omega)).mp q) (by omega))).2.1 (by decide) (by decide) (XS.aloadN Xp.here hx rfl (dd 3 rfl) rfl rfl kq)))) ?_
    refine own_retA Xp hx hlk hret rfl rfl (dd 4 rfl) (by decide) (by decide) ?_
    rw [ep]
    have en : i = n := by omega
    exact ⟨b, _, rfl, Np, Kp, gkb, (by have q := Vb; rw [List.take_of_length_le (by omega), own_padfull (by rw [own_wvlen, hcs])] at q; exact q), Xb⟩
  | succ kt ih =>
    intro i  hi Tp locs hp Xp ep Np Op Kp Va Vb Xb
    obtain ⟨SC, hz, SA, SH, SL⟩ := id HP
    obtain ⟨cl101, Ar101, -, -, hin101, hat101⟩ := Va.at (j := (Int32.ofNat i)) (v := (.int (Int32.ofNat (cs.getD i 0)))) (own_pos (by omega)) (by rw [own_clamp (by omega)]; exact own_cvat (by omega))
    obtain ⟨_, _, ⟨T102, L102, k102, n102⟩, -, X102, ⟨Lc102, hQ102, l102, y102, z102⟩, st102⟩ := Jvm.LawKit.callS Xp hx (y := M4) hown (mvT hZ (ww hw 187 rfl)) (mvT hZ (ww hw 188 rfl)) (mvT hZ (ww hw 24 rfl)) (mvT hZ (ww hw 189 rfl)) (by decide) (backOf (W := 0) (rm36 l Z a0 hw [] hp n0 Op b kb i (2 * n) (Int32.ofNat (cs.getD i 0)) (own_wv (cs.take i)) z HP Vb (own_wvtl (by omega)) (by omega) (by omega) gb) hZ (ww hw 189 rfl) (ww hw 24 rfl) (by decide) (by decide)) (g := (mkF m 20 #[vr a, vi (Int32.ofNat i), vi (Int32.ofNat n), vr b, vi (Int32.ofNat i)] [(.int (Int32.ofNat (cs.getD i 0))), (.int (Int32.ofNat i)), (.ref b)])) rfl (by rw [hml]; rfl) (argsL := [(.ref b), (.int (Int32.ofNat i)), (.int (Int32.ofNat (cs.getD i 0)))]) (rest := []) (lenOf pd_1 rfl) rfl (by show 2 * 0 + _ ≤ _; exact Nat.le_of_eq rfl) (dd 10 rfl) (fun _ _ => ⟨rfl, ep, (by decide : 1 + 0 ≤ _), (by decide : 800 + 0 ≤ _)⟩)
    dsimp only [Pt.U, Pt.locs, Pt.cells, Pt.slots] at X102 l102 y102 z102 st102 hQ102
    subst l102 y102 z102
    obtain ⟨rfl, N102, K102, V102⟩ := hQ102
    have Nf102 := Fr.app Np N102
    have O102 := Op.keep K102 (allS gb all0)
    have KK102 := Kp.trans K102 (allS (Or.inr gkb) all0)
    refine own_go (S' := (Tp.setTop (mkF m 20 #[vr a, vi (Int32.ofNat i), vi (Int32.ofNat n), vr b, vi (Int32.ofNat i)] [(.int (Int32.ofNat (cs.getD i 0))), (.int (Int32.ofNat i)), (.ref b)]))) (fun tq kq => XS.iload Xp.here hx rfl (dd 0 rfl) rfl (XS.iloadN Xp.here hx rfl (dd 1 rfl) rfl (XS.icmpNo Xp.here hx rfl (dd 2 rfl) rfl (tlt ((own_lt (by omega) (by omega)).mpr (by omega))).2.1 (XS.aloadN Xp.here hx rfl (dd 5 rfl) rfl rfl (XS.iload Xp.here hx rfl (dd 6 rfl) rfl (XS.aloadN Xp.here hx rfl (dd 7 rfl) rfl rfl (XS.iloadN Xp.here hx rfl (dd 8 rfl) rfl (Xp.caload hx (j := (Int32.ofNat i)) (v := (.int (Int32.ofNat (cs.getD i 0)))) (by rw [ep]; exact Ar101.1) (State.isArrayOf_alike hZ.alike Ar101.2.1) Ar101.2.2 hin101 hat101 (g := (mkF m 19 #[vr a, vi (Int32.ofNat i), vi (Int32.ofNat n), vr b, vi (Int32.ofNat i)] [(.int (Int32.ofNat i)), (.ref a), (.int (Int32.ofNat i)), (.ref b)])) rfl rfl (dd 9 rfl) tq kq)))))))) ?_
    rw [own_wvS (by omega)] at V102
    refine own_go (S' := (T102.setTop (mkF m 8 #[vr a, vi ((Int32.ofNat i) + (1 : Int32)), vi (Int32.ofNat n), vr b, vi ((Int32.ofNat i) + (1 : Int32))] []))) (fun tq kq => st102 tq (XS.iinc X102.here hx rfl (dd 11 rfl) rfl (l' := #[vr a, vi ((Int32.ofNat i) + (1 : Int32)), vi (Int32.ofNat n), vr b, vi (Int32.ofNat i)]) rfl (XS.iinc X102.here hx rfl (dd 12 rfl) rfl (l' := #[vr a, vi ((Int32.ofNat i) + (1 : Int32)), vi (Int32.ofNat n), vr b, vi ((Int32.ofNat i) + (1 : Int32))]) rfl (XS.goto X102.here hx rfl (pc0 := 29) (pc' := 8) rfl (dd 13 rfl) (by decide) (by decide) kq)))) ?_
    rw [own_succ i]
    have f103 := (Va.keep K102 (ninS nab nin0))
    have f104 := (Xb.keep K102)
    exact ih (i + 1) (by omega) X102 rfl Nf102 O102 KK102 f103 V102 f104
def Q_rm35 (Z : State) (h0 : Heap) (n0 : Nat) (a : Addr) (ka : ClassId) (cs : List Nat) (n : Nat) (z : Int32) (v : Option Value) (h : Heap) (L : List Loc) : Prop := ∃ (b : Addr) (kb : ClassId), v = some (.ref b) ∧ Fr n0 L ∧ Keep h0 h [] ∧ h0.size ≤ b ∧ own_Ar Z h b kb .byte (own_wv cs) ∧ Exa Z h b "[B"
theorem rm35 (l : Launch) (Z : State) (a0 : Array Value) (hw : ∀ d ∈ tables_1, d.before a0 Z = true) (ws : List Jvm.Cond) (h0 : Heap) (n0 : Nat) (O0 : Old Z n0 h0) (a : Addr) (ka : ClassId) (cs : List Nat) (n : Nat) (z : Int32) (HP : own_PK Z z) (Va : own_Ar Z h0 a ka .char (own_cv cs)) (hcs : cs.length = n) (hnb : n ≤ 400) :
    MetFree l M27 (head1 (Jvm.Cond.code M27 jdk_52_method_14_code 5 (some (.array .byte)) :: ws) ({ frames := 2, cells := 1, slots := 800, locals := 60 } : Room)) (fun aq U => aq = #[(.ref a), (.int 0), (.int (Int32.ofNat n))] ∧ Z.Warmed39 U.vm ∧ U.heap = h0) (fun _ _ _ _ _ => True) (fun _ U oo U' => ∃ v L, oo = .returned v ∧ Q_rm35 Z h0 n0 a ka cs n z v U'.heap L ∧ FrameEnd U oo U' L ({ frames := 2, cells := 1, slots := 800, locals := 60 } : Room).cells ({ frames := 2, cells := 1, slots := 800, locals := 60 } : Room).slots) := by
  refine MetFree.of_bodySF (plainFor_of_name pn_rm36) hisR ?_
  intro p e s m args below meth c s₁ Bd hml0 hP hK
  obtain ⟨rfl, hZ, hh⟩ := hP
  have hx := Bd.exec
  have hby := Bd.bytes
  have dd := @dq _ _ _ hby D35
  have hml : c.maxLocals = 5 := hml0
  have hown : s.vm.findClass "java/lang/StringUTF16" = some m.cls := findClass_of_methodNamed Bd.named
  have hnm := (name_of_methodNamed Bd.named Bd.method).1
  have hlk := Bd.notSynchronized
  have hret := Bd.returns
  have X0 : Stand p l e ({ frames := 2, cells := 1, slots := 800, locals := 60 } : Room) s m #[(.ref a), (.int 0), (.int (Int32.ofNat n))] below meth c s₁ [] 0 0 := Stand.of_body Bd
  have e0 : s₁.heap = h0 := by rw [← hh, Bd.state]; rfl
  have N0 := Fr.nil n0
  have K0 := Keep.refl h0 []
  refine own_go (S' := (s₁.setTop (mkF m 0 #[vr a, vi 0, vi (Int32.ofNat n), .unset, .unset] []))) (fun tq kq => castTop rfl kq) ?_
  show own_G p e s below (Q_rm35 Z h0 n0 a ka cs n z) _ _ _
  obtain ⟨SC, hz, SA, SH, SL⟩ := id HP
  obtain ⟨_, _, ⟨T101, L101, k101, n101⟩, -, X101, ⟨Lc101, hQ101, l101, y101, z101⟩, st101⟩ := Jvm.LawKit.callS X0 hx (y := M7) hown (mvT hZ (ww hw 186 rfl)) (mvT hZ (ww hw 171 rfl)) (mvT hZ (ww hw 24 rfl)) (mvT hZ (ww hw 172 rfl)) (by decide) (backOf (W := 0) (rm31 l Z a0 hw [] h0 n0 O0 n hnb) hZ (ww hw 172 rfl) (ww hw 24 rfl) (by decide) (by decide)) (g := (mkF m 1 #[vr a, vi 0, vi (Int32.ofNat n), .unset, .unset] [(.int (Int32.ofNat n))])) rfl (by rw [hml]; rfl) (argsL := [(.int (Int32.ofNat n))]) (rest := []) (lenOf pd_2 rfl) rfl (by show 2 * 0 + _ ≤ _; exact Nat.le_of_eq rfl) (dd 15 rfl) (fun _ _ => ⟨rfl, e0, (by decide : 0 + 1 ≤ _), (by decide : 0 + 800 ≤ _)⟩)
  dsimp only [Pt.U, Pt.locs, Pt.cells, Pt.slots] at X101 l101 y101 z101 st101 hQ101
  subst l101 y101 z101
  obtain ⟨b101, kb101, rfl, N101, K101, gb101, V101, Xb101⟩ := hQ101
  have Nf101 := Fr.app N0 N101
  have O101 := O0.keep K101 all0
  have KK101 := K0.trans K101 all0
  have ne_a_b101 := own_nL Va.lt gb101
  have ge_b101 : n0 ≤ b101 := Nat.le_trans (own_osz O0) gb101
  have gk_b101 : h0.size ≤ b101 := Nat.le_trans K0.1 gb101
  have f102 := (Va.keep K101 nin0)
  refine own_go (S' := (T101.setTop (mkF m 8 #[vr a, vi 0, vi (Int32.ofNat n), vr b101, vi 0] []))) (fun tq kq => XS.iloadN X0.here hx rfl (dd 14 rfl) rfl (st101 tq (XS.astoreN X101.here hx rfl (dd 16 rfl) rfl rfl (l' := #[vr a, vi 0, vi (Int32.ofNat n), vr b101, .unset]) rfl (XS.iconst X101.here hx rfl (dd 17 rfl) (XS.istore X101.here hx rfl (dd 18 rfl) rfl (l' := #[vr a, vi 0, vi (Int32.ofNat n), vr b101, vi 0]) rfl kq))))) ?_
  exact loop35 hlk hret hx hZ hw hby hml hown hnm a ka b101 kb101 cs n z HP hcs hnb ge_b101 gk_b101 ne_a_b101 (n) (0)  (by omega) X101 rfl Nf101 O101 KK101 f102 V101 Xb101
theorem loop7 {p : Program} {l : Launch} {e : Env} {s : State} {m : MethodId} {args : Array Value} {below : List Frame} {meth : Method} {c : Code} {Z : State} {a0 : Array Value} {h0 : Heap} {n0 : Nat} (hlk : meth.locks = false) (hret : meth.sig.returnType = some .int) (hx : p.tables.exec = Jvm.exec) (hZ : Z.Warmed39 s.vm) (hw : ∀ d ∈ tables_1, d.before a0 Z = true) (hby : c.code = jdk_52_method_21_code) (hml : c.maxLocals = 7) (hown : s.vm.findClass "java/lang/StringUTF16" = some m.cls) (hnm : meth.name = "compress") (a : Addr) (ka : ClassId) (b : Addr) (kb : ClassId) (cs : List Nat) (n : Nat) (hcs : cs.length = n) (hnb : n ≤ 400) (hch : ∀ j, cs.getD j 0 < 32768) (gb : n0 ≤ b) (nab : a ≠ b) :
    ∀ (kt : Nat) (i : Nat) (t6 : Slot), (i + kt = n ∧ (∀ j, j < i → cs.getD j 0 ≤ 255) ∧ One t6) → ∀ {Tp : State} {locs : List Loc} {hp : Heap} (Xp : Stand p l e ({ frames := 0, cells := 0, slots := 0, locals := 0 } : Room) s m args below meth c Tp locs 0 0) (ep : Tp.heap = hp) (Np : Fr n0 locs) (Op : Old Z n0 hp) (Kp : Keep h0 hp [b]) (Va : own_Ar Z hp a ka .char (own_cv cs)) (Vb : own_Ar Z hp b kb .byte (own_pad (own_lv (cs.take i)) n (.int 0))), own_G p e s below (fun v h L => ∃ vs : List Value, v = some (.int (Int32.ofNat (own_fi cs))) ∧ Fr n0 L ∧ Keep h0 h [b] ∧ own_Ar Z h b kb .byte vs ∧ (own_fi cs = n → vs = own_lv cs)) ({ frames := 0, cells := 0, slots := 0, locals := 0 } : Room).cells ({ frames := 0, cells := 0, slots := 0, locals := 0 } : Room).slots (Tp.setTop (mkF m 3 #[vr a, vi (Int32.ofNat i), vr b, vi (Int32.ofNat i), vi (Int32.ofNat n), vi (Int32.ofNat i), t6] [])) := by
  have dd := @dq _ _ _ hby D7
  intro kt
  induction kt with
  | zero =>
    intro i t6 hi Tp locs hp Xp ep Np Op Kp Va Vb
    refine own_go (S' := (Tp.setTop (mkF m 46 #[vr a, vi (Int32.ofNat i), vr b, vi (Int32.ofNat i), vi (Int32.ofNat n), vi (Int32.ofNat i), t6] [(.int (Int32.ofNat n))]))) (fun tq kq => XS.iload Xp.here hx rfl (dd 0 rfl) rfl (XS.iload Xp.here hx rfl (dd 1 rfl) rfl (XS.icmpYes Xp.here hx rfl (pc0 := 7) (pc' := 44) rfl (dd 2 rfl) rfl (flt (fun q => absurd ((own_lt (by omega) (by omega)).mp q) (by omega))).2.1 (by decide) (by decide) (XS.iload Xp.here hx rfl (dd 3 rfl) rfl kq)))) ?_
    refine own_retI Xp hx hlk hret (dd 4 rfl) (by decide) (by decide) ?_
    rw [ep]
    have en : i = n := by omega
    subst en
    have ef := own_fi_all (cs := cs) (fun j hj => hi.2.1 j (by omega))
    exact ⟨_, by rw [ef, hcs], Np, Kp, (by have q := Vb; rw [List.take_of_length_le (by omega), own_padfull (by rw [own_lvlen, hcs])] at q; exact q), fun _ => rfl⟩
  | succ kt ih =>
    intro i t6 hi Tp locs hp Xp ep Np Op Kp Va Vb
    obtain ⟨cl101, Ar101, -, -, hin101, hat101⟩ := Va.at (j := (Int32.ofNat i)) (v := (.int (Int32.ofNat (cs.getD i 0)))) (own_pos (by omega)) (by rw [own_clamp (by omega)]; exact own_cvat (by omega))
    refine own_go (S' := (Tp.setTop (mkF m 20 #[vr a, vi (Int32.ofNat i), vr b, vi (Int32.ofNat i), vi (Int32.ofNat n), vi (Int32.ofNat i), vi (Int32.ofNat (cs.getD i 0))] [(.int 255), (.int (Int32.ofNat (cs.getD i 0)))]))) (fun tq kq => XS.iload Xp.here hx rfl (dd 0 rfl) rfl (XS.iload Xp.here hx rfl (dd 1 rfl) rfl (XS.icmpNo Xp.here hx rfl (dd 2 rfl) rfl (tlt ((own_lt (by omega) (by omega)).mpr (by omega))).2.1 (XS.aloadN Xp.here hx rfl (dd 5 rfl) rfl rfl (XS.iloadN Xp.here hx rfl (dd 6 rfl) rfl (Xp.caload hx (j := (Int32.ofNat i)) (v := (.int (Int32.ofNat (cs.getD i 0)))) (by rw [ep]; exact Ar101.1) (State.isArrayOf_alike hZ.alike Ar101.2.1) Ar101.2.2 hin101 hat101 (g := (mkF m 12 #[vr a, vi (Int32.ofNat i), vr b, vi (Int32.ofNat i), vi (Int32.ofNat n), vi (Int32.ofNat i), t6] [(.int (Int32.ofNat i)), (.ref a)])) rfl rfl (dd 7 rfl) tq (XS.istoreS Xp.here hx rfl (dd 8 rfl) rfl rfl hi.2.2 (XS.iload Xp.here hx rfl (dd 9 rfl) rfl (XS.sipush Xp.here hx rfl (dd 10 rfl) kq))))))))) ?_
    by_cases hbig : cs.getD i 0 ≤ 255
    · obtain ⟨cl102, Ar102, qa102, sa102, hin102, -⟩ := Vb.at (j := (Int32.ofNat i)) (own_pos (by omega)) (by rw [own_clamp (by omega)]; have q := own_padat (vs := own_lv (cs.take i)) (n := n) (d := .int 0) (by rw [own_lvtl (by omega)]; omega); rw [own_lvtl (by omega)] at q; exact q)
      obtain ⟨T102, h102, X102, e102, W102, st102⟩ := stB Xp hx hZ ep Ar102 (j := (Int32.ofNat i)) hin102 (g := (mkF m 31 #[vr a, vi (Int32.ofNat i), vr b, vi (Int32.ofNat i), vi (Int32.ofNat n), vi (Int32.ofNat i), vi (Int32.ofNat (cs.getD i 0))] [(.int ((Int32.ofNat (cs.getD i 0)).toInt8.toInt32)), (.int (Int32.ofNat i)), (.ref b)])) rfl rfl (dd 16 rfl)
      have N102 := Fr.snoc X102 Np gb
      have O102 := Op.wr W102 gb
      have K102 := Kp.wr W102 (Or.inl (List.mem_of_getElem? (i := 0) rfl))
      have V102 : own_Ar Z h102 b kb .byte (own_pad (own_lv (cs.take (i + 1))) n (.int 0)) := (by have q := (own_Ar.set Ar102 qa102 sa102 Vb.small W102); have r := own_padset (vs := own_lv (cs.take i)) (n := n) (d := .int 0) (v := .int (own_lb (Int32.ofNat (cs.getD i 0)))) (by rw [own_lvtl (by omega)]; omega); rw [own_lvtl (by omega), own_lvS (by omega)] at r; rw [own_clamp (by omega)] at q; exact r ▸ q)
      refine own_go (S' := (T102.setTop (mkF m 3 #[vr a, vi ((Int32.ofNat i) + (1 : Int32)), vr b, vi ((Int32.ofNat i) + (1 : Int32)), vi (Int32.ofNat n), vi ((Int32.ofNat i) + (1 : Int32)), vi (Int32.ofNat (cs.getD i 0))] []))) (fun tq kq => XS.icmpYes Xp.here hx rfl (pc0 := 20) (pc' := 26) rfl (dd 11 rfl) rfl (flt (fun q => absurd ((own_lt (a := 255) (by decide) (by have := hch i; omega) : Int32.ofNat 255 < (Int32.ofNat (cs.getD i 0)) ↔ _).mp q) (by omega))).2.2.2 (by decide) (by decide) (XS.aloadN Xp.here hx rfl (dd 12 rfl) rfl rfl (XS.iloadN Xp.here hx rfl (dd 13 rfl) rfl (XS.iload Xp.here hx rfl (dd 14 rfl) rfl (XS.i2b Xp.here hx rfl (dd 15 rfl) rfl (st102 tq (XS.iinc X102.here hx rfl (dd 17 rfl) rfl (l' := #[vr a, vi ((Int32.ofNat i) + (1 : Int32)), vr b, vi (Int32.ofNat i), vi (Int32.ofNat n), vi (Int32.ofNat i), vi (Int32.ofNat (cs.getD i 0))]) rfl (XS.iinc X102.here hx rfl (dd 18 rfl) rfl (l' := #[vr a, vi ((Int32.ofNat i) + (1 : Int32)), vr b, vi ((Int32.ofNat i) + (1 : Int32)), vi (Int32.ofNat n), vi (Int32.ofNat i), vi (Int32.ofNat (cs.getD i 0))]) rfl (XS.iinc X102.here hx rfl (dd 19 rfl) rfl (l' := #[vr a, vi ((Int32.ofNat i) + (1 : Int32)), vr b, vi ((Int32.ofNat i) + (1 : Int32)), vi (Int32.ofNat n), vi ((Int32.ofNat i) + (1 : Int32)), vi (Int32.ofNat (cs.getD i 0))]) rfl (XS.goto X102.here hx rfl (pc0 := 41) (pc' := 3) rfl (dd 20 rfl) (by decide) (by decide) kq)))))))))) ?_
      rw [own_succ i]
      have f103 := (Va.other W102 nab)
      exact ih (i + 1) _ ⟨by omega, fun j hj => (Nat.lt_succ_iff_lt_or_eq.mp hj).elim (hi.2.1 j) (fun q => q ▸ hbig), One.val rfl⟩ X102 e102 N102 O102 K102 f103 V102
    · refine own_go (S' := (Tp.setTop (mkF m 25 #[vr a, vi (Int32.ofNat i), vr b, vi (Int32.ofNat i), vi (Int32.ofNat n), vi (Int32.ofNat i), vi (Int32.ofNat (cs.getD i 0))] [(.int (Int32.ofNat i))]))) (fun tq kq => XS.icmpNo Xp.here hx rfl (dd 11 rfl) rfl (tlt ((own_lt (a := 255) (by decide) (by have := hch i; omega) : Int32.ofNat 255 < (Int32.ofNat (cs.getD i 0)) ↔ _).mpr (by omega))).2.2.2 (XS.iload Xp.here hx rfl (dd 21 rfl) rfl kq)) ?_
      refine own_retI Xp hx hlk hret (dd 22 rfl) (by decide) (by decide) ?_
      rw [ep]
      have ef := own_fi_at (cs := cs) (i := i) (by omega) hi.2.1 (by omega)
      exact ⟨_, by rw [ef], Np, Kp, Vb, fun q => absurd q (by omega)⟩
def Q_rm7 (Z : State) (h0 : Heap) (n0 : Nat) (a : Addr) (ka : ClassId) (b : Addr) (kb : ClassId) (cs : List Nat) (n : Nat) (v : Option Value) (h : Heap) (L : List Loc) : Prop := ∃ vs : List Value, v = some (.int (Int32.ofNat (own_fi cs))) ∧ Fr n0 L ∧ Keep h0 h [b] ∧ own_Ar Z h b kb .byte vs ∧ (own_fi cs = n → vs = own_lv cs)
theorem rm7 (l : Launch) (Z : State) (a0 : Array Value) (hw : ∀ d ∈ tables_1, d.before a0 Z = true) (ws : List Jvm.Cond) (h0 : Heap) (n0 : Nat) (O0 : Old Z n0 h0) (a : Addr) (ka : ClassId) (b : Addr) (kb : ClassId) (cs : List Nat) (n : Nat) (Va : own_Ar Z h0 a ka .char (own_cv cs)) (Vb : own_Ar Z h0 b kb .byte (own_pad [] n (.int 0))) (hcs : cs.length = n) (hnb : n ≤ 400) (hch : ∀ j, cs.getD j 0 < 32768) (gb : n0 ≤ b) (nab : a ≠ b) :
    MetFree l M28 (head1 (Jvm.Cond.code M28 jdk_52_method_21_code 7 (some .int) :: ws) ({ frames := 0, cells := 0, slots := 0, locals := 0 } : Room)) (fun aq U => aq = #[(.ref a), (.int 0), (.ref b), (.int 0), (.int (Int32.ofNat n))] ∧ Z.Warmed39 U.vm ∧ U.heap = h0) (fun _ _ _ _ _ => True) (fun _ U oo U' => ∃ v L, oo = .returned v ∧ Q_rm7 Z h0 n0 a ka b kb cs n v U'.heap L ∧ FrameEnd U oo U' L ({ frames := 0, cells := 0, slots := 0, locals := 0 } : Room).cells ({ frames := 0, cells := 0, slots := 0, locals := 0 } : Room).slots) := by
  refine MetFree.of_bodySF (plainFor_of_name pn_rm36) hisR ?_
  intro p e s m args below meth c s₁ Bd hml0 hP hK
  obtain ⟨rfl, hZ, hh⟩ := hP
  have hx := Bd.exec
  have hby := Bd.bytes
  have dd := @dq _ _ _ hby D7
  have hml : c.maxLocals = 7 := hml0
  have hown : s.vm.findClass "java/lang/StringUTF16" = some m.cls := findClass_of_methodNamed Bd.named
  have hnm := (name_of_methodNamed Bd.named Bd.method).1
  have hlk := Bd.notSynchronized
  have hret := Bd.returns
  have X0 : Stand p l e ({ frames := 0, cells := 0, slots := 0, locals := 0 } : Room) s m #[(.ref a), (.int 0), (.ref b), (.int 0), (.int (Int32.ofNat n))] below meth c s₁ [] 0 0 := Stand.of_body Bd
  have e0 : s₁.heap = h0 := by rw [← hh, Bd.state]; rfl
  have N0 := Fr.nil n0
  have K0 := Keep.refl h0 [b]
  refine own_go (S' := (s₁.setTop (mkF m 0 #[vr a, vi 0, vr b, vi 0, vi (Int32.ofNat n), .unset, .unset] []))) (fun tq kq => castTop rfl kq) ?_
  show own_G p e s below (Q_rm7 Z h0 n0 a ka b kb cs n) _ _ _
  refine own_go (S' := (s₁.setTop (mkF m 3 #[vr a, vi 0, vr b, vi 0, vi (Int32.ofNat n), vi 0, .unset] []))) (fun tq kq => XS.iconst X0.here hx rfl (dd 23 rfl) (XS.istore X0.here hx rfl (dd 24 rfl) rfl (l' := #[vr a, vi 0, vr b, vi 0, vi (Int32.ofNat n), vi 0, .unset]) rfl kq)) ?_
  exact loop7 hlk hret hx hZ hw hby hml hown hnm a ka b kb cs n hcs hnb hch gb nab (n) (0) .unset ⟨by omega, fun j hj => absurd hj (Nat.not_lt_zero j), One.u⟩ X0 e0 N0 O0 K0 Va Vb
def Q_rm37 (Z : State) (h0 : Heap) (n0 : Nat) (b : Addr) (kb : ClassId) (i : Nat) (x : Int32) (y : Int32) (vs : List Value) (z : Int32) (v : Option Value) (h : Heap) (L : List Loc) : Prop := v = some (.int (own_gc x y)) ∧ Fr n0 L ∧ h = h0
theorem rm37 (l : Launch) (Z : State) (a0 : Array Value) (hw : ∀ d ∈ tables_1, d.before a0 Z = true) (ws : List Jvm.Cond) (h0 : Heap) (n0 : Nat) (O0 : Old Z n0 h0) (b : Addr) (kb : ClassId) (i : Nat) (x : Int32) (y : Int32) (vs : List Value) (z : Int32) (HP : own_PK Z z) (Vb : own_Ar Z h0 b kb .byte vs) (hx0 : vs[2 * i]? = some (.int x)) (hy0 : vs[2 * i + 1]? = some (.int y)) (hib : i < 2 ^ 29) :
    MetFree l M5 (head1 (Jvm.Cond.code M5 jdk_52_method_5_code 2 (some .char) :: ws) ({ frames := 0, cells := 0, slots := 0, locals := 0 } : Room)) (fun aq U => aq = #[(.ref b), (.int (Int32.ofNat i))] ∧ Z.Warmed39 U.vm ∧ U.heap = h0) (fun _ _ _ _ _ => True) (fun _ U oo U' => ∃ v L, oo = .returned v ∧ Q_rm37 Z h0 n0 b kb i x y vs z v U'.heap L ∧ FrameEnd U oo U' L ({ frames := 0, cells := 0, slots := 0, locals := 0 } : Room).cells ({ frames := 0, cells := 0, slots := 0, locals := 0 } : Room).slots) := by
  refine MetFree.of_bodySF (plainFor_of_name pn_rm36) hisR ?_
  intro p e s m args below meth c s₁ Bd hml0 hP hK
  obtain ⟨rfl, hZ, hh⟩ := hP
  have hx := Bd.exec
  have hby := Bd.bytes
  have dd := @dq _ _ _ hby D37
  have hml : c.maxLocals = 2 := hml0
  have hown : s.vm.findClass "java/lang/StringUTF16" = some m.cls := findClass_of_methodNamed Bd.named
  have hnm := (name_of_methodNamed Bd.named Bd.method).1
  have hlk := Bd.notSynchronized
  have hret := Bd.returns
  have X0 : Stand p l e ({ frames := 0, cells := 0, slots := 0, locals := 0 } : Room) s m #[(.ref b), (.int (Int32.ofNat i))] below meth c s₁ [] 0 0 := Stand.of_body Bd
  have e0 : s₁.heap = h0 := by rw [← hh, Bd.state]; rfl
  have N0 := Fr.nil n0
  have K0 := Keep.refl h0 []
  refine own_go (S' := (s₁.setTop (mkF m 0 #[vr b, vi (Int32.ofNat i)] []))) (fun tq kq => castTop rfl kq) ?_
  show own_G p e s below (Q_rm37 Z h0 n0 b kb i x y vs z) _ _ _
  obtain ⟨SC, hz, SA, SH, SL⟩ := id HP
  obtain ⟨T101, X101, e101, st101⟩ := getS2 X0 hx hZ hown (host := "") (Or.inl (ww hw 190 rfl)) Via.refl e0 (SA.ext O0.2) (g := (mkF m 0 #[vr b, vi (Int32.ofNat i)] [])) rfl (dd 0 rfl)
  refine own_go (S' := (T101.setTop (mkF m 31 #[vr b, vi (Int32.ofNat i)] [(.int ((Int32.ofNat i) <<< ((1 : Int32) &&& 31)))]))) (fun tq kq => st101 tq (XS.ifYes X101.here hx rfl (pc0 := 3) (pc' := 28) rfl (dd 1 rfl) rfl ((if0 _ _).trans (feq (by decide : ¬ ((1 : Int32) = (0 : Int32)))).2) (by decide) (by decide) (XS.iloadN X101.here hx rfl (dd 2 rfl) rfl (XS.iconst X101.here hx rfl (dd 3 rfl) (XS.ishl X101.here hx rfl (dd 4 rfl) rfl kq))))) ?_
  rw [own_shl1 (by omega)]
  obtain ⟨cl102, Ar102, -, -, hin102, hat102⟩ := Vb.at (j := (Int32.ofNat (2 * i))) (v := (.int x)) (own_pos (by omega)) (by rw [own_clamp (by omega)]; exact hx0)
  obtain ⟨T103, X103, e103, st103⟩ := getS2 X101 hx hZ hown (host := "") (Or.inl (ww hw 191 rfl)) Via.refl e101 (SH.ext O0.2) (g := (mkF m 42 #[vr b, vi ((Int32.ofNat (2 * i)) + (1 : Int32))] [(.int (x &&& (255 : Int32)))])) rfl (dd 12 rfl)
  refine own_go (S' := (T103.setTop (mkF m 48 #[vr b, vi ((Int32.ofNat (2 * i)) + (1 : Int32))] [(.int ((Int32.ofNat (2 * i)) + (1 : Int32))), (.ref b), (.int ((x &&& (255 : Int32)) <<< ((0 : Int32) &&& 31)))]))) (fun tq kq => XS.istoreN X101.here hx rfl (dd 5 rfl) rfl (l' := #[vr b, vi (Int32.ofNat (2 * i))]) rfl (XS.aloadN X101.here hx rfl (dd 6 rfl) rfl rfl (XS.iloadN X101.here hx rfl (dd 7 rfl) rfl (XS.iinc X101.here hx rfl (dd 8 rfl) rfl (l' := #[vr b, vi ((Int32.ofNat (2 * i)) + (1 : Int32))]) rfl (X101.baloadBytes hx (j := (Int32.ofNat (2 * i))) (v := (.int x)) (by rw [e101]; exact Ar102.1) (State.isArrayOf_alike hZ.alike Ar102.2.1) Ar102.2.2 hin102 hat102 (g := (mkF m 37 #[vr b, vi ((Int32.ofNat (2 * i)) + (1 : Int32))] [(.int (Int32.ofNat (2 * i))), (.ref b)])) rfl rfl (dd 9 rfl) tq (XS.sipush X101.here hx rfl (dd 10 rfl) (XS.iand X101.here hx rfl (dd 11 rfl) rfl (st103 tq (XS.ishl X103.here hx rfl (dd 13 rfl) rfl (XS.aloadN X103.here hx rfl (dd 14 rfl) rfl rfl (XS.iloadN X103.here hx rfl (dd 15 rfl) rfl kq))))))))))) ?_
  rw [own_succ (2 * i)]
  obtain ⟨cl104, Ar104, -, -, hin104, hat104⟩ := Vb.at (j := (Int32.ofNat (2 * i + 1))) (v := (.int y)) (own_pos (by omega)) (by rw [own_clamp (by omega)]; exact hy0)
  obtain ⟨T105, X105, e105, st105⟩ := getS2 X103 hx hZ hown (host := "") (Or.inl (ww hw 192 rfl)) Via.refl e103 (SL.ext O0.2) (g := (mkF m 53 #[vr b, vi (Int32.ofNat (2 * i + 1))] [(.int (y &&& (255 : Int32))), (.int ((x &&& (255 : Int32)) <<< ((0 : Int32) &&& 31)))])) rfl (dd 19 rfl)
  refine own_go (S' := (T105.setTop (mkF m 59 #[vr b, vi (Int32.ofNat (2 * i + 1))] [(.int ((((x &&& (255 : Int32)) <<< ((0 : Int32) &&& 31)) ||| ((y &&& (255 : Int32)) <<< ((8 : Int32) &&& 31))).toUInt32.toUInt16.toUInt32.toInt32))]))) (fun tq kq => X103.baloadBytes hx (j := (Int32.ofNat (2 * i + 1))) (v := (.int y)) (by rw [e103]; exact Ar104.1) (State.isArrayOf_alike hZ.alike Ar104.2.1) Ar104.2.2 hin104 hat104 (g := (mkF m 48 #[vr b, vi (Int32.ofNat (2 * i + 1))] [(.int (Int32.ofNat (2 * i + 1))), (.ref b), (.int ((x &&& (255 : Int32)) <<< ((0 : Int32) &&& 31)))])) rfl rfl (dd 16 rfl) tq (XS.sipush X103.here hx rfl (dd 17 rfl) (XS.iand X103.here hx rfl (dd 18 rfl) rfl (st105 tq (XS.ishl X105.here hx rfl (dd 20 rfl) rfl (XS.ior X105.here hx rfl (dd 21 rfl) rfl (XS.i2c X105.here hx rfl (dd 22 rfl) rfl kq))))))) ?_
  refine own_retN X105 hx hlk hret (by simp) (dd 23 rfl) (by decide) (by decide) ?_
  exact ⟨rfl, N0, e105⟩
def Q_rm6 (Z : State) (h0 : Heap) (n0 : Nat) (a : Addr) (ka : ClassId) (cs : List Nat) (n : Nat) (z : Int32) (v : Option Value) (h : Heap) (L : List Loc) : Prop := ∃ (b : Addr) (kb : ClassId), v = some (.ref b) ∧ Fr n0 L ∧ Keep h0 h [] ∧ h0.size ≤ b ∧ own_Ar Z h b kb .byte (own_sv cs) ∧ Exa Z h b "[B"
theorem rm6 (l : Launch) (Z : State) (a0 : Array Value) (hw : ∀ d ∈ tables_1, d.before a0 Z = true) (ws : List Jvm.Cond) (h0 : Heap) (n0 : Nat) (O0 : Old Z n0 h0) (a : Addr) (ka : ClassId) (cs : List Nat) (n : Nat) (z : Int32) (HP : own_PK Z z) (Va : own_Ar Z h0 a ka .char (own_cv cs)) (hcs : cs.length = n) (hnb : n ≤ 400) (hch0 : ∀ j, cs.getD j 0 < 32768) :
    MetFree l M29 (head1 (Jvm.Cond.code M29 jdk_52_method_16_code 6 (some (.array .byte)) :: ws) ({ frames := 3, cells := 2, slots := 1200, locals := 76 } : Room)) (fun aq U => aq = #[(.ref a), (.int 0), (.int (Int32.ofNat n))] ∧ Z.Warmed39 U.vm ∧ U.heap = h0) (fun _ _ _ _ _ => True) (fun _ U oo U' => ∃ v L, oo = .returned v ∧ Q_rm6 Z h0 n0 a ka cs n z v U'.heap L ∧ FrameEnd U oo U' L ({ frames := 3, cells := 2, slots := 1200, locals := 76 } : Room).cells ({ frames := 3, cells := 2, slots := 1200, locals := 76 } : Room).slots) := by
  refine MetFree.of_bodySF (plainFor_of_name pn_rm36) hisR ?_
  intro p e s m args below meth c s₁ Bd hml0 hP hK
  obtain ⟨rfl, hZ, hh⟩ := hP
  have hx := Bd.exec
  have hby := Bd.bytes
  have dd := @dq _ _ _ hby D6
  have hml : c.maxLocals = 6 := hml0
  have hown : s.vm.findClass "java/lang/StringUTF16" = some m.cls := findClass_of_methodNamed Bd.named
  have hnm := (name_of_methodNamed Bd.named Bd.method).1
  have hlk := Bd.notSynchronized
  have hret := Bd.returns
  have X0 : Stand p l e ({ frames := 3, cells := 2, slots := 1200, locals := 76 } : Room) s m #[(.ref a), (.int 0), (.int (Int32.ofNat n))] below meth c s₁ [] 0 0 := Stand.of_body Bd
  have e0 : s₁.heap = h0 := by rw [← hh, Bd.state]; rfl
  have N0 := Fr.nil n0
  have K0 := Keep.refl h0 []
  refine own_go (S' := (s₁.setTop (mkF m 0 #[vr a, vi 0, vi (Int32.ofNat n), .unset, .unset, .unset] []))) (fun tq kq => castTop rfl kq) ?_
  show own_G p e s below (Q_rm6 Z h0 n0 a ka cs n z) _ _ _
  obtain ⟨SC, hz, SA, SH, SL⟩ := id HP
  obtain ⟨T101, h101, k101, X101, e101, E101, A101, Ex101, st101⟩ := newPE X0 hx hZ (ww hw 26 rfl) e0 (g := (mkF m 1 #[vr a, vi 0, vi (Int32.ofNat n), .unset, .unset, .unset] [(.int (Int32.ofNat n))])) rfl (dd 1 rfl) rfl (own_pos (by omega)) (cap := 400) (by rw [own_clamp (by omega)]; omega) (by decide) (by decide) (by decide) (ad := "[B") (by decide +kernel)
  obtain ⟨b101, g101⟩ : ∃ z, z = h0.size := ⟨_, rfl⟩
  rw [← g101] at A101 st101 Ex101
  have ne_a_b101 := own_nE Va.lt g101
  have ge_b101 : n0 ≤ b101 := Nat.le_trans (own_osz O0) (Nat.le_of_eq g101.symm)
  have gk_b101 : h0.size ≤ b101 := Nat.le_trans K0.1 (Nat.le_of_eq g101.symm)
  have V101 : own_Ar Z h101 b101 k101 .byte (List.replicate (Int32.ofNat n).toNatClampNeg (.int 0)) := own_Ar.new A101 (own_pos (by omega))
  have O101 := O0.ext E101
  have K101 := K0.ext E101
  have hch := hch0
  have f102 := (Va.ext E101)
  obtain ⟨_, _, ⟨T103, L103, k103, n103⟩, -, X103, ⟨Lc103, hQ103, l103, y103, z103⟩, st103⟩ := Jvm.LawKit.callS X101 hx (y := M28) hown (mvT hZ (ww hw 27 rfl)) (mvT hZ (ww hw 28 rfl)) (mvT hZ (ww hw 24 rfl)) (mvT hZ (ww hw 29 rfl)) (by decide) (backOf (W := 0) (rm7 l Z a0 hw [] h101 n0 O101 a ka b101 k101 cs n f102 (by have q := V101; rw [own_clamp (by omega)] at q; exact q) hcs hnb hch0 ge_b101 ne_a_b101) hZ (ww hw 29 rfl) (ww hw 24 rfl) (by decide) (by decide)) (g := (mkF m 9 #[vr a, vi 0, vi (Int32.ofNat n), vr b101, .unset, .unset] [(.int (Int32.ofNat n)), (.int 0), (.ref b101), (.int 0), (.ref a)])) rfl (by rw [hml]; rfl) (argsL := [(.ref a), (.int 0), (.ref b101), (.int 0), (.int (Int32.ofNat n))]) (rest := []) (lenOf pd_3 rfl) rfl (by show 2 * 0 + _ ≤ _; exact Nat.le_of_eq rfl) (dd 8 rfl) (fun _ _ => ⟨rfl, e101, (by decide : 1 + 0 ≤ _), (by decide : 400 + 0 ≤ _)⟩)
  dsimp only [Pt.U, Pt.locs, Pt.cells, Pt.slots] at X103 l103 y103 z103 st103 hQ103
  subst l103 y103 z103
  obtain ⟨vs103, rfl, N103, K103, V103, hf103⟩ := hQ103
  have Nf103 := Fr.app N0 N103
  have O103 := O101.keep K103 (allS ge_b101 all0)
  have KK103 := K101.trans K103 (allS (Or.inr gk_b101) all0)
  refine own_go (S' := (T103.setTop (mkF m 14 #[vr a, vi 0, vi (Int32.ofNat n), vr b101, vi (Int32.ofNat (own_fi cs)), .unset] []))) (fun tq kq => XS.iloadN X0.here hx rfl (dd 0 rfl) rfl (st101 tq (XS.astoreN X101.here hx rfl (dd 2 rfl) rfl rfl (l' := #[vr a, vi 0, vi (Int32.ofNat n), vr b101, .unset, .unset]) rfl (XS.aloadN X101.here hx rfl (dd 3 rfl) rfl rfl (XS.iloadN X101.here hx rfl (dd 4 rfl) rfl (XS.aloadN X101.here hx rfl (dd 5 rfl) rfl rfl (XS.iconst X101.here hx rfl (dd 6 rfl) (XS.iloadN X101.here hx rfl (dd 7 rfl) rfl (st103 tq (XS.istore X103.here hx rfl (dd 9 rfl) rfl (l' := #[vr a, vi 0, vi (Int32.ofNat n), vr b101, vi (Int32.ofNat (own_fi cs)), .unset]) rfl kq)))))))))) ?_
  by_cases hall : own_fi cs = cs.length
  · refine own_go (S' := (T103.setTop (mkF m 58 #[vr a, vi 0, vi (Int32.ofNat n), vr b101, vi (Int32.ofNat (own_fi cs)), .unset] [(.ref b101)]))) (fun tq kq => XS.iload X103.here hx rfl (dd 10 rfl) rfl (XS.iloadN X103.here hx rfl (dd 11 rfl) rfl (XS.icmpYes X103.here hx rfl (pc0 := 17) (pc' := 57) rfl (dd 12 rfl) rfl (teq (by rw [hall, hcs])).1 (by decide) (by decide) (XS.aloadN X103.here hx rfl (dd 13 rfl) rfl rfl kq)))) ?_
    refine own_retA X103 hx hlk hret rfl rfl (dd 14 rfl) (by decide) (by decide) ?_
    have f104 := (Ex101.keep K103)
    exact ⟨b101, _, rfl, Nf103, KK103, gk_b101, (by have q := V103; rw [hf103 (hall.trans hcs)] at q; unfold own_sv; rw [if_pos hall]; exact q), f104⟩
  · have hlt := own_fi_lt hall
    have hbg := own_fi_big hlt
    have hat := own_wvat hlt
    have hrg := hch0 (own_fi cs)
    have hgc : own_gc (own_b0 (Int32.ofNat (cs.getD (own_fi cs) 0))) (own_b1 (Int32.ofNat (cs.getD (own_fi cs) 0))) = (Int32.ofNat (cs.getD (own_fi cs) 0)) := own_gcc (by rw [own_nat (by omega)]; omega) (by rw [own_nat (by omega)]; omega)
    have f105 := (f102.keep K103 (ninS ne_a_b101 nin0))
    obtain ⟨_, _, ⟨T106, L106, k106, n106⟩, -, X106, ⟨Lc106, hQ106, l106, y106, z106⟩, st106⟩ := Jvm.LawKit.callS X103 hx (y := M27) hown (mvT hZ (ww hw 183 rfl)) (mvT hZ (ww hw 184 rfl)) (mvT hZ (ww hw 24 rfl)) (mvT hZ (ww hw 185 rfl)) (by decide) (backOf (W := 0) (rm35 l Z a0 hw [] T103.heap n0 O103 a ka cs n z HP f105 hcs hnb) hZ (ww hw 185 rfl) (ww hw 24 rfl) (by decide) (by decide)) (g := (mkF m 23 #[vr a, vi 0, vi (Int32.ofNat n), vr b101, vi (Int32.ofNat (own_fi cs)), .unset] [(.int (Int32.ofNat n)), (.int 0), (.ref a)])) rfl (by rw [hml]; rfl) (argsL := [(.ref a), (.int 0), (.int (Int32.ofNat n))]) (rest := []) (lenOf pd_4 rfl) rfl (by show 2 * 0 + _ ≤ _; exact Nat.le_of_eq rfl) (dd 18 rfl) (fun _ _ => ⟨rfl, rfl, (by decide : 1 + 1 ≤ _), (by decide : 400 + 800 ≤ _)⟩)
    dsimp only [Pt.U, Pt.locs, Pt.cells, Pt.slots] at X106 l106 y106 z106 st106 hQ106
    subst l106 y106 z106
    obtain ⟨b106, kb106, rfl, N106, K106, gb106, V106, Xb106⟩ := hQ106
    have Nf106 := Fr.app Nf103 N106
    have O106 := O103.keep K106 all0
    have KK106 := KK103.trans K106 all0
    have gk_b106 : h0.size ≤ b106 := Nat.le_trans KK103.1 gb106
    obtain ⟨_, _, ⟨T107, L107, k107, n107⟩, -, X107, ⟨Lc107, hQ107, l107, y107, z107⟩, st107⟩ := Jvm.LawKit.callS X106 hx (y := M5) hown (mvT hZ (ww hw 193 rfl)) (mvT hZ (ww hw 194 rfl)) (mvT hZ (ww hw 24 rfl)) (mvT hZ (ww hw 195 rfl)) (by decide) (backOf (W := 0) (rm37 l Z a0 hw [] T106.heap n0 O106 b106 kb106 (own_fi cs) (own_b0 (Int32.ofNat (cs.getD (own_fi cs) 0))) (own_b1 (Int32.ofNat (cs.getD (own_fi cs) 0))) (own_wv cs) z HP V106 hat.1 hat.2 (by omega)) hZ (ww hw 195 rfl) (ww hw 24 rfl) (by decide) (by decide)) (g := (mkF m 32 #[vr a, vi 0, vi (Int32.ofNat n), vr b101, vi (Int32.ofNat (own_fi cs)), vr b106] [(.int (Int32.ofNat (own_fi cs))), (.ref b106)])) rfl (by rw [hml]; rfl) (argsL := [(.ref b106), (.int (Int32.ofNat (own_fi cs)))]) (rest := []) (lenOf pd_5 rfl) rfl (by show 2 * 0 + _ ≤ _; exact Nat.le_of_eq rfl) (dd 22 rfl) (fun _ _ => ⟨rfl, rfl, (by decide : 2 + 0 ≤ _), (by decide : 1200 + 0 ≤ _)⟩)
    dsimp only [Pt.U, Pt.locs, Pt.cells, Pt.slots] at X107 l107 y107 z107 st107 hQ107
    subst l107 y107 z107
    obtain ⟨rfl, N107, eh107⟩ := hQ107
    have Nf107 := Fr.app Nf106 N107
    refine own_go (S' := (T107.setTop (mkF m 56 #[vr a, vi 0, vi (Int32.ofNat n), vr b101, vi (Int32.ofNat (own_fi cs)), vr b106] [(.ref b106)]))) (fun tq kq => XS.iload X103.here hx rfl (dd 10 rfl) rfl (XS.iloadN X103.here hx rfl (dd 11 rfl) rfl (XS.icmpNo X103.here hx rfl (dd 12 rfl) rfl (feq (fun q => absurd ((own_eqN (by omega) (by omega)).mp q) (by omega))).1 (XS.aloadN X103.here hx rfl (dd 15 rfl) rfl rfl (XS.iloadN X103.here hx rfl (dd 16 rfl) rfl (XS.iloadN X103.here hx rfl (dd 17 rfl) rfl (st106 tq (XS.astore X106.here hx rfl (dd 19 rfl) rfl rfl (l' := #[vr a, vi 0, vi (Int32.ofNat n), vr b101, vi (Int32.ofNat (own_fi cs)), vr b106]) rfl (XS.aload X106.here hx rfl (dd 20 rfl) rfl rfl (XS.iload X106.here hx rfl (dd 21 rfl) rfl (st107 tq (XS.sipush X107.here hx rfl (dd 23 rfl) (XS.icmpYes X107.here hx rfl (pc0 := 38) (pc' := 54) rfl (dd 24 rfl) rfl (tlt (by rw [hgc]; exact (own_lt (a := 255) (by decide) (by omega) : Int32.ofNat 255 < (Int32.ofNat (cs.getD (own_fi cs) 0)) ↔ _).mpr hbg)).2.2.1 (by decide) (by decide) (XS.aload X107.here hx rfl (dd 25 rfl) rfl rfl kq)))))))))))))) ?_
    refine own_retA X107 hx hlk hret rfl rfl (dd 26 rfl) (by decide) (by decide) ?_
    rw [eh107]
    exact ⟨b106, _, rfl, Nf107, KK106, gk_b106, (by unfold own_sv; rw [if_neg hall]; exact V106), Xb106⟩
def Q_rm8 (Z : State) (h0 : Heap) (n0 : Nat) (b : Addr) (kb : ClassId) (n : Nat) (vs : List Value) (v : Option Value) (h : Heap) (L : List Loc) : Prop := v = some (.int (own_cfal (Int32.ofNat n - Int32.ofNat vs.length))) ∧ Fr n0 L ∧ h = h0
theorem rm8 (l : Launch) (Z : State) (a0 : Array Value) (hw : ∀ d ∈ tables_1, d.before a0 Z = true) (ws : List Jvm.Cond) (h0 : Heap) (n0 : Nat) (O0 : Old Z n0 h0) (b : Addr) (kb : ClassId) (n : Nat) (vs : List Value) (Vb : own_Ar Z h0 b kb .byte vs) :
    MetFree l M30 (head1 (Jvm.Cond.code M30 jdk_52_method_15_code 2 (some .byte) :: ws) ({ frames := 0, cells := 0, slots := 0, locals := 0 } : Room)) (fun aq U => aq = #[(.ref b), (.int (Int32.ofNat n))] ∧ Z.Warmed39 U.vm ∧ U.heap = h0) (fun _ _ _ _ _ => True) (fun _ U oo U' => ∃ v L, oo = .returned v ∧ Q_rm8 Z h0 n0 b kb n vs v U'.heap L ∧ FrameEnd U oo U' L ({ frames := 0, cells := 0, slots := 0, locals := 0 } : Room).cells ({ frames := 0, cells := 0, slots := 0, locals := 0 } : Room).slots) := by
  refine MetFree.of_bodySF (plainFor_of_name pn_rm36) hisR ?_
  intro p e s m args below meth c s₁ Bd hml0 hP hK
  obtain ⟨rfl, hZ, hh⟩ := hP
  have hx := Bd.exec
  have hby := Bd.bytes
  have dd := @dq _ _ _ hby D8
  have hml : c.maxLocals = 2 := hml0
  have hown : s.vm.findClass "java/lang/StringUTF16" = some m.cls := findClass_of_methodNamed Bd.named
  have hnm := (name_of_methodNamed Bd.named Bd.method).1
  have hlk := Bd.notSynchronized
  have hret := Bd.returns
  have X0 : Stand p l e ({ frames := 0, cells := 0, slots := 0, locals := 0 } : Room) s m #[(.ref b), (.int (Int32.ofNat n))] below meth c s₁ [] 0 0 := Stand.of_body Bd
  have e0 : s₁.heap = h0 := by rw [← hh, Bd.state]; rfl
  have N0 := Fr.nil n0
  have K0 := Keep.refl h0 []
  refine own_go (S' := (s₁.setTop (mkF m 0 #[vr b, vi (Int32.ofNat n)] []))) (fun tq kq => castTop rfl kq) ?_
  show own_G p e s below (Q_rm8 Z h0 n0 b kb n vs) _ _ _
  obtain ⟨cl101, Ar101, ln101⟩ := Vb.len
  have lq101 : cl101.slots.size.toInt32 = (Int32.ofNat (vs.length)) := ln101.trans rfl
  refine own_go (S' := (s₁.setTop (mkF m 8 #[vr b, vi (Int32.ofNat n)] [(.int (((((Int32.ofNat n) - (Int32.ofNat (vs.length))).toUInt32 >>> ((31 : Int32) &&& 31).toUInt32).toInt32).toInt8.toInt32))]))) (fun tq kq => XS.iloadN X0.here hx rfl (dd 0 rfl) rfl (XS.aloadN X0.here hx rfl (dd 1 rfl) rfl rfl (X0.arraylength hx (by rw [e0]; exact Ar101.1) (State.isArrayOf_alike hZ.alike Ar101.2.1) (g := (mkF m 2 #[vr b, vi (Int32.ofNat n)] [(.ref b), (.int (Int32.ofNat n))])) rfl rfl (dd 2 rfl) tq (by rw [lq101]; exact (XS.isub X0.here hx rfl (dd 3 rfl) rfl (XS.bipush X0.here hx rfl (dd 4 rfl) (XS.iushr X0.here hx rfl (dd 5 rfl) rfl (XS.i2b X0.here hx rfl (dd 6 rfl) rfl kq)))))))) ?_
  refine own_retN X0 hx hlk hret (by simp) (dd 7 rfl) (by decide) (by decide) ?_
  exact ⟨rfl, N0, e0⟩
theorem pn_rm4 : plainName "java/lang/String" = true := by first | (simp [plainName, overriddenIn]; done) | decide +kernel
def Q_rm4 (Z : State) (h0 : Heap) (n0 : Nat) (a : Addr) (ac : Addr) (kc : ClassId) (cs : List Nat) (n : Nat) (z : Int32) (v : Option Value) (h : Heap) (L : List Loc) : Prop := v = none ∧ Fr n0 L ∧ Keep h0 h [a] ∧ ∃ (d : Addr) (kd : ClassId), h0.size ≤ d ∧ Fld Z h a "java/lang/String" "value" "[B" (.ref d) ∧ Fld Z h a "java/lang/String" "coder" "B" (.int (own_cd cs)) ∧ own_Ar Z h d kd .byte (own_sv cs) ∧ Exa Z h d "[B"
theorem rm4 (l : Launch) (Z : State) (a0 : Array Value) (hw : ∀ d ∈ tables_1, d.before a0 Z = true) (ws : List Jvm.Cond) (h0 : Heap) (n0 : Nat) (O0 : Old Z n0 h0) (a : Addr) (ac : Addr) (kc : ClassId) (cs : List Nat) (n : Nat) (z : Int32) (HP : own_PK Z z) (Ea : Exa Z h0 a "java/lang/String") (Fv : Fld Z h0 a "java/lang/String" "value" "[B" .null) (Fc : Fld Z h0 a "java/lang/String" "coder" "B" (.int 0)) (ga : n0 ≤ a) (Va : own_Ar Z h0 ac kc .char (own_cv cs)) (hcs : cs.length = n) (hn0 : 0 < n) (hnb : n ≤ 400) (hch0 : ∀ j, cs.getD j 0 < 32768) (nac : ac ≠ a) :
    MetFree l M31 (head1 (Jvm.Cond.code M31 jdk_42_method_149_code 6 none :: ws) ({ frames := 4, cells := 2, slots := 1200, locals := 93 } : Room)) (fun aq U => aq = #[(.ref a), (.ref ac), (.int 0), (.int (Int32.ofNat n)), .null] ∧ Z.Warmed39 U.vm ∧ U.heap = h0) (fun _ _ _ _ _ => True) (fun _ U oo U' => ∃ v L, oo = .returned v ∧ Q_rm4 Z h0 n0 a ac kc cs n z v U'.heap L ∧ FrameEnd U oo U' L ({ frames := 4, cells := 2, slots := 1200, locals := 93 } : Room).cells ({ frames := 4, cells := 2, slots := 1200, locals := 93 } : Room).slots) := by
  refine MetFree.of_bodySF (plainFor_of_name pn_rm4) hisR ?_
  intro p e s m args below meth c s₁ Bd hml0 hP hK
  obtain ⟨rfl, hZ, hh⟩ := hP
  have hx := Bd.exec
  have hby := Bd.bytes
  have dd := @dq _ _ _ hby D4
  have hml : c.maxLocals = 6 := hml0
  have hown : s.vm.findClass "java/lang/String" = some m.cls := findClass_of_methodNamed Bd.named
  have hnm := (name_of_methodNamed Bd.named Bd.method).1
  have hlk := Bd.notSynchronized
  have hret := Bd.returns
  have X0 : Stand p l e ({ frames := 4, cells := 2, slots := 1200, locals := 93 } : Room) s m #[(.ref a), (.ref ac), (.int 0), (.int (Int32.ofNat n)), .null] below meth c s₁ [] 0 0 := Stand.of_body Bd
  have e0 : s₁.heap = h0 := by rw [← hh, Bd.state]; rfl
  have N0 := Fr.nil n0
  have K0 := Keep.refl h0 [a]
  refine own_go (S' := (s₁.setTop (mkF m 0 #[vr a, vr ac, vi 0, vi (Int32.ofNat n), .val .null, .unset] []))) (fun tq kq => castTop rfl kq) ?_
  show own_G p e s below (Q_rm4 Z h0 n0 a ac kc cs n z) _ _ _
  obtain ⟨SC, hz, SA, SH, SL⟩ := id HP
  obtain ⟨T101, X101, e101, st101⟩ := initO X0 hx hZ hown (ww hw 18 rfl) (ww hw 19 rfl) (ww hw 20 rfl) e0 (g := (mkF m 1 #[vr a, vr ac, vi 0, vi (Int32.ofNat n), .val .null, .unset] [(.ref a)])) rfl (by rw [hml]; rfl) rfl (dd 1 rfl) (by decide) (W := 0) (by show 2 * 0 + _ ≤ _; exact Nat.le_of_eq rfl) (by decide)
  obtain ⟨T102, X102, e102, st102⟩ := getS2 X101 hx hZ hown (host := "") (Or.inl (ww hw 21 rfl)) Via.refl e101 (SC.ext O0.2) (g := (mkF m 27 #[vr a, vr ac, vi 0, vi (Int32.ofNat n), .val .null, .unset] [])) rfl (dd 4 rfl)
  obtain ⟨_, _, ⟨T103, L103, k103, n103⟩, -, X103, ⟨Lc103, hQ103, l103, y103, z103⟩, st103⟩ := Jvm.LawKit.callS X102 hx (y := M29) hown (mvT hZ (ww hw 22 rfl)) (mvT hZ (ww hw 23 rfl)) (mvT hZ (ww hw 24 rfl)) (mvT hZ (ww hw 25 rfl)) (by decide) (backOf (W := 0) (rm6 l Z a0 hw [] h0 n0 O0 ac kc cs n z HP Va hcs hnb hch0) hZ (ww hw 25 rfl) (ww hw 24 rfl) (by decide) (by decide)) (g := (mkF m 36 #[vr a, vr ac, vi 0, vi (Int32.ofNat n), .val .null, .unset] [(.int (Int32.ofNat n)), (.int 0), (.ref ac)])) rfl (by rw [hml]; rfl) (argsL := [(.ref ac), (.int 0), (.int (Int32.ofNat n))]) (rest := []) (lenOf pd_4 rfl) rfl (by show 2 * 0 + _ ≤ _; exact Nat.le_of_eq rfl) (dd 9 rfl) (fun _ _ => ⟨rfl, e102, (by decide : 0 + 2 ≤ _), (by decide : 0 + 1200 ≤ _)⟩)
  dsimp only [Pt.U, Pt.locs, Pt.cells, Pt.slots] at X103 l103 y103 z103 st103 hQ103
  subst l103 y103 z103
  obtain ⟨b103, kb103, rfl, N103, K103, gb103, V103, Xb103⟩ := hQ103
  have Nf103 := Fr.app N0 N103
  have O103 := O0.keep K103 all0
  have KK103 := K0.trans K103 all0
  have ne_a_b103 := own_nL Ea.lt gb103
  have gk_b103 : h0.size ≤ b103 := Nat.le_trans K0.1 gb103
  obtain ⟨_, _, ⟨T104, L104, k104, n104⟩, -, X104, ⟨Lc104, hQ104, l104, y104, z104⟩, st104⟩ := Jvm.LawKit.callS X103 hx (y := M30) hown (mvT hZ (ww hw 30 rfl)) (mvT hZ (ww hw 31 rfl)) (mvT hZ (ww hw 24 rfl)) (mvT hZ (ww hw 32 rfl)) (by decide) (backOf (W := 1) (rm8 l Z a0 hw [] T103.heap n0 O103 b103 kb103 n (own_sv cs) V103) hZ (ww hw 32 rfl) (ww hw 24 rfl) (by decide) (by decide)) (g := (mkF m 45 #[vr a, vr ac, vi 0, vi (Int32.ofNat n), .val .null, vr b103] [(.int (Int32.ofNat n)), (.ref b103), (.ref a)])) rfl (by rw [hml]; rfl) (argsL := [(.ref b103), (.int (Int32.ofNat n))]) (rest := [(.ref a)]) (lenOf pd_6 rfl) rfl (by show 2 * 0 + _ ≤ _; exact Nat.le_of_eq rfl) (dd 14 rfl) (fun _ _ => ⟨rfl, rfl, (by decide : 2 + 0 ≤ _), (by decide : 1200 + 0 ≤ _)⟩)
  dsimp only [Pt.U, Pt.locs, Pt.cells, Pt.slots] at X104 l104 y104 z104 st104 hQ104
  subst l104 y104 z104
  obtain ⟨rfl, N104, eh104⟩ := hQ104
  have Nf104 := Fr.app Nf103 N104
  refine own_go (S' := (T104.setTop (mkF m 48 #[vr a, vr ac, vi 0, vi (Int32.ofNat n), .val .null, vr b103] [(.int (own_cfal (Int32.ofNat n - Int32.ofNat (own_sv cs).length))), (.ref a)]))) (fun tq kq => XS.aloadN X0.here hx rfl (dd 0 rfl) rfl rfl (st101 tq (XS.iloadN X101.here hx rfl (dd 2 rfl) rfl (XS.ifYes X101.here hx rfl (pc0 := 5) (pc' := 27) rfl (dd 3 rfl) rfl ((if0 _ _).trans (feq (fun q => absurd ((own_eqN (b := 0) (by omega) (by decide)).mp q) (by omega))).2) (by decide) (by decide) (st102 tq (XS.ifNo X102.here hx rfl (dd 5 rfl) rfl ((if0 _ _).trans (feq hz).1) (XS.aloadN X102.here hx rfl (dd 6 rfl) rfl rfl (XS.iloadN X102.here hx rfl (dd 7 rfl) rfl (XS.iloadN X102.here hx rfl (dd 8 rfl) rfl (st103 tq (XS.astore X103.here hx rfl (dd 10 rfl) rfl rfl (l' := #[vr a, vr ac, vi 0, vi (Int32.ofNat n), .val .null, vr b103]) rfl (XS.aloadN X103.here hx rfl (dd 11 rfl) rfl rfl (XS.aload X103.here hx rfl (dd 12 rfl) rfl rfl (XS.iloadN X103.here hx rfl (dd 13 rfl) rfl (st104 tq kq))))))))))))))) ?_
  rw [own_cfsv hcs hn0 hnb]
  have f105 := (Fc.keep K103 nin0)
  have f106 := (Ea.keep K103)
  obtain ⟨T107, h107, X107, e107, W107, st107⟩ := putFN X104 hx hZ hown (ww hw 33 rfl) Via.refl eh104 f105 f106 (Or.inr ⟨(ww hw 34 rfl), rfl, hnm⟩) (ww hw 9 rfl) (ty := .byte) (v' := (.int (own_cd cs))) (by decide) (own_cdN cs) (own_cdF cs) (g := (mkF m 48 #[vr a, vr ac, vi 0, vi (Int32.ofNat n), .val .null, vr b103] [(.int (own_cd cs)), (.ref a)])) rfl rfl (dd 15 rfl)
  have N107 := Fr.snoc X107 Nf104 ga
  have K107 := KK103.wr W107 (Or.inl (List.mem_of_getElem? (i := 0) rfl))
  have F107 := f105.same W107
  have f108 := ((Fv.keep K103 nin0).other W107 (Or.inr (slot_ne (Or.inr (ww hw 36 rfl)) (Or.inr (ww hw 34 rfl)) (by decide) (t := (.array .byte)) (t' := .byte) (by decide) (by decide))))
  have f109 := (f106.wr W107)
  obtain ⟨T110, h110, X110, e110, W110, st110⟩ := putF X107 hx hZ hown (host := "") (Or.inl (ww hw 35 rfl)) Via.refl e107 f108 f109 (Or.inr ⟨(ww hw 36 rfl), rfl, hnm⟩) (ww hw 9 rfl) (ty := (.array .byte)) (by decide) rfl rfl (g := (mkF m 54 #[vr a, vr ac, vi 0, vi (Int32.ofNat n), .val .null, vr b103] [(.ref b103), (.ref a)])) rfl rfl (dd 18 rfl)
  have N110 := Fr.snoc X110 N107 ga
  have K110 := K107.wr W110 (Or.inl (List.mem_of_getElem? (i := 0) rfl))
  have F110 := f108.same W110
  refine own_go (S' := (T110.setTop (mkF m 57 #[vr a, vr ac, vi 0, vi (Int32.ofNat n), .val .null, vr b103] []))) (fun tq kq => st107 tq (XS.aloadN X107.here hx rfl (dd 16 rfl) rfl rfl (XS.aload X107.here hx rfl (dd 17 rfl) rfl rfl (st110 tq kq)))) ?_
  refine own_retV X110 hx hlk hret (dd 19 rfl) (by decide) (by decide) ?_
  have f111 := (F107.other W110 (Or.inr (slot_ne (Or.inr (ww hw 34 rfl)) (Or.inr (ww hw 36 rfl)) (by decide) (t := .byte) (t' := (.array .byte)) (by decide) (by decide))))
  have f112 := ((V103.other W107 (Ne.symm ne_a_b103)).other W110 (Ne.symm ne_a_b103))
  have f113 := ((Xb103.wr W107).wr W110)
  rw [e110]
  exact ⟨rfl, N110, K110, b103, _, gk_b103, F110, f111, f112, f113⟩
def Q_rm3 (Z : State) (h0 : Heap) (n0 : Nat) (a : Addr) (ac : Addr) (kc : ClassId) (cs : List Nat) (n : Nat) (z : Int32) (v : Option Value) (h : Heap) (L : List Loc) : Prop := v = none ∧ Fr n0 L ∧ Keep h0 h [a] ∧ ∃ (d : Addr) (kd : ClassId), h0.size ≤ d ∧ Fld Z h a "java/lang/String" "value" "[B" (.ref d) ∧ Fld Z h a "java/lang/String" "coder" "B" (.int (own_cd cs)) ∧ own_Ar Z h d kd .byte (own_sv cs) ∧ Exa Z h d "[B"
theorem rm3 (l : Launch) (Z : State) (a0 : Array Value) (hw : ∀ d ∈ tables_1, d.before a0 Z = true) (ws : List Jvm.Cond) (h0 : Heap) (n0 : Nat) (O0 : Old Z n0 h0) (a : Addr) (ac : Addr) (kc : ClassId) (cs : List Nat) (n : Nat) (z : Int32) (HP : own_PK Z z) (Ea : Exa Z h0 a "java/lang/String") (Fv : Fld Z h0 a "java/lang/String" "value" "[B" .null) (Fc : Fld Z h0 a "java/lang/String" "coder" "B" (.int 0)) (ga : n0 ≤ a) (Va : own_Ar Z h0 ac kc .char (own_cv cs)) (hcs : cs.length = n) (hn0 : 0 < n) (hnb : n ≤ 400) (hch0 : ∀ j, cs.getD j 0 < 32768) (nac : ac ≠ a) :
    MetFree l M11 (head1 (Jvm.Cond.code M11 jdk_42_method_3_code 2 none :: ws) ({ frames := 5, cells := 2, slots := 1200, locals := 110 } : Room)) (fun aq U => aq = #[(.ref a), (.ref ac)] ∧ Z.Warmed39 U.vm ∧ U.heap = h0) (fun _ _ _ _ _ => True) (fun _ U oo U' => ∃ v L, oo = .returned v ∧ Q_rm3 Z h0 n0 a ac kc cs n z v U'.heap L ∧ FrameEnd U oo U' L ({ frames := 5, cells := 2, slots := 1200, locals := 110 } : Room).cells ({ frames := 5, cells := 2, slots := 1200, locals := 110 } : Room).slots) := by
  refine MetFree.of_bodySF (plainFor_of_name pn_rm4) hisR ?_
  intro p e s m args below meth c s₁ Bd hml0 hP hK
  obtain ⟨rfl, hZ, hh⟩ := hP
  have hx := Bd.exec
  have hby := Bd.bytes
  have dd := @dq _ _ _ hby D3
  have hml : c.maxLocals = 2 := hml0
  have hown : s.vm.findClass "java/lang/String" = some m.cls := findClass_of_methodNamed Bd.named
  have hnm := (name_of_methodNamed Bd.named Bd.method).1
  have hlk := Bd.notSynchronized
  have hret := Bd.returns
  have X0 : Stand p l e ({ frames := 5, cells := 2, slots := 1200, locals := 110 } : Room) s m #[(.ref a), (.ref ac)] below meth c s₁ [] 0 0 := Stand.of_body Bd
  have e0 : s₁.heap = h0 := by rw [← hh, Bd.state]; rfl
  have N0 := Fr.nil n0
  have K0 := Keep.refl h0 [a]
  refine own_go (S' := (s₁.setTop (mkF m 0 #[vr a, vr ac] []))) (fun tq kq => castTop rfl kq) ?_
  show own_G p e s below (Q_rm3 Z h0 n0 a ac kc cs n z) _ _ _
  obtain ⟨SC, hz, SA, SH, SL⟩ := id HP
  obtain ⟨cl101, Ar101, ln101⟩ := Va.len
  have lq101 : cl101.slots.size.toInt32 = (Int32.ofNat n) := ln101.trans (by rw [own_cvlen, hcs])
  obtain ⟨_, _, ⟨T102, L102, k102, n102⟩, -, X102, ⟨Lc102, hQ102, l102, y102, z102⟩, st102⟩ := X0.specialBack hx (y := M31) rfl hown (mvT hZ (ww hw 14 rfl)) (mvT hZ (ww hw 15 rfl)) (mvT hZ (ww hw 17 rfl)) (by decide) (backOf (W := 0) (rm4 l Z a0 hw [] h0 n0 O0 a ac kc cs n z HP Ea Fv Fc ga Va hcs hn0 hnb hch0 nac) hZ (ww hw 17 rfl) (ww hw 10 rfl) (by decide) (by decide)) (g := (mkF m 6 #[vr a, vr ac] [.null, (.int (Int32.ofNat n)), (.int 0), (.ref ac), (.ref a)])) rfl (by rw [hml]; rfl) (Steps.refl _) (a := a) (argsL := [(.ref ac), (.int 0), (.int (Int32.ofNat n)), .null]) (rest := []) (lenOf pd_7 rfl) rfl (by show 2 * 0 + _ ≤ _; exact Nat.le_of_eq rfl) (dd 6 rfl) (fun _ _ => ⟨rfl, e0, (by decide : 0 + 2 ≤ _), (by decide : 0 + 1200 ≤ _)⟩)
  dsimp only [Pt.U, Pt.locs, Pt.cells, Pt.slots] at X102 l102 y102 z102 st102 hQ102
  subst l102 y102 z102
  obtain ⟨rfl, N102, K102, d102, kd102, gd102, Fv102, Fc102, Vd102, Xd102⟩ := hQ102
  have Nf102 := Fr.app N0 N102
  have KK102 := K0.trans K102 (allS (Or.inl (List.mem_of_getElem? (i := 0) rfl)) all0)
  have gk_d102 : h0.size ≤ d102 := Nat.le_trans K0.1 gd102
  refine own_go (S' := (T102.setTop (mkF m 9 #[vr a, vr ac] []))) (fun tq kq => XS.aloadN X0.here hx rfl (dd 0 rfl) rfl rfl (XS.aloadN X0.here hx rfl (dd 1 rfl) rfl rfl (XS.iconst X0.here hx rfl (dd 2 rfl) (XS.aloadN X0.here hx rfl (dd 3 rfl) rfl rfl (X0.arraylength hx (by rw [e0]; exact Ar101.1) (State.isArrayOf_alike hZ.alike Ar101.2.1) (g := (mkF m 4 #[vr a, vr ac] [(.ref ac), (.int 0), (.ref ac), (.ref a)])) rfl rfl (dd 4 rfl) tq (by rw [lq101]; exact (XS.aconstNull X0.here hx rfl (dd 5 rfl) (st102.trans kq)))))))) ?_
  refine own_retV X102 hx hlk hret (dd 7 rfl) (by decide) (by decide) ?_
  exact ⟨rfl, Nf102, KK102, d102, _, gk_d102, Fv102, Fc102, Vd102, Xd102⟩
theorem loop16 {p : Program} {l : Launch} {e : Env} {s : State} {m : MethodId} {args : Array Value} {below : List Frame} {meth : Method} {c : Code} {Z : State} {a0 : Array Value} {h0 : Heap} {n0 : Nat} (hlk : meth.locks = false) (hret : meth.sig.returnType = some .int) (hx : p.tables.exec = Jvm.exec) (hZ : Z.Warmed39 s.vm) (hw : ∀ d ∈ tables_1, d.before a0 Z = true) (hby : c.code = jdk_123_method_3_code) (hml : c.maxLocals = 5) (hown : s.vm.findClass "java/lang/StringCoding" = some m.cls) (hnm : meth.name = "countPositives") (a : Addr) (ka : ClassId) (vs : List Value) (off : Nat) (n : Nat) (f : Nat → Int32) (hf : ∀ j, j < n → vs[off + j]? = some (.int (f j))) (hof : off + n < 2 ^ 30) :
    ∀ (kt : Nat) (i : Nat), (i + kt = n ∧ ∀ j, j < i → ¬ f j < 0) → ∀ {Tp : State} {locs : List Loc} {hp : Heap} (Xp : Stand p l e ({ frames := 0, cells := 0, slots := 0, locals := 0 } : Room) s m args below meth c Tp locs 0 0) (ep : Tp.heap = hp) (Np : Fr n0 locs) (Op : Old Z n0 hp) (Kp : Keep h0 hp []) (Va : own_Ar Z hp a ka .byte vs) (hhp : hp = h0), own_G p e s below (fun v h L => v = some (.int (Int32.ofNat (own_np f n))) ∧ Fr n0 L ∧ h = h0) ({ frames := 0, cells := 0, slots := 0, locals := 0 } : Room).cells ({ frames := 0, cells := 0, slots := 0, locals := 0 } : Room).slots (Tp.setTop (mkF m 7 #[vr a, vi (Int32.ofNat off), vi (Int32.ofNat n), vi (Int32.ofNat (off + n)), vi (Int32.ofNat (off + i))] [])) := by
  have dd := @dq _ _ _ hby D16
  intro kt
  induction kt with
  | zero =>
    intro i  hi Tp locs hp Xp ep Np Op Kp Va hhp
    refine own_go (S' := (Tp.setTop (mkF m 32 #[vr a, vi (Int32.ofNat off), vi (Int32.ofNat n), vi (Int32.ofNat (off + n)), vi (Int32.ofNat (off + i))] [(.int (Int32.ofNat n))]))) (fun tq kq => XS.iload Xp.here hx rfl (dd 0 rfl) rfl (XS.iloadN Xp.here hx rfl (dd 1 rfl) rfl (XS.icmpYes Xp.here hx rfl (pc0 := 10) (pc' := 31) rfl (dd 2 rfl) rfl (flt (fun q => absurd ((own_lt (by omega) (by omega)).mp q) (by omega))).2.1 (by decide) (by decide) (XS.iloadN Xp.here hx rfl (dd 3 rfl) rfl kq)))) ?_
    refine own_retI Xp hx hlk hret (dd 4 rfl) (by decide) (by decide) ?_
    exact ⟨by rw [own_np_all (fun j hj => hi.2 j (by omega))], Np, ep.trans hhp⟩
  | succ kt ih =>
    intro i  hi Tp locs hp Xp ep Np Op Kp Va hhp
    obtain ⟨cl101, Ar101, -, -, hin101, hat101⟩ := Va.at (j := (Int32.ofNat (off + i))) (v := (.int (f i))) (own_pos (by omega)) (by rw [own_clamp (by omega)]; exact hf i (by omega))
    refine own_go (S' := (Tp.setTop (mkF m 17 #[vr a, vi (Int32.ofNat off), vi (Int32.ofNat n), vi (Int32.ofNat (off + n)), vi (Int32.ofNat (off + i))] [(.int (f i))]))) (fun tq kq => XS.iload Xp.here hx rfl (dd 0 rfl) rfl (XS.iloadN Xp.here hx rfl (dd 1 rfl) rfl (XS.icmpNo Xp.here hx rfl (dd 2 rfl) rfl (tlt ((own_lt (by omega) (by omega)).mpr (by omega))).2.1 (XS.aloadN Xp.here hx rfl (dd 5 rfl) rfl rfl (XS.iload Xp.here hx rfl (dd 6 rfl) rfl (Xp.baloadBytes hx (j := (Int32.ofNat (off + i))) (v := (.int (f i))) (by rw [ep]; exact Ar101.1) (State.isArrayOf_alike hZ.alike Ar101.2.1) Ar101.2.2 hin101 hat101 (g := (mkF m 16 #[vr a, vi (Int32.ofNat off), vi (Int32.ofNat n), vi (Int32.ofNat (off + n)), vi (Int32.ofNat (off + i))] [(.int (Int32.ofNat (off + i))), (.ref a)])) rfl rfl (dd 7 rfl) tq kq)))))) ?_
    by_cases hc102 : (f i) < (0 : Int32)
    · refine own_go (S' := (Tp.setTop (mkF m 24 #[vr a, vi (Int32.ofNat off), vi (Int32.ofNat n), vi (Int32.ofNat (off + n)), vi (Int32.ofNat (off + i))] [(.int ((Int32.ofNat (off + i)) - (Int32.ofNat off)))]))) (fun tq kq => XS.ifNo Xp.here hx rfl (dd 8 rfl) rfl ((if0 _ _).trans (tlt hc102).2.1) (XS.iload Xp.here hx rfl (dd 9 rfl) rfl (XS.iloadN Xp.here hx rfl (dd 10 rfl) rfl (XS.isub Xp.here hx rfl (dd 11 rfl) rfl kq)))) ?_
      refine own_retI Xp hx hlk hret (dd 12 rfl) (by decide) (by decide) ?_
      exact ⟨by rw [own_subN (show off ≤ off + i from Nat.le_add_right _ _), own_np_at (by omega) hi.2 hc102, Nat.add_sub_cancel_left], Np, ep.trans hhp⟩
    · refine own_go (S' := (Tp.setTop (mkF m 7 #[vr a, vi (Int32.ofNat off), vi (Int32.ofNat n), vi (Int32.ofNat (off + n)), vi ((Int32.ofNat (off + i)) + (1 : Int32))] []))) (fun tq kq => XS.ifYes Xp.here hx rfl (pc0 := 17) (pc' := 25) rfl (dd 8 rfl) rfl ((if0 _ _).trans (flt hc102).2.1) (by decide) (by decide) (XS.iinc Xp.here hx rfl (dd 13 rfl) rfl (l' := #[vr a, vi (Int32.ofNat off), vi (Int32.ofNat n), vi (Int32.ofNat (off + n)), vi ((Int32.ofNat (off + i)) + (1 : Int32))]) rfl (XS.goto Xp.here hx rfl (pc0 := 28) (pc' := 7) rfl (dd 14 rfl) (by decide) (by decide) kq))) ?_
      rw [own_succ (off + i)]
      exact ih (i + 1) ⟨by omega, fun j hj => (Nat.lt_succ_iff_lt_or_eq.mp hj).elim (hi.2 j) (fun q => q ▸ hc102)⟩ Xp ep Np Op Kp Va hhp
theorem pn_rm16 : plainName "java/lang/StringCoding" = true := by first | (simp [plainName, overriddenIn]; done) | decide +kernel
def Q_rm16 (Z : State) (h0 : Heap) (n0 : Nat) (a : Addr) (ka : ClassId) (vs : List Value) (off : Nat) (n : Nat) (f : Nat → Int32) (v : Option Value) (h : Heap) (L : List Loc) : Prop := v = some (.int (Int32.ofNat (own_np f n))) ∧ Fr n0 L ∧ h = h0
theorem rm16 (l : Launch) (Z : State) (a0 : Array Value) (hw : ∀ d ∈ tables_1, d.before a0 Z = true) (ws : List Jvm.Cond) (h0 : Heap) (n0 : Nat) (O0 : Old Z n0 h0) (a : Addr) (ka : ClassId) (vs : List Value) (off : Nat) (n : Nat) (f : Nat → Int32) (Va : own_Ar Z h0 a ka .byte vs) (hf : ∀ j, j < n → vs[off + j]? = some (.int (f j))) (hof : off + n < 2 ^ 30) :
    MetFree l M14 (head1 (Jvm.Cond.code M14 jdk_123_method_3_code 5 (some .int) :: ws) ({ frames := 0, cells := 0, slots := 0, locals := 0 } : Room)) (fun aq U => aq = #[(.ref a), (.int (Int32.ofNat off)), (.int (Int32.ofNat n))] ∧ Z.Warmed39 U.vm ∧ U.heap = h0) (fun _ _ _ _ _ => True) (fun _ U oo U' => ∃ v L, oo = .returned v ∧ Q_rm16 Z h0 n0 a ka vs off n f v U'.heap L ∧ FrameEnd U oo U' L ({ frames := 0, cells := 0, slots := 0, locals := 0 } : Room).cells ({ frames := 0, cells := 0, slots := 0, locals := 0 } : Room).slots) := by
  refine MetFree.of_bodySF (plainFor_of_name pn_rm16) hisR ?_
  intro p e s m args below meth c s₁ Bd hml0 hP hK
  obtain ⟨rfl, hZ, hh⟩ := hP
  have hx := Bd.exec
  have hby := Bd.bytes
  have dd := @dq _ _ _ hby D16
  have hml : c.maxLocals = 5 := hml0
  have hown : s.vm.findClass "java/lang/StringCoding" = some m.cls := findClass_of_methodNamed Bd.named
  have hnm := (name_of_methodNamed Bd.named Bd.method).1
  have hlk := Bd.notSynchronized
  have hret := Bd.returns
  have X0 : Stand p l e ({ frames := 0, cells := 0, slots := 0, locals := 0 } : Room) s m #[(.ref a), (.int (Int32.ofNat off)), (.int (Int32.ofNat n))] below meth c s₁ [] 0 0 := Stand.of_body Bd
  have e0 : s₁.heap = h0 := by rw [← hh, Bd.state]; rfl
  have N0 := Fr.nil n0
  have K0 := Keep.refl h0 []
  refine own_go (S' := (s₁.setTop (mkF m 0 #[vr a, vi (Int32.ofNat off), vi (Int32.ofNat n), .unset, .unset] []))) (fun tq kq => castTop rfl kq) ?_
  show own_G p e s below (Q_rm16 Z h0 n0 a ka vs off n f) _ _ _
  refine own_go (S' := (s₁.setTop (mkF m 3 #[vr a, vi (Int32.ofNat off), vi (Int32.ofNat n), .unset, .unset] [(.int ((Int32.ofNat off) + (Int32.ofNat n)))]))) (fun tq kq => XS.iloadN X0.here hx rfl (dd 15 rfl) rfl (XS.iloadN X0.here hx rfl (dd 16 rfl) rfl (XS.iadd X0.here hx rfl (dd 17 rfl) rfl kq))) ?_
  rw [own_addN off n]
  refine own_go (S' := (s₁.setTop (mkF m 7 #[vr a, vi (Int32.ofNat off), vi (Int32.ofNat n), vi (Int32.ofNat (off + n)), vi (Int32.ofNat off)] []))) (fun tq kq => XS.istoreN X0.here hx rfl (dd 18 rfl) rfl (l' := #[vr a, vi (Int32.ofNat off), vi (Int32.ofNat n), vi (Int32.ofNat (off + n)), .unset]) rfl (XS.iloadN X0.here hx rfl (dd 19 rfl) rfl (XS.istore X0.here hx rfl (dd 20 rfl) rfl (l' := #[vr a, vi (Int32.ofNat off), vi (Int32.ofNat n), vi (Int32.ofNat (off + n)), vi (Int32.ofNat off)]) rfl kq))) ?_
  exact loop16 hlk hret hx hZ hw hby hml hown hnm a ka vs off n f hf hof (n) (0)  ⟨by omega, fun j hj => absurd hj (Nat.not_lt_zero j)⟩ X0 e0 N0 O0 K0 Va rfl
def Q_rm15 (Z : State) (h0 : Heap) (n0 : Nat) (a : Addr) (ka : ClassId) (vs : List Value) (off : Nat) (n : Nat) (f : Nat → Int32) (v : Option Value) (h : Heap) (L : List Loc) : Prop := v = some (.int (if own_np f n = n then 0 else 1)) ∧ Fr n0 L ∧ h = h0
theorem rm15 (l : Launch) (Z : State) (a0 : Array Value) (hw : ∀ d ∈ tables_1, d.before a0 Z = true) (ws : List Jvm.Cond) (h0 : Heap) (n0 : Nat) (O0 : Old Z n0 h0) (a : Addr) (ka : ClassId) (vs : List Value) (off : Nat) (n : Nat) (f : Nat → Int32) (Va : own_Ar Z h0 a ka .byte vs) (hf : ∀ j, j < n → vs[off + j]? = some (.int (f j))) (hof : off + n < 2 ^ 30) :
    MetFree l M32 (head1 (Jvm.Cond.code M32 jdk_123_method_2_code 3 (some .boolean) :: ws) ({ frames := 1, cells := 0, slots := 0, locals := 16 } : Room)) (fun aq U => aq = #[(.ref a), (.int (Int32.ofNat off)), (.int (Int32.ofNat n))] ∧ Z.Warmed39 U.vm ∧ U.heap = h0) (fun _ _ _ _ _ => True) (fun _ U oo U' => ∃ v L, oo = .returned v ∧ Q_rm15 Z h0 n0 a ka vs off n f v U'.heap L ∧ FrameEnd U oo U' L ({ frames := 1, cells := 0, slots := 0, locals := 16 } : Room).cells ({ frames := 1, cells := 0, slots := 0, locals := 16 } : Room).slots) := by
  refine MetFree.of_bodySF (plainFor_of_name pn_rm16) hisR ?_
  intro p e s m args below meth c s₁ Bd hml0 hP hK
  obtain ⟨rfl, hZ, hh⟩ := hP
  have hx := Bd.exec
  have hby := Bd.bytes
  have dd := @dq _ _ _ hby D15
  have hml : c.maxLocals = 3 := hml0
  have hown : s.vm.findClass "java/lang/StringCoding" = some m.cls := findClass_of_methodNamed Bd.named
  have hnm := (name_of_methodNamed Bd.named Bd.method).1
  have hlk := Bd.notSynchronized
  have hret := Bd.returns
  have X0 : Stand p l e ({ frames := 1, cells := 0, slots := 0, locals := 16 } : Room) s m #[(.ref a), (.int (Int32.ofNat off)), (.int (Int32.ofNat n))] below meth c s₁ [] 0 0 := Stand.of_body Bd
  have e0 : s₁.heap = h0 := by rw [← hh, Bd.state]; rfl
  have N0 := Fr.nil n0
  have K0 := Keep.refl h0 []
  refine own_go (S' := (s₁.setTop (mkF m 0 #[vr a, vi (Int32.ofNat off), vi (Int32.ofNat n)] []))) (fun tq kq => castTop rfl kq) ?_
  show own_G p e s below (Q_rm15 Z h0 n0 a ka vs off n f) _ _ _
  obtain ⟨_, _, ⟨T101, L101, k101, n101⟩, -, X101, ⟨Lc101, hQ101, l101, y101, z101⟩, st101⟩ := Jvm.LawKit.callS X0 hx (y := M14) hown (mvT hZ (ww hw 88 rfl)) (mvT hZ (ww hw 89 rfl)) (mvT hZ (ww hw 86 rfl)) (mvT hZ (ww hw 90 rfl)) (by decide) (backOf (W := 0) (rm16 l Z a0 hw [] h0 n0 O0 a ka vs off n f Va hf hof) hZ (ww hw 90 rfl) (ww hw 86 rfl) (by decide) (by decide)) (g := (mkF m 3 #[vr a, vi (Int32.ofNat off), vi (Int32.ofNat n)] [(.int (Int32.ofNat n)), (.int (Int32.ofNat off)), (.ref a)])) rfl (by rw [hml]; rfl) (argsL := [(.ref a), (.int (Int32.ofNat off)), (.int (Int32.ofNat n))]) (rest := []) (lenOf pd_8 rfl) rfl (by show 2 * 0 + _ ≤ _; exact Nat.le_of_eq rfl) (dd 3 rfl) (fun _ _ => ⟨rfl, e0, (by decide : 0 + 0 ≤ _), (by decide : 0 + 0 ≤ _)⟩)
  dsimp only [Pt.U, Pt.locs, Pt.cells, Pt.slots] at X101 l101 y101 z101 st101 hQ101
  subst l101 y101 z101
  obtain ⟨rfl, N101, eh101⟩ := hQ101
  have Nf101 := Fr.app N0 N101
  refine own_go (S' := (T101.setTop (mkF m 7 #[vr a, vi (Int32.ofNat off), vi (Int32.ofNat n)] [(.int (Int32.ofNat n)), (.int (Int32.ofNat (own_np f n)))]))) (fun tq kq => XS.aloadN X0.here hx rfl (dd 0 rfl) rfl rfl (XS.iloadN X0.here hx rfl (dd 1 rfl) rfl (XS.iloadN X0.here hx rfl (dd 2 rfl) rfl (st101 tq (XS.iloadN X101.here hx rfl (dd 4 rfl) rfl kq))))) ?_
  by_cases hnp : own_np f n = n
  · refine own_go (S' := (T101.setTop (mkF m 15 #[vr a, vi (Int32.ofNat off), vi (Int32.ofNat n)] [(.int 0)]))) (fun tq kq => XS.icmpYes X101.here hx rfl (pc0 := 7) (pc' := 14) rfl (dd 5 rfl) rfl (teq (by rw [hnp])).1 (by decide) (by decide) (XS.iconst X101.here hx rfl (dd 6 rfl) kq)) ?_
    refine own_retN X101 hx hlk hret (by simp) (dd 7 rfl) (by decide) (by decide) ?_
    exact ⟨by rw [if_pos hnp]; rfl, Nf101, eh101⟩
  · refine own_go (S' := (T101.setTop (mkF m 15 #[vr a, vi (Int32.ofNat off), vi (Int32.ofNat n)] [(.int 1)]))) (fun tq kq => XS.icmpNo X101.here hx rfl (dd 5 rfl) rfl (feq (fun q => hnp ((own_eqN (by have := own_np_le f n; omega) (by omega)).mp q))).1 (XS.iconst X101.here hx rfl (dd 8 rfl) (XS.goto X101.here hx rfl (pc0 := 11) (pc' := 15) rfl (dd 9 rfl) (by decide) (by decide) kq))) ?_
    refine own_retN X101 hx hlk hret (by simp) (dd 7 rfl) (by decide) (by decide) ?_
    exact ⟨by rw [if_neg hnp]; rfl, Nf101, eh101⟩
def Q_rm28 (Z : State) (h0 : Heap) (n0 : Nat) (x : Int32) (y : Int32) (v : Option Value) (h : Heap) (L : List Loc) : Prop := v = some (.int (own_min x y)) ∧ Fr n0 L ∧ h = h0
theorem rm28 (l : Launch) (Z : State) (a0 : Array Value) (hw : ∀ d ∈ tables_1, d.before a0 Z = true) (ws : List Jvm.Cond) (h0 : Heap) (n0 : Nat) (O0 : Old Z n0 h0) (x : Int32) (y : Int32)  :
    MetFree l M15 (head1 (Jvm.Cond.code M15 jdk_29_method_69_code 2 (some .int) :: ws) ({ frames := 0, cells := 0, slots := 0, locals := 0 } : Room)) (fun aq U => aq = #[(.int x), (.int y)] ∧ Z.Warmed39 U.vm ∧ U.heap = h0) (fun _ _ _ _ _ => True) (fun _ U oo U' => ∃ v L, oo = .returned v ∧ Q_rm28 Z h0 n0 x y v U'.heap L ∧ FrameEnd U oo U' L ({ frames := 0, cells := 0, slots := 0, locals := 0 } : Room).cells ({ frames := 0, cells := 0, slots := 0, locals := 0 } : Room).slots) := by
  refine MetFree.of_bodySF (Jvm.Free.JP.mathPlain rfl (by decide +kernel)) hisR ?_
  intro p e s m args below meth c s₁ Bd hml0 hP hK
  obtain ⟨rfl, hZ, hh⟩ := hP
  have hx := Bd.exec
  have hby := Bd.bytes
  have dd := @dq _ _ _ hby D28
  have hml : c.maxLocals = 2 := hml0
  have hown : s.vm.findClass "java/lang/Math" = some m.cls := findClass_of_methodNamed Bd.named
  have hnm := (name_of_methodNamed Bd.named Bd.method).1
  have hlk := Bd.notSynchronized
  have hret := Bd.returns
  have X0 : Stand p l e ({ frames := 0, cells := 0, slots := 0, locals := 0 } : Room) s m #[(.int x), (.int y)] below meth c s₁ [] 0 0 := Stand.of_body Bd
  have e0 : s₁.heap = h0 := by rw [← hh, Bd.state]; rfl
  have N0 := Fr.nil n0
  have K0 := Keep.refl h0 []
  refine own_go (S' := (s₁.setTop (mkF m 0 #[vi x, vi y] []))) (fun tq kq => castTop rfl kq) ?_
  show own_G p e s below (Q_rm28 Z h0 n0 x y) _ _ _
  refine own_go (S' := (s₁.setTop (mkF m 2 #[vi x, vi y] [(.int y), (.int x)]))) (fun tq kq => XS.iloadN X0.here hx rfl (dd 0 rfl) rfl (XS.iloadN X0.here hx rfl (dd 1 rfl) rfl kq)) ?_
  by_cases hc101 : y < x
  · refine own_go (S' := (s₁.setTop (mkF m 10 #[vi x, vi y] [(.int y)]))) (fun tq kq => XS.icmpYes X0.here hx rfl (pc0 := 2) (pc' := 9) rfl (dd 2 rfl) rfl (tlt hc101).2.2.1 (by decide) (by decide) (XS.iloadN X0.here hx rfl (dd 3 rfl) rfl kq)) ?_
    refine own_retI X0 hx hlk hret (dd 4 rfl) (by decide) (by decide) ?_
    exact ⟨by simp only [own_min, if_pos hc101], N0, e0⟩
  · refine own_go (S' := (s₁.setTop (mkF m 10 #[vi x, vi y] [(.int x)]))) (fun tq kq => XS.icmpNo X0.here hx rfl (dd 2 rfl) rfl (flt hc101).2.2.1 (XS.iloadN X0.here hx rfl (dd 5 rfl) rfl (XS.goto X0.here hx rfl (pc0 := 6) (pc' := 10) rfl (dd 6 rfl) (by decide) (by decide) kq))) ?_
    refine own_retI X0 hx hlk hret (dd 4 rfl) (by decide) (by decide) ?_
    exact ⟨by simp only [own_min, if_neg hc101], N0, e0⟩
theorem pn_rm27 : plainName "java/util/Arrays" = true := by first | (simp [plainName, overriddenIn]; done) | decide +kernel
def Q_rm27 (Z : State) (h0 : Heap) (n0 : Nat) (x : Int32) (y : Int32) (v : Option Value) (h : Heap) (L : List Loc) : Prop := v = none ∧ Fr n0 L ∧ h = h0
theorem rm27 (l : Launch) (Z : State) (a0 : Array Value) (hw : ∀ d ∈ tables_1, d.before a0 Z = true) (ws : List Jvm.Cond) (h0 : Heap) (n0 : Nat) (O0 : Old Z n0 h0) (x : Int32) (y : Int32) (hxy : ¬ (y < x)) :
    MetFree l M33 (head1 (Jvm.Cond.code M33 jdk_65_method_131_code 2 none :: ws) ({ frames := 0, cells := 0, slots := 0, locals := 0 } : Room)) (fun aq U => aq = #[(.int x), (.int y)] ∧ Z.Warmed39 U.vm ∧ U.heap = h0) (fun _ _ _ _ _ => True) (fun _ U oo U' => ∃ v L, oo = .returned v ∧ Q_rm27 Z h0 n0 x y v U'.heap L ∧ FrameEnd U oo U' L ({ frames := 0, cells := 0, slots := 0, locals := 0 } : Room).cells ({ frames := 0, cells := 0, slots := 0, locals := 0 } : Room).slots) := by
  refine MetFree.of_bodySF (plainFor_of_name pn_rm27) hisR ?_
  intro p e s m args below meth c s₁ Bd hml0 hP hK
  obtain ⟨rfl, hZ, hh⟩ := hP
  have hx := Bd.exec
  have hby := Bd.bytes
  have dd := @dq _ _ _ hby D27
  have hml : c.maxLocals = 2 := hml0
  have hown : s.vm.findClass "java/util/Arrays" = some m.cls := findClass_of_methodNamed Bd.named
  have hnm := (name_of_methodNamed Bd.named Bd.method).1
  have hlk := Bd.notSynchronized
  have hret := Bd.returns
  have X0 : Stand p l e ({ frames := 0, cells := 0, slots := 0, locals := 0 } : Room) s m #[(.int x), (.int y)] below meth c s₁ [] 0 0 := Stand.of_body Bd
  have e0 : s₁.heap = h0 := by rw [← hh, Bd.state]; rfl
  have N0 := Fr.nil n0
  have K0 := Keep.refl h0 []
  refine own_go (S' := (s₁.setTop (mkF m 0 #[vi x, vi y] []))) (fun tq kq => castTop rfl kq) ?_
  show own_G p e s below (Q_rm27 Z h0 n0 x y) _ _ _
  refine own_go (S' := (s₁.setTop (mkF m 37 #[vi x, vi y] []))) (fun tq kq => XS.iloadN X0.here hx rfl (dd 0 rfl) rfl (XS.iloadN X0.here hx rfl (dd 1 rfl) rfl (XS.icmpYes X0.here hx rfl (pc0 := 2) (pc' := 37) rfl (dd 2 rfl) rfl (flt hxy).2.1 (by decide) (by decide) kq))) ?_
  refine own_retV X0 hx hlk hret (dd 3 rfl) (by decide) (by decide) ?_
  exact ⟨rfl, N0, e0⟩
def Q_rm33 (Z : State) (h0 : Heap) (n0 : Nat) (a : Addr) (ka : ClassId) (vs : List Value) (m' : Nat) (v : Option Value) (h : Heap) (L : List Loc) : Prop := ∃ (b : Addr) (kb : ClassId), v = some (.ref b) ∧ Fr n0 L ∧ Keep h0 h [] ∧ h0.size ≤ b ∧ own_Ar Z h b kb .byte (vs.take m') ∧ Exa Z h b "[B"
theorem rm33 (l : Launch) (Z : State) (a0 : Array Value) (hw : ∀ d ∈ tables_1, d.before a0 Z = true) (ws : List Jvm.Cond) (h0 : Heap) (n0 : Nat) (O0 : Old Z n0 h0) (a : Addr) (ka : ClassId) (vs : List Value) (m' : Nat) (Va : own_Ar Z h0 a ka .byte vs) (hm : m' < vs.length) (hvl : vs.length ≤ 4096) (hmb : m' ≤ 800) (hfv : ∀ v ∈ vs, fits .byte v = true) :
    MetFree l M6 (head1 (Jvm.Cond.code M6 jdk_65_method_121_code 3 (some (.array .byte)) :: ws) ({ frames := 1, cells := 1, slots := 800, locals := 18 } : Room)) (fun aq U => aq = #[(.ref a), (.int (Int32.ofNat m'))] ∧ Z.Warmed39 U.vm ∧ U.heap = h0) (fun _ _ _ _ _ => True) (fun _ U oo U' => ∃ v L, oo = .returned v ∧ Q_rm33 Z h0 n0 a ka vs m' v U'.heap L ∧ FrameEnd U oo U' L ({ frames := 1, cells := 1, slots := 800, locals := 18 } : Room).cells ({ frames := 1, cells := 1, slots := 800, locals := 18 } : Room).slots) := by
  refine MetFree.of_bodySF (plainFor_of_name pn_rm27) hisR ?_
  intro p e s m args below meth c s₁ Bd hml0 hP hK
  obtain ⟨rfl, hZ, hh⟩ := hP
  have hx := Bd.exec
  have hby := Bd.bytes
  have dd := @dq _ _ _ hby D33
  have hml : c.maxLocals = 3 := hml0
  have hown : s.vm.findClass "java/util/Arrays" = some m.cls := findClass_of_methodNamed Bd.named
  have hnm := (name_of_methodNamed Bd.named Bd.method).1
  have hlk := Bd.notSynchronized
  have hret := Bd.returns
  have X0 : Stand p l e ({ frames := 1, cells := 1, slots := 800, locals := 18 } : Room) s m #[(.ref a), (.int (Int32.ofNat m'))] below meth c s₁ [] 0 0 := Stand.of_body Bd
  have e0 : s₁.heap = h0 := by rw [← hh, Bd.state]; rfl
  have N0 := Fr.nil n0
  have K0 := Keep.refl h0 []
  refine own_go (S' := (s₁.setTop (mkF m 0 #[vr a, vi (Int32.ofNat m'), .unset] []))) (fun tq kq => castTop rfl kq) ?_
  show own_G p e s below (Q_rm33 Z h0 n0 a ka vs m') _ _ _
  obtain ⟨cl101, Ar101, ln101⟩ := Va.len
  have lq101 : cl101.slots.size.toInt32 = (Int32.ofNat (vs.length)) := ln101.trans rfl
  obtain ⟨T102, h102, k102, X102, e102, E102, A102, Ex102, st102⟩ := newPE X0 hx hZ (ww hw 26 rfl) e0 (g := (mkF m 15 #[vr a, vi (Int32.ofNat m'), .unset] [(.int (Int32.ofNat m'))])) rfl (dd 5 rfl) rfl (own_pos (by omega)) (cap := 800) (by rw [own_clamp (by omega)]; omega) (by decide) (by decide) (by decide) (ad := "[B") (by decide +kernel)
  obtain ⟨b102, g102⟩ : ∃ z, z = h0.size := ⟨_, rfl⟩
  rw [← g102] at A102 st102 Ex102
  have ge_b102 : n0 ≤ b102 := Nat.le_trans (own_osz O0) (Nat.le_of_eq g102.symm)
  have gk_b102 : h0.size ≤ b102 := Nat.le_trans K0.1 (Nat.le_of_eq g102.symm)
  have V102 : own_Ar Z h102 b102 k102 .byte (List.replicate (Int32.ofNat m').toNatClampNeg (.int 0)) := own_Ar.new A102 (own_pos (by omega))
  have O102 := O0.ext E102
  have K102 := K0.ext E102
  have f103 := (Va.ext E102)
  obtain ⟨cl104, Ar104, ln104⟩ := f103.len
  have lq104 : cl104.slots.size.toInt32 = (Int32.ofNat (vs.length)) := ln104.trans rfl
  obtain ⟨_, _, ⟨T105, L105, k105, n105⟩, -, X105, ⟨Lc105, hQ105, l105, y105, z105⟩, st105⟩ := Jvm.LawKit.callS X102 hx (y := M15) hown (mvT hZ (ww hw 154 rfl)) (mvT hZ (ww hw 155 rfl)) (mvT hZ (ww hw 156 rfl)) (mvT hZ (ww hw 157 rfl)) (by decide) (backOf (W := 4) (rm28 l Z a0 hw [] h102 n0 O102 (Int32.ofNat (vs.length)) (Int32.ofNat m')) hZ (ww hw 157 rfl) (ww hw 156 rfl) (by decide) (by decide)) (g := (mkF m 25 #[vr a, vi (Int32.ofNat m'), vr b102] [(.int (Int32.ofNat m')), (.int (Int32.ofNat (vs.length))), (.int 0), (.ref b102), (.int 0), (.ref a)])) rfl (by rw [hml]; rfl) (argsL := [(.int (Int32.ofNat (vs.length))), (.int (Int32.ofNat m'))]) (rest := [(.int 0), (.ref b102), (.int 0), (.ref a)]) (lenOf pd_9 rfl) rfl (by show 2 * 0 + _ ≤ _; exact Nat.le_of_eq rfl) (dd 14 rfl) (fun _ _ => ⟨rfl, e102, (by decide : 1 + 0 ≤ _), (by decide : 800 + 0 ≤ _)⟩)
  dsimp only [Pt.U, Pt.locs, Pt.cells, Pt.slots] at X105 l105 y105 z105 st105 hQ105
  subst l105 y105 z105
  obtain ⟨rfl, N105, eh105⟩ := hQ105
  have Nf105 := Fr.app N0 N105
  have emn : own_min (Int32.ofNat vs.length) (Int32.ofNat m') = Int32.ofNat m' := own_min_le (by omega) (by omega) (by omega)
  obtain ⟨T106, h106, L106, X106, e106, N106, K106, U106, st106⟩ := own_cp X105 hx hZ hown (ww hw 158 rfl) (ww hw 116 rfl) (ww hw 114 rfl) (ww hw 115 rfl) eh105 (sp := (0 : Int32)) (dp := (0 : Int32)) (nn := (own_min (Int32.ofNat (vs.length)) (Int32.ofNat m'))) f103 V102 rfl hfv (by intro v hv; rw [List.eq_of_mem_replicate hv]; decide) (by decide) (by decide) (by rw [emn]; exact own_pos (by omega)) (by rw [emn, own_clamp (by omega)]; show 0 + m' ≤ _; omega) (by rw [emn, own_clamp (by omega), List.length_replicate]; show 0 + m' ≤ _; omega) Nf105 ge_b102 (g := (mkF m 28 #[vr a, vi (Int32.ofNat m'), vr b102] [(.int (own_min (Int32.ofNat (vs.length)) (Int32.ofNat m'))), (.int 0), (.ref b102), (.int 0), (.ref a)])) rfl (by rw [hml]; rfl) rfl (dd 15 rfl) (by decide) (W := 0) (by show 2 * 0 + _ ≤ _; exact Nat.le_of_eq rfl) (by decide)
  have V106 : own_Ar Z h106 b102 k102 .byte (vs.take m') := (by rw [emn, own_clamp (by omega)] at U106; simpa using U106)
  have KK106 := K102.trans K106 (allS (Or.inr gk_b102) all0)
  refine own_go (S' := (T106.setTop (mkF m 32 #[vr a, vi (Int32.ofNat m'), vr b102] [(.ref b102)]))) (fun tq kq => XS.iloadN X0.here hx rfl (dd 0 rfl) rfl (XS.aloadN X0.here hx rfl (dd 1 rfl) rfl rfl (X0.arraylength hx (by rw [e0]; exact Ar101.1) (State.isArrayOf_alike hZ.alike Ar101.2.1) (g := (mkF m 2 #[vr a, vi (Int32.ofNat m'), .unset] [(.ref a), (.int (Int32.ofNat m'))])) rfl rfl (dd 2 rfl) tq (by rw [lq101]; exact (XS.icmpYes X0.here hx rfl (pc0 := 3) (pc' := 14) rfl (dd 3 rfl) rfl (feq (fun q => absurd ((own_eqN (by omega) (by omega)).mp q) (by omega))).2 (by decide) (by decide) (XS.iloadN X0.here hx rfl (dd 4 rfl) rfl (st102 tq (XS.astoreN X102.here hx rfl (dd 6 rfl) rfl rfl (l' := #[vr a, vi (Int32.ofNat m'), vr b102]) rfl (XS.aloadN X102.here hx rfl (dd 7 rfl) rfl rfl (XS.iconst X102.here hx rfl (dd 8 rfl) (XS.aloadN X102.here hx rfl (dd 9 rfl) rfl rfl (XS.iconst X102.here hx rfl (dd 10 rfl) (XS.aloadN X102.here hx rfl (dd 11 rfl) rfl rfl (X102.arraylength hx (by rw [e102]; exact Ar104.1) (State.isArrayOf_alike hZ.alike Ar104.2.1) (g := (mkF m 23 #[vr a, vi (Int32.ofNat m'), vr b102] [(.ref a), (.int 0), (.ref b102), (.int 0), (.ref a)])) rfl rfl (dd 12 rfl) tq (by rw [lq104]; exact (XS.iloadN X102.here hx rfl (dd 13 rfl) rfl (st105 tq (st106 tq (XS.aloadN X106.here hx rfl (dd 16 rfl) rfl rfl kq))))))))))))))))))) ?_
  refine own_retA X106 hx hlk hret rfl rfl (dd 17 rfl) (by decide) (by decide) ?_
  have f107 := (Ex102.keep K106)
  rw [e106]
  exact ⟨b102, _, rfl, N106, KK106, gk_b102, V106, f107⟩
def Q_rm26 (Z : State) (h0 : Heap) (n0 : Nat) (a : Addr) (ka : ClassId) (vs : List Value) (off : Nat) (m' : Nat) (v : Option Value) (h : Heap) (L : List Loc) : Prop := ∃ (b : Addr) (kb : ClassId), v = some (.ref b) ∧ Fr n0 L ∧ Keep h0 h [] ∧ h0.size ≤ b ∧ own_Ar Z h b kb .byte ((vs.drop off).take m') ∧ Exa Z h b "[B"
theorem rm26 (l : Launch) (Z : State) (a0 : Array Value) (hw : ∀ d ∈ tables_1, d.before a0 Z = true) (ws : List Jvm.Cond) (h0 : Heap) (n0 : Nat) (O0 : Old Z n0 h0) (a : Addr) (ka : ClassId) (vs : List Value) (off : Nat) (m' : Nat) (Va : own_Ar Z h0 a ka .byte vs) (hm : off + m' ≤ vs.length) (hvl : vs.length ≤ 4096) (hmb : m' ≤ 400) (hfv : ∀ v ∈ vs, fits .byte v = true) (ho0 : 0 < off) :
    MetFree l M34 (head1 (Jvm.Cond.code M34 jdk_65_method_133_code 5 (some (.array .byte)) :: ws) ({ frames := 1, cells := 1, slots := 400, locals := 18 } : Room)) (fun aq U => aq = #[(.ref a), (.int (Int32.ofNat off)), (.int (Int32.ofNat (off + m')))] ∧ Z.Warmed39 U.vm ∧ U.heap = h0) (fun _ _ _ _ _ => True) (fun _ U oo U' => ∃ v L, oo = .returned v ∧ Q_rm26 Z h0 n0 a ka vs off m' v U'.heap L ∧ FrameEnd U oo U' L ({ frames := 1, cells := 1, slots := 400, locals := 18 } : Room).cells ({ frames := 1, cells := 1, slots := 400, locals := 18 } : Room).slots) := by
  refine MetFree.of_bodySF (plainFor_of_name pn_rm27) hisR ?_
  intro p e s m args below meth c s₁ Bd hml0 hP hK
  obtain ⟨rfl, hZ, hh⟩ := hP
  have hx := Bd.exec
  have hby := Bd.bytes
  have dd := @dq _ _ _ hby D26
  have hml : c.maxLocals = 5 := hml0
  have hown : s.vm.findClass "java/util/Arrays" = some m.cls := findClass_of_methodNamed Bd.named
  have hnm := (name_of_methodNamed Bd.named Bd.method).1
  have hlk := Bd.notSynchronized
  have hret := Bd.returns
  have X0 : Stand p l e ({ frames := 1, cells := 1, slots := 400, locals := 18 } : Room) s m #[(.ref a), (.int (Int32.ofNat off)), (.int (Int32.ofNat (off + m')))] below meth c s₁ [] 0 0 := Stand.of_body Bd
  have e0 : s₁.heap = h0 := by rw [← hh, Bd.state]; rfl
  have N0 := Fr.nil n0
  have K0 := Keep.refl h0 []
  refine own_go (S' := (s₁.setTop (mkF m 0 #[vr a, vi (Int32.ofNat off), vi (Int32.ofNat (off + m')), .unset, .unset] []))) (fun tq kq => castTop rfl kq) ?_
  show own_G p e s below (Q_rm26 Z h0 n0 a ka vs off m') _ _ _
  obtain ⟨_, _, ⟨T101, L101, k101, n101⟩, -, X101, ⟨Lc101, hQ101, l101, y101, z101⟩, st101⟩ := Jvm.LawKit.callS X0 hx (y := M33) hown (mvT hZ (ww hw 151 rfl)) (mvT hZ (ww hw 152 rfl)) (mvT hZ (ww hw 146 rfl)) (mvT hZ (ww hw 153 rfl)) (by decide) (backOf (W := 0) (rm27 l Z a0 hw [] h0 n0 O0 (Int32.ofNat off) (Int32.ofNat (off + m')) (by rw [own_lt (by omega) (by omega)]; omega)) hZ (ww hw 153 rfl) (ww hw 146 rfl) (by decide) (by decide)) (g := (mkF m 2 #[vr a, vi (Int32.ofNat off), vi (Int32.ofNat (off + m')), .unset, .unset] [(.int (Int32.ofNat (off + m'))), (.int (Int32.ofNat off))])) rfl (by rw [hml]; rfl) (argsL := [(.int (Int32.ofNat off)), (.int (Int32.ofNat (off + m')))]) (rest := []) (lenOf pd_10 rfl) rfl (by show 2 * 0 + _ ≤ _; exact Nat.le_of_eq rfl) (dd 2 rfl) (fun _ _ => ⟨rfl, e0, (by decide : 0 + 0 ≤ _), (by decide : 0 + 0 ≤ _)⟩)
  dsimp only [Pt.U, Pt.locs, Pt.cells, Pt.slots] at X101 l101 y101 z101 st101 hQ101
  subst l101 y101 z101
  obtain ⟨rfl, N101, eh101⟩ := hQ101
  have Nf101 := Fr.app N0 N101
  refine own_go (S' := (T101.setTop (mkF m 8 #[vr a, vi (Int32.ofNat off), vi (Int32.ofNat (off + m')), .unset, .unset] [(.int ((Int32.ofNat (off + m')) - (Int32.ofNat off)))]))) (fun tq kq => XS.iloadN X0.here hx rfl (dd 0 rfl) rfl (XS.iloadN X0.here hx rfl (dd 1 rfl) rfl (st101 tq (XS.iloadN X101.here hx rfl (dd 3 rfl) rfl (XS.iloadN X101.here hx rfl (dd 4 rfl) rfl (XS.isub X101.here hx rfl (dd 5 rfl) rfl kq)))))) ?_
  rw [own_subN (show off ≤ off + m' from Nat.le_add_right _ _), Nat.add_sub_cancel_left]
  obtain ⟨T102, h102, k102, X102, e102, E102, A102, Ex102, st102⟩ := newPE X101 hx hZ (ww hw 26 rfl) eh101 (g := (mkF m 10 #[vr a, vi (Int32.ofNat off), vi (Int32.ofNat (off + m')), vi (Int32.ofNat m'), .unset] [(.int (Int32.ofNat m'))])) rfl (dd 8 rfl) rfl (own_pos (by omega)) (cap := 400) (by rw [own_clamp (by omega)]; omega) (by decide) (by decide) (by decide) (ad := "[B") (by decide +kernel)
  obtain ⟨b102, g102⟩ : ∃ z, z = h0.size := ⟨_, rfl⟩
  rw [← g102] at A102 st102 Ex102
  have ge_b102 : n0 ≤ b102 := Nat.le_trans (own_osz O0) (Nat.le_of_eq g102.symm)
  have gk_b102 : h0.size ≤ b102 := Nat.le_trans K0.1 (Nat.le_of_eq g102.symm)
  have V102 : own_Ar Z h102 b102 k102 .byte (List.replicate (Int32.ofNat m').toNatClampNeg (.int 0)) := own_Ar.new A102 (own_pos (by omega))
  have O102 := O0.ext E102
  have K102 := K0.ext E102
  have f103 := (Va.ext E102)
  obtain ⟨cl104, Ar104, ln104⟩ := f103.len
  have lq104 : cl104.slots.size.toInt32 = (Int32.ofNat (vs.length)) := ln104.trans rfl
  refine own_go (S' := (T102.setTop (mkF m 23 #[vr a, vi (Int32.ofNat off), vi (Int32.ofNat (off + m')), vi (Int32.ofNat m'), vr b102] [(.int ((Int32.ofNat (vs.length)) - (Int32.ofNat off))), (.int 0), (.ref b102), (.int (Int32.ofNat off)), (.ref a)]))) (fun tq kq => XS.istoreN X101.here hx rfl (dd 6 rfl) rfl (l' := #[vr a, vi (Int32.ofNat off), vi (Int32.ofNat (off + m')), vi (Int32.ofNat m'), .unset]) rfl (XS.iloadN X101.here hx rfl (dd 7 rfl) rfl (st102 tq (XS.astore X102.here hx rfl (dd 9 rfl) rfl rfl (l' := #[vr a, vi (Int32.ofNat off), vi (Int32.ofNat (off + m')), vi (Int32.ofNat m'), vr b102]) rfl (XS.aloadN X102.here hx rfl (dd 10 rfl) rfl rfl (XS.iloadN X102.here hx rfl (dd 11 rfl) rfl (XS.aload X102.here hx rfl (dd 12 rfl) rfl rfl (XS.iconst X102.here hx rfl (dd 13 rfl) (XS.aloadN X102.here hx rfl (dd 14 rfl) rfl rfl (X102.arraylength hx (by rw [e102]; exact Ar104.1) (State.isArrayOf_alike hZ.alike Ar104.2.1) (g := (mkF m 20 #[vr a, vi (Int32.ofNat off), vi (Int32.ofNat (off + m')), vi (Int32.ofNat m'), vr b102] [(.ref a), (.int 0), (.ref b102), (.int (Int32.ofNat off)), (.ref a)])) rfl rfl (dd 15 rfl) tq (by rw [lq104]; exact (XS.iloadN X102.here hx rfl (dd 16 rfl) rfl (XS.isub X102.here hx rfl (dd 17 rfl) rfl kq))))))))))))) ?_
  rw [own_subN (show off ≤ vs.length by omega)]
  obtain ⟨_, _, ⟨T105, L105, k105, n105⟩, -, X105, ⟨Lc105, hQ105, l105, y105, z105⟩, st105⟩ := Jvm.LawKit.callS X102 hx (y := M15) hown (mvT hZ (ww hw 154 rfl)) (mvT hZ (ww hw 155 rfl)) (mvT hZ (ww hw 156 rfl)) (mvT hZ (ww hw 157 rfl)) (by decide) (backOf (W := 4) (rm28 l Z a0 hw [] h102 n0 O102 (Int32.ofNat (vs.length - off)) (Int32.ofNat m')) hZ (ww hw 157 rfl) (ww hw 156 rfl) (by decide) (by decide)) (g := (mkF m 24 #[vr a, vi (Int32.ofNat off), vi (Int32.ofNat (off + m')), vi (Int32.ofNat m'), vr b102] [(.int (Int32.ofNat m')), (.int (Int32.ofNat (vs.length - off))), (.int 0), (.ref b102), (.int (Int32.ofNat off)), (.ref a)])) rfl (by rw [hml]; rfl) (argsL := [(.int (Int32.ofNat (vs.length - off))), (.int (Int32.ofNat m'))]) (rest := [(.int 0), (.ref b102), (.int (Int32.ofNat off)), (.ref a)]) (lenOf pd_9 rfl) rfl (by show 2 * 0 + _ ≤ _; exact Nat.le_of_eq rfl) (dd 19 rfl) (fun _ _ => ⟨rfl, e102, (by decide : 1 + 0 ≤ _), (by decide : 400 + 0 ≤ _)⟩)
  dsimp only [Pt.U, Pt.locs, Pt.cells, Pt.slots] at X105 l105 y105 z105 st105 hQ105
  subst l105 y105 z105
  obtain ⟨rfl, N105, eh105⟩ := hQ105
  have Nf105 := Fr.app Nf101 N105
  have emn : own_min (Int32.ofNat (vs.length - off)) (Int32.ofNat m') = Int32.ofNat m' := own_min_le (by omega) (by omega) (by omega)
  obtain ⟨T106, h106, L106, X106, e106, N106, K106, U106, st106⟩ := own_cp X105 hx hZ hown (ww hw 158 rfl) (ww hw 116 rfl) (ww hw 114 rfl) (ww hw 115 rfl) eh105 (sp := (Int32.ofNat off)) (dp := (0 : Int32)) (nn := (own_min (Int32.ofNat (vs.length - off)) (Int32.ofNat m'))) f103 V102 rfl hfv (by intro v hv; rw [List.eq_of_mem_replicate hv]; decide) (own_pos (by omega)) (by decide) (by rw [emn]; exact own_pos (by omega)) (by rw [emn, own_clamp (by omega), own_clamp (by omega)]; omega) (by rw [emn, own_clamp (by omega), List.length_replicate]; show 0 + m' ≤ _; omega) Nf105 ge_b102 (g := (mkF m 27 #[vr a, vi (Int32.ofNat off), vi (Int32.ofNat (off + m')), vi (Int32.ofNat m'), vr b102] [(.int (own_min (Int32.ofNat (vs.length - off)) (Int32.ofNat m'))), (.int 0), (.ref b102), (.int (Int32.ofNat off)), (.ref a)])) rfl (by rw [hml]; rfl) rfl (dd 20 rfl) (by decide) (W := 0) (by show 2 * 0 + _ ≤ _; exact Nat.le_of_eq rfl) (by decide)
  have V106 : own_Ar Z h106 b102 k102 .byte ((vs.drop off).take m') := (by rw [emn, own_clamp (by omega), own_clamp (by omega)] at U106; simpa using U106)
  have KK106 := K102.trans K106 (allS (Or.inr gk_b102) all0)
  refine own_go (S' := (T106.setTop (mkF m 32 #[vr a, vi (Int32.ofNat off), vi (Int32.ofNat (off + m')), vi (Int32.ofNat m'), vr b102] [(.ref b102)]))) (fun tq kq => XS.iloadN X102.here hx rfl (dd 18 rfl) rfl (st105 tq (st106 tq (XS.aload X106.here hx rfl (dd 21 rfl) rfl rfl kq)))) ?_
  refine own_retA X106 hx hlk hret rfl rfl (dd 22 rfl) (by decide) (by decide) ?_
  have f107 := (Ex102.keep K106)
  rw [e106]
  exact ⟨b102, _, rfl, N106, KK106, gk_b102, V106, f107⟩
def Q_rm25 (Z : State) (h0 : Heap) (n0 : Nat) (a : Addr) (ka : ClassId) (vs : List Value) (off : Nat) (m' : Nat) (v : Option Value) (h : Heap) (L : List Loc) : Prop := ∃ (b : Addr) (kb : ClassId), v = some (.ref b) ∧ Fr n0 L ∧ Keep h0 h [] ∧ h0.size ≤ b ∧ own_Ar Z h b kb .byte ((vs.drop off).take m') ∧ Exa Z h b "[B"
theorem rm25 (l : Launch) (Z : State) (a0 : Array Value) (hw : ∀ d ∈ tables_1, d.before a0 Z = true) (ws : List Jvm.Cond) (h0 : Heap) (n0 : Nat) (O0 : Old Z n0 h0) (a : Addr) (ka : ClassId) (vs : List Value) (off : Nat) (m' : Nat) (Va : own_Ar Z h0 a ka .byte vs) (hm : off + m' ≤ vs.length) (hvl : vs.length ≤ 4096) (hmb : m' ≤ 400) (hfv : ∀ v ∈ vs, fits .byte v = true) (ho0 : 0 < off) :
    MetFree l M16 (head1 (Jvm.Cond.code M16 jdk_65_method_132_code 3 (some (.array .byte)) :: ws) ({ frames := 2, cells := 1, slots := 400, locals := 34 } : Room)) (fun aq U => aq = #[(.ref a), (.int (Int32.ofNat off)), (.int (Int32.ofNat (off + m')))] ∧ Z.Warmed39 U.vm ∧ U.heap = h0) (fun _ _ _ _ _ => True) (fun _ U oo U' => ∃ v L, oo = .returned v ∧ Q_rm25 Z h0 n0 a ka vs off m' v U'.heap L ∧ FrameEnd U oo U' L ({ frames := 2, cells := 1, slots := 400, locals := 34 } : Room).cells ({ frames := 2, cells := 1, slots := 400, locals := 34 } : Room).slots) := by
  refine MetFree.of_bodySF (plainFor_of_name pn_rm27) hisR ?_
  intro p e s m args below meth c s₁ Bd hml0 hP hK
  obtain ⟨rfl, hZ, hh⟩ := hP
  have hx := Bd.exec
  have hby := Bd.bytes
  have dd := @dq _ _ _ hby D25
  have hml : c.maxLocals = 3 := hml0
  have hown : s.vm.findClass "java/util/Arrays" = some m.cls := findClass_of_methodNamed Bd.named
  have hnm := (name_of_methodNamed Bd.named Bd.method).1
  have hlk := Bd.notSynchronized
  have hret := Bd.returns
  have X0 : Stand p l e ({ frames := 2, cells := 1, slots := 400, locals := 34 } : Room) s m #[(.ref a), (.int (Int32.ofNat off)), (.int (Int32.ofNat (off + m')))] below meth c s₁ [] 0 0 := Stand.of_body Bd
  have e0 : s₁.heap = h0 := by rw [← hh, Bd.state]; rfl
  have N0 := Fr.nil n0
  have K0 := Keep.refl h0 []
  refine own_go (S' := (s₁.setTop (mkF m 0 #[vr a, vi (Int32.ofNat off), vi (Int32.ofNat (off + m'))] []))) (fun tq kq => castTop rfl kq) ?_
  show own_G p e s below (Q_rm25 Z h0 n0 a ka vs off m') _ _ _
  obtain ⟨_, _, ⟨T101, L101, k101, n101⟩, -, X101, ⟨Lc101, hQ101, l101, y101, z101⟩, st101⟩ := Jvm.LawKit.callS X0 hx (y := M34) hown (mvT hZ (ww hw 148 rfl)) (mvT hZ (ww hw 149 rfl)) (mvT hZ (ww hw 146 rfl)) (mvT hZ (ww hw 150 rfl)) (by decide) (backOf (W := 0) (rm26 l Z a0 hw [] h0 n0 O0 a ka vs off m' Va hm hvl hmb hfv ho0) hZ (ww hw 150 rfl) (ww hw 146 rfl) (by decide) (by decide)) (g := (mkF m 13 #[vr a, vi (Int32.ofNat off), vi (Int32.ofNat (off + m'))] [(.int (Int32.ofNat (off + m'))), (.int (Int32.ofNat off)), (.ref a)])) rfl (by rw [hml]; rfl) (argsL := [(.ref a), (.int (Int32.ofNat off)), (.int (Int32.ofNat (off + m')))]) (rest := []) (lenOf pd_11 rfl) rfl (by show 2 * 0 + _ ≤ _; exact Nat.le_of_eq rfl) (dd 5 rfl) (fun _ _ => ⟨rfl, e0, (by decide : 0 + 1 ≤ _), (by decide : 0 + 400 ≤ _)⟩)
  dsimp only [Pt.U, Pt.locs, Pt.cells, Pt.slots] at X101 l101 y101 z101 st101 hQ101
  subst l101 y101 z101
  obtain ⟨b101, kb101, rfl, N101, K101, gb101, V101, Xb101⟩ := hQ101
  have Nf101 := Fr.app N0 N101
  have KK101 := K0.trans K101 all0
  have gk_b101 : h0.size ≤ b101 := Nat.le_trans K0.1 gb101
  refine own_go (S' := (T101.setTop (mkF m 16 #[vr a, vi (Int32.ofNat off), vi (Int32.ofNat (off + m'))] [(.ref b101)]))) (fun tq kq => XS.iloadN X0.here hx rfl (dd 0 rfl) rfl (XS.ifYes X0.here hx rfl (pc0 := 1) (pc' := 10) rfl (dd 1 rfl) rfl ((if0 _ _).trans (feq (fun q => absurd ((own_eqN (b := 0) (by omega) (by decide)).mp q) (by omega))).2) (by decide) (by decide) (XS.aloadN X0.here hx rfl (dd 2 rfl) rfl rfl (XS.iloadN X0.here hx rfl (dd 3 rfl) rfl (XS.iloadN X0.here hx rfl (dd 4 rfl) rfl (st101 tq kq)))))) ?_
  refine own_retA X101 hx hlk hret rfl rfl (dd 6 rfl) (by decide) (by decide) ?_
  exact ⟨b101, _, rfl, Nf101, KK101, gk_b101, V101, Xb101⟩
theorem pn_rm39 : plainName "java/lang/Character" = true := by first | (simp [plainName, overriddenIn]; done) | decide +kernel
def Q_rm39 (Z : State) (h0 : Heap) (n0 : Nat) (n : Nat) (v : Option Value) (h : Heap) (L : List Loc) : Prop := v = some (.int 0) ∧ Fr n0 L ∧ h = h0
theorem rm39 (l : Launch) (Z : State) (a0 : Array Value) (hw : ∀ d ∈ tables_1, d.before a0 Z = true) (ws : List Jvm.Cond) (h0 : Heap) (n0 : Nat) (O0 : Old Z n0 h0) (n : Nat) (hn : n < 32768) :
    MetFree l M17 (head1 (Jvm.Cond.code M17 jdk_89_method_16_code 1 (some .boolean) :: ws) ({ frames := 0, cells := 0, slots := 0, locals := 0 } : Room)) (fun aq U => aq = #[(.int (Int32.ofNat n))] ∧ Z.Warmed39 U.vm ∧ U.heap = h0) (fun _ _ _ _ _ => True) (fun _ U oo U' => ∃ v L, oo = .returned v ∧ Q_rm39 Z h0 n0 n v U'.heap L ∧ FrameEnd U oo U' L ({ frames := 0, cells := 0, slots := 0, locals := 0 } : Room).cells ({ frames := 0, cells := 0, slots := 0, locals := 0 } : Room).slots) := by
  refine MetFree.of_bodySF (plainFor_of_name pn_rm39) hisR ?_
  intro p e s m args below meth c s₁ Bd hml0 hP hK
  obtain ⟨rfl, hZ, hh⟩ := hP
  have hx := Bd.exec
  have hby := Bd.bytes
  have dd := @dq _ _ _ hby D39
  have hml : c.maxLocals = 1 := hml0
  have hown : s.vm.findClass "java/lang/Character" = some m.cls := findClass_of_methodNamed Bd.named
  have hnm := (name_of_methodNamed Bd.named Bd.method).1
  have hlk := Bd.notSynchronized
  have hret := Bd.returns
  have X0 : Stand p l e ({ frames := 0, cells := 0, slots := 0, locals := 0 } : Room) s m #[(.int (Int32.ofNat n))] below meth c s₁ [] 0 0 := Stand.of_body Bd
  have e0 : s₁.heap = h0 := by rw [← hh, Bd.state]; rfl
  have N0 := Fr.nil n0
  have K0 := Keep.refl h0 []
  refine own_go (S' := (s₁.setTop (mkF m 0 #[vi (Int32.ofNat n)] []))) (fun tq kq => castTop rfl kq) ?_
  show own_G p e s below (Q_rm39 Z h0 n0 n) _ _ _
  refine own_go (S' := (s₁.setTop (mkF m 17 #[vi (Int32.ofNat n)] [(.int 0)]))) (fun tq kq => XS.iloadN X0.here hx rfl (dd 0 rfl) rfl (X0.ldcInt hx hown (mvT hZ (ww hw 204 rfl)) (g := (mkF m 1 #[vi (Int32.ofNat n)] [(.int (Int32.ofNat n))])) rfl (dd 1 rfl) tq (XS.icmpYes X0.here hx rfl (pc0 := 3) (pc' := 16) rfl (dd 2 rfl) rfl (tlt ((own_lt (b := 55296) (by omega) (by decide)).mpr (by omega))).1 (by decide) (by decide) (XS.iconst X0.here hx rfl (dd 3 rfl) kq)))) ?_
  refine own_retN X0 hx hlk hret (by simp) (dd 4 rfl) (by decide) (by decide) ?_
  exact ⟨rfl, N0, e0⟩
def Q_rm34 (Z : State) (h0 : Heap) (n0 : Nat) (x : Int32) (y : Int32) (v : Option Value) (h : Heap) (L : List Loc) : Prop := v = some (.int (own_d2 x y)) ∧ Fr n0 L ∧ h = h0
theorem rm34 (l : Launch) (Z : State) (a0 : Array Value) (hw : ∀ d ∈ tables_1, d.before a0 Z = true) (ws : List Jvm.Cond) (h0 : Heap) (n0 : Nat) (O0 : Old Z n0 h0) (x : Int32) (y : Int32)  :
    MetFree l M18 (head1 (Jvm.Cond.code M18 jdk_42_method_35_code 2 (some .char) :: ws) ({ frames := 0, cells := 0, slots := 0, locals := 0 } : Room)) (fun aq U => aq = #[(.int x), (.int y)] ∧ Z.Warmed39 U.vm ∧ U.heap = h0) (fun _ _ _ _ _ => True) (fun _ U oo U' => ∃ v L, oo = .returned v ∧ Q_rm34 Z h0 n0 x y v U'.heap L ∧ FrameEnd U oo U' L ({ frames := 0, cells := 0, slots := 0, locals := 0 } : Room).cells ({ frames := 0, cells := 0, slots := 0, locals := 0 } : Room).slots) := by
  refine MetFree.of_bodySF (plainFor_of_name pn_rm4) hisR ?_
  intro p e s m args below meth c s₁ Bd hml0 hP hK
  obtain ⟨rfl, hZ, hh⟩ := hP
  have hx := Bd.exec
  have hby := Bd.bytes
  have dd := @dq _ _ _ hby D34
  have hml : c.maxLocals = 2 := hml0
  have hown : s.vm.findClass "java/lang/String" = some m.cls := findClass_of_methodNamed Bd.named
  have hnm := (name_of_methodNamed Bd.named Bd.method).1
  have hlk := Bd.notSynchronized
  have hret := Bd.returns
  have X0 : Stand p l e ({ frames := 0, cells := 0, slots := 0, locals := 0 } : Room) s m #[(.int x), (.int y)] below meth c s₁ [] 0 0 := Stand.of_body Bd
  have e0 : s₁.heap = h0 := by rw [← hh, Bd.state]; rfl
  have N0 := Fr.nil n0
  have K0 := Keep.refl h0 []
  refine own_go (S' := (s₁.setTop (mkF m 0 #[vi x, vi y] []))) (fun tq kq => castTop rfl kq) ?_
  show own_G p e s below (Q_rm34 Z h0 n0 x y) _ _ _
  refine own_go (S' := (s₁.setTop (mkF m 11 #[vi x, vi y] [(.int ((((x <<< ((6 : Int32) &&& 31)) ^^^ y) ^^^ (3968 : Int32)).toUInt32.toUInt16.toUInt32.toInt32))]))) (fun tq kq => XS.iloadN X0.here hx rfl (dd 0 rfl) rfl (XS.bipush X0.here hx rfl (dd 1 rfl) (XS.ishl X0.here hx rfl (dd 2 rfl) rfl (XS.iloadN X0.here hx rfl (dd 3 rfl) rfl (XS.ixor X0.here hx rfl (dd 4 rfl) rfl (XS.sipush X0.here hx rfl (dd 5 rfl) (XS.ixor X0.here hx rfl (dd 6 rfl) rfl (XS.i2c X0.here hx rfl (dd 7 rfl) rfl kq)))))))) ?_
  refine own_retN X0 hx hlk hret (by simp) (dd 8 rfl) (by decide) (by decide) ?_
  exact ⟨rfl, N0, e0⟩
def Q_rm46 (Z : State) (h0 : Heap) (n0 : Nat) (x : Int32) (y : Int32) (y2 : Int32) (v : Option Value) (h : Heap) (L : List Loc) : Prop := v = some (.int (own_d3 x y y2)) ∧ Fr n0 L ∧ h = h0
theorem rm46 (l : Launch) (Z : State) (a0 : Array Value) (hw : ∀ d ∈ tables_1, d.before a0 Z = true) (ws : List Jvm.Cond) (h0 : Heap) (n0 : Nat) (O0 : Old Z n0 h0) (x : Int32) (y : Int32) (y2 : Int32)  :
    MetFree l M35 (head1 (Jvm.Cond.code M35 jdk_42_method_36_code 3 (some .char) :: ws) ({ frames := 0, cells := 0, slots := 0, locals := 0 } : Room)) (fun aq U => aq = #[(.int x), (.int y), (.int y2)] ∧ Z.Warmed39 U.vm ∧ U.heap = h0) (fun _ _ _ _ _ => True) (fun _ U oo U' => ∃ v L, oo = .returned v ∧ Q_rm46 Z h0 n0 x y y2 v U'.heap L ∧ FrameEnd U oo U' L ({ frames := 0, cells := 0, slots := 0, locals := 0 } : Room).cells ({ frames := 0, cells := 0, slots := 0, locals := 0 } : Room).slots) := by
  refine MetFree.of_bodySF (plainFor_of_name pn_rm4) hisR ?_
  intro p e s m args below meth c s₁ Bd hml0 hP hK
  obtain ⟨rfl, hZ, hh⟩ := hP
  have hx := Bd.exec
  have hby := Bd.bytes
  have dd := @dq _ _ _ hby D46
  have hml : c.maxLocals = 3 := hml0
  have hown : s.vm.findClass "java/lang/String" = some m.cls := findClass_of_methodNamed Bd.named
  have hnm := (name_of_methodNamed Bd.named Bd.method).1
  have hlk := Bd.notSynchronized
  have hret := Bd.returns
  have X0 : Stand p l e ({ frames := 0, cells := 0, slots := 0, locals := 0 } : Room) s m #[(.int x), (.int y), (.int y2)] below meth c s₁ [] 0 0 := Stand.of_body Bd
  have e0 : s₁.heap = h0 := by rw [← hh, Bd.state]; rfl
  have N0 := Fr.nil n0
  have K0 := Keep.refl h0 []
  refine own_go (S' := (s₁.setTop (mkF m 0 #[vi x, vi y, vi y2] []))) (fun tq kq => castTop rfl kq) ?_
  show own_G p e s below (Q_rm46 Z h0 n0 x y y2) _ _ _
  refine own_go (S' := (s₁.setTop (mkF m 16 #[vi x, vi y, vi y2] [(.int ((((x <<< ((12 : Int32) &&& 31)) ^^^ (y <<< ((6 : Int32) &&& 31))) ^^^ (y2 ^^^ (-123008 : Int32))).toUInt32.toUInt16.toUInt32.toInt32))]))) (fun tq kq => XS.iloadN X0.here hx rfl (dd 0 rfl) rfl (XS.bipush X0.here hx rfl (dd 1 rfl) (XS.ishl X0.here hx rfl (dd 2 rfl) rfl (XS.iloadN X0.here hx rfl (dd 3 rfl) rfl (XS.bipush X0.here hx rfl (dd 4 rfl) (XS.ishl X0.here hx rfl (dd 5 rfl) rfl (XS.ixor X0.here hx rfl (dd 6 rfl) rfl (XS.iloadN X0.here hx rfl (dd 7 rfl) rfl (own_ldcwInt X0 hx hown (mvT hZ (ww hw 227 rfl)) (g := (mkF m 10 #[vi x, vi y, vi y2] [(.int y2), (.int ((x <<< ((12 : Int32) &&& 31)) ^^^ (y <<< ((6 : Int32) &&& 31))))])) rfl (dd 8 rfl) tq (XS.ixor X0.here hx rfl (dd 9 rfl) rfl (XS.ixor X0.here hx rfl (dd 10 rfl) rfl (XS.i2c X0.here hx rfl (dd 11 rfl) rfl kq)))))))))))) ?_
  refine own_retN X0 hx hlk hret (by simp) (dd 12 rfl) (by decide) (by decide) ?_
  exact ⟨rfl, N0, e0⟩
def Q_rm47 (Z : State) (h0 : Heap) (n0 : Nat) (x : Int32) (v : Option Value) (h : Heap) (L : List Loc) : Prop := v = some (.int 0) ∧ Fr n0 L ∧ h = h0
theorem rm47 (l : Launch) (Z : State) (a0 : Array Value) (hw : ∀ d ∈ tables_1, d.before a0 Z = true) (ws : List Jvm.Cond) (h0 : Heap) (n0 : Nat) (O0 : Old Z n0 h0) (x : Int32) (hx1 : (x &&& (192 : Int32)) = (128 : Int32)) :
    MetFree l M36 (head1 (Jvm.Cond.code M36 jdk_42_method_29_code 1 (some .boolean) :: ws) ({ frames := 0, cells := 0, slots := 0, locals := 0 } : Room)) (fun aq U => aq = #[(.int x)] ∧ Z.Warmed39 U.vm ∧ U.heap = h0) (fun _ _ _ _ _ => True) (fun _ U oo U' => ∃ v L, oo = .returned v ∧ Q_rm47 Z h0 n0 x v U'.heap L ∧ FrameEnd U oo U' L ({ frames := 0, cells := 0, slots := 0, locals := 0 } : Room).cells ({ frames := 0, cells := 0, slots := 0, locals := 0 } : Room).slots) := by
  refine MetFree.of_bodySF (plainFor_of_name pn_rm4) hisR ?_
  intro p e s m args below meth c s₁ Bd hml0 hP hK
  obtain ⟨rfl, hZ, hh⟩ := hP
  have hx := Bd.exec
  have hby := Bd.bytes
  have dd := @dq _ _ _ hby D47
  have hml : c.maxLocals = 1 := hml0
  have hown : s.vm.findClass "java/lang/String" = some m.cls := findClass_of_methodNamed Bd.named
  have hnm := (name_of_methodNamed Bd.named Bd.method).1
  have hlk := Bd.notSynchronized
  have hret := Bd.returns
  have X0 : Stand p l e ({ frames := 0, cells := 0, slots := 0, locals := 0 } : Room) s m #[(.int x)] below meth c s₁ [] 0 0 := Stand.of_body Bd
  have e0 : s₁.heap = h0 := by rw [← hh, Bd.state]; rfl
  have N0 := Fr.nil n0
  have K0 := Keep.refl h0 []
  refine own_go (S' := (s₁.setTop (mkF m 0 #[vi x] []))) (fun tq kq => castTop rfl kq) ?_
  show own_G p e s below (Q_rm47 Z h0 n0 x) _ _ _
  refine own_go (S' := (s₁.setTop (mkF m 16 #[vi x] [(.int 0)]))) (fun tq kq => XS.iloadN X0.here hx rfl (dd 0 rfl) rfl (XS.sipush X0.here hx rfl (dd 1 rfl) (XS.iand X0.here hx rfl (dd 2 rfl) rfl (XS.sipush X0.here hx rfl (dd 3 rfl) (XS.icmpYes X0.here hx rfl (pc0 := 8) (pc' := 15) rfl (dd 4 rfl) rfl (teq hx1).1 (by decide) (by decide) (XS.iconst X0.here hx rfl (dd 5 rfl) kq)))))) ?_
  refine own_retN X0 hx hlk hret (by simp) (dd 6 rfl) (by decide) (by decide) ?_
  exact ⟨rfl, N0, e0⟩
def Q_rm45 (Z : State) (h0 : Heap) (n0 : Nat) (x : Int32) (y : Int32) (y2 : Int32) (v : Option Value) (h : Heap) (L : List Loc) : Prop := v = some (.int 0) ∧ Fr n0 L ∧ h = h0
theorem rm45 (l : Launch) (Z : State) (a0 : Array Value) (hw : ∀ d ∈ tables_1, d.before a0 Z = true) (ws : List Jvm.Cond) (h0 : Heap) (n0 : Nat) (O0 : Old Z n0 h0) (x : Int32) (y : Int32) (y2 : Int32) (hm : x = (-32 : Int32) → ¬ ((y &&& (224 : Int32)) = (128 : Int32))) (hy1 : (y &&& (192 : Int32)) = (128 : Int32)) (hy2 : (y2 &&& (192 : Int32)) = (128 : Int32)) :
    MetFree l M37 (head1 (Jvm.Cond.code M37 jdk_42_method_30_code 3 (some .boolean) :: ws) ({ frames := 0, cells := 0, slots := 0, locals := 0 } : Room)) (fun aq U => aq = #[(.int x), (.int y), (.int y2)] ∧ Z.Warmed39 U.vm ∧ U.heap = h0) (fun _ _ _ _ _ => True) (fun _ U oo U' => ∃ v L, oo = .returned v ∧ Q_rm45 Z h0 n0 x y y2 v U'.heap L ∧ FrameEnd U oo U' L ({ frames := 0, cells := 0, slots := 0, locals := 0 } : Room).cells ({ frames := 0, cells := 0, slots := 0, locals := 0 } : Room).slots) := by
  refine MetFree.of_bodySF (plainFor_of_name pn_rm4) hisR ?_
  intro p e s m args below meth c s₁ Bd hml0 hP hK
  obtain ⟨rfl, hZ, hh⟩ := hP
  have hx := Bd.exec
  have hby := Bd.bytes
  have dd := @dq _ _ _ hby D45
  have hml : c.maxLocals = 3 := hml0
  have hown : s.vm.findClass "java/lang/String" = some m.cls := findClass_of_methodNamed Bd.named
  have hnm := (name_of_methodNamed Bd.named Bd.method).1
  have hlk := Bd.notSynchronized
  have hret := Bd.returns
  have X0 : Stand p l e ({ frames := 0, cells := 0, slots := 0, locals := 0 } : Room) s m #[(.int x), (.int y), (.int y2)] below meth c s₁ [] 0 0 := Stand.of_body Bd
  have e0 : s₁.heap = h0 := by rw [← hh, Bd.state]; rfl
  have N0 := Fr.nil n0
  have K0 := Keep.refl h0 []
  refine own_go (S' := (s₁.setTop (mkF m 0 #[vi x, vi y, vi y2] []))) (fun tq kq => castTop rfl kq) ?_
  show own_G p e s below (Q_rm45 Z h0 n0 x y y2) _ _ _
  refine own_go (S' := (s₁.setTop (mkF m 3 #[vi x, vi y, vi y2] [(.int (-32 : Int32)), (.int x)]))) (fun tq kq => XS.iloadN X0.here hx rfl (dd 0 rfl) rfl (XS.bipush X0.here hx rfl (dd 1 rfl) kq)) ?_
  by_cases hc101 : x = (-32 : Int32)
  · refine own_go (S' := (s₁.setTop (mkF m 44 #[vi x, vi y, vi y2] [(.int 0)]))) (fun tq kq => XS.icmpNo X0.here hx rfl (dd 2 rfl) rfl (teq hc101).2 (XS.iloadN X0.here hx rfl (dd 3 rfl) rfl (XS.sipush X0.here hx rfl (dd 4 rfl) (XS.iand X0.here hx rfl (dd 5 rfl) rfl (XS.sipush X0.here hx rfl (dd 6 rfl) (XS.icmpNo X0.here hx rfl (dd 7 rfl) rfl (feq (hm hc101)).1 (XS.iloadN X0.here hx rfl (dd 8 rfl) rfl (XS.sipush X0.here hx rfl (dd 9 rfl) (XS.iand X0.here hx rfl (dd 10 rfl) rfl (XS.sipush X0.here hx rfl (dd 11 rfl) (XS.icmpNo X0.here hx rfl (dd 12 rfl) rfl (teq hy1).2 (XS.iloadN X0.here hx rfl (dd 13 rfl) rfl (XS.sipush X0.here hx rfl (dd 14 rfl) (XS.iand X0.here hx rfl (dd 15 rfl) rfl (XS.sipush X0.here hx rfl (dd 16 rfl) (XS.icmpYes X0.here hx rfl (pc0 := 36) (pc' := 43) rfl (dd 17 rfl) rfl (teq hy2).1 (by decide) (by decide) (XS.iconst X0.here hx rfl (dd 18 rfl) kq))))))))))))))))) ?_
    refine own_retN X0 hx hlk hret (by simp) (dd 19 rfl) (by decide) (by decide) ?_
    exact ⟨rfl, N0, e0⟩
  · refine own_go (S' := (s₁.setTop (mkF m 44 #[vi x, vi y, vi y2] [(.int 0)]))) (fun tq kq => XS.icmpYes X0.here hx rfl (pc0 := 3) (pc' := 17) rfl (dd 2 rfl) rfl (feq hc101).2 (by decide) (by decide) (XS.iloadN X0.here hx rfl (dd 8 rfl) rfl (XS.sipush X0.here hx rfl (dd 9 rfl) (XS.iand X0.here hx rfl (dd 10 rfl) rfl (XS.sipush X0.here hx rfl (dd 11 rfl) (XS.icmpNo X0.here hx rfl (dd 12 rfl) rfl (teq hy1).2 (XS.iloadN X0.here hx rfl (dd 13 rfl) rfl (XS.sipush X0.here hx rfl (dd 14 rfl) (XS.iand X0.here hx rfl (dd 15 rfl) rfl (XS.sipush X0.here hx rfl (dd 16 rfl) (XS.icmpYes X0.here hx rfl (pc0 := 36) (pc' := 43) rfl (dd 17 rfl) rfl (teq hy2).1 (by decide) (by decide) (XS.iconst X0.here hx rfl (dd 18 rfl) kq)))))))))))) ?_
    refine own_retN X0 hx hlk hret (by simp) (dd 19 rfl) (by decide) (by decide) ?_
    exact ⟨rfl, N0, e0⟩
def Q_gcw (Z : State) (h0 : Heap) (n0 : Nat) (b : Addr) (kb : ClassId) (i : Nat) (cs : List Nat) (z : Int32) (v : Option Value) (h : Heap) (L : List Loc) : Prop := v = some (.int (Int32.ofNat (cs.getD i 0))) ∧ Fr n0 L ∧ h = h0
theorem gcw (l : Launch) (Z : State) (a0 : Array Value) (hw : ∀ d ∈ tables_1, d.before a0 Z = true) (ws : List Jvm.Cond) (h0 : Heap) (n0 : Nat) (O0 : Old Z n0 h0) (b : Addr) (kb : ClassId) (i : Nat) (cs : List Nat) (z : Int32) (HP : own_PK Z z) (Vb : own_Ar Z h0 b kb .byte (own_wv cs)) (hil : i < cs.length) (hib : i < 2 ^ 29) (hch : ∀ j, cs.getD j 0 < 32768) :
    MetFree l M5 (head1 (Jvm.Cond.code M5 jdk_52_method_5_code 2 (some .char) :: ws) ({ frames := 0, cells := 0, slots := 0, locals := 0 } : Room)) (fun aq U => aq = #[(.ref b), (.int (Int32.ofNat i))] ∧ Z.Warmed39 U.vm ∧ U.heap = h0) (fun _ _ _ _ _ => True) (fun _ U oo U' => ∃ v L, oo = .returned v ∧ Q_gcw Z h0 n0 b kb i cs z v U'.heap L ∧ FrameEnd U oo U' L ({ frames := 0, cells := 0, slots := 0, locals := 0 } : Room).cells ({ frames := 0, cells := 0, slots := 0, locals := 0 } : Room).slots) := by
  refine MetFree.of_bodySF (plainFor_of_name pn_rm36) hisR ?_
  intro p e s m args below meth c s₁ Bd hml0 hP hK
  obtain ⟨rfl, hZ, hh⟩ := hP
  have hx := Bd.exec
  have hby := Bd.bytes
  have dd := @dq _ _ _ hby D37
  have hml : c.maxLocals = 2 := hml0
  have hown : s.vm.findClass "java/lang/StringUTF16" = some m.cls := findClass_of_methodNamed Bd.named
  have hnm := (name_of_methodNamed Bd.named Bd.method).1
  have hlk := Bd.notSynchronized
  have hret := Bd.returns
  have X0 : Stand p l e ({ frames := 0, cells := 0, slots := 0, locals := 0 } : Room) s m #[(.ref b), (.int (Int32.ofNat i))] below meth c s₁ [] 0 0 := Stand.of_body Bd
  have e0 : s₁.heap = h0 := by rw [← hh, Bd.state]; rfl
  have N0 := Fr.nil n0
  have K0 := Keep.refl h0 []
  refine own_go (S' := (s₁.setTop (mkF m 0 #[vr b, vi (Int32.ofNat i)] []))) (fun tq kq => castTop rfl kq) ?_
  show own_G p e s below (Q_gcw Z h0 n0 b kb i cs z) _ _ _
  obtain ⟨SC, hz, SA, SH, SL⟩ := id HP
  obtain ⟨T101, X101, e101, st101⟩ := getS2 X0 hx hZ hown (host := "") (Or.inl (ww hw 190 rfl)) Via.refl e0 (SA.ext O0.2) (g := (mkF m 0 #[vr b, vi (Int32.ofNat i)] [])) rfl (dd 0 rfl)
  refine own_go (S' := (T101.setTop (mkF m 31 #[vr b, vi (Int32.ofNat i)] [(.int ((Int32.ofNat i) <<< ((1 : Int32) &&& 31)))]))) (fun tq kq => st101 tq (XS.ifYes X101.here hx rfl (pc0 := 3) (pc' := 28) rfl (dd 1 rfl) rfl ((if0 _ _).trans (feq (by decide : ¬ ((1 : Int32) = (0 : Int32)))).2) (by decide) (by decide) (XS.iloadN X101.here hx rfl (dd 2 rfl) rfl (XS.iconst X101.here hx rfl (dd 3 rfl) (XS.ishl X101.here hx rfl (dd 4 rfl) rfl kq))))) ?_
  rw [own_shl1 (by omega)]
  obtain ⟨cl102, Ar102, -, -, hin102, hat102⟩ := Vb.at (j := (Int32.ofNat (2 * i))) (v := (.int (own_b0 (Int32.ofNat (cs.getD i 0))))) (own_pos (by omega)) (by rw [own_clamp (by omega)]; exact (own_wvat hil).1)
  obtain ⟨T103, X103, e103, st103⟩ := getS2 X101 hx hZ hown (host := "") (Or.inl (ww hw 191 rfl)) Via.refl e101 (SH.ext O0.2) (g := (mkF m 42 #[vr b, vi ((Int32.ofNat (2 * i)) + (1 : Int32))] [(.int ((own_b0 (Int32.ofNat (cs.getD i 0))) &&& (255 : Int32)))])) rfl (dd 12 rfl)
  refine own_go (S' := (T103.setTop (mkF m 48 #[vr b, vi ((Int32.ofNat (2 * i)) + (1 : Int32))] [(.int ((Int32.ofNat (2 * i)) + (1 : Int32))), (.ref b), (.int (((own_b0 (Int32.ofNat (cs.getD i 0))) &&& (255 : Int32)) <<< ((0 : Int32) &&& 31)))]))) (fun tq kq => XS.istoreN X101.here hx rfl (dd 5 rfl) rfl (l' := #[vr b, vi (Int32.ofNat (2 * i))]) rfl (XS.aloadN X101.here hx rfl (dd 6 rfl) rfl rfl (XS.iloadN X101.here hx rfl (dd 7 rfl) rfl (XS.iinc X101.here hx rfl (dd 8 rfl) rfl (l' := #[vr b, vi ((Int32.ofNat (2 * i)) + (1 : Int32))]) rfl (X101.baloadBytes hx (j := (Int32.ofNat (2 * i))) (v := (.int (own_b0 (Int32.ofNat (cs.getD i 0))))) (by rw [e101]; exact Ar102.1) (State.isArrayOf_alike hZ.alike Ar102.2.1) Ar102.2.2 hin102 hat102 (g := (mkF m 37 #[vr b, vi ((Int32.ofNat (2 * i)) + (1 : Int32))] [(.int (Int32.ofNat (2 * i))), (.ref b)])) rfl rfl (dd 9 rfl) tq (XS.sipush X101.here hx rfl (dd 10 rfl) (XS.iand X101.here hx rfl (dd 11 rfl) rfl (st103 tq (XS.ishl X103.here hx rfl (dd 13 rfl) rfl (XS.aloadN X103.here hx rfl (dd 14 rfl) rfl rfl (XS.iloadN X103.here hx rfl (dd 15 rfl) rfl kq))))))))))) ?_
  rw [own_succ (2 * i)]
  obtain ⟨cl104, Ar104, -, -, hin104, hat104⟩ := Vb.at (j := (Int32.ofNat (2 * i + 1))) (v := (.int (own_b1 (Int32.ofNat (cs.getD i 0))))) (own_pos (by omega)) (by rw [own_clamp (by omega)]; exact (own_wvat hil).2)
  obtain ⟨T105, X105, e105, st105⟩ := getS2 X103 hx hZ hown (host := "") (Or.inl (ww hw 192 rfl)) Via.refl e103 (SL.ext O0.2) (g := (mkF m 53 #[vr b, vi (Int32.ofNat (2 * i + 1))] [(.int ((own_b1 (Int32.ofNat (cs.getD i 0))) &&& (255 : Int32))), (.int (((own_b0 (Int32.ofNat (cs.getD i 0))) &&& (255 : Int32)) <<< ((0 : Int32) &&& 31)))])) rfl (dd 19 rfl)
  refine own_go (S' := (T105.setTop (mkF m 59 #[vr b, vi (Int32.ofNat (2 * i + 1))] [(.int (((((own_b0 (Int32.ofNat (cs.getD i 0))) &&& (255 : Int32)) <<< ((0 : Int32) &&& 31)) ||| (((own_b1 (Int32.ofNat (cs.getD i 0))) &&& (255 : Int32)) <<< ((8 : Int32) &&& 31))).toUInt32.toUInt16.toUInt32.toInt32))]))) (fun tq kq => X103.baloadBytes hx (j := (Int32.ofNat (2 * i + 1))) (v := (.int (own_b1 (Int32.ofNat (cs.getD i 0))))) (by rw [e103]; exact Ar104.1) (State.isArrayOf_alike hZ.alike Ar104.2.1) Ar104.2.2 hin104 hat104 (g := (mkF m 48 #[vr b, vi (Int32.ofNat (2 * i + 1))] [(.int (Int32.ofNat (2 * i + 1))), (.ref b), (.int (((own_b0 (Int32.ofNat (cs.getD i 0))) &&& (255 : Int32)) <<< ((0 : Int32) &&& 31)))])) rfl rfl (dd 16 rfl) tq (XS.sipush X103.here hx rfl (dd 17 rfl) (XS.iand X103.here hx rfl (dd 18 rfl) rfl (st105 tq (XS.ishl X105.here hx rfl (dd 20 rfl) rfl (XS.ior X105.here hx rfl (dd 21 rfl) rfl (XS.i2c X105.here hx rfl (dd 22 rfl) rfl kq))))))) ?_
  refine own_retN X105 hx hlk hret (by simp) (dd 23 rfl) (by decide) (by decide) ?_
  exact ⟨by rw [show nar .char _ = own_gc (own_b0 (Int32.ofNat (cs.getD i 0))) (own_b1 (Int32.ofNat (cs.getD i 0))) from rfl, own_gcN (hch i)], N0, e105⟩
theorem loop58 {p : Program} {l : Launch} {e : Env} {s : State} {m : MethodId} {args : Array Value} {below : List Frame} {meth : Method} {c : Code} {Z : State} {a0 : Array Value} {h0 : Heap} {n0 : Nat} (hlk : meth.locks = false) (hret : meth.sig.returnType = some (.array .byte)) (hx : p.tables.exec = Jvm.exec) (hZ : Z.Warmed39 s.vm) (hw : ∀ d ∈ tables_1, d.before a0 Z = true) (hby : c.code = jdk_42_method_47_code) (hml : c.maxLocals = 9) (hown : s.vm.findClass "java/lang/String" = some m.cls) (hnm : meth.name = "encodeUTF8_UTF16") (b : Addr) (kb : ClassId) (ot : Addr) (ko : ClassId) (cs : List Nat) (n : Nat) (z : Int32) (HP : own_PK Z z) (hcs : cs.length = n) (hnb : n ≤ 130) (hch : ∀ j, cs.getD j 0 < 32768) (got : n0 ≤ ot) (gko : h0.size ≤ ot) (nbo : b ≠ ot) :
    ∀ (kt : Nat) (i : Nat) (D : Nat) (t6 : Slot), (i + kt = n ∧ D = (own_u8 (cs.take i)).length ∧ One t6) → ∀ {Tp : State} {locs : List Loc} {hp : Heap} (Xp : Stand p l e ({ frames := 2, cells := 2, slots := 1190, locals := 40 } : Room) s m args below meth c Tp locs 1 390) (ep : Tp.heap = hp) (Np : Fr n0 locs) (Op : Old Z n0 hp) (Kp : Keep h0 hp []) (Vb : own_Ar Z hp b kb .byte (own_wv cs)) (Vo : own_Ar Z hp ot ko .byte (own_pad (own_bv (own_u8 (cs.take i))) (3 * n) (.int 0))) (Xo : Exa Z hp ot "[B"), own_G p e s below (fun v h L => ∃ (b : Addr) (kb : ClassId), v = some (.ref b) ∧ Fr n0 L ∧ Keep h0 h [] ∧ h0.size ≤ b ∧ own_Ar Z h b kb .byte (own_bv (own_u8 cs)) ∧ Exa Z h b "[B") ({ frames := 2, cells := 2, slots := 1190, locals := 40 } : Room).cells ({ frames := 2, cells := 2, slots := 1190, locals := 40 } : Room).slots (Tp.setTop (mkF m 58 #[vr b, vi 1, vi (Int32.ofNat D), vi (Int32.ofNat i), vi (Int32.ofNat n), vr ot, t6, .unset, .unset] [])) := by
  have dd := @dq _ _ _ hby D38
  intro kt
  induction kt with
  | zero =>
    intro i D t6 hi Tp locs hp Xp ep Np Op Kp Vb Vo Xo
    obtain ⟨SC, hz, SA, SH, SL⟩ := id HP
    have hci := hch i
    have hD3 := own_D3 hi.2.1 (by omega)
    have hl1 : (own_bv (own_u8 (cs.take i))).length = D := by rw [own_bvlen]; exact hi.2.1.symm
    obtain ⟨cl101, Ar101, ln101⟩ := Vo.len
    have lq101 : cl101.slots.size.toInt32 = (Int32.ofNat (3 * n)) := ln101.trans (by rw [own_padlen (by rw [own_bvlen]; omega)])
    refine own_go (S' := (Tp.setTop (mkF m 359 #[vr b, vi 1, vi (Int32.ofNat D), vi (Int32.ofNat i), vi (Int32.ofNat n), vr ot, t6, .unset, .unset] [(.int (Int32.ofNat (3 * n))), (.int (Int32.ofNat D))]))) (fun tq kq => XS.iloadN Xp.here hx rfl (dd 0 rfl) rfl (XS.iload Xp.here hx rfl (dd 1 rfl) rfl (XS.icmpYes Xp.here hx rfl (pc0 := 61) (pc' := 355) rfl (dd 2 rfl) rfl (flt (fun q => absurd ((own_lt (by omega) (by omega)).mp q) (by omega))).2.1 (by decide) (by decide) (XS.iloadN Xp.here hx rfl (dd 3 rfl) rfl (XS.aload Xp.here hx rfl (dd 4 rfl) rfl rfl (Xp.arraylength hx (by rw [ep]; exact Ar101.1) (State.isArrayOf_alike hZ.alike Ar101.2.1) (g := (mkF m 358 #[vr b, vi 1, vi (Int32.ofNat D), vi (Int32.ofNat i), vi (Int32.ofNat n), vr ot, t6, .unset, .unset] [(.ref ot), (.int (Int32.ofNat D))])) rfl rfl (dd 5 rfl) tq (by rw [lq101]; exact kq))))))) ?_
    by_cases hful : D = (3 * n)
    · refine own_go (S' := (Tp.setTop (mkF m 364 #[vr b, vi 1, vi (Int32.ofNat D), vi (Int32.ofNat i), vi (Int32.ofNat n), vr ot, t6, .unset, .unset] [(.ref ot)]))) (fun tq kq => XS.icmpNo Xp.here hx rfl (dd 6 rfl) rfl (teq (by rw [hful])).2 (XS.aload Xp.here hx rfl (dd 7 rfl) rfl rfl kq)) ?_
      refine own_retA Xp hx hlk hret rfl rfl (dd 8 rfl) (by decide) (by decide) ?_
      rw [ep]
      have etk : cs.take i = cs := List.take_of_length_le (by omega)
      exact ⟨ot, _, rfl, Np, Kp, gko, (by have q := Vo; rw [own_padfull (by omega), etk] at q; exact q), Xo⟩
    · obtain ⟨_, _, ⟨T102, L102, k102, n102⟩, -, X102, ⟨Lc102, hQ102, l102, y102, z102⟩, st102⟩ := Jvm.LawKit.callS Xp hx (y := M6) hown (mvT hZ (ww hw 177 rfl)) (mvT hZ (ww hw 178 rfl)) (mvT hZ (ww hw 146 rfl)) (mvT hZ (ww hw 179 rfl)) (by decide) (backOf (W := 0) (rm33 l Z a0 hw [] hp n0 Op ot ko (own_pad (own_bv (own_u8 (cs.take i))) (3 * n) (.int 0)) D Vo (by rw [own_padlen (by omega)]; omega) (by rw [own_padlen (by omega)]; omega) (by omega) (own_padfit (own_bvfit (own_u8r (fun j => by rw [List.getD_eq_getElem?_getD, List.getElem?_take]; split; exact List.getD_eq_getElem?_getD ▸ hch j; exact (by decide)))))) hZ (ww hw 179 rfl) (ww hw 146 rfl) (by decide) (by decide)) (g := (mkF m 368 #[vr b, vi 1, vi (Int32.ofNat D), vi (Int32.ofNat i), vi (Int32.ofNat n), vr ot, t6, .unset, .unset] [(.int (Int32.ofNat D)), (.ref ot)])) rfl (by rw [hml]; rfl) (argsL := [(.ref ot), (.int (Int32.ofNat D))]) (rest := []) (lenOf pd_12 rfl) rfl (by show 2 * 0 + _ ≤ _; exact Nat.le_of_eq rfl) (dd 11 rfl) (fun _ _ => ⟨rfl, ep, (by decide : 1 + 1 ≤ _), (by decide : 390 + 800 ≤ _)⟩)
      dsimp only [Pt.U, Pt.locs, Pt.cells, Pt.slots] at X102 l102 y102 z102 st102 hQ102
      subst l102 y102 z102
      obtain ⟨b102, kb102, rfl, N102, K102, gb102, V102, Xb102⟩ := hQ102
      have Nf102 := Fr.app Np N102
      have O102 := Op.keep K102 all0
      have KK102 := Kp.trans K102 all0
      have gk_b102 : h0.size ≤ b102 := Nat.le_trans Kp.1 gb102
      refine own_go (S' := (T102.setTop (mkF m 371 #[vr b, vi 1, vi (Int32.ofNat D), vi (Int32.ofNat i), vi (Int32.ofNat n), vr ot, t6, .unset, .unset] [(.ref b102)]))) (fun tq kq => XS.icmpYes Xp.here hx rfl (pc0 := 359) (pc' := 365) rfl (dd 6 rfl) rfl (feq (fun q => hful ((own_eqN (by omega) (by omega)).mp q))).2 (by decide) (by decide) (XS.aload Xp.here hx rfl (dd 9 rfl) rfl rfl (XS.iloadN Xp.here hx rfl (dd 10 rfl) rfl (st102 tq kq)))) ?_
      refine own_retA X102 hx hlk hret rfl rfl (dd 12 rfl) (by decide) (by decide) ?_
      have etk : cs.take i = cs := List.take_of_length_le (by omega)
      exact ⟨b102, _, rfl, Nf102, KK102, gk_b102, (by have q := V102; rw [show D = (own_bv (own_u8 (cs.take i))).length from hl1.symm, own_padtake, etk] at q; exact q), Xb102⟩
  | succ kt ih =>
    intro i D t6 hi Tp locs hp Xp ep Np Op Kp Vb Vo Xo
    obtain ⟨SC, hz, SA, SH, SL⟩ := id HP
    have hci := hch i
    have hD3 := own_D3 hi.2.1 (by omega)
    have hl1 : (own_bv (own_u8 (cs.take i))).length = D := by rw [own_bvlen]; exact hi.2.1.symm
    obtain ⟨_, _, ⟨T101, L101, k101, n101⟩, -, X101, ⟨Lc101, hQ101, l101, y101, z101⟩, st101⟩ := Jvm.LawKit.callS Xp hx (y := M5) hown (mvT hZ (ww hw 199 rfl)) (mvT hZ (ww hw 194 rfl)) (mvT hZ (ww hw 24 rfl)) (mvT hZ (ww hw 195 rfl)) (by decide) (backOf (W := 0) (gcw l Z a0 hw [] hp n0 Op b kb i cs z HP Vb (by omega) (by omega) hch) hZ (ww hw 195 rfl) (ww hw 24 rfl) (by decide) (by decide)) (g := (mkF m 69 #[vr b, vi 1, vi (Int32.ofNat D), vi ((Int32.ofNat i) + (1 : Int32)), vi (Int32.ofNat n), vr ot, t6, .unset, .unset] [(.int (Int32.ofNat i)), (.ref b)])) rfl (by rw [hml]; rfl) (argsL := [(.ref b), (.int (Int32.ofNat i))]) (rest := []) (lenOf pd_5 rfl) rfl (by show 2 * 0 + _ ≤ _; exact Nat.le_of_eq rfl) (dd 16 rfl) (fun _ _ => ⟨rfl, ep, (by decide : 1 + 0 ≤ _), (by decide : 390 + 0 ≤ _)⟩)
    dsimp only [Pt.U, Pt.locs, Pt.cells, Pt.slots] at X101 l101 y101 z101 st101 hQ101
    subst l101 y101 z101
    obtain ⟨rfl, N101, eh101⟩ := hQ101
    have Nf101 := Fr.app Np N101
    refine own_go (S' := (T101.setTop (mkF m 76 #[vr b, vi 1, vi (Int32.ofNat D), vi ((Int32.ofNat i) + (1 : Int32)), vi (Int32.ofNat n), vr ot, vi (Int32.ofNat (cs.getD i 0)), .unset, .unset] [(.int (Int32.ofNat (cs.getD i 0)))]))) (fun tq kq => XS.iloadN Xp.here hx rfl (dd 0 rfl) rfl (XS.iload Xp.here hx rfl (dd 1 rfl) rfl (XS.icmpNo Xp.here hx rfl (dd 2 rfl) rfl (tlt ((own_lt (by omega) (by omega)).mpr (by omega))).2.1 (XS.aloadN Xp.here hx rfl (dd 13 rfl) rfl rfl (XS.iloadN Xp.here hx rfl (dd 14 rfl) rfl (XS.iinc Xp.here hx rfl (dd 15 rfl) rfl (l' := #[vr b, vi 1, vi (Int32.ofNat D), vi ((Int32.ofNat i) + (1 : Int32)), vi (Int32.ofNat n), vr ot, t6, .unset, .unset]) rfl (st101 tq (XS.istoreS X101.here hx rfl (dd 17 rfl) rfl rfl hi.2.2 (XS.iload X101.here hx rfl (dd 18 rfl) rfl kq))))))))) ?_
    by_cases hc1 : cs.getD i 0 < 128
    · have hz1 : ((Int32.ofNat (cs.getD i 0)).toInt8.toInt32).toInt8.toInt32 = Int32.ofInt (cs.getD i 0 : Nat) := own_lbE1 hc1
      obtain ⟨cl102, Ar102, qa102, sa102, hin102, -⟩ := Vo.at (j := (Int32.ofNat D)) (own_pos (by omega)) (by rw [own_clamp (by omega), ← hl1]; exact own_padat (by omega))
      obtain ⟨T102, h102, X102, e102, W102, st102⟩ := stB X101 hx hZ eh101 Ar102 (j := (Int32.ofNat D)) hin102 (g := (mkF m 91 #[vr b, vi 1, vi ((Int32.ofNat D) + (1 : Int32)), vi ((Int32.ofNat i) + (1 : Int32)), vi (Int32.ofNat n), vr ot, vi (Int32.ofNat (cs.getD i 0)), .unset, .unset] [(.int ((Int32.ofNat (cs.getD i 0)).toInt8.toInt32)), (.int (Int32.ofNat D)), (.ref ot)])) rfl rfl (dd 26 rfl)
      have N102 := Fr.snoc X102 Nf101 got
      have O102 := Op.wr W102 got
      have K102 := Kp.wr W102 (Or.inr gko)
      have V102 : own_Ar Z h102 ot ko .byte (own_pad ((own_bv (own_u8 (cs.take i))) ++ [.int (Int32.ofInt (cs.getD i 0 : Nat))]) (3 * n) (.int 0)) := (by have q := (own_Ar.set Ar102 qa102 sa102 Vo.small W102); rw [own_clamp (by omega), ← hl1, own_padset (by omega), show nar .byte ((Int32.ofNat (cs.getD i 0)).toInt8.toInt32) = Int32.ofInt (cs.getD i 0 : Nat) from hz1] at q; exact q)
      refine own_go (S' := (T102.setTop (mkF m 58 #[vr b, vi 1, vi ((Int32.ofNat D) + (1 : Int32)), vi ((Int32.ofNat i) + (1 : Int32)), vi (Int32.ofNat n), vr ot, vi (Int32.ofNat (cs.getD i 0)), .unset, .unset] []))) (fun tq kq => XS.sipush X101.here hx rfl (dd 19 rfl) (XS.icmpNo X101.here hx rfl (dd 20 rfl) rfl (tlt ((own_lt (b := 128) (by omega) (by decide)).mpr hc1)).2.1 (XS.aload X101.here hx rfl (dd 21 rfl) rfl rfl (XS.iloadN X101.here hx rfl (dd 22 rfl) rfl (XS.iinc X101.here hx rfl (dd 23 rfl) rfl (l' := #[vr b, vi 1, vi ((Int32.ofNat D) + (1 : Int32)), vi ((Int32.ofNat i) + (1 : Int32)), vi (Int32.ofNat n), vr ot, vi (Int32.ofNat (cs.getD i 0)), .unset, .unset]) rfl (XS.iload X101.here hx rfl (dd 24 rfl) rfl (XS.i2b X101.here hx rfl (dd 25 rfl) rfl (st102 tq (XS.goto X102.here hx rfl (pc0 := 92) (pc' := 352) rfl (dd 27 rfl) (by decide) (by decide) (XS.goto X102.here hx rfl (pc0 := 352) (pc' := 58) rfl (dd 28 rfl) (by decide) (by decide) kq)))))))))) ?_
      rw [own_succ (D)]
      rw [own_succ i]
      have f103 := (Vb.other W102 nbo)
      have f104 := (Xo.wr W102)
      exact ih (i + 1) (D + 1) _ ⟨by omega, own_DS (D := D) (k := 1) hi.2.1 (by omega) (congrArg List.length (own_ui1 hc1)), One.val rfl⟩ X102 e102 N102 O102 K102 f103 (own_bvS1 (by omega) hc1 ▸ V102) f104
    · refine own_go (S' := (T101.setTop (mkF m 97 #[vr b, vi 1, vi (Int32.ofNat D), vi ((Int32.ofNat i) + (1 : Int32)), vi (Int32.ofNat n), vr ot, vi (Int32.ofNat (cs.getD i 0)), .unset, .unset] [(.int (Int32.ofNat (cs.getD i 0)))]))) (fun tq kq => XS.sipush X101.here hx rfl (dd 19 rfl) (XS.icmpYes X101.here hx rfl (pc0 := 79) (pc' := 95) rfl (dd 20 rfl) rfl (flt (fun q => hc1 ((own_lt (b := 128) (by omega) (by decide)).mp q))).2.1 (by decide) (by decide) (XS.iload X101.here hx rfl (dd 29 rfl) rfl kq))) ?_
      by_cases hc2 : cs.getD i 0 < 2048
      · have hl2 : ((own_bv (own_u8 (cs.take i))) ++ [Value.int (Int32.ofInt ((cs.getD i 0 / 64 : Nat) - 64 : Int))]).length = D + 1 := by rw [List.length_append, hl1]; rfl
        have hz1 : (((192 : Int32) ||| ((Int32.ofNat (cs.getD i 0)) >>> ((6 : Int32) &&& 31))).toInt8.toInt32).toInt8.toInt32 = Int32.ofInt ((cs.getD i 0 / 64 : Nat) - 64 : Int) := own_x2aE hc2
        have hz2 : (((128 : Int32) ||| ((Int32.ofNat (cs.getD i 0)) &&& (63 : Int32))).toInt8.toInt32).toInt8.toInt32 = Int32.ofInt ((cs.getD i 0 % 64 : Nat) - 128 : Int) := own_x2bE _ (by omega)
        obtain ⟨cl105, Ar105, qa105, sa105, hin105, -⟩ := Vo.at (j := (Int32.ofNat D)) (own_pos (by omega)) (by rw [own_clamp (by omega), ← hl1]; exact own_padat (by omega))
        obtain ⟨T105, h105, X105, e105, W105, st105⟩ := stB X101 hx hZ eh101 Ar105 (j := (Int32.ofNat D)) hin105 (g := (mkF m 119 #[vr b, vi 1, vi ((Int32.ofNat D) + (1 : Int32)), vi ((Int32.ofNat i) + (1 : Int32)), vi (Int32.ofNat n), vr ot, vi (Int32.ofNat (cs.getD i 0)), .unset, .unset] [(.int (((192 : Int32) ||| ((Int32.ofNat (cs.getD i 0)) >>> ((6 : Int32) &&& 31))).toInt8.toInt32)), (.int (Int32.ofNat D)), (.ref ot)])) rfl rfl (dd 41 rfl)
        have N105 := Fr.snoc X105 Nf101 got
        have O105 := Op.wr W105 got
        have K105 := Kp.wr W105 (Or.inr gko)
        have V105 : own_Ar Z h105 ot ko .byte (own_pad ((own_bv (own_u8 (cs.take i))) ++ [.int (Int32.ofInt ((cs.getD i 0 / 64 : Nat) - 64 : Int))]) (3 * n) (.int 0)) := (by have q := (own_Ar.set Ar105 qa105 sa105 Vo.small W105); rw [own_clamp (by omega), ← hl1, own_padset (by omega), show nar .byte (((192 : Int32) ||| ((Int32.ofNat (cs.getD i 0)) >>> ((6 : Int32) &&& 31))).toInt8.toInt32) = Int32.ofInt ((cs.getD i 0 / 64 : Nat) - 64 : Int) from hz1] at q; exact q)
        refine own_go (S' := (T105.setTop (mkF m 120 #[vr b, vi 1, vi ((Int32.ofNat D) + (1 : Int32)), vi ((Int32.ofNat i) + (1 : Int32)), vi (Int32.ofNat n), vr ot, vi (Int32.ofNat (cs.getD i 0)), .unset, .unset] []))) (fun tq kq => XS.sipush X101.here hx rfl (dd 30 rfl) (XS.icmpNo X101.here hx rfl (dd 31 rfl) rfl (tlt ((own_lt (b := 2048) (by omega) (by decide)).mpr hc2)).2.1 (XS.aload X101.here hx rfl (dd 32 rfl) rfl rfl (XS.iloadN X101.here hx rfl (dd 33 rfl) rfl (XS.iinc X101.here hx rfl (dd 34 rfl) rfl (l' := #[vr b, vi 1, vi ((Int32.ofNat D) + (1 : Int32)), vi ((Int32.ofNat i) + (1 : Int32)), vi (Int32.ofNat n), vr ot, vi (Int32.ofNat (cs.getD i 0)), .unset, .unset]) rfl (XS.sipush X101.here hx rfl (dd 35 rfl) (XS.iload X101.here hx rfl (dd 36 rfl) rfl (XS.bipush X101.here hx rfl (dd 37 rfl) (XS.ishr X101.here hx rfl (dd 38 rfl) rfl (XS.ior X101.here hx rfl (dd 39 rfl) rfl (XS.i2b X101.here hx rfl (dd 40 rfl) rfl (st105 tq kq)))))))))))) ?_
        rw [own_succ (D)]
        obtain ⟨cl106, Ar106, qa106, sa106, hin106, -⟩ := V105.at (j := (Int32.ofNat (D + 1))) (own_pos (by omega)) (by rw [own_clamp (by omega), ← hl2]; exact own_padat (by omega))
        obtain ⟨T106, h106, X106, e106, W106, st106⟩ := stB X105 hx hZ e105 Ar106 (j := (Int32.ofNat (D + 1))) hin106 (g := (mkF m 136 #[vr b, vi 1, vi ((Int32.ofNat (D + 1)) + (1 : Int32)), vi ((Int32.ofNat i) + (1 : Int32)), vi (Int32.ofNat n), vr ot, vi (Int32.ofNat (cs.getD i 0)), .unset, .unset] [(.int (((128 : Int32) ||| ((Int32.ofNat (cs.getD i 0)) &&& (63 : Int32))).toInt8.toInt32)), (.int (Int32.ofNat (D + 1))), (.ref ot)])) rfl rfl (dd 51 rfl)
        have N106 := Fr.snoc X106 N105 got
        have O106 := O105.wr W106 got
        have K106 := K105.wr W106 (Or.inr gko)
        have V106 : own_Ar Z h106 ot ko .byte (own_pad (((own_bv (own_u8 (cs.take i))) ++ [Value.int (Int32.ofInt ((cs.getD i 0 / 64 : Nat) - 64 : Int))]) ++ [.int (Int32.ofInt ((cs.getD i 0 % 64 : Nat) - 128 : Int))]) (3 * n) (.int 0)) := (by have q := (own_Ar.set Ar106 qa106 sa106 V105.small W106); rw [own_clamp (by omega), ← hl2, own_padset (by omega), show nar .byte (((128 : Int32) ||| ((Int32.ofNat (cs.getD i 0)) &&& (63 : Int32))).toInt8.toInt32) = Int32.ofInt ((cs.getD i 0 % 64 : Nat) - 128 : Int) from hz2] at q; exact q)
        refine own_go (S' := (T106.setTop (mkF m 58 #[vr b, vi 1, vi ((Int32.ofNat (D + 1)) + (1 : Int32)), vi ((Int32.ofNat i) + (1 : Int32)), vi (Int32.ofNat n), vr ot, vi (Int32.ofNat (cs.getD i 0)), .unset, .unset] []))) (fun tq kq => XS.aload X105.here hx rfl (dd 42 rfl) rfl rfl (XS.iloadN X105.here hx rfl (dd 43 rfl) rfl (XS.iinc X105.here hx rfl (dd 44 rfl) rfl (l' := #[vr b, vi 1, vi ((Int32.ofNat (D + 1)) + (1 : Int32)), vi ((Int32.ofNat i) + (1 : Int32)), vi (Int32.ofNat n), vr ot, vi (Int32.ofNat (cs.getD i 0)), .unset, .unset]) rfl (XS.sipush X105.here hx rfl (dd 45 rfl) (XS.iload X105.here hx rfl (dd 46 rfl) rfl (XS.bipush X105.here hx rfl (dd 47 rfl) (XS.iand X105.here hx rfl (dd 48 rfl) rfl (XS.ior X105.here hx rfl (dd 49 rfl) rfl (XS.i2b X105.here hx rfl (dd 50 rfl) rfl (st106 tq (XS.goto X106.here hx rfl (pc0 := 137) (pc' := 352) rfl (dd 52 rfl) (by decide) (by decide) (XS.goto X106.here hx rfl (pc0 := 352) (pc' := 58) rfl (dd 28 rfl) (by decide) (by decide) kq)))))))))))) ?_
        rw [own_succ (D + 1)]
        rw [own_succ i]
        have f107 := ((Vb.other W105 nbo).other W106 nbo)
        have f108 := ((Xo.wr W105).wr W106)
        exact ih (i + 1) (D + 1 + 1) _ ⟨by omega, own_DS (D := D) (k := 2) hi.2.1 (by omega) (congrArg List.length (own_ui2 hc1 hc2)), One.val rfl⟩ X106 e106 N106 O106 K106 f107 (own_bvS2 (by omega) hc1 hc2 ▸ V106) f108
      · obtain ⟨_, _, ⟨T109, L109, k109, n109⟩, -, X109, ⟨Lc109, hQ109, l109, y109, z109⟩, st109⟩ := Jvm.LawKit.callS X101 hx (y := M17) hown (mvT hZ (ww hw 200 rfl)) (mvT hZ (ww hw 201 rfl)) (mvT hZ (ww hw 202 rfl)) (mvT hZ (ww hw 203 rfl)) (by decide) (backOf (W := 0) (rm39 l Z a0 hw [] hp n0 Op (cs.getD i 0) hci) hZ (ww hw 203 rfl) (ww hw 202 rfl) (by decide) (by decide)) (g := (mkF m 142 #[vr b, vi 1, vi (Int32.ofNat D), vi ((Int32.ofNat i) + (1 : Int32)), vi (Int32.ofNat n), vr ot, vi (Int32.ofNat (cs.getD i 0)), .unset, .unset] [(.int (Int32.ofNat (cs.getD i 0)))])) rfl (by rw [hml]; rfl) (argsL := [(.int (Int32.ofNat (cs.getD i 0)))]) (rest := []) (lenOf pd_13 rfl) rfl (by show 2 * 0 + _ ≤ _; exact Nat.le_of_eq rfl) (dd 54 rfl) (fun _ _ => ⟨rfl, eh101, (by decide : 1 + 0 ≤ _), (by decide : 390 + 0 ≤ _)⟩)
        dsimp only [Pt.U, Pt.locs, Pt.cells, Pt.slots] at X109 l109 y109 z109 st109 hQ109
        subst l109 y109 z109
        obtain ⟨rfl, N109, eh109⟩ := hQ109
        have Nf109 := Fr.app Nf101 N109
        have hl2 : ((own_bv (own_u8 (cs.take i))) ++ [Value.int (Int32.ofInt ((cs.getD i 0 / 4096 : Nat) - 32 : Int))]).length = D + 1 := by rw [List.length_append, hl1]; rfl
        have hl3 : ((own_bv (own_u8 (cs.take i))) ++ [Value.int (Int32.ofInt ((cs.getD i 0 / 4096 : Nat) - 32 : Int))] ++ [Value.int (Int32.ofInt ((cs.getD i 0 / 64 % 64 : Nat) - 128 : Int))]).length = D + 1 + 1 := by rw [List.length_append, hl2]; rfl
        have hz1 : (((224 : Int32) ||| ((Int32.ofNat (cs.getD i 0)) >>> ((12 : Int32) &&& 31))).toInt8.toInt32).toInt8.toInt32 = Int32.ofInt ((cs.getD i 0 / 4096 : Nat) - 32 : Int) := own_x3aE hci
        have hz2 : (((128 : Int32) ||| (((Int32.ofNat (cs.getD i 0)) >>> ((6 : Int32) &&& 31)) &&& (63 : Int32))).toInt8.toInt32).toInt8.toInt32 = Int32.ofInt ((cs.getD i 0 / 64 % 64 : Nat) - 128 : Int) := own_x3bE hci
        have hz3 : (((128 : Int32) ||| ((Int32.ofNat (cs.getD i 0)) &&& (63 : Int32))).toInt8.toInt32).toInt8.toInt32 = Int32.ofInt ((cs.getD i 0 % 64 : Nat) - 128 : Int) := own_x2bE _ (by omega)
        obtain ⟨cl110, Ar110, qa110, sa110, hin110, -⟩ := Vo.at (j := (Int32.ofNat D)) (own_pos (by omega)) (by rw [own_clamp (by omega), ← hl1]; exact own_padat (by omega))
        obtain ⟨T110, h110, X110, e110, W110, st110⟩ := stB X109 hx hZ eh109 Ar110 (j := (Int32.ofNat D)) hin110 (g := (mkF m 314 #[vr b, vi 1, vi ((Int32.ofNat D) + (1 : Int32)), vi ((Int32.ofNat i) + (1 : Int32)), vi (Int32.ofNat n), vr ot, vi (Int32.ofNat (cs.getD i 0)), .unset, .unset] [(.int (((224 : Int32) ||| ((Int32.ofNat (cs.getD i 0)) >>> ((12 : Int32) &&& 31))).toInt8.toInt32)), (.int (Int32.ofNat D)), (.ref ot)])) rfl rfl (dd 65 rfl)
        have N110 := Fr.snoc X110 Nf109 got
        have O110 := Op.wr W110 got
        have K110 := Kp.wr W110 (Or.inr gko)
        have V110 : own_Ar Z h110 ot ko .byte (own_pad ((own_bv (own_u8 (cs.take i))) ++ [.int (Int32.ofInt ((cs.getD i 0 / 4096 : Nat) - 32 : Int))]) (3 * n) (.int 0)) := (by have q := (own_Ar.set Ar110 qa110 sa110 Vo.small W110); rw [own_clamp (by omega), ← hl1, own_padset (by omega), show nar .byte (((224 : Int32) ||| ((Int32.ofNat (cs.getD i 0)) >>> ((12 : Int32) &&& 31))).toInt8.toInt32) = Int32.ofInt ((cs.getD i 0 / 4096 : Nat) - 32 : Int) from hz1] at q; exact q)
        refine own_go (S' := (T110.setTop (mkF m 315 #[vr b, vi 1, vi ((Int32.ofNat D) + (1 : Int32)), vi ((Int32.ofNat i) + (1 : Int32)), vi (Int32.ofNat n), vr ot, vi (Int32.ofNat (cs.getD i 0)), .unset, .unset] []))) (fun tq kq => XS.sipush X101.here hx rfl (dd 30 rfl) (XS.icmpYes X101.here hx rfl (pc0 := 100) (pc' := 140) rfl (dd 31 rfl) rfl (flt (fun q => hc2 ((own_lt (b := 2048) (by omega) (by decide)).mp q))).2.1 (by decide) (by decide) (XS.iload X101.here hx rfl (dd 53 rfl) rfl (st109 tq (XS.ifYes X109.here hx rfl (pc0 := 145) (pc' := 298) rfl (dd 55 rfl) rfl ((if0 _ _).trans (teq (by decide : (0 : Int32) = (0 : Int32))).1) (by decide) (by decide) (XS.aload X109.here hx rfl (dd 56 rfl) rfl rfl (XS.iloadN X109.here hx rfl (dd 57 rfl) rfl (XS.iinc X109.here hx rfl (dd 58 rfl) rfl (l' := #[vr b, vi 1, vi ((Int32.ofNat D) + (1 : Int32)), vi ((Int32.ofNat i) + (1 : Int32)), vi (Int32.ofNat n), vr ot, vi (Int32.ofNat (cs.getD i 0)), .unset, .unset]) rfl (XS.sipush X109.here hx rfl (dd 59 rfl) (XS.iload X109.here hx rfl (dd 60 rfl) rfl (XS.bipush X109.here hx rfl (dd 61 rfl) (XS.ishr X109.here hx rfl (dd 62 rfl) rfl (XS.ior X109.here hx rfl (dd 63 rfl) rfl (XS.i2b X109.here hx rfl (dd 64 rfl) rfl (st110 tq kq))))))))))))))) ?_
        rw [own_succ (D)]
        obtain ⟨cl111, Ar111, qa111, sa111, hin111, -⟩ := V110.at (j := (Int32.ofNat (D + 1))) (own_pos (by omega)) (by rw [own_clamp (by omega), ← hl2]; exact own_padat (by omega))
        obtain ⟨T111, h111, X111, e111, W111, st111⟩ := stB X110 hx hZ e110 Ar111 (j := (Int32.ofNat (D + 1))) hin111 (g := (mkF m 334 #[vr b, vi 1, vi ((Int32.ofNat (D + 1)) + (1 : Int32)), vi ((Int32.ofNat i) + (1 : Int32)), vi (Int32.ofNat n), vr ot, vi (Int32.ofNat (cs.getD i 0)), .unset, .unset] [(.int (((128 : Int32) ||| (((Int32.ofNat (cs.getD i 0)) >>> ((6 : Int32) &&& 31)) &&& (63 : Int32))).toInt8.toInt32)), (.int (Int32.ofNat (D + 1))), (.ref ot)])) rfl rfl (dd 77 rfl)
        have N111 := Fr.snoc X111 N110 got
        have O111 := O110.wr W111 got
        have K111 := K110.wr W111 (Or.inr gko)
        have V111 : own_Ar Z h111 ot ko .byte (own_pad (((own_bv (own_u8 (cs.take i))) ++ [Value.int (Int32.ofInt ((cs.getD i 0 / 4096 : Nat) - 32 : Int))]) ++ [.int (Int32.ofInt ((cs.getD i 0 / 64 % 64 : Nat) - 128 : Int))]) (3 * n) (.int 0)) := (by have q := (own_Ar.set Ar111 qa111 sa111 V110.small W111); rw [own_clamp (by omega), ← hl2, own_padset (by omega), show nar .byte (((128 : Int32) ||| (((Int32.ofNat (cs.getD i 0)) >>> ((6 : Int32) &&& 31)) &&& (63 : Int32))).toInt8.toInt32) = Int32.ofInt ((cs.getD i 0 / 64 % 64 : Nat) - 128 : Int) from hz2] at q; exact q)
        refine own_go (S' := (T111.setTop (mkF m 335 #[vr b, vi 1, vi ((Int32.ofNat (D + 1)) + (1 : Int32)), vi ((Int32.ofNat i) + (1 : Int32)), vi (Int32.ofNat n), vr ot, vi (Int32.ofNat (cs.getD i 0)), .unset, .unset] []))) (fun tq kq => XS.aload X110.here hx rfl (dd 66 rfl) rfl rfl (XS.iloadN X110.here hx rfl (dd 67 rfl) rfl (XS.iinc X110.here hx rfl (dd 68 rfl) rfl (l' := #[vr b, vi 1, vi ((Int32.ofNat (D + 1)) + (1 : Int32)), vi ((Int32.ofNat i) + (1 : Int32)), vi (Int32.ofNat n), vr ot, vi (Int32.ofNat (cs.getD i 0)), .unset, .unset]) rfl (XS.sipush X110.here hx rfl (dd 69 rfl) (XS.iload X110.here hx rfl (dd 70 rfl) rfl (XS.bipush X110.here hx rfl (dd 71 rfl) (XS.ishr X110.here hx rfl (dd 72 rfl) rfl (XS.bipush X110.here hx rfl (dd 73 rfl) (XS.iand X110.here hx rfl (dd 74 rfl) rfl (XS.ior X110.here hx rfl (dd 75 rfl) rfl (XS.i2b X110.here hx rfl (dd 76 rfl) rfl (st111 tq kq)))))))))))) ?_
        rw [own_succ (D + 1)]
        obtain ⟨cl112, Ar112, qa112, sa112, hin112, -⟩ := V111.at (j := (Int32.ofNat (D + 1 + 1))) (own_pos (by omega)) (by rw [own_clamp (by omega), ← hl3]; exact own_padat (by omega))
        obtain ⟨T112, h112, X112, e112, W112, st112⟩ := stB X111 hx hZ e111 Ar112 (j := (Int32.ofNat (D + 1 + 1))) hin112 (g := (mkF m 351 #[vr b, vi 1, vi ((Int32.ofNat (D + 1 + 1)) + (1 : Int32)), vi ((Int32.ofNat i) + (1 : Int32)), vi (Int32.ofNat n), vr ot, vi (Int32.ofNat (cs.getD i 0)), .unset, .unset] [(.int (((128 : Int32) ||| ((Int32.ofNat (cs.getD i 0)) &&& (63 : Int32))).toInt8.toInt32)), (.int (Int32.ofNat (D + 1 + 1))), (.ref ot)])) rfl rfl (dd 87 rfl)
        have N112 := Fr.snoc X112 N111 got
        have O112 := O111.wr W112 got
        have K112 := K111.wr W112 (Or.inr gko)
        have V112 : own_Ar Z h112 ot ko .byte (own_pad (((own_bv (own_u8 (cs.take i))) ++ [Value.int (Int32.ofInt ((cs.getD i 0 / 4096 : Nat) - 32 : Int))] ++ [Value.int (Int32.ofInt ((cs.getD i 0 / 64 % 64 : Nat) - 128 : Int))]) ++ [.int (Int32.ofInt ((cs.getD i 0 % 64 : Nat) - 128 : Int))]) (3 * n) (.int 0)) := (by have q := (own_Ar.set Ar112 qa112 sa112 V111.small W112); rw [own_clamp (by omega), ← hl3, own_padset (by omega), show nar .byte (((128 : Int32) ||| ((Int32.ofNat (cs.getD i 0)) &&& (63 : Int32))).toInt8.toInt32) = Int32.ofInt ((cs.getD i 0 % 64 : Nat) - 128 : Int) from hz3] at q; exact q)
        refine own_go (S' := (T112.setTop (mkF m 58 #[vr b, vi 1, vi ((Int32.ofNat (D + 1 + 1)) + (1 : Int32)), vi ((Int32.ofNat i) + (1 : Int32)), vi (Int32.ofNat n), vr ot, vi (Int32.ofNat (cs.getD i 0)), .unset, .unset] []))) (fun tq kq => XS.aload X111.here hx rfl (dd 78 rfl) rfl rfl (XS.iloadN X111.here hx rfl (dd 79 rfl) rfl (XS.iinc X111.here hx rfl (dd 80 rfl) rfl (l' := #[vr b, vi 1, vi ((Int32.ofNat (D + 1 + 1)) + (1 : Int32)), vi ((Int32.ofNat i) + (1 : Int32)), vi (Int32.ofNat n), vr ot, vi (Int32.ofNat (cs.getD i 0)), .unset, .unset]) rfl (XS.sipush X111.here hx rfl (dd 81 rfl) (XS.iload X111.here hx rfl (dd 82 rfl) rfl (XS.bipush X111.here hx rfl (dd 83 rfl) (XS.iand X111.here hx rfl (dd 84 rfl) rfl (XS.ior X111.here hx rfl (dd 85 rfl) rfl (XS.i2b X111.here hx rfl (dd 86 rfl) rfl (st112 tq (XS.goto X112.here hx rfl (pc0 := 352) (pc' := 58) rfl (dd 28 rfl) (by decide) (by decide) kq))))))))))) ?_
        rw [own_succ (D + 1 + 1)]
        rw [own_succ i]
        have f113 := (((Vb.other W110 nbo).other W111 nbo).other W112 nbo)
        have f114 := (((Xo.wr W110).wr W111).wr W112)
        exact ih (i + 1) (D + 1 + 1 + 1) _ ⟨by omega, own_DS (D := D) (k := 3) hi.2.1 (by omega) (congrArg List.length (own_ui3 hc2)), One.val rfl⟩ X112 e112 N112 O112 K112 f113 (own_bvS3 (by omega) hc2 ▸ V112) f114
theorem loop18 {p : Program} {l : Launch} {e : Env} {s : State} {m : MethodId} {args : Array Value} {below : List Frame} {meth : Method} {c : Code} {Z : State} {a0 : Array Value} {h0 : Heap} {n0 : Nat} (hlk : meth.locks = false) (hret : meth.sig.returnType = some (.array .byte)) (hx : p.tables.exec = Jvm.exec) (hZ : Z.Warmed39 s.vm) (hw : ∀ d ∈ tables_1, d.before a0 Z = true) (hby : c.code = jdk_42_method_47_code) (hml : c.maxLocals = 9) (hown : s.vm.findClass "java/lang/String" = some m.cls) (hnm : meth.name = "encodeUTF8_UTF16") (b : Addr) (kb : ClassId) (ot : Addr) (ko : ClassId) (cs : List Nat) (n : Nat) (z : Int32) (HP : own_PK Z z) (hcs : cs.length = n) (hnb : n ≤ 130) (hch : ∀ j, cs.getD j 0 < 32768) (got : n0 ≤ ot) (gko : h0.size ≤ ot) (nbo : b ≠ ot) :
    ∀ (kt : Nat) (i : Nat) (D : Nat) (t6 : Slot), (i + kt = n ∧ D = (own_u8 (cs.take i)).length ∧ One t6) → ∀ {Tp : State} {locs : List Loc} {hp : Heap} (Xp : Stand p l e ({ frames := 2, cells := 2, slots := 1190, locals := 40 } : Room) s m args below meth c Tp locs 1 390) (ep : Tp.heap = hp) (Np : Fr n0 locs) (Op : Old Z n0 hp) (Kp : Keep h0 hp []) (Vb : own_Ar Z hp b kb .byte (own_wv cs)) (Vo : own_Ar Z hp ot ko .byte (own_pad (own_bv (own_u8 (cs.take i))) (3 * n) (.int 0))) (Xo : Exa Z hp ot "[B"), own_G p e s below (fun v h L => ∃ (b : Addr) (kb : ClassId), v = some (.ref b) ∧ Fr n0 L ∧ Keep h0 h [] ∧ h0.size ≤ b ∧ own_Ar Z h b kb .byte (own_bv (own_u8 cs)) ∧ Exa Z h b "[B") ({ frames := 2, cells := 2, slots := 1190, locals := 40 } : Room).cells ({ frames := 2, cells := 2, slots := 1190, locals := 40 } : Room).slots (Tp.setTop (mkF m 18 #[vr b, vi 1, vi (Int32.ofNat D), vi (Int32.ofNat i), vi (Int32.ofNat n), vr ot, t6, .unset, .unset] [])) := by
  have dd := @dq _ _ _ hby D38
  intro kt
  induction kt with
  | zero =>
    intro i D t6 hi Tp locs hp Xp ep Np Op Kp Vb Vo Xo
    obtain ⟨SC, hz, SA, SH, SL⟩ := id HP
    have hci := hch i
    have hD3 := own_D3 hi.2.1 (by omega)
    have hl1 : (own_bv (own_u8 (cs.take i))).length = D := by rw [own_bvlen]; exact hi.2.1.symm
    refine own_go (S' := (Tp.setTop (mkF m 58 #[vr b, vi 1, vi (Int32.ofNat D), vi (Int32.ofNat i), vi (Int32.ofNat n), vr ot, t6, .unset, .unset] []))) (fun tq kq => XS.iloadN Xp.here hx rfl (dd 88 rfl) rfl (XS.iload Xp.here hx rfl (dd 89 rfl) rfl (XS.icmpYes Xp.here hx rfl (pc0 := 21) (pc' := 58) rfl (dd 90 rfl) rfl (flt (fun q => absurd ((own_lt (by omega) (by omega)).mp q) (by omega))).2.1 (by decide) (by decide) kq))) ?_
    exact loop58 hlk hret hx hZ hw hby hml hown hnm b kb ot ko cs n z HP hcs hnb hch got gko nbo (0) (i) D _ ⟨by omega, hi.2.1, hi.2.2⟩ Xp ep Np Op Kp Vb Vo Xo
  | succ kt ih =>
    intro i D t6 hi Tp locs hp Xp ep Np Op Kp Vb Vo Xo
    obtain ⟨SC, hz, SA, SH, SL⟩ := id HP
    have hci := hch i
    have hD3 := own_D3 hi.2.1 (by omega)
    have hl1 : (own_bv (own_u8 (cs.take i))).length = D := by rw [own_bvlen]; exact hi.2.1.symm
    obtain ⟨_, _, ⟨T101, L101, k101, n101⟩, -, X101, ⟨Lc101, hQ101, l101, y101, z101⟩, st101⟩ := Jvm.LawKit.callS Xp hx (y := M5) hown (mvT hZ (ww hw 199 rfl)) (mvT hZ (ww hw 194 rfl)) (mvT hZ (ww hw 24 rfl)) (mvT hZ (ww hw 195 rfl)) (by decide) (backOf (W := 0) (gcw l Z a0 hw [] hp n0 Op b kb i cs z HP Vb (by omega) (by omega) hch) hZ (ww hw 195 rfl) (ww hw 24 rfl) (by decide) (by decide)) (g := (mkF m 26 #[vr b, vi 1, vi (Int32.ofNat D), vi (Int32.ofNat i), vi (Int32.ofNat n), vr ot, t6, .unset, .unset] [(.int (Int32.ofNat i)), (.ref b)])) rfl (by rw [hml]; rfl) (argsL := [(.ref b), (.int (Int32.ofNat i))]) (rest := []) (lenOf pd_5 rfl) rfl (by show 2 * 0 + _ ≤ _; exact Nat.le_of_eq rfl) (dd 93 rfl) (fun _ _ => ⟨rfl, ep, (by decide : 1 + 0 ≤ _), (by decide : 390 + 0 ≤ _)⟩)
    dsimp only [Pt.U, Pt.locs, Pt.cells, Pt.slots] at X101 l101 y101 z101 st101 hQ101
    subst l101 y101 z101
    obtain ⟨rfl, N101, eh101⟩ := hQ101
    have Nf101 := Fr.app Np N101
    refine own_go (S' := (T101.setTop (mkF m 33 #[vr b, vi 1, vi (Int32.ofNat D), vi (Int32.ofNat i), vi (Int32.ofNat n), vr ot, vi (Int32.ofNat (cs.getD i 0)), .unset, .unset] [(.int (Int32.ofNat (cs.getD i 0)))]))) (fun tq kq => XS.iloadN Xp.here hx rfl (dd 88 rfl) rfl (XS.iload Xp.here hx rfl (dd 89 rfl) rfl (XS.icmpNo Xp.here hx rfl (dd 90 rfl) rfl (tlt ((own_lt (by omega) (by omega)).mpr (by omega))).2.1 (XS.aloadN Xp.here hx rfl (dd 91 rfl) rfl rfl (XS.iloadN Xp.here hx rfl (dd 92 rfl) rfl (st101 tq (XS.istoreS X101.here hx rfl (dd 94 rfl) rfl rfl hi.2.2 (XS.iload X101.here hx rfl (dd 95 rfl) rfl kq)))))))) ?_
    by_cases hc1 : cs.getD i 0 < 128
    · have hz1 : ((Int32.ofNat (cs.getD i 0)).toInt8.toInt32).toInt8.toInt32 = Int32.ofInt (cs.getD i 0 : Nat) := own_lbE1 hc1
      obtain ⟨cl102, Ar102, qa102, sa102, hin102, -⟩ := Vo.at (j := (Int32.ofNat D)) (own_pos (by omega)) (by rw [own_clamp (by omega), ← hl1]; exact own_padat (by omega))
      obtain ⟨T102, h102, X102, e102, W102, st102⟩ := stB X101 hx hZ eh101 Ar102 (j := (Int32.ofNat D)) hin102 (g := (mkF m 51 #[vr b, vi 1, vi ((Int32.ofNat D) + (1 : Int32)), vi (Int32.ofNat i), vi (Int32.ofNat n), vr ot, vi (Int32.ofNat (cs.getD i 0)), .unset, .unset] [(.int ((Int32.ofNat (cs.getD i 0)).toInt8.toInt32)), (.int (Int32.ofNat D)), (.ref ot)])) rfl rfl (dd 103 rfl)
      have N102 := Fr.snoc X102 Nf101 got
      have O102 := Op.wr W102 got
      have K102 := Kp.wr W102 (Or.inr gko)
      have V102 : own_Ar Z h102 ot ko .byte (own_pad ((own_bv (own_u8 (cs.take i))) ++ [.int (Int32.ofInt (cs.getD i 0 : Nat))]) (3 * n) (.int 0)) := (by have q := (own_Ar.set Ar102 qa102 sa102 Vo.small W102); rw [own_clamp (by omega), ← hl1, own_padset (by omega), show nar .byte ((Int32.ofNat (cs.getD i 0)).toInt8.toInt32) = Int32.ofInt (cs.getD i 0 : Nat) from hz1] at q; exact q)
      refine own_go (S' := (T102.setTop (mkF m 18 #[vr b, vi 1, vi ((Int32.ofNat D) + (1 : Int32)), vi ((Int32.ofNat i) + (1 : Int32)), vi (Int32.ofNat n), vr ot, vi (Int32.ofNat (cs.getD i 0)), .unset, .unset] []))) (fun tq kq => XS.sipush X101.here hx rfl (dd 96 rfl) (XS.icmpYes X101.here hx rfl (pc0 := 36) (pc' := 42) rfl (dd 97 rfl) rfl (tlt ((own_lt (b := 128) (by omega) (by decide)).mpr hc1)).1 (by decide) (by decide) (XS.aload X101.here hx rfl (dd 98 rfl) rfl rfl (XS.iloadN X101.here hx rfl (dd 99 rfl) rfl (XS.iinc X101.here hx rfl (dd 100 rfl) rfl (l' := #[vr b, vi 1, vi ((Int32.ofNat D) + (1 : Int32)), vi (Int32.ofNat i), vi (Int32.ofNat n), vr ot, vi (Int32.ofNat (cs.getD i 0)), .unset, .unset]) rfl (XS.iload X101.here hx rfl (dd 101 rfl) rfl (XS.i2b X101.here hx rfl (dd 102 rfl) rfl (st102 tq (XS.iinc X102.here hx rfl (dd 104 rfl) rfl (l' := #[vr b, vi 1, vi ((Int32.ofNat D) + (1 : Int32)), vi ((Int32.ofNat i) + (1 : Int32)), vi (Int32.ofNat n), vr ot, vi (Int32.ofNat (cs.getD i 0)), .unset, .unset]) rfl (XS.goto X102.here hx rfl (pc0 := 55) (pc' := 18) rfl (dd 105 rfl) (by decide) (by decide) kq)))))))))) ?_
      rw [own_succ (D)]
      rw [own_succ i]
      have f103 := (Vb.other W102 nbo)
      have f104 := (Xo.wr W102)
      exact ih (i + 1) (D + 1) _ ⟨by omega, own_DS hi.2.1 (by omega) (congrArg List.length (own_ui1 hc1)), One.val rfl⟩ X102 e102 N102 O102 K102 f103 (own_bvS1 (by omega) hc1 ▸ V102) f104
    · refine own_go (S' := (T101.setTop (mkF m 58 #[vr b, vi 1, vi (Int32.ofNat D), vi (Int32.ofNat i), vi (Int32.ofNat n), vr ot, vi (Int32.ofNat (cs.getD i 0)), .unset, .unset] []))) (fun tq kq => XS.sipush X101.here hx rfl (dd 96 rfl) (XS.icmpNo X101.here hx rfl (dd 97 rfl) rfl (flt (fun q => hc1 ((own_lt (b := 128) (by omega) (by decide)).mp q))).1 (XS.goto X101.here hx rfl (pc0 := 39) (pc' := 58) rfl (dd 106 rfl) (by decide) (by decide) kq))) ?_
      exact loop58 hlk hret hx hZ hw hby hml hown hnm b kb ot ko cs n z HP hcs hnb hch got gko nbo (kt + 1) (i) D _ ⟨by omega, hi.2.1, One.val rfl⟩ X101 eh101 Nf101 Op Kp Vb Vo Xo
def Q_rm38 (Z : State) (h0 : Heap) (n0 : Nat) (b : Addr) (kb : ClassId) (cs : List Nat) (n : Nat) (z : Int32) (v : Option Value) (h : Heap) (L : List Loc) : Prop := ∃ (b : Addr) (kb : ClassId), v = some (.ref b) ∧ Fr n0 L ∧ Keep h0 h [] ∧ h0.size ≤ b ∧ own_Ar Z h b kb .byte (own_bv (own_u8 cs)) ∧ Exa Z h b "[B"
theorem rm38 (l : Launch) (Z : State) (a0 : Array Value) (hw : ∀ d ∈ tables_1, d.before a0 Z = true) (ws : List Jvm.Cond) (h0 : Heap) (n0 : Nat) (O0 : Old Z n0 h0) (b : Addr) (kb : ClassId) (cs : List Nat) (n : Nat) (z : Int32) (HP : own_PK Z z) (Vb : own_Ar Z h0 b kb .byte (own_wv cs)) (hcs : cs.length = n) (hnb : n ≤ 130) (hch : ∀ j, cs.getD j 0 < 32768) :
    MetFree l M38 (head1 (Jvm.Cond.code M38 jdk_42_method_47_code 9 (some (.array .byte)) :: ws) ({ frames := 2, cells := 2, slots := 1190, locals := 40 } : Room)) (fun aq U => aq = #[(.ref b), (.int 1)] ∧ Z.Warmed39 U.vm ∧ U.heap = h0) (fun _ _ _ _ _ => True) (fun _ U oo U' => ∃ v L, oo = .returned v ∧ Q_rm38 Z h0 n0 b kb cs n z v U'.heap L ∧ FrameEnd U oo U' L ({ frames := 2, cells := 2, slots := 1190, locals := 40 } : Room).cells ({ frames := 2, cells := 2, slots := 1190, locals := 40 } : Room).slots) := by
  refine MetFree.of_bodySF (plainFor_of_name pn_rm4) hisR ?_
  intro p e s m args below meth c s₁ Bd hml0 hP hK
  obtain ⟨rfl, hZ, hh⟩ := hP
  have hx := Bd.exec
  have hby := Bd.bytes
  have dd := @dq _ _ _ hby D38
  have hml : c.maxLocals = 9 := hml0
  have hown : s.vm.findClass "java/lang/String" = some m.cls := findClass_of_methodNamed Bd.named
  have hnm := (name_of_methodNamed Bd.named Bd.method).1
  have hlk := Bd.notSynchronized
  have hret := Bd.returns
  have X0 : Stand p l e ({ frames := 2, cells := 2, slots := 1190, locals := 40 } : Room) s m #[(.ref b), (.int 1)] below meth c s₁ [] 0 0 := Stand.of_body Bd
  have e0 : s₁.heap = h0 := by rw [← hh, Bd.state]; rfl
  have N0 := Fr.nil n0
  have K0 := Keep.refl h0 []
  refine own_go (S' := (s₁.setTop (mkF m 0 #[vr b, vi 1, .unset, .unset, .unset, .unset, .unset, .unset, .unset] []))) (fun tq kq => castTop rfl kq) ?_
  show own_G p e s below (Q_rm38 Z h0 n0 b kb cs n z) _ _ _
  obtain ⟨SC, hz, SA, SH, SL⟩ := id HP
  obtain ⟨cl101, Ar101, ln101⟩ := Vb.len
  have lq101 : cl101.slots.size.toInt32 = (Int32.ofNat (2 * n)) := ln101.trans (by rw [own_wvlen, hcs])
  refine own_go (S' := (s₁.setTop (mkF m 8 #[vr b, vi 1, vi 0, vi 0, .unset, .unset, .unset, .unset, .unset] [(.int ((Int32.ofNat (2 * n)) >>> ((1 : Int32) &&& 31)))]))) (fun tq kq => XS.iconst X0.here hx rfl (dd 107 rfl) (XS.istoreN X0.here hx rfl (dd 108 rfl) rfl (l' := #[vr b, vi 1, vi 0, .unset, .unset, .unset, .unset, .unset, .unset]) rfl (XS.iconst X0.here hx rfl (dd 109 rfl) (XS.istoreN X0.here hx rfl (dd 110 rfl) rfl (l' := #[vr b, vi 1, vi 0, vi 0, .unset, .unset, .unset, .unset, .unset]) rfl (XS.aloadN X0.here hx rfl (dd 111 rfl) rfl rfl (X0.arraylength hx (by rw [e0]; exact Ar101.1) (State.isArrayOf_alike hZ.alike Ar101.2.1) (g := (mkF m 5 #[vr b, vi 1, vi 0, vi 0, .unset, .unset, .unset, .unset, .unset] [(.ref b)])) rfl rfl (dd 112 rfl) tq (by rw [lq101]; exact (XS.iconst X0.here hx rfl (dd 113 rfl) (XS.ishr X0.here hx rfl (dd 114 rfl) rfl kq))))))))) ?_
  rw [own_shr1 (by omega)]
  refine own_go (S' := (s₁.setTop (mkF m 14 #[vr b, vi 1, vi 0, vi 0, vi (Int32.ofNat n), .unset, .unset, .unset, .unset] [(.int ((Int32.ofNat n) * (3 : Int32)))]))) (fun tq kq => XS.istore X0.here hx rfl (dd 115 rfl) rfl (l' := #[vr b, vi 1, vi 0, vi 0, vi (Int32.ofNat n), .unset, .unset, .unset, .unset]) rfl (XS.iload X0.here hx rfl (dd 116 rfl) rfl (XS.iconst X0.here hx rfl (dd 117 rfl) (XS.imul X0.here hx rfl (dd 118 rfl) rfl kq)))) ?_
  rw [own_mul3 (by omega)]
  obtain ⟨T102, h102, k102, X102, e102, E102, A102, Ex102, st102⟩ := newPE X0 hx hZ (ww hw 26 rfl) e0 (g := (mkF m 14 #[vr b, vi 1, vi 0, vi 0, vi (Int32.ofNat n), .unset, .unset, .unset, .unset] [(.int (Int32.ofNat (3 * n)))])) rfl (dd 119 rfl) rfl (own_pos (by omega)) (cap := 390) (by rw [own_clamp (by omega)]; omega) (by decide) (by decide) (by decide) (ad := "[B") (by decide +kernel)
  obtain ⟨b102, g102⟩ : ∃ z, z = h0.size := ⟨_, rfl⟩
  rw [← g102] at A102 st102 Ex102
  have ne_b_b102 := own_nE Vb.lt g102
  have ge_b102 : n0 ≤ b102 := Nat.le_trans (own_osz O0) (Nat.le_of_eq g102.symm)
  have gk_b102 : h0.size ≤ b102 := Nat.le_trans K0.1 (Nat.le_of_eq g102.symm)
  have V102 : own_Ar Z h102 b102 k102 .byte (List.replicate (Int32.ofNat (3 * n)).toNatClampNeg (.int 0)) := own_Ar.new A102 (own_pos (by omega))
  have O102 := O0.ext E102
  have K102 := K0.ext E102
  have f103 := (Vb.ext E102)
  refine own_go (S' := (T102.setTop (mkF m 18 #[vr b, vi 1, vi 0, vi 0, vi (Int32.ofNat n), vr b102, .unset, .unset, .unset] []))) (fun tq kq => st102 tq (XS.astore X102.here hx rfl (dd 120 rfl) rfl rfl (l' := #[vr b, vi 1, vi 0, vi 0, vi (Int32.ofNat n), vr b102, .unset, .unset, .unset]) rfl kq)) ?_
  exact loop18 hlk hret hx hZ hw hby hml hown hnm b kb b102 k102 cs n z HP hcs hnb hch ge_b102 gk_b102 ne_b_b102 (n) (0) 0 .unset ⟨by omega, rfl, One.u⟩ X102 e102 N0 O102 K102 f103 (by have q := V102; rw [own_clamp (by omega)] at q; exact q) Ex102
theorem loop49 {p : Program} {l : Launch} {e : Env} {s : State} {m : MethodId} {args : Array Value} {below : List Frame} {meth : Method} {c : Code} {Z : State} {a0 : Array Value} {h0 : Heap} {n0 : Nat} (hlk : meth.locks = false) (hret : meth.sig.returnType = some (.array .byte)) (hx : p.tables.exec = Jvm.exec) (hZ : Z.Warmed39 s.vm) (hw : ∀ d ∈ tables_1, d.before a0 Z = true) (hby : c.code = jdk_42_method_46_code) (hml : c.maxLocals = 9) (hown : s.vm.findClass "java/lang/String" = some m.cls) (hnm : meth.name = "encodeUTF8") (cq : Int32) (b : Addr) (kb : ClassId) (ot : Addr) (ko : ClassId) (cs : List Nat) (n : Nat) (hcs : cs.length = n) (hnb : n ≤ 130) (hch : ∀ j, cs.getD j 0 < 32768) (hall : own_fi cs = cs.length) (got : n0 ≤ ot) (gko : h0.size ≤ ot) (nbo : b ≠ ot) :
    ∀ (kt : Nat) (i : Nat) (D : Nat) (t8 : Slot), (i + kt = n ∧ D = (own_u8 (cs.take i)).length ∧ One t8) → ∀ {Tp : State} {locs : List Loc} {hp : Heap} (Xp : Stand p l e ({ frames := 3, cells := 2, slots := 1600, locals := 70 } : Room) s m args below meth c Tp locs 1 800) (ep : Tp.heap = hp) (Np : Fr n0 locs) (Op : Old Z n0 hp) (Kp : Keep h0 hp []) (Vb : own_Ar Z hp b kb .byte (own_lv cs)) (Vo : own_Ar Z hp ot ko .byte (own_pad (own_bv (own_u8 (cs.take i))) (2 * n) (.int 0))) (Xo : Exa Z hp ot "[B"), own_G p e s below (fun v h L => ∃ (b : Addr) (kb : ClassId), v = some (.ref b) ∧ Fr n0 L ∧ Keep h0 h [] ∧ h0.size ≤ b ∧ own_Ar Z h b kb .byte (own_bv (own_u8 cs)) ∧ Exa Z h b "[B") ({ frames := 3, cells := 2, slots := 1600, locals := 70 } : Room).cells ({ frames := 3, cells := 2, slots := 1600, locals := 70 } : Room).slots (Tp.setTop (mkF m 49 #[vi cq, vr b, vi 1, vi (Int32.ofNat D), vr ot, vr b, vi (Int32.ofNat n), vi (Int32.ofNat i), t8] [])) := by
  have dd := @dq _ _ _ hby D14
  intro kt
  induction kt with
  | zero =>
    intro i D t8 hi Tp locs hp Xp ep Np Op Kp Vb Vo Xo
    have hci := hch i
    have hD3 := own_D3 hi.2.1 (by omega)
    have hl1 : (own_bv (own_u8 (cs.take i))).length = D := by rw [own_bvlen]; exact hi.2.1.symm
    have hD2 : D ≤ 2 * n := own_D2 hi.2.1 (by omega) (fun j hj => own_fi_le hall (by omega))
    obtain ⟨cl101, Ar101, ln101⟩ := Vo.len
    have lq101 : cl101.slots.size.toInt32 = (Int32.ofNat (2 * n)) := ln101.trans (by rw [own_padlen (by rw [own_bvlen]; omega)])
    refine own_go (S' := (Tp.setTop (mkF m 128 #[vi cq, vr b, vi 1, vi (Int32.ofNat D), vr ot, vr b, vi (Int32.ofNat n), vi (Int32.ofNat i), t8] [(.int (Int32.ofNat (2 * n))), (.int (Int32.ofNat D))]))) (fun tq kq => XS.iload Xp.here hx rfl (dd 0 rfl) rfl (XS.iload Xp.here hx rfl (dd 1 rfl) rfl (XS.icmpYes Xp.here hx rfl (pc0 := 53) (pc' := 124) rfl (dd 2 rfl) rfl (flt (fun q => absurd ((own_lt (by omega) (by omega)).mp q) (by omega))).2.1 (by decide) (by decide) (XS.iloadN Xp.here hx rfl (dd 3 rfl) rfl (XS.aload Xp.here hx rfl (dd 4 rfl) rfl rfl (Xp.arraylength hx (by rw [ep]; exact Ar101.1) (State.isArrayOf_alike hZ.alike Ar101.2.1) (g := (mkF m 127 #[vi cq, vr b, vi 1, vi (Int32.ofNat D), vr ot, vr b, vi (Int32.ofNat n), vi (Int32.ofNat i), t8] [(.ref ot), (.int (Int32.ofNat D))])) rfl rfl (dd 5 rfl) tq (by rw [lq101]; exact kq))))))) ?_
    by_cases hful : D = (2 * n)
    · refine own_go (S' := (Tp.setTop (mkF m 133 #[vi cq, vr b, vi 1, vi (Int32.ofNat D), vr ot, vr b, vi (Int32.ofNat n), vi (Int32.ofNat i), t8] [(.ref ot)]))) (fun tq kq => XS.icmpNo Xp.here hx rfl (dd 6 rfl) rfl (teq (by rw [hful])).2 (XS.aload Xp.here hx rfl (dd 7 rfl) rfl rfl kq)) ?_
      refine own_retA Xp hx hlk hret rfl rfl (dd 8 rfl) (by decide) (by decide) ?_
      rw [ep]
      have etk : cs.take i = cs := List.take_of_length_le (by omega)
      exact ⟨ot, _, rfl, Np, Kp, gko, (by have q := Vo; rw [own_padfull (by omega), etk] at q; exact q), Xo⟩
    · obtain ⟨_, _, ⟨T102, L102, k102, n102⟩, -, X102, ⟨Lc102, hQ102, l102, y102, z102⟩, st102⟩ := Jvm.LawKit.callS Xp hx (y := M6) hown (mvT hZ (ww hw 177 rfl)) (mvT hZ (ww hw 178 rfl)) (mvT hZ (ww hw 146 rfl)) (mvT hZ (ww hw 179 rfl)) (by decide) (backOf (W := 0) (rm33 l Z a0 hw [] hp n0 Op ot ko (own_pad (own_bv (own_u8 (cs.take i))) (2 * n) (.int 0)) D Vo (by rw [own_padlen (by omega)]; omega) (by rw [own_padlen (by omega)]; omega) (by omega) (own_padfit (own_bvfit (own_u8r (fun j => by rw [List.getD_eq_getElem?_getD, List.getElem?_take]; split; exact List.getD_eq_getElem?_getD ▸ hch j; exact (by decide)))))) hZ (ww hw 179 rfl) (ww hw 146 rfl) (by decide) (by decide)) (g := (mkF m 137 #[vi cq, vr b, vi 1, vi (Int32.ofNat D), vr ot, vr b, vi (Int32.ofNat n), vi (Int32.ofNat i), t8] [(.int (Int32.ofNat D)), (.ref ot)])) rfl (by rw [hml]; rfl) (argsL := [(.ref ot), (.int (Int32.ofNat D))]) (rest := []) (lenOf pd_12 rfl) rfl (by show 2 * 0 + _ ≤ _; exact Nat.le_of_eq rfl) (dd 11 rfl) (fun _ _ => ⟨rfl, ep, (by decide : 1 + 1 ≤ _), (by decide : 800 + 800 ≤ _)⟩)
      dsimp only [Pt.U, Pt.locs, Pt.cells, Pt.slots] at X102 l102 y102 z102 st102 hQ102
      subst l102 y102 z102
      obtain ⟨b102, kb102, rfl, N102, K102, gb102, V102, Xb102⟩ := hQ102
      have Nf102 := Fr.app Np N102
      have O102 := Op.keep K102 all0
      have KK102 := Kp.trans K102 all0
      have gk_b102 : h0.size ≤ b102 := Nat.le_trans Kp.1 gb102
      refine own_go (S' := (T102.setTop (mkF m 140 #[vi cq, vr b, vi 1, vi (Int32.ofNat D), vr ot, vr b, vi (Int32.ofNat n), vi (Int32.ofNat i), t8] [(.ref b102)]))) (fun tq kq => XS.icmpYes Xp.here hx rfl (pc0 := 128) (pc' := 134) rfl (dd 6 rfl) rfl (feq (fun q => hful ((own_eqN (by omega) (by omega)).mp q))).2 (by decide) (by decide) (XS.aload Xp.here hx rfl (dd 9 rfl) rfl rfl (XS.iloadN Xp.here hx rfl (dd 10 rfl) rfl (st102 tq kq)))) ?_
      refine own_retA X102 hx hlk hret rfl rfl (dd 12 rfl) (by decide) (by decide) ?_
      have etk : cs.take i = cs := List.take_of_length_le (by omega)
      exact ⟨b102, _, rfl, Nf102, KK102, gk_b102, (by have q := V102; rw [show D = (own_bv (own_u8 (cs.take i))).length from hl1.symm, own_padtake, etk] at q; exact q), Xb102⟩
  | succ kt ih =>
    intro i D t8 hi Tp locs hp Xp ep Np Op Kp Vb Vo Xo
    have hci := hch i
    have hD3 := own_D3 hi.2.1 (by omega)
    have hl1 : (own_bv (own_u8 (cs.take i))).length = D := by rw [own_bvlen]; exact hi.2.1.symm
    have h255 := own_fi_le hall (show i < cs.length by omega)
    have hlb := own_lbs (cs.getD i 0) (Nat.lt_succ_of_le (own_fi_le hall (by omega)))
    have hD2 : D ≤ 2 * n := own_D2 hi.2.1 (by omega) (fun j hj => own_fi_le hall (by omega))
    obtain ⟨cl101, Ar101, -, -, hin101, hat101⟩ := Vb.at (j := (Int32.ofNat i)) (v := (.int (own_lb (Int32.ofNat (cs.getD i 0))))) (own_pos (by omega)) (by rw [own_clamp (by omega)]; exact own_lvat (by omega))
    refine own_go (S' := (Tp.setTop (mkF m 65 #[vi cq, vr b, vi 1, vi (Int32.ofNat D), vr ot, vr b, vi (Int32.ofNat n), vi (Int32.ofNat i), vi (own_lb (Int32.ofNat (cs.getD i 0)))] [(.int (own_lb (Int32.ofNat (cs.getD i 0))))]))) (fun tq kq => XS.iload Xp.here hx rfl (dd 0 rfl) rfl (XS.iload Xp.here hx rfl (dd 1 rfl) rfl (XS.icmpNo Xp.here hx rfl (dd 2 rfl) rfl (tlt ((own_lt (by omega) (by omega)).mpr (by omega))).2.1 (XS.aload Xp.here hx rfl (dd 13 rfl) rfl rfl (XS.iload Xp.here hx rfl (dd 14 rfl) rfl (Xp.baloadBytes hx (j := (Int32.ofNat i)) (v := (.int (own_lb (Int32.ofNat (cs.getD i 0))))) (by rw [ep]; exact Ar101.1) (State.isArrayOf_alike hZ.alike Ar101.2.1) Ar101.2.2 hin101 hat101 (g := (mkF m 60 #[vi cq, vr b, vi 1, vi (Int32.ofNat D), vr ot, vr b, vi (Int32.ofNat n), vi (Int32.ofNat i), t8] [(.int (Int32.ofNat i)), (.ref b)])) rfl rfl (dd 15 rfl) tq (XS.istoreS Xp.here hx rfl (dd 16 rfl) rfl rfl hi.2.2 (XS.iload Xp.here hx rfl (dd 17 rfl) rfl kq)))))))) ?_
    by_cases hc1 : cs.getD i 0 < 128
    · have hz := (hlb.2.2.1 hc1).2
      have hb2 : D + 2 ≤ 2 * n := own_D2b hi.2.1 (by omega) hcs (fun j hj => own_fi_le hall (by omega))
      obtain ⟨cl102, Ar102, qa102, sa102, hin102, -⟩ := Vo.at (j := (Int32.ofNat D)) (own_pos (by omega)) (by rw [own_clamp (by omega), ← hl1]; exact own_padat (by omega))
      obtain ⟨T102, h102, X102, e102, W102, st102⟩ := stB Xp hx hZ ep Ar102 (j := (Int32.ofNat D)) hin102 (g := (mkF m 117 #[vi cq, vr b, vi 1, vi ((Int32.ofNat D) + (1 : Int32)), vr ot, vr b, vi (Int32.ofNat n), vi (Int32.ofNat i), vi (own_lb (Int32.ofNat (cs.getD i 0)))] [(.int (own_lb (Int32.ofNat (cs.getD i 0)))), (.int (Int32.ofNat D)), (.ref ot)])) rfl rfl (dd 23 rfl)
      have N102 := Fr.snoc X102 Np got
      have O102 := Op.wr W102 got
      have K102 := Kp.wr W102 (Or.inr gko)
      have V102 : own_Ar Z h102 ot ko .byte (own_pad ((own_bv (own_u8 (cs.take i))) ++ [.int (Int32.ofInt (cs.getD i 0 : Nat))]) (2 * n) (.int 0)) := (by have q := (own_Ar.set Ar102 qa102 sa102 Vo.small W102); rw [own_clamp (by omega), ← hl1, own_padset (by omega), show nar .byte (own_lb (Int32.ofNat (cs.getD i 0))) = Int32.ofInt (cs.getD i 0 : Nat) from hz] at q; exact q)
      refine own_go (S' := (T102.setTop (mkF m 49 #[vi cq, vr b, vi 1, vi ((Int32.ofNat D) + (1 : Int32)), vr ot, vr b, vi (Int32.ofNat n), vi ((Int32.ofNat i) + (1 : Int32)), vi (own_lb (Int32.ofNat (cs.getD i 0)))] []))) (fun tq kq => XS.ifYes Xp.here hx rfl (pc0 := 65) (pc' := 109) rfl (dd 18 rfl) rfl ((if0 _ _).trans (flt (fun q => absurd (hlb.1.mp q) (by omega))).2.1) (by decide) (by decide) (XS.aload Xp.here hx rfl (dd 19 rfl) rfl rfl (XS.iloadN Xp.here hx rfl (dd 20 rfl) rfl (XS.iinc Xp.here hx rfl (dd 21 rfl) rfl (l' := #[vi cq, vr b, vi 1, vi ((Int32.ofNat D) + (1 : Int32)), vr ot, vr b, vi (Int32.ofNat n), vi (Int32.ofNat i), vi (own_lb (Int32.ofNat (cs.getD i 0)))]) rfl (XS.iload Xp.here hx rfl (dd 22 rfl) rfl (st102 tq (XS.iinc X102.here hx rfl (dd 24 rfl) rfl (l' := #[vi cq, vr b, vi 1, vi ((Int32.ofNat D) + (1 : Int32)), vr ot, vr b, vi (Int32.ofNat n), vi ((Int32.ofNat i) + (1 : Int32)), vi (own_lb (Int32.ofNat (cs.getD i 0)))]) rfl (XS.goto X102.here hx rfl (pc0 := 121) (pc' := 49) rfl (dd 25 rfl) (by decide) (by decide) kq)))))))) ?_
      rw [own_succ (D)]
      rw [own_succ i]
      have f103 := (Vb.other W102 nbo)
      have f104 := (Xo.wr W102)
      exact ih (i + 1) (D + 1) _ ⟨by omega, own_DS (D := D) (k := 1) hi.2.1 (by omega) (congrArg List.length (own_ui1 hc1)), One.val rfl⟩ X102 e102 N102 O102 K102 f103 (own_bvS1 (by omega) hc1 ▸ V102) f104
    · have hl2 : ((own_bv (own_u8 (cs.take i))) ++ [Value.int (Int32.ofInt ((cs.getD i 0 / 64 : Nat) - 64 : Int))]).length = D + 1 := by rw [List.length_append, hl1]; rfl
      have hz := hlb.2.2.2 (by omega)
      have hb2 : D + 2 ≤ 2 * n := own_D2b hi.2.1 (by omega) hcs (fun j hj => own_fi_le hall (by omega))
      obtain ⟨cl105, Ar105, qa105, sa105, hin105, -⟩ := Vo.at (j := (Int32.ofNat D)) (own_pos (by omega)) (by rw [own_clamp (by omega), ← hl1]; exact own_padat (by omega))
      obtain ⟨T105, h105, X105, e105, W105, st105⟩ := stB Xp hx hZ ep Ar105 (j := (Int32.ofNat D)) hin105 (g := (mkF m 88 #[vi cq, vr b, vi 1, vi ((Int32.ofNat D) + (1 : Int32)), vr ot, vr b, vi (Int32.ofNat n), vi (Int32.ofNat i), vi (own_lb (Int32.ofNat (cs.getD i 0)))] [(.int (((192 : Int32) ||| (((own_lb (Int32.ofNat (cs.getD i 0))) &&& (255 : Int32)) >>> ((6 : Int32) &&& 31))).toInt8.toInt32)), (.int (Int32.ofNat D)), (.ref ot)])) rfl rfl (dd 37 rfl)
      have N105 := Fr.snoc X105 Np got
      have O105 := Op.wr W105 got
      have K105 := Kp.wr W105 (Or.inr gko)
      have V105 : own_Ar Z h105 ot ko .byte (own_pad ((own_bv (own_u8 (cs.take i))) ++ [.int (Int32.ofInt ((cs.getD i 0 / 64 : Nat) - 64 : Int))]) (2 * n) (.int 0)) := (by have q := (own_Ar.set Ar105 qa105 sa105 Vo.small W105); rw [own_clamp (by omega), ← hl1, own_padset (by omega), show nar .byte (((192 : Int32) ||| (((own_lb (Int32.ofNat (cs.getD i 0))) &&& (255 : Int32)) >>> ((6 : Int32) &&& 31))).toInt8.toInt32) = Int32.ofInt ((cs.getD i 0 / 64 : Nat) - 64 : Int) from hz.1] at q; exact q)
      refine own_go (S' := (T105.setTop (mkF m 89 #[vi cq, vr b, vi 1, vi ((Int32.ofNat D) + (1 : Int32)), vr ot, vr b, vi (Int32.ofNat n), vi (Int32.ofNat i), vi (own_lb (Int32.ofNat (cs.getD i 0)))] []))) (fun tq kq => XS.ifNo Xp.here hx rfl (dd 18 rfl) rfl ((if0 _ _).trans (tlt (hlb.1.mpr (by omega))).2.1) (XS.aload Xp.here hx rfl (dd 26 rfl) rfl rfl (XS.iloadN Xp.here hx rfl (dd 27 rfl) rfl (XS.iinc Xp.here hx rfl (dd 28 rfl) rfl (l' := #[vi cq, vr b, vi 1, vi ((Int32.ofNat D) + (1 : Int32)), vr ot, vr b, vi (Int32.ofNat n), vi (Int32.ofNat i), vi (own_lb (Int32.ofNat (cs.getD i 0)))]) rfl (XS.sipush Xp.here hx rfl (dd 29 rfl) (XS.iload Xp.here hx rfl (dd 30 rfl) rfl (XS.sipush Xp.here hx rfl (dd 31 rfl) (XS.iand Xp.here hx rfl (dd 32 rfl) rfl (XS.bipush Xp.here hx rfl (dd 33 rfl) (XS.ishr Xp.here hx rfl (dd 34 rfl) rfl (XS.ior Xp.here hx rfl (dd 35 rfl) rfl (XS.i2b Xp.here hx rfl (dd 36 rfl) rfl (st105 tq kq))))))))))))) ?_
      rw [own_succ (D)]
      obtain ⟨cl106, Ar106, qa106, sa106, hin106, -⟩ := V105.at (j := (Int32.ofNat (D + 1))) (own_pos (by omega)) (by rw [own_clamp (by omega), ← hl2]; exact own_padat (by omega))
      obtain ⟨T106, h106, X106, e106, W106, st106⟩ := stB X105 hx hZ e105 Ar106 (j := (Int32.ofNat (D + 1))) hin106 (g := (mkF m 105 #[vi cq, vr b, vi 1, vi ((Int32.ofNat (D + 1)) + (1 : Int32)), vr ot, vr b, vi (Int32.ofNat n), vi (Int32.ofNat i), vi (own_lb (Int32.ofNat (cs.getD i 0)))] [(.int (((128 : Int32) ||| ((own_lb (Int32.ofNat (cs.getD i 0))) &&& (63 : Int32))).toInt8.toInt32)), (.int (Int32.ofNat (D + 1))), (.ref ot)])) rfl rfl (dd 47 rfl)
      have N106 := Fr.snoc X106 N105 got
      have O106 := O105.wr W106 got
      have K106 := K105.wr W106 (Or.inr gko)
      have V106 : own_Ar Z h106 ot ko .byte (own_pad (((own_bv (own_u8 (cs.take i))) ++ [Value.int (Int32.ofInt ((cs.getD i 0 / 64 : Nat) - 64 : Int))]) ++ [.int (Int32.ofInt ((cs.getD i 0 % 64 : Nat) - 128 : Int))]) (2 * n) (.int 0)) := (by have q := (own_Ar.set Ar106 qa106 sa106 V105.small W106); rw [own_clamp (by omega), ← hl2, own_padset (by omega), show nar .byte (((128 : Int32) ||| ((own_lb (Int32.ofNat (cs.getD i 0))) &&& (63 : Int32))).toInt8.toInt32) = Int32.ofInt ((cs.getD i 0 % 64 : Nat) - 128 : Int) from hz.2] at q; exact q)
      refine own_go (S' := (T106.setTop (mkF m 49 #[vi cq, vr b, vi 1, vi ((Int32.ofNat (D + 1)) + (1 : Int32)), vr ot, vr b, vi (Int32.ofNat n), vi ((Int32.ofNat i) + (1 : Int32)), vi (own_lb (Int32.ofNat (cs.getD i 0)))] []))) (fun tq kq => XS.aload X105.here hx rfl (dd 38 rfl) rfl rfl (XS.iloadN X105.here hx rfl (dd 39 rfl) rfl (XS.iinc X105.here hx rfl (dd 40 rfl) rfl (l' := #[vi cq, vr b, vi 1, vi ((Int32.ofNat (D + 1)) + (1 : Int32)), vr ot, vr b, vi (Int32.ofNat n), vi (Int32.ofNat i), vi (own_lb (Int32.ofNat (cs.getD i 0)))]) rfl (XS.sipush X105.here hx rfl (dd 41 rfl) (XS.iload X105.here hx rfl (dd 42 rfl) rfl (XS.bipush X105.here hx rfl (dd 43 rfl) (XS.iand X105.here hx rfl (dd 44 rfl) rfl (XS.ior X105.here hx rfl (dd 45 rfl) rfl (XS.i2b X105.here hx rfl (dd 46 rfl) rfl (st106 tq (XS.goto X106.here hx rfl (pc0 := 106) (pc' := 118) rfl (dd 48 rfl) (by decide) (by decide) (XS.iinc X106.here hx rfl (dd 24 rfl) rfl (l' := #[vi cq, vr b, vi 1, vi ((Int32.ofNat (D + 1)) + (1 : Int32)), vr ot, vr b, vi (Int32.ofNat n), vi ((Int32.ofNat i) + (1 : Int32)), vi (own_lb (Int32.ofNat (cs.getD i 0)))]) rfl (XS.goto X106.here hx rfl (pc0 := 121) (pc' := 49) rfl (dd 25 rfl) (by decide) (by decide) kq))))))))))))) ?_
      rw [own_succ (D + 1)]
      rw [own_succ i]
      have f107 := ((Vb.other W105 nbo).other W106 nbo)
      have f108 := ((Xo.wr W105).wr W106)
      exact ih (i + 1) (D + 1 + 1) _ ⟨by omega, own_DS (D := D) (k := 2) hi.2.1 (by omega) (congrArg List.length (own_ui2 hc1 (by omega))), One.val rfl⟩ X106 e106 N106 O106 K106 f107 (own_bvS2 (by omega) hc1 (by omega) ▸ V106) f108
def Q_rm14 (Z : State) (h0 : Heap) (n0 : Nat) (b : Addr) (kb : ClassId) (cs : List Nat) (n : Nat) (z : Int32) (v : Option Value) (h : Heap) (L : List Loc) : Prop := ∃ (b : Addr) (kb : ClassId), v = some (.ref b) ∧ Fr n0 L ∧ Keep h0 h [] ∧ h0.size ≤ b ∧ own_Ar Z h b kb .byte (own_bv (own_u8 cs)) ∧ Exa Z h b "[B"
theorem rm14 (l : Launch) (Z : State) (a0 : Array Value) (hw : ∀ d ∈ tables_1, d.before a0 Z = true) (ws : List Jvm.Cond) (h0 : Heap) (n0 : Nat) (O0 : Old Z n0 h0) (b : Addr) (kb : ClassId) (cs : List Nat) (n : Nat) (z : Int32) (HP : own_PK Z z) (Vb : own_Ar Z h0 b kb .byte (own_sv cs)) (Xb : Exa Z h0 b "[B") (hcs : cs.length = n) (hnb : n ≤ 130) (hch : ∀ j, cs.getD j 0 < 32768) :
    MetFree l M39 (head1 (Jvm.Cond.code M39 jdk_42_method_46_code 9 (some (.array .byte)) :: ws) ({ frames := 3, cells := 2, slots := 1600, locals := 70 } : Room)) (fun aq U => aq = #[(.int (own_cd cs)), (.ref b), (.int 1)] ∧ Z.Warmed39 U.vm ∧ U.heap = h0) (fun _ _ _ _ _ => True) (fun _ U oo U' => ∃ v L, oo = .returned v ∧ Q_rm14 Z h0 n0 b kb cs n z v U'.heap L ∧ FrameEnd U oo U' L ({ frames := 3, cells := 2, slots := 1600, locals := 70 } : Room).cells ({ frames := 3, cells := 2, slots := 1600, locals := 70 } : Room).slots) := by
  refine MetFree.of_bodySF (plainFor_of_name pn_rm4) hisR ?_
  intro p e s m args below meth c s₁ Bd hml0 hP hK
  obtain ⟨rfl, hZ, hh⟩ := hP
  have hx := Bd.exec
  have hby := Bd.bytes
  have dd := @dq _ _ _ hby D14
  have hml : c.maxLocals = 9 := hml0
  have hown : s.vm.findClass "java/lang/String" = some m.cls := findClass_of_methodNamed Bd.named
  have hnm := (name_of_methodNamed Bd.named Bd.method).1
  have hlk := Bd.notSynchronized
  have hret := Bd.returns
  have X0 : Stand p l e ({ frames := 3, cells := 2, slots := 1600, locals := 70 } : Room) s m #[(.int (own_cd cs)), (.ref b), (.int 1)] below meth c s₁ [] 0 0 := Stand.of_body Bd
  have e0 : s₁.heap = h0 := by rw [← hh, Bd.state]; rfl
  have N0 := Fr.nil n0
  have K0 := Keep.refl h0 []
  refine own_go (S' := (s₁.setTop (mkF m 0 #[vi (own_cd cs), vr b, vi 1, .unset, .unset, .unset, .unset, .unset, .unset] []))) (fun tq kq => castTop rfl kq) ?_
  show own_G p e s below (Q_rm14 Z h0 n0 b kb cs n z) _ _ _
  obtain ⟨SC, hz, SA, SH, SL⟩ := id HP
  by_cases hall : own_fi cs = cs.length
  · rw [own_sv0 hall] at Vb
    rw [own_cd0 hall]
    obtain ⟨cl101, Ar101, ln101⟩ := Vb.len
    have lq101 : cl101.slots.size.toInt32 = (Int32.ofNat n) := ln101.trans (by rw [own_lvlen, hcs])
    obtain ⟨_, _, ⟨T102, L102, k102, n102⟩, -, X102, ⟨Lc102, hQ102, l102, y102, z102⟩, st102⟩ := Jvm.LawKit.callS X0 hx (y := M32) hown (mvT hZ (ww hw 84 rfl)) (mvT hZ (ww hw 85 rfl)) (mvT hZ (ww hw 86 rfl)) (mvT hZ (ww hw 87 rfl)) (by decide) (backOf (W := 0) (rm15 l Z a0 hw [] h0 n0 O0 b kb (own_lv cs) 0 n (fun j => own_lb (Int32.ofNat (cs.getD j 0))) Vb (fun j hj => by rw [Nat.zero_add]; exact own_lvat (by omega)) (by omega)) hZ (ww hw 87 rfl) (ww hw 86 rfl) (by decide) (by decide)) (g := (mkF m 15 #[vi 0, vr b, vi 1, .unset, .unset, .unset, .unset, .unset, .unset] [(.int (Int32.ofNat n)), (.int 0), (.ref b)])) rfl (by rw [hml]; rfl) (argsL := [(.ref b), (.int 0), (.int (Int32.ofNat n))]) (rest := []) (lenOf pd_14 rfl) rfl (by show 2 * 0 + _ ≤ _; exact Nat.le_of_eq rfl) (dd 56 rfl) (fun _ _ => ⟨rfl, e0, (by decide : 0 + 0 ≤ _), (by decide : 0 + 0 ≤ _)⟩)
    dsimp only [Pt.U, Pt.locs, Pt.cells, Pt.slots] at X102 l102 y102 z102 st102 hQ102
    subst l102 y102 z102
    obtain ⟨rfl, N102, eh102⟩ := hQ102
    have Nf102 := Fr.app N0 N102
    refine own_go (S' := (T102.setTop (mkF m 18 #[vi 0, vr b, vi 1, .unset, .unset, .unset, .unset, .unset, .unset] [(.int (if own_np (fun j => own_lb (Int32.ofNat (cs.getD j 0))) n = n then 0 else 1))]))) (fun tq kq => XS.iloadN X0.here hx rfl (dd 49 rfl) rfl (XS.iconst X0.here hx rfl (dd 50 rfl) (XS.icmpYes X0.here hx rfl (pc0 := 2) (pc' := 11) rfl (dd 51 rfl) rfl (feq (by decide : ¬ ((0 : Int32) = (1 : Int32)))).2 (by decide) (by decide) (XS.aloadN X0.here hx rfl (dd 52 rfl) rfl rfl (XS.iconst X0.here hx rfl (dd 53 rfl) (XS.aloadN X0.here hx rfl (dd 54 rfl) rfl rfl (X0.arraylength hx (by rw [e0]; exact Ar101.1) (State.isArrayOf_alike hZ.alike Ar101.2.1) (g := (mkF m 14 #[vi 0, vr b, vi 1, .unset, .unset, .unset, .unset, .unset, .unset] [(.ref b), (.int 0), (.ref b)])) rfl rfl (dd 55 rfl) tq (by rw [lq101]; exact (st102 tq kq))))))))) ?_
    by_cases hnp : own_np (fun j => own_lb (Int32.ofNat (cs.getD j 0))) n = n
    · rw [if_pos hnp]
      obtain ⟨T103, h103, X103, e103, E103, A103, Ex103, st103⟩ := cloneH X102 hx hZ hown (ww hw 91 rfl) (ww hw 92 rfl) (ww hw 96 rfl) (ww hw 94 rfl) (ww hw 95 rfl) (ww hw 97 rfl) eh102 (Arv.arh (Vb.arv (own_lvfit cs) .null)) Xb (g := (mkF m 22 #[vi 0, vr b, vi 1, .unset, .unset, .unset, .unset, .unset, .unset] [(.ref b)])) rfl (by rw [hml]; rfl) rfl (dd 59 rfl) (by decide) (W := 0) (cap := 400) (by show 2 * 0 + _ ≤ _; exact Nat.le_of_eq rfl) (by decide) (by rw [own_clamp (by rw [own_lvlen]; omega), own_lvlen]; omega) (by decide) (by decide)
      obtain ⟨b103, g103⟩ : ∃ z, z = h0.size := ⟨_, rfl⟩
      rw [← g103] at A103 Ex103 st103
      have gk_b103 : h0.size ≤ b103 := Nat.le_trans K0.1 (Nat.le_of_eq g103.symm)
      have V103 : own_Ar Z h103 b103 kb .byte (own_lv cs) := own_of_arv (show Arv Z h103 b103 kb .byte (Int32.ofNat (own_lv cs).length) (own_lv cs) .null from A103) (by rw [own_clamp (by rw [own_lvlen]; omega)])
      have K103 := K0.ext E103
      obtain ⟨T104, X104, e104, st104⟩ := castY X103 hx hZ hown (ww hw 98 rfl) e103 (Ins.self Ex103) (g := (mkF m 25 #[vi 0, vr b, vi 1, .unset, .unset, .unset, .unset, .unset, .unset] [(.ref b103)])) rfl rfl (dd 60 rfl)
      refine own_go (S' := (T104.setTop (mkF m 28 #[vi 0, vr b, vi 1, .unset, .unset, .unset, .unset, .unset, .unset] [(.ref b103)]))) (fun tq kq => XS.ifNo X102.here hx rfl (dd 57 rfl) rfl ((if0 _ _).trans (teq (by decide : (0 : Int32) = (0 : Int32))).2) (XS.aloadN X102.here hx rfl (dd 58 rfl) rfl rfl (st103 tq (st104 tq kq)))) ?_
      refine own_retA X104 hx hlk hret rfl rfl (dd 61 rfl) (by decide) (by decide) ?_
      rw [e104]
      exact ⟨b103, _, rfl, Nf102, K103, gk_b103, (own_lvall hcs hall hnp ▸ V103), Ex103⟩
    · rw [if_neg hnp]
      obtain ⟨cl105, Ar105, ln105⟩ := Vb.len
      have lq105 : cl105.slots.size.toInt32 = (Int32.ofNat n) := ln105.trans (by rw [own_lvlen, hcs])
      obtain ⟨_, _, ⟨T106, L106, k106, n106⟩, -, X106, ⟨Lc106, hQ106, l106, y106, z106⟩, st106⟩ := Jvm.LawKit.callS X102 hx (y := M7) hown (mvT hZ (ww hw 170 rfl)) (mvT hZ (ww hw 171 rfl)) (mvT hZ (ww hw 24 rfl)) (mvT hZ (ww hw 172 rfl)) (by decide) (backOf (W := 0) (rm31 l Z a0 hw [] h0 n0 O0 n (by omega)) hZ (ww hw 172 rfl) (ww hw 24 rfl) (by decide) (by decide)) (g := (mkF m 33 #[vi 0, vr b, vi 1, vi 0, .unset, .unset, .unset, .unset, .unset] [(.int (Int32.ofNat n))])) rfl (by rw [hml]; rfl) (argsL := [(.int (Int32.ofNat n))]) (rest := []) (lenOf pd_2 rfl) rfl (by show 2 * 0 + _ ≤ _; exact Nat.le_of_eq rfl) (dd 66 rfl) (fun _ _ => ⟨rfl, eh102, (by decide : 0 + 1 ≤ _), (by decide : 0 + 800 ≤ _)⟩)
      dsimp only [Pt.U, Pt.locs, Pt.cells, Pt.slots] at X106 l106 y106 z106 st106 hQ106
      subst l106 y106 z106
      obtain ⟨b106, kb106, rfl, N106, K106, gb106, V106, Xb106⟩ := hQ106
      have Nf106 := Fr.app Nf102 N106
      have O106 := O0.keep K106 all0
      have KK106 := K0.trans K106 all0
      have ne_b_b106 := own_nL Vb.lt gb106
      have ge_b106 : n0 ≤ b106 := Nat.le_trans (own_osz O0) gb106
      have gk_b106 : h0.size ≤ b106 := Nat.le_trans K0.1 gb106
      have f107 := (Vb.keep K106 nin0)
      obtain ⟨cl108, Ar108, ln108⟩ := f107.len
      have lq108 : cl108.slots.size.toInt32 = (Int32.ofNat n) := ln108.trans (by rw [own_lvlen, hcs])
      refine own_go (S' := (T106.setTop (mkF m 49 #[vi 0, vr b, vi 1, vi 0, vr b106, vr b, vi (Int32.ofNat n), vi 0, .unset] []))) (fun tq kq => XS.ifYes X102.here hx rfl (pc0 := 18) (pc' := 29) rfl (dd 57 rfl) rfl ((if0 _ _).trans (feq (by decide : ¬ ((1 : Int32) = (0 : Int32)))).2) (by decide) (by decide) (XS.iconst X102.here hx rfl (dd 62 rfl) (XS.istoreN X102.here hx rfl (dd 63 rfl) rfl (l' := #[vi 0, vr b, vi 1, vi 0, .unset, .unset, .unset, .unset, .unset]) rfl (XS.aloadN X102.here hx rfl (dd 64 rfl) rfl rfl (X102.arraylength hx (by rw [eh102]; exact Ar105.1) (State.isArrayOf_alike hZ.alike Ar105.2.1) (g := (mkF m 32 #[vi 0, vr b, vi 1, vi 0, .unset, .unset, .unset, .unset, .unset] [(.ref b)])) rfl rfl (dd 65 rfl) tq (by rw [lq105]; exact (st106 tq (XS.astore X106.here hx rfl (dd 67 rfl) rfl rfl (l' := #[vi 0, vr b, vi 1, vi 0, vr b106, .unset, .unset, .unset, .unset]) rfl (XS.aloadN X106.here hx rfl (dd 68 rfl) rfl rfl (XS.astore X106.here hx rfl (dd 69 rfl) rfl rfl (l' := #[vi 0, vr b, vi 1, vi 0, vr b106, vr b, .unset, .unset, .unset]) rfl (XS.aload X106.here hx rfl (dd 70 rfl) rfl rfl (X106.arraylength hx Ar108.1 (State.isArrayOf_alike hZ.alike Ar108.2.1) (g := (mkF m 43 #[vi 0, vr b, vi 1, vi 0, vr b106, vr b, .unset, .unset, .unset] [(.ref b)])) rfl rfl (dd 71 rfl) tq (by rw [lq108]; exact (XS.istore X106.here hx rfl (dd 72 rfl) rfl (l' := #[vi 0, vr b, vi 1, vi 0, vr b106, vr b, vi (Int32.ofNat n), .unset, .unset]) rfl (XS.iconst X106.here hx rfl (dd 73 rfl) (XS.istore X106.here hx rfl (dd 74 rfl) rfl (l' := #[vi 0, vr b, vi 1, vi 0, vr b106, vr b, vi (Int32.ofNat n), vi 0, .unset]) rfl kq)))))))))))))))) ?_
      exact loop49 hlk hret hx hZ hw hby hml hown hnm (0 : Int32) b kb b106 kb106 cs n hcs hnb hch hall ge_b106 gk_b106 ne_b_b106 (n) (0) 0 .unset ⟨by omega, rfl, One.u⟩ X106 rfl Nf106 O106 KK106 f107 V106 Xb106
  · rw [own_sv1 hall] at Vb
    rw [own_cd1 hall]
    obtain ⟨_, _, ⟨T109, L109, k109, n109⟩, -, X109, ⟨Lc109, hQ109, l109, y109, z109⟩, st109⟩ := Jvm.LawKit.callS X0 hx (y := M38) hown (mvT hZ (ww hw 196 rfl)) (mvT hZ (ww hw 197 rfl)) (mvT hZ (ww hw 10 rfl)) (mvT hZ (ww hw 198 rfl)) (by decide) (backOf (W := 0) (rm38 l Z a0 hw [] h0 n0 O0 b kb cs n z HP Vb hcs hnb hch) hZ (ww hw 198 rfl) (ww hw 10 rfl) (by decide) (by decide)) (g := (mkF m 7 #[vi 1, vr b, vi 1, .unset, .unset, .unset, .unset, .unset, .unset] [(.int 1), (.ref b)])) rfl (by rw [hml]; rfl) (argsL := [(.ref b), (.int 1)]) (rest := []) (lenOf pd_15 rfl) rfl (by show 2 * 0 + _ ≤ _; exact Nat.le_of_eq rfl) (dd 77 rfl) (fun _ _ => ⟨rfl, e0, (by decide : 0 + 2 ≤ _), (by decide : 0 + 1190 ≤ _)⟩)
    dsimp only [Pt.U, Pt.locs, Pt.cells, Pt.slots] at X109 l109 y109 z109 st109 hQ109
    subst l109 y109 z109
    obtain ⟨b109, kb109, rfl, N109, K109, gb109, V109, Xb109⟩ := hQ109
    have Nf109 := Fr.app N0 N109
    have KK109 := K0.trans K109 all0
    have gk_b109 : h0.size ≤ b109 := Nat.le_trans K0.1 gb109
    refine own_go (S' := (T109.setTop (mkF m 10 #[vi 1, vr b, vi 1, .unset, .unset, .unset, .unset, .unset, .unset] [(.ref b109)]))) (fun tq kq => XS.iloadN X0.here hx rfl (dd 49 rfl) rfl (XS.iconst X0.here hx rfl (dd 50 rfl) (XS.icmpNo X0.here hx rfl (dd 51 rfl) rfl (teq (by decide : (1 : Int32) = (1 : Int32))).2 (XS.aloadN X0.here hx rfl (dd 75 rfl) rfl rfl (XS.iloadN X0.here hx rfl (dd 76 rfl) rfl (st109 tq kq)))))) ?_
    refine own_retA X109 hx hlk hret rfl rfl (dd 78 rfl) (by decide) (by decide) ?_
    exact ⟨b109, _, rfl, Nf109, KK109, gk_b109, V109, Xb109⟩
def Q_rm13 (Z : State) (h0 : Heap) (n0 : Nat) (b : Addr) (kb : ClassId) (cs : List Nat) (n : Nat) (z : Int32) (u : Addr) (v : Option Value) (h : Heap) (L : List Loc) : Prop := ∃ (b : Addr) (kb : ClassId), v = some (.ref b) ∧ Fr n0 L ∧ Keep h0 h [] ∧ h0.size ≤ b ∧ own_Ar Z h b kb .byte (own_bv (own_u8 cs)) ∧ Exa Z h b "[B"
theorem rm13 (l : Launch) (Z : State) (a0 : Array Value) (hw : ∀ d ∈ tables_1, d.before a0 Z = true) (ws : List Jvm.Cond) (h0 : Heap) (n0 : Nat) (O0 : Old Z n0 h0) (b : Addr) (kb : ClassId) (cs : List Nat) (n : Nat) (z : Int32) (u : Addr) (HP : own_PK Z z) (HU : own_UK Z u) (Vb : own_Ar Z h0 b kb .byte (own_sv cs)) (Xb : Exa Z h0 b "[B") (hcs : cs.length = n) (hnb : n ≤ 130) (hch : ∀ j, cs.getD j 0 < 32768) :
    MetFree l M40 (head1 (Jvm.Cond.code M40 jdk_42_method_18_code 3 (some (.array .byte)) :: ws) ({ frames := 4, cells := 2, slots := 1600, locals := 90 } : Room)) (fun aq U => aq = #[(.ref u), (.int (own_cd cs)), (.ref b)] ∧ Z.Warmed39 U.vm ∧ U.heap = h0) (fun _ _ _ _ _ => True) (fun _ U oo U' => ∃ v L, oo = .returned v ∧ Q_rm13 Z h0 n0 b kb cs n z u v U'.heap L ∧ FrameEnd U oo U' L ({ frames := 4, cells := 2, slots := 1600, locals := 90 } : Room).cells ({ frames := 4, cells := 2, slots := 1600, locals := 90 } : Room).slots) := by
  refine MetFree.of_bodySF (plainFor_of_name pn_rm4) hisR ?_
  intro p e s m args below meth c s₁ Bd hml0 hP hK
  obtain ⟨rfl, hZ, hh⟩ := hP
  have hx := Bd.exec
  have hby := Bd.bytes
  have dd := @dq _ _ _ hby D13
  have hml : c.maxLocals = 3 := hml0
  have hown : s.vm.findClass "java/lang/String" = some m.cls := findClass_of_methodNamed Bd.named
  have hnm := (name_of_methodNamed Bd.named Bd.method).1
  have hlk := Bd.notSynchronized
  have hret := Bd.returns
  have X0 : Stand p l e ({ frames := 4, cells := 2, slots := 1600, locals := 90 } : Room) s m #[(.ref u), (.int (own_cd cs)), (.ref b)] below meth c s₁ [] 0 0 := Stand.of_body Bd
  have e0 : s₁.heap = h0 := by rw [← hh, Bd.state]; rfl
  have N0 := Fr.nil n0
  have K0 := Keep.refl h0 []
  refine own_go (S' := (s₁.setTop (mkF m 0 #[vr u, vi (own_cd cs), vr b] []))) (fun tq kq => castTop rfl kq) ?_
  show own_G p e s below (Q_rm13 Z h0 n0 b kb cs n z u) _ _ _
  obtain ⟨SC, hz, SA, SH, SL⟩ := id HP
  obtain ⟨SI, SU, EU⟩ := id HU
  obtain ⟨T101, X101, e101, st101⟩ := getS2 X0 hx hZ hown (host := "") (Or.inl (ww hw 79 rfl)) Via.refl e0 (SI.ext O0.2) (g := (mkF m 1 #[vr u, vi (own_cd cs), vr b] [(.ref u)])) rfl (dd 1 rfl)
  obtain ⟨_, _, ⟨T102, L102, k102, n102⟩, -, X102, ⟨Lc102, hQ102, l102, y102, z102⟩, st102⟩ := Jvm.LawKit.callS X101 hx (y := M39) hown (mvT hZ (ww hw 81 rfl)) (mvT hZ (ww hw 82 rfl)) (mvT hZ (ww hw 10 rfl)) (mvT hZ (ww hw 83 rfl)) (by decide) (backOf (W := 0) (rm14 l Z a0 hw [] h0 n0 O0 b kb cs n z HP Vb Xb hcs hnb hch) hZ (ww hw 83 rfl) (ww hw 10 rfl) (by decide) (by decide)) (g := (mkF m 10 #[vr u, vi (own_cd cs), vr b] [(.int 1), (.ref b), (.int (own_cd cs))])) rfl (by rw [hml]; rfl) (argsL := [(.int (own_cd cs)), (.ref b), (.int 1)]) (rest := []) (lenOf pd_16 rfl) rfl (by show 2 * 0 + _ ≤ _; exact Nat.le_of_eq rfl) (dd 6 rfl) (fun _ _ => ⟨rfl, e101, (by decide : 0 + 2 ≤ _), (by decide : 0 + 1600 ≤ _)⟩)
  dsimp only [Pt.U, Pt.locs, Pt.cells, Pt.slots] at X102 l102 y102 z102 st102 hQ102
  subst l102 y102 z102
  obtain ⟨b102, kb102, rfl, N102, K102, gb102, V102, Xb102⟩ := hQ102
  have Nf102 := Fr.app N0 N102
  have KK102 := K0.trans K102 all0
  have gk_b102 : h0.size ≤ b102 := Nat.le_trans K0.1 gb102
  refine own_go (S' := (T102.setTop (mkF m 13 #[vr u, vi (own_cd cs), vr b] [(.ref b102)]))) (fun tq kq => XS.aloadN X0.here hx rfl (dd 0 rfl) rfl rfl (st101 tq (Jvm.RoadKit.acmp (g := (mkF m 4 #[vr u, vi (own_cd cs), vr b] [(.ref u), (.ref u)])) X101 hx rfl rfl rfl (pc0 := 4) (pc' := 7) (same := true) rfl (dd 2 rfl) rfl (decide_eq_true rfl) (by decide) (by decide) (XS.iloadN X101.here hx rfl (dd 3 rfl) rfl (XS.aloadN X101.here hx rfl (dd 4 rfl) rfl rfl (XS.iconst X101.here hx rfl (dd 5 rfl) (st102 tq kq))))))) ?_
  refine own_retA X102 hx hlk hret rfl rfl (dd 7 rfl) (by decide) (by decide) ?_
  exact ⟨b102, _, rfl, Nf102, KK102, gk_b102, V102, Xb102⟩
def Q_rm12 (Z : State) (h0 : Heap) (n0 : Nat) (a : Addr) (cs : List Nat) (z : Int32) (v : Option Value) (h : Heap) (L : List Loc) : Prop := v = some (.int (own_cd cs)) ∧ Fr n0 L ∧ h = h0
theorem rm12 (l : Launch) (Z : State) (a0 : Array Value) (hw : ∀ d ∈ tables_1, d.before a0 Z = true) (ws : List Jvm.Cond) (h0 : Heap) (n0 : Nat) (O0 : Old Z n0 h0) (a : Addr) (cs : List Nat) (z : Int32) (HP : own_PK Z z) (Fc : Fld Z h0 a "java/lang/String" "coder" "B" (.int (own_cd cs))) :
    MetFree l M19 (head1 (Jvm.Cond.code M19 jdk_42_method_152_code 1 (some .byte) :: ws) ({ frames := 0, cells := 0, slots := 0, locals := 0 } : Room)) (fun aq U => aq = #[(.ref a)] ∧ Z.Warmed39 U.vm ∧ U.heap = h0) (fun _ _ _ _ _ => True) (fun _ U oo U' => ∃ v L, oo = .returned v ∧ Q_rm12 Z h0 n0 a cs z v U'.heap L ∧ FrameEnd U oo U' L ({ frames := 0, cells := 0, slots := 0, locals := 0 } : Room).cells ({ frames := 0, cells := 0, slots := 0, locals := 0 } : Room).slots) := by
  refine MetFree.of_bodySF (plainFor_of_name pn_rm4) hisR ?_
  intro p e s m args below meth c s₁ Bd hml0 hP hK
  obtain ⟨rfl, hZ, hh⟩ := hP
  have hx := Bd.exec
  have hby := Bd.bytes
  have dd := @dq _ _ _ hby D12
  have hml : c.maxLocals = 1 := hml0
  have hown : s.vm.findClass "java/lang/String" = some m.cls := findClass_of_methodNamed Bd.named
  have hnm := (name_of_methodNamed Bd.named Bd.method).1
  have hlk := Bd.notSynchronized
  have hret := Bd.returns
  have X0 : Stand p l e ({ frames := 0, cells := 0, slots := 0, locals := 0 } : Room) s m #[(.ref a)] below meth c s₁ [] 0 0 := Stand.of_body Bd
  have e0 : s₁.heap = h0 := by rw [← hh, Bd.state]; rfl
  have N0 := Fr.nil n0
  have K0 := Keep.refl h0 []
  refine own_go (S' := (s₁.setTop (mkF m 0 #[vr a] []))) (fun tq kq => castTop rfl kq) ?_
  show own_G p e s below (Q_rm12 Z h0 n0 a cs z) _ _ _
  obtain ⟨SC, hz, SA, SH, SL⟩ := id HP
  obtain ⟨T101, X101, e101, st101⟩ := getS2 X0 hx hZ hown (host := "") (Or.inl (ww hw 21 rfl)) Via.refl e0 (SC.ext O0.2) (g := (mkF m 0 #[vr a] [])) rfl (dd 0 rfl)
  obtain ⟨T102, X102, e102, st102⟩ := getF X101 hx hZ hown (host := "") (Or.inl (ww hw 33 rfl)) Via.refl e101 Fc (g := (mkF m 7 #[vr a] [(.ref a)])) rfl rfl (dd 3 rfl)
  refine own_go (S' := (T102.setTop (mkF m 14 #[vr a] [(.int (own_cd cs))]))) (fun tq kq => st101 tq (XS.ifNo X101.here hx rfl (dd 1 rfl) rfl ((if0 _ _).trans (feq hz).1) (XS.aloadN X101.here hx rfl (dd 2 rfl) rfl rfl (st102 tq (XS.goto X102.here hx rfl (pc0 := 10) (pc' := 14) rfl (dd 4 rfl) (by decide) (by decide) kq))))) ?_
  refine own_retN X102 hx hlk hret (by simp) (dd 5 rfl) (by decide) (by decide) ?_
  exact ⟨by rw [own_cdn cs], N0, e102⟩
def Q_rm11 (Z : State) (h0 : Heap) (n0 : Nat) (a : Addr) (nn : Nat) (cs : List Nat) (n : Nat) (z : Int32) (u : Addr) (v : Option Value) (h : Heap) (L : List Loc) : Prop := ∃ (b : Addr) (kb : ClassId), v = some (.ref b) ∧ Fr n0 L ∧ Keep h0 h [] ∧ h0.size ≤ b ∧ own_Ar Z h b kb .byte (own_bv (own_u8 cs)) ∧ Exa Z h b "[B"
theorem rm11 (l : Launch) (Z : State) (a0 : Array Value) (hw : ∀ d ∈ tables_1, d.before a0 Z = true) (ws : List Jvm.Cond) (h0 : Heap) (n0 : Nat) (O0 : Old Z n0 h0) (a : Addr) (nn : Nat) (cs : List Nat) (n : Nat) (z : Int32) (u : Addr) (HP : own_PK Z z) (HU : own_UK Z u) (Sa : own_Str Z h0 nn a cs) (hcs : cs.length = n) (hnb : n ≤ 130) (hch : ∀ j, cs.getD j 0 < 32768) :
    MetFree l M3 (head1 (Jvm.Cond.code M3 jdk_42_method_64_code 2 (some (.array .byte)) :: ws) ({ frames := 5, cells := 2, slots := 1600, locals := 104 } : Room)) (fun aq U => aq = #[(.ref a), (.ref u)] ∧ Z.Warmed39 U.vm ∧ U.heap = h0) (fun _ _ _ _ _ => True) (fun _ U oo U' => ∃ v L, oo = .returned v ∧ Q_rm11 Z h0 n0 a nn cs n z u v U'.heap L ∧ FrameEnd U oo U' L ({ frames := 5, cells := 2, slots := 1600, locals := 104 } : Room).cells ({ frames := 5, cells := 2, slots := 1600, locals := 104 } : Room).slots) := by
  refine MetFree.of_bodySF (plainFor_of_name pn_rm4) hisR ?_
  intro p e s m args below meth c s₁ Bd hml0 hP hK
  obtain ⟨rfl, hZ, hh⟩ := hP
  have hx := Bd.exec
  have hby := Bd.bytes
  have dd := @dq _ _ _ hby D11
  have hml : c.maxLocals = 2 := hml0
  have hown : s.vm.findClass "java/lang/String" = some m.cls := findClass_of_methodNamed Bd.named
  have hnm := (name_of_methodNamed Bd.named Bd.method).1
  have hlk := Bd.notSynchronized
  have hret := Bd.returns
  have X0 : Stand p l e ({ frames := 5, cells := 2, slots := 1600, locals := 104 } : Room) s m #[(.ref a), (.ref u)] below meth c s₁ [] 0 0 := Stand.of_body Bd
  have e0 : s₁.heap = h0 := by rw [← hh, Bd.state]; rfl
  have N0 := Fr.nil n0
  have K0 := Keep.refl h0 []
  refine own_go (S' := (s₁.setTop (mkF m 0 #[vr a, vr u] []))) (fun tq kq => castTop rfl kq) ?_
  show own_G p e s below (Q_rm11 Z h0 n0 a nn cs n z u) _ _ _
  obtain ⟨SC, hz, SA, SH, SL⟩ := id HP
  obtain ⟨SI, SU, EU⟩ := id HU
  obtain ⟨qn, qa, Ea, Fc, d, kd, qd, Fv, Vd, Xd⟩ := Sa
  obtain ⟨cq101, kq101, q101a, q101b, q101c⟩ := isOf hZ e0 Ea
  obtain ⟨_, _, ⟨T101, L101, k101, n101⟩, -, X101, ⟨Lc101, hQ101, l101, y101, z101⟩, st101⟩ := X0.virtualBack hx (y := M19) (z := M19) hown (mvT hZ (ww hw 71 rfl)) (mvT hZ (ww hw 72 rfl)) (notFace_of_selects (args := #[]) (mvT hZ (ww hw 74 rfl))) (mvT hZ (ww hw 74 rfl)) (mvT hZ (ww hw 73 rfl)) (by decide) (backOf (W := 1) (rm12 l Z a0 hw [] h0 n0 O0 a cs z HP Fc) hZ (ww hw 75 rfl) (ww hw 10 rfl) (by decide) (by decide)) q101a q101c (g := (mkF m 14 #[vr a, vr u] [(.ref a), (.ref u)])) rfl (by rw [hml]; rfl) (Steps.refl _) (argsL := []) (rest := [(.ref u)]) (lenOf pd_17 rfl) rfl (by show 2 * 0 + _ ≤ _; exact Nat.le_of_eq rfl) (dd 4 rfl) (fun _ _ => ⟨rfl, e0, (by decide : 0 + 0 ≤ _), (by decide : 0 + 0 ≤ _)⟩)
  dsimp only [Pt.U, Pt.locs, Pt.cells, Pt.slots] at X101 l101 y101 z101 st101 hQ101
  subst l101 y101 z101
  obtain ⟨rfl, N101, eh101⟩ := hQ101
  have Nf101 := Fr.app N0 N101
  obtain ⟨T102, X102, e102, st102⟩ := getF X101 hx hZ hown (host := "") (Or.inl (ww hw 35 rfl)) Via.refl eh101 Fv (g := (mkF m 18 #[vr a, vr u] [(.ref a), (.int (own_cd cs)), (.ref u)])) rfl rfl (dd 6 rfl)
  obtain ⟨_, _, ⟨T103, L103, k103, n103⟩, -, X103, ⟨Lc103, hQ103, l103, y103, z103⟩, st103⟩ := Jvm.LawKit.callS X102 hx (y := M40) hown (mvT hZ (ww hw 76 rfl)) (mvT hZ (ww hw 77 rfl)) (mvT hZ (ww hw 10 rfl)) (mvT hZ (ww hw 78 rfl)) (by decide) (backOf (W := 0) (rm13 l Z a0 hw [] h0 n0 O0 d kd cs n z u HP HU Vd Xd hcs hnb hch) hZ (ww hw 78 rfl) (ww hw 10 rfl) (by decide) (by decide)) (g := (mkF m 21 #[vr a, vr u] [(.ref d), (.int (own_cd cs)), (.ref u)])) rfl (by rw [hml]; rfl) (argsL := [(.ref u), (.int (own_cd cs)), (.ref d)]) (rest := []) (lenOf pd_18 rfl) rfl (by show 2 * 0 + _ ≤ _; exact Nat.le_of_eq rfl) (dd 7 rfl) (fun _ _ => ⟨rfl, e102, (by decide : 0 + 2 ≤ _), (by decide : 0 + 1600 ≤ _)⟩)
  dsimp only [Pt.U, Pt.locs, Pt.cells, Pt.slots] at X103 l103 y103 z103 st103 hQ103
  subst l103 y103 z103
  obtain ⟨b103, kb103, rfl, N103, K103, gb103, V103, Xb103⟩ := hQ103
  have Nf103 := Fr.app Nf101 N103
  have KK103 := K0.trans K103 all0
  have gk_b103 : h0.size ≤ b103 := Nat.le_trans K0.1 gb103
  refine own_go (S' := (T103.setTop (mkF m 24 #[vr a, vr u] [(.ref b103)]))) (fun tq kq => XS.aloadN X0.here hx rfl (dd 0 rfl) rfl rfl (XS.ifnonnullYes X0.here hx rfl (pc0 := 1) (pc' := 12) rfl (dd 1 rfl) rfl (by decide) (by decide) (XS.aloadN X0.here hx rfl (dd 2 rfl) rfl rfl (XS.aloadN X0.here hx rfl (dd 3 rfl) rfl rfl (st101.trans (XS.aloadN X101.here hx rfl (dd 5 rfl) rfl rfl (st102 tq (st103 tq kq)))))))) ?_
  refine own_retA X103 hx hlk hret rfl rfl (dd 8 rfl) (by decide) (by decide) ?_
  exact ⟨b103, _, rfl, Nf103, KK103, gk_b103, V103, Xb103⟩
theorem pn_rm9 : plainName "com/example/vestwright/vestwright/cli/TableRows" = true := by first | (simp [plainName, overriddenIn]; done) | decide +kernel
def Q_rm9 (Z : State) (h0 : Heap) (n0 : Nat) (t : Addr) (wd : Int32) (v : Option Value) (h : Heap) (L : List Loc) : Prop := v = none ∧ Fr n0 L ∧ Keep h0 h [t] ∧ ∃ (bb bs bk : Addr) (k1 k2 k3 : ClassId), own_TR Z h t bb bs bk k1 k2 k3 wd [] (List.replicate 4096 (.int 0)) (List.replicate 4096 (.int 0)) 0 ∧ h0.size ≤ bb ∧ h0.size ≤ bs ∧ h0.size ≤ bk
theorem rm9 (l : Launch) (Z : State) (a0 : Array Value) (hw : ∀ d ∈ tables_1, d.before a0 Z = true) (ws : List Jvm.Cond) (h0 : Heap) (n0 : Nat) (O0 : Old Z n0 h0) (t : Addr) (wd : Int32) (Ea : Exa Z h0 t "com/example/vestwright/vestwright/cli/TableRows") (D_width : Fld Z h0 t "com/example/vestwright/vestwright/cli/TableRows" "width" "I" (.int 0)) (D_bytes : Fld Z h0 t "com/example/vestwright/vestwright/cli/TableRows" "bytes" "[B" .null) (D_used : Fld Z h0 t "com/example/vestwright/vestwright/cli/TableRows" "used" "I" (.int 0)) (D_starts : Fld Z h0 t "com/example/vestwright/vestwright/cli/TableRows" "starts" "[I" .null) (D_keys : Fld Z h0 t "com/example/vestwright/vestwright/cli/TableRows" "keys" "[I" .null) (D_size : Fld Z h0 t "com/example/vestwright/vestwright/cli/TableRows" "size" "I" (.int 0)) (ga : n0 ≤ t) :
    MetFree l M20 (head1 (Jvm.Cond.code M20 prog_15_method_1_code 2 none :: ws) ({ frames := 1, cells := 3, slots := 12288, locals := 12 } : Room)) (fun aq U => aq = #[(.ref t), (.int wd)] ∧ Z.Warmed39 U.vm ∧ U.heap = h0) (fun _ _ _ _ _ => True) (fun _ U oo U' => ∃ v L, oo = .returned v ∧ Q_rm9 Z h0 n0 t wd v U'.heap L ∧ FrameEnd U oo U' L ({ frames := 1, cells := 3, slots := 12288, locals := 12 } : Room).cells ({ frames := 1, cells := 3, slots := 12288, locals := 12 } : Room).slots) := by
  refine MetFree.of_bodySF (plainFor_of_name pn_rm9) hisR ?_
  intro p e s m args below meth c s₁ Bd hml0 hP hK
  obtain ⟨rfl, hZ, hh⟩ := hP
  have hx := Bd.exec
  have hby := Bd.bytes
  have dd := @dq _ _ _ hby D9
  have hml : c.maxLocals = 2 := hml0
  have hown : s.vm.findClass "com/example/vestwright/vestwright/cli/TableRows" = some m.cls := findClass_of_methodNamed Bd.named
  have hnm := (name_of_methodNamed Bd.named Bd.method).1
  have hlk := Bd.notSynchronized
  have hret := Bd.returns
  have X0 : Stand p l e ({ frames := 1, cells := 3, slots := 12288, locals := 12 } : Room) s m #[(.ref t), (.int wd)] below meth c s₁ [] 0 0 := Stand.of_body Bd
  have e0 : s₁.heap = h0 := by rw [← hh, Bd.state]; rfl
  have N0 := Fr.nil n0
  have K0 := Keep.refl h0 [t]
  refine own_go (S' := (s₁.setTop (mkF m 0 #[vr t, vi wd] []))) (fun tq kq => castTop rfl kq) ?_
  show own_G p e s below (Q_rm9 Z h0 n0 t wd) _ _ _
  obtain ⟨T101, X101, e101, st101⟩ := initO X0 hx hZ hown (ww hw 46 rfl) (ww hw 19 rfl) (ww hw 20 rfl) e0 (g := (mkF m 1 #[vr t, vi wd] [(.ref t)])) rfl (by rw [hml]; rfl) rfl (dd 1 rfl) (by decide) (W := 0) (by show 2 * 0 + _ ≤ _; exact Nat.le_of_eq rfl) (by decide)
  obtain ⟨T102, h102, k102, X102, e102, E102, A102, Ex102, st102⟩ := newPE X101 hx hZ (ww hw 26 rfl) e101 (g := (mkF m 8 #[vr t, vi wd] [(.int 4096), (.ref t)])) rfl (dd 4 rfl) rfl (by decide) (cap := 4096) (by decide) (by decide) (by decide) (by decide) (ad := "[B") (by decide +kernel)
  obtain ⟨b102, g102⟩ : ∃ z, z = h0.size := ⟨_, rfl⟩
  rw [← g102] at A102 st102 Ex102
  have ne_t_b102 := own_nE Ea.lt g102
  have gk_b102 : h0.size ≤ b102 := Nat.le_trans K0.1 (Nat.le_of_eq g102.symm)
  have V102 : own_Ar Z h102 b102 k102 .byte (List.replicate 4096 (.int 0)) := own_Ar.new A102 (by decide)
  have K102 := K0.ext E102
  have f103 := (D_bytes.ext E102)
  have f104 := (Ea.ext E102)
  obtain ⟨T105, h105, X105, e105, W105, st105⟩ := putF X102 hx hZ hown (host := "") (Or.inl (ww hw 47 rfl)) Via.refl e102 f103 f104 (Or.inl (ww hw 48 rfl)) (ww hw 41 rfl) (ty := (.array .byte)) (by decide) rfl rfl (g := (mkF m 10 #[vr t, vi wd] [(.ref b102), (.ref t)])) rfl rfl (dd 5 rfl)
  have N105 := Fr.snoc X105 N0 ga
  have K105 := K102.wr W105 (Or.inl (List.mem_of_getElem? (i := 0) rfl))
  have F105 := f103.same W105
  obtain ⟨T106, h106, k106, X106, e106, E106, A106, st106⟩ := newP X105 hx hZ (ww hw 49 rfl) e105 (g := (mkF m 17 #[vr t, vi wd] [(.int 4096), (.ref t)])) rfl (dd 8 rfl) rfl (by decide) (cap := 4096) (by decide) (by decide) (by decide) (by decide)
  obtain ⟨b106, g106⟩ : ∃ z, z = h105.size := ⟨_, rfl⟩
  rw [← g106] at A106 st106
  have f107 := (V102.other W105 (Ne.symm ne_t_b102))
  have ne_b102_b106 := own_nE f107.lt g106
  have f108 := (f104.wr W105)
  have ne_t_b106 := own_nE f108.lt g106
  have gk_b106 : h0.size ≤ b106 := Nat.le_trans K105.1 (Nat.le_of_eq g106.symm)
  have V106 : own_Ar Z h106 b106 k106 .int (List.replicate 4096 (.int 0)) := own_Ar.new A106 (by decide)
  have K106 := K105.ext E106
  have f109 := (((D_starts.ext E102).other W105 (Or.inr (slot_ne (Or.inl (ww hw 51 rfl)) (Or.inl (ww hw 48 rfl)) (by decide) (t := (.array .int)) (t' := (.array .byte)) (by decide) (by decide)))).ext E106)
  have f110 := (f108.ext E106)
  obtain ⟨T111, h111, X111, e111, W111, st111⟩ := putF X106 hx hZ hown (host := "") (Or.inl (ww hw 50 rfl)) Via.refl e106 f109 f110 (Or.inl (ww hw 51 rfl)) (ww hw 41 rfl) (ty := (.array .int)) (by decide) rfl rfl (g := (mkF m 19 #[vr t, vi wd] [(.ref b106), (.ref t)])) rfl rfl (dd 9 rfl)
  have N111 := Fr.snoc X111 N105 ga
  have K111 := K106.wr W111 (Or.inl (List.mem_of_getElem? (i := 0) rfl))
  have F111 := f109.same W111
  obtain ⟨T112, h112, k112, X112, e112, E112, A112, st112⟩ := newP X111 hx hZ (ww hw 49 rfl) e111 (g := (mkF m 26 #[vr t, vi wd] [(.int 4096), (.ref t)])) rfl (dd 12 rfl) rfl (by decide) (cap := 4096) (by decide) (by decide) (by decide) (by decide)
  obtain ⟨b112, g112⟩ : ∃ z, z = h111.size := ⟨_, rfl⟩
  rw [← g112] at A112 st112
  have f113 := ((f107.ext E106).other W111 (Ne.symm ne_t_b102))
  have ne_b102_b112 := own_nE f113.lt g112
  have f114 := (V106.other W111 (Ne.symm ne_t_b106))
  have ne_b106_b112 := own_nE f114.lt g112
  have f115 := (f110.wr W111)
  have ne_t_b112 := own_nE f115.lt g112
  have gk_b112 : h0.size ≤ b112 := Nat.le_trans K111.1 (Nat.le_of_eq g112.symm)
  have V112 : own_Ar Z h112 b112 k112 .int (List.replicate 4096 (.int 0)) := own_Ar.new A112 (by decide)
  have K112 := K111.ext E112
  have f116 := (((((D_keys.ext E102).other W105 (Or.inr (slot_ne (Or.inl (ww hw 53 rfl)) (Or.inl (ww hw 48 rfl)) (by decide) (t := (.array .int)) (t' := (.array .byte)) (by decide) (by decide)))).ext E106).other W111 (Or.inr (slot_ne (Or.inl (ww hw 53 rfl)) (Or.inl (ww hw 51 rfl)) (by decide) (t := (.array .int)) (t' := (.array .int)) (by decide) (by decide)))).ext E112)
  have f117 := (f115.ext E112)
  obtain ⟨T118, h118, X118, e118, W118, st118⟩ := putF X112 hx hZ hown (host := "") (Or.inl (ww hw 52 rfl)) Via.refl e112 f116 f117 (Or.inl (ww hw 53 rfl)) (ww hw 41 rfl) (ty := (.array .int)) (by decide) rfl rfl (g := (mkF m 28 #[vr t, vi wd] [(.ref b112), (.ref t)])) rfl rfl (dd 13 rfl)
  have N118 := Fr.snoc X118 N111 ga
  have K118 := K112.wr W118 (Or.inl (List.mem_of_getElem? (i := 0) rfl))
  have F118 := f116.same W118
  have f119 := ((((((D_width.ext E102).other W105 (Or.inr (slot_ne (Or.inr (ww hw 55 rfl)) (Or.inl (ww hw 48 rfl)) (by decide) (t := .int) (t' := (.array .byte)) (by decide) (by decide)))).ext E106).other W111 (Or.inr (slot_ne (Or.inr (ww hw 55 rfl)) (Or.inl (ww hw 51 rfl)) (by decide) (t := .int) (t' := (.array .int)) (by decide) (by decide)))).ext E112).other W118 (Or.inr (slot_ne (Or.inr (ww hw 55 rfl)) (Or.inl (ww hw 53 rfl)) (by decide) (t := .int) (t' := (.array .int)) (by decide) (by decide))))
  have f120 := (f117.wr W118)
  obtain ⟨T121, h121, X121, e121, W121, st121⟩ := putF X118 hx hZ hown (host := "") (Or.inl (ww hw 54 rfl)) Via.refl e118 f119 f120 (Or.inr ⟨(ww hw 55 rfl), rfl, hnm⟩) (ww hw 41 rfl) (ty := .int) (by decide) rfl rfl (g := (mkF m 33 #[vr t, vi wd] [(.int wd), (.ref t)])) rfl rfl (dd 16 rfl)
  have N121 := Fr.snoc X121 N118 ga
  have K121 := K118.wr W121 (Or.inl (List.mem_of_getElem? (i := 0) rfl))
  have F121 := f119.same W121
  refine own_go (S' := (T121.setTop (mkF m 36 #[vr t, vi wd] []))) (fun tq kq => XS.aloadN X0.here hx rfl (dd 0 rfl) rfl rfl (st101 tq (XS.aloadN X101.here hx rfl (dd 2 rfl) rfl rfl (XS.sipush X101.here hx rfl (dd 3 rfl) (st102 tq (st105 tq (XS.aloadN X105.here hx rfl (dd 6 rfl) rfl rfl (XS.sipush X105.here hx rfl (dd 7 rfl) (st106 tq (st111 tq (XS.aloadN X111.here hx rfl (dd 10 rfl) rfl rfl (XS.sipush X111.here hx rfl (dd 11 rfl) (st112 tq (st118 tq (XS.aloadN X118.here hx rfl (dd 14 rfl) rfl rfl (XS.iloadN X118.here hx rfl (dd 15 rfl) rfl (st121 tq kq))))))))))))))))) ?_
  refine own_retV X121 hx hlk hret (dd 17 rfl) (by decide) (by decide) ?_
  have f122 := (f120.wr W121)
  have f123 := (((((F105.ext E106).other W111 (Or.inr (slot_ne (Or.inl (ww hw 48 rfl)) (Or.inl (ww hw 51 rfl)) (by decide) (t := (.array .byte)) (t' := (.array .int)) (by decide) (by decide)))).ext E112).other W118 (Or.inr (slot_ne (Or.inl (ww hw 48 rfl)) (Or.inl (ww hw 53 rfl)) (by decide) (t := (.array .byte)) (t' := (.array .int)) (by decide) (by decide)))).other W121 (Or.inr (slot_ne (Or.inl (ww hw 48 rfl)) (Or.inr (ww hw 55 rfl)) (by decide) (t := (.array .byte)) (t' := .int) (by decide) (by decide))))
  have f124 := (((((((D_used.ext E102).other W105 (Or.inr (slot_ne (Or.inl (ww hw 102 rfl)) (Or.inl (ww hw 48 rfl)) (by decide) (t := .int) (t' := (.array .byte)) (by decide) (by decide)))).ext E106).other W111 (Or.inr (slot_ne (Or.inl (ww hw 102 rfl)) (Or.inl (ww hw 51 rfl)) (by decide) (t := .int) (t' := (.array .int)) (by decide) (by decide)))).ext E112).other W118 (Or.inr (slot_ne (Or.inl (ww hw 102 rfl)) (Or.inl (ww hw 53 rfl)) (by decide) (t := .int) (t' := (.array .int)) (by decide) (by decide)))).other W121 (Or.inr (slot_ne (Or.inl (ww hw 102 rfl)) (Or.inr (ww hw 55 rfl)) (by decide) (t := .int) (t' := .int) (by decide) (by decide))))
  have f125 := (((F111.ext E112).other W118 (Or.inr (slot_ne (Or.inl (ww hw 51 rfl)) (Or.inl (ww hw 53 rfl)) (by decide) (t := (.array .int)) (t' := (.array .int)) (by decide) (by decide)))).other W121 (Or.inr (slot_ne (Or.inl (ww hw 51 rfl)) (Or.inr (ww hw 55 rfl)) (by decide) (t := (.array .int)) (t' := .int) (by decide) (by decide))))
  have f126 := (F118.other W121 (Or.inr (slot_ne (Or.inl (ww hw 53 rfl)) (Or.inr (ww hw 55 rfl)) (by decide) (t := (.array .int)) (t' := .int) (by decide) (by decide))))
  have f127 := (((((((D_size.ext E102).other W105 (Or.inr (slot_ne (Or.inl (ww hw 108 rfl)) (Or.inl (ww hw 48 rfl)) (by decide) (t := .int) (t' := (.array .byte)) (by decide) (by decide)))).ext E106).other W111 (Or.inr (slot_ne (Or.inl (ww hw 108 rfl)) (Or.inl (ww hw 51 rfl)) (by decide) (t := .int) (t' := (.array .int)) (by decide) (by decide)))).ext E112).other W118 (Or.inr (slot_ne (Or.inl (ww hw 108 rfl)) (Or.inl (ww hw 53 rfl)) (by decide) (t := .int) (t' := (.array .int)) (by decide) (by decide)))).other W121 (Or.inr (slot_ne (Or.inl (ww hw 108 rfl)) (Or.inr (ww hw 55 rfl)) (by decide) (t := .int) (t' := .int) (by decide) (by decide))))
  have f128 := (((f113.ext E112).other W118 (Ne.symm ne_t_b102)).other W121 (Ne.symm ne_t_b102))
  have f129 := (((f114.ext E112).other W118 (Ne.symm ne_t_b106)).other W121 (Ne.symm ne_t_b106))
  have f130 := ((V112.other W118 (Ne.symm ne_t_b112)).other W121 (Ne.symm ne_t_b112))
  rw [e121]
  exact ⟨rfl, N121, K121, b102, b106, b112, _, _, _, ⟨⟨f122, F121, f123, f124, f125, f126, f127⟩, ⟨f128, f129, f130⟩, ⟨List.length_replicate, List.length_replicate⟩, ne_t_b102, ne_t_b106, ne_t_b112, ne_b102_b106, ne_b102_b112, ne_b106_b112⟩, gk_b102, gk_b106, gk_b112⟩
def Q_rm17 (Z : State) (h0 : Heap) (n0 : Nat) (t : Addr) (bb : Addr) (bs : Addr) (bk : Addr) (k1 : ClassId) (k2 : ClassId) (k3 : ClassId) (wd : Int32) (bl : List Int) (sl : List Value) (kl : List Value) (r : Nat) (nd : Int32) (v : Option Value) (h : Heap) (L : List Loc) : Prop := v = none ∧ Fr n0 L ∧ h = h0
theorem rm17 (l : Launch) (Z : State) (a0 : Array Value) (hw : ∀ d ∈ tables_1, d.before a0 Z = true) (ws : List Jvm.Cond) (h0 : Heap) (n0 : Nat) (O0 : Old Z n0 h0) (t : Addr) (bb : Addr) (bs : Addr) (bk : Addr) (k1 : ClassId) (k2 : ClassId) (k3 : ClassId) (wd : Int32) (bl : List Int) (sl : List Value) (kl : List Value) (r : Nat) (nd : Int32) (TRh : own_TR Z h0 t bb bs bk k1 k2 k3 wd bl sl kl r) (hr : r ≤ 1) (hbl : bl.length ≤ 2000) (hnd : ¬ (((4096 : Int32) - (Int32.ofNat bl.length)) < nd)) :
    MetFree l M21 (head1 (Jvm.Cond.code M21 prog_15_method_8_code 3 none :: ws) ({ frames := 0, cells := 0, slots := 0, locals := 0 } : Room)) (fun aq U => aq = #[(.ref t), (.int nd)] ∧ Z.Warmed39 U.vm ∧ U.heap = h0) (fun _ _ _ _ _ => True) (fun _ U oo U' => ∃ v L, oo = .returned v ∧ Q_rm17 Z h0 n0 t bb bs bk k1 k2 k3 wd bl sl kl r nd v U'.heap L ∧ FrameEnd U oo U' L ({ frames := 0, cells := 0, slots := 0, locals := 0 } : Room).cells ({ frames := 0, cells := 0, slots := 0, locals := 0 } : Room).slots) := by
  refine MetFree.of_bodySF (plainFor_of_name pn_rm9) hisR ?_
  intro p e s m args below meth c s₁ Bd hml0 hP hK
  obtain ⟨rfl, hZ, hh⟩ := hP
  have hx := Bd.exec
  have hby := Bd.bytes
  have dd := @dq _ _ _ hby D17
  have hml : c.maxLocals = 3 := hml0
  have hown : s.vm.findClass "com/example/vestwright/vestwright/cli/TableRows" = some m.cls := findClass_of_methodNamed Bd.named
  have hnm := (name_of_methodNamed Bd.named Bd.method).1
  have hlk := Bd.notSynchronized
  have hret := Bd.returns
  have X0 : Stand p l e ({ frames := 0, cells := 0, slots := 0, locals := 0 } : Room) s m #[(.ref t), (.int nd)] below meth c s₁ [] 0 0 := Stand.of_body Bd
  have e0 : s₁.heap = h0 := by rw [← hh, Bd.state]; rfl
  have N0 := Fr.nil n0
  have K0 := Keep.refl h0 []
  refine own_go (S' := (s₁.setTop (mkF m 0 #[vr t, vi nd, .unset] []))) (fun tq kq => castTop rfl kq) ?_
  show own_G p e s below (Q_rm17 Z h0 n0 t bb bs bk k1 k2 k3 wd bl sl kl r nd) _ _ _
  obtain ⟨⟨Et, Fw, Fb, Fu, Fs, Fk, Fz⟩, ⟨Vb, Vs, Vk⟩, ⟨ls, lk⟩, nq1, nq2, nq3, nq4, nq5, nq6⟩ := TRh
  obtain ⟨T101, X101, e101, st101⟩ := getF X0 hx hZ hown (host := "") (Or.inl (ww hw 47 rfl)) Via.refl e0 Fb (g := (mkF m 1 #[vr t, vi nd, .unset] [(.ref t)])) rfl rfl (dd 1 rfl)
  obtain ⟨cl102, Ar102, ln102⟩ := Vb.len
  have lq102 : cl102.slots.size.toInt32 = (4096 : Int32) := ln102.trans (by rw [own_padlen (by rw [own_bvlen]; omega)]; rfl)
  obtain ⟨T103, X103, e103, st103⟩ := getF X101 hx hZ hown (host := "") (Or.inl (ww hw 101 rfl)) Via.refl e101 Fu (g := (mkF m 6 #[vr t, vi nd, .unset] [(.ref t), (.int 4096)])) rfl rfl (dd 4 rfl)
  obtain ⟨T104, X104, e104, st104⟩ := getF X103 hx hZ hown (host := "") (Or.inl (ww hw 107 rfl)) Via.refl e103 Fz (g := (mkF m 54 #[vr t, vi nd, .unset] [(.ref t)])) rfl rfl (dd 9 rfl)
  obtain ⟨T105, X105, e105, st105⟩ := getF X104 hx hZ hown (host := "") (Or.inl (ww hw 50 rfl)) Via.refl e104 Fs (g := (mkF m 58 #[vr t, vi nd, .unset] [(.ref t), (.int (Int32.ofNat r))])) rfl rfl (dd 11 rfl)
  obtain ⟨cl106, Ar106, ln106⟩ := Vs.len
  have lq106 : cl106.slots.size.toInt32 = (4096 : Int32) := ln106.trans (by rw [ls]; rfl)
  refine own_go (S' := (T105.setTop (mkF m 106 #[vr t, vi nd, .unset] []))) (fun tq kq => XS.aloadN X0.here hx rfl (dd 0 rfl) rfl rfl (st101 tq (X101.arraylength hx (by rw [e101]; exact Ar102.1) (State.isArrayOf_alike hZ.alike Ar102.2.1) (g := (mkF m 4 #[vr t, vi nd, .unset] [(.ref bb)])) rfl rfl (dd 2 rfl) tq (by rw [lq102]; exact (XS.aloadN X101.here hx rfl (dd 3 rfl) rfl rfl (st103 tq (XS.isub X103.here hx rfl (dd 5 rfl) rfl (XS.iloadN X103.here hx rfl (dd 6 rfl) rfl (XS.icmpYes X103.here hx rfl (pc0 := 11) (pc' := 53) rfl (dd 7 rfl) rfl (flt hnd).2.1 (by decide) (by decide) (XS.aloadN X103.here hx rfl (dd 8 rfl) rfl rfl (st104 tq (XS.aloadN X104.here hx rfl (dd 10 rfl) rfl rfl (st105 tq (X105.arraylength hx (by rw [e105]; exact Ar106.1) (State.isArrayOf_alike hZ.alike Ar106.2.1) (g := (mkF m 61 #[vr t, vi nd, .unset] [(.ref bs), (.int (Int32.ofNat r))])) rfl rfl (dd 12 rfl) tq (by rw [lq106]; exact (XS.icmpYes X105.here hx rfl (pc0 := 62) (pc' := 106) rfl (dd 13 rfl) rfl (feq (fun q => absurd ((own_eqN (b := 4096) (by omega) (by decide)).mp q) (by omega))).2 (by decide) (by decide) kq)))))))))))))))) ?_
  refine own_retV X105 hx hlk hret (dd 14 rfl) (by decide) (by decide) ?_
  exact ⟨rfl, N0, e105⟩
def Q_rm18 (Z : State) (h0 : Heap) (n0 : Nat) (t : Addr) (bb : Addr) (bs : Addr) (bk : Addr) (k1 : ClassId) (k2 : ClassId) (k3 : ClassId) (wd : Int32) (bl : List Int) (sl : List Value) (kl : List Value) (r : Nat) (n : Nat) (v : Option Value) (h : Heap) (L : List Loc) : Prop := v = none ∧ Fr n0 L ∧ Keep h0 h [t, bb] ∧ own_TR Z h t bb bs bk k1 k2 k3 wd (bl ++ own_vl n) sl kl r
theorem rm18 (l : Launch) (Z : State) (a0 : Array Value) (hw : ∀ d ∈ tables_1, d.before a0 Z = true) (ws : List Jvm.Cond) (h0 : Heap) (n0 : Nat) (O0 : Old Z n0 h0) (t : Addr) (bb : Addr) (bs : Addr) (bk : Addr) (k1 : ClassId) (k2 : ClassId) (k3 : ClassId) (wd : Int32) (bl : List Int) (sl : List Value) (kl : List Value) (r : Nat) (n : Nat) (TRh : own_TR Z h0 t bb bs bk k1 k2 k3 wd bl sl kl r) (hbl : bl.length ≤ 2000) (hn16 : n < 16384) (gt : n0 ≤ t) (gbb : n0 ≤ bb) :
    MetFree l M12 (head1 (Jvm.Cond.code M12 prog_15_method_7_code 3 none :: ws) ({ frames := 0, cells := 0, slots := 0, locals := 0 } : Room)) (fun aq U => aq = #[(.ref t), (.int (Int32.ofNat n))] ∧ Z.Warmed39 U.vm ∧ U.heap = h0) (fun _ _ _ _ _ => True) (fun _ U oo U' => ∃ v L, oo = .returned v ∧ Q_rm18 Z h0 n0 t bb bs bk k1 k2 k3 wd bl sl kl r n v U'.heap L ∧ FrameEnd U oo U' L ({ frames := 0, cells := 0, slots := 0, locals := 0 } : Room).cells ({ frames := 0, cells := 0, slots := 0, locals := 0 } : Room).slots) := by
  refine MetFree.of_bodySF (plainFor_of_name pn_rm9) hisR ?_
  intro p e s m args below meth c s₁ Bd hml0 hP hK
  obtain ⟨rfl, hZ, hh⟩ := hP
  have hx := Bd.exec
  have hby := Bd.bytes
  have dd := @dq _ _ _ hby D18
  have hml : c.maxLocals = 3 := hml0
  have hown : s.vm.findClass "com/example/vestwright/vestwright/cli/TableRows" = some m.cls := findClass_of_methodNamed Bd.named
  have hnm := (name_of_methodNamed Bd.named Bd.method).1
  have hlk := Bd.notSynchronized
  have hret := Bd.returns
  have X0 : Stand p l e ({ frames := 0, cells := 0, slots := 0, locals := 0 } : Room) s m #[(.ref t), (.int (Int32.ofNat n))] below meth c s₁ [] 0 0 := Stand.of_body Bd
  have e0 : s₁.heap = h0 := by rw [← hh, Bd.state]; rfl
  have N0 := Fr.nil n0
  have K0 := Keep.refl h0 [t, bb]
  refine own_go (S' := (s₁.setTop (mkF m 0 #[vr t, vi (Int32.ofNat n), .unset] []))) (fun tq kq => castTop rfl kq) ?_
  show own_G p e s below (Q_rm18 Z h0 n0 t bb bs bk k1 k2 k3 wd bl sl kl r n) _ _ _
  obtain ⟨⟨Et, Fw, Fb, Fu, Fs, Fk, Fz⟩, ⟨Vb, Vs, Vk⟩, ⟨ls, lk⟩, nq1, nq2, nq3, nq4, nq5, nq6⟩ := TRh
  have hl1 : (own_bv bl).length = bl.length := own_bvlen bl
  refine own_go (S' := (s₁.setTop (mkF m 6 #[vr t, vi (Int32.ofNat n), vi (Int32.ofNat n)] [(.int 128), (.int (Int32.ofNat n))]))) (fun tq kq => XS.iloadN X0.here hx rfl (dd 0 rfl) rfl (XS.istoreN X0.here hx rfl (dd 1 rfl) rfl (l' := #[vr t, vi (Int32.ofNat n), vi (Int32.ofNat n)]) rfl (XS.iloadN X0.here hx rfl (dd 2 rfl) rfl (XS.sipush X0.here hx rfl (dd 3 rfl) kq)))) ?_
  by_cases hc1 : n < 128
  · obtain ⟨T101, X101, e101, st101⟩ := getF X0 hx hZ hown (host := "") (Or.inl (ww hw 47 rfl)) Via.refl e0 Fb (g := (mkF m 43 #[vr t, vi (Int32.ofNat n), vi (Int32.ofNat n)] [(.ref t)])) rfl rfl (dd 6 rfl)
    obtain ⟨T102, X102, e102, st102⟩ := getF X101 hx hZ hown (host := "") (Or.inl (ww hw 101 rfl)) Via.refl e101 Fu (g := (mkF m 48 #[vr t, vi (Int32.ofNat n), vi (Int32.ofNat n)] [(.ref t), (.ref t), (.ref bb)])) rfl rfl (dd 9 rfl)
    refine own_go (S' := (T102.setTop (mkF m 54 #[vr t, vi (Int32.ofNat n), vi (Int32.ofNat n)] [(.int ((Int32.ofNat bl.length) + (1 : Int32))), (.ref t), (.int (Int32.ofNat bl.length)), (.ref bb)]))) (fun tq kq => XS.icmpYes X0.here hx rfl (pc0 := 6) (pc' := 42) rfl (dd 4 rfl) rfl (tlt ((own_lt (b := 128) (by omega) (by decide)).mpr (by omega))).1 (by decide) (by decide) (XS.aloadN X0.here hx rfl (dd 5 rfl) rfl rfl (st101 tq (XS.aloadN X101.here hx rfl (dd 7 rfl) rfl rfl (XS.dup X101.here hx rfl (dd 8 rfl) rfl rfl (st102 tq (XS.dupX1 X102.here hx rfl (dd 10 rfl) rfl rfl rfl (XS.iconst X102.here hx rfl (dd 11 rfl) (XS.iadd X102.here hx rfl (dd 12 rfl) rfl kq))))))))) ?_
    rw [own_succ (bl.length)]
    obtain ⟨T103, h103, X103, e103, W103, st103⟩ := putF X102 hx hZ hown (host := "") (Or.inl (ww hw 101 rfl)) Via.refl e102 Fu Et (Or.inl (ww hw 102 rfl)) (ww hw 41 rfl) (ty := .int) (by decide) rfl rfl (g := (mkF m 54 #[vr t, vi (Int32.ofNat n), vi (Int32.ofNat n)] [(.int (Int32.ofNat (bl.length + 1))), (.ref t), (.int (Int32.ofNat bl.length)), (.ref bb)])) rfl rfl (dd 13 rfl)
    have N103 := Fr.snoc X103 N0 gt
    have K103 := K0.wr W103 (Or.inl (List.mem_of_getElem? (i := 0) rfl))
    have F103 := Fu.same W103
    have f104 := (Vb.other W103 (Ne.symm nq1))
    obtain ⟨cl105, Ar105, qa105, sa105, hin105, -⟩ := f104.at (j := (Int32.ofNat bl.length)) (own_pos (by omega)) (by rw [own_clamp (by omega), ← hl1]; exact own_padat (by omega))
    obtain ⟨T105, h105, X105, e105, W105, st105⟩ := stB X103 hx hZ e103 Ar105 (j := (Int32.ofNat bl.length)) hin105 (g := (mkF m 59 #[vr t, vi (Int32.ofNat n), vi (Int32.ofNat n)] [(.int ((Int32.ofNat n).toInt8.toInt32)), (.int (Int32.ofNat bl.length)), (.ref bb)])) rfl rfl (dd 16 rfl)
    have N105 := Fr.snoc X105 N103 gbb
    have K105 := K103.wr W105 (Or.inl (List.mem_of_getElem? (i := 1) rfl))
    have V105 : own_Ar Z h105 bb k1 .byte (own_pad ((own_bv bl) ++ [.int (Int32.ofInt (n : Nat))]) 4096 (.int 0)) := (by have q := (own_Ar.set Ar105 qa105 sa105 f104.small W105); rw [own_clamp (by omega), ← hl1, own_padset (by omega), show nar .byte ((Int32.ofNat n).toInt8.toInt32) = Int32.ofInt (n : Nat) from own_lbE1 hc1] at q; exact q)
    refine own_go (S' := (T105.setTop (mkF m 60 #[vr t, vi (Int32.ofNat n), vi (Int32.ofNat n)] []))) (fun tq kq => st103 tq (XS.iloadN X103.here hx rfl (dd 14 rfl) rfl (XS.i2b X103.here hx rfl (dd 15 rfl) rfl (st105 tq kq)))) ?_
    refine own_retV X105 hx hlk hret (dd 17 rfl) (by decide) (by decide) ?_
    have eL : (bl ++ own_vl n).length = bl.length + 1 := by simp [own_vl1 hc1]
    have eV : own_bv (bl ++ own_vl n) = own_bv bl ++ [Value.int (Int32.ofInt (n : Nat))] := by rw [own_bvapp, own_vl1 hc1]; simp [own_bv]
    have f106 := (F103.other W105 (Or.inl nq1))
    have Fu2 : Fld Z h105 t "com/example/vestwright/vestwright/cli/TableRows" "used" "I" (.int (Int32.ofNat (bl ++ own_vl n).length)) := by rw [eL]; exact f106
    have Vb2 : own_Ar Z h105 bb k1 .byte (own_pad (own_bv (bl ++ own_vl n)) 4096 (.int 0)) := by rw [eV]; exact V105
    have f107 := ((Et.wr W103).wr W105)
    have f108 := ((Fw.other W103 (Or.inr (slot_ne (Or.inr (ww hw 55 rfl)) (Or.inl (ww hw 102 rfl)) (by decide) (t := .int) (t' := .int) (by decide) (by decide)))).other W105 (Or.inl nq1))
    have f109 := ((Fb.other W103 (Or.inr (slot_ne (Or.inl (ww hw 48 rfl)) (Or.inl (ww hw 102 rfl)) (by decide) (t := (.array .byte)) (t' := .int) (by decide) (by decide)))).other W105 (Or.inl nq1))
    have f110 := ((Fs.other W103 (Or.inr (slot_ne (Or.inl (ww hw 51 rfl)) (Or.inl (ww hw 102 rfl)) (by decide) (t := (.array .int)) (t' := .int) (by decide) (by decide)))).other W105 (Or.inl nq1))
    have f111 := ((Fk.other W103 (Or.inr (slot_ne (Or.inl (ww hw 53 rfl)) (Or.inl (ww hw 102 rfl)) (by decide) (t := (.array .int)) (t' := .int) (by decide) (by decide)))).other W105 (Or.inl nq1))
    have f112 := ((Fz.other W103 (Or.inr (slot_ne (Or.inl (ww hw 108 rfl)) (Or.inl (ww hw 102 rfl)) (by decide) (t := .int) (t' := .int) (by decide) (by decide)))).other W105 (Or.inl nq1))
    have f113 := ((Vs.other W103 (Ne.symm nq2)).other W105 (Ne.symm nq4))
    have f114 := ((Vk.other W103 (Ne.symm nq3)).other W105 (Ne.symm nq5))
    rw [e105]
    exact ⟨rfl, N105, K105, ⟨⟨f107, f108, f109, Fu2, f110, f111, f112⟩, ⟨Vb2, f113, f114⟩, ⟨ls, lk⟩, nq1, nq2, nq3, nq4, nq5, nq6⟩⟩
  · obtain ⟨T115, X115, e115, st115⟩ := getF X0 hx hZ hown (host := "") (Or.inl (ww hw 47 rfl)) Via.refl e0 Fb (g := (mkF m 10 #[vr t, vi (Int32.ofNat n), vi (Int32.ofNat n)] [(.ref t)])) rfl rfl (dd 19 rfl)
    obtain ⟨T116, X116, e116, st116⟩ := getF X115 hx hZ hown (host := "") (Or.inl (ww hw 101 rfl)) Via.refl e115 Fu (g := (mkF m 15 #[vr t, vi (Int32.ofNat n), vi (Int32.ofNat n)] [(.ref t), (.ref t), (.ref bb)])) rfl rfl (dd 22 rfl)
    refine own_go (S' := (T116.setTop (mkF m 21 #[vr t, vi (Int32.ofNat n), vi (Int32.ofNat n)] [(.int ((Int32.ofNat bl.length) + (1 : Int32))), (.ref t), (.int (Int32.ofNat bl.length)), (.ref bb)]))) (fun tq kq => XS.icmpNo X0.here hx rfl (dd 4 rfl) rfl (flt (fun q => absurd ((own_lt (b := 128) (by omega) (by decide)).mp q) (by omega))).1 (XS.aloadN X0.here hx rfl (dd 18 rfl) rfl rfl (st115 tq (XS.aloadN X115.here hx rfl (dd 20 rfl) rfl rfl (XS.dup X115.here hx rfl (dd 21 rfl) rfl rfl (st116 tq (XS.dupX1 X116.here hx rfl (dd 23 rfl) rfl rfl rfl (XS.iconst X116.here hx rfl (dd 24 rfl) (XS.iadd X116.here hx rfl (dd 25 rfl) rfl kq))))))))) ?_
    rw [own_succ (bl.length)]
    obtain ⟨T117, h117, X117, e117, W117, st117⟩ := putF X116 hx hZ hown (host := "") (Or.inl (ww hw 101 rfl)) Via.refl e116 Fu Et (Or.inl (ww hw 102 rfl)) (ww hw 41 rfl) (ty := .int) (by decide) rfl rfl (g := (mkF m 21 #[vr t, vi (Int32.ofNat n), vi (Int32.ofNat n)] [(.int (Int32.ofNat (bl.length + 1))), (.ref t), (.int (Int32.ofNat bl.length)), (.ref bb)])) rfl rfl (dd 26 rfl)
    have N117 := Fr.snoc X117 N0 gt
    have K117 := K0.wr W117 (Or.inl (List.mem_of_getElem? (i := 0) rfl))
    have F117 := Fu.same W117
    have f118 := (Vb.other W117 (Ne.symm nq1))
    obtain ⟨cl119, Ar119, qa119, sa119, hin119, -⟩ := f118.at (j := (Int32.ofNat bl.length)) (own_pos (by omega)) (by rw [own_clamp (by omega), ← hl1]; exact own_padat (by omega))
    obtain ⟨T119, h119, X119, e119, W119, st119⟩ := stB X117 hx hZ e117 Ar119 (j := (Int32.ofNat bl.length)) hin119 (g := (mkF m 33 #[vr t, vi (Int32.ofNat n), vi (Int32.ofNat n)] [(.int ((((Int32.ofNat n) &&& (127 : Int32)) ||| (128 : Int32)).toInt8.toInt32)), (.int (Int32.ofNat bl.length)), (.ref bb)])) rfl rfl (dd 33 rfl)
    have N119 := Fr.snoc X119 N117 gbb
    have K119 := K117.wr W119 (Or.inl (List.mem_of_getElem? (i := 1) rfl))
    have V119 : own_Ar Z h119 bb k1 .byte (own_pad ((own_bv bl) ++ [.int (Int32.ofInt ((n % 128 : Nat) - 128 : Int))]) 4096 (.int 0)) := (by have q := (own_Ar.set Ar119 qa119 sa119 f118.small W119); rw [own_clamp (by omega), ← hl1, own_padset (by omega), show nar .byte ((((Int32.ofNat n) &&& (127 : Int32)) ||| (128 : Int32)).toInt8.toInt32) = Int32.ofInt ((n % 128 : Nat) - 128 : Int) from own_vb (show n < 2 ^ 30 by omega)] at q; exact q)
    refine own_go (S' := (T119.setTop (mkF m 38 #[vr t, vi (Int32.ofNat n), vi (Int32.ofNat n)] [(.int (((Int32.ofNat n).toUInt32 >>> ((7 : Int32) &&& 31).toUInt32).toInt32))]))) (fun tq kq => st117 tq (XS.iloadN X117.here hx rfl (dd 27 rfl) rfl (XS.bipush X117.here hx rfl (dd 28 rfl) (XS.iand X117.here hx rfl (dd 29 rfl) rfl (XS.sipush X117.here hx rfl (dd 30 rfl) (XS.ior X117.here hx rfl (dd 31 rfl) rfl (XS.i2b X117.here hx rfl (dd 32 rfl) rfl (st119 tq (XS.iloadN X119.here hx rfl (dd 34 rfl) rfl (XS.bipush X119.here hx rfl (dd 35 rfl) (XS.iushr X119.here hx rfl (dd 36 rfl) rfl kq))))))))))) ?_
    rw [own_sh7 (by omega)]
    have f120 := ((Fb.other W117 (Or.inr (slot_ne (Or.inl (ww hw 48 rfl)) (Or.inl (ww hw 102 rfl)) (by decide) (t := (.array .byte)) (t' := .int) (by decide) (by decide)))).other W119 (Or.inl nq1))
    obtain ⟨T121, X121, e121, st121⟩ := getF X119 hx hZ hown (host := "") (Or.inl (ww hw 47 rfl)) Via.refl e119 f120 (g := (mkF m 43 #[vr t, vi (Int32.ofNat n), vi (Int32.ofNat (n / 128))] [(.ref t)])) rfl rfl (dd 6 rfl)
    have f122 := (F117.other W119 (Or.inl nq1))
    obtain ⟨T123, X123, e123, st123⟩ := getF X121 hx hZ hown (host := "") (Or.inl (ww hw 101 rfl)) Via.refl e121 f122 (g := (mkF m 48 #[vr t, vi (Int32.ofNat n), vi (Int32.ofNat (n / 128))] [(.ref t), (.ref t), (.ref bb)])) rfl rfl (dd 9 rfl)
    refine own_go (S' := (T123.setTop (mkF m 54 #[vr t, vi (Int32.ofNat n), vi (Int32.ofNat (n / 128))] [(.int ((Int32.ofNat (bl.length + 1)) + (1 : Int32))), (.ref t), (.int (Int32.ofNat (bl.length + 1))), (.ref bb)]))) (fun tq kq => XS.istoreN X119.here hx rfl (dd 37 rfl) rfl (l' := #[vr t, vi (Int32.ofNat n), vi (Int32.ofNat (n / 128))]) rfl (XS.goto X119.here hx rfl (pc0 := 39) (pc' := 2) rfl (dd 38 rfl) (by decide) (by decide) (XS.iloadN X119.here hx rfl (dd 2 rfl) rfl (XS.sipush X119.here hx rfl (dd 3 rfl) (XS.icmpYes X119.here hx rfl (pc0 := 6) (pc' := 42) rfl (dd 4 rfl) rfl (tlt ((own_lt (b := 128) (by omega) (by decide)).mpr (by omega))).1 (by decide) (by decide) (XS.aloadN X119.here hx rfl (dd 5 rfl) rfl rfl (st121 tq (XS.aloadN X121.here hx rfl (dd 7 rfl) rfl rfl (XS.dup X121.here hx rfl (dd 8 rfl) rfl rfl (st123 tq (XS.dupX1 X123.here hx rfl (dd 10 rfl) rfl rfl rfl (XS.iconst X123.here hx rfl (dd 11 rfl) (XS.iadd X123.here hx rfl (dd 12 rfl) rfl kq))))))))))))) ?_
    rw [own_succ (bl.length + 1)]
    have f124 := ((Et.wr W117).wr W119)
    obtain ⟨T125, h125, X125, e125, W125, st125⟩ := putF X123 hx hZ hown (host := "") (Or.inl (ww hw 101 rfl)) Via.refl e123 f122 f124 (Or.inl (ww hw 102 rfl)) (ww hw 41 rfl) (ty := .int) (by decide) rfl rfl (g := (mkF m 54 #[vr t, vi (Int32.ofNat n), vi (Int32.ofNat (n / 128))] [(.int (Int32.ofNat (bl.length + 1 + 1))), (.ref t), (.int (Int32.ofNat (bl.length + 1))), (.ref bb)])) rfl rfl (dd 13 rfl)
    have N125 := Fr.snoc X125 N119 gt
    have K125 := K119.wr W125 (Or.inl (List.mem_of_getElem? (i := 0) rfl))
    have F125 := f122.same W125
    have hl2 : (own_bv bl ++ [Value.int (Int32.ofInt ((n % 128 : Nat) - 128 : Int))]).length = bl.length + 1 := by rw [List.length_append, hl1]; rfl
    have f126 := (V119.other W125 (Ne.symm nq1))
    obtain ⟨cl127, Ar127, qa127, sa127, hin127, -⟩ := f126.at (j := (Int32.ofNat (bl.length + 1))) (own_pos (by omega)) (by rw [own_clamp (by omega), ← hl2]; exact own_padat (by omega))
    obtain ⟨T127, h127, X127, e127, W127, st127⟩ := stB X125 hx hZ e125 Ar127 (j := (Int32.ofNat (bl.length + 1))) hin127 (g := (mkF m 59 #[vr t, vi (Int32.ofNat n), vi (Int32.ofNat (n / 128))] [(.int ((Int32.ofNat (n / 128)).toInt8.toInt32)), (.int (Int32.ofNat (bl.length + 1))), (.ref bb)])) rfl rfl (dd 16 rfl)
    have N127 := Fr.snoc X127 N125 gbb
    have K127 := K125.wr W127 (Or.inl (List.mem_of_getElem? (i := 1) rfl))
    have V127 : own_Ar Z h127 bb k1 .byte (own_pad ((own_bv bl ++ [Value.int (Int32.ofInt ((n % 128 : Nat) - 128 : Int))]) ++ [.int (Int32.ofInt ((n / 128 : Nat) : Int))]) 4096 (.int 0)) := (by have q := (own_Ar.set Ar127 qa127 sa127 f126.small W127); rw [own_clamp (by omega), ← hl2, own_padset (by omega), show nar .byte ((Int32.ofNat (n / 128)).toInt8.toInt32) = Int32.ofInt ((n / 128 : Nat) : Int) from own_lbE1 (show n / 128 < 128 by omega)] at q; exact q)
    refine own_go (S' := (T127.setTop (mkF m 60 #[vr t, vi (Int32.ofNat n), vi (Int32.ofNat (n / 128))] []))) (fun tq kq => st125 tq (XS.iloadN X125.here hx rfl (dd 14 rfl) rfl (XS.i2b X125.here hx rfl (dd 15 rfl) rfl (st127 tq kq)))) ?_
    refine own_retV X127 hx hlk hret (dd 17 rfl) (by decide) (by decide) ?_
    have eL : (bl ++ own_vl n).length = bl.length + 1 + 1 := by simp [own_vl2 hc1]
    have eV : own_bv (bl ++ own_vl n) = own_bv bl ++ [Value.int (Int32.ofInt ((n % 128 : Nat) - 128 : Int))] ++ [Value.int (Int32.ofInt ((n / 128 : Nat) : Int))] := by rw [own_bvapp, own_vl2 hc1]; simp [own_bv]
    have f128 := (F125.other W127 (Or.inl nq1))
    have Fu2 : Fld Z h127 t "com/example/vestwright/vestwright/cli/TableRows" "used" "I" (.int (Int32.ofNat (bl ++ own_vl n).length)) := by rw [eL]; exact f128
    have Vb2 : own_Ar Z h127 bb k1 .byte (own_pad (own_bv (bl ++ own_vl n)) 4096 (.int 0)) := by rw [eV]; exact V127
    have f129 := ((f124.wr W125).wr W127)
    have f130 := ((((Fw.other W117 (Or.inr (slot_ne (Or.inr (ww hw 55 rfl)) (Or.inl (ww hw 102 rfl)) (by decide) (t := .int) (t' := .int) (by decide) (by decide)))).other W119 (Or.inl nq1)).other W125 (Or.inr (slot_ne (Or.inr (ww hw 55 rfl)) (Or.inl (ww hw 102 rfl)) (by decide) (t := .int) (t' := .int) (by decide) (by decide)))).other W127 (Or.inl nq1))
    have f131 := ((f120.other W125 (Or.inr (slot_ne (Or.inl (ww hw 48 rfl)) (Or.inl (ww hw 102 rfl)) (by decide) (t := (.array .byte)) (t' := .int) (by decide) (by decide)))).other W127 (Or.inl nq1))
    have f132 := ((((Fs.other W117 (Or.inr (slot_ne (Or.inl (ww hw 51 rfl)) (Or.inl (ww hw 102 rfl)) (by decide) (t := (.array .int)) (t' := .int) (by decide) (by decide)))).other W119 (Or.inl nq1)).other W125 (Or.inr (slot_ne (Or.inl (ww hw 51 rfl)) (Or.inl (ww hw 102 rfl)) (by decide) (t := (.array .int)) (t' := .int) (by decide) (by decide)))).other W127 (Or.inl nq1))
    have f133 := ((((Fk.other W117 (Or.inr (slot_ne (Or.inl (ww hw 53 rfl)) (Or.inl (ww hw 102 rfl)) (by decide) (t := (.array .int)) (t' := .int) (by decide) (by decide)))).other W119 (Or.inl nq1)).other W125 (Or.inr (slot_ne (Or.inl (ww hw 53 rfl)) (Or.inl (ww hw 102 rfl)) (by decide) (t := (.array .int)) (t' := .int) (by decide) (by decide)))).other W127 (Or.inl nq1))
    have f134 := ((((Fz.other W117 (Or.inr (slot_ne (Or.inl (ww hw 108 rfl)) (Or.inl (ww hw 102 rfl)) (by decide) (t := .int) (t' := .int) (by decide) (by decide)))).other W119 (Or.inl nq1)).other W125 (Or.inr (slot_ne (Or.inl (ww hw 108 rfl)) (Or.inl (ww hw 102 rfl)) (by decide) (t := .int) (t' := .int) (by decide) (by decide)))).other W127 (Or.inl nq1))
    have f135 := ((((Vs.other W117 (Ne.symm nq2)).other W119 (Ne.symm nq4)).other W125 (Ne.symm nq2)).other W127 (Ne.symm nq4))
    have f136 := ((((Vk.other W117 (Ne.symm nq3)).other W119 (Ne.symm nq5)).other W125 (Ne.symm nq3)).other W127 (Ne.symm nq5))
    rw [e127]
    exact ⟨rfl, N127, K127, ⟨⟨f129, f130, f131, Fu2, f132, f133, f134⟩, ⟨Vb2, f135, f136⟩, ⟨ls, lk⟩, nq1, nq2, nq3, nq4, nq5, nq6⟩⟩
def Q_add1 (Z : State) (h0 : Heap) (n0 : Nat) (t : Addr) (bb : Addr) (bs : Addr) (bk : Addr) (k1 : ClassId) (k2 : ClassId) (k3 : ClassId) (bl : List Int) (sl : List Value) (kl : List Value) (r : Nat) (ar : Addr) (kr : ClassId) (x0 : Addr) (x1 : Addr) (nn : Nat) (cs0 : List Nat) (cs1 : List Nat) (key : Int32) (z : Int32) (u : Addr) (v : Option Value) (h : Heap) (L : List Loc) : Prop := v = some (.int 1) ∧ Fr n0 L ∧ Keep h0 h [t, bb, bs, bk] ∧ own_TR Z h t bb bs bk k1 k2 k3 (1 : Int32) ((bl ++ own_vl (own_u8 cs0).length) ++ own_u8 cs0) (sl.set r (.int (Int32.ofNat bl.length))) (kl.set r (.int key)) (r + 1)
theorem add1 (l : Launch) (Z : State) (a0 : Array Value) (hw : ∀ d ∈ tables_1, d.before a0 Z = true) (ws : List Jvm.Cond) (h0 : Heap) (n0 : Nat) (O0 : Old Z n0 h0) (t : Addr) (bb : Addr) (bs : Addr) (bk : Addr) (k1 : ClassId) (k2 : ClassId) (k3 : ClassId) (bl : List Int) (sl : List Value) (kl : List Value) (r : Nat) (ar : Addr) (kr : ClassId) (x0 : Addr) (x1 : Addr) (nn : Nat) (cs0 : List Nat) (cs1 : List Nat) (key : Int32) (z : Int32) (u : Addr) (HP : own_PK Z z) (HU : own_UK Z u) (TRh : own_TR Z h0 t bb bs bk k1 k2 k3 (1 : Int32) bl sl kl r) (hr : r ≤ 1) (hbl : bl.length ≤ 1000) (hblr0 : ∀ z ∈ bl, -128 ≤ z ∧ z < 128) (gt : n0 ≤ t) (gbb : n0 ≤ bb) (gbs : n0 ≤ bs) (gbk : n0 ≤ bk) (Var : own_Ar Z h0 ar kr (.object "java/lang/String") [(.ref x0), (.ref x1)]) (S0 : own_Str Z h0 nn x0 cs0) (hl0 : cs0.length ≤ 130) (hc0 : ∀ j, cs0.getD j 0 < 32768) (S1 : own_Str Z h0 nn x1 cs1) (hl1 : cs1.length ≤ 130) (hc1 : ∀ j, cs1.getD j 0 < 32768) :
    MetFree l M2 (head1 (Jvm.Cond.code M2 prog_15_method_2_code 11 (some .boolean) :: ws) ({ frames := 6, cells := 3, slots := 1601, locals := 119 } : Room)) (fun aq U => aq = #[(.ref t), (.ref ar), (.int key)] ∧ Z.Warmed39 U.vm ∧ U.heap = h0) (fun _ _ _ _ _ => True) (fun _ U oo U' => ∃ v L, oo = .returned v ∧ Q_add1 Z h0 n0 t bb bs bk k1 k2 k3 bl sl kl r ar kr x0 x1 nn cs0 cs1 key z u v U'.heap L ∧ FrameEnd U oo U' L ({ frames := 6, cells := 3, slots := 1601, locals := 119 } : Room).cells ({ frames := 6, cells := 3, slots := 1601, locals := 119 } : Room).slots) := by
  refine MetFree.of_bodySF (plainFor_of_name pn_rm9) hisR ?_
  intro p e s m args below meth c s₁ Bd hml0 hP hK
  obtain ⟨rfl, hZ, hh⟩ := hP
  have hx := Bd.exec
  have hby := Bd.bytes
  have dd := @dq _ _ _ hby D10
  have hml : c.maxLocals = 11 := hml0
  have hown : s.vm.findClass "com/example/vestwright/vestwright/cli/TableRows" = some m.cls := findClass_of_methodNamed Bd.named
  have hnm := (name_of_methodNamed Bd.named Bd.method).1
  have hlk := Bd.notSynchronized
  have hret := Bd.returns
  have X0 : Stand p l e ({ frames := 6, cells := 3, slots := 1601, locals := 119 } : Room) s m #[(.ref t), (.ref ar), (.int key)] below meth c s₁ [] 0 0 := Stand.of_body Bd
  have e0 : s₁.heap = h0 := by rw [← hh, Bd.state]; rfl
  have N0 := Fr.nil n0
  have K0 := Keep.refl h0 [t, bb, bs, bk]
  refine own_go (S' := (s₁.setTop (mkF m 0 #[vr t, vr ar, vi key, .unset, .unset, .unset, .unset, .unset, .unset, .unset, .unset] []))) (fun tq kq => castTop rfl kq) ?_
  show own_G p e s below (Q_add1 Z h0 n0 t bb bs bk k1 k2 k3 bl sl kl r ar kr x0 x1 nn cs0 cs1 key z u) _ _ _
  obtain ⟨SC, hz, SA, SH, SL⟩ := id HP
  obtain ⟨SI, SU, EU⟩ := id HU
  obtain ⟨⟨Et, Fw, Fb, Fu, Fs, Fk, Fz⟩, ⟨Vb, Vs, Vk⟩, ⟨ls, lk⟩, nq1, nq2, nq3, nq4, nq5, nq6⟩ := TRh
  have hu0 : (own_u8 cs0).length ≤ 390 := Nat.le_trans (own_u8le cs0) (by omega)
  have hv0 := own_vll (own_u8 cs0).length
  have hu1 : (own_u8 cs1).length ≤ 390 := Nat.le_trans (own_u8le cs1) (by omega)
  have hv1 := own_vll (own_u8 cs1).length
  obtain ⟨T101, X101, e101, st101⟩ := getF X0 hx hZ hown (host := "") (Or.inl (ww hw 54 rfl)) Via.refl e0 Fw (g := (mkF m 1 #[vr t, vr ar, vi key, .unset, .unset, .unset, .unset, .unset, .unset, .unset, .unset] [(.ref t)])) rfl rfl (dd 1 rfl)
  obtain ⟨T102, h102, k102, X102, e102, E102, A102, -, Ov102, st102⟩ := newRA X101 hx hZ hown (C := "[B") (ty := .byte) (by decide +kernel) (ww hw 62 rfl) (ww hw 63 rfl) e101 (g := (mkF m 4 #[vr t, vr ar, vi key, .unset, .unset, .unset, .unset, .unset, .unset, .unset, .unset] [(.int 1)])) rfl (dd 2 rfl) rfl (by decide) (cap := 1) (by decide) (by decide) (by decide) (by decide) (ad := "[[B") (by decide +kernel)
  obtain ⟨b102, g102⟩ : ∃ z, z = h0.size := ⟨_, rfl⟩
  rw [← g102] at A102 st102
  have ne_bb_b102 := own_nE Vb.lt g102
  have ne_bk_b102 := own_nE Vk.lt g102
  have ne_bs_b102 := own_nE Vs.lt g102
  have ne_t_b102 := own_nE Et.lt g102
  have ge_b102 : n0 ≤ b102 := Nat.le_trans (own_osz O0) (Nat.le_of_eq g102.symm)
  have gk_b102 : h0.size ≤ b102 := Nat.le_trans K0.1 (Nat.le_of_eq g102.symm)
  have V102 : own_Ar Z h102 b102 k102 (.array .byte) [.null] := own_Ar.new A102 (by decide)
  have O102 := O0.ext E102
  have K102 := K0.ext E102
  have f103 := (Fw.ext E102)
  obtain ⟨T104, X104, e104, st104⟩ := getF X102 hx hZ hown (host := "") (Or.inl (ww hw 54 rfl)) Via.refl e102 f103 (g := (mkF m 17 #[vr t, vr ar, vi key, vr b102, .val (.long (0 : Int64)), .second, vi 0, .unset, .unset, .unset, .unset] [(.ref t), (.int 0)])) rfl rfl (dd 10 rfl)
  have f105 := (Var.ext E102)
  obtain ⟨cl106, Ar106, -, -, hin106, hat106⟩ := f105.at (j := (0 : Int32)) (v := (.ref x0)) (by decide) rfl
  obtain ⟨T107, X107, e107, st107⟩ := getS2 X104 hx hZ hown (host := "") (Or.inl (ww hw 64 rfl)) Via.refl e104 (SU.ext O102.2) (g := (mkF m 30 #[vr t, vr ar, vi key, vr b102, .val (.long (0 : Int64)), .second, vi 0, .unset, .unset, .unset, .unset] [(.ref x0), (.int 0), (.ref b102)])) rfl (dd 17 rfl)
  have f108 := (S0.ext E102)
  have f109 := (Vb.ext E102)
  have f110 := (Vk.ext E102)
  have f111 := (Vs.ext E102)
  have f112 := (Et.ext E102)
  have f113 := (S0.2.2.1.ext E102)
  obtain ⟨cq116, kq116, q116a, q116b, q116c⟩ := isOf hZ e107 f113
  obtain ⟨_, _, ⟨T116, L116, k116, n116⟩, -, X116, ⟨Lc116, hQ116, l116, y116, z116⟩, st116⟩ := X107.virtualBack hx (y := M3) (z := M3) hown (mvT hZ (ww hw 66 rfl)) (mvT hZ (ww hw 67 rfl)) (notFace_of_selects (args := #[]) (mvT hZ (ww hw 69 rfl))) (mvT hZ (ww hw 69 rfl)) (mvT hZ (ww hw 68 rfl)) (by decide) (backOf (W := 2) (rm11 l Z a0 hw [] h102 n0 O102 x0 nn cs0 cs0.length z u HP HU f108 rfl hl0 hc0) hZ (ww hw 70 rfl) (ww hw 10 rfl) (by decide) (by decide)) q116a q116c (g := (mkF m 33 #[vr t, vr ar, vi key, vr b102, .val (.long (0 : Int64)), .second, vi 0, .unset, .unset, .unset, .unset] [(.ref u), (.ref x0), (.int 0), (.ref b102)])) rfl (by rw [hml]; rfl) (Steps.refl _) (argsL := [(.ref u)]) (rest := [(.int 0), (.ref b102)]) (lenOf pd_19 rfl) rfl (by show 2 * 0 + _ ≤ _; exact Nat.le_of_eq rfl) (dd 18 rfl) (fun _ _ => ⟨rfl, e107, (by decide : 1 + 2 ≤ _), (by decide : 1 + 1600 ≤ _)⟩)
  dsimp only [Pt.U, Pt.locs, Pt.cells, Pt.slots] at X116 l116 y116 z116 st116 hQ116
  subst l116 y116 z116
  obtain ⟨b116, kb116, rfl, N116, K116, gb116, V116, Xb116⟩ := hQ116
  have Nf116 := Fr.app N0 N116
  have O116 := O102.keep K116 all0
  have KK116 := K102.trans K116 all0
  have ne_b102_b116 := own_nL V102.lt gb116
  have ne_bb_b116 := own_nL f109.lt gb116
  have ne_bk_b116 := own_nL f110.lt gb116
  have ne_bs_b116 := own_nL f111.lt gb116
  have ne_t_b116 := own_nL f112.lt gb116
  have f117 := (V102.keep K116 nin0)
  obtain ⟨cl118, Ar118, qa118, sa118, hin118, -⟩ := f117.at (j := (0 : Int32)) (by decide) rfl
  obtain ⟨T118, h118, X118, e118, W118, st118⟩ := stR X116 hx hZ rfl Ar118 (j := (0 : Int32)) hin118 rfl (Sto.ofVA Ar118 qa118 Ov102 (Ins.self Xb116)) (g := (mkF m 36 #[vr t, vr ar, vi key, vr b102, .val (.long (0 : Int64)), .second, vi 0, .unset, .unset, .unset, .unset] [(.ref b116), (.int 0), (.ref b102)])) rfl rfl (dd 19 rfl)
  have N118 := Fr.snoc X118 Nf116 ge_b102
  have O118 := O116.wr W118 ge_b102
  have K118 := KK116.wr W118 (Or.inr gk_b102)
  have V118 : own_Ar Z h118 b102 k102 (.array .byte) [(.ref b116)] := own_Ar.set Ar118 qa118 sa118 f117.small W118
  obtain ⟨cl119, Ar119, -, -, hin119, hat119⟩ := V118.at (j := (0 : Int32)) (v := (.ref b116)) (by decide) rfl
  refine own_go (S' := (T118.setTop (mkF m 44 #[vr t, vr ar, vi key, vr b102, .val (.long (0 : Int64)), .second, vi 0, .unset, .unset, .unset, .unset] [(.ref b116), (.int 5), (.long (0 : Int64))]))) (fun tq kq => XS.aloadN X0.here hx rfl (dd 0 rfl) rfl rfl (st101 tq (st102 tq (XS.astoreN X102.here hx rfl (dd 3 rfl) rfl rfl (l' := #[vr t, vr ar, vi key, vr b102, .unset, .unset, .unset, .unset, .unset, .unset, .unset]) rfl (XS.lconst X102.here hx rfl (dd 4 rfl) (XS.lstore X102.here hx rfl (dd 5 rfl) rfl (l' := #[vr t, vr ar, vi key, vr b102, .val (.long (0 : Int64)), .second, .unset, .unset, .unset, .unset, .unset]) rfl (XS.iconst X102.here hx rfl (dd 6 rfl) (XS.istore X102.here hx rfl (dd 7 rfl) rfl (l' := #[vr t, vr ar, vi key, vr b102, .val (.long (0 : Int64)), .second, vi 0, .unset, .unset, .unset, .unset]) rfl (XS.iload X102.here hx rfl (dd 8 rfl) rfl (XS.aloadN X102.here hx rfl (dd 9 rfl) rfl rfl (st104 tq (XS.icmpNo X104.here hx rfl (dd 11 rfl) rfl (tlt (by decide : (0 : Int32) < (1 : Int32))).2.1 (XS.aloadN X104.here hx rfl (dd 12 rfl) rfl rfl (XS.iload X104.here hx rfl (dd 13 rfl) rfl (XS.aloadN X104.here hx rfl (dd 14 rfl) rfl rfl (XS.iload X104.here hx rfl (dd 15 rfl) rfl (X104.aaload hx (j := (0 : Int32)) (v := (.ref x0)) (by rw [e104]; exact Ar106.1) (State.isArrayOf_alike hZ.alike Ar106.2.1) rfl Ar106.2.2 hin106 hat106 (g := (mkF m 29 #[vr t, vr ar, vi key, vr b102, .val (.long (0 : Int64)), .second, vi 0, .unset, .unset, .unset, .unset] [(.int 0), (.ref ar), (.int 0), (.ref b102)])) rfl rfl (dd 16 rfl) tq (st107 tq (st116.trans (st118 tq (XS.lload X118.here hx rfl (dd 20 rfl) rfl (XS.iconst X118.here hx rfl (dd 21 rfl) (XS.aloadN X118.here hx rfl (dd 22 rfl) rfl rfl (XS.iload X118.here hx rfl (dd 23 rfl) rfl (X118.aaload hx (j := (0 : Int32)) (v := (.ref b116)) (by rw [e118]; exact Ar119.1) (State.isArrayOf_alike hZ.alike Ar119.2.1) rfl Ar119.2.2 hin119 hat119 (g := (mkF m 43 #[vr t, vr ar, vi key, vr b102, .val (.long (0 : Int64)), .second, vi 0, .unset, .unset, .unset, .unset] [(.int 0), (.ref b102), (.int 5), (.long (0 : Int64))])) rfl rfl (dd 24 rfl) tq kq))))))))))))))))))))))))) ?_
  have f120 := (V116.other W118 (Ne.symm ne_b102_b116))
  obtain ⟨cl121, Ar121, ln121⟩ := f120.len
  have lq121 : cl121.slots.size.toInt32 = (Int32.ofNat (own_u8 cs0).length) := ln121.trans (by rw [own_bvlen])
  refine own_go (S' := (T118.setTop (mkF m 48 #[vr t, vr ar, vi key, vr b102, .val (.long (0 : Int64)), .second, vi 0, .unset, .unset, .unset, .unset] [(.long ((0 : Int64) + (((5 : Int32) + (Int32.ofNat (own_u8 cs0).length)).toInt64)))]))) (fun tq kq => X118.arraylength hx (by rw [e118]; exact Ar121.1) (State.isArrayOf_alike hZ.alike Ar121.2.1) (g := (mkF m 44 #[vr t, vr ar, vi key, vr b102, .val (.long (0 : Int64)), .second, vi 0, .unset, .unset, .unset, .unset] [(.ref b116), (.int 5), (.long (0 : Int64))])) rfl rfl (dd 25 rfl) tq (by rw [lq121]; exact (XS.iadd X118.here hx rfl (dd 26 rfl) rfl (XS.i2l X118.here hx rfl (dd 27 rfl) rfl (XS.ladd X118.here hx rfl (dd 28 rfl) rfl kq))))) ?_
  rw [show (0 : Int64) + ((5 : Int32) + Int32.ofNat (own_u8 cs0).length).toInt64 = Int64.ofNat (0 + (5 + (own_u8 cs0).length)) from own_lA (x := 0) (by decide) (by omega)]
  have f122 := ((f103.keep K116 nin0).other W118 (Or.inl ne_t_b102))
  obtain ⟨T123, X123, e123, st123⟩ := getF X118 hx hZ hown (host := "") (Or.inl (ww hw 54 rfl)) Via.refl e118 f122 (g := (mkF m 17 #[vr t, vr ar, vi key, vr b102, .val (.long (Int64.ofNat (0 + (5 + (own_u8 cs0).length)))), .second, vi 1, .unset, .unset, .unset, .unset] [(.ref t), (.int 1)])) rfl rfl (dd 10 rfl)
  have f124 := (((Fu.ext E102).keep K116 nin0).other W118 (Or.inl ne_t_b102))
  obtain ⟨T125, X125, e125, st125⟩ := getF X123 hx hZ hown (host := "") (Or.inl (ww hw 101 rfl)) Via.refl e123 f124 (g := (mkF m 61 #[vr t, vr ar, vi key, vr b102, .val (.long (Int64.ofNat (0 + (5 + (own_u8 cs0).length)))), .second, vi 1, .unset, .unset, .unset, .unset] [(.ref t), (.int 2147483639), (.long (Int64.ofNat (0 + (5 + (own_u8 cs0).length))))])) rfl rfl (dd 35 rfl)
  refine own_go (S' := (T125.setTop (mkF m 86 #[vr t, vr ar, vi key, vr b102, .val (.long (Int64.ofNat (0 + (5 + (own_u8 cs0).length)))), .second, vi 1, .unset, .unset, .unset, .unset] [(.int ((Int64.ofNat (0 + (5 + (own_u8 cs0).length))).toInt32)), (.ref t)]))) (fun tq kq => XS.lstore X118.here hx rfl (dd 29 rfl) rfl (l' := #[vr t, vr ar, vi key, vr b102, .val (.long (Int64.ofNat (0 + (5 + (own_u8 cs0).length)))), .second, vi 0, .unset, .unset, .unset, .unset]) rfl (XS.iinc X118.here hx rfl (dd 30 rfl) rfl (l' := #[vr t, vr ar, vi key, vr b102, .val (.long (Int64.ofNat (0 + (5 + (own_u8 cs0).length)))), .second, vi 1, .unset, .unset, .unset, .unset]) rfl (XS.goto X118.here hx rfl (pc0 := 53) (pc' := 14) rfl (dd 31 rfl) (by decide) (by decide) (XS.iload X118.here hx rfl (dd 8 rfl) rfl (XS.aloadN X118.here hx rfl (dd 9 rfl) rfl rfl (st123 tq (XS.icmpYes X123.here hx rfl (pc0 := 20) (pc' := 56) rfl (dd 11 rfl) rfl (flt (by decide : ¬ ((1 : Int32) < (1 : Int32)))).2.1 (by decide) (by decide) (XS.lload X123.here hx rfl (dd 32 rfl) rfl (X123.ldcInt hx hown (mvT hZ (ww hw 100 rfl)) (g := (mkF m 58 #[vr t, vr ar, vi key, vr b102, .val (.long (Int64.ofNat (0 + (5 + (own_u8 cs0).length)))), .second, vi 1, .unset, .unset, .unset, .unset] [(.long (Int64.ofNat (0 + (5 + (own_u8 cs0).length))))])) rfl (dd 33 rfl) tq (XS.aloadN X123.here hx rfl (dd 34 rfl) rfl rfl (st125 tq (XS.isub X125.here hx rfl (dd 36 rfl) rfl (XS.i2l X125.here hx rfl (dd 37 rfl) rfl (XS.lcmp X125.here hx rfl (dd 38 rfl) rfl (XS.ifNo X125.here hx rfl (dd 39 rfl) rfl ((if0 _ _).trans (flt (own_lc (by omega) (by omega))).2.2.1) (XS.iconst X125.here hx rfl (dd 40 rfl) (XS.goto X125.here hx rfl (pc0 := 71) (pc' := 75) rfl (dd 41 rfl) (by decide) (by decide) (XS.istore X125.here hx rfl (dd 42 rfl) rfl (l' := #[vr t, vr ar, vi key, vr b102, .val (.long (Int64.ofNat (0 + (5 + (own_u8 cs0).length)))), .second, vi 1, .unset, .unset, .unset, .unset]) rfl (XS.iload X125.here hx rfl (dd 43 rfl) rfl (XS.ifNo X125.here hx rfl (dd 44 rfl) rfl ((if0 _ _).trans (feq (by decide : ¬ ((1 : Int32) = (0 : Int32)))).1) (XS.aloadN X125.here hx rfl (dd 45 rfl) rfl rfl (XS.lload X125.here hx rfl (dd 46 rfl) rfl (XS.l2i X125.here hx rfl (dd 47 rfl) rfl kq))))))))))))))))))))))) ?_
  rw [own_l2i (by omega)]
  have f126 := ((f112.keep K116).wr W118)
  have f127 := (((Fb.ext E102).keep K116 nin0).other W118 (Or.inl ne_t_b102))
  have f128 := (((Fs.ext E102).keep K116 nin0).other W118 (Or.inl ne_t_b102))
  have f129 := (((Fk.ext E102).keep K116 nin0).other W118 (Or.inl ne_t_b102))
  have f130 := (((Fz.ext E102).keep K116 nin0).other W118 (Or.inl ne_t_b102))
  have f131 := ((f109.keep K116 nin0).other W118 ne_bb_b102)
  have f132 := ((f111.keep K116 nin0).other W118 ne_bs_b102)
  have f133 := ((f110.keep K116 nin0).other W118 ne_bk_b102)
  obtain ⟨cq134, q134, q134'⟩ := f126.cell
  obtain ⟨_, _, ⟨T134, L134, k134, n134⟩, -, X134, ⟨Lc134, hQ134, l134, y134, z134⟩, st134⟩ := X125.privateBack hx (y := M21) hown (mvT hZ (ww hw 103 rfl)) (mvT hZ (ww hw 104 rfl)) (own_selfsel hZ (ww hw 41 rfl) (ww hw 105 rfl) (ww hw 104 rfl) (by decide)) (Cond.privateMethod_at (mvP hZ (ww hw 105 rfl) (args := #[]))) (mvT hZ (ww hw 106 rfl)) (by decide) (backOf (W := 0) (rm17 l Z a0 hw [] h118 n0 O118 t bb bs bk k1 k2 k3 (1 : Int32) bl sl kl r (Int32.ofNat (0 + (5 + (own_u8 cs0).length))) ⟨⟨f126, f122, f127, f124, f128, f129, f130⟩, ⟨f131, f132, f133⟩, ⟨ls, lk⟩, nq1, nq2, nq3, nq4, nq5, nq6⟩ hr (by omega) (by rw [show (4096 : Int32) = Int32.ofNat 4096 from rfl, own_subN (by omega), own_lt (by omega) (by omega)]; omega)) hZ (ww hw 106 rfl) (ww hw 42 rfl) (by decide) (by decide)) (g := (mkF m 86 #[vr t, vr ar, vi key, vr b102, .val (.long (Int64.ofNat (0 + (5 + (own_u8 cs0).length)))), .second, vi 1, .unset, .unset, .unset, .unset] [(.int (Int32.ofNat (0 + (5 + (own_u8 cs0).length)))), (.ref t)])) rfl (by rw [hml]; rfl) (Steps.refl _) (a := t) (by rw [e125]; exact q134) q134' (argsL := [(.int (Int32.ofNat (0 + (5 + (own_u8 cs0).length))))]) (rest := []) (lenOf pd_20 rfl) rfl (by show 2 * 0 + _ ≤ _; exact Nat.le_of_eq rfl) (dd 48 rfl) (fun _ _ => ⟨rfl, e125, (by decide : 3 + 0 ≤ _), (by decide : 1601 + 0 ≤ _)⟩)
  dsimp only [Pt.U, Pt.locs, Pt.cells, Pt.slots] at X134 l134 y134 z134 st134 hQ134
  subst l134 y134 z134
  obtain ⟨rfl, N134, eh134⟩ := hQ134
  have Nf134 := Fr.app N118 N134
  obtain ⟨T135, X135, e135, st135⟩ := getF X134 hx hZ hown (host := "") (Or.inl (ww hw 50 rfl)) Via.refl eh134 f128 (g := (mkF m 90 #[vr t, vr ar, vi key, vr b102, .val (.long (Int64.ofNat (0 + (5 + (own_u8 cs0).length)))), .second, vi 1, .unset, .unset, .unset, .unset] [(.ref t)])) rfl rfl (dd 50 rfl)
  obtain ⟨T136, X136, e136, st136⟩ := getF X135 hx hZ hown (host := "") (Or.inl (ww hw 107 rfl)) Via.refl e135 f130 (g := (mkF m 94 #[vr t, vr ar, vi key, vr b102, .val (.long (Int64.ofNat (0 + (5 + (own_u8 cs0).length)))), .second, vi 1, .unset, .unset, .unset, .unset] [(.ref t), (.ref bs)])) rfl rfl (dd 52 rfl)
  obtain ⟨T137, X137, e137, st137⟩ := getF X136 hx hZ hown (host := "") (Or.inl (ww hw 101 rfl)) Via.refl e136 f124 (g := (mkF m 98 #[vr t, vr ar, vi key, vr b102, .val (.long (Int64.ofNat (0 + (5 + (own_u8 cs0).length)))), .second, vi 1, .unset, .unset, .unset, .unset] [(.ref t), (.int (Int32.ofNat r)), (.ref bs)])) rfl rfl (dd 54 rfl)
  obtain ⟨cl138, Ar138, qa138, sa138, hin138, -⟩ := f132.at (j := (Int32.ofNat r)) (own_pos (by omega)) (by rw [own_clamp (by omega)]; exact List.getElem?_eq_getElem (by omega))
  obtain ⟨T138, h138, X138, e138, W138, st138⟩ := stI X137 hx hZ e137 Ar138 (j := (Int32.ofNat r)) hin138 (g := (mkF m 101 #[vr t, vr ar, vi key, vr b102, .val (.long (Int64.ofNat (0 + (5 + (own_u8 cs0).length)))), .second, vi 1, .unset, .unset, .unset, .unset] [(.int (Int32.ofNat bl.length)), (.int (Int32.ofNat r)), (.ref bs)])) rfl rfl (dd 55 rfl)
  have N138 := Fr.snoc X138 Nf134 gbs
  have O138 := O118.wr W138 gbs
  have K138 := K118.wr W138 (Or.inl (List.mem_of_getElem? (i := 2) rfl))
  have V138 : own_Ar Z h138 bs k2 .int (sl.set r (.int (Int32.ofNat bl.length))) := (by have q := (own_Ar.set Ar138 qa138 sa138 f132.small W138); rw [own_clamp (by omega)] at q; exact q)
  have f139 := (f129.other W138 (Or.inl nq2))
  obtain ⟨T140, X140, e140, st140⟩ := getF X138 hx hZ hown (host := "") (Or.inl (ww hw 52 rfl)) Via.refl e138 f139 (g := (mkF m 103 #[vr t, vr ar, vi key, vr b102, .val (.long (Int64.ofNat (0 + (5 + (own_u8 cs0).length)))), .second, vi 1, .unset, .unset, .unset, .unset] [(.ref t)])) rfl rfl (dd 57 rfl)
  have f141 := (f130.other W138 (Or.inl nq2))
  obtain ⟨T142, X142, e142, st142⟩ := getF X140 hx hZ hown (host := "") (Or.inl (ww hw 107 rfl)) Via.refl e140 f141 (g := (mkF m 107 #[vr t, vr ar, vi key, vr b102, .val (.long (Int64.ofNat (0 + (5 + (own_u8 cs0).length)))), .second, vi 1, .unset, .unset, .unset, .unset] [(.ref t), (.ref bk)])) rfl rfl (dd 59 rfl)
  have f143 := (f133.other W138 (Ne.symm nq6))
  obtain ⟨cl144, Ar144, qa144, sa144, hin144, -⟩ := f143.at (j := (Int32.ofNat r)) (own_pos (by omega)) (by rw [own_clamp (by omega)]; exact List.getElem?_eq_getElem (by omega))
  obtain ⟨T144, h144, X144, e144, W144, st144⟩ := stI X142 hx hZ e142 Ar144 (j := (Int32.ofNat r)) hin144 (g := (mkF m 111 #[vr t, vr ar, vi key, vr b102, .val (.long (Int64.ofNat (0 + (5 + (own_u8 cs0).length)))), .second, vi 1, .unset, .unset, .unset, .unset] [(.int key), (.int (Int32.ofNat r)), (.ref bk)])) rfl rfl (dd 61 rfl)
  have N144 := Fr.snoc X144 N138 gbk
  have O144 := O138.wr W144 gbk
  have K144 := K138.wr W144 (Or.inl (List.mem_of_getElem? (i := 3) rfl))
  have V144 : own_Ar Z h144 bk k3 .int (kl.set r (.int key)) := (by have q := (own_Ar.set Ar144 qa144 sa144 f143.small W144); rw [own_clamp (by omega)] at q; exact q)
  have f145 := (f141.other W144 (Or.inl nq3))
  obtain ⟨T146, X146, e146, st146⟩ := getF X144 hx hZ hown (host := "") (Or.inl (ww hw 107 rfl)) Via.refl e144 f145 (g := (mkF m 114 #[vr t, vr ar, vi key, vr b102, .val (.long (Int64.ofNat (0 + (5 + (own_u8 cs0).length)))), .second, vi 1, .unset, .unset, .unset, .unset] [(.ref t), (.ref t)])) rfl rfl (dd 64 rfl)
  refine own_go (S' := (T146.setTop (mkF m 119 #[vr t, vr ar, vi key, vr b102, .val (.long (Int64.ofNat (0 + (5 + (own_u8 cs0).length)))), .second, vi 1, .unset, .unset, .unset, .unset] [(.int ((Int32.ofNat r) + (1 : Int32))), (.ref t)]))) (fun tq kq => st134.trans (XS.aloadN X134.here hx rfl (dd 49 rfl) rfl rfl (st135 tq (XS.aloadN X135.here hx rfl (dd 51 rfl) rfl rfl (st136 tq (XS.aloadN X136.here hx rfl (dd 53 rfl) rfl rfl (st137 tq (st138 tq (XS.aloadN X138.here hx rfl (dd 56 rfl) rfl rfl (st140 tq (XS.aloadN X140.here hx rfl (dd 58 rfl) rfl rfl (st142 tq (XS.iloadN X142.here hx rfl (dd 60 rfl) rfl (st144 tq (XS.aloadN X144.here hx rfl (dd 62 rfl) rfl rfl (XS.dup X144.here hx rfl (dd 63 rfl) rfl rfl (st146 tq (XS.iconst X146.here hx rfl (dd 65 rfl) (XS.iadd X146.here hx rfl (dd 66 rfl) rfl kq))))))))))))))))))) ?_
  rw [own_succ r]
  have hblr := hblr0
  have f147 := ((f126.wr W138).wr W144)
  obtain ⟨T148, h148, X148, e148, W148, st148⟩ := putF X146 hx hZ hown (host := "") (Or.inl (ww hw 107 rfl)) Via.refl e146 f145 f147 (Or.inl (ww hw 108 rfl)) (ww hw 41 rfl) (ty := .int) (by decide) rfl rfl (g := (mkF m 119 #[vr t, vr ar, vi key, vr b102, .val (.long (Int64.ofNat (0 + (5 + (own_u8 cs0).length)))), .second, vi 1, .unset, .unset, .unset, .unset] [(.int (Int32.ofNat (r + 1))), (.ref t)])) rfl rfl (dd 67 rfl)
  have N148 := Fr.snoc X148 N144 gt
  have O148 := O144.wr W148 gt
  have K148 := K144.wr W148 (Or.inl (List.mem_of_getElem? (i := 0) rfl))
  have F148 := f145.same W148
  have f149 := (((V118.other W138 (Ne.symm ne_bs_b102)).other W144 (Ne.symm ne_bk_b102)).other W148 (Ne.symm ne_t_b102))
  obtain ⟨cl150, Ar150, ln150⟩ := f149.len
  have lq150 : cl150.slots.size.toInt32 = (1 : Int32) := ln150.trans rfl
  obtain ⟨cl151, Ar151, -, -, hin151, hat151⟩ := f149.at (j := (0 : Int32)) (v := (.ref b116)) (by decide) rfl
  have f152 := (((f120.other W138 (Ne.symm ne_bs_b116)).other W144 (Ne.symm ne_bk_b116)).other W148 (Ne.symm ne_t_b116))
  obtain ⟨cl153, Ar153, ln153⟩ := f152.len
  have lq153 : cl153.slots.size.toInt32 = (Int32.ofNat (own_u8 cs0).length) := ln153.trans (by rw [own_bvlen])
  have f154 := (f147.wr W148)
  have f155 := (((f122.other W138 (Or.inl nq2)).other W144 (Or.inl nq3)).other W148 (Or.inr (slot_ne (Or.inr (ww hw 55 rfl)) (Or.inl (ww hw 108 rfl)) (by decide) (t := .int) (t' := .int) (by decide) (by decide))))
  have f156 := (((f127.other W138 (Or.inl nq2)).other W144 (Or.inl nq3)).other W148 (Or.inr (slot_ne (Or.inl (ww hw 48 rfl)) (Or.inl (ww hw 108 rfl)) (by decide) (t := (.array .byte)) (t' := .int) (by decide) (by decide))))
  have f157 := (((f124.other W138 (Or.inl nq2)).other W144 (Or.inl nq3)).other W148 (Or.inr (slot_ne (Or.inl (ww hw 102 rfl)) (Or.inl (ww hw 108 rfl)) (by decide) (t := .int) (t' := .int) (by decide) (by decide))))
  have f158 := (((f128.other W138 (Or.inl nq2)).other W144 (Or.inl nq3)).other W148 (Or.inr (slot_ne (Or.inl (ww hw 51 rfl)) (Or.inl (ww hw 108 rfl)) (by decide) (t := (.array .int)) (t' := .int) (by decide) (by decide))))
  have f159 := ((f139.other W144 (Or.inl nq3)).other W148 (Or.inr (slot_ne (Or.inl (ww hw 53 rfl)) (Or.inl (ww hw 108 rfl)) (by decide) (t := (.array .int)) (t' := .int) (by decide) (by decide))))
  have f160 := (((f131.other W138 nq4).other W144 nq5).other W148 (Ne.symm nq1))
  have f161 := ((V138.other W144 nq6).other W148 (Ne.symm nq2))
  have f162 := (V144.other W148 (Ne.symm nq3))
  obtain ⟨cq163, q163, q163'⟩ := f154.cell
  obtain ⟨_, _, ⟨T163, L163, k163, n163⟩, -, X163, ⟨Lc163, hQ163, l163, y163, z163⟩, st163⟩ := X148.privateBack hx (y := M12) hown (mvT hZ (ww hw 109 rfl)) (mvT hZ (ww hw 110 rfl)) (own_selfsel hZ (ww hw 41 rfl) (ww hw 111 rfl) (ww hw 110 rfl) (by decide)) (Cond.privateMethod_at (mvP hZ (ww hw 111 rfl) (args := #[]))) (mvT hZ (ww hw 112 rfl)) (by decide) (backOf (W := 0) (rm18 l Z a0 hw [] h148 n0 O148 t bb bs bk k1 k2 k3 (1 : Int32) bl (sl.set r (.int (Int32.ofNat bl.length))) (kl.set r (.int key)) (r + 1) (own_u8 cs0).length ⟨⟨f154, f155, f156, f157, f158, f159, F148⟩, ⟨f160, f161, f162⟩, ⟨(by rw [List.length_set]; exact ls), (by rw [List.length_set]; exact lk)⟩, nq1, nq2, nq3, nq4, nq5, nq6⟩ (by omega) (by omega) gt gbb) hZ (ww hw 112 rfl) (ww hw 42 rfl) (by decide) (by decide)) (g := (mkF m 151 #[vr t, vr ar, vi key, vr b102, .val (.long (Int64.ofNat (0 + (5 + (own_u8 cs0).length)))), .second, vi 1, vr b102, vi 1, vi 0, vr b116] [(.int (Int32.ofNat (own_u8 cs0).length)), (.ref t)])) rfl (by rw [hml]; rfl) (Steps.refl _) (a := t) (by rw [e148]; exact q163) q163' (argsL := [(.int (Int32.ofNat (own_u8 cs0).length))]) (rest := []) (lenOf pd_20 rfl) rfl (by show 2 * 0 + _ ≤ _; exact Nat.le_of_eq rfl) (dd 85 rfl) (fun _ _ => ⟨rfl, e148, (by decide : 3 + 0 ≤ _), (by decide : 1601 + 0 ≤ _)⟩)
  dsimp only [Pt.U, Pt.locs, Pt.cells, Pt.slots] at X163 l163 y163 z163 st163 hQ163
  subst l163 y163 z163
  obtain ⟨rfl, N163, K163, TR163⟩ := hQ163
  have Nf163 := Fr.app N148 N163
  have KK163 := K148.trans K163 (allS (Or.inl (List.mem_of_getElem? (i := 0) rfl)) (allS (Or.inl (List.mem_of_getElem? (i := 1) rfl)) all0))
  obtain ⟨⟨Et163, Fw163, Fb163, Fu163, Fs163, Fk163, Fz163⟩, ⟨Vb163, Vs163, Vk163⟩, ⟨ls163, lk163⟩, nq1163, nq2163, nq3163, nq4163, nq5163, nq6163⟩ := TR163
  have hln163 : (bl ++ own_vl (own_u8 cs0).length).length ≤ bl.length + 2 := by rw [List.length_append]; omega
  have hlm163 : (own_bv (bl ++ own_vl (own_u8 cs0).length)).length = (bl ++ own_vl (own_u8 cs0).length).length := own_bvlen _
  refine own_go (S' := (T148.setTop (mkF m 151 #[vr t, vr ar, vi key, vr b102, .val (.long (Int64.ofNat (0 + (5 + (own_u8 cs0).length)))), .second, vi 1, vr b102, vi 1, vi 0, vr b116] [(.int (Int32.ofNat (own_u8 cs0).length)), (.ref t)]))) (fun tq kq => st148 tq (XS.aloadN X148.here hx rfl (dd 68 rfl) rfl rfl (XS.astore X148.here hx rfl (dd 69 rfl) rfl rfl (l' := #[vr t, vr ar, vi key, vr b102, .val (.long (Int64.ofNat (0 + (5 + (own_u8 cs0).length)))), .second, vi 1, vr b102, .unset, .unset, .unset]) rfl (XS.aload X148.here hx rfl (dd 70 rfl) rfl rfl (X148.arraylength hx (by rw [e148]; exact Ar150.1) (State.isArrayOf_alike hZ.alike Ar150.2.1) (g := (mkF m 127 #[vr t, vr ar, vi key, vr b102, .val (.long (Int64.ofNat (0 + (5 + (own_u8 cs0).length)))), .second, vi 1, vr b102, .unset, .unset, .unset] [(.ref b102)])) rfl rfl (dd 71 rfl) tq (by rw [lq150]; exact (XS.istore X148.here hx rfl (dd 72 rfl) rfl (l' := #[vr t, vr ar, vi key, vr b102, .val (.long (Int64.ofNat (0 + (5 + (own_u8 cs0).length)))), .second, vi 1, vr b102, vi 1, .unset, .unset]) rfl (XS.iconst X148.here hx rfl (dd 73 rfl) (XS.istore X148.here hx rfl (dd 74 rfl) rfl (l' := #[vr t, vr ar, vi key, vr b102, .val (.long (Int64.ofNat (0 + (5 + (own_u8 cs0).length)))), .second, vi 1, vr b102, vi 1, vi 0, .unset]) rfl (XS.iload X148.here hx rfl (dd 75 rfl) rfl (XS.iload X148.here hx rfl (dd 76 rfl) rfl (XS.icmpNo X148.here hx rfl (dd 77 rfl) rfl (tlt (by decide : (0 : Int32) < (1 : Int32))).2.1 (XS.aload X148.here hx rfl (dd 78 rfl) rfl rfl (XS.iload X148.here hx rfl (dd 79 rfl) rfl (X148.aaload hx (j := (0 : Int32)) (v := (.ref b116)) (by rw [e148]; exact Ar151.1) (State.isArrayOf_alike hZ.alike Ar151.2.1) rfl Ar151.2.2 hin151 hat151 (g := (mkF m 144 #[vr t, vr ar, vi key, vr b102, .val (.long (Int64.ofNat (0 + (5 + (own_u8 cs0).length)))), .second, vi 1, vr b102, vi 1, vi 0, .unset] [(.int 0), (.ref b102)])) rfl rfl (dd 80 rfl) tq (XS.astore X148.here hx rfl (dd 81 rfl) rfl rfl (l' := #[vr t, vr ar, vi key, vr b102, .val (.long (Int64.ofNat (0 + (5 + (own_u8 cs0).length)))), .second, vi 1, vr b102, vi 1, vi 0, vr b116]) rfl (XS.aloadN X148.here hx rfl (dd 82 rfl) rfl rfl (XS.aload X148.here hx rfl (dd 83 rfl) rfl rfl (X148.arraylength hx (by rw [e148]; exact Ar153.1) (State.isArrayOf_alike hZ.alike Ar153.2.1) (g := (mkF m 150 #[vr t, vr ar, vi key, vr b102, .val (.long (Int64.ofNat (0 + (5 + (own_u8 cs0).length)))), .second, vi 1, vr b102, vi 1, vi 0, vr b116] [(.ref b116), (.ref t)])) rfl rfl (dd 84 rfl) tq (by rw [lq153]; exact kq)))))))))))))))))))) ?_
  replace hblr := own_rapp hblr (own_vlr (show (own_u8 cs0).length < 16384 by omega))
  obtain ⟨T164, X164, e164, st164⟩ := getF X163 hx hZ hown (host := "") (Or.inl (ww hw 47 rfl)) Via.refl rfl Fb163 (g := (mkF m 158 #[vr t, vr ar, vi key, vr b102, .val (.long (Int64.ofNat (0 + (5 + (own_u8 cs0).length)))), .second, vi 1, vr b102, vi 1, vi 0, vr b116] [(.ref t), (.int 0), (.ref b116)])) rfl rfl (dd 89 rfl)
  obtain ⟨T165, X165, e165, st165⟩ := getF X164 hx hZ hown (host := "") (Or.inl (ww hw 101 rfl)) Via.refl e164 Fu163 (g := (mkF m 162 #[vr t, vr ar, vi key, vr b102, .val (.long (Int64.ofNat (0 + (5 + (own_u8 cs0).length)))), .second, vi 1, vr b102, vi 1, vi 0, vr b116] [(.ref t), (.ref bb), (.int 0), (.ref b116)])) rfl rfl (dd 91 rfl)
  have f166 := (f152.keep K163 (ninS (Ne.symm ne_t_b116) (ninS (Ne.symm ne_bb_b116) nin0)))
  obtain ⟨cl167, Ar167, ln167⟩ := f166.len
  have lq167 : cl167.slots.size.toInt32 = (Int32.ofNat (own_u8 cs0).length) := ln167.trans (by rw [own_bvlen])
  obtain ⟨T168, h168, L168, X168, e168, N168, K168, U168, st168⟩ := own_cp X165 hx hZ hown (ww hw 113 rfl) (ww hw 116 rfl) (ww hw 114 rfl) (ww hw 115 rfl) e165 (sp := (0 : Int32)) (dp := (Int32.ofNat (bl ++ own_vl (own_u8 cs0).length).length)) (nn := (Int32.ofNat (own_u8 cs0).length)) f166 Vb163 rfl (own_bvfit (own_u8r hc0)) (own_padfit (own_bvfit hblr)) (by decide) (own_pos (by omega)) (own_pos (by omega)) (by rw [own_clamp (by omega), own_bvlen]; show 0 + _ ≤ _; omega) (by rw [own_clamp (by omega), own_clamp (by omega), own_padlen (by omega)]; omega) Nf163 gbb (g := (mkF m 168 #[vr t, vr ar, vi key, vr b102, .val (.long (Int64.ofNat (0 + (5 + (own_u8 cs0).length)))), .second, vi 1, vr b102, vi 1, vi 0, vr b116] [(.int (Int32.ofNat (own_u8 cs0).length)), (.int (Int32.ofNat (bl ++ own_vl (own_u8 cs0).length).length)), (.ref bb), (.int 0), (.ref b116)])) rfl (by rw [hml]; rfl) rfl (dd 94 rfl) (by decide) (W := 0) (by show 2 * 0 + _ ≤ _; exact Nat.le_of_eq rfl) (by decide)
  have V168 : own_Ar Z h168 bb k1 .byte (own_pad (own_bv ((bl ++ own_vl (own_u8 cs0).length) ++ own_u8 cs0)) 4096 (.int 0)) := (by have q := U168; rw [own_clamp (by omega), own_clamp (by omega)] at q; have r1 := own_padcopy (us := own_bv (bl ++ own_vl (own_u8 cs0).length)) (X := own_bv (own_u8 cs0)) (M := 4096) (d := .int 0) (by rw [own_bvlen, own_bvlen]; omega); rw [own_bvlen, own_bvlen] at r1; rw [own_bvapp, ← r1]; simpa [List.take_of_length_le, own_bvlen] using q)
  have KK168 := KK163.trans K168 (allS (Or.inl (List.mem_of_getElem? (i := 1) rfl)) all0)
  have f169 := (Fu163.keep K168 (ninS nq1163 nin0))
  obtain ⟨T170, X170, e170, st170⟩ := getF X168 hx hZ hown (host := "") (Or.inl (ww hw 101 rfl)) Via.refl e168 f169 (g := (mkF m 173 #[vr t, vr ar, vi key, vr b102, .val (.long (Int64.ofNat (0 + (5 + (own_u8 cs0).length)))), .second, vi 1, vr b102, vi 1, vi 0, vr b116] [(.ref t), (.ref t)])) rfl rfl (dd 97 rfl)
  have f171 := (f166.keep K168 (ninS (Ne.symm ne_bb_b116) nin0))
  obtain ⟨cl172, Ar172, ln172⟩ := f171.len
  have lq172 : cl172.slots.size.toInt32 = (Int32.ofNat (own_u8 cs0).length) := ln172.trans (by rw [own_bvlen])
  refine own_go (S' := (T170.setTop (mkF m 180 #[vr t, vr ar, vi key, vr b102, .val (.long (Int64.ofNat (0 + (5 + (own_u8 cs0).length)))), .second, vi 1, vr b102, vi 1, vi 0, vr b116] [(.int ((Int32.ofNat (bl ++ own_vl (own_u8 cs0).length).length) + (Int32.ofNat (own_u8 cs0).length))), (.ref t)]))) (fun tq kq => st163.trans (XS.aload X163.here hx rfl (dd 86 rfl) rfl rfl (XS.iconst X163.here hx rfl (dd 87 rfl) (XS.aloadN X163.here hx rfl (dd 88 rfl) rfl rfl (st164 tq (XS.aloadN X164.here hx rfl (dd 90 rfl) rfl rfl (st165 tq (XS.aload X165.here hx rfl (dd 92 rfl) rfl rfl (X165.arraylength hx (by rw [e165]; exact Ar167.1) (State.isArrayOf_alike hZ.alike Ar167.2.1) (g := (mkF m 167 #[vr t, vr ar, vi key, vr b102, .val (.long (Int64.ofNat (0 + (5 + (own_u8 cs0).length)))), .second, vi 1, vr b102, vi 1, vi 0, vr b116] [(.ref b116), (.int (Int32.ofNat (bl ++ own_vl (own_u8 cs0).length).length)), (.ref bb), (.int 0), (.ref b116)])) rfl rfl (dd 93 rfl) tq (by rw [lq167]; exact (st168 tq (XS.aloadN X168.here hx rfl (dd 95 rfl) rfl rfl (XS.dup X168.here hx rfl (dd 96 rfl) rfl rfl (st170 tq (XS.aload X170.here hx rfl (dd 98 rfl) rfl rfl (X170.arraylength hx (by rw [e170]; exact Ar172.1) (State.isArrayOf_alike hZ.alike Ar172.2.1) (g := (mkF m 178 #[vr t, vr ar, vi key, vr b102, .val (.long (Int64.ofNat (0 + (5 + (own_u8 cs0).length)))), .second, vi 1, vr b102, vi 1, vi 0, vr b116] [(.ref b116), (.int (Int32.ofNat (bl ++ own_vl (own_u8 cs0).length).length)), (.ref t)])) rfl rfl (dd 99 rfl) tq (by rw [lq172]; exact (XS.iadd X170.here hx rfl (dd 100 rfl) rfl kq)))))))))))))))))) ?_
  rw [own_addN, ← List.length_append]
  replace hblr := own_rapp hblr (own_u8r hc0)
  have hlx0 : ((bl ++ own_vl (own_u8 cs0).length) ++ own_u8 cs0).length ≤ (bl ++ own_vl (own_u8 cs0).length).length + 390 := by rw [List.length_append]; omega
  have f173 := (Et163.keep K168)
  obtain ⟨T174, h174, X174, e174, W174, st174⟩ := putF X170 hx hZ hown (host := "") (Or.inl (ww hw 101 rfl)) Via.refl e170 f169 f173 (Or.inl (ww hw 102 rfl)) (ww hw 41 rfl) (ty := .int) (by decide) rfl rfl (g := (mkF m 180 #[vr t, vr ar, vi key, vr b102, .val (.long (Int64.ofNat (0 + (5 + (own_u8 cs0).length)))), .second, vi 1, vr b102, vi 1, vi 0, vr b116] [(.int (Int32.ofNat ((bl ++ own_vl (own_u8 cs0).length) ++ own_u8 cs0).length)), (.ref t)])) rfl rfl (dd 101 rfl)
  have N174 := Fr.snoc X174 N168 gt
  have K174 := KK168.wr W174 (Or.inl (List.mem_of_getElem? (i := 0) rfl))
  have F174 := f169.same W174
  refine own_go (S' := (T174.setTop (mkF m 191 #[vr t, vr ar, vi key, vr b102, .val (.long (Int64.ofNat (0 + (5 + (own_u8 cs0).length)))), .second, vi 1, vr b102, vi 1, vi 1, vr b116] [(.int 1)]))) (fun tq kq => st174 tq (XS.iinc X174.here hx rfl (dd 102 rfl) rfl (l' := #[vr t, vr ar, vi key, vr b102, .val (.long (Int64.ofNat (0 + (5 + (own_u8 cs0).length)))), .second, vi 1, vr b102, vi 1, vi 1, vr b116]) rfl (XS.goto X174.here hx rfl (pc0 := 186) (pc' := 133) rfl (dd 103 rfl) (by decide) (by decide) (XS.iload X174.here hx rfl (dd 75 rfl) rfl (XS.iload X174.here hx rfl (dd 76 rfl) rfl (XS.icmpYes X174.here hx rfl (pc0 := 137) (pc' := 189) rfl (dd 77 rfl) rfl (flt (by decide : ¬ ((1 : Int32) < (1 : Int32)))).2.1 (by decide) (by decide) (XS.iload X174.here hx rfl (dd 104 rfl) rfl kq))))))) ?_
  refine own_retN X174 hx hlk hret (by simp) (dd 105 rfl) (by decide) (by decide) ?_
  have f175 := (f173.wr W174)
  have f176 := ((Fw163.keep K168 (ninS nq1163 nin0)).other W174 (Or.inr (slot_ne (Or.inr (ww hw 55 rfl)) (Or.inl (ww hw 102 rfl)) (by decide) (t := .int) (t' := .int) (by decide) (by decide))))
  have f177 := ((Fb163.keep K168 (ninS nq1163 nin0)).other W174 (Or.inr (slot_ne (Or.inl (ww hw 48 rfl)) (Or.inl (ww hw 102 rfl)) (by decide) (t := (.array .byte)) (t' := .int) (by decide) (by decide))))
  have f178 := ((Fs163.keep K168 (ninS nq1163 nin0)).other W174 (Or.inr (slot_ne (Or.inl (ww hw 51 rfl)) (Or.inl (ww hw 102 rfl)) (by decide) (t := (.array .int)) (t' := .int) (by decide) (by decide))))
  have f179 := ((Fk163.keep K168 (ninS nq1163 nin0)).other W174 (Or.inr (slot_ne (Or.inl (ww hw 53 rfl)) (Or.inl (ww hw 102 rfl)) (by decide) (t := (.array .int)) (t' := .int) (by decide) (by decide))))
  have f180 := ((Fz163.keep K168 (ninS nq1163 nin0)).other W174 (Or.inr (slot_ne (Or.inl (ww hw 108 rfl)) (Or.inl (ww hw 102 rfl)) (by decide) (t := .int) (t' := .int) (by decide) (by decide))))
  have f181 := (V168.other W174 (Ne.symm nq1163))
  have f182 := ((Vs163.keep K168 (ninS (Ne.symm nq4163) nin0)).other W174 (Ne.symm nq2163))
  have f183 := ((Vk163.keep K168 (ninS (Ne.symm nq5163) nin0)).other W174 (Ne.symm nq3163))
  rw [e174]
  exact ⟨rfl, N174, K174, ⟨⟨f175, f176, f177, F174, f178, f179, f180⟩, ⟨f181, f182, f183⟩, ⟨ls163, lk163⟩, nq1163, nq2163, nq3163, nq4163, nq5163, nq6163⟩⟩
def Q_add2 (Z : State) (h0 : Heap) (n0 : Nat) (t : Addr) (bb : Addr) (bs : Addr) (bk : Addr) (k1 : ClassId) (k2 : ClassId) (k3 : ClassId) (bl : List Int) (sl : List Value) (kl : List Value) (r : Nat) (ar : Addr) (kr : ClassId) (x0 : Addr) (x1 : Addr) (nn : Nat) (cs0 : List Nat) (cs1 : List Nat) (key : Int32) (z : Int32) (u : Addr) (v : Option Value) (h : Heap) (L : List Loc) : Prop := v = some (.int 1) ∧ Fr n0 L ∧ Keep h0 h [t, bb, bs, bk] ∧ own_TR Z h t bb bs bk k1 k2 k3 (2 : Int32) ((((bl ++ own_vl (own_u8 cs0).length) ++ own_u8 cs0) ++ own_vl (own_u8 cs1).length) ++ own_u8 cs1) (sl.set r (.int (Int32.ofNat bl.length))) (kl.set r (.int key)) (r + 1)
theorem add2 (l : Launch) (Z : State) (a0 : Array Value) (hw : ∀ d ∈ tables_1, d.before a0 Z = true) (ws : List Jvm.Cond) (h0 : Heap) (n0 : Nat) (O0 : Old Z n0 h0) (t : Addr) (bb : Addr) (bs : Addr) (bk : Addr) (k1 : ClassId) (k2 : ClassId) (k3 : ClassId) (bl : List Int) (sl : List Value) (kl : List Value) (r : Nat) (ar : Addr) (kr : ClassId) (x0 : Addr) (x1 : Addr) (nn : Nat) (cs0 : List Nat) (cs1 : List Nat) (key : Int32) (z : Int32) (u : Addr) (HP : own_PK Z z) (HU : own_UK Z u) (TRh : own_TR Z h0 t bb bs bk k1 k2 k3 (2 : Int32) bl sl kl r) (hr : r ≤ 1) (hbl : bl.length ≤ 1000) (hblr0 : ∀ z ∈ bl, -128 ≤ z ∧ z < 128) (gt : n0 ≤ t) (gbb : n0 ≤ bb) (gbs : n0 ≤ bs) (gbk : n0 ≤ bk) (Var : own_Ar Z h0 ar kr (.object "java/lang/String") [(.ref x0), (.ref x1)]) (S0 : own_Str Z h0 nn x0 cs0) (hl0 : cs0.length ≤ 130) (hc0 : ∀ j, cs0.getD j 0 < 32768) (S1 : own_Str Z h0 nn x1 cs1) (hl1 : cs1.length ≤ 130) (hc1 : ∀ j, cs1.getD j 0 < 32768) :
    MetFree l M2 (head1 (Jvm.Cond.code M2 prog_15_method_2_code 11 (some .boolean) :: ws) ({ frames := 6, cells := 5, slots := 3202, locals := 119 } : Room)) (fun aq U => aq = #[(.ref t), (.ref ar), (.int key)] ∧ Z.Warmed39 U.vm ∧ U.heap = h0) (fun _ _ _ _ _ => True) (fun _ U oo U' => ∃ v L, oo = .returned v ∧ Q_add2 Z h0 n0 t bb bs bk k1 k2 k3 bl sl kl r ar kr x0 x1 nn cs0 cs1 key z u v U'.heap L ∧ FrameEnd U oo U' L ({ frames := 6, cells := 5, slots := 3202, locals := 119 } : Room).cells ({ frames := 6, cells := 5, slots := 3202, locals := 119 } : Room).slots) := by
  refine MetFree.of_bodySF (plainFor_of_name pn_rm9) hisR ?_
  intro p e s m args below meth c s₁ Bd hml0 hP hK
  obtain ⟨rfl, hZ, hh⟩ := hP
  have hx := Bd.exec
  have hby := Bd.bytes
  have dd := @dq _ _ _ hby D10
  have hml : c.maxLocals = 11 := hml0
  have hown : s.vm.findClass "com/example/vestwright/vestwright/cli/TableRows" = some m.cls := findClass_of_methodNamed Bd.named
  have hnm := (name_of_methodNamed Bd.named Bd.method).1
  have hlk := Bd.notSynchronized
  have hret := Bd.returns
  have X0 : Stand p l e ({ frames := 6, cells := 5, slots := 3202, locals := 119 } : Room) s m #[(.ref t), (.ref ar), (.int key)] below meth c s₁ [] 0 0 := Stand.of_body Bd
  have e0 : s₁.heap = h0 := by rw [← hh, Bd.state]; rfl
  have N0 := Fr.nil n0
  have K0 := Keep.refl h0 [t, bb, bs, bk]
  refine own_go (S' := (s₁.setTop (mkF m 0 #[vr t, vr ar, vi key, .unset, .unset, .unset, .unset, .unset, .unset, .unset, .unset] []))) (fun tq kq => castTop rfl kq) ?_
  show own_G p e s below (Q_add2 Z h0 n0 t bb bs bk k1 k2 k3 bl sl kl r ar kr x0 x1 nn cs0 cs1 key z u) _ _ _
  obtain ⟨SC, hz, SA, SH, SL⟩ := id HP
  obtain ⟨SI, SU, EU⟩ := id HU
  obtain ⟨⟨Et, Fw, Fb, Fu, Fs, Fk, Fz⟩, ⟨Vb, Vs, Vk⟩, ⟨ls, lk⟩, nq1, nq2, nq3, nq4, nq5, nq6⟩ := TRh
  have hu0 : (own_u8 cs0).length ≤ 390 := Nat.le_trans (own_u8le cs0) (by omega)
  have hv0 := own_vll (own_u8 cs0).length
  have hu1 : (own_u8 cs1).length ≤ 390 := Nat.le_trans (own_u8le cs1) (by omega)
  have hv1 := own_vll (own_u8 cs1).length
  obtain ⟨T101, X101, e101, st101⟩ := getF X0 hx hZ hown (host := "") (Or.inl (ww hw 54 rfl)) Via.refl e0 Fw (g := (mkF m 1 #[vr t, vr ar, vi key, .unset, .unset, .unset, .unset, .unset, .unset, .unset, .unset] [(.ref t)])) rfl rfl (dd 1 rfl)
  obtain ⟨T102, h102, k102, X102, e102, E102, A102, -, Ov102, st102⟩ := newRA X101 hx hZ hown (C := "[B") (ty := .byte) (by decide +kernel) (ww hw 62 rfl) (ww hw 63 rfl) e101 (g := (mkF m 4 #[vr t, vr ar, vi key, .unset, .unset, .unset, .unset, .unset, .unset, .unset, .unset] [(.int 2)])) rfl (dd 2 rfl) rfl (by decide) (cap := 2) (by decide) (by decide) (by decide) (by decide) (ad := "[[B") (by decide +kernel)
  obtain ⟨b102, g102⟩ : ∃ z, z = h0.size := ⟨_, rfl⟩
  rw [← g102] at A102 st102
  have ne_ar_b102 := own_nE Var.lt g102
  have ne_bb_b102 := own_nE Vb.lt g102
  have ne_bk_b102 := own_nE Vk.lt g102
  have ne_bs_b102 := own_nE Vs.lt g102
  have ne_t_b102 := own_nE Et.lt g102
  have nb_x1_b102 : nn ≤ b102 := Nat.le_trans S1.1 (Nat.le_of_eq g102.symm)
  have ge_b102 : n0 ≤ b102 := Nat.le_trans (own_osz O0) (Nat.le_of_eq g102.symm)
  have gk_b102 : h0.size ≤ b102 := Nat.le_trans K0.1 (Nat.le_of_eq g102.symm)
  have V102 : own_Ar Z h102 b102 k102 (.array .byte) [.null, .null] := own_Ar.new A102 (by decide)
  have O102 := O0.ext E102
  have K102 := K0.ext E102
  have f103 := (Fw.ext E102)
  obtain ⟨T104, X104, e104, st104⟩ := getF X102 hx hZ hown (host := "") (Or.inl (ww hw 54 rfl)) Via.refl e102 f103 (g := (mkF m 17 #[vr t, vr ar, vi key, vr b102, .val (.long (0 : Int64)), .second, vi 0, .unset, .unset, .unset, .unset] [(.ref t), (.int 0)])) rfl rfl (dd 10 rfl)
  have f105 := (Var.ext E102)
  obtain ⟨cl106, Ar106, -, -, hin106, hat106⟩ := f105.at (j := (0 : Int32)) (v := (.ref x0)) (by decide) rfl
  obtain ⟨T107, X107, e107, st107⟩ := getS2 X104 hx hZ hown (host := "") (Or.inl (ww hw 64 rfl)) Via.refl e104 (SU.ext O102.2) (g := (mkF m 30 #[vr t, vr ar, vi key, vr b102, .val (.long (0 : Int64)), .second, vi 0, .unset, .unset, .unset, .unset] [(.ref x0), (.int 0), (.ref b102)])) rfl (dd 17 rfl)
  have f108 := (S0.ext E102)
  have f109 := (Vb.ext E102)
  have f110 := (Vk.ext E102)
  have f111 := (Vs.ext E102)
  have f112 := (Et.ext E102)
  have f113 := (S0.2.2.1.ext E102)
  have f114 := (S1.2.2.1.ext E102)
  have f115 := (S1.ext E102)
  obtain ⟨cq116, kq116, q116a, q116b, q116c⟩ := isOf hZ e107 f113
  obtain ⟨_, _, ⟨T116, L116, k116, n116⟩, -, X116, ⟨Lc116, hQ116, l116, y116, z116⟩, st116⟩ := X107.virtualBack hx (y := M3) (z := M3) hown (mvT hZ (ww hw 66 rfl)) (mvT hZ (ww hw 67 rfl)) (notFace_of_selects (args := #[]) (mvT hZ (ww hw 69 rfl))) (mvT hZ (ww hw 69 rfl)) (mvT hZ (ww hw 68 rfl)) (by decide) (backOf (W := 2) (rm11 l Z a0 hw [] h102 n0 O102 x0 nn cs0 cs0.length z u HP HU f108 rfl hl0 hc0) hZ (ww hw 70 rfl) (ww hw 10 rfl) (by decide) (by decide)) q116a q116c (g := (mkF m 33 #[vr t, vr ar, vi key, vr b102, .val (.long (0 : Int64)), .second, vi 0, .unset, .unset, .unset, .unset] [(.ref u), (.ref x0), (.int 0), (.ref b102)])) rfl (by rw [hml]; rfl) (Steps.refl _) (argsL := [(.ref u)]) (rest := [(.int 0), (.ref b102)]) (lenOf pd_19 rfl) rfl (by show 2 * 0 + _ ≤ _; exact Nat.le_of_eq rfl) (dd 18 rfl) (fun _ _ => ⟨rfl, e107, (by decide : 1 + 2 ≤ _), (by decide : 2 + 1600 ≤ _)⟩)
  dsimp only [Pt.U, Pt.locs, Pt.cells, Pt.slots] at X116 l116 y116 z116 st116 hQ116
  subst l116 y116 z116
  obtain ⟨b116, kb116, rfl, N116, K116, gb116, V116, Xb116⟩ := hQ116
  have Nf116 := Fr.app N0 N116
  have O116 := O102.keep K116 all0
  have KK116 := K102.trans K116 all0
  have ne_b102_b116 := own_nL V102.lt gb116
  have ne_bb_b116 := own_nL f109.lt gb116
  have ne_bk_b116 := own_nL f110.lt gb116
  have ne_bs_b116 := own_nL f111.lt gb116
  have ne_t_b116 := own_nL f112.lt gb116
  have f117 := (V102.keep K116 nin0)
  obtain ⟨cl118, Ar118, qa118, sa118, hin118, -⟩ := f117.at (j := (0 : Int32)) (by decide) rfl
  obtain ⟨T118, h118, X118, e118, W118, st118⟩ := stR X116 hx hZ rfl Ar118 (j := (0 : Int32)) hin118 rfl (Sto.ofVA Ar118 qa118 Ov102 (Ins.self Xb116)) (g := (mkF m 36 #[vr t, vr ar, vi key, vr b102, .val (.long (0 : Int64)), .second, vi 0, .unset, .unset, .unset, .unset] [(.ref b116), (.int 0), (.ref b102)])) rfl rfl (dd 19 rfl)
  have N118 := Fr.snoc X118 Nf116 ge_b102
  have O118 := O116.wr W118 ge_b102
  have K118 := KK116.wr W118 (Or.inr gk_b102)
  have V118 : own_Ar Z h118 b102 k102 (.array .byte) [(.ref b116), .null] := own_Ar.set Ar118 qa118 sa118 f117.small W118
  obtain ⟨cl119, Ar119, -, -, hin119, hat119⟩ := V118.at (j := (0 : Int32)) (v := (.ref b116)) (by decide) rfl
  refine own_go (S' := (T118.setTop (mkF m 44 #[vr t, vr ar, vi key, vr b102, .val (.long (0 : Int64)), .second, vi 0, .unset, .unset, .unset, .unset] [(.ref b116), (.int 5), (.long (0 : Int64))]))) (fun tq kq => XS.aloadN X0.here hx rfl (dd 0 rfl) rfl rfl (st101 tq (st102 tq (XS.astoreN X102.here hx rfl (dd 3 rfl) rfl rfl (l' := #[vr t, vr ar, vi key, vr b102, .unset, .unset, .unset, .unset, .unset, .unset, .unset]) rfl (XS.lconst X102.here hx rfl (dd 4 rfl) (XS.lstore X102.here hx rfl (dd 5 rfl) rfl (l' := #[vr t, vr ar, vi key, vr b102, .val (.long (0 : Int64)), .second, .unset, .unset, .unset, .unset, .unset]) rfl (XS.iconst X102.here hx rfl (dd 6 rfl) (XS.istore X102.here hx rfl (dd 7 rfl) rfl (l' := #[vr t, vr ar, vi key, vr b102, .val (.long (0 : Int64)), .second, vi 0, .unset, .unset, .unset, .unset]) rfl (XS.iload X102.here hx rfl (dd 8 rfl) rfl (XS.aloadN X102.here hx rfl (dd 9 rfl) rfl rfl (st104 tq (XS.icmpNo X104.here hx rfl (dd 11 rfl) rfl (tlt (by decide : (0 : Int32) < (2 : Int32))).2.1 (XS.aloadN X104.here hx rfl (dd 12 rfl) rfl rfl (XS.iload X104.here hx rfl (dd 13 rfl) rfl (XS.aloadN X104.here hx rfl (dd 14 rfl) rfl rfl (XS.iload X104.here hx rfl (dd 15 rfl) rfl (X104.aaload hx (j := (0 : Int32)) (v := (.ref x0)) (by rw [e104]; exact Ar106.1) (State.isArrayOf_alike hZ.alike Ar106.2.1) rfl Ar106.2.2 hin106 hat106 (g := (mkF m 29 #[vr t, vr ar, vi key, vr b102, .val (.long (0 : Int64)), .second, vi 0, .unset, .unset, .unset, .unset] [(.int 0), (.ref ar), (.int 0), (.ref b102)])) rfl rfl (dd 16 rfl) tq (st107 tq (st116.trans (st118 tq (XS.lload X118.here hx rfl (dd 20 rfl) rfl (XS.iconst X118.here hx rfl (dd 21 rfl) (XS.aloadN X118.here hx rfl (dd 22 rfl) rfl rfl (XS.iload X118.here hx rfl (dd 23 rfl) rfl (X118.aaload hx (j := (0 : Int32)) (v := (.ref b116)) (by rw [e118]; exact Ar119.1) (State.isArrayOf_alike hZ.alike Ar119.2.1) rfl Ar119.2.2 hin119 hat119 (g := (mkF m 43 #[vr t, vr ar, vi key, vr b102, .val (.long (0 : Int64)), .second, vi 0, .unset, .unset, .unset, .unset] [(.int 0), (.ref b102), (.int 5), (.long (0 : Int64))])) rfl rfl (dd 24 rfl) tq kq))))))))))))))))))))))))) ?_
  have f120 := (V116.other W118 (Ne.symm ne_b102_b116))
  obtain ⟨cl121, Ar121, ln121⟩ := f120.len
  have lq121 : cl121.slots.size.toInt32 = (Int32.ofNat (own_u8 cs0).length) := ln121.trans (by rw [own_bvlen])
  refine own_go (S' := (T118.setTop (mkF m 48 #[vr t, vr ar, vi key, vr b102, .val (.long (0 : Int64)), .second, vi 0, .unset, .unset, .unset, .unset] [(.long ((0 : Int64) + (((5 : Int32) + (Int32.ofNat (own_u8 cs0).length)).toInt64)))]))) (fun tq kq => X118.arraylength hx (by rw [e118]; exact Ar121.1) (State.isArrayOf_alike hZ.alike Ar121.2.1) (g := (mkF m 44 #[vr t, vr ar, vi key, vr b102, .val (.long (0 : Int64)), .second, vi 0, .unset, .unset, .unset, .unset] [(.ref b116), (.int 5), (.long (0 : Int64))])) rfl rfl (dd 25 rfl) tq (by rw [lq121]; exact (XS.iadd X118.here hx rfl (dd 26 rfl) rfl (XS.i2l X118.here hx rfl (dd 27 rfl) rfl (XS.ladd X118.here hx rfl (dd 28 rfl) rfl kq))))) ?_
  rw [show (0 : Int64) + ((5 : Int32) + Int32.ofNat (own_u8 cs0).length).toInt64 = Int64.ofNat (0 + (5 + (own_u8 cs0).length)) from own_lA (x := 0) (by decide) (by omega)]
  have f122 := ((f103.keep K116 nin0).other W118 (Or.inl ne_t_b102))
  obtain ⟨T123, X123, e123, st123⟩ := getF X118 hx hZ hown (host := "") (Or.inl (ww hw 54 rfl)) Via.refl e118 f122 (g := (mkF m 17 #[vr t, vr ar, vi key, vr b102, .val (.long (Int64.ofNat (0 + (5 + (own_u8 cs0).length)))), .second, vi 1, .unset, .unset, .unset, .unset] [(.ref t), (.int 1)])) rfl rfl (dd 10 rfl)
  have f124 := ((f105.keep K116 nin0).other W118 ne_ar_b102)
  obtain ⟨cl125, Ar125, -, -, hin125, hat125⟩ := f124.at (j := (1 : Int32)) (v := (.ref x1)) (by decide) rfl
  obtain ⟨T126, X126, e126, st126⟩ := getS2 X123 hx hZ hown (host := "") (Or.inl (ww hw 64 rfl)) Via.refl e123 (SU.ext O118.2) (g := (mkF m 30 #[vr t, vr ar, vi key, vr b102, .val (.long (Int64.ofNat (0 + (5 + (own_u8 cs0).length)))), .second, vi 1, .unset, .unset, .unset, .unset] [(.ref x1), (.int 1), (.ref b102)])) rfl (dd 17 rfl)
  have f127 := ((f115.keep K116 all0).wr W118 nb_x1_b102)
  have f128 := ((f109.keep K116 nin0).other W118 ne_bb_b102)
  have f129 := ((f110.keep K116 nin0).other W118 ne_bk_b102)
  have f130 := ((f111.keep K116 nin0).other W118 ne_bs_b102)
  have f131 := ((f112.keep K116).wr W118)
  have f133 := ((f114.keep K116).wr W118)
  obtain ⟨cq135, kq135, q135a, q135b, q135c⟩ := isOf hZ e126 f133
  obtain ⟨_, _, ⟨T135, L135, k135, n135⟩, -, X135, ⟨Lc135, hQ135, l135, y135, z135⟩, st135⟩ := X126.virtualBack hx (y := M3) (z := M3) hown (mvT hZ (ww hw 66 rfl)) (mvT hZ (ww hw 67 rfl)) (notFace_of_selects (args := #[]) (mvT hZ (ww hw 69 rfl))) (mvT hZ (ww hw 69 rfl)) (mvT hZ (ww hw 68 rfl)) (by decide) (backOf (W := 2) (rm11 l Z a0 hw [] h118 n0 O118 x1 nn cs1 cs1.length z u HP HU f127 rfl hl1 hc1) hZ (ww hw 70 rfl) (ww hw 10 rfl) (by decide) (by decide)) q135a q135c (g := (mkF m 33 #[vr t, vr ar, vi key, vr b102, .val (.long (Int64.ofNat (0 + (5 + (own_u8 cs0).length)))), .second, vi 1, .unset, .unset, .unset, .unset] [(.ref u), (.ref x1), (.int 1), (.ref b102)])) rfl (by rw [hml]; rfl) (Steps.refl _) (argsL := [(.ref u)]) (rest := [(.int 1), (.ref b102)]) (lenOf pd_19 rfl) rfl (by show 2 * 0 + _ ≤ _; exact Nat.le_of_eq rfl) (dd 18 rfl) (fun _ _ => ⟨rfl, e126, (by decide : 3 + 2 ≤ _), (by decide : 1602 + 1600 ≤ _)⟩)
  dsimp only [Pt.U, Pt.locs, Pt.cells, Pt.slots] at X135 l135 y135 z135 st135 hQ135
  subst l135 y135 z135
  obtain ⟨b135, kb135, rfl, N135, K135, gb135, V135, Xb135⟩ := hQ135
  have Nf135 := Fr.app N118 N135
  have O135 := O118.keep K135 all0
  have KK135 := K118.trans K135 all0
  have ne_b102_b135 := own_nL V118.lt gb135
  have ne_bb_b135 := own_nL f128.lt gb135
  have ne_bk_b135 := own_nL f129.lt gb135
  have ne_bs_b135 := own_nL f130.lt gb135
  have ne_t_b135 := own_nL f131.lt gb135
  have f136 := (V118.keep K135 nin0)
  obtain ⟨cl137, Ar137, qa137, sa137, hin137, -⟩ := f136.at (j := (1 : Int32)) (by decide) rfl
  obtain ⟨T137, h137, X137, e137, W137, st137⟩ := stR X135 hx hZ rfl Ar137 (j := (1 : Int32)) hin137 rfl (Sto.ofVA Ar137 qa137 Ov102 (Ins.self Xb135)) (g := (mkF m 36 #[vr t, vr ar, vi key, vr b102, .val (.long (Int64.ofNat (0 + (5 + (own_u8 cs0).length)))), .second, vi 1, .unset, .unset, .unset, .unset] [(.ref b135), (.int 1), (.ref b102)])) rfl rfl (dd 19 rfl)
  have N137 := Fr.snoc X137 Nf135 ge_b102
  have O137 := O135.wr W137 ge_b102
  have K137 := KK135.wr W137 (Or.inr gk_b102)
  have V137 : own_Ar Z h137 b102 k102 (.array .byte) [(.ref b116), (.ref b135)] := own_Ar.set Ar137 qa137 sa137 f136.small W137
  obtain ⟨cl138, Ar138, -, -, hin138, hat138⟩ := V137.at (j := (1 : Int32)) (v := (.ref b135)) (by decide) rfl
  have f139 := (V135.other W137 (Ne.symm ne_b102_b135))
  obtain ⟨cl140, Ar140, ln140⟩ := f139.len
  have lq140 : cl140.slots.size.toInt32 = (Int32.ofNat (own_u8 cs1).length) := ln140.trans (by rw [own_bvlen])
  refine own_go (S' := (T137.setTop (mkF m 48 #[vr t, vr ar, vi key, vr b102, .val (.long (Int64.ofNat (0 + (5 + (own_u8 cs0).length)))), .second, vi 1, .unset, .unset, .unset, .unset] [(.long ((Int64.ofNat (0 + (5 + (own_u8 cs0).length))) + (((5 : Int32) + (Int32.ofNat (own_u8 cs1).length)).toInt64)))]))) (fun tq kq => XS.lstore X118.here hx rfl (dd 29 rfl) rfl (l' := #[vr t, vr ar, vi key, vr b102, .val (.long (Int64.ofNat (0 + (5 + (own_u8 cs0).length)))), .second, vi 0, .unset, .unset, .unset, .unset]) rfl (XS.iinc X118.here hx rfl (dd 30 rfl) rfl (l' := #[vr t, vr ar, vi key, vr b102, .val (.long (Int64.ofNat (0 + (5 + (own_u8 cs0).length)))), .second, vi 1, .unset, .unset, .unset, .unset]) rfl (XS.goto X118.here hx rfl (pc0 := 53) (pc' := 14) rfl (dd 31 rfl) (by decide) (by decide) (XS.iload X118.here hx rfl (dd 8 rfl) rfl (XS.aloadN X118.here hx rfl (dd 9 rfl) rfl rfl (st123 tq (XS.icmpNo X123.here hx rfl (dd 11 rfl) rfl (tlt (by decide : (1 : Int32) < (2 : Int32))).2.1 (XS.aloadN X123.here hx rfl (dd 12 rfl) rfl rfl (XS.iload X123.here hx rfl (dd 13 rfl) rfl (XS.aloadN X123.here hx rfl (dd 14 rfl) rfl rfl (XS.iload X123.here hx rfl (dd 15 rfl) rfl (X123.aaload hx (j := (1 : Int32)) (v := (.ref x1)) (by rw [e123]; exact Ar125.1) (State.isArrayOf_alike hZ.alike Ar125.2.1) rfl Ar125.2.2 hin125 hat125 (g := (mkF m 29 #[vr t, vr ar, vi key, vr b102, .val (.long (Int64.ofNat (0 + (5 + (own_u8 cs0).length)))), .second, vi 1, .unset, .unset, .unset, .unset] [(.int 1), (.ref ar), (.int 1), (.ref b102)])) rfl rfl (dd 16 rfl) tq (st126 tq (st135.trans (st137 tq (XS.lload X137.here hx rfl (dd 20 rfl) rfl (XS.iconst X137.here hx rfl (dd 21 rfl) (XS.aloadN X137.here hx rfl (dd 22 rfl) rfl rfl (XS.iload X137.here hx rfl (dd 23 rfl) rfl (X137.aaload hx (j := (1 : Int32)) (v := (.ref b135)) (by rw [e137]; exact Ar138.1) (State.isArrayOf_alike hZ.alike Ar138.2.1) rfl Ar138.2.2 hin138 hat138 (g := (mkF m 43 #[vr t, vr ar, vi key, vr b102, .val (.long (Int64.ofNat (0 + (5 + (own_u8 cs0).length)))), .second, vi 1, .unset, .unset, .unset, .unset] [(.int 1), (.ref b102), (.int 5), (.long (Int64.ofNat (0 + (5 + (own_u8 cs0).length))))])) rfl rfl (dd 24 rfl) tq (X137.arraylength hx (by rw [e137]; exact Ar140.1) (State.isArrayOf_alike hZ.alike Ar140.2.1) (g := (mkF m 44 #[vr t, vr ar, vi key, vr b102, .val (.long (Int64.ofNat (0 + (5 + (own_u8 cs0).length)))), .second, vi 1, .unset, .unset, .unset, .unset] [(.ref b135), (.int 5), (.long (Int64.ofNat (0 + (5 + (own_u8 cs0).length))))])) rfl rfl (dd 25 rfl) tq (by rw [lq140]; exact (XS.iadd X137.here hx rfl (dd 26 rfl) rfl (XS.i2l X137.here hx rfl (dd 27 rfl) rfl (XS.ladd X137.here hx rfl (dd 28 rfl) rfl kq))))))))))))))))))))))))) ?_
  rw [own_lA (show 0 + (5 + (own_u8 cs0).length) < 2 ^ 20 by omega) (show (own_u8 cs1).length < 2 ^ 20 by omega)]
  have f141 := ((f122.keep K135 nin0).other W137 (Or.inl ne_t_b102))
  obtain ⟨T142, X142, e142, st142⟩ := getF X137 hx hZ hown (host := "") (Or.inl (ww hw 54 rfl)) Via.refl e137 f141 (g := (mkF m 17 #[vr t, vr ar, vi key, vr b102, .val (.long (Int64.ofNat (0 + (5 + (own_u8 cs0).length) + (5 + (own_u8 cs1).length)))), .second, vi 2, .unset, .unset, .unset, .unset] [(.ref t), (.int 2)])) rfl rfl (dd 10 rfl)
  have f143 := (((((Fu.ext E102).keep K116 nin0).other W118 (Or.inl ne_t_b102)).keep K135 nin0).other W137 (Or.inl ne_t_b102))
  obtain ⟨T144, X144, e144, st144⟩ := getF X142 hx hZ hown (host := "") (Or.inl (ww hw 101 rfl)) Via.refl e142 f143 (g := (mkF m 61 #[vr t, vr ar, vi key, vr b102, .val (.long (Int64.ofNat (0 + (5 + (own_u8 cs0).length) + (5 + (own_u8 cs1).length)))), .second, vi 2, .unset, .unset, .unset, .unset] [(.ref t), (.int 2147483639), (.long (Int64.ofNat (0 + (5 + (own_u8 cs0).length) + (5 + (own_u8 cs1).length))))])) rfl rfl (dd 35 rfl)
  refine own_go (S' := (T144.setTop (mkF m 86 #[vr t, vr ar, vi key, vr b102, .val (.long (Int64.ofNat (0 + (5 + (own_u8 cs0).length) + (5 + (own_u8 cs1).length)))), .second, vi 1, .unset, .unset, .unset, .unset] [(.int ((Int64.ofNat (0 + (5 + (own_u8 cs0).length) + (5 + (own_u8 cs1).length))).toInt32)), (.ref t)]))) (fun tq kq => XS.lstore X137.here hx rfl (dd 29 rfl) rfl (l' := #[vr t, vr ar, vi key, vr b102, .val (.long (Int64.ofNat (0 + (5 + (own_u8 cs0).length) + (5 + (own_u8 cs1).length)))), .second, vi 1, .unset, .unset, .unset, .unset]) rfl (XS.iinc X137.here hx rfl (dd 30 rfl) rfl (l' := #[vr t, vr ar, vi key, vr b102, .val (.long (Int64.ofNat (0 + (5 + (own_u8 cs0).length) + (5 + (own_u8 cs1).length)))), .second, vi 2, .unset, .unset, .unset, .unset]) rfl (XS.goto X137.here hx rfl (pc0 := 53) (pc' := 14) rfl (dd 31 rfl) (by decide) (by decide) (XS.iload X137.here hx rfl (dd 8 rfl) rfl (XS.aloadN X137.here hx rfl (dd 9 rfl) rfl rfl (st142 tq (XS.icmpYes X142.here hx rfl (pc0 := 20) (pc' := 56) rfl (dd 11 rfl) rfl (flt (by decide : ¬ ((2 : Int32) < (2 : Int32)))).2.1 (by decide) (by decide) (XS.lload X142.here hx rfl (dd 32 rfl) rfl (X142.ldcInt hx hown (mvT hZ (ww hw 100 rfl)) (g := (mkF m 58 #[vr t, vr ar, vi key, vr b102, .val (.long (Int64.ofNat (0 + (5 + (own_u8 cs0).length) + (5 + (own_u8 cs1).length)))), .second, vi 2, .unset, .unset, .unset, .unset] [(.long (Int64.ofNat (0 + (5 + (own_u8 cs0).length) + (5 + (own_u8 cs1).length))))])) rfl (dd 33 rfl) tq (XS.aloadN X142.here hx rfl (dd 34 rfl) rfl rfl (st144 tq (XS.isub X144.here hx rfl (dd 36 rfl) rfl (XS.i2l X144.here hx rfl (dd 37 rfl) rfl (XS.lcmp X144.here hx rfl (dd 38 rfl) rfl (XS.ifNo X144.here hx rfl (dd 39 rfl) rfl ((if0 _ _).trans (flt (own_lc (by omega) (by omega))).2.2.1) (XS.iconst X144.here hx rfl (dd 40 rfl) (XS.goto X144.here hx rfl (pc0 := 71) (pc' := 75) rfl (dd 41 rfl) (by decide) (by decide) (XS.istore X144.here hx rfl (dd 42 rfl) rfl (l' := #[vr t, vr ar, vi key, vr b102, .val (.long (Int64.ofNat (0 + (5 + (own_u8 cs0).length) + (5 + (own_u8 cs1).length)))), .second, vi 1, .unset, .unset, .unset, .unset]) rfl (XS.iload X144.here hx rfl (dd 43 rfl) rfl (XS.ifNo X144.here hx rfl (dd 44 rfl) rfl ((if0 _ _).trans (feq (by decide : ¬ ((1 : Int32) = (0 : Int32)))).1) (XS.aloadN X144.here hx rfl (dd 45 rfl) rfl rfl (XS.lload X144.here hx rfl (dd 46 rfl) rfl (XS.l2i X144.here hx rfl (dd 47 rfl) rfl kq))))))))))))))))))))))) ?_
  rw [own_l2i (by omega)]
  have f145 := ((f131.keep K135).wr W137)
  have f146 := (((((Fb.ext E102).keep K116 nin0).other W118 (Or.inl ne_t_b102)).keep K135 nin0).other W137 (Or.inl ne_t_b102))
  have f147 := (((((Fs.ext E102).keep K116 nin0).other W118 (Or.inl ne_t_b102)).keep K135 nin0).other W137 (Or.inl ne_t_b102))
  have f148 := (((((Fk.ext E102).keep K116 nin0).other W118 (Or.inl ne_t_b102)).keep K135 nin0).other W137 (Or.inl ne_t_b102))
  have f149 := (((((Fz.ext E102).keep K116 nin0).other W118 (Or.inl ne_t_b102)).keep K135 nin0).other W137 (Or.inl ne_t_b102))
  have f150 := ((f128.keep K135 nin0).other W137 ne_bb_b102)
  have f151 := ((f130.keep K135 nin0).other W137 ne_bs_b102)
  have f152 := ((f129.keep K135 nin0).other W137 ne_bk_b102)
  obtain ⟨cq153, q153, q153'⟩ := f145.cell
  obtain ⟨_, _, ⟨T153, L153, k153, n153⟩, -, X153, ⟨Lc153, hQ153, l153, y153, z153⟩, st153⟩ := X144.privateBack hx (y := M21) hown (mvT hZ (ww hw 103 rfl)) (mvT hZ (ww hw 104 rfl)) (own_selfsel hZ (ww hw 41 rfl) (ww hw 105 rfl) (ww hw 104 rfl) (by decide)) (Cond.privateMethod_at (mvP hZ (ww hw 105 rfl) (args := #[]))) (mvT hZ (ww hw 106 rfl)) (by decide) (backOf (W := 0) (rm17 l Z a0 hw [] h137 n0 O137 t bb bs bk k1 k2 k3 (2 : Int32) bl sl kl r (Int32.ofNat (0 + (5 + (own_u8 cs0).length) + (5 + (own_u8 cs1).length))) ⟨⟨f145, f141, f146, f143, f147, f148, f149⟩, ⟨f150, f151, f152⟩, ⟨ls, lk⟩, nq1, nq2, nq3, nq4, nq5, nq6⟩ hr (by omega) (by rw [show (4096 : Int32) = Int32.ofNat 4096 from rfl, own_subN (by omega), own_lt (by omega) (by omega)]; omega)) hZ (ww hw 106 rfl) (ww hw 42 rfl) (by decide) (by decide)) (g := (mkF m 86 #[vr t, vr ar, vi key, vr b102, .val (.long (Int64.ofNat (0 + (5 + (own_u8 cs0).length) + (5 + (own_u8 cs1).length)))), .second, vi 1, .unset, .unset, .unset, .unset] [(.int (Int32.ofNat (0 + (5 + (own_u8 cs0).length) + (5 + (own_u8 cs1).length)))), (.ref t)])) rfl (by rw [hml]; rfl) (Steps.refl _) (a := t) (by rw [e144]; exact q153) q153' (argsL := [(.int (Int32.ofNat (0 + (5 + (own_u8 cs0).length) + (5 + (own_u8 cs1).length))))]) (rest := []) (lenOf pd_20 rfl) rfl (by show 2 * 0 + _ ≤ _; exact Nat.le_of_eq rfl) (dd 48 rfl) (fun _ _ => ⟨rfl, e144, (by decide : 5 + 0 ≤ _), (by decide : 3202 + 0 ≤ _)⟩)
  dsimp only [Pt.U, Pt.locs, Pt.cells, Pt.slots] at X153 l153 y153 z153 st153 hQ153
  subst l153 y153 z153
  obtain ⟨rfl, N153, eh153⟩ := hQ153
  have Nf153 := Fr.app N137 N153
  obtain ⟨T154, X154, e154, st154⟩ := getF X153 hx hZ hown (host := "") (Or.inl (ww hw 50 rfl)) Via.refl eh153 f147 (g := (mkF m 90 #[vr t, vr ar, vi key, vr b102, .val (.long (Int64.ofNat (0 + (5 + (own_u8 cs0).length) + (5 + (own_u8 cs1).length)))), .second, vi 1, .unset, .unset, .unset, .unset] [(.ref t)])) rfl rfl (dd 50 rfl)
  obtain ⟨T155, X155, e155, st155⟩ := getF X154 hx hZ hown (host := "") (Or.inl (ww hw 107 rfl)) Via.refl e154 f149 (g := (mkF m 94 #[vr t, vr ar, vi key, vr b102, .val (.long (Int64.ofNat (0 + (5 + (own_u8 cs0).length) + (5 + (own_u8 cs1).length)))), .second, vi 1, .unset, .unset, .unset, .unset] [(.ref t), (.ref bs)])) rfl rfl (dd 52 rfl)
  obtain ⟨T156, X156, e156, st156⟩ := getF X155 hx hZ hown (host := "") (Or.inl (ww hw 101 rfl)) Via.refl e155 f143 (g := (mkF m 98 #[vr t, vr ar, vi key, vr b102, .val (.long (Int64.ofNat (0 + (5 + (own_u8 cs0).length) + (5 + (own_u8 cs1).length)))), .second, vi 1, .unset, .unset, .unset, .unset] [(.ref t), (.int (Int32.ofNat r)), (.ref bs)])) rfl rfl (dd 54 rfl)
  obtain ⟨cl157, Ar157, qa157, sa157, hin157, -⟩ := f151.at (j := (Int32.ofNat r)) (own_pos (by omega)) (by rw [own_clamp (by omega)]; exact List.getElem?_eq_getElem (by omega))
  obtain ⟨T157, h157, X157, e157, W157, st157⟩ := stI X156 hx hZ e156 Ar157 (j := (Int32.ofNat r)) hin157 (g := (mkF m 101 #[vr t, vr ar, vi key, vr b102, .val (.long (Int64.ofNat (0 + (5 + (own_u8 cs0).length) + (5 + (own_u8 cs1).length)))), .second, vi 1, .unset, .unset, .unset, .unset] [(.int (Int32.ofNat bl.length)), (.int (Int32.ofNat r)), (.ref bs)])) rfl rfl (dd 55 rfl)
  have N157 := Fr.snoc X157 Nf153 gbs
  have O157 := O137.wr W157 gbs
  have K157 := K137.wr W157 (Or.inl (List.mem_of_getElem? (i := 2) rfl))
  have V157 : own_Ar Z h157 bs k2 .int (sl.set r (.int (Int32.ofNat bl.length))) := (by have q := (own_Ar.set Ar157 qa157 sa157 f151.small W157); rw [own_clamp (by omega)] at q; exact q)
  have f158 := (f148.other W157 (Or.inl nq2))
  obtain ⟨T159, X159, e159, st159⟩ := getF X157 hx hZ hown (host := "") (Or.inl (ww hw 52 rfl)) Via.refl e157 f158 (g := (mkF m 103 #[vr t, vr ar, vi key, vr b102, .val (.long (Int64.ofNat (0 + (5 + (own_u8 cs0).length) + (5 + (own_u8 cs1).length)))), .second, vi 1, .unset, .unset, .unset, .unset] [(.ref t)])) rfl rfl (dd 57 rfl)
  have f160 := (f149.other W157 (Or.inl nq2))
  obtain ⟨T161, X161, e161, st161⟩ := getF X159 hx hZ hown (host := "") (Or.inl (ww hw 107 rfl)) Via.refl e159 f160 (g := (mkF m 107 #[vr t, vr ar, vi key, vr b102, .val (.long (Int64.ofNat (0 + (5 + (own_u8 cs0).length) + (5 + (own_u8 cs1).length)))), .second, vi 1, .unset, .unset, .unset, .unset] [(.ref t), (.ref bk)])) rfl rfl (dd 59 rfl)
  have f162 := (f152.other W157 (Ne.symm nq6))
  obtain ⟨cl163, Ar163, qa163, sa163, hin163, -⟩ := f162.at (j := (Int32.ofNat r)) (own_pos (by omega)) (by rw [own_clamp (by omega)]; exact List.getElem?_eq_getElem (by omega))
  obtain ⟨T163, h163, X163, e163, W163, st163⟩ := stI X161 hx hZ e161 Ar163 (j := (Int32.ofNat r)) hin163 (g := (mkF m 111 #[vr t, vr ar, vi key, vr b102, .val (.long (Int64.ofNat (0 + (5 + (own_u8 cs0).length) + (5 + (own_u8 cs1).length)))), .second, vi 1, .unset, .unset, .unset, .unset] [(.int key), (.int (Int32.ofNat r)), (.ref bk)])) rfl rfl (dd 61 rfl)
  have N163 := Fr.snoc X163 N157 gbk
  have O163 := O157.wr W163 gbk
  have K163 := K157.wr W163 (Or.inl (List.mem_of_getElem? (i := 3) rfl))
  have V163 : own_Ar Z h163 bk k3 .int (kl.set r (.int key)) := (by have q := (own_Ar.set Ar163 qa163 sa163 f162.small W163); rw [own_clamp (by omega)] at q; exact q)
  have f164 := (f160.other W163 (Or.inl nq3))
  obtain ⟨T165, X165, e165, st165⟩ := getF X163 hx hZ hown (host := "") (Or.inl (ww hw 107 rfl)) Via.refl e163 f164 (g := (mkF m 114 #[vr t, vr ar, vi key, vr b102, .val (.long (Int64.ofNat (0 + (5 + (own_u8 cs0).length) + (5 + (own_u8 cs1).length)))), .second, vi 1, .unset, .unset, .unset, .unset] [(.ref t), (.ref t)])) rfl rfl (dd 64 rfl)
  refine own_go (S' := (T165.setTop (mkF m 119 #[vr t, vr ar, vi key, vr b102, .val (.long (Int64.ofNat (0 + (5 + (own_u8 cs0).length) + (5 + (own_u8 cs1).length)))), .second, vi 1, .unset, .unset, .unset, .unset] [(.int ((Int32.ofNat r) + (1 : Int32))), (.ref t)]))) (fun tq kq => st153.trans (XS.aloadN X153.here hx rfl (dd 49 rfl) rfl rfl (st154 tq (XS.aloadN X154.here hx rfl (dd 51 rfl) rfl rfl (st155 tq (XS.aloadN X155.here hx rfl (dd 53 rfl) rfl rfl (st156 tq (st157 tq (XS.aloadN X157.here hx rfl (dd 56 rfl) rfl rfl (st159 tq (XS.aloadN X159.here hx rfl (dd 58 rfl) rfl rfl (st161 tq (XS.iloadN X161.here hx rfl (dd 60 rfl) rfl (st163 tq (XS.aloadN X163.here hx rfl (dd 62 rfl) rfl rfl (XS.dup X163.here hx rfl (dd 63 rfl) rfl rfl (st165 tq (XS.iconst X165.here hx rfl (dd 65 rfl) (XS.iadd X165.here hx rfl (dd 66 rfl) rfl kq))))))))))))))))))) ?_
  rw [own_succ r]
  have hblr := hblr0
  have f166 := ((f145.wr W157).wr W163)
  obtain ⟨T167, h167, X167, e167, W167, st167⟩ := putF X165 hx hZ hown (host := "") (Or.inl (ww hw 107 rfl)) Via.refl e165 f164 f166 (Or.inl (ww hw 108 rfl)) (ww hw 41 rfl) (ty := .int) (by decide) rfl rfl (g := (mkF m 119 #[vr t, vr ar, vi key, vr b102, .val (.long (Int64.ofNat (0 + (5 + (own_u8 cs0).length) + (5 + (own_u8 cs1).length)))), .second, vi 1, .unset, .unset, .unset, .unset] [(.int (Int32.ofNat (r + 1))), (.ref t)])) rfl rfl (dd 67 rfl)
  have N167 := Fr.snoc X167 N163 gt
  have O167 := O163.wr W167 gt
  have K167 := K163.wr W167 (Or.inl (List.mem_of_getElem? (i := 0) rfl))
  have F167 := f164.same W167
  have f168 := (((V137.other W157 (Ne.symm ne_bs_b102)).other W163 (Ne.symm ne_bk_b102)).other W167 (Ne.symm ne_t_b102))
  obtain ⟨cl169, Ar169, ln169⟩ := f168.len
  have lq169 : cl169.slots.size.toInt32 = (2 : Int32) := ln169.trans rfl
  obtain ⟨cl170, Ar170, -, -, hin170, hat170⟩ := f168.at (j := (0 : Int32)) (v := (.ref b116)) (by decide) rfl
  have f171 := (((((f120.keep K135 nin0).other W137 (Ne.symm ne_b102_b116)).other W157 (Ne.symm ne_bs_b116)).other W163 (Ne.symm ne_bk_b116)).other W167 (Ne.symm ne_t_b116))
  obtain ⟨cl172, Ar172, ln172⟩ := f171.len
  have lq172 : cl172.slots.size.toInt32 = (Int32.ofNat (own_u8 cs0).length) := ln172.trans (by rw [own_bvlen])
  have f173 := (f166.wr W167)
  have f174 := (((f141.other W157 (Or.inl nq2)).other W163 (Or.inl nq3)).other W167 (Or.inr (slot_ne (Or.inr (ww hw 55 rfl)) (Or.inl (ww hw 108 rfl)) (by decide) (t := .int) (t' := .int) (by decide) (by decide))))
  have f175 := (((f146.other W157 (Or.inl nq2)).other W163 (Or.inl nq3)).other W167 (Or.inr (slot_ne (Or.inl (ww hw 48 rfl)) (Or.inl (ww hw 108 rfl)) (by decide) (t := (.array .byte)) (t' := .int) (by decide) (by decide))))
  have f176 := (((f143.other W157 (Or.inl nq2)).other W163 (Or.inl nq3)).other W167 (Or.inr (slot_ne (Or.inl (ww hw 102 rfl)) (Or.inl (ww hw 108 rfl)) (by decide) (t := .int) (t' := .int) (by decide) (by decide))))
  have f177 := (((f147.other W157 (Or.inl nq2)).other W163 (Or.inl nq3)).other W167 (Or.inr (slot_ne (Or.inl (ww hw 51 rfl)) (Or.inl (ww hw 108 rfl)) (by decide) (t := (.array .int)) (t' := .int) (by decide) (by decide))))
  have f178 := ((f158.other W163 (Or.inl nq3)).other W167 (Or.inr (slot_ne (Or.inl (ww hw 53 rfl)) (Or.inl (ww hw 108 rfl)) (by decide) (t := (.array .int)) (t' := .int) (by decide) (by decide))))
  have f179 := (((f150.other W157 nq4).other W163 nq5).other W167 (Ne.symm nq1))
  have f180 := ((V157.other W163 nq6).other W167 (Ne.symm nq2))
  have f181 := (V163.other W167 (Ne.symm nq3))
  obtain ⟨cq182, q182, q182'⟩ := f173.cell
  obtain ⟨_, _, ⟨T182, L182, k182, n182⟩, -, X182, ⟨Lc182, hQ182, l182, y182, z182⟩, st182⟩ := X167.privateBack hx (y := M12) hown (mvT hZ (ww hw 109 rfl)) (mvT hZ (ww hw 110 rfl)) (own_selfsel hZ (ww hw 41 rfl) (ww hw 111 rfl) (ww hw 110 rfl) (by decide)) (Cond.privateMethod_at (mvP hZ (ww hw 111 rfl) (args := #[]))) (mvT hZ (ww hw 112 rfl)) (by decide) (backOf (W := 0) (rm18 l Z a0 hw [] h167 n0 O167 t bb bs bk k1 k2 k3 (2 : Int32) bl (sl.set r (.int (Int32.ofNat bl.length))) (kl.set r (.int key)) (r + 1) (own_u8 cs0).length ⟨⟨f173, f174, f175, f176, f177, f178, F167⟩, ⟨f179, f180, f181⟩, ⟨(by rw [List.length_set]; exact ls), (by rw [List.length_set]; exact lk)⟩, nq1, nq2, nq3, nq4, nq5, nq6⟩ (by omega) (by omega) gt gbb) hZ (ww hw 112 rfl) (ww hw 42 rfl) (by decide) (by decide)) (g := (mkF m 151 #[vr t, vr ar, vi key, vr b102, .val (.long (Int64.ofNat (0 + (5 + (own_u8 cs0).length) + (5 + (own_u8 cs1).length)))), .second, vi 1, vr b102, vi 2, vi 0, vr b116] [(.int (Int32.ofNat (own_u8 cs0).length)), (.ref t)])) rfl (by rw [hml]; rfl) (Steps.refl _) (a := t) (by rw [e167]; exact q182) q182' (argsL := [(.int (Int32.ofNat (own_u8 cs0).length))]) (rest := []) (lenOf pd_20 rfl) rfl (by show 2 * 0 + _ ≤ _; exact Nat.le_of_eq rfl) (dd 85 rfl) (fun _ _ => ⟨rfl, e167, (by decide : 5 + 0 ≤ _), (by decide : 3202 + 0 ≤ _)⟩)
  dsimp only [Pt.U, Pt.locs, Pt.cells, Pt.slots] at X182 l182 y182 z182 st182 hQ182
  subst l182 y182 z182
  obtain ⟨rfl, N182, K182, TR182⟩ := hQ182
  have Nf182 := Fr.app N167 N182
  have O182 := O167.keep K182 (allS gt (allS gbb all0))
  have KK182 := K167.trans K182 (allS (Or.inl (List.mem_of_getElem? (i := 0) rfl)) (allS (Or.inl (List.mem_of_getElem? (i := 1) rfl)) all0))
  obtain ⟨⟨Et182, Fw182, Fb182, Fu182, Fs182, Fk182, Fz182⟩, ⟨Vb182, Vs182, Vk182⟩, ⟨ls182, lk182⟩, nq1182, nq2182, nq3182, nq4182, nq5182, nq6182⟩ := TR182
  have hln182 : (bl ++ own_vl (own_u8 cs0).length).length ≤ bl.length + 2 := by rw [List.length_append]; omega
  have hlm182 : (own_bv (bl ++ own_vl (own_u8 cs0).length)).length = (bl ++ own_vl (own_u8 cs0).length).length := own_bvlen _
  refine own_go (S' := (T167.setTop (mkF m 151 #[vr t, vr ar, vi key, vr b102, .val (.long (Int64.ofNat (0 + (5 + (own_u8 cs0).length) + (5 + (own_u8 cs1).length)))), .second, vi 1, vr b102, vi 2, vi 0, vr b116] [(.int (Int32.ofNat (own_u8 cs0).length)), (.ref t)]))) (fun tq kq => st167 tq (XS.aloadN X167.here hx rfl (dd 68 rfl) rfl rfl (XS.astore X167.here hx rfl (dd 69 rfl) rfl rfl (l' := #[vr t, vr ar, vi key, vr b102, .val (.long (Int64.ofNat (0 + (5 + (own_u8 cs0).length) + (5 + (own_u8 cs1).length)))), .second, vi 1, vr b102, .unset, .unset, .unset]) rfl (XS.aload X167.here hx rfl (dd 70 rfl) rfl rfl (X167.arraylength hx (by rw [e167]; exact Ar169.1) (State.isArrayOf_alike hZ.alike Ar169.2.1) (g := (mkF m 127 #[vr t, vr ar, vi key, vr b102, .val (.long (Int64.ofNat (0 + (5 + (own_u8 cs0).length) + (5 + (own_u8 cs1).length)))), .second, vi 1, vr b102, .unset, .unset, .unset] [(.ref b102)])) rfl rfl (dd 71 rfl) tq (by rw [lq169]; exact (XS.istore X167.here hx rfl (dd 72 rfl) rfl (l' := #[vr t, vr ar, vi key, vr b102, .val (.long (Int64.ofNat (0 + (5 + (own_u8 cs0).length) + (5 + (own_u8 cs1).length)))), .second, vi 1, vr b102, vi 2, .unset, .unset]) rfl (XS.iconst X167.here hx rfl (dd 73 rfl) (XS.istore X167.here hx rfl (dd 74 rfl) rfl (l' := #[vr t, vr ar, vi key, vr b102, .val (.long (Int64.ofNat (0 + (5 + (own_u8 cs0).length) + (5 + (own_u8 cs1).length)))), .second, vi 1, vr b102, vi 2, vi 0, .unset]) rfl (XS.iload X167.here hx rfl (dd 75 rfl) rfl (XS.iload X167.here hx rfl (dd 76 rfl) rfl (XS.icmpNo X167.here hx rfl (dd 77 rfl) rfl (tlt (by decide : (0 : Int32) < (2 : Int32))).2.1 (XS.aload X167.here hx rfl (dd 78 rfl) rfl rfl (XS.iload X167.here hx rfl (dd 79 rfl) rfl (X167.aaload hx (j := (0 : Int32)) (v := (.ref b116)) (by rw [e167]; exact Ar170.1) (State.isArrayOf_alike hZ.alike Ar170.2.1) rfl Ar170.2.2 hin170 hat170 (g := (mkF m 144 #[vr t, vr ar, vi key, vr b102, .val (.long (Int64.ofNat (0 + (5 + (own_u8 cs0).length) + (5 + (own_u8 cs1).length)))), .second, vi 1, vr b102, vi 2, vi 0, .unset] [(.int 0), (.ref b102)])) rfl rfl (dd 80 rfl) tq (XS.astore X167.here hx rfl (dd 81 rfl) rfl rfl (l' := #[vr t, vr ar, vi key, vr b102, .val (.long (Int64.ofNat (0 + (5 + (own_u8 cs0).length) + (5 + (own_u8 cs1).length)))), .second, vi 1, vr b102, vi 2, vi 0, vr b116]) rfl (XS.aloadN X167.here hx rfl (dd 82 rfl) rfl rfl (XS.aload X167.here hx rfl (dd 83 rfl) rfl rfl (X167.arraylength hx (by rw [e167]; exact Ar172.1) (State.isArrayOf_alike hZ.alike Ar172.2.1) (g := (mkF m 150 #[vr t, vr ar, vi key, vr b102, .val (.long (Int64.ofNat (0 + (5 + (own_u8 cs0).length) + (5 + (own_u8 cs1).length)))), .second, vi 1, vr b102, vi 2, vi 0, vr b116] [(.ref b116), (.ref t)])) rfl rfl (dd 84 rfl) tq (by rw [lq172]; exact kq)))))))))))))))))))) ?_
  replace hblr := own_rapp hblr (own_vlr (show (own_u8 cs0).length < 16384 by omega))
  obtain ⟨T183, X183, e183, st183⟩ := getF X182 hx hZ hown (host := "") (Or.inl (ww hw 47 rfl)) Via.refl rfl Fb182 (g := (mkF m 158 #[vr t, vr ar, vi key, vr b102, .val (.long (Int64.ofNat (0 + (5 + (own_u8 cs0).length) + (5 + (own_u8 cs1).length)))), .second, vi 1, vr b102, vi 2, vi 0, vr b116] [(.ref t), (.int 0), (.ref b116)])) rfl rfl (dd 89 rfl)
  obtain ⟨T184, X184, e184, st184⟩ := getF X183 hx hZ hown (host := "") (Or.inl (ww hw 101 rfl)) Via.refl e183 Fu182 (g := (mkF m 162 #[vr t, vr ar, vi key, vr b102, .val (.long (Int64.ofNat (0 + (5 + (own_u8 cs0).length) + (5 + (own_u8 cs1).length)))), .second, vi 1, vr b102, vi 2, vi 0, vr b116] [(.ref t), (.ref bb), (.int 0), (.ref b116)])) rfl rfl (dd 91 rfl)
  have f185 := (f171.keep K182 (ninS (Ne.symm ne_t_b116) (ninS (Ne.symm ne_bb_b116) nin0)))
  obtain ⟨cl186, Ar186, ln186⟩ := f185.len
  have lq186 : cl186.slots.size.toInt32 = (Int32.ofNat (own_u8 cs0).length) := ln186.trans (by rw [own_bvlen])
  obtain ⟨T187, h187, L187, X187, e187, N187, K187, U187, st187⟩ := own_cp X184 hx hZ hown (ww hw 113 rfl) (ww hw 116 rfl) (ww hw 114 rfl) (ww hw 115 rfl) e184 (sp := (0 : Int32)) (dp := (Int32.ofNat (bl ++ own_vl (own_u8 cs0).length).length)) (nn := (Int32.ofNat (own_u8 cs0).length)) f185 Vb182 rfl (own_bvfit (own_u8r hc0)) (own_padfit (own_bvfit hblr)) (by decide) (own_pos (by omega)) (own_pos (by omega)) (by rw [own_clamp (by omega), own_bvlen]; show 0 + _ ≤ _; omega) (by rw [own_clamp (by omega), own_clamp (by omega), own_padlen (by omega)]; omega) Nf182 gbb (g := (mkF m 168 #[vr t, vr ar, vi key, vr b102, .val (.long (Int64.ofNat (0 + (5 + (own_u8 cs0).length) + (5 + (own_u8 cs1).length)))), .second, vi 1, vr b102, vi 2, vi 0, vr b116] [(.int (Int32.ofNat (own_u8 cs0).length)), (.int (Int32.ofNat (bl ++ own_vl (own_u8 cs0).length).length)), (.ref bb), (.int 0), (.ref b116)])) rfl (by rw [hml]; rfl) rfl (dd 94 rfl) (by decide) (W := 0) (by show 2 * 0 + _ ≤ _; exact Nat.le_of_eq rfl) (by decide)
  have V187 : own_Ar Z h187 bb k1 .byte (own_pad (own_bv ((bl ++ own_vl (own_u8 cs0).length) ++ own_u8 cs0)) 4096 (.int 0)) := (by have q := U187; rw [own_clamp (by omega), own_clamp (by omega)] at q; have r1 := own_padcopy (us := own_bv (bl ++ own_vl (own_u8 cs0).length)) (X := own_bv (own_u8 cs0)) (M := 4096) (d := .int 0) (by rw [own_bvlen, own_bvlen]; omega); rw [own_bvlen, own_bvlen] at r1; rw [own_bvapp, ← r1]; simpa [List.take_of_length_le, own_bvlen] using q)
  have O187 := O182.keep K187 (allS gbb all0)
  have KK187 := KK182.trans K187 (allS (Or.inl (List.mem_of_getElem? (i := 1) rfl)) all0)
  have f188 := (Fu182.keep K187 (ninS nq1182 nin0))
  obtain ⟨T189, X189, e189, st189⟩ := getF X187 hx hZ hown (host := "") (Or.inl (ww hw 101 rfl)) Via.refl e187 f188 (g := (mkF m 173 #[vr t, vr ar, vi key, vr b102, .val (.long (Int64.ofNat (0 + (5 + (own_u8 cs0).length) + (5 + (own_u8 cs1).length)))), .second, vi 1, vr b102, vi 2, vi 0, vr b116] [(.ref t), (.ref t)])) rfl rfl (dd 97 rfl)
  have f190 := (f185.keep K187 (ninS (Ne.symm ne_bb_b116) nin0))
  obtain ⟨cl191, Ar191, ln191⟩ := f190.len
  have lq191 : cl191.slots.size.toInt32 = (Int32.ofNat (own_u8 cs0).length) := ln191.trans (by rw [own_bvlen])
  refine own_go (S' := (T189.setTop (mkF m 180 #[vr t, vr ar, vi key, vr b102, .val (.long (Int64.ofNat (0 + (5 + (own_u8 cs0).length) + (5 + (own_u8 cs1).length)))), .second, vi 1, vr b102, vi 2, vi 0, vr b116] [(.int ((Int32.ofNat (bl ++ own_vl (own_u8 cs0).length).length) + (Int32.ofNat (own_u8 cs0).length))), (.ref t)]))) (fun tq kq => st182.trans (XS.aload X182.here hx rfl (dd 86 rfl) rfl rfl (XS.iconst X182.here hx rfl (dd 87 rfl) (XS.aloadN X182.here hx rfl (dd 88 rfl) rfl rfl (st183 tq (XS.aloadN X183.here hx rfl (dd 90 rfl) rfl rfl (st184 tq (XS.aload X184.here hx rfl (dd 92 rfl) rfl rfl (X184.arraylength hx (by rw [e184]; exact Ar186.1) (State.isArrayOf_alike hZ.alike Ar186.2.1) (g := (mkF m 167 #[vr t, vr ar, vi key, vr b102, .val (.long (Int64.ofNat (0 + (5 + (own_u8 cs0).length) + (5 + (own_u8 cs1).length)))), .second, vi 1, vr b102, vi 2, vi 0, vr b116] [(.ref b116), (.int (Int32.ofNat (bl ++ own_vl (own_u8 cs0).length).length)), (.ref bb), (.int 0), (.ref b116)])) rfl rfl (dd 93 rfl) tq (by rw [lq186]; exact (st187 tq (XS.aloadN X187.here hx rfl (dd 95 rfl) rfl rfl (XS.dup X187.here hx rfl (dd 96 rfl) rfl rfl (st189 tq (XS.aload X189.here hx rfl (dd 98 rfl) rfl rfl (X189.arraylength hx (by rw [e189]; exact Ar191.1) (State.isArrayOf_alike hZ.alike Ar191.2.1) (g := (mkF m 178 #[vr t, vr ar, vi key, vr b102, .val (.long (Int64.ofNat (0 + (5 + (own_u8 cs0).length) + (5 + (own_u8 cs1).length)))), .second, vi 1, vr b102, vi 2, vi 0, vr b116] [(.ref b116), (.int (Int32.ofNat (bl ++ own_vl (own_u8 cs0).length).length)), (.ref t)])) rfl rfl (dd 99 rfl) tq (by rw [lq191]; exact (XS.iadd X189.here hx rfl (dd 100 rfl) rfl kq)))))))))))))))))) ?_
  rw [own_addN, ← List.length_append]
  replace hblr := own_rapp hblr (own_u8r hc0)
  have hlx0 : ((bl ++ own_vl (own_u8 cs0).length) ++ own_u8 cs0).length ≤ (bl ++ own_vl (own_u8 cs0).length).length + 390 := by rw [List.length_append]; omega
  have f192 := (Et182.keep K187)
  obtain ⟨T193, h193, X193, e193, W193, st193⟩ := putF X189 hx hZ hown (host := "") (Or.inl (ww hw 101 rfl)) Via.refl e189 f188 f192 (Or.inl (ww hw 102 rfl)) (ww hw 41 rfl) (ty := .int) (by decide) rfl rfl (g := (mkF m 180 #[vr t, vr ar, vi key, vr b102, .val (.long (Int64.ofNat (0 + (5 + (own_u8 cs0).length) + (5 + (own_u8 cs1).length)))), .second, vi 1, vr b102, vi 2, vi 0, vr b116] [(.int (Int32.ofNat ((bl ++ own_vl (own_u8 cs0).length) ++ own_u8 cs0).length)), (.ref t)])) rfl rfl (dd 101 rfl)
  have N193 := Fr.snoc X193 N187 gt
  have O193 := O187.wr W193 gt
  have K193 := KK187.wr W193 (Or.inl (List.mem_of_getElem? (i := 0) rfl))
  have F193 := f188.same W193
  have f194 := (((f168.keep K182 (ninS (Ne.symm ne_t_b102) (ninS (Ne.symm ne_bb_b102) nin0))).keep K187 (ninS (Ne.symm ne_bb_b102) nin0)).other W193 (Ne.symm ne_t_b102))
  obtain ⟨cl195, Ar195, -, -, hin195, hat195⟩ := f194.at (j := (1 : Int32)) (v := (.ref b135)) (by decide) rfl
  have f196 := ((((((f139.other W157 (Ne.symm ne_bs_b135)).other W163 (Ne.symm ne_bk_b135)).other W167 (Ne.symm ne_t_b135)).keep K182 (ninS (Ne.symm ne_t_b135) (ninS (Ne.symm ne_bb_b135) nin0))).keep K187 (ninS (Ne.symm ne_bb_b135) nin0)).other W193 (Ne.symm ne_t_b135))
  obtain ⟨cl197, Ar197, ln197⟩ := f196.len
  have lq197 : cl197.slots.size.toInt32 = (Int32.ofNat (own_u8 cs1).length) := ln197.trans (by rw [own_bvlen])
  have f198 := (f192.wr W193)
  have f199 := ((Fw182.keep K187 (ninS nq1182 nin0)).other W193 (Or.inr (slot_ne (Or.inr (ww hw 55 rfl)) (Or.inl (ww hw 102 rfl)) (by decide) (t := .int) (t' := .int) (by decide) (by decide))))
  have f200 := ((Fb182.keep K187 (ninS nq1182 nin0)).other W193 (Or.inr (slot_ne (Or.inl (ww hw 48 rfl)) (Or.inl (ww hw 102 rfl)) (by decide) (t := (.array .byte)) (t' := .int) (by decide) (by decide))))
  have f201 := ((Fs182.keep K187 (ninS nq1182 nin0)).other W193 (Or.inr (slot_ne (Or.inl (ww hw 51 rfl)) (Or.inl (ww hw 102 rfl)) (by decide) (t := (.array .int)) (t' := .int) (by decide) (by decide))))
  have f202 := ((Fk182.keep K187 (ninS nq1182 nin0)).other W193 (Or.inr (slot_ne (Or.inl (ww hw 53 rfl)) (Or.inl (ww hw 102 rfl)) (by decide) (t := (.array .int)) (t' := .int) (by decide) (by decide))))
  have f203 := ((Fz182.keep K187 (ninS nq1182 nin0)).other W193 (Or.inr (slot_ne (Or.inl (ww hw 108 rfl)) (Or.inl (ww hw 102 rfl)) (by decide) (t := .int) (t' := .int) (by decide) (by decide))))
  have f204 := (V187.other W193 (Ne.symm nq1182))
  have f205 := ((Vs182.keep K187 (ninS (Ne.symm nq4182) nin0)).other W193 (Ne.symm nq2182))
  have f206 := ((Vk182.keep K187 (ninS (Ne.symm nq5182) nin0)).other W193 (Ne.symm nq3182))
  obtain ⟨cq207, q207, q207'⟩ := f198.cell
  obtain ⟨_, _, ⟨T207, L207, k207, n207⟩, -, X207, ⟨Lc207, hQ207, l207, y207, z207⟩, st207⟩ := X193.privateBack hx (y := M12) hown (mvT hZ (ww hw 109 rfl)) (mvT hZ (ww hw 110 rfl)) (own_selfsel hZ (ww hw 41 rfl) (ww hw 111 rfl) (ww hw 110 rfl) (by decide)) (Cond.privateMethod_at (mvP hZ (ww hw 111 rfl) (args := #[]))) (mvT hZ (ww hw 112 rfl)) (by decide) (backOf (W := 0) (rm18 l Z a0 hw [] h193 n0 O193 t bb bs bk k1 k2 k3 (2 : Int32) ((bl ++ own_vl (own_u8 cs0).length) ++ own_u8 cs0) (sl.set r (.int (Int32.ofNat bl.length))) (kl.set r (.int key)) (r + 1) (own_u8 cs1).length ⟨⟨f198, f199, f200, F193, f201, f202, f203⟩, ⟨f204, f205, f206⟩, ⟨ls182, lk182⟩, nq1182, nq2182, nq3182, nq4182, nq5182, nq6182⟩ (by omega) (by omega) gt gbb) hZ (ww hw 112 rfl) (ww hw 42 rfl) (by decide) (by decide)) (g := (mkF m 151 #[vr t, vr ar, vi key, vr b102, .val (.long (Int64.ofNat (0 + (5 + (own_u8 cs0).length) + (5 + (own_u8 cs1).length)))), .second, vi 1, vr b102, vi 2, vi 1, vr b135] [(.int (Int32.ofNat (own_u8 cs1).length)), (.ref t)])) rfl (by rw [hml]; rfl) (Steps.refl _) (a := t) (by rw [e193]; exact q207) q207' (argsL := [(.int (Int32.ofNat (own_u8 cs1).length))]) (rest := []) (lenOf pd_20 rfl) rfl (by show 2 * 0 + _ ≤ _; exact Nat.le_of_eq rfl) (dd 85 rfl) (fun _ _ => ⟨rfl, e193, (by decide : 5 + 0 ≤ _), (by decide : 3202 + 0 ≤ _)⟩)
  dsimp only [Pt.U, Pt.locs, Pt.cells, Pt.slots] at X207 l207 y207 z207 st207 hQ207
  subst l207 y207 z207
  obtain ⟨rfl, N207, K207, TR207⟩ := hQ207
  have Nf207 := Fr.app N193 N207
  have KK207 := K193.trans K207 (allS (Or.inl (List.mem_of_getElem? (i := 0) rfl)) (allS (Or.inl (List.mem_of_getElem? (i := 1) rfl)) all0))
  obtain ⟨⟨Et207, Fw207, Fb207, Fu207, Fs207, Fk207, Fz207⟩, ⟨Vb207, Vs207, Vk207⟩, ⟨ls207, lk207⟩, nq1207, nq2207, nq3207, nq4207, nq5207, nq6207⟩ := TR207
  have hln207 : (((bl ++ own_vl (own_u8 cs0).length) ++ own_u8 cs0) ++ own_vl (own_u8 cs1).length).length ≤ ((bl ++ own_vl (own_u8 cs0).length) ++ own_u8 cs0).length + 2 := by rw [List.length_append]; omega
  have hlm207 : (own_bv (((bl ++ own_vl (own_u8 cs0).length) ++ own_u8 cs0) ++ own_vl (own_u8 cs1).length)).length = (((bl ++ own_vl (own_u8 cs0).length) ++ own_u8 cs0) ++ own_vl (own_u8 cs1).length).length := own_bvlen _
  refine own_go (S' := (T193.setTop (mkF m 151 #[vr t, vr ar, vi key, vr b102, .val (.long (Int64.ofNat (0 + (5 + (own_u8 cs0).length) + (5 + (own_u8 cs1).length)))), .second, vi 1, vr b102, vi 2, vi 1, vr b135] [(.int (Int32.ofNat (own_u8 cs1).length)), (.ref t)]))) (fun tq kq => st193 tq (XS.iinc X193.here hx rfl (dd 102 rfl) rfl (l' := #[vr t, vr ar, vi key, vr b102, .val (.long (Int64.ofNat (0 + (5 + (own_u8 cs0).length) + (5 + (own_u8 cs1).length)))), .second, vi 1, vr b102, vi 2, vi 1, vr b116]) rfl (XS.goto X193.here hx rfl (pc0 := 186) (pc' := 133) rfl (dd 103 rfl) (by decide) (by decide) (XS.iload X193.here hx rfl (dd 75 rfl) rfl (XS.iload X193.here hx rfl (dd 76 rfl) rfl (XS.icmpNo X193.here hx rfl (dd 77 rfl) rfl (tlt (by decide : (1 : Int32) < (2 : Int32))).2.1 (XS.aload X193.here hx rfl (dd 78 rfl) rfl rfl (XS.iload X193.here hx rfl (dd 79 rfl) rfl (X193.aaload hx (j := (1 : Int32)) (v := (.ref b135)) (by rw [e193]; exact Ar195.1) (State.isArrayOf_alike hZ.alike Ar195.2.1) rfl Ar195.2.2 hin195 hat195 (g := (mkF m 144 #[vr t, vr ar, vi key, vr b102, .val (.long (Int64.ofNat (0 + (5 + (own_u8 cs0).length) + (5 + (own_u8 cs1).length)))), .second, vi 1, vr b102, vi 2, vi 1, vr b116] [(.int 1), (.ref b102)])) rfl rfl (dd 80 rfl) tq (XS.astore X193.here hx rfl (dd 81 rfl) rfl rfl (l' := #[vr t, vr ar, vi key, vr b102, .val (.long (Int64.ofNat (0 + (5 + (own_u8 cs0).length) + (5 + (own_u8 cs1).length)))), .second, vi 1, vr b102, vi 2, vi 1, vr b135]) rfl (XS.aloadN X193.here hx rfl (dd 82 rfl) rfl rfl (XS.aload X193.here hx rfl (dd 83 rfl) rfl rfl (X193.arraylength hx (by rw [e193]; exact Ar197.1) (State.isArrayOf_alike hZ.alike Ar197.2.1) (g := (mkF m 150 #[vr t, vr ar, vi key, vr b102, .val (.long (Int64.ofNat (0 + (5 + (own_u8 cs0).length) + (5 + (own_u8 cs1).length)))), .second, vi 1, vr b102, vi 2, vi 1, vr b135] [(.ref b135), (.ref t)])) rfl rfl (dd 84 rfl) tq (by rw [lq197]; exact kq)))))))))))))) ?_
  replace hblr := own_rapp hblr (own_vlr (show (own_u8 cs1).length < 16384 by omega))
  obtain ⟨T208, X208, e208, st208⟩ := getF X207 hx hZ hown (host := "") (Or.inl (ww hw 47 rfl)) Via.refl rfl Fb207 (g := (mkF m 158 #[vr t, vr ar, vi key, vr b102, .val (.long (Int64.ofNat (0 + (5 + (own_u8 cs0).length) + (5 + (own_u8 cs1).length)))), .second, vi 1, vr b102, vi 2, vi 1, vr b135] [(.ref t), (.int 0), (.ref b135)])) rfl rfl (dd 89 rfl)
  obtain ⟨T209, X209, e209, st209⟩ := getF X208 hx hZ hown (host := "") (Or.inl (ww hw 101 rfl)) Via.refl e208 Fu207 (g := (mkF m 162 #[vr t, vr ar, vi key, vr b102, .val (.long (Int64.ofNat (0 + (5 + (own_u8 cs0).length) + (5 + (own_u8 cs1).length)))), .second, vi 1, vr b102, vi 2, vi 1, vr b135] [(.ref t), (.ref bb), (.int 0), (.ref b135)])) rfl rfl (dd 91 rfl)
  have f210 := (f196.keep K207 (ninS (Ne.symm ne_t_b135) (ninS (Ne.symm ne_bb_b135) nin0)))
  obtain ⟨cl211, Ar211, ln211⟩ := f210.len
  have lq211 : cl211.slots.size.toInt32 = (Int32.ofNat (own_u8 cs1).length) := ln211.trans (by rw [own_bvlen])
  obtain ⟨T212, h212, L212, X212, e212, N212, K212, U212, st212⟩ := own_cp X209 hx hZ hown (ww hw 113 rfl) (ww hw 116 rfl) (ww hw 114 rfl) (ww hw 115 rfl) e209 (sp := (0 : Int32)) (dp := (Int32.ofNat (((bl ++ own_vl (own_u8 cs0).length) ++ own_u8 cs0) ++ own_vl (own_u8 cs1).length).length)) (nn := (Int32.ofNat (own_u8 cs1).length)) f210 Vb207 rfl (own_bvfit (own_u8r hc1)) (own_padfit (own_bvfit hblr)) (by decide) (own_pos (by omega)) (own_pos (by omega)) (by rw [own_clamp (by omega), own_bvlen]; show 0 + _ ≤ _; omega) (by rw [own_clamp (by omega), own_clamp (by omega), own_padlen (by omega)]; omega) Nf207 gbb (g := (mkF m 168 #[vr t, vr ar, vi key, vr b102, .val (.long (Int64.ofNat (0 + (5 + (own_u8 cs0).length) + (5 + (own_u8 cs1).length)))), .second, vi 1, vr b102, vi 2, vi 1, vr b135] [(.int (Int32.ofNat (own_u8 cs1).length)), (.int (Int32.ofNat (((bl ++ own_vl (own_u8 cs0).length) ++ own_u8 cs0) ++ own_vl (own_u8 cs1).length).length)), (.ref bb), (.int 0), (.ref b135)])) rfl (by rw [hml]; rfl) rfl (dd 94 rfl) (by decide) (W := 0) (by show 2 * 0 + _ ≤ _; exact Nat.le_of_eq rfl) (by decide)
  have V212 : own_Ar Z h212 bb k1 .byte (own_pad (own_bv ((((bl ++ own_vl (own_u8 cs0).length) ++ own_u8 cs0) ++ own_vl (own_u8 cs1).length) ++ own_u8 cs1)) 4096 (.int 0)) := (by have q := U212; rw [own_clamp (by omega), own_clamp (by omega)] at q; have r1 := own_padcopy (us := own_bv (((bl ++ own_vl (own_u8 cs0).length) ++ own_u8 cs0) ++ own_vl (own_u8 cs1).length)) (X := own_bv (own_u8 cs1)) (M := 4096) (d := .int 0) (by rw [own_bvlen, own_bvlen]; omega); rw [own_bvlen, own_bvlen] at r1; rw [own_bvapp, ← r1]; simpa [List.take_of_length_le, own_bvlen] using q)
  have KK212 := KK207.trans K212 (allS (Or.inl (List.mem_of_getElem? (i := 1) rfl)) all0)
  have f213 := (Fu207.keep K212 (ninS nq1207 nin0))
  obtain ⟨T214, X214, e214, st214⟩ := getF X212 hx hZ hown (host := "") (Or.inl (ww hw 101 rfl)) Via.refl e212 f213 (g := (mkF m 173 #[vr t, vr ar, vi key, vr b102, .val (.long (Int64.ofNat (0 + (5 + (own_u8 cs0).length) + (5 + (own_u8 cs1).length)))), .second, vi 1, vr b102, vi 2, vi 1, vr b135] [(.ref t), (.ref t)])) rfl rfl (dd 97 rfl)
  have f215 := (f210.keep K212 (ninS (Ne.symm ne_bb_b135) nin0))
  obtain ⟨cl216, Ar216, ln216⟩ := f215.len
  have lq216 : cl216.slots.size.toInt32 = (Int32.ofNat (own_u8 cs1).length) := ln216.trans (by rw [own_bvlen])
  refine own_go (S' := (T214.setTop (mkF m 180 #[vr t, vr ar, vi key, vr b102, .val (.long (Int64.ofNat (0 + (5 + (own_u8 cs0).length) + (5 + (own_u8 cs1).length)))), .second, vi 1, vr b102, vi 2, vi 1, vr b135] [(.int ((Int32.ofNat (((bl ++ own_vl (own_u8 cs0).length) ++ own_u8 cs0) ++ own_vl (own_u8 cs1).length).length) + (Int32.ofNat (own_u8 cs1).length))), (.ref t)]))) (fun tq kq => st207.trans (XS.aload X207.here hx rfl (dd 86 rfl) rfl rfl (XS.iconst X207.here hx rfl (dd 87 rfl) (XS.aloadN X207.here hx rfl (dd 88 rfl) rfl rfl (st208 tq (XS.aloadN X208.here hx rfl (dd 90 rfl) rfl rfl (st209 tq (XS.aload X209.here hx rfl (dd 92 rfl) rfl rfl (X209.arraylength hx (by rw [e209]; exact Ar211.1) (State.isArrayOf_alike hZ.alike Ar211.2.1) (g := (mkF m 167 #[vr t, vr ar, vi key, vr b102, .val (.long (Int64.ofNat (0 + (5 + (own_u8 cs0).length) + (5 + (own_u8 cs1).length)))), .second, vi 1, vr b102, vi 2, vi 1, vr b135] [(.ref b135), (.int (Int32.ofNat (((bl ++ own_vl (own_u8 cs0).length) ++ own_u8 cs0) ++ own_vl (own_u8 cs1).length).length)), (.ref bb), (.int 0), (.ref b135)])) rfl rfl (dd 93 rfl) tq (by rw [lq211]; exact (st212 tq (XS.aloadN X212.here hx rfl (dd 95 rfl) rfl rfl (XS.dup X212.here hx rfl (dd 96 rfl) rfl rfl (st214 tq (XS.aload X214.here hx rfl (dd 98 rfl) rfl rfl (X214.arraylength hx (by rw [e214]; exact Ar216.1) (State.isArrayOf_alike hZ.alike Ar216.2.1) (g := (mkF m 178 #[vr t, vr ar, vi key, vr b102, .val (.long (Int64.ofNat (0 + (5 + (own_u8 cs0).length) + (5 + (own_u8 cs1).length)))), .second, vi 1, vr b102, vi 2, vi 1, vr b135] [(.ref b135), (.int (Int32.ofNat (((bl ++ own_vl (own_u8 cs0).length) ++ own_u8 cs0) ++ own_vl (own_u8 cs1).length).length)), (.ref t)])) rfl rfl (dd 99 rfl) tq (by rw [lq216]; exact (XS.iadd X214.here hx rfl (dd 100 rfl) rfl kq)))))))))))))))))) ?_
  rw [own_addN, ← List.length_append]
  replace hblr := own_rapp hblr (own_u8r hc1)
  have hlx1 : ((((bl ++ own_vl (own_u8 cs0).length) ++ own_u8 cs0) ++ own_vl (own_u8 cs1).length) ++ own_u8 cs1).length ≤ (((bl ++ own_vl (own_u8 cs0).length) ++ own_u8 cs0) ++ own_vl (own_u8 cs1).length).length + 390 := by rw [List.length_append]; omega
  have f217 := (Et207.keep K212)
  obtain ⟨T218, h218, X218, e218, W218, st218⟩ := putF X214 hx hZ hown (host := "") (Or.inl (ww hw 101 rfl)) Via.refl e214 f213 f217 (Or.inl (ww hw 102 rfl)) (ww hw 41 rfl) (ty := .int) (by decide) rfl rfl (g := (mkF m 180 #[vr t, vr ar, vi key, vr b102, .val (.long (Int64.ofNat (0 + (5 + (own_u8 cs0).length) + (5 + (own_u8 cs1).length)))), .second, vi 1, vr b102, vi 2, vi 1, vr b135] [(.int (Int32.ofNat ((((bl ++ own_vl (own_u8 cs0).length) ++ own_u8 cs0) ++ own_vl (own_u8 cs1).length) ++ own_u8 cs1).length)), (.ref t)])) rfl rfl (dd 101 rfl)
  have N218 := Fr.snoc X218 N212 gt
  have K218 := KK212.wr W218 (Or.inl (List.mem_of_getElem? (i := 0) rfl))
  have F218 := f213.same W218
  refine own_go (S' := (T218.setTop (mkF m 191 #[vr t, vr ar, vi key, vr b102, .val (.long (Int64.ofNat (0 + (5 + (own_u8 cs0).length) + (5 + (own_u8 cs1).length)))), .second, vi 1, vr b102, vi 2, vi 2, vr b135] [(.int 1)]))) (fun tq kq => st218 tq (XS.iinc X218.here hx rfl (dd 102 rfl) rfl (l' := #[vr t, vr ar, vi key, vr b102, .val (.long (Int64.ofNat (0 + (5 + (own_u8 cs0).length) + (5 + (own_u8 cs1).length)))), .second, vi 1, vr b102, vi 2, vi 2, vr b135]) rfl (XS.goto X218.here hx rfl (pc0 := 186) (pc' := 133) rfl (dd 103 rfl) (by decide) (by decide) (XS.iload X218.here hx rfl (dd 75 rfl) rfl (XS.iload X218.here hx rfl (dd 76 rfl) rfl (XS.icmpYes X218.here hx rfl (pc0 := 137) (pc' := 189) rfl (dd 77 rfl) rfl (flt (by decide : ¬ ((2 : Int32) < (2 : Int32)))).2.1 (by decide) (by decide) (XS.iload X218.here hx rfl (dd 104 rfl) rfl kq))))))) ?_
  refine own_retN X218 hx hlk hret (by simp) (dd 105 rfl) (by decide) (by decide) ?_
  have f219 := (f217.wr W218)
  have f220 := ((Fw207.keep K212 (ninS nq1207 nin0)).other W218 (Or.inr (slot_ne (Or.inr (ww hw 55 rfl)) (Or.inl (ww hw 102 rfl)) (by decide) (t := .int) (t' := .int) (by decide) (by decide))))
  have f221 := ((Fb207.keep K212 (ninS nq1207 nin0)).other W218 (Or.inr (slot_ne (Or.inl (ww hw 48 rfl)) (Or.inl (ww hw 102 rfl)) (by decide) (t := (.array .byte)) (t' := .int) (by decide) (by decide))))
  have f222 := ((Fs207.keep K212 (ninS nq1207 nin0)).other W218 (Or.inr (slot_ne (Or.inl (ww hw 51 rfl)) (Or.inl (ww hw 102 rfl)) (by decide) (t := (.array .int)) (t' := .int) (by decide) (by decide))))
  have f223 := ((Fk207.keep K212 (ninS nq1207 nin0)).other W218 (Or.inr (slot_ne (Or.inl (ww hw 53 rfl)) (Or.inl (ww hw 102 rfl)) (by decide) (t := (.array .int)) (t' := .int) (by decide) (by decide))))
  have f224 := ((Fz207.keep K212 (ninS nq1207 nin0)).other W218 (Or.inr (slot_ne (Or.inl (ww hw 108 rfl)) (Or.inl (ww hw 102 rfl)) (by decide) (t := .int) (t' := .int) (by decide) (by decide))))
  have f225 := (V212.other W218 (Ne.symm nq1207))
  have f226 := ((Vs207.keep K212 (ninS (Ne.symm nq4207) nin0)).other W218 (Ne.symm nq2207))
  have f227 := ((Vk207.keep K212 (ninS (Ne.symm nq5207) nin0)).other W218 (Ne.symm nq3207))
  rw [e218]
  exact ⟨rfl, N218, K218, ⟨⟨f219, f220, f221, F218, f222, f223, f224⟩, ⟨f225, f226, f227⟩, ⟨ls207, lk207⟩, nq1207, nq2207, nq3207, nq4207, nq5207, nq6207⟩⟩
theorem pn_cfsN : plainName "jdk/internal/util/Preconditions" = true := by first | (simp [plainName, overriddenIn]; done) | decide +kernel
def Q_cfsN (Z : State) (h0 : Heap) (n0 : Nat) (off : Nat) (cnt : Nat) (ln' : Nat) (v : Option Value) (h : Heap) (L : List Loc) : Prop := v = some (.int (Int32.ofNat off)) ∧ Fr n0 L ∧ h = h0
theorem cfsN (l : Launch) (Z : State) (a0 : Array Value) (hw : ∀ d ∈ tables_1, d.before a0 Z = true) (ws : List Jvm.Cond) (h0 : Heap) (n0 : Nat) (O0 : Old Z n0 h0) (off : Nat) (cnt : Nat) (ln' : Nat) (hoc : off + cnt ≤ ln') (hlb : ln' < 2 ^ 30) :
    MetFree l M8 (head1 (Jvm.Cond.code M8 jdk_41_method_13_code 4 (some .int) :: ws) ({ frames := 0, cells := 0, slots := 0, locals := 0 } : Room)) (fun aq U => aq = #[(.int (Int32.ofNat off)), (.int (Int32.ofNat cnt)), (.int (Int32.ofNat ln')), .null] ∧ Z.Warmed39 U.vm ∧ U.heap = h0) (fun _ _ _ _ _ => True) (fun _ U oo U' => ∃ v L, oo = .returned v ∧ Q_cfsN Z h0 n0 off cnt ln' v U'.heap L ∧ FrameEnd U oo U' L ({ frames := 0, cells := 0, slots := 0, locals := 0 } : Room).cells ({ frames := 0, cells := 0, slots := 0, locals := 0 } : Room).slots) := by
  refine MetFree.of_bodySF (plainFor_of_name pn_cfsN) hisR ?_
  intro p e s m args below meth c s₁ Bd hml0 hP hK
  obtain ⟨rfl, hZ, hh⟩ := hP
  have hx := Bd.exec
  have hby := Bd.bytes
  have dd := @dq _ _ _ hby D23
  have hml : c.maxLocals = 4 := hml0
  have hown : s.vm.findClass "jdk/internal/util/Preconditions" = some m.cls := findClass_of_methodNamed Bd.named
  have hnm := (name_of_methodNamed Bd.named Bd.method).1
  have hlk := Bd.notSynchronized
  have hret := Bd.returns
  have X0 : Stand p l e ({ frames := 0, cells := 0, slots := 0, locals := 0 } : Room) s m #[(.int (Int32.ofNat off)), (.int (Int32.ofNat cnt)), (.int (Int32.ofNat ln')), .null] below meth c s₁ [] 0 0 := Stand.of_body Bd
  have e0 : s₁.heap = h0 := by rw [← hh, Bd.state]; rfl
  have N0 := Fr.nil n0
  have K0 := Keep.refl h0 []
  refine own_go (S' := (s₁.setTop (mkF m 0 #[vi (Int32.ofNat off), vi (Int32.ofNat cnt), vi (Int32.ofNat ln'), .val .null] []))) (fun tq kq => castTop rfl kq) ?_
  show own_G p e s below (Q_cfsN Z h0 n0 off cnt ln') _ _ _
  refine own_go (S' := (s₁.setTop (mkF m 24 #[vi (Int32.ofNat off), vi (Int32.ofNat cnt), vi (Int32.ofNat ln'), .val .null] [(.int (Int32.ofNat off))]))) (fun tq kq => XS.iloadN X0.here hx rfl (dd 0 rfl) rfl (XS.iloadN X0.here hx rfl (dd 1 rfl) rfl (XS.ior X0.here hx rfl (dd 2 rfl) rfl (XS.iloadN X0.here hx rfl (dd 3 rfl) rfl (XS.ior X0.here hx rfl (dd 4 rfl) rfl (XS.ifNo X0.here hx rfl (dd 5 rfl) rfl ((if0 _ _).trans (flt (own_or3 (by omega) (by omega) (by omega))).1) (XS.iloadN X0.here hx rfl (dd 6 rfl) rfl (XS.iloadN X0.here hx rfl (dd 7 rfl) rfl (XS.iloadN X0.here hx rfl (dd 8 rfl) rfl (XS.isub X0.here hx rfl (dd 9 rfl) rfl (XS.icmpYes X0.here hx rfl (pc0 := 12) (pc' := 23) rfl (dd 10 rfl) rfl (flt (by rw [own_subN (by omega), own_lt (by omega) (by omega)]; omega)).2.2.2 (by decide) (by decide) (XS.iloadN X0.here hx rfl (dd 11 rfl) rfl kq)))))))))))) ?_
  refine own_retI X0 hx hlk hret (dd 12 rfl) (by decide) (by decide) ?_
  exact ⟨rfl, N0, e0⟩
def Q_cfsR (Z : State) (h0 : Heap) (n0 : Nat) (fa : Addr) (off : Nat) (cnt : Nat) (ln' : Nat) (v : Option Value) (h : Heap) (L : List Loc) : Prop := v = some (.int (Int32.ofNat off)) ∧ Fr n0 L ∧ h = h0
theorem cfsR (l : Launch) (Z : State) (a0 : Array Value) (hw : ∀ d ∈ tables_1, d.before a0 Z = true) (ws : List Jvm.Cond) (h0 : Heap) (n0 : Nat) (O0 : Old Z n0 h0) (fa : Addr) (off : Nat) (cnt : Nat) (ln' : Nat) (hoc : off + cnt ≤ ln') (hlb : ln' < 2 ^ 30) :
    MetFree l M8 (head1 (Jvm.Cond.code M8 jdk_41_method_13_code 4 (some .int) :: ws) ({ frames := 0, cells := 0, slots := 0, locals := 0 } : Room)) (fun aq U => aq = #[(.int (Int32.ofNat off)), (.int (Int32.ofNat cnt)), (.int (Int32.ofNat ln')), (.ref fa)] ∧ Z.Warmed39 U.vm ∧ U.heap = h0) (fun _ _ _ _ _ => True) (fun _ U oo U' => ∃ v L, oo = .returned v ∧ Q_cfsR Z h0 n0 fa off cnt ln' v U'.heap L ∧ FrameEnd U oo U' L ({ frames := 0, cells := 0, slots := 0, locals := 0 } : Room).cells ({ frames := 0, cells := 0, slots := 0, locals := 0 } : Room).slots) := by
  refine MetFree.of_bodySF (plainFor_of_name pn_cfsN) hisR ?_
  intro p e s m args below meth c s₁ Bd hml0 hP hK
  obtain ⟨rfl, hZ, hh⟩ := hP
  have hx := Bd.exec
  have hby := Bd.bytes
  have dd := @dq _ _ _ hby D23
  have hml : c.maxLocals = 4 := hml0
  have hown : s.vm.findClass "jdk/internal/util/Preconditions" = some m.cls := findClass_of_methodNamed Bd.named
  have hnm := (name_of_methodNamed Bd.named Bd.method).1
  have hlk := Bd.notSynchronized
  have hret := Bd.returns
  have X0 : Stand p l e ({ frames := 0, cells := 0, slots := 0, locals := 0 } : Room) s m #[(.int (Int32.ofNat off)), (.int (Int32.ofNat cnt)), (.int (Int32.ofNat ln')), (.ref fa)] below meth c s₁ [] 0 0 := Stand.of_body Bd
  have e0 : s₁.heap = h0 := by rw [← hh, Bd.state]; rfl
  have N0 := Fr.nil n0
  have K0 := Keep.refl h0 []
  refine own_go (S' := (s₁.setTop (mkF m 0 #[vi (Int32.ofNat off), vi (Int32.ofNat cnt), vi (Int32.ofNat ln'), vr fa] []))) (fun tq kq => castTop rfl kq) ?_
  show own_G p e s below (Q_cfsR Z h0 n0 fa off cnt ln') _ _ _
  refine own_go (S' := (s₁.setTop (mkF m 24 #[vi (Int32.ofNat off), vi (Int32.ofNat cnt), vi (Int32.ofNat ln'), vr fa] [(.int (Int32.ofNat off))]))) (fun tq kq => XS.iloadN X0.here hx rfl (dd 0 rfl) rfl (XS.iloadN X0.here hx rfl (dd 1 rfl) rfl (XS.ior X0.here hx rfl (dd 2 rfl) rfl (XS.iloadN X0.here hx rfl (dd 3 rfl) rfl (XS.ior X0.here hx rfl (dd 4 rfl) rfl (XS.ifNo X0.here hx rfl (dd 5 rfl) rfl ((if0 _ _).trans (flt (own_or3 (by omega) (by omega) (by omega))).1) (XS.iloadN X0.here hx rfl (dd 6 rfl) rfl (XS.iloadN X0.here hx rfl (dd 7 rfl) rfl (XS.iloadN X0.here hx rfl (dd 8 rfl) rfl (XS.isub X0.here hx rfl (dd 9 rfl) rfl (XS.icmpYes X0.here hx rfl (pc0 := 12) (pc' := 23) rfl (dd 10 rfl) rfl (flt (by rw [own_subN (by omega), own_lt (by omega) (by omega)]; omega)).2.2.2 (by decide) (by decide) (XS.iloadN X0.here hx rfl (dd 11 rfl) rfl kq)))))))))))) ?_
  refine own_retI X0 hx hlk hret (dd 12 rfl) (by decide) (by decide) ?_
  exact ⟨rfl, N0, e0⟩
def Q_rm22 (Z : State) (h0 : Heap) (n0 : Nat) (off : Nat) (cnt : Nat) (ln' : Nat) (fm : Value) (v : Option Value) (h : Heap) (L : List Loc) : Prop := v = some (.int (Int32.ofNat off)) ∧ Fr n0 L ∧ h = h0
theorem rm22 (l : Launch) (Z : State) (a0 : Array Value) (hw : ∀ d ∈ tables_1, d.before a0 Z = true) (ws : List Jvm.Cond) (h0 : Heap) (n0 : Nat) (O0 : Old Z n0 h0) (off : Nat) (cnt : Nat) (ln' : Nat) (fm : Value) (hoc : off + cnt ≤ ln') (hlb : ln' < 2 ^ 30) (HF : own_FK Z fm) :
    MetFree l M22 (head1 (Jvm.Cond.code M22 jdk_42_method_157_code 3 (some .int) :: ws) ({ frames := 1, cells := 0, slots := 0, locals := 15 } : Room)) (fun aq U => aq = #[(.int (Int32.ofNat off)), (.int (Int32.ofNat cnt)), (.int (Int32.ofNat ln'))] ∧ Z.Warmed39 U.vm ∧ U.heap = h0) (fun _ _ _ _ _ => True) (fun _ U oo U' => ∃ v L, oo = .returned v ∧ Q_rm22 Z h0 n0 off cnt ln' fm v U'.heap L ∧ FrameEnd U oo U' L ({ frames := 1, cells := 0, slots := 0, locals := 15 } : Room).cells ({ frames := 1, cells := 0, slots := 0, locals := 15 } : Room).slots) := by
  refine MetFree.of_bodySF (plainFor_of_name pn_rm4) hisR ?_
  intro p e s m args below meth c s₁ Bd hml0 hP hK
  obtain ⟨rfl, hZ, hh⟩ := hP
  have hx := Bd.exec
  have hby := Bd.bytes
  have dd := @dq _ _ _ hby D22
  have hml : c.maxLocals = 3 := hml0
  have hown : s.vm.findClass "java/lang/String" = some m.cls := findClass_of_methodNamed Bd.named
  have hnm := (name_of_methodNamed Bd.named Bd.method).1
  have hlk := Bd.notSynchronized
  have hret := Bd.returns
  have X0 : Stand p l e ({ frames := 1, cells := 0, slots := 0, locals := 15 } : Room) s m #[(.int (Int32.ofNat off)), (.int (Int32.ofNat cnt)), (.int (Int32.ofNat ln'))] below meth c s₁ [] 0 0 := Stand.of_body Bd
  have e0 : s₁.heap = h0 := by rw [← hh, Bd.state]; rfl
  have N0 := Fr.nil n0
  have K0 := Keep.refl h0 []
  refine own_go (S' := (s₁.setTop (mkF m 0 #[vi (Int32.ofNat off), vi (Int32.ofNat cnt), vi (Int32.ofNat ln')] []))) (fun tq kq => castTop rfl kq) ?_
  show own_G p e s below (Q_rm22 Z h0 n0 off cnt ln' fm) _ _ _
  obtain ⟨SF, hfm⟩ := HF
  rcases ref_cases hfm with rfl | ⟨fa, rfl⟩
  · obtain ⟨T101, X101, e101, st101⟩ := getS2 X0 hx hZ hown (host := "") (Or.inl (ww hw 135 rfl)) Via.refl e0 (SF.ext O0.2) (g := (mkF m 3 #[vi (Int32.ofNat off), vi (Int32.ofNat cnt), vi (Int32.ofNat ln')] [(.int (Int32.ofNat ln')), (.int (Int32.ofNat cnt)), (.int (Int32.ofNat off))])) rfl (dd 3 rfl)
    obtain ⟨_, _, ⟨T102, L102, k102, n102⟩, -, X102, ⟨Lc102, hQ102, l102, y102, z102⟩, st102⟩ := Jvm.LawKit.callS X101 hx (y := M8) hown (mvT hZ (ww hw 137 rfl)) (mvT hZ (ww hw 138 rfl)) (mvT hZ (ww hw 136 rfl)) (mvT hZ (ww hw 139 rfl)) (by decide) (backOf (W := 0) (cfsN l Z a0 hw [] h0 n0 O0 off cnt ln' hoc hlb) hZ (ww hw 139 rfl) (ww hw 136 rfl) (by decide) (by decide)) (g := (mkF m 6 #[vi (Int32.ofNat off), vi (Int32.ofNat cnt), vi (Int32.ofNat ln')] [.null, (.int (Int32.ofNat ln')), (.int (Int32.ofNat cnt)), (.int (Int32.ofNat off))])) rfl (by rw [hml]; rfl) (argsL := [(.int (Int32.ofNat off)), (.int (Int32.ofNat cnt)), (.int (Int32.ofNat ln')), .null]) (rest := []) (lenOf pd_21 rfl) rfl (by show 2 * 0 + _ ≤ _; exact Nat.le_of_eq rfl) (dd 4 rfl) (fun _ _ => ⟨rfl, e101, (by decide : 0 + 0 ≤ _), (by decide : 0 + 0 ≤ _)⟩)
    dsimp only [Pt.U, Pt.locs, Pt.cells, Pt.slots] at X102 l102 y102 z102 st102 hQ102
    subst l102 y102 z102
    obtain ⟨rfl, N102, eh102⟩ := hQ102
    have Nf102 := Fr.app N0 N102
    refine own_go (S' := (T102.setTop (mkF m 9 #[vi (Int32.ofNat off), vi (Int32.ofNat cnt), vi (Int32.ofNat ln')] [(.int (Int32.ofNat off))]))) (fun tq kq => XS.iloadN X0.here hx rfl (dd 0 rfl) rfl (XS.iloadN X0.here hx rfl (dd 1 rfl) rfl (XS.iloadN X0.here hx rfl (dd 2 rfl) rfl (st101 tq (st102 tq kq))))) ?_
    refine own_retI X102 hx hlk hret (dd 5 rfl) (by decide) (by decide) ?_
    exact ⟨rfl, Nf102, eh102⟩
  · obtain ⟨T103, X103, e103, st103⟩ := getS2 X0 hx hZ hown (host := "") (Or.inl (ww hw 135 rfl)) Via.refl e0 (SF.ext O0.2) (g := (mkF m 3 #[vi (Int32.ofNat off), vi (Int32.ofNat cnt), vi (Int32.ofNat ln')] [(.int (Int32.ofNat ln')), (.int (Int32.ofNat cnt)), (.int (Int32.ofNat off))])) rfl (dd 3 rfl)
    obtain ⟨_, _, ⟨T104, L104, k104, n104⟩, -, X104, ⟨Lc104, hQ104, l104, y104, z104⟩, st104⟩ := Jvm.LawKit.callS X103 hx (y := M8) hown (mvT hZ (ww hw 137 rfl)) (mvT hZ (ww hw 138 rfl)) (mvT hZ (ww hw 136 rfl)) (mvT hZ (ww hw 139 rfl)) (by decide) (backOf (W := 0) (cfsR l Z a0 hw [] h0 n0 O0 fa off cnt ln' hoc hlb) hZ (ww hw 139 rfl) (ww hw 136 rfl) (by decide) (by decide)) (g := (mkF m 6 #[vi (Int32.ofNat off), vi (Int32.ofNat cnt), vi (Int32.ofNat ln')] [(.ref fa), (.int (Int32.ofNat ln')), (.int (Int32.ofNat cnt)), (.int (Int32.ofNat off))])) rfl (by rw [hml]; rfl) (argsL := [(.int (Int32.ofNat off)), (.int (Int32.ofNat cnt)), (.int (Int32.ofNat ln')), (.ref fa)]) (rest := []) (lenOf pd_21 rfl) rfl (by show 2 * 0 + _ ≤ _; exact Nat.le_of_eq rfl) (dd 4 rfl) (fun _ _ => ⟨rfl, e103, (by decide : 0 + 0 ≤ _), (by decide : 0 + 0 ≤ _)⟩)
    dsimp only [Pt.U, Pt.locs, Pt.cells, Pt.slots] at X104 l104 y104 z104 st104 hQ104
    subst l104 y104 z104
    obtain ⟨rfl, N104, eh104⟩ := hQ104
    have Nf104 := Fr.app N0 N104
    refine own_go (S' := (T104.setTop (mkF m 9 #[vi (Int32.ofNat off), vi (Int32.ofNat cnt), vi (Int32.ofNat ln')] [(.int (Int32.ofNat off))]))) (fun tq kq => XS.iloadN X0.here hx rfl (dd 0 rfl) rfl (XS.iloadN X0.here hx rfl (dd 1 rfl) rfl (XS.iloadN X0.here hx rfl (dd 2 rfl) rfl (st103 tq (st104 tq kq))))) ?_
    refine own_retI X104 hx hlk hret (dd 5 rfl) (by decide) (by decide) ?_
    exact ⟨rfl, Nf104, eh104⟩
def Q_rm43 (Z : State) (h0 : Heap) (n0 : Nat) (b : Addr) (kb : ClassId) (vs : List Value) (M : Nat) (v : Option Value) (h : Heap) (L : List Loc) : Prop := v = some (.int (Int32.ofNat M)) ∧ Fr n0 L ∧ h = h0
theorem rm43 (l : Launch) (Z : State) (a0 : Array Value) (hw : ∀ d ∈ tables_1, d.before a0 Z = true) (ws : List Jvm.Cond) (h0 : Heap) (n0 : Nat) (O0 : Old Z n0 h0) (b : Addr) (kb : ClassId) (vs : List Value) (M : Nat) (Vb : own_Ar Z h0 b kb .byte vs) (hvl : vs.length = 2 * M) (hM : M < 2 ^ 28) :
    MetFree l M41 (head1 (Jvm.Cond.code M41 jdk_52_method_6_code 1 (some .int) :: ws) ({ frames := 0, cells := 0, slots := 0, locals := 0 } : Room)) (fun aq U => aq = #[(.ref b)] ∧ Z.Warmed39 U.vm ∧ U.heap = h0) (fun _ _ _ _ _ => True) (fun _ U oo U' => ∃ v L, oo = .returned v ∧ Q_rm43 Z h0 n0 b kb vs M v U'.heap L ∧ FrameEnd U oo U' L ({ frames := 0, cells := 0, slots := 0, locals := 0 } : Room).cells ({ frames := 0, cells := 0, slots := 0, locals := 0 } : Room).slots) := by
  refine MetFree.of_bodySF (plainFor_of_name pn_rm36) hisR ?_
  intro p e s m args below meth c s₁ Bd hml0 hP hK
  obtain ⟨rfl, hZ, hh⟩ := hP
  have hx := Bd.exec
  have hby := Bd.bytes
  have dd := @dq _ _ _ hby D43
  have hml : c.maxLocals = 1 := hml0
  have hown : s.vm.findClass "java/lang/StringUTF16" = some m.cls := findClass_of_methodNamed Bd.named
  have hnm := (name_of_methodNamed Bd.named Bd.method).1
  have hlk := Bd.notSynchronized
  have hret := Bd.returns
  have X0 : Stand p l e ({ frames := 0, cells := 0, slots := 0, locals := 0 } : Room) s m #[(.ref b)] below meth c s₁ [] 0 0 := Stand.of_body Bd
  have e0 : s₁.heap = h0 := by rw [← hh, Bd.state]; rfl
  have N0 := Fr.nil n0
  have K0 := Keep.refl h0 []
  refine own_go (S' := (s₁.setTop (mkF m 0 #[vr b] []))) (fun tq kq => castTop rfl kq) ?_
  show own_G p e s below (Q_rm43 Z h0 n0 b kb vs M) _ _ _
  obtain ⟨cl101, Ar101, ln101⟩ := Vb.len
  have lq101 : cl101.slots.size.toInt32 = (Int32.ofNat (2 * M)) := ln101.trans (by rw [hvl])
  refine own_go (S' := (s₁.setTop (mkF m 4 #[vr b] [(.int ((Int32.ofNat (2 * M)) >>> ((1 : Int32) &&& 31)))]))) (fun tq kq => XS.aloadN X0.here hx rfl (dd 0 rfl) rfl rfl (X0.arraylength hx (by rw [e0]; exact Ar101.1) (State.isArrayOf_alike hZ.alike Ar101.2.1) (g := (mkF m 1 #[vr b] [(.ref b)])) rfl rfl (dd 1 rfl) tq (by rw [lq101]; exact (XS.iconst X0.here hx rfl (dd 2 rfl) (XS.ishr X0.here hx rfl (dd 3 rfl) rfl kq))))) ?_
  rw [own_shr1 (by omega)]
  refine own_retI X0 hx hlk hret (dd 4 rfl) (by decide) (by decide) ?_
  exact ⟨rfl, N0, e0⟩
def Q_rm42 (Z : State) (h0 : Heap) (n0 : Nat) (b : Addr) (kb : ClassId) (vs : List Value) (M : Nat) (j : Nat) (fm : Value) (v : Option Value) (h : Heap) (L : List Loc) : Prop := v = none ∧ Fr n0 L ∧ h = h0
theorem rm42 (l : Launch) (Z : State) (a0 : Array Value) (hw : ∀ d ∈ tables_1, d.before a0 Z = true) (ws : List Jvm.Cond) (h0 : Heap) (n0 : Nat) (O0 : Old Z n0 h0) (b : Addr) (kb : ClassId) (vs : List Value) (M : Nat) (j : Nat) (fm : Value) (Vb : own_Ar Z h0 b kb .byte vs) (hvl : vs.length = 2 * M) (hM : M < 2 ^ 28) (hj : j ≤ M) (HF : own_FK Z fm) :
    MetFree l M42 (head1 (Jvm.Cond.code M42 jdk_52_method_94_code 3 none :: ws) ({ frames := 2, cells := 0, slots := 0, locals := 29 } : Room)) (fun aq U => aq = #[(.int 0), (.int (Int32.ofNat j)), (.ref b)] ∧ Z.Warmed39 U.vm ∧ U.heap = h0) (fun _ _ _ _ _ => True) (fun _ U oo U' => ∃ v L, oo = .returned v ∧ Q_rm42 Z h0 n0 b kb vs M j fm v U'.heap L ∧ FrameEnd U oo U' L ({ frames := 2, cells := 0, slots := 0, locals := 29 } : Room).cells ({ frames := 2, cells := 0, slots := 0, locals := 29 } : Room).slots) := by
  refine MetFree.of_bodySF (plainFor_of_name pn_rm36) hisR ?_
  intro p e s m args below meth c s₁ Bd hml0 hP hK
  obtain ⟨rfl, hZ, hh⟩ := hP
  have hx := Bd.exec
  have hby := Bd.bytes
  have dd := @dq _ _ _ hby D42
  have hml : c.maxLocals = 3 := hml0
  have hown : s.vm.findClass "java/lang/StringUTF16" = some m.cls := findClass_of_methodNamed Bd.named
  have hnm := (name_of_methodNamed Bd.named Bd.method).1
  have hlk := Bd.notSynchronized
  have hret := Bd.returns
  have X0 : Stand p l e ({ frames := 2, cells := 0, slots := 0, locals := 29 } : Room) s m #[(.int 0), (.int (Int32.ofNat j)), (.ref b)] below meth c s₁ [] 0 0 := Stand.of_body Bd
  have e0 : s₁.heap = h0 := by rw [← hh, Bd.state]; rfl
  have N0 := Fr.nil n0
  have K0 := Keep.refl h0 []
  refine own_go (S' := (s₁.setTop (mkF m 0 #[vi 0, vi (Int32.ofNat j), vr b] []))) (fun tq kq => castTop rfl kq) ?_
  show own_G p e s below (Q_rm42 Z h0 n0 b kb vs M j fm) _ _ _
  obtain ⟨_, _, ⟨T101, L101, k101, n101⟩, -, X101, ⟨Lc101, hQ101, l101, y101, z101⟩, st101⟩ := Jvm.LawKit.callS X0 hx (y := M41) hown (mvT hZ (ww hw 214 rfl)) (mvT hZ (ww hw 215 rfl)) (mvT hZ (ww hw 24 rfl)) (mvT hZ (ww hw 216 rfl)) (by decide) (backOf (W := 2) (rm43 l Z a0 hw [] h0 n0 O0 b kb vs M Vb hvl hM) hZ (ww hw 216 rfl) (ww hw 24 rfl) (by decide) (by decide)) (g := (mkF m 3 #[vi 0, vi (Int32.ofNat j), vr b] [(.ref b), (.int (Int32.ofNat j)), (.int 0)])) rfl (by rw [hml]; rfl) (argsL := [(.ref b)]) (rest := [(.int (Int32.ofNat j)), (.int 0)]) (lenOf pd_22 rfl) rfl (by show 2 * 0 + _ ≤ _; exact Nat.le_of_eq rfl) (dd 3 rfl) (fun _ _ => ⟨rfl, e0, (by decide : 0 + 0 ≤ _), (by decide : 0 + 0 ≤ _)⟩)
  dsimp only [Pt.U, Pt.locs, Pt.cells, Pt.slots] at X101 l101 y101 z101 st101 hQ101
  subst l101 y101 z101
  obtain ⟨rfl, N101, eh101⟩ := hQ101
  have Nf101 := Fr.app N0 N101
  obtain ⟨_, _, ⟨T102, L102, k102, n102⟩, -, X102, ⟨Lc102, hQ102, l102, y102, z102⟩, st102⟩ := Jvm.LawKit.callS X101 hx (y := M22) hown (mvT hZ (ww hw 217 rfl)) (mvT hZ (ww hw 133 rfl)) (mvT hZ (ww hw 10 rfl)) (mvT hZ (ww hw 134 rfl)) (by decide) (backOf (W := 0) (rm22 l Z a0 hw [] h0 n0 O0 0 j M fm (by omega) (by omega) HF) hZ (ww hw 134 rfl) (ww hw 10 rfl) (by decide) (by decide)) (g := (mkF m 6 #[vi 0, vi (Int32.ofNat j), vr b] [(.int (Int32.ofNat M)), (.int (Int32.ofNat j)), (.int 0)])) rfl (by rw [hml]; rfl) (argsL := [(.int 0), (.int (Int32.ofNat j)), (.int (Int32.ofNat M))]) (rest := []) (lenOf pd_23 rfl) rfl (by show 2 * 0 + _ ≤ _; exact Nat.le_of_eq rfl) (dd 4 rfl) (fun _ _ => ⟨rfl, eh101, (by decide : 0 + 0 ≤ _), (by decide : 0 + 0 ≤ _)⟩)
  dsimp only [Pt.U, Pt.locs, Pt.cells, Pt.slots] at X102 l102 y102 z102 st102 hQ102
  subst l102 y102 z102
  obtain ⟨rfl, N102, eh102⟩ := hQ102
  have Nf102 := Fr.app Nf101 N102
  refine own_go (S' := (T102.setTop (mkF m 10 #[vi 0, vi (Int32.ofNat j), vr b] []))) (fun tq kq => XS.iloadN X0.here hx rfl (dd 0 rfl) rfl (XS.iloadN X0.here hx rfl (dd 1 rfl) rfl (XS.aloadN X0.here hx rfl (dd 2 rfl) rfl rfl (st101 tq (st102 tq (XS.pop X102.here hx rfl (dd 5 rfl) rfl rfl kq)))))) ?_
  refine own_retV X102 hx hlk hret (dd 6 rfl) (by decide) (by decide) ?_
  exact ⟨rfl, Nf102, eh102⟩
theorem loop41 {p : Program} {l : Launch} {e : Env} {s : State} {m : MethodId} {args : Array Value} {below : List Frame} {meth : Method} {c : Code} {Z : State} {a0 : Array Value} {h0 : Heap} {n0 : Nat} (hlk : meth.locks = false) (hret : meth.sig.returnType = none) (hx : p.tables.exec = Jvm.exec) (hZ : Z.Warmed39 s.vm) (hw : ∀ d ∈ tables_1, d.before a0 Z = true) (hby : c.code = jdk_52_method_86_code) (hml : c.maxLocals = 6) (hown : s.vm.findClass "java/lang/StringUTF16" = some m.cls) (hnm : meth.name = "inflate") (a : Addr) (ka : ClassId) (vs : List Value) (b : Addr) (kb : ClassId) (cs : List Nat) (j : Nat) (M : Nat) (z : Int32) (HP : own_PK Z z) (hs : ∀ t, t < j → vs[t]? = some (.int (own_lb (Int32.ofNat (cs.getD t 0))))) (hle : ∀ t, t < j → cs.getD t 0 ≤ 255) (hjl : j ≤ cs.length) (hjM : j ≤ M) (hM4 : M ≤ 400) (gb : n0 ≤ b) (nab : a ≠ b) :
    ∀ (kt : Nat) (i : Nat), i + kt = j → ∀ {Tp : State} {locs : List Loc} {hp : Heap} (Xp : Stand p l e ({ frames := 3, cells := 0, slots := 0, locals := 50 } : Room) s m args below meth c Tp locs 0 0) (ep : Tp.heap = hp) (Np : Fr n0 locs) (Op : Old Z n0 hp) (Kp : Keep h0 hp [b]) (Va : own_Ar Z hp a ka .byte vs) (Vb : own_Ar Z hp b kb .byte (own_pad (own_wv (cs.take i)) (2 * M) (.int 0))), own_G p e s below (fun v h L => v = none ∧ Fr n0 L ∧ Keep h0 h [b] ∧ own_Ar Z h b kb .byte (own_pad (own_wv (cs.take j)) (2 * M) (.int 0))) ({ frames := 3, cells := 0, slots := 0, locals := 50 } : Room).cells ({ frames := 3, cells := 0, slots := 0, locals := 50 } : Room).slots (Tp.setTop (mkF m 10 #[vr a, vi (Int32.ofNat i), vr b, vi (Int32.ofNat i), vi (Int32.ofNat j), vi (Int32.ofNat i)] [])) := by
  have dd := @dq _ _ _ hby D41
  intro kt
  induction kt with
  | zero =>
    intro i  hi Tp locs hp Xp ep Np Op Kp Va Vb
    obtain ⟨SC, hz, SA, SH, SL⟩ := id HP
    refine own_go (S' := (Tp.setTop (mkF m 41 #[vr a, vi (Int32.ofNat i), vr b, vi (Int32.ofNat i), vi (Int32.ofNat j), vi (Int32.ofNat i)] []))) (fun tq kq => XS.iload Xp.here hx rfl (dd 0 rfl) rfl (XS.iload Xp.here hx rfl (dd 1 rfl) rfl (XS.icmpYes Xp.here hx rfl (pc0 := 14) (pc' := 41) rfl (dd 2 rfl) rfl (flt (fun q => absurd ((own_lt (by omega) (by omega)).mp q) (by omega))).2.1 (by decide) (by decide) kq))) ?_
    refine own_retV Xp hx hlk hret (dd 3 rfl) (by decide) (by decide) ?_
    rw [ep]
    have ej : i = j := by omega
    exact ⟨rfl, Np, Kp, ej ▸ Vb⟩
  | succ kt ih =>
    intro i  hi Tp locs hp Xp ep Np Op Kp Va Vb
    obtain ⟨SC, hz, SA, SH, SL⟩ := id HP
    obtain ⟨cl101, Ar101, -, -, hin101, hat101⟩ := Va.at (j := (Int32.ofNat i)) (v := (.int (own_lb (Int32.ofNat (cs.getD i 0))))) (own_pos (by omega)) (by rw [own_clamp (by omega)]; exact hs i (by omega))
    refine own_go (S' := (Tp.setTop (mkF m 32 #[vr a, vi ((Int32.ofNat i) + (1 : Int32)), vr b, vi ((Int32.ofNat i) + (1 : Int32)), vi (Int32.ofNat j), vi (Int32.ofNat i)] [(.int ((own_lb (Int32.ofNat (cs.getD i 0))) &&& (255 : Int32))), (.int (Int32.ofNat i)), (.ref b)]))) (fun tq kq => XS.iload Xp.here hx rfl (dd 0 rfl) rfl (XS.iload Xp.here hx rfl (dd 1 rfl) rfl (XS.icmpNo Xp.here hx rfl (dd 2 rfl) rfl (tlt ((own_lt (by omega) (by omega)).mpr (by omega))).2.1 (XS.aloadN Xp.here hx rfl (dd 4 rfl) rfl rfl (XS.iloadN Xp.here hx rfl (dd 5 rfl) rfl (XS.iinc Xp.here hx rfl (dd 6 rfl) rfl (l' := #[vr a, vi (Int32.ofNat i), vr b, vi ((Int32.ofNat i) + (1 : Int32)), vi (Int32.ofNat j), vi (Int32.ofNat i)]) rfl (XS.aloadN Xp.here hx rfl (dd 7 rfl) rfl rfl (XS.iloadN Xp.here hx rfl (dd 8 rfl) rfl (XS.iinc Xp.here hx rfl (dd 9 rfl) rfl (l' := #[vr a, vi ((Int32.ofNat i) + (1 : Int32)), vr b, vi ((Int32.ofNat i) + (1 : Int32)), vi (Int32.ofNat j), vi (Int32.ofNat i)]) rfl (Xp.baloadBytes hx (j := (Int32.ofNat i)) (v := (.int (own_lb (Int32.ofNat (cs.getD i 0))))) (by rw [ep]; exact Ar101.1) (State.isArrayOf_alike hZ.alike Ar101.2.1) Ar101.2.2 hin101 hat101 (g := (mkF m 27 #[vr a, vi ((Int32.ofNat i) + (1 : Int32)), vr b, vi ((Int32.ofNat i) + (1 : Int32)), vi (Int32.ofNat j), vi (Int32.ofNat i)] [(.int (Int32.ofNat i)), (.ref a), (.int (Int32.ofNat i)), (.ref b)])) rfl rfl (dd 10 rfl) tq (XS.sipush Xp.here hx rfl (dd 11 rfl) (XS.iand Xp.here hx rfl (dd 12 rfl) rfl kq)))))))))))) ?_
    rw [(own_lbs _ (Nat.lt_succ_of_le (hle i (by omega)))).2.1]
    obtain ⟨_, _, ⟨T102, L102, k102, n102⟩, -, X102, ⟨Lc102, hQ102, l102, y102, z102⟩, st102⟩ := Jvm.LawKit.callS Xp hx (y := M4) hown (mvT hZ (ww hw 187 rfl)) (mvT hZ (ww hw 188 rfl)) (mvT hZ (ww hw 24 rfl)) (mvT hZ (ww hw 189 rfl)) (by decide) (backOf (W := 0) (rm36 l Z a0 hw [] hp n0 Op b kb i (2 * M) (Int32.ofNat (cs.getD i 0)) (own_wv (cs.take i)) z HP Vb (own_wvtl (by omega)) (by omega) (by omega) gb) hZ (ww hw 189 rfl) (ww hw 24 rfl) (by decide) (by decide)) (g := (mkF m 32 #[vr a, vi ((Int32.ofNat i) + (1 : Int32)), vr b, vi ((Int32.ofNat i) + (1 : Int32)), vi (Int32.ofNat j), vi (Int32.ofNat i)] [(.int (Int32.ofNat (cs.getD i 0))), (.int (Int32.ofNat i)), (.ref b)])) rfl (by rw [hml]; rfl) (argsL := [(.ref b), (.int (Int32.ofNat i)), (.int (Int32.ofNat (cs.getD i 0)))]) (rest := []) (lenOf pd_1 rfl) rfl (by show 2 * 0 + _ ≤ _; exact Nat.le_of_eq rfl) (dd 13 rfl) (fun _ _ => ⟨rfl, ep, (by decide : 0 + 0 ≤ _), (by decide : 0 + 0 ≤ _)⟩)
    dsimp only [Pt.U, Pt.locs, Pt.cells, Pt.slots] at X102 l102 y102 z102 st102 hQ102
    subst l102 y102 z102
    obtain ⟨rfl, N102, K102, V102⟩ := hQ102
    have Nf102 := Fr.app Np N102
    have O102 := Op.keep K102 (allS gb all0)
    have KK102 := Kp.trans K102 (allS (Or.inl (List.mem_of_getElem? (i := 0) rfl)) all0)
    rw [own_wvS (by omega)] at V102
    refine own_go (S' := (T102.setTop (mkF m 10 #[vr a, vi ((Int32.ofNat i) + (1 : Int32)), vr b, vi ((Int32.ofNat i) + (1 : Int32)), vi (Int32.ofNat j), vi ((Int32.ofNat i) + (1 : Int32))] []))) (fun tq kq => st102 tq (XS.iinc X102.here hx rfl (dd 14 rfl) rfl (l' := #[vr a, vi ((Int32.ofNat i) + (1 : Int32)), vr b, vi ((Int32.ofNat i) + (1 : Int32)), vi (Int32.ofNat j), vi ((Int32.ofNat i) + (1 : Int32))]) rfl (XS.goto X102.here hx rfl (pc0 := 38) (pc' := 10) rfl (dd 15 rfl) (by decide) (by decide) kq))) ?_
    rw [own_succ i]
    have f103 := (Va.keep K102 (ninS nab nin0))
    exact ih (i + 1) (by omega) X102 rfl Nf102 O102 KK102 f103 V102
def Q_rm41 (Z : State) (h0 : Heap) (n0 : Nat) (a : Addr) (ka : ClassId) (vs : List Value) (b : Addr) (kb : ClassId) (cs : List Nat) (j : Nat) (M : Nat) (z : Int32) (fm : Value) (v : Option Value) (h : Heap) (L : List Loc) : Prop := v = none ∧ Fr n0 L ∧ Keep h0 h [b] ∧ own_Ar Z h b kb .byte (own_pad (own_wv (cs.take j)) (2 * M) (.int 0))
theorem rm41 (l : Launch) (Z : State) (a0 : Array Value) (hw : ∀ d ∈ tables_1, d.before a0 Z = true) (ws : List Jvm.Cond) (h0 : Heap) (n0 : Nat) (O0 : Old Z n0 h0) (a : Addr) (ka : ClassId) (vs : List Value) (b : Addr) (kb : ClassId) (cs : List Nat) (j : Nat) (M : Nat) (z : Int32) (fm : Value) (HP : own_PK Z z) (Va : own_Ar Z h0 a ka .byte vs) (Vb : own_Ar Z h0 b kb .byte (own_pad [] (2 * M) (.int 0))) (hs : ∀ t, t < j → vs[t]? = some (.int (own_lb (Int32.ofNat (cs.getD t 0))))) (hle : ∀ t, t < j → cs.getD t 0 ≤ 255) (hjl : j ≤ cs.length) (hjM : j ≤ M) (hM4 : M ≤ 400) (gb : n0 ≤ b) (nab : a ≠ b) (HF : own_FK Z fm) :
    MetFree l M43 (head1 (Jvm.Cond.code M43 jdk_52_method_86_code 6 none :: ws) ({ frames := 3, cells := 0, slots := 0, locals := 50 } : Room)) (fun aq U => aq = #[(.ref a), (.int 0), (.ref b), (.int 0), (.int (Int32.ofNat j))] ∧ Z.Warmed39 U.vm ∧ U.heap = h0) (fun _ _ _ _ _ => True) (fun _ U oo U' => ∃ v L, oo = .returned v ∧ Q_rm41 Z h0 n0 a ka vs b kb cs j M z fm v U'.heap L ∧ FrameEnd U oo U' L ({ frames := 3, cells := 0, slots := 0, locals := 50 } : Room).cells ({ frames := 3, cells := 0, slots := 0, locals := 50 } : Room).slots) := by
  refine MetFree.of_bodySF (plainFor_of_name pn_rm36) hisR ?_
  intro p e s m args below meth c s₁ Bd hml0 hP hK
  obtain ⟨rfl, hZ, hh⟩ := hP
  have hx := Bd.exec
  have hby := Bd.bytes
  have dd := @dq _ _ _ hby D41
  have hml : c.maxLocals = 6 := hml0
  have hown : s.vm.findClass "java/lang/StringUTF16" = some m.cls := findClass_of_methodNamed Bd.named
  have hnm := (name_of_methodNamed Bd.named Bd.method).1
  have hlk := Bd.notSynchronized
  have hret := Bd.returns
  have X0 : Stand p l e ({ frames := 3, cells := 0, slots := 0, locals := 50 } : Room) s m #[(.ref a), (.int 0), (.ref b), (.int 0), (.int (Int32.ofNat j))] below meth c s₁ [] 0 0 := Stand.of_body Bd
  have e0 : s₁.heap = h0 := by rw [← hh, Bd.state]; rfl
  have N0 := Fr.nil n0
  have K0 := Keep.refl h0 [b]
  refine own_go (S' := (s₁.setTop (mkF m 0 #[vr a, vi 0, vr b, vi 0, vi (Int32.ofNat j), .unset] []))) (fun tq kq => castTop rfl kq) ?_
  show own_G p e s below (Q_rm41 Z h0 n0 a ka vs b kb cs j M z fm) _ _ _
  obtain ⟨SC, hz, SA, SH, SL⟩ := id HP
  obtain ⟨_, _, ⟨T101, L101, k101, n101⟩, -, X101, ⟨Lc101, hQ101, l101, y101, z101⟩, st101⟩ := Jvm.LawKit.callS X0 hx (y := M42) hown (mvT hZ (ww hw 211 rfl)) (mvT hZ (ww hw 212 rfl)) (mvT hZ (ww hw 24 rfl)) (mvT hZ (ww hw 213 rfl)) (by decide) (backOf (W := 0) (rm42 l Z a0 hw [] h0 n0 O0 b kb (own_pad [] (2 * M) (.int 0)) M j fm Vb (own_padlen (Nat.zero_le _)) (by omega) hjM HF) hZ (ww hw 213 rfl) (ww hw 24 rfl) (by decide) (by decide)) (g := (mkF m 4 #[vr a, vi 0, vr b, vi 0, vi (Int32.ofNat j), .unset] [(.ref b), (.int (Int32.ofNat j)), (.int 0)])) rfl (by rw [hml]; rfl) (argsL := [(.int 0), (.int (Int32.ofNat j)), (.ref b)]) (rest := []) (lenOf pd_24 rfl) rfl (by show 2 * 0 + _ ≤ _; exact Nat.le_of_eq rfl) (dd 19 rfl) (fun _ _ => ⟨rfl, e0, (by decide : 0 + 0 ≤ _), (by decide : 0 + 0 ≤ _)⟩)
  dsimp only [Pt.U, Pt.locs, Pt.cells, Pt.slots] at X101 l101 y101 z101 st101 hQ101
  subst l101 y101 z101
  obtain ⟨rfl, N101, eh101⟩ := hQ101
  have Nf101 := Fr.app N0 N101
  refine own_go (S' := (T101.setTop (mkF m 10 #[vr a, vi 0, vr b, vi 0, vi (Int32.ofNat j), vi 0] []))) (fun tq kq => XS.iloadN X0.here hx rfl (dd 16 rfl) rfl (XS.iload X0.here hx rfl (dd 17 rfl) rfl (XS.aloadN X0.here hx rfl (dd 18 rfl) rfl rfl (st101 tq (XS.iconst X101.here hx rfl (dd 20 rfl) (XS.istore X101.here hx rfl (dd 21 rfl) rfl (l' := #[vr a, vi 0, vr b, vi 0, vi (Int32.ofNat j), vi 0]) rfl kq)))))) ?_
  exact loop41 hlk hret hx hZ hw hby hml hown hnm a ka vs b kb cs j M z HP hs hle hjl hjM hM4 gb nab (j) (0)  (by omega) X101 eh101 Nf101 O0 K0 Va Vb
theorem pn_rm40 : plainName "java/lang/StringLatin1" = true := by first | (simp [plainName, overriddenIn]; done) | decide +kernel
def Q_rm40 (Z : State) (h0 : Heap) (n0 : Nat) (a : Addr) (ka : ClassId) (vs : List Value) (b : Addr) (kb : ClassId) (cs : List Nat) (j : Nat) (M : Nat) (z : Int32) (fm : Value) (v : Option Value) (h : Heap) (L : List Loc) : Prop := v = none ∧ Fr n0 L ∧ Keep h0 h [b] ∧ own_Ar Z h b kb .byte (own_pad (own_wv (cs.take j)) (2 * M) (.int 0))
theorem rm40 (l : Launch) (Z : State) (a0 : Array Value) (hw : ∀ d ∈ tables_1, d.before a0 Z = true) (ws : List Jvm.Cond) (h0 : Heap) (n0 : Nat) (O0 : Old Z n0 h0) (a : Addr) (ka : ClassId) (vs : List Value) (b : Addr) (kb : ClassId) (cs : List Nat) (j : Nat) (M : Nat) (z : Int32) (fm : Value) (HP : own_PK Z z) (Va : own_Ar Z h0 a ka .byte vs) (Vb : own_Ar Z h0 b kb .byte (own_pad [] (2 * M) (.int 0))) (hs : ∀ t, t < j → vs[t]? = some (.int (own_lb (Int32.ofNat (cs.getD t 0))))) (hle : ∀ t, t < j → cs.getD t 0 ≤ 255) (hjl : j ≤ cs.length) (hjM : j ≤ M) (hM4 : M ≤ 400) (gb : n0 ≤ b) (nab : a ≠ b) (HF : own_FK Z fm) :
    MetFree l M23 (head1 (Jvm.Cond.code M23 jdk_43_method_50_code 5 none :: ws) ({ frames := 4, cells := 0, slots := 0, locals := 67 } : Room)) (fun aq U => aq = #[(.ref a), (.int 0), (.ref b), (.int 0), (.int (Int32.ofNat j))] ∧ Z.Warmed39 U.vm ∧ U.heap = h0) (fun _ _ _ _ _ => True) (fun _ U oo U' => ∃ v L, oo = .returned v ∧ Q_rm40 Z h0 n0 a ka vs b kb cs j M z fm v U'.heap L ∧ FrameEnd U oo U' L ({ frames := 4, cells := 0, slots := 0, locals := 67 } : Room).cells ({ frames := 4, cells := 0, slots := 0, locals := 67 } : Room).slots) := by
  refine MetFree.of_bodySF (plainFor_of_name pn_rm40) hisR ?_
  intro p e s m args below meth c s₁ Bd hml0 hP hK
  obtain ⟨rfl, hZ, hh⟩ := hP
  have hx := Bd.exec
  have hby := Bd.bytes
  have dd := @dq _ _ _ hby D40
  have hml : c.maxLocals = 5 := hml0
  have hown : s.vm.findClass "java/lang/StringLatin1" = some m.cls := findClass_of_methodNamed Bd.named
  have hnm := (name_of_methodNamed Bd.named Bd.method).1
  have hlk := Bd.notSynchronized
  have hret := Bd.returns
  have X0 : Stand p l e ({ frames := 4, cells := 0, slots := 0, locals := 67 } : Room) s m #[(.ref a), (.int 0), (.ref b), (.int 0), (.int (Int32.ofNat j))] below meth c s₁ [] 0 0 := Stand.of_body Bd
  have e0 : s₁.heap = h0 := by rw [← hh, Bd.state]; rfl
  have N0 := Fr.nil n0
  have K0 := Keep.refl h0 [b]
  refine own_go (S' := (s₁.setTop (mkF m 0 #[vr a, vi 0, vr b, vi 0, vi (Int32.ofNat j)] []))) (fun tq kq => castTop rfl kq) ?_
  show own_G p e s below (Q_rm40 Z h0 n0 a ka vs b kb cs j M z fm) _ _ _
  obtain ⟨SC, hz, SA, SH, SL⟩ := id HP
  obtain ⟨_, _, ⟨T101, L101, k101, n101⟩, -, X101, ⟨Lc101, hQ101, l101, y101, z101⟩, st101⟩ := Jvm.LawKit.callS X0 hx (y := M43) hown (mvT hZ (ww hw 208 rfl)) (mvT hZ (ww hw 209 rfl)) (mvT hZ (ww hw 24 rfl)) (mvT hZ (ww hw 210 rfl)) (by decide) (backOf (W := 0) (rm41 l Z a0 hw [] h0 n0 O0 a ka vs b kb cs j M z fm HP Va Vb hs hle hjl hjM hM4 gb nab HF) hZ (ww hw 210 rfl) (ww hw 24 rfl) (by decide) (by decide)) (g := (mkF m 6 #[vr a, vi 0, vr b, vi 0, vi (Int32.ofNat j)] [(.int (Int32.ofNat j)), (.int 0), (.ref b), (.int 0), (.ref a)])) rfl (by rw [hml]; rfl) (argsL := [(.ref a), (.int 0), (.ref b), (.int 0), (.int (Int32.ofNat j))]) (rest := []) (lenOf pd_25 rfl) rfl (by show 2 * 0 + _ ≤ _; exact Nat.le_of_eq rfl) (dd 5 rfl) (fun _ _ => ⟨rfl, e0, (by decide : 0 + 0 ≤ _), (by decide : 0 + 0 ≤ _)⟩)
  dsimp only [Pt.U, Pt.locs, Pt.cells, Pt.slots] at X101 l101 y101 z101 st101 hQ101
  subst l101 y101 z101
  obtain ⟨rfl, N101, K101, V101⟩ := hQ101
  have Nf101 := Fr.app N0 N101
  have KK101 := K0.trans K101 (allS (Or.inl (List.mem_of_getElem? (i := 0) rfl)) all0)
  refine own_go (S' := (T101.setTop (mkF m 9 #[vr a, vi 0, vr b, vi 0, vi (Int32.ofNat j)] []))) (fun tq kq => XS.aloadN X0.here hx rfl (dd 0 rfl) rfl rfl (XS.iloadN X0.here hx rfl (dd 1 rfl) rfl (XS.aloadN X0.here hx rfl (dd 2 rfl) rfl rfl (XS.iloadN X0.here hx rfl (dd 3 rfl) rfl (XS.iload X0.here hx rfl (dd 4 rfl) rfl (st101 tq kq)))))) ?_
  refine own_retV X101 hx hlk hret (dd 6 rfl) (by decide) (by decide) ?_
  exact ⟨rfl, Nf101, KK101, V101⟩
theorem loop44 {p : Program} {l : Launch} {e : Env} {s : State} {m : MethodId} {args : Array Value} {below : List Frame} {meth : Method} {c : Code} {Z : State} {a0 : Array Value} {h0 : Heap} {n0 : Nat} (hlk : meth.locks = false) (hret : meth.sig.returnType = some .int) (hx : p.tables.exec = Jvm.exec) (hZ : Z.Warmed39 s.vm) (hw : ∀ d ∈ tables_1, d.before a0 Z = true) (hby : c.code = jdk_42_method_38_code) (hml : c.maxLocals = 11) (hown : s.vm.findClass "java/lang/String" = some m.cls) (hnm : meth.name = "decodeUTF8_UTF16") (a : Addr) (ka : ClassId) (vs : List Value) (b : Addr) (kb : ClassId) (cs : List Nat) (n : Nat) (L0 : Nat) (m0 : Nat) (z : Int32) (HP : own_PK Z z) (hs : ∀ t, m0 ≤ t → t < L0 → vs[t]? = some (.int (own_fb cs t))) (hL : L0 = (own_u8 cs).length) (hL4 : L0 ≤ 400) (hcs : cs.length = n) (hch : ∀ j, cs.getD j 0 < 32768) (gb : n0 ≤ b) (nab : a ≠ b) :
    ∀ (kt : Nat) (i : Nat) (D : Nat) (t6 : Slot) (t7 : Slot) (t8 : Slot) (t9 : Slot), (i + kt = n ∧ D = (own_u8 (cs.take i)).length ∧ m0 ≤ D ∧ One t6 ∧ One t7 ∧ One t8 ∧ One t9) → ∀ {Tp : State} {locs : List Loc} {hp : Heap} (Xp : Stand p l e ({ frames := 1, cells := 0, slots := 0, locals := 20 } : Room) s m args below meth c Tp locs 0 0) (ep : Tp.heap = hp) (Np : Fr n0 locs) (Op : Old Z n0 hp) (Kp : Keep h0 hp [b]) (Va : own_Ar Z hp a ka .byte vs) (Vb : own_Ar Z hp b kb .byte (own_pad (own_wv (cs.take i)) (2 * L0) (.int 0))), own_G p e s below (fun v h L => v = some (.int (Int32.ofNat n)) ∧ Fr n0 L ∧ Keep h0 h [b] ∧ own_Ar Z h b kb .byte (own_pad (own_wv cs) (2 * L0) (.int 0))) ({ frames := 1, cells := 0, slots := 0, locals := 20 } : Room).cells ({ frames := 1, cells := 0, slots := 0, locals := 20 } : Room).slots (Tp.setTop (mkF m 0 #[vr a, vi (Int32.ofNat D), vi (Int32.ofNat L0), vr b, vi (Int32.ofNat i), vi 1, t6, t7, t8, t9, .unset] [])) := by
  have dd := @dq _ _ _ hby D44
  intro kt
  induction kt with
  | zero =>
    intro i D t6 t7 t8 t9 hi Tp locs hp Xp ep Np Op Kp Va Vb
    obtain ⟨SC, hz, SA, SH, SL⟩ := id HP
    have hD3 := own_D3 hi.2.1 (by omega)
    have hge := own_u8ge cs
    refine own_go (S' := (Tp.setTop (mkF m 623 #[vr a, vi (Int32.ofNat D), vi (Int32.ofNat L0), vr b, vi (Int32.ofNat i), vi 1, t6, t7, t8, t9, .unset] [(.int (Int32.ofNat i))]))) (fun tq kq => XS.iloadN Xp.here hx rfl (dd 0 rfl) rfl (XS.iloadN Xp.here hx rfl (dd 1 rfl) rfl (XS.icmpYes Xp.here hx rfl (pc0 := 2) (pc' := 621) rfl (dd 2 rfl) rfl (flt (fun q => absurd ((own_lt (by omega) (by omega)).mp q) (by have := hi.2.1; rw [List.take_of_length_le (by omega)] at this; omega))).2.1 (by decide) (by decide) (XS.iload Xp.here hx rfl (dd 3 rfl) rfl kq)))) ?_
    refine own_retI Xp hx hlk hret (dd 4 rfl) (by decide) (by decide) ?_
    rw [ep]
    have ei : i = n := by omega
    exact ⟨by rw [ei], Np, Kp, (by have q := Vb; rw [List.take_of_length_le (by omega)] at q; exact q)⟩
  | succ kt ih =>
    intro i D t6 t7 t8 t9 hi Tp locs hp Xp ep Np Op Kp Va Vb
    obtain ⟨SC, hz, SA, SH, SL⟩ := id HP
    have hci := hch i
    have hD3 := own_D3 hi.2.1 (by omega)
    have hul := own_u8lt (show i < cs.length by omega)
    have hge := own_u8ge cs
    have hui := own_uil (cs.getD i 0)
    refine own_go (S' := (Tp.setTop (mkF m 5 #[vr a, vi (Int32.ofNat D), vi (Int32.ofNat L0), vr b, vi (Int32.ofNat i), vi 1, t6, t7, t8, t9, .unset] []))) (fun tq kq => XS.iloadN Xp.here hx rfl (dd 0 rfl) rfl (XS.iloadN Xp.here hx rfl (dd 1 rfl) rfl (XS.icmpNo Xp.here hx rfl (dd 2 rfl) rfl (tlt ((own_lt (by omega) (by omega)).mpr (by omega))).2.1 kq))) ?_
    by_cases hc1 : cs.getD i 0 < 128
    · rw [own_ui1 hc1] at hul
      simp only [List.length_cons, List.length_nil] at hul
      have hr0 : vs[D + 0]? = some (.int (Int32.ofInt (cs.getD i 0 : Nat))) := by have q := own_rd hs hL hi.2.1 hi.2.2.1 (by omega) 0 (by rw [own_ui1 hc1]; simp); rw [own_ui1 hc1] at q; exact q
      obtain ⟨cl101, Ar101, -, -, hin101, hat101⟩ := Va.at (j := (Int32.ofNat D)) (v := (.int (Int32.ofInt (cs.getD i 0 : Nat)))) (own_pos (by omega)) (by rw [own_clamp (by omega)]; exact hr0)
      refine own_go (S' := (Tp.setTop (mkF m 13 #[vr a, vi ((Int32.ofNat D) + (1 : Int32)), vi (Int32.ofNat L0), vr b, vi (Int32.ofNat i), vi 1, vi (Int32.ofInt (cs.getD i 0 : Nat)), t7, t8, t9, .unset] []))) (fun tq kq => XS.aloadN Xp.here hx rfl (dd 5 rfl) rfl rfl (XS.iloadN Xp.here hx rfl (dd 6 rfl) rfl (XS.iinc Xp.here hx rfl (dd 7 rfl) rfl (l' := #[vr a, vi ((Int32.ofNat D) + (1 : Int32)), vi (Int32.ofNat L0), vr b, vi (Int32.ofNat i), vi 1, t6, t7, t8, t9, .unset]) rfl (Xp.baloadBytes hx (j := (Int32.ofNat D)) (v := (.int (Int32.ofInt (cs.getD i 0 : Nat)))) (by rw [ep]; exact Ar101.1) (State.isArrayOf_alike hZ.alike Ar101.2.1) Ar101.2.2 hin101 hat101 (g := (mkF m 10 #[vr a, vi ((Int32.ofNat D) + (1 : Int32)), vi (Int32.ofNat L0), vr b, vi (Int32.ofNat i), vi 1, t6, t7, t8, t9, .unset] [(.int (Int32.ofNat D)), (.ref a)])) rfl rfl (dd 8 rfl) tq (XS.istoreS Xp.here hx rfl (dd 9 rfl) rfl rfl hi.2.2.2.1 kq))))) ?_
      rw [own_succ (D)]
      refine own_go (S' := (Tp.setTop (mkF m 27 #[vr a, vi (Int32.ofNat (D + 1)), vi (Int32.ofNat L0), vr b, vi ((Int32.ofNat i) + (1 : Int32)), vi 1, vi (Int32.ofInt (cs.getD i 0 : Nat)), t7, t8, t9, .unset] [(.int ((Int32.ofInt (cs.getD i 0 : Nat)).toUInt32.toUInt16.toUInt32.toInt32)), (.int (Int32.ofNat i)), (.ref b)]))) (fun tq kq => XS.iload Xp.here hx rfl (dd 10 rfl) rfl (XS.ifNo Xp.here hx rfl (dd 11 rfl) rfl ((if0 _ _).trans (flt (by rw [own_ofI]; exact own_pos (by omega))).1) (XS.aloadN Xp.here hx rfl (dd 12 rfl) rfl rfl (XS.iload Xp.here hx rfl (dd 13 rfl) rfl (XS.iinc Xp.here hx rfl (dd 14 rfl) rfl (l' := #[vr a, vi (Int32.ofNat (D + 1)), vi (Int32.ofNat L0), vr b, vi ((Int32.ofNat i) + (1 : Int32)), vi 1, vi (Int32.ofInt (cs.getD i 0 : Nat)), t7, t8, t9, .unset]) rfl (XS.iload Xp.here hx rfl (dd 15 rfl) rfl (XS.i2c Xp.here hx rfl (dd 16 rfl) rfl kq))))))) ?_
      rw [own_i2cN hci]
      obtain ⟨_, _, ⟨T102, L102, k102, n102⟩, -, X102, ⟨Lc102, hQ102, l102, y102, z102⟩, st102⟩ := Jvm.LawKit.callS Xp hx (y := M4) hown (mvT hZ (ww hw 228 rfl)) (mvT hZ (ww hw 188 rfl)) (mvT hZ (ww hw 24 rfl)) (mvT hZ (ww hw 189 rfl)) (by decide) (backOf (W := 0) (rm36 l Z a0 hw [] hp n0 Op b kb i (2 * L0) (Int32.ofNat (cs.getD i 0)) (own_wv (cs.take i)) z HP Vb (own_wvtl (by omega)) (by omega) (by omega) gb) hZ (ww hw 189 rfl) (ww hw 24 rfl) (by decide) (by decide)) (g := (mkF m 27 #[vr a, vi (Int32.ofNat (D + 1)), vi (Int32.ofNat L0), vr b, vi ((Int32.ofNat i) + (1 : Int32)), vi 1, vi (Int32.ofInt (cs.getD i 0 : Nat)), t7, t8, t9, .unset] [(.int (Int32.ofNat (cs.getD i 0))), (.int (Int32.ofNat i)), (.ref b)])) rfl (by rw [hml]; rfl) (argsL := [(.ref b), (.int (Int32.ofNat i)), (.int (Int32.ofNat (cs.getD i 0)))]) (rest := []) (lenOf pd_1 rfl) rfl (by show 2 * 0 + _ ≤ _; exact Nat.le_of_eq rfl) (dd 17 rfl) (fun _ _ => ⟨rfl, ep, (by decide : 0 + 0 ≤ _), (by decide : 0 + 0 ≤ _)⟩)
      dsimp only [Pt.U, Pt.locs, Pt.cells, Pt.slots] at X102 l102 y102 z102 st102 hQ102
      subst l102 y102 z102
      obtain ⟨rfl, N102, K102, V102⟩ := hQ102
      have Nf102 := Fr.app Np N102
      have O102 := Op.keep K102 (allS gb all0)
      have KK102 := Kp.trans K102 (allS (Or.inl (List.mem_of_getElem? (i := 0) rfl)) all0)
      rw [own_wvS (by omega)] at V102
      refine own_go (S' := (T102.setTop (mkF m 0 #[vr a, vi (Int32.ofNat (D + 1)), vi (Int32.ofNat L0), vr b, vi ((Int32.ofNat i) + (1 : Int32)), vi 1, vi (Int32.ofInt (cs.getD i 0 : Nat)), t7, t8, t9, .unset] []))) (fun tq kq => st102 tq (XS.goto X102.here hx rfl (pc0 := 30) (pc' := 618) rfl (dd 18 rfl) (by decide) (by decide) (XS.goto X102.here hx rfl (pc0 := 618) (pc' := 0) rfl (dd 19 rfl) (by decide) (by decide) kq))) ?_
      rw [own_succ i]
      have f103 := (Va.keep K102 (ninS nab nin0))
      exact ih (i + 1) (D + 1) _ _ _ _ ⟨by omega, own_DS (D := D) (k := 1) hi.2.1 (by omega) (congrArg List.length (own_ui1 hc1)), by omega, One.val rfl, hi.2.2.2.2.1, hi.2.2.2.2.2.1, hi.2.2.2.2.2.2⟩ X102 rfl Nf102 O102 KK102 f103 V102
    · by_cases hc2 : cs.getD i 0 < 2048
      · rw [own_ui2 hc1 hc2] at hul
        simp only [List.length_cons, List.length_nil] at hul
        have hr0 : vs[D + 0]? = some (.int (Int32.ofInt ((cs.getD i 0 / 64 : Nat) - 64 : Int))) := by have q := own_rd hs hL hi.2.1 hi.2.2.1 (by omega) 0 (by rw [own_ui2 hc1 hc2]; simp); rw [own_ui2 hc1 hc2] at q; exact q
        have hr1 : vs[D + 1]? = some (.int (Int32.ofInt ((cs.getD i 0 % 64 : Nat) - 128 : Int))) := by have q := own_rd hs hL hi.2.1 hi.2.2.1 (by omega) 1 (by rw [own_ui2 hc1 hc2]; simp); rw [own_ui2 hc1 hc2] at q; exact q
        have hpa := own_p2 (cs.getD i 0 / 64) (by omega)
        have hq := own_q2 (cs.getD i 0 % 64) (by omega)
        have hd2 : own_d2 (Int32.ofInt ((cs.getD i 0 / 64 : Nat) - 64 : Int)) (Int32.ofInt ((cs.getD i 0 % 64 : Nat) - 128 : Int)) = (Int32.ofNat (cs.getD i 0)) := (own_d2E _ (by omega) _ (by omega)).trans (by congr 1; omega)
        obtain ⟨cl104, Ar104, -, -, hin104, hat104⟩ := Va.at (j := (Int32.ofNat D)) (v := (.int (Int32.ofInt ((cs.getD i 0 / 64 : Nat) - 64 : Int)))) (own_pos (by omega)) (by rw [own_clamp (by omega)]; exact hr0)
        refine own_go (S' := (Tp.setTop (mkF m 13 #[vr a, vi ((Int32.ofNat D) + (1 : Int32)), vi (Int32.ofNat L0), vr b, vi (Int32.ofNat i), vi 1, vi (Int32.ofInt ((cs.getD i 0 / 64 : Nat) - 64 : Int)), t7, t8, t9, .unset] []))) (fun tq kq => XS.aloadN Xp.here hx rfl (dd 5 rfl) rfl rfl (XS.iloadN Xp.here hx rfl (dd 6 rfl) rfl (XS.iinc Xp.here hx rfl (dd 7 rfl) rfl (l' := #[vr a, vi ((Int32.ofNat D) + (1 : Int32)), vi (Int32.ofNat L0), vr b, vi (Int32.ofNat i), vi 1, t6, t7, t8, t9, .unset]) rfl (Xp.baloadBytes hx (j := (Int32.ofNat D)) (v := (.int (Int32.ofInt ((cs.getD i 0 / 64 : Nat) - 64 : Int)))) (by rw [ep]; exact Ar104.1) (State.isArrayOf_alike hZ.alike Ar104.2.1) Ar104.2.2 hin104 hat104 (g := (mkF m 10 #[vr a, vi ((Int32.ofNat D) + (1 : Int32)), vi (Int32.ofNat L0), vr b, vi (Int32.ofNat i), vi 1, t6, t7, t8, t9, .unset] [(.int (Int32.ofNat D)), (.ref a)])) rfl rfl (dd 8 rfl) tq (XS.istoreS Xp.here hx rfl (dd 9 rfl) rfl rfl hi.2.2.2.1 kq))))) ?_
        rw [own_succ (D)]
        obtain ⟨cl105, Ar105, -, -, hin105, hat105⟩ := Va.at (j := (Int32.ofNat (D + 1))) (v := (.int (Int32.ofInt ((cs.getD i 0 % 64 : Nat) - 128 : Int)))) (own_pos (by omega)) (by rw [own_clamp (by omega)]; exact hr1)
        refine own_go (S' := (Tp.setTop (mkF m 63 #[vr a, vi ((Int32.ofNat (D + 1)) + (1 : Int32)), vi (Int32.ofNat L0), vr b, vi (Int32.ofNat i), vi 1, vi (Int32.ofInt ((cs.getD i 0 / 64 : Nat) - 64 : Int)), vi (Int32.ofInt ((cs.getD i 0 % 64 : Nat) - 128 : Int)), t8, t9, .unset] []))) (fun tq kq => XS.iload Xp.here hx rfl (dd 10 rfl) rfl (XS.ifYes Xp.here hx rfl (pc0 := 15) (pc' := 33) rfl (dd 11 rfl) rfl ((if0 _ _).trans (tlt hpa.1).1) (by decide) (by decide) (XS.iload Xp.here hx rfl (dd 20 rfl) rfl (XS.iconst Xp.here hx rfl (dd 21 rfl) (XS.ishr Xp.here hx rfl (dd 22 rfl) rfl (XS.bipush Xp.here hx rfl (dd 23 rfl) (XS.icmpNo Xp.here hx rfl (dd 24 rfl) rfl (teq hpa.2.1).2 (XS.iload Xp.here hx rfl (dd 25 rfl) rfl (XS.bipush Xp.here hx rfl (dd 26 rfl) (XS.iand Xp.here hx rfl (dd 27 rfl) rfl (XS.ifNo Xp.here hx rfl (dd 28 rfl) rfl ((if0 _ _).trans (feq (hpa.2.2.1 (by omega))).1) (XS.iloadN Xp.here hx rfl (dd 29 rfl) rfl (XS.iloadN Xp.here hx rfl (dd 30 rfl) rfl (XS.icmpNo Xp.here hx rfl (dd 31 rfl) rfl (tlt ((own_lt (by omega) (by omega)).mpr (by omega))).2.1 (XS.aloadN Xp.here hx rfl (dd 32 rfl) rfl rfl (XS.iloadN Xp.here hx rfl (dd 33 rfl) rfl (XS.iinc Xp.here hx rfl (dd 34 rfl) rfl (l' := #[vr a, vi ((Int32.ofNat (D + 1)) + (1 : Int32)), vi (Int32.ofNat L0), vr b, vi (Int32.ofNat i), vi 1, vi (Int32.ofInt ((cs.getD i 0 / 64 : Nat) - 64 : Int)), t7, t8, t9, .unset]) rfl (Xp.baloadBytes hx (j := (Int32.ofNat (D + 1))) (v := (.int (Int32.ofInt ((cs.getD i 0 % 64 : Nat) - 128 : Int)))) (by rw [ep]; exact Ar105.1) (State.isArrayOf_alike hZ.alike Ar105.2.1) Ar105.2.2 hin105 hat105 (g := (mkF m 60 #[vr a, vi ((Int32.ofNat (D + 1)) + (1 : Int32)), vi (Int32.ofNat L0), vr b, vi (Int32.ofNat i), vi 1, vi (Int32.ofInt ((cs.getD i 0 / 64 : Nat) - 64 : Int)), t7, t8, t9, .unset] [(.int (Int32.ofNat (D + 1))), (.ref a)])) rfl rfl (dd 35 rfl) tq (XS.istoreS Xp.here hx rfl (dd 36 rfl) rfl rfl hi.2.2.2.2.1 kq))))))))))))))))))) ?_
        rw [own_succ (D + 1)]
        obtain ⟨_, _, ⟨T106, L106, k106, n106⟩, -, X106, ⟨Lc106, hQ106, l106, y106, z106⟩, st106⟩ := Jvm.LawKit.callS Xp hx (y := M36) hown (mvT hZ (ww hw 229 rfl)) (mvT hZ (ww hw 230 rfl)) (mvT hZ (ww hw 10 rfl)) (mvT hZ (ww hw 231 rfl)) (by decide) (backOf (W := 0) (rm47 l Z a0 hw [] hp n0 Op (Int32.ofInt ((cs.getD i 0 % 64 : Nat) - 128 : Int)) hq.1) hZ (ww hw 231 rfl) (ww hw 10 rfl) (by decide) (by decide)) (g := (mkF m 65 #[vr a, vi (Int32.ofNat (D + 1 + 1)), vi (Int32.ofNat L0), vr b, vi (Int32.ofNat i), vi 1, vi (Int32.ofInt ((cs.getD i 0 / 64 : Nat) - 64 : Int)), vi (Int32.ofInt ((cs.getD i 0 % 64 : Nat) - 128 : Int)), t8, t9, .unset] [(.int (Int32.ofInt ((cs.getD i 0 % 64 : Nat) - 128 : Int)))])) rfl (by rw [hml]; rfl) (argsL := [(.int (Int32.ofInt ((cs.getD i 0 % 64 : Nat) - 128 : Int)))]) (rest := []) (lenOf pd_26 rfl) rfl (by show 2 * 0 + _ ≤ _; exact Nat.le_of_eq rfl) (dd 38 rfl) (fun _ _ => ⟨rfl, ep, (by decide : 0 + 0 ≤ _), (by decide : 0 + 0 ≤ _)⟩)
        dsimp only [Pt.U, Pt.locs, Pt.cells, Pt.slots] at X106 l106 y106 z106 st106 hQ106
        subst l106 y106 z106
        obtain ⟨rfl, N106, eh106⟩ := hQ106
        have Nf106 := Fr.app Np N106
        obtain ⟨_, _, ⟨T107, L107, k107, n107⟩, -, X107, ⟨Lc107, hQ107, l107, y107, z107⟩, st107⟩ := Jvm.LawKit.callS X106 hx (y := M18) hown (mvT hZ (ww hw 180 rfl)) (mvT hZ (ww hw 181 rfl)) (mvT hZ (ww hw 10 rfl)) (mvT hZ (ww hw 182 rfl)) (by decide) (backOf (W := 2) (rm34 l Z a0 hw [] hp n0 Op (Int32.ofInt ((cs.getD i 0 / 64 : Nat) - 64 : Int)) (Int32.ofInt ((cs.getD i 0 % 64 : Nat) - 128 : Int))) hZ (ww hw 182 rfl) (ww hw 10 rfl) (by decide) (by decide)) (g := (mkF m 110 #[vr a, vi (Int32.ofNat (D + 1 + 1)), vi (Int32.ofNat L0), vr b, vi ((Int32.ofNat i) + (1 : Int32)), vi 1, vi (Int32.ofInt ((cs.getD i 0 / 64 : Nat) - 64 : Int)), vi (Int32.ofInt ((cs.getD i 0 % 64 : Nat) - 128 : Int)), t8, t9, .unset] [(.int (Int32.ofInt ((cs.getD i 0 % 64 : Nat) - 128 : Int))), (.int (Int32.ofInt ((cs.getD i 0 / 64 : Nat) - 64 : Int))), (.int (Int32.ofNat i)), (.ref b)])) rfl (by rw [hml]; rfl) (argsL := [(.int (Int32.ofInt ((cs.getD i 0 / 64 : Nat) - 64 : Int))), (.int (Int32.ofInt ((cs.getD i 0 % 64 : Nat) - 128 : Int)))]) (rest := [(.int (Int32.ofNat i)), (.ref b)]) (lenOf pd_27 rfl) rfl (by show 2 * 0 + _ ≤ _; exact Nat.le_of_eq rfl) (dd 45 rfl) (fun _ _ => ⟨rfl, eh106, (by decide : 0 + 0 ≤ _), (by decide : 0 + 0 ≤ _)⟩)
        dsimp only [Pt.U, Pt.locs, Pt.cells, Pt.slots] at X107 l107 y107 z107 st107 hQ107
        subst l107 y107 z107
        obtain ⟨rfl, N107, eh107⟩ := hQ107
        have Nf107 := Fr.app Nf106 N107
        refine own_go (S' := (T107.setTop (mkF m 113 #[vr a, vi (Int32.ofNat (D + 1 + 1)), vi (Int32.ofNat L0), vr b, vi ((Int32.ofNat i) + (1 : Int32)), vi 1, vi (Int32.ofInt ((cs.getD i 0 / 64 : Nat) - 64 : Int)), vi (Int32.ofInt ((cs.getD i 0 % 64 : Nat) - 128 : Int)), t8, t9, .unset] [(.int (own_d2 (Int32.ofInt ((cs.getD i 0 / 64 : Nat) - 64 : Int)) (Int32.ofInt ((cs.getD i 0 % 64 : Nat) - 128 : Int)))), (.int (Int32.ofNat i)), (.ref b)]))) (fun tq kq => XS.iload Xp.here hx rfl (dd 37 rfl) rfl (st106 tq (XS.ifYes X106.here hx rfl (pc0 := 68) (pc' := 100) rfl (dd 39 rfl) rfl ((if0 _ _).trans (teq (by decide : (0 : Int32) = (0 : Int32))).1) (by decide) (by decide) (XS.aloadN X106.here hx rfl (dd 40 rfl) rfl rfl (XS.iload X106.here hx rfl (dd 41 rfl) rfl (XS.iinc X106.here hx rfl (dd 42 rfl) rfl (l' := #[vr a, vi (Int32.ofNat (D + 1 + 1)), vi (Int32.ofNat L0), vr b, vi ((Int32.ofNat i) + (1 : Int32)), vi 1, vi (Int32.ofInt ((cs.getD i 0 / 64 : Nat) - 64 : Int)), vi (Int32.ofInt ((cs.getD i 0 % 64 : Nat) - 128 : Int)), t8, t9, .unset]) rfl (XS.iload X106.here hx rfl (dd 43 rfl) rfl (XS.iload X106.here hx rfl (dd 44 rfl) rfl (st107 tq kq))))))))) ?_
        rw [hd2]
        obtain ⟨_, _, ⟨T108, L108, k108, n108⟩, -, X108, ⟨Lc108, hQ108, l108, y108, z108⟩, st108⟩ := Jvm.LawKit.callS X107 hx (y := M4) hown (mvT hZ (ww hw 228 rfl)) (mvT hZ (ww hw 188 rfl)) (mvT hZ (ww hw 24 rfl)) (mvT hZ (ww hw 189 rfl)) (by decide) (backOf (W := 0) (rm36 l Z a0 hw [] hp n0 Op b kb i (2 * L0) (Int32.ofNat (cs.getD i 0)) (own_wv (cs.take i)) z HP Vb (own_wvtl (by omega)) (by omega) (by omega) gb) hZ (ww hw 189 rfl) (ww hw 24 rfl) (by decide) (by decide)) (g := (mkF m 113 #[vr a, vi (Int32.ofNat (D + 1 + 1)), vi (Int32.ofNat L0), vr b, vi ((Int32.ofNat i) + (1 : Int32)), vi 1, vi (Int32.ofInt ((cs.getD i 0 / 64 : Nat) - 64 : Int)), vi (Int32.ofInt ((cs.getD i 0 % 64 : Nat) - 128 : Int)), t8, t9, .unset] [(.int (Int32.ofNat (cs.getD i 0))), (.int (Int32.ofNat i)), (.ref b)])) rfl (by rw [hml]; rfl) (argsL := [(.ref b), (.int (Int32.ofNat i)), (.int (Int32.ofNat (cs.getD i 0)))]) (rest := []) (lenOf pd_1 rfl) rfl (by show 2 * 0 + _ ≤ _; exact Nat.le_of_eq rfl) (dd 46 rfl) (fun _ _ => ⟨rfl, eh107, (by decide : 0 + 0 ≤ _), (by decide : 0 + 0 ≤ _)⟩)
        dsimp only [Pt.U, Pt.locs, Pt.cells, Pt.slots] at X108 l108 y108 z108 st108 hQ108
        subst l108 y108 z108
        obtain ⟨rfl, N108, K108, V108⟩ := hQ108
        have Nf108 := Fr.app Nf107 N108
        have O108 := Op.keep K108 (allS gb all0)
        have KK108 := Kp.trans K108 (allS (Or.inl (List.mem_of_getElem? (i := 0) rfl)) all0)
        rw [own_wvS (by omega)] at V108
        refine own_go (S' := (T108.setTop (mkF m 0 #[vr a, vi (Int32.ofNat (D + 1 + 1)), vi (Int32.ofNat L0), vr b, vi ((Int32.ofNat i) + (1 : Int32)), vi 1, vi (Int32.ofInt ((cs.getD i 0 / 64 : Nat) - 64 : Int)), vi (Int32.ofInt ((cs.getD i 0 % 64 : Nat) - 128 : Int)), t8, t9, .unset] []))) (fun tq kq => st108 tq (XS.goto X108.here hx rfl (pc0 := 116) (pc' := 0) rfl (dd 47 rfl) (by decide) (by decide) kq)) ?_
        rw [own_succ i]
        have f109 := (Va.keep K108 (ninS nab nin0))
        exact ih (i + 1) (D + 1 + 1) _ _ _ _ ⟨by omega, own_DS (D := D) (k := 2) hi.2.1 (by omega) (congrArg List.length (own_ui2 hc1 hc2)), by omega, One.val rfl, One.val rfl, hi.2.2.2.2.2.1, hi.2.2.2.2.2.2⟩ X108 rfl Nf108 O108 KK108 f109 V108
      · rw [own_ui3 hc2] at hul
        simp only [List.length_cons, List.length_nil] at hul
        have hr0 : vs[D + 0]? = some (.int (Int32.ofInt ((cs.getD i 0 / 4096 : Nat) - 32 : Int))) := by have q := own_rd hs hL hi.2.1 hi.2.2.1 (by omega) 0 (by rw [own_ui3 hc2]; simp); rw [own_ui3 hc2] at q; exact q
        have hr1 : vs[D + 1]? = some (.int (Int32.ofInt ((cs.getD i 0 / 64 % 64 : Nat) - 128 : Int))) := by have q := own_rd hs hL hi.2.1 hi.2.2.1 (by omega) 1 (by rw [own_ui3 hc2]; simp); rw [own_ui3 hc2] at q; exact q
        have hr2 : vs[D + 2]? = some (.int (Int32.ofInt ((cs.getD i 0 % 64 : Nat) - 128 : Int))) := by have q := own_rd hs hL hi.2.1 hi.2.2.1 (by omega) 2 (by rw [own_ui3 hc2]; simp); rw [own_ui3 hc2] at q; exact q
        have hpa := own_p3 (cs.getD i 0 / 4096) (by omega)
        have hq := own_q2 (cs.getD i 0 / 64 % 64) (by omega)
        have hq2 := own_q2 (cs.getD i 0 % 64) (by omega)
        have hd3 : own_d3 (Int32.ofInt ((cs.getD i 0 / 4096 : Nat) - 32 : Int)) (Int32.ofInt ((cs.getD i 0 / 64 % 64 : Nat) - 128 : Int)) (Int32.ofInt ((cs.getD i 0 % 64 : Nat) - 128 : Int)) = (Int32.ofNat (cs.getD i 0)) := (own_d3E (by omega) (by omega) (by omega)).trans (by congr 1; omega)
        obtain ⟨cl110, Ar110, -, -, hin110, hat110⟩ := Va.at (j := (Int32.ofNat D)) (v := (.int (Int32.ofInt ((cs.getD i 0 / 4096 : Nat) - 32 : Int)))) (own_pos (by omega)) (by rw [own_clamp (by omega)]; exact hr0)
        refine own_go (S' := (Tp.setTop (mkF m 13 #[vr a, vi ((Int32.ofNat D) + (1 : Int32)), vi (Int32.ofNat L0), vr b, vi (Int32.ofNat i), vi 1, vi (Int32.ofInt ((cs.getD i 0 / 4096 : Nat) - 32 : Int)), t7, t8, t9, .unset] []))) (fun tq kq => XS.aloadN Xp.here hx rfl (dd 5 rfl) rfl rfl (XS.iloadN Xp.here hx rfl (dd 6 rfl) rfl (XS.iinc Xp.here hx rfl (dd 7 rfl) rfl (l' := #[vr a, vi ((Int32.ofNat D) + (1 : Int32)), vi (Int32.ofNat L0), vr b, vi (Int32.ofNat i), vi 1, t6, t7, t8, t9, .unset]) rfl (Xp.baloadBytes hx (j := (Int32.ofNat D)) (v := (.int (Int32.ofInt ((cs.getD i 0 / 4096 : Nat) - 32 : Int)))) (by rw [ep]; exact Ar110.1) (State.isArrayOf_alike hZ.alike Ar110.2.1) Ar110.2.2 hin110 hat110 (g := (mkF m 10 #[vr a, vi ((Int32.ofNat D) + (1 : Int32)), vi (Int32.ofNat L0), vr b, vi (Int32.ofNat i), vi 1, t6, t7, t8, t9, .unset] [(.int (Int32.ofNat D)), (.ref a)])) rfl rfl (dd 8 rfl) tq (XS.istoreS Xp.here hx rfl (dd 9 rfl) rfl rfl hi.2.2.2.1 kq))))) ?_
        rw [own_succ (D)]
        refine own_go (S' := (Tp.setTop (mkF m 155 #[vr a, vi (Int32.ofNat (D + 1)), vi (Int32.ofNat L0), vr b, vi (Int32.ofNat i), vi 1, vi (Int32.ofInt ((cs.getD i 0 / 4096 : Nat) - 32 : Int)), t7, t8, t9, .unset] [(.int ((Int32.ofNat (D + 1)) + (1 : Int32)))]))) (fun tq kq => XS.iload Xp.here hx rfl (dd 10 rfl) rfl (XS.ifYes Xp.here hx rfl (pc0 := 15) (pc' := 33) rfl (dd 11 rfl) rfl ((if0 _ _).trans (tlt hpa.1).1) (by decide) (by decide) (XS.iload Xp.here hx rfl (dd 20 rfl) rfl (XS.iconst Xp.here hx rfl (dd 21 rfl) (XS.ishr Xp.here hx rfl (dd 22 rfl) rfl (XS.bipush Xp.here hx rfl (dd 23 rfl) (XS.icmpYes Xp.here hx rfl (pc0 := 39) (pc' := 143) rfl (dd 24 rfl) rfl (feq hpa.2.1).2 (by decide) (by decide) (XS.iload Xp.here hx rfl (dd 48 rfl) rfl (XS.iconst Xp.here hx rfl (dd 49 rfl) (XS.ishr Xp.here hx rfl (dd 50 rfl) rfl (XS.bipush Xp.here hx rfl (dd 51 rfl) (XS.icmpNo Xp.here hx rfl (dd 52 rfl) rfl (teq hpa.2.2.1).2 (XS.iloadN Xp.here hx rfl (dd 53 rfl) rfl (XS.iconst Xp.here hx rfl (dd 54 rfl) (XS.iadd Xp.here hx rfl (dd 55 rfl) rfl kq))))))))))))))) ?_
        rw [own_succ (D + 1)]
        obtain ⟨cl111, Ar111, -, -, hin111, hat111⟩ := Va.at (j := (Int32.ofNat (D + 1))) (v := (.int (Int32.ofInt ((cs.getD i 0 / 64 % 64 : Nat) - 128 : Int)))) (own_pos (by omega)) (by rw [own_clamp (by omega)]; exact hr1)
        refine own_go (S' := (Tp.setTop (mkF m 167 #[vr a, vi ((Int32.ofNat (D + 1)) + (1 : Int32)), vi (Int32.ofNat L0), vr b, vi (Int32.ofNat i), vi 1, vi (Int32.ofInt ((cs.getD i 0 / 4096 : Nat) - 32 : Int)), vi (Int32.ofInt ((cs.getD i 0 / 64 % 64 : Nat) - 128 : Int)), t8, t9, .unset] []))) (fun tq kq => XS.iloadN Xp.here hx rfl (dd 56 rfl) rfl (XS.icmpNo Xp.here hx rfl (dd 57 rfl) rfl (tlt ((own_lt (by omega) (by omega)).mpr (by omega))).2.1 (XS.aloadN Xp.here hx rfl (dd 58 rfl) rfl rfl (XS.iloadN Xp.here hx rfl (dd 59 rfl) rfl (XS.iinc Xp.here hx rfl (dd 60 rfl) rfl (l' := #[vr a, vi ((Int32.ofNat (D + 1)) + (1 : Int32)), vi (Int32.ofNat L0), vr b, vi (Int32.ofNat i), vi 1, vi (Int32.ofInt ((cs.getD i 0 / 4096 : Nat) - 32 : Int)), t7, t8, t9, .unset]) rfl (Xp.baloadBytes hx (j := (Int32.ofNat (D + 1))) (v := (.int (Int32.ofInt ((cs.getD i 0 / 64 % 64 : Nat) - 128 : Int)))) (by rw [ep]; exact Ar111.1) (State.isArrayOf_alike hZ.alike Ar111.2.1) Ar111.2.2 hin111 hat111 (g := (mkF m 164 #[vr a, vi ((Int32.ofNat (D + 1)) + (1 : Int32)), vi (Int32.ofNat L0), vr b, vi (Int32.ofNat i), vi 1, vi (Int32.ofInt ((cs.getD i 0 / 4096 : Nat) - 32 : Int)), t7, t8, t9, .unset] [(.int (Int32.ofNat (D + 1))), (.ref a)])) rfl rfl (dd 61 rfl) tq (XS.istoreS Xp.here hx rfl (dd 62 rfl) rfl rfl hi.2.2.2.2.1 kq))))))) ?_
        rw [own_succ (D + 1)]
        obtain ⟨cl112, Ar112, -, -, hin112, hat112⟩ := Va.at (j := (Int32.ofNat (D + 1 + 1))) (v := (.int (Int32.ofInt ((cs.getD i 0 % 64 : Nat) - 128 : Int)))) (own_pos (by omega)) (by rw [own_clamp (by omega)]; exact hr2)
        refine own_go (S' := (Tp.setTop (mkF m 175 #[vr a, vi ((Int32.ofNat (D + 1 + 1)) + (1 : Int32)), vi (Int32.ofNat L0), vr b, vi (Int32.ofNat i), vi 1, vi (Int32.ofInt ((cs.getD i 0 / 4096 : Nat) - 32 : Int)), vi (Int32.ofInt ((cs.getD i 0 / 64 % 64 : Nat) - 128 : Int)), vi (Int32.ofInt ((cs.getD i 0 % 64 : Nat) - 128 : Int)), t9, .unset] []))) (fun tq kq => XS.aloadN Xp.here hx rfl (dd 63 rfl) rfl rfl (XS.iloadN Xp.here hx rfl (dd 64 rfl) rfl (XS.iinc Xp.here hx rfl (dd 65 rfl) rfl (l' := #[vr a, vi ((Int32.ofNat (D + 1 + 1)) + (1 : Int32)), vi (Int32.ofNat L0), vr b, vi (Int32.ofNat i), vi 1, vi (Int32.ofInt ((cs.getD i 0 / 4096 : Nat) - 32 : Int)), vi (Int32.ofInt ((cs.getD i 0 / 64 % 64 : Nat) - 128 : Int)), t8, t9, .unset]) rfl (Xp.baloadBytes hx (j := (Int32.ofNat (D + 1 + 1))) (v := (.int (Int32.ofInt ((cs.getD i 0 % 64 : Nat) - 128 : Int)))) (by rw [ep]; exact Ar112.1) (State.isArrayOf_alike hZ.alike Ar112.2.1) Ar112.2.2 hin112 hat112 (g := (mkF m 172 #[vr a, vi ((Int32.ofNat (D + 1 + 1)) + (1 : Int32)), vi (Int32.ofNat L0), vr b, vi (Int32.ofNat i), vi 1, vi (Int32.ofInt ((cs.getD i 0 / 4096 : Nat) - 32 : Int)), vi (Int32.ofInt ((cs.getD i 0 / 64 % 64 : Nat) - 128 : Int)), t8, t9, .unset] [(.int (Int32.ofNat (D + 1 + 1))), (.ref a)])) rfl rfl (dd 66 rfl) tq (XS.istoreS Xp.here hx rfl (dd 67 rfl) rfl rfl hi.2.2.2.2.2.1 kq))))) ?_
        rw [own_succ (D + 1 + 1)]
        obtain ⟨_, _, ⟨T113, L113, k113, n113⟩, -, X113, ⟨Lc113, hQ113, l113, y113, z113⟩, st113⟩ := Jvm.LawKit.callS Xp hx (y := M37) hown (mvT hZ (ww hw 221 rfl)) (mvT hZ (ww hw 222 rfl)) (mvT hZ (ww hw 10 rfl)) (mvT hZ (ww hw 223 rfl)) (by decide) (backOf (W := 0) (rm45 l Z a0 hw [] hp n0 Op (Int32.ofInt ((cs.getD i 0 / 4096 : Nat) - 32 : Int)) (Int32.ofInt ((cs.getD i 0 / 64 % 64 : Nat) - 128 : Int)) (Int32.ofInt ((cs.getD i 0 % 64 : Nat) - 128 : Int)) (fun q => hq.2.2 (by have := hpa.2.2.2.2.mp q; omega)) hq.1 hq2.1) hZ (ww hw 223 rfl) (ww hw 10 rfl) (by decide) (by decide)) (g := (mkF m 181 #[vr a, vi (Int32.ofNat (D + 1 + 1 + 1)), vi (Int32.ofNat L0), vr b, vi (Int32.ofNat i), vi 1, vi (Int32.ofInt ((cs.getD i 0 / 4096 : Nat) - 32 : Int)), vi (Int32.ofInt ((cs.getD i 0 / 64 % 64 : Nat) - 128 : Int)), vi (Int32.ofInt ((cs.getD i 0 % 64 : Nat) - 128 : Int)), t9, .unset] [(.int (Int32.ofInt ((cs.getD i 0 % 64 : Nat) - 128 : Int))), (.int (Int32.ofInt ((cs.getD i 0 / 64 % 64 : Nat) - 128 : Int))), (.int (Int32.ofInt ((cs.getD i 0 / 4096 : Nat) - 32 : Int)))])) rfl (by rw [hml]; rfl) (argsL := [(.int (Int32.ofInt ((cs.getD i 0 / 4096 : Nat) - 32 : Int))), (.int (Int32.ofInt ((cs.getD i 0 / 64 % 64 : Nat) - 128 : Int))), (.int (Int32.ofInt ((cs.getD i 0 % 64 : Nat) - 128 : Int)))]) (rest := []) (lenOf pd_28 rfl) rfl (by show 2 * 0 + _ ≤ _; exact Nat.le_of_eq rfl) (dd 71 rfl) (fun _ _ => ⟨rfl, ep, (by decide : 0 + 0 ≤ _), (by decide : 0 + 0 ≤ _)⟩)
        dsimp only [Pt.U, Pt.locs, Pt.cells, Pt.slots] at X113 l113 y113 z113 st113 hQ113
        subst l113 y113 z113
        obtain ⟨rfl, N113, eh113⟩ := hQ113
        have Nf113 := Fr.app Np N113
        obtain ⟨_, _, ⟨T114, L114, k114, n114⟩, -, X114, ⟨Lc114, hQ114, l114, y114, z114⟩, st114⟩ := Jvm.LawKit.callS X113 hx (y := M35) hown (mvT hZ (ww hw 224 rfl)) (mvT hZ (ww hw 225 rfl)) (mvT hZ (ww hw 10 rfl)) (mvT hZ (ww hw 226 rfl)) (by decide) (backOf (W := 0) (rm46 l Z a0 hw [] hp n0 Op (Int32.ofInt ((cs.getD i 0 / 4096 : Nat) - 32 : Int)) (Int32.ofInt ((cs.getD i 0 / 64 % 64 : Nat) - 128 : Int)) (Int32.ofInt ((cs.getD i 0 % 64 : Nat) - 128 : Int))) hZ (ww hw 226 rfl) (ww hw 10 rfl) (by decide) (by decide)) (g := (mkF m 230 #[vr a, vi (Int32.ofNat (D + 1 + 1 + 1)), vi (Int32.ofNat L0), vr b, vi (Int32.ofNat i), vi 1, vi (Int32.ofInt ((cs.getD i 0 / 4096 : Nat) - 32 : Int)), vi (Int32.ofInt ((cs.getD i 0 / 64 % 64 : Nat) - 128 : Int)), vi (Int32.ofInt ((cs.getD i 0 % 64 : Nat) - 128 : Int)), t9, .unset] [(.int (Int32.ofInt ((cs.getD i 0 % 64 : Nat) - 128 : Int))), (.int (Int32.ofInt ((cs.getD i 0 / 64 % 64 : Nat) - 128 : Int))), (.int (Int32.ofInt ((cs.getD i 0 / 4096 : Nat) - 32 : Int)))])) rfl (by rw [hml]; rfl) (argsL := [(.int (Int32.ofInt ((cs.getD i 0 / 4096 : Nat) - 32 : Int))), (.int (Int32.ofInt ((cs.getD i 0 / 64 % 64 : Nat) - 128 : Int))), (.int (Int32.ofInt ((cs.getD i 0 % 64 : Nat) - 128 : Int)))]) (rest := []) (lenOf pd_29 rfl) rfl (by show 2 * 0 + _ ≤ _; exact Nat.le_of_eq rfl) (dd 76 rfl) (fun _ _ => ⟨rfl, eh113, (by decide : 0 + 0 ≤ _), (by decide : 0 + 0 ≤ _)⟩)
        dsimp only [Pt.U, Pt.locs, Pt.cells, Pt.slots] at X114 l114 y114 z114 st114 hQ114
        subst l114 y114 z114
        obtain ⟨rfl, N114, eh114⟩ := hQ114
        have Nf114 := Fr.app Nf113 N114
        refine own_go (S' := (T114.setTop (mkF m 233 #[vr a, vi (Int32.ofNat (D + 1 + 1 + 1)), vi (Int32.ofNat L0), vr b, vi (Int32.ofNat i), vi 1, vi (Int32.ofInt ((cs.getD i 0 / 4096 : Nat) - 32 : Int)), vi (Int32.ofInt ((cs.getD i 0 / 64 % 64 : Nat) - 128 : Int)), vi (Int32.ofInt ((cs.getD i 0 % 64 : Nat) - 128 : Int)), t9, .unset] [(.int (own_d3 (Int32.ofInt ((cs.getD i 0 / 4096 : Nat) - 32 : Int)) (Int32.ofInt ((cs.getD i 0 / 64 % 64 : Nat) - 128 : Int)) (Int32.ofInt ((cs.getD i 0 % 64 : Nat) - 128 : Int))))]))) (fun tq kq => XS.iload Xp.here hx rfl (dd 68 rfl) rfl (XS.iload Xp.here hx rfl (dd 69 rfl) rfl (XS.iload Xp.here hx rfl (dd 70 rfl) rfl (st113 tq (XS.ifYes X113.here hx rfl (pc0 := 184) (pc' := 224) rfl (dd 72 rfl) rfl ((if0 _ _).trans (teq (by decide : (0 : Int32) = (0 : Int32))).1) (by decide) (by decide) (XS.iload X113.here hx rfl (dd 73 rfl) rfl (XS.iload X113.here hx rfl (dd 74 rfl) rfl (XS.iload X113.here hx rfl (dd 75 rfl) rfl (st114 tq kq))))))))) ?_
        rw [hd3]
        obtain ⟨_, _, ⟨T115, L115, k115, n115⟩, -, X115, ⟨Lc115, hQ115, l115, y115, z115⟩, st115⟩ := Jvm.LawKit.callS X114 hx (y := M17) hown (mvT hZ (ww hw 200 rfl)) (mvT hZ (ww hw 201 rfl)) (mvT hZ (ww hw 202 rfl)) (mvT hZ (ww hw 203 rfl)) (by decide) (backOf (W := 0) (rm39 l Z a0 hw [] hp n0 Op (cs.getD i 0) hci) hZ (ww hw 203 rfl) (ww hw 202 rfl) (by decide) (by decide)) (g := (mkF m 237 #[vr a, vi (Int32.ofNat (D + 1 + 1 + 1)), vi (Int32.ofNat L0), vr b, vi (Int32.ofNat i), vi 1, vi (Int32.ofInt ((cs.getD i 0 / 4096 : Nat) - 32 : Int)), vi (Int32.ofInt ((cs.getD i 0 / 64 % 64 : Nat) - 128 : Int)), vi (Int32.ofInt ((cs.getD i 0 % 64 : Nat) - 128 : Int)), vi (Int32.ofNat (cs.getD i 0)), .unset] [(.int (Int32.ofNat (cs.getD i 0)))])) rfl (by rw [hml]; rfl) (argsL := [(.int (Int32.ofNat (cs.getD i 0)))]) (rest := []) (lenOf pd_13 rfl) rfl (by show 2 * 0 + _ ≤ _; exact Nat.le_of_eq rfl) (dd 79 rfl) (fun _ _ => ⟨rfl, eh114, (by decide : 0 + 0 ≤ _), (by decide : 0 + 0 ≤ _)⟩)
        dsimp only [Pt.U, Pt.locs, Pt.cells, Pt.slots] at X115 l115 y115 z115 st115 hQ115
        subst l115 y115 z115
        obtain ⟨rfl, N115, eh115⟩ := hQ115
        have Nf115 := Fr.app Nf114 N115
        obtain ⟨_, _, ⟨T116, L116, k116, n116⟩, -, X116, ⟨Lc116, hQ116, l116, y116, z116⟩, st116⟩ := Jvm.LawKit.callS X115 hx (y := M4) hown (mvT hZ (ww hw 228 rfl)) (mvT hZ (ww hw 188 rfl)) (mvT hZ (ww hw 24 rfl)) (mvT hZ (ww hw 189 rfl)) (by decide) (backOf (W := 0) (rm36 l Z a0 hw [] hp n0 Op b kb i (2 * L0) (Int32.ofNat (cs.getD i 0)) (own_wv (cs.take i)) z HP Vb (own_wvtl (by omega)) (by omega) (by omega) gb) hZ (ww hw 189 rfl) (ww hw 24 rfl) (by decide) (by decide)) (g := (mkF m 277 #[vr a, vi (Int32.ofNat (D + 1 + 1 + 1)), vi (Int32.ofNat L0), vr b, vi ((Int32.ofNat i) + (1 : Int32)), vi 1, vi (Int32.ofInt ((cs.getD i 0 / 4096 : Nat) - 32 : Int)), vi (Int32.ofInt ((cs.getD i 0 / 64 % 64 : Nat) - 128 : Int)), vi (Int32.ofInt ((cs.getD i 0 % 64 : Nat) - 128 : Int)), vi (Int32.ofNat (cs.getD i 0)), .unset] [(.int (Int32.ofNat (cs.getD i 0))), (.int (Int32.ofNat i)), (.ref b)])) rfl (by rw [hml]; rfl) (argsL := [(.ref b), (.int (Int32.ofNat i)), (.int (Int32.ofNat (cs.getD i 0)))]) (rest := []) (lenOf pd_1 rfl) rfl (by show 2 * 0 + _ ≤ _; exact Nat.le_of_eq rfl) (dd 85 rfl) (fun _ _ => ⟨rfl, eh115, (by decide : 0 + 0 ≤ _), (by decide : 0 + 0 ≤ _)⟩)
        dsimp only [Pt.U, Pt.locs, Pt.cells, Pt.slots] at X116 l116 y116 z116 st116 hQ116
        subst l116 y116 z116
        obtain ⟨rfl, N116, K116, V116⟩ := hQ116
        have Nf116 := Fr.app Nf115 N116
        have O116 := Op.keep K116 (allS gb all0)
        have KK116 := Kp.trans K116 (allS (Or.inl (List.mem_of_getElem? (i := 0) rfl)) all0)
        refine own_go (S' := (T115.setTop (mkF m 277 #[vr a, vi (Int32.ofNat (D + 1 + 1 + 1)), vi (Int32.ofNat L0), vr b, vi ((Int32.ofNat i) + (1 : Int32)), vi 1, vi (Int32.ofInt ((cs.getD i 0 / 4096 : Nat) - 32 : Int)), vi (Int32.ofInt ((cs.getD i 0 / 64 % 64 : Nat) - 128 : Int)), vi (Int32.ofInt ((cs.getD i 0 % 64 : Nat) - 128 : Int)), vi (Int32.ofNat (cs.getD i 0)), .unset] [(.int (Int32.ofNat (cs.getD i 0))), (.int (Int32.ofNat i)), (.ref b)]))) (fun tq kq => XS.istoreS X114.here hx rfl (dd 77 rfl) rfl rfl hi.2.2.2.2.2.2 (XS.iload X114.here hx rfl (dd 78 rfl) rfl (st115 tq (XS.ifYes X115.here hx rfl (pc0 := 240) (pc' := 269) rfl (dd 80 rfl) rfl ((if0 _ _).trans (teq (by decide : (0 : Int32) = (0 : Int32))).1) (by decide) (by decide) (XS.aloadN X115.here hx rfl (dd 81 rfl) rfl rfl (XS.iload X115.here hx rfl (dd 82 rfl) rfl (XS.iinc X115.here hx rfl (dd 83 rfl) rfl (l' := #[vr a, vi (Int32.ofNat (D + 1 + 1 + 1)), vi (Int32.ofNat L0), vr b, vi ((Int32.ofNat i) + (1 : Int32)), vi 1, vi (Int32.ofInt ((cs.getD i 0 / 4096 : Nat) - 32 : Int)), vi (Int32.ofInt ((cs.getD i 0 / 64 % 64 : Nat) - 128 : Int)), vi (Int32.ofInt ((cs.getD i 0 % 64 : Nat) - 128 : Int)), vi (Int32.ofNat (cs.getD i 0)), .unset]) rfl (XS.iload X115.here hx rfl (dd 84 rfl) rfl kq)))))))) ?_
        rw [own_wvS (by omega)] at V116
        refine own_go (S' := (T116.setTop (mkF m 0 #[vr a, vi (Int32.ofNat (D + 1 + 1 + 1)), vi (Int32.ofNat L0), vr b, vi ((Int32.ofNat i) + (1 : Int32)), vi 1, vi (Int32.ofInt ((cs.getD i 0 / 4096 : Nat) - 32 : Int)), vi (Int32.ofInt ((cs.getD i 0 / 64 % 64 : Nat) - 128 : Int)), vi (Int32.ofInt ((cs.getD i 0 % 64 : Nat) - 128 : Int)), vi (Int32.ofNat (cs.getD i 0)), .unset] []))) (fun tq kq => st116 tq (XS.goto X116.here hx rfl (pc0 := 280) (pc' := 0) rfl (dd 86 rfl) (by decide) (by decide) kq)) ?_
        rw [own_succ i]
        have f117 := (Va.keep K116 (ninS nab nin0))
        exact ih (i + 1) (D + 1 + 1 + 1) _ _ _ _ ⟨by omega, own_DS (D := D) (k := 3) hi.2.1 (by omega) (congrArg List.length (own_ui3 hc2)), by omega, One.val rfl, One.val rfl, One.val rfl, One.val rfl⟩ X116 rfl Nf116 O116 KK116 f117 V116
def Q_rm44 (Z : State) (h0 : Heap) (n0 : Nat) (a : Addr) (ka : ClassId) (vs : List Value) (b : Addr) (kb : ClassId) (cs : List Nat) (n : Nat) (L0 : Nat) (m0 : Nat) (z : Int32) (i : Nat) (D : Nat) (v : Option Value) (h : Heap) (L : List Loc) : Prop := v = some (.int (Int32.ofNat n)) ∧ Fr n0 L ∧ Keep h0 h [b] ∧ own_Ar Z h b kb .byte (own_pad (own_wv cs) (2 * L0) (.int 0))
theorem rm44 (l : Launch) (Z : State) (a0 : Array Value) (hw : ∀ d ∈ tables_1, d.before a0 Z = true) (ws : List Jvm.Cond) (h0 : Heap) (n0 : Nat) (O0 : Old Z n0 h0) (a : Addr) (ka : ClassId) (vs : List Value) (b : Addr) (kb : ClassId) (cs : List Nat) (n : Nat) (L0 : Nat) (m0 : Nat) (z : Int32) (i : Nat) (D : Nat) (HP : own_PK Z z) (Va : own_Ar Z h0 a ka .byte vs) (Vb : own_Ar Z h0 b kb .byte (own_pad (own_wv (cs.take i)) (2 * L0) (.int 0))) (hs : ∀ t, m0 ≤ t → t < L0 → vs[t]? = some (.int (own_fb cs t))) (hL : L0 = (own_u8 cs).length) (hL4 : L0 ≤ 400) (hcs : cs.length = n) (hch : ∀ j, cs.getD j 0 < 32768) (gb : n0 ≤ b) (nab : a ≠ b) (hin : i ≤ n) (hD : D = (own_u8 (cs.take i)).length) (hmD : m0 ≤ D) :
    MetFree l M24 (head1 (Jvm.Cond.code M24 jdk_42_method_38_code 11 (some .int) :: ws) ({ frames := 1, cells := 0, slots := 0, locals := 20 } : Room)) (fun aq U => aq = #[(.ref a), (.int (Int32.ofNat D)), (.int (Int32.ofNat L0)), (.ref b), (.int (Int32.ofNat i)), (.int 1)] ∧ Z.Warmed39 U.vm ∧ U.heap = h0) (fun _ _ _ _ _ => True) (fun _ U oo U' => ∃ v L, oo = .returned v ∧ Q_rm44 Z h0 n0 a ka vs b kb cs n L0 m0 z i D v U'.heap L ∧ FrameEnd U oo U' L ({ frames := 1, cells := 0, slots := 0, locals := 20 } : Room).cells ({ frames := 1, cells := 0, slots := 0, locals := 20 } : Room).slots) := by
  refine MetFree.of_bodySF (plainFor_of_name pn_rm4) hisR ?_
  intro p e s m args below meth c s₁ Bd hml0 hP hK
  obtain ⟨rfl, hZ, hh⟩ := hP
  have hx := Bd.exec
  have hby := Bd.bytes
  have hml : c.maxLocals = 11 := hml0
  have hown : s.vm.findClass "java/lang/String" = some m.cls := findClass_of_methodNamed Bd.named
  have hnm := (name_of_methodNamed Bd.named Bd.method).1
  have hlk := Bd.notSynchronized
  have hret := Bd.returns
  have X0 : Stand p l e ({ frames := 1, cells := 0, slots := 0, locals := 20 } : Room) s m #[(.ref a), (.int (Int32.ofNat D)), (.int (Int32.ofNat L0)), (.ref b), (.int (Int32.ofNat i)), (.int 1)] below meth c s₁ [] 0 0 := Stand.of_body Bd
  have e0 : s₁.heap = h0 := by rw [← hh, Bd.state]; rfl
  have N0 := Fr.nil n0
  have K0 := Keep.refl h0 [b]
  refine own_go (S' := (s₁.setTop (mkF m 0 #[vr a, vi (Int32.ofNat D), vi (Int32.ofNat L0), vr b, vi (Int32.ofNat i), vi 1, .unset, .unset, .unset, .unset, .unset] []))) (fun tq kq => castTop rfl kq) ?_
  show own_G p e s below (Q_rm44 Z h0 n0 a ka vs b kb cs n L0 m0 z i D) _ _ _
  obtain ⟨SC, hz, SA, SH, SL⟩ := id HP
  exact loop44 hlk hret hx hZ hw hby hml hown hnm a ka vs b kb cs n L0 m0 z HP hs hL hL4 hcs hch gb nab (n - i) (i) D .unset .unset .unset .unset ⟨by omega, hD, hmD, One.u, One.u, One.u, One.u⟩ X0 e0 N0 O0 K0 Va Vb
theorem loop93 {p : Program} {l : Launch} {e : Env} {s : State} {m : MethodId} {args : Array Value} {below : List Frame} {meth : Method} {c : Code} {Z : State} {a0 : Array Value} {h0 : Heap} {n0 : Nat} (hlk : meth.locks = false) (hret : meth.sig.returnType = none) (hx : p.tables.exec = Jvm.exec) (hZ : Z.Warmed39 s.vm) (hw : ∀ d ∈ tables_1, d.before a0 Z = true) (hby : c.code = jdk_42_method_11_code) (hml : c.maxLocals = 11) (hown : s.vm.findClass "java/lang/String" = some m.cls) (hnm : meth.name = "<init>") (a : Addr) (src : Addr) (off : Nat) (ar : Addr) (kr : ClassId) (cs : List Nat) (n : Nat) (L0 : Nat) (z : Int32) (u : Addr) (fm : Value) (HP : own_PK Z z) (HF : own_FK Z fm) (hL : L0 = (own_u8 cs).length) (hL4 : L0 ≤ 400) (hcs : cs.length = n) (hch : ∀ j, cs.getD j 0 < 32768) (hnl : n < L0) (ga : n0 ≤ a) (gr : n0 ≤ ar) (gkr : h0.size ≤ ar) (nar : a ≠ ar) :
    ∀ (kt : Nat) (i : Nat) (D : Nat) (t8 : Slot) (t9 : Slot), (i + kt = n ∧ D = (own_u8 (cs.take i)).length ∧ One t8 ∧ One t9 ∧ ∀ j, j < i → cs.getD j 0 ≤ 255) → ∀ {Tp : State} {locs : List Loc} {hp : Heap} (Xp : Stand p l e ({ frames := 5, cells := 3, slots := 2000, locals := 90 } : Room) s m args below meth c Tp locs 1 400) (ep : Tp.heap = hp) (Np : Fr n0 locs) (Op : Old Z n0 hp) (Kp : Keep h0 hp [a]) (Ea : Exa Z hp a "java/lang/String") (Fv : Fld Z hp a "java/lang/String" "value" "[B" .null) (Fc : Fld Z hp a "java/lang/String" "coder" "B" (.int 0)) (Vr : own_Ar Z hp ar kr .byte (own_lv (cs.take i) ++ (own_bv (own_u8 cs)).drop i)) (Xr : Exa Z hp ar "[B"), own_G p e s below (fun v h L => v = none ∧ Fr n0 L ∧ Keep h0 h [a] ∧ ∃ (d : Addr) (kd : ClassId), h0.size ≤ d ∧ Fld Z h a "java/lang/String" "value" "[B" (.ref d) ∧ Fld Z h a "java/lang/String" "coder" "B" (.int (own_cd cs)) ∧ own_Ar Z h d kd .byte (own_sv cs) ∧ Exa Z h d "[B") ({ frames := 5, cells := 3, slots := 2000, locals := 90 } : Room).cells ({ frames := 5, cells := 3, slots := 2000, locals := 90 } : Room).slots (Tp.setTop (mkF m 93 #[vr a, vr u, vr src, vi (Int32.ofNat off), vi (Int32.ofNat L0), vi (Int32.ofNat i), vr ar, vi (Int32.ofNat D), t8, t9, .unset] [])) := by
  have dd := @dq _ _ _ hby D24
  intro kt
  induction kt with
  | zero =>
    intro i D t8 t9 hi Tp locs hp Xp ep Np Op Kp Ea Fv Fc Vr Xr
    obtain ⟨SC, hz, SA, SH, SL⟩ := id HP
    have hD3 := own_D3 hi.2.1 (by omega)
    have hbl : (own_bv (own_u8 cs)).length = L0 := by rw [own_bvlen]; exact hL.symm
    have hal : (own_lv (cs.take i) ++ (own_bv (own_u8 cs)).drop i).length = L0 := by rw [own_arlen (by omega) (by omega)]; exact hbl
    have heD : D = L0 := by rw [hi.2.1, List.take_of_length_le (by omega)]; exact hL.symm
    obtain ⟨cl101, Ar101, ln101⟩ := Vr.len
    have lq101 : cl101.slots.size.toInt32 = (Int32.ofNat L0) := ln101.trans (by rw [hal])
    obtain ⟨_, _, ⟨T102, L102, k102, n102⟩, -, X102, ⟨Lc102, hQ102, l102, y102, z102⟩, st102⟩ := Jvm.LawKit.callS Xp hx (y := M6) hown (mvT hZ (ww hw 177 rfl)) (mvT hZ (ww hw 178 rfl)) (mvT hZ (ww hw 146 rfl)) (mvT hZ (ww hw 179 rfl)) (by decide) (backOf (W := 0) (rm33 l Z a0 hw [] hp n0 Op ar kr (own_lv (cs.take i) ++ (own_bv (own_u8 cs)).drop i) i Vr (by omega) (by omega) (by omega) (own_arfit (own_bvfit (own_u8r hch)))) hZ (ww hw 179 rfl) (ww hw 146 rfl) (by decide) (by decide)) (g := (mkF m 209 #[vr a, vr u, vr src, vi (Int32.ofNat off), vi (Int32.ofNat L0), vi (Int32.ofNat i), vr ar, vi (Int32.ofNat D), t8, t9, .unset] [(.int (Int32.ofNat i)), (.ref ar)])) rfl (by rw [hml]; rfl) (argsL := [(.ref ar), (.int (Int32.ofNat i))]) (rest := []) (lenOf pd_12 rfl) rfl (by show 2 * 0 + _ ≤ _; exact Nat.le_of_eq rfl) (dd 12 rfl) (fun _ _ => ⟨rfl, ep, (by decide : 1 + 1 ≤ _), (by decide : 400 + 800 ≤ _)⟩)
    dsimp only [Pt.U, Pt.locs, Pt.cells, Pt.slots] at X102 l102 y102 z102 st102 hQ102
    subst l102 y102 z102
    obtain ⟨b102, kb102, rfl, N102, K102, gb102, V102, Xb102⟩ := hQ102
    have Nf102 := Fr.app Np N102
    have O102 := Op.keep K102 all0
    have KK102 := Kp.trans K102 all0
    have ne_a_b102 := own_nL Ea.lt gb102
    have gk_b102 : h0.size ≤ b102 := Nat.le_trans Kp.1 gb102
    have f103 := (Fv.keep K102 nin0)
    have f104 := (Ea.keep K102)
    obtain ⟨T105, h105, X105, e105, W105, st105⟩ := putF X102 hx hZ hown (host := "") (Or.inl (ww hw 35 rfl)) Via.refl rfl f103 f104 (Or.inr ⟨(ww hw 36 rfl), rfl, hnm⟩) (ww hw 9 rfl) (ty := (.array .byte)) (by decide) rfl rfl (g := (mkF m 217 #[vr a, vr u, vr src, vi (Int32.ofNat off), vi (Int32.ofNat L0), vi (Int32.ofNat i), vr b102, vi (Int32.ofNat D), t8, t9, .unset] [(.ref b102), (.ref a)])) rfl rfl (dd 16 rfl)
    have N105 := Fr.snoc X105 Nf102 ga
    have K105 := KK102.wr W105 (Or.inl (List.mem_of_getElem? (i := 0) rfl))
    have F105 := f103.same W105
    have f106 := ((Fc.keep K102 nin0).other W105 (Or.inr (slot_ne (Or.inr (ww hw 34 rfl)) (Or.inr (ww hw 36 rfl)) (by decide) (t := .byte) (t' := (.array .byte)) (by decide) (by decide))))
    have f107 := (f104.wr W105)
    obtain ⟨T108, h108, X108, e108, W108, st108⟩ := putFN X105 hx hZ hown (ww hw 33 rfl) Via.refl e105 f106 f107 (Or.inr ⟨(ww hw 34 rfl), rfl, hnm⟩) (ww hw 9 rfl) (ty := .byte) (v' := (.int 0)) (by decide) rfl rfl (g := (mkF m 222 #[vr a, vr u, vr src, vi (Int32.ofNat off), vi (Int32.ofNat L0), vi (Int32.ofNat i), vr b102, vi (Int32.ofNat D), t8, t9, .unset] [(.int 0), (.ref a)])) rfl rfl (dd 19 rfl)
    have N108 := Fr.snoc X108 N105 ga
    have K108 := K105.wr W108 (Or.inl (List.mem_of_getElem? (i := 0) rfl))
    have F108 := f106.same W108
    refine own_go (S' := (T108.setTop (mkF m 225 #[vr a, vr u, vr src, vi (Int32.ofNat off), vi (Int32.ofNat L0), vi (Int32.ofNat i), vr b102, vi (Int32.ofNat D), t8, t9, .unset] []))) (fun tq kq => XS.iload Xp.here hx rfl (dd 0 rfl) rfl (XS.iload Xp.here hx rfl (dd 1 rfl) rfl (XS.icmpYes Xp.here hx rfl (pc0 := 97) (pc' := 190) rfl (dd 2 rfl) rfl (flt (fun q => absurd ((own_lt (by omega) (by omega)).mp q) (by omega))).2.1 (by decide) (by decide) (XS.iload Xp.here hx rfl (dd 3 rfl) rfl (XS.iload Xp.here hx rfl (dd 4 rfl) rfl (XS.icmpNo Xp.here hx rfl (dd 5 rfl) rfl (teq (by rw [heD])).2 (XS.iload Xp.here hx rfl (dd 6 rfl) rfl (XS.aload Xp.here hx rfl (dd 7 rfl) rfl rfl (Xp.arraylength hx (by rw [ep]; exact Ar101.1) (State.isArrayOf_alike hZ.alike Ar101.2.1) (g := (mkF m 201 #[vr a, vr u, vr src, vi (Int32.ofNat off), vi (Int32.ofNat L0), vi (Int32.ofNat i), vr ar, vi (Int32.ofNat D), t8, t9, .unset] [(.ref ar), (.int (Int32.ofNat i))])) rfl rfl (dd 8 rfl) tq (by rw [lq101]; exact (XS.icmpNo Xp.here hx rfl (dd 9 rfl) rfl (feq (fun q => absurd ((own_eqN (by omega) (by omega)).mp q) (by omega))).1 (XS.aload Xp.here hx rfl (dd 10 rfl) rfl rfl (XS.iload Xp.here hx rfl (dd 11 rfl) rfl (st102 tq (XS.astore X102.here hx rfl (dd 13 rfl) rfl rfl (l' := #[vr a, vr u, vr src, vi (Int32.ofNat off), vi (Int32.ofNat L0), vi (Int32.ofNat i), vr b102, vi (Int32.ofNat D), t8, t9, .unset]) rfl (XS.aloadN X102.here hx rfl (dd 14 rfl) rfl rfl (XS.aload X102.here hx rfl (dd 15 rfl) rfl rfl (st105 tq (XS.aloadN X105.here hx rfl (dd 17 rfl) rfl rfl (XS.iconst X105.here hx rfl (dd 18 rfl) (st108 tq kq))))))))))))))))))))) ?_
    refine own_retV X108 hx hlk hret (dd 20 rfl) (by decide) (by decide) ?_
    have hfa := own_fi_all (cs := cs) (fun j hj => hi.2.2.2.2 j (by omega))
    have f109 := (F105.other W108 (Or.inr (slot_ne (Or.inr (ww hw 36 rfl)) (Or.inr (ww hw 34 rfl)) (by decide) (t := (.array .byte)) (t' := .byte) (by decide) (by decide))))
    have f110 := ((V102.other W105 (Ne.symm ne_a_b102)).other W108 (Ne.symm ne_a_b102))
    have f111 := ((Xb102.wr W105).wr W108)
    rw [e108]
    exact ⟨rfl, N108, K108, b102, _, gk_b102, f109, (by rw [own_cd0 hfa]; exact F108), (by rw [own_sv0 hfa, ← own_arpt (X := (own_bv (own_u8 cs)).drop i) (i := i) (n := i) (by omega) rfl]; exact f110), f111⟩
  | succ kt ih =>
    intro i D t8 t9 hi Tp locs hp Xp ep Np Op Kp Ea Fv Fc Vr Xr
    obtain ⟨SC, hz, SA, SH, SL⟩ := id HP
    have hci := hch i
    have hD3 := own_D3 hi.2.1 (by omega)
    have hbl : (own_bv (own_u8 cs)).length = L0 := by rw [own_bvlen]; exact hL.symm
    have hal : (own_lv (cs.take i) ++ (own_bv (own_u8 cs)).drop i).length = L0 := by rw [own_arlen (by omega) (by omega)]; exact hbl
    have hul := own_u8lt (show i < cs.length by omega)
    have hui := own_uil (cs.getD i 0)
    have hs : ∀ t, i ≤ t → t < L0 → (own_lv (cs.take i) ++ (own_bv (own_u8 cs)).drop i)[t]? = some (.int (own_fb cs t)) := fun t ht hl => by rw [own_arat (by omega) ht]; exact own_bvat (by omega)
    refine own_go (S' := (Tp.setTop (mkF m 100 #[vr a, vr u, vr src, vi (Int32.ofNat off), vi (Int32.ofNat L0), vi (Int32.ofNat i), vr ar, vi (Int32.ofNat D), t8, t9, .unset] []))) (fun tq kq => XS.iload Xp.here hx rfl (dd 0 rfl) rfl (XS.iload Xp.here hx rfl (dd 1 rfl) rfl (XS.icmpNo Xp.here hx rfl (dd 2 rfl) rfl (tlt ((own_lt (by omega) (by omega)).mpr (by omega))).2.1 kq))) ?_
    by_cases hc1 : cs.getD i 0 < 128
    · rw [own_ui1 hc1] at hul
      simp only [List.length_cons, List.length_nil] at hul
      have hr0 : (own_lv (cs.take i) ++ (own_bv (own_u8 cs)).drop i)[D + 0]? = some (.int (Int32.ofInt (cs.getD i 0 : Nat))) := by have q := own_rd hs hL hi.2.1 hD3.2 (by omega) 0 (by rw [own_ui1 hc1]; simp); rw [own_ui1 hc1] at q; exact q
      obtain ⟨cl101, Ar101, -, -, hin101, hat101⟩ := Vr.at (j := (Int32.ofNat D)) (v := (.int (Int32.ofInt (cs.getD i 0 : Nat)))) (own_pos (by omega)) (by rw [own_clamp (by omega)]; exact hr0)
      refine own_go (S' := (Tp.setTop (mkF m 108 #[vr a, vr u, vr src, vi (Int32.ofNat off), vi (Int32.ofNat L0), vi (Int32.ofNat i), vr ar, vi ((Int32.ofNat D) + (1 : Int32)), t8, t9, .unset] [(.int (Int32.ofInt (cs.getD i 0 : Nat)))]))) (fun tq kq => XS.aload Xp.here hx rfl (dd 21 rfl) rfl rfl (XS.iload Xp.here hx rfl (dd 22 rfl) rfl (XS.iinc Xp.here hx rfl (dd 23 rfl) rfl (l' := #[vr a, vr u, vr src, vi (Int32.ofNat off), vi (Int32.ofNat L0), vi (Int32.ofNat i), vr ar, vi ((Int32.ofNat D) + (1 : Int32)), t8, t9, .unset]) rfl (Xp.baloadBytes hx (j := (Int32.ofNat D)) (v := (.int (Int32.ofInt (cs.getD i 0 : Nat)))) (by rw [ep]; exact Ar101.1) (State.isArrayOf_alike hZ.alike Ar101.2.1) Ar101.2.2 hin101 hat101 (g := (mkF m 107 #[vr a, vr u, vr src, vi (Int32.ofNat off), vi (Int32.ofNat L0), vi (Int32.ofNat i), vr ar, vi ((Int32.ofNat D) + (1 : Int32)), t8, t9, .unset] [(.int (Int32.ofNat D)), (.ref ar)])) rfl rfl (dd 24 rfl) tq kq)))) ?_
      rw [own_succ (D)]
      obtain ⟨cl102, Ar102, qa102, sa102, hin102, -⟩ := Vr.at (j := (Int32.ofNat i)) (own_pos (by omega)) (by rw [own_clamp (by omega)]; exact List.getElem?_eq_getElem (by omega))
      obtain ⟨T102, h102, X102, e102, W102, st102⟩ := stB Xp hx hZ ep Ar102 (j := (Int32.ofNat i)) hin102 (g := (mkF m 125 #[vr a, vr u, vr src, vi (Int32.ofNat off), vi (Int32.ofNat L0), vi ((Int32.ofNat i) + (1 : Int32)), vr ar, vi (Int32.ofNat (D + 1)), vi (Int32.ofInt (cs.getD i 0 : Nat)), t9, .unset] [(.int ((Int32.ofInt (cs.getD i 0 : Nat)).toInt8.toInt32)), (.int (Int32.ofNat i)), (.ref ar)])) rfl rfl (dd 33 rfl)
      have N102 := Fr.snoc X102 Np gr
      have O102 := Op.wr W102 gr
      have K102 := Kp.wr W102 (Or.inr gkr)
      have V102 : own_Ar Z h102 ar kr .byte (own_lv (cs.take (i + 1)) ++ (own_bv (own_u8 cs)).drop (i + 1)) := (by have q := (own_Ar.set Ar102 qa102 sa102 Vr.small W102); rw [own_clamp (by omega)] at q; exact (own_arset (cs := cs) (X := (own_bv (own_u8 cs))) (j := i) (by omega) (by omega)) ▸ (show own_Ar Z _ _ _ _ (List.set (own_lv (cs.take i) ++ (own_bv (own_u8 cs)).drop i) i (.int (own_lb (Int32.ofNat (cs.getD i 0))))) from q))
      refine own_go (S' := (T102.setTop (mkF m 93 #[vr a, vr u, vr src, vi (Int32.ofNat off), vi (Int32.ofNat L0), vi ((Int32.ofNat i) + (1 : Int32)), vr ar, vi (Int32.ofNat (D + 1)), vi (Int32.ofInt (cs.getD i 0 : Nat)), t9, .unset] []))) (fun tq kq => XS.istoreS Xp.here hx rfl (dd 25 rfl) rfl rfl hi.2.2.1 (XS.iload Xp.here hx rfl (dd 26 rfl) rfl (XS.ifNo Xp.here hx rfl (dd 27 rfl) rfl ((if0 _ _).trans (flt (by rw [own_ofI]; exact own_pos (by omega))).1) (XS.aload Xp.here hx rfl (dd 28 rfl) rfl rfl (XS.iload Xp.here hx rfl (dd 29 rfl) rfl (XS.iinc Xp.here hx rfl (dd 30 rfl) rfl (l' := #[vr a, vr u, vr src, vi (Int32.ofNat off), vi (Int32.ofNat L0), vi ((Int32.ofNat i) + (1 : Int32)), vr ar, vi (Int32.ofNat (D + 1)), vi (Int32.ofInt (cs.getD i 0 : Nat)), t9, .unset]) rfl (XS.iload Xp.here hx rfl (dd 31 rfl) rfl (XS.i2b Xp.here hx rfl (dd 32 rfl) rfl (st102 tq (XS.goto X102.here hx rfl (pc0 := 126) (pc' := 93) rfl (dd 34 rfl) (by decide) (by decide) kq)))))))))) ?_
      rw [own_succ i]
      have f103 := (Ea.wr W102)
      have f104 := (Fv.other W102 (Or.inl nar))
      have f105 := (Fc.other W102 (Or.inl nar))
      have f106 := (Xr.wr W102)
      exact ih (i + 1) (D + 1) _ _ ⟨by omega, own_DS (D := D) (k := 1) hi.2.1 (by omega) (congrArg List.length (own_ui1 hc1)), One.val rfl, hi.2.2.2.1, fun j hj => (Nat.lt_succ_iff_lt_or_eq.mp hj).elim (hi.2.2.2.2 j) (fun q => q ▸ (show cs.getD i 0 ≤ 255 by omega))⟩ X102 e102 N102 O102 K102 f103 f104 f105 V102 f106
    · by_cases hc2 : cs.getD i 0 < 2048
      · rw [own_ui2 hc1 hc2] at hul
        simp only [List.length_cons, List.length_nil] at hul
        have hr0 : (own_lv (cs.take i) ++ (own_bv (own_u8 cs)).drop i)[D + 0]? = some (.int (Int32.ofInt ((cs.getD i 0 / 64 : Nat) - 64 : Int))) := by have q := own_rd hs hL hi.2.1 hD3.2 (by omega) 0 (by rw [own_ui2 hc1 hc2]; simp); rw [own_ui2 hc1 hc2] at q; exact q
        have hr1 : (own_lv (cs.take i) ++ (own_bv (own_u8 cs)).drop i)[D + 1]? = some (.int (Int32.ofInt ((cs.getD i 0 % 64 : Nat) - 128 : Int))) := by have q := own_rd hs hL hi.2.1 hD3.2 (by omega) 1 (by rw [own_ui2 hc1 hc2]; simp); rw [own_ui2 hc1 hc2] at q; exact q
        have hpa := own_p2 (cs.getD i 0 / 64) (by omega)
        have hq := own_q2 (cs.getD i 0 % 64) (by omega)
        have hd2 : own_d2 (Int32.ofInt ((cs.getD i 0 / 64 : Nat) - 64 : Int)) (Int32.ofInt ((cs.getD i 0 % 64 : Nat) - 128 : Int)) = (Int32.ofNat (cs.getD i 0)) := (own_d2E _ (by omega) _ (by omega)).trans (by congr 1; omega)
        obtain ⟨cl107, Ar107, -, -, hin107, hat107⟩ := Vr.at (j := (Int32.ofNat D)) (v := (.int (Int32.ofInt ((cs.getD i 0 / 64 : Nat) - 64 : Int)))) (own_pos (by omega)) (by rw [own_clamp (by omega)]; exact hr0)
        refine own_go (S' := (Tp.setTop (mkF m 108 #[vr a, vr u, vr src, vi (Int32.ofNat off), vi (Int32.ofNat L0), vi (Int32.ofNat i), vr ar, vi ((Int32.ofNat D) + (1 : Int32)), t8, t9, .unset] [(.int (Int32.ofInt ((cs.getD i 0 / 64 : Nat) - 64 : Int)))]))) (fun tq kq => XS.aload Xp.here hx rfl (dd 21 rfl) rfl rfl (XS.iload Xp.here hx rfl (dd 22 rfl) rfl (XS.iinc Xp.here hx rfl (dd 23 rfl) rfl (l' := #[vr a, vr u, vr src, vi (Int32.ofNat off), vi (Int32.ofNat L0), vi (Int32.ofNat i), vr ar, vi ((Int32.ofNat D) + (1 : Int32)), t8, t9, .unset]) rfl (Xp.baloadBytes hx (j := (Int32.ofNat D)) (v := (.int (Int32.ofInt ((cs.getD i 0 / 64 : Nat) - 64 : Int)))) (by rw [ep]; exact Ar107.1) (State.isArrayOf_alike hZ.alike Ar107.2.1) Ar107.2.2 hin107 hat107 (g := (mkF m 107 #[vr a, vr u, vr src, vi (Int32.ofNat off), vi (Int32.ofNat L0), vi (Int32.ofNat i), vr ar, vi ((Int32.ofNat D) + (1 : Int32)), t8, t9, .unset] [(.int (Int32.ofNat D)), (.ref ar)])) rfl rfl (dd 24 rfl) tq kq)))) ?_
        rw [own_succ (D)]
        refine own_go (S' := (Tp.setTop (mkF m 129 #[vr a, vr u, vr src, vi (Int32.ofNat off), vi (Int32.ofNat L0), vi (Int32.ofNat i), vr ar, vi (Int32.ofNat (D + 1)), vi (Int32.ofInt ((cs.getD i 0 / 64 : Nat) - 64 : Int)), t9, .unset] []))) (fun tq kq => XS.istoreS Xp.here hx rfl (dd 25 rfl) rfl rfl hi.2.2.1 (XS.iload Xp.here hx rfl (dd 26 rfl) rfl (XS.ifYes Xp.here hx rfl (pc0 := 112) (pc' := 129) rfl (dd 27 rfl) rfl ((if0 _ _).trans (tlt hpa.1).1) (by decide) (by decide) kq))) ?_
        by_cases hcL : cs.getD i 0 ≤ 255
        · obtain ⟨cl108, Ar108, -, -, hin108, hat108⟩ := Vr.at (j := (Int32.ofNat (D + 1))) (v := (.int (Int32.ofInt ((cs.getD i 0 % 64 : Nat) - 128 : Int)))) (own_pos (by omega)) (by rw [own_clamp (by omega)]; exact hr1)
          obtain ⟨_, _, ⟨T109, L109, k109, n109⟩, -, X109, ⟨Lc109, hQ109, l109, y109, z109⟩, st109⟩ := Jvm.LawKit.callS Xp hx (y := M18) hown (mvT hZ (ww hw 180 rfl)) (mvT hZ (ww hw 181 rfl)) (mvT hZ (ww hw 10 rfl)) (mvT hZ (ww hw 182 rfl)) (by decide) (backOf (W := 2) (rm34 l Z a0 hw [] hp n0 Op (Int32.ofInt ((cs.getD i 0 / 64 : Nat) - 64 : Int)) (Int32.ofInt ((cs.getD i 0 % 64 : Nat) - 128 : Int))) hZ (ww hw 182 rfl) (ww hw 10 rfl) (by decide) (by decide)) (g := (mkF m 173 #[vr a, vr u, vr src, vi (Int32.ofNat off), vi (Int32.ofNat L0), vi ((Int32.ofNat i) + (1 : Int32)), vr ar, vi (Int32.ofNat (D + 1)), vi (Int32.ofInt ((cs.getD i 0 / 64 : Nat) - 64 : Int)), vi (Int32.ofInt ((cs.getD i 0 % 64 : Nat) - 128 : Int)), .unset] [(.int (Int32.ofInt ((cs.getD i 0 % 64 : Nat) - 128 : Int))), (.int (Int32.ofInt ((cs.getD i 0 / 64 : Nat) - 64 : Int))), (.int (Int32.ofNat i)), (.ref ar)])) rfl (by rw [hml]; rfl) (argsL := [(.int (Int32.ofInt ((cs.getD i 0 / 64 : Nat) - 64 : Int))), (.int (Int32.ofInt ((cs.getD i 0 % 64 : Nat) - 128 : Int)))]) (rest := [(.int (Int32.ofNat i)), (.ref ar)]) (lenOf pd_27 rfl) rfl (by show 2 * 0 + _ ≤ _; exact Nat.le_of_eq rfl) (dd 55 rfl) (fun _ _ => ⟨rfl, ep, (by decide : 1 + 0 ≤ _), (by decide : 400 + 0 ≤ _)⟩)
          dsimp only [Pt.U, Pt.locs, Pt.cells, Pt.slots] at X109 l109 y109 z109 st109 hQ109
          subst l109 y109 z109
          obtain ⟨rfl, N109, eh109⟩ := hQ109
          have Nf109 := Fr.app Np N109
          refine own_go (S' := (T109.setTop (mkF m 176 #[vr a, vr u, vr src, vi (Int32.ofNat off), vi (Int32.ofNat L0), vi ((Int32.ofNat i) + (1 : Int32)), vr ar, vi (Int32.ofNat (D + 1)), vi (Int32.ofInt ((cs.getD i 0 / 64 : Nat) - 64 : Int)), vi (Int32.ofInt ((cs.getD i 0 % 64 : Nat) - 128 : Int)), .unset] [(.int (own_d2 (Int32.ofInt ((cs.getD i 0 / 64 : Nat) - 64 : Int)) (Int32.ofInt ((cs.getD i 0 % 64 : Nat) - 128 : Int)))), (.int (Int32.ofNat i)), (.ref ar)]))) (fun tq kq => XS.iload Xp.here hx rfl (dd 35 rfl) rfl (XS.sipush Xp.here hx rfl (dd 36 rfl) (XS.iand Xp.here hx rfl (dd 37 rfl) rfl (XS.sipush Xp.here hx rfl (dd 38 rfl) (XS.icmpNo Xp.here hx rfl (dd 39 rfl) rfl (teq (hpa.2.2.2.mpr (by omega))).2 (XS.iload Xp.here hx rfl (dd 40 rfl) rfl (XS.iload Xp.here hx rfl (dd 41 rfl) rfl (XS.icmpNo Xp.here hx rfl (dd 42 rfl) rfl (tlt ((own_lt (by omega) (by omega)).mpr (by omega))).2.1 (XS.aload Xp.here hx rfl (dd 43 rfl) rfl rfl (XS.iload Xp.here hx rfl (dd 44 rfl) rfl (Xp.baloadBytes hx (j := (Int32.ofNat (D + 1))) (v := (.int (Int32.ofInt ((cs.getD i 0 % 64 : Nat) - 128 : Int)))) (by rw [ep]; exact Ar108.1) (State.isArrayOf_alike hZ.alike Ar108.2.1) Ar108.2.2 hin108 hat108 (g := (mkF m 152 #[vr a, vr u, vr src, vi (Int32.ofNat off), vi (Int32.ofNat L0), vi (Int32.ofNat i), vr ar, vi (Int32.ofNat (D + 1)), vi (Int32.ofInt ((cs.getD i 0 / 64 : Nat) - 64 : Int)), t9, .unset] [(.int (Int32.ofNat (D + 1))), (.ref ar)])) rfl rfl (dd 45 rfl) tq (XS.istoreS Xp.here hx rfl (dd 46 rfl) rfl rfl hi.2.2.2.1 (XS.iload Xp.here hx rfl (dd 47 rfl) rfl (XS.bipush Xp.here hx rfl (dd 48 rfl) (XS.icmpNo Xp.here hx rfl (dd 49 rfl) rfl (tlt hq.2.1).2.1 (XS.aload Xp.here hx rfl (dd 50 rfl) rfl rfl (XS.iload Xp.here hx rfl (dd 51 rfl) rfl (XS.iinc Xp.here hx rfl (dd 52 rfl) rfl (l' := #[vr a, vr u, vr src, vi (Int32.ofNat off), vi (Int32.ofNat L0), vi ((Int32.ofNat i) + (1 : Int32)), vr ar, vi (Int32.ofNat (D + 1)), vi (Int32.ofInt ((cs.getD i 0 / 64 : Nat) - 64 : Int)), vi (Int32.ofInt ((cs.getD i 0 % 64 : Nat) - 128 : Int)), .unset]) rfl (XS.iload Xp.here hx rfl (dd 53 rfl) rfl (XS.iload Xp.here hx rfl (dd 54 rfl) rfl (st109 tq kq))))))))))))))))))))) ?_
          rw [hd2]
          obtain ⟨cl110, Ar110, qa110, sa110, hin110, -⟩ := Vr.at (j := (Int32.ofNat i)) (own_pos (by omega)) (by rw [own_clamp (by omega)]; exact List.getElem?_eq_getElem (by omega))
          obtain ⟨T110, h110, X110, e110, W110, st110⟩ := stB X109 hx hZ eh109 Ar110 (j := (Int32.ofNat i)) hin110 (g := (mkF m 177 #[vr a, vr u, vr src, vi (Int32.ofNat off), vi (Int32.ofNat L0), vi ((Int32.ofNat i) + (1 : Int32)), vr ar, vi (Int32.ofNat (D + 1)), vi (Int32.ofInt ((cs.getD i 0 / 64 : Nat) - 64 : Int)), vi (Int32.ofInt ((cs.getD i 0 % 64 : Nat) - 128 : Int)), .unset] [(.int ((Int32.ofNat (cs.getD i 0)).toInt8.toInt32)), (.int (Int32.ofNat i)), (.ref ar)])) rfl rfl (dd 57 rfl)
          have N110 := Fr.snoc X110 Nf109 gr
          have O110 := Op.wr W110 gr
          have K110 := Kp.wr W110 (Or.inr gkr)
          have V110 : own_Ar Z h110 ar kr .byte (own_lv (cs.take (i + 1)) ++ (own_bv (own_u8 cs)).drop (i + 1)) := (by have q := (own_Ar.set Ar110 qa110 sa110 Vr.small W110); rw [own_clamp (by omega)] at q; exact (own_arset (cs := cs) (X := (own_bv (own_u8 cs))) (j := i) (by omega) (by omega)) ▸ (show own_Ar Z _ _ _ _ (List.set (own_lv (cs.take i) ++ (own_bv (own_u8 cs)).drop i) i (.int (own_lb (Int32.ofNat (cs.getD i 0))))) from q))
          refine own_go (S' := (T110.setTop (mkF m 93 #[vr a, vr u, vr src, vi (Int32.ofNat off), vi (Int32.ofNat L0), vi ((Int32.ofNat i) + (1 : Int32)), vr ar, vi ((Int32.ofNat (D + 1)) + (1 : Int32)), vi (Int32.ofInt ((cs.getD i 0 / 64 : Nat) - 64 : Int)), vi (Int32.ofInt ((cs.getD i 0 % 64 : Nat) - 128 : Int)), .unset] []))) (fun tq kq => XS.i2b X109.here hx rfl (dd 56 rfl) rfl (st110 tq (XS.iinc X110.here hx rfl (dd 58 rfl) rfl (l' := #[vr a, vr u, vr src, vi (Int32.ofNat off), vi (Int32.ofNat L0), vi ((Int32.ofNat i) + (1 : Int32)), vr ar, vi ((Int32.ofNat (D + 1)) + (1 : Int32)), vi (Int32.ofInt ((cs.getD i 0 / 64 : Nat) - 64 : Int)), vi (Int32.ofInt ((cs.getD i 0 % 64 : Nat) - 128 : Int)), .unset]) rfl (XS.goto X110.here hx rfl (pc0 := 181) (pc' := 93) rfl (dd 59 rfl) (by decide) (by decide) kq)))) ?_
          rw [own_succ i]
          rw [own_succ (D + 1)]
          have f111 := (Ea.wr W110)
          have f112 := (Fv.other W110 (Or.inl nar))
          have f113 := (Fc.other W110 (Or.inl nar))
          have f114 := (Xr.wr W110)
          exact ih (i + 1) (D + 1 + 1) _ _ ⟨by omega, own_DS (D := D) (k := 2) hi.2.1 (by omega) (congrArg List.length (own_ui2 hc1 hc2)), One.val rfl, One.val rfl, fun j hj => (Nat.lt_succ_iff_lt_or_eq.mp hj).elim (hi.2.2.2.2 j) (fun q => q ▸ (show cs.getD i 0 ≤ 255 by omega))⟩ X110 e110 N110 O110 K110 f111 f112 f113 V110 f114
        · refine own_go (S' := (Tp.setTop (mkF m 187 #[vr a, vr u, vr src, vi (Int32.ofNat off), vi (Int32.ofNat L0), vi (Int32.ofNat i), vr ar, vi ((Int32.ofNat (D + 1)) + (-1 : Int32)), vi (Int32.ofInt ((cs.getD i 0 / 64 : Nat) - 64 : Int)), t9, .unset] []))) (fun tq kq => XS.iload Xp.here hx rfl (dd 35 rfl) rfl (XS.sipush Xp.here hx rfl (dd 36 rfl) (XS.iand Xp.here hx rfl (dd 37 rfl) rfl (XS.sipush Xp.here hx rfl (dd 38 rfl) (XS.icmpYes Xp.here hx rfl (pc0 := 138) (pc' := 184) rfl (dd 39 rfl) rfl (feq (fun q => absurd (hpa.2.2.2.mp q) (by omega))).2 (by decide) (by decide) (XS.iinc Xp.here hx rfl (dd 60 rfl) rfl (l' := #[vr a, vr u, vr src, vi (Int32.ofNat off), vi (Int32.ofNat L0), vi (Int32.ofNat i), vr ar, vi ((Int32.ofNat (D + 1)) + (-1 : Int32)), vi (Int32.ofInt ((cs.getD i 0 / 64 : Nat) - 64 : Int)), t9, .unset]) rfl kq)))))) ?_
          rw [own_pred D]
          have hb255 : 255 < cs.getD i 0 := by omega
          have hnf := own_fi_ne (show i < cs.length by omega) hb255
          obtain ⟨_, _, ⟨T115, L115, k115, n115⟩, -, X115, ⟨Lc115, hQ115, l115, y115, z115⟩, st115⟩ := Jvm.LawKit.callS Xp hx (y := M7) hown (mvT hZ (ww hw 170 rfl)) (mvT hZ (ww hw 171 rfl)) (mvT hZ (ww hw 24 rfl)) (mvT hZ (ww hw 172 rfl)) (by decide) (backOf (W := 0) (rm31 l Z a0 hw [] hp n0 Op L0 hL4) hZ (ww hw 172 rfl) (ww hw 24 rfl) (by decide) (by decide)) (g := (mkF m 228 #[vr a, vr u, vr src, vi (Int32.ofNat off), vi (Int32.ofNat L0), vi (Int32.ofNat i), vr ar, vi (Int32.ofNat D), vi (Int32.ofInt ((cs.getD i 0 / 64 : Nat) - 64 : Int)), t9, .unset] [(.int (Int32.ofNat L0))])) rfl (by rw [hml]; rfl) (argsL := [(.int (Int32.ofNat L0))]) (rest := []) (lenOf pd_2 rfl) rfl (by show 2 * 0 + _ ≤ _; exact Nat.le_of_eq rfl) (dd 63 rfl) (fun _ _ => ⟨rfl, ep, (by decide : 1 + 1 ≤ _), (by decide : 400 + 800 ≤ _)⟩)
          dsimp only [Pt.U, Pt.locs, Pt.cells, Pt.slots] at X115 l115 y115 z115 st115 hQ115
          subst l115 y115 z115
          obtain ⟨b115, kb115, rfl, N115, K115, gb115, V115, Xb115⟩ := hQ115
          have Nf115 := Fr.app Np N115
          have O115 := Op.keep K115 all0
          have KK115 := Kp.trans K115 all0
          have ne_a_b115 := own_nL Ea.lt gb115
          have ne_ar_b115 := own_nL Vr.lt gb115
          have ge_b115 : n0 ≤ b115 := Nat.le_trans (own_osz Op) gb115
          have gk_b115 : h0.size ≤ b115 := Nat.le_trans Kp.1 gb115
          have f116 := (Vr.keep K115 nin0)
          obtain ⟨_, _, ⟨T117, L117, k117, n117⟩, -, X117, ⟨Lc117, hQ117, l117, y117, z117⟩, st117⟩ := Jvm.LawKit.callS X115 hx (y := M23) hown (mvT hZ (ww hw 205 rfl)) (mvT hZ (ww hw 206 rfl)) (mvT hZ (ww hw 168 rfl)) (mvT hZ (ww hw 207 rfl)) (by decide) (backOf (W := 0) (rm40 l Z a0 hw [] T115.heap n0 O115 ar kr (own_lv (cs.take i) ++ (own_bv (own_u8 cs)).drop i) b115 kb115 cs i L0 z fm HP f116 V115 (fun t ht => by rw [List.getElem?_append_left (by rw [own_lvtl (by omega)]; exact ht)]; have q := own_lvat (cs := cs.take i) (i := t) (by rw [List.length_take]; omega); rw [q, List.getD_eq_getElem?_getD, List.getElem?_take_of_lt ht, ← List.getD_eq_getElem?_getD]) hi.2.2.2.2 (by omega) (by omega) hL4 ge_b115 ne_ar_b115 HF) hZ (ww hw 207 rfl) (ww hw 168 rfl) (by decide) (by decide)) (g := (mkF m 241 #[vr a, vr u, vr src, vi (Int32.ofNat off), vi (Int32.ofNat L0), vi (Int32.ofNat i), vr ar, vi (Int32.ofNat D), vr b115, t9, .unset] [(.int (Int32.ofNat i)), (.int 0), (.ref b115), (.int 0), (.ref ar)])) rfl (by rw [hml]; rfl) (argsL := [(.ref ar), (.int 0), (.ref b115), (.int 0), (.int (Int32.ofNat i))]) (rest := []) (lenOf pd_25 rfl) rfl (by show 2 * 0 + _ ≤ _; exact Nat.le_of_eq rfl) (dd 70 rfl) (fun _ _ => ⟨rfl, rfl, (by decide : 2 + 0 ≤ _), (by decide : 1200 + 0 ≤ _)⟩)
          dsimp only [Pt.U, Pt.locs, Pt.cells, Pt.slots] at X117 l117 y117 z117 st117 hQ117
          subst l117 y117 z117
          obtain ⟨rfl, N117, K117, V117⟩ := hQ117
          have Nf117 := Fr.app Nf115 N117
          have O117 := O115.keep K117 (allS ge_b115 all0)
          have KK117 := KK115.trans K117 (allS (Or.inr gk_b115) all0)
          have f118 := (f116.keep K117 (ninS ne_ar_b115 nin0))
          obtain ⟨_, _, ⟨T119, L119, k119, n119⟩, -, X119, ⟨Lc119, hQ119, l119, y119, z119⟩, st119⟩ := Jvm.LawKit.callS X117 hx (y := M24) hown (mvT hZ (ww hw 218 rfl)) (mvT hZ (ww hw 219 rfl)) (mvT hZ (ww hw 10 rfl)) (mvT hZ (ww hw 220 rfl)) (by decide) (backOf (W := 0) (rm44 l Z a0 hw [] T117.heap n0 O117 ar kr (own_lv (cs.take i) ++ (own_bv (own_u8 cs)).drop i) b115 kb115 cs n L0 i z i D HP f118 V117 hs hL hL4 hcs hch ge_b115 ne_ar_b115 (by omega) hi.2.1 hD3.2) hZ (ww hw 220 rfl) (ww hw 10 rfl) (by decide) (by decide)) (g := (mkF m 255 #[vr a, vr u, vr src, vi (Int32.ofNat off), vi (Int32.ofNat L0), vi (Int32.ofNat i), vr ar, vi (Int32.ofNat D), vr b115, t9, .unset] [(.int 1), (.int (Int32.ofNat i)), (.ref b115), (.int (Int32.ofNat L0)), (.int (Int32.ofNat D)), (.ref ar)])) rfl (by rw [hml]; rfl) (argsL := [(.ref ar), (.int (Int32.ofNat D)), (.int (Int32.ofNat L0)), (.ref b115), (.int (Int32.ofNat i)), (.int 1)]) (rest := []) (lenOf pd_30 rfl) rfl (by show 2 * 0 + _ ≤ _; exact Nat.le_of_eq rfl) (dd 77 rfl) (fun _ _ => ⟨rfl, rfl, (by decide : 2 + 0 ≤ _), (by decide : 1200 + 0 ≤ _)⟩)
          dsimp only [Pt.U, Pt.locs, Pt.cells, Pt.slots] at X119 l119 y119 z119 st119 hQ119
          subst l119 y119 z119
          obtain ⟨rfl, N119, K119, V119⟩ := hQ119
          have Nf119 := Fr.app Nf117 N119
          have O119 := O117.keep K119 (allS ge_b115 all0)
          have KK119 := KK117.trans K119 (allS (Or.inr gk_b115) all0)
          refine own_go (S' := (T119.setTop (mkF m 269 #[vr a, vr u, vr src, vi (Int32.ofNat off), vi (Int32.ofNat L0), vi (Int32.ofNat n), vr ar, vi (Int32.ofNat D), vr b115, t9, .unset] [(.ref b115)]))) (fun tq kq => XS.goto Xp.here hx rfl (pc0 := 187) (pc' := 190) rfl (dd 61 rfl) (by decide) (by decide) (XS.iload Xp.here hx rfl (dd 3 rfl) rfl (XS.iload Xp.here hx rfl (dd 4 rfl) rfl (XS.icmpYes Xp.here hx rfl (pc0 := 194) (pc' := 226) rfl (dd 5 rfl) rfl (feq (fun q => absurd ((own_eqN (by omega) (by omega)).mp q) (by omega))).2 (by decide) (by decide) (XS.iload Xp.here hx rfl (dd 62 rfl) rfl (st115 tq (XS.astore X115.here hx rfl (dd 64 rfl) rfl rfl (l' := #[vr a, vr u, vr src, vi (Int32.ofNat off), vi (Int32.ofNat L0), vi (Int32.ofNat i), vr ar, vi (Int32.ofNat D), vr b115, t9, .unset]) rfl (XS.aload X115.here hx rfl (dd 65 rfl) rfl rfl (XS.iconst X115.here hx rfl (dd 66 rfl) (XS.aload X115.here hx rfl (dd 67 rfl) rfl rfl (XS.iconst X115.here hx rfl (dd 68 rfl) (XS.iload X115.here hx rfl (dd 69 rfl) rfl (st117 tq (XS.aload X117.here hx rfl (dd 71 rfl) rfl rfl (XS.iload X117.here hx rfl (dd 72 rfl) rfl (XS.iload X117.here hx rfl (dd 73 rfl) rfl (XS.aload X117.here hx rfl (dd 74 rfl) rfl rfl (XS.iload X117.here hx rfl (dd 75 rfl) rfl (XS.iconst X117.here hx rfl (dd 76 rfl) (st119 tq (XS.istore X119.here hx rfl (dd 78 rfl) rfl (l' := #[vr a, vr u, vr src, vi (Int32.ofNat off), vi (Int32.ofNat L0), vi (Int32.ofNat n), vr ar, vi (Int32.ofNat D), vr b115, t9, .unset]) rfl (XS.iload X119.here hx rfl (dd 79 rfl) rfl (XS.iload X119.here hx rfl (dd 80 rfl) rfl (XS.icmpNo X119.here hx rfl (dd 81 rfl) rfl (feq (fun q => absurd ((own_eqN (by omega) (by omega)).mp q) (by omega))).1 (XS.aload X119.here hx rfl (dd 82 rfl) rfl rfl kq))))))))))))))))))))))))) ?_
          refine own_go (S' := (T119.setTop (mkF m 273 #[vr a, vr u, vr src, vi (Int32.ofNat off), vi (Int32.ofNat L0), vi (Int32.ofNat n), vr ar, vi (Int32.ofNat D), vr b115, t9, .unset] [(.int ((Int32.ofNat n) <<< ((1 : Int32) &&& 31))), (.ref b115)]))) (fun tq kq => XS.iload X119.here hx rfl (dd 83 rfl) rfl (XS.iconst X119.here hx rfl (dd 84 rfl) (XS.ishl X119.here hx rfl (dd 85 rfl) rfl kq))) ?_
          rw [own_shl1 (by omega)]
          have f120 := (((Ea.keep K115).keep K117).keep K119)
          obtain ⟨_, _, ⟨T122, L122, k122, n122⟩, -, X122, ⟨Lc122, hQ122, l122, y122, z122⟩, st122⟩ := Jvm.LawKit.callS X119 hx (y := M6) hown (mvT hZ (ww hw 177 rfl)) (mvT hZ (ww hw 178 rfl)) (mvT hZ (ww hw 146 rfl)) (mvT hZ (ww hw 179 rfl)) (by decide) (backOf (W := 0) (rm33 l Z a0 hw [] T119.heap n0 O119 b115 kb115 (own_pad (own_wv cs) (2 * L0) (.int 0)) (2 * n) V119 (by rw [own_padlen (by rw [own_wvlen]; omega)]; omega) (by rw [own_padlen (by rw [own_wvlen]; omega)]; omega) (by omega) (own_padfit (own_wvfit cs))) hZ (ww hw 179 rfl) (ww hw 146 rfl) (by decide) (by decide)) (g := (mkF m 273 #[vr a, vr u, vr src, vi (Int32.ofNat off), vi (Int32.ofNat L0), vi (Int32.ofNat n), vr ar, vi (Int32.ofNat D), vr b115, t9, .unset] [(.int (Int32.ofNat (2 * n))), (.ref b115)])) rfl (by rw [hml]; rfl) (argsL := [(.ref b115), (.int (Int32.ofNat (2 * n)))]) (rest := []) (lenOf pd_12 rfl) rfl (by show 2 * 0 + _ ≤ _; exact Nat.le_of_eq rfl) (dd 86 rfl) (fun _ _ => ⟨rfl, rfl, (by decide : 2 + 1 ≤ _), (by decide : 1200 + 800 ≤ _)⟩)
          dsimp only [Pt.U, Pt.locs, Pt.cells, Pt.slots] at X122 l122 y122 z122 st122 hQ122
          subst l122 y122 z122
          obtain ⟨b122, kb122, rfl, N122, K122, gb122, V122, Xb122⟩ := hQ122
          have Nf122 := Fr.app Nf119 N122
          have KK122 := KK119.trans K122 all0
          have ne_a_b122 := own_nL f120.lt gb122
          have gk_b122 : h0.size ≤ b122 := Nat.le_trans KK119.1 gb122
          have f123 := ((((Fv.keep K115 nin0).keep K117 (ninS ne_a_b115 nin0)).keep K119 (ninS ne_a_b115 nin0)).keep K122 nin0)
          have f124 := (f120.keep K122)
          obtain ⟨T125, h125, X125, e125, W125, st125⟩ := putF X122 hx hZ hown (host := "") (Or.inl (ww hw 35 rfl)) Via.refl rfl f123 f124 (Or.inr ⟨(ww hw 36 rfl), rfl, hnm⟩) (ww hw 9 rfl) (ty := (.array .byte)) (by decide) rfl rfl (g := (mkF m 281 #[vr a, vr u, vr src, vi (Int32.ofNat off), vi (Int32.ofNat L0), vi (Int32.ofNat n), vr ar, vi (Int32.ofNat D), vr b122, t9, .unset] [(.ref b122), (.ref a)])) rfl rfl (dd 90 rfl)
          have N125 := Fr.snoc X125 Nf122 ga
          have K125 := KK122.wr W125 (Or.inl (List.mem_of_getElem? (i := 0) rfl))
          have F125 := f123.same W125
          have f126 := (((((Fc.keep K115 nin0).keep K117 (ninS ne_a_b115 nin0)).keep K119 (ninS ne_a_b115 nin0)).keep K122 nin0).other W125 (Or.inr (slot_ne (Or.inr (ww hw 34 rfl)) (Or.inr (ww hw 36 rfl)) (by decide) (t := .byte) (t' := (.array .byte)) (by decide) (by decide))))
          have f127 := (f124.wr W125)
          obtain ⟨T128, h128, X128, e128, W128, st128⟩ := putFN X125 hx hZ hown (ww hw 33 rfl) Via.refl e125 f126 f127 (Or.inr ⟨(ww hw 34 rfl), rfl, hnm⟩) (ww hw 9 rfl) (ty := .byte) (v' := (.int 1)) (by decide) rfl rfl (g := (mkF m 286 #[vr a, vr u, vr src, vi (Int32.ofNat off), vi (Int32.ofNat L0), vi (Int32.ofNat n), vr ar, vi (Int32.ofNat D), vr b122, t9, .unset] [(.int 1), (.ref a)])) rfl rfl (dd 93 rfl)
          have N128 := Fr.snoc X128 N125 ga
          have K128 := K125.wr W128 (Or.inl (List.mem_of_getElem? (i := 0) rfl))
          have F128 := f126.same W128
          refine own_go (S' := (T128.setTop (mkF m 879 #[vr a, vr u, vr src, vi (Int32.ofNat off), vi (Int32.ofNat L0), vi (Int32.ofNat n), vr ar, vi (Int32.ofNat D), vr b122, t9, .unset] []))) (fun tq kq => st122 tq (XS.astore X122.here hx rfl (dd 87 rfl) rfl rfl (l' := #[vr a, vr u, vr src, vi (Int32.ofNat off), vi (Int32.ofNat L0), vi (Int32.ofNat n), vr ar, vi (Int32.ofNat D), vr b122, t9, .unset]) rfl (XS.aloadN X122.here hx rfl (dd 88 rfl) rfl rfl (XS.aload X122.here hx rfl (dd 89 rfl) rfl rfl (st125 tq (XS.aloadN X125.here hx rfl (dd 91 rfl) rfl rfl (XS.iconst X125.here hx rfl (dd 92 rfl) (st128 tq (XS.goto X128.here hx rfl (pc0 := 289) (pc' := 879) rfl (dd 94 rfl) (by decide) (by decide) kq))))))))) ?_
          refine own_retV X128 hx hlk hret (dd 95 rfl) (by decide) (by decide) ?_
          have f129 := (F125.other W128 (Or.inr (slot_ne (Or.inr (ww hw 36 rfl)) (Or.inr (ww hw 34 rfl)) (by decide) (t := (.array .byte)) (t' := .byte) (by decide) (by decide))))
          have f130 := ((V122.other W125 (Ne.symm ne_a_b122)).other W128 (Ne.symm ne_a_b122))
          have f131 := ((Xb122.wr W125).wr W128)
          rw [e128]
          exact ⟨rfl, N128, K128, b122, _, gk_b122, f129, (by rw [own_cd1 hnf]; exact F128), (by rw [own_sv1 hnf, ← own_wvpt (M := (2 * L0)) hcs]; exact f130), f131⟩
      · rw [own_ui3 hc2] at hul
        simp only [List.length_cons, List.length_nil] at hul
        have hr0 : (own_lv (cs.take i) ++ (own_bv (own_u8 cs)).drop i)[D + 0]? = some (.int (Int32.ofInt ((cs.getD i 0 / 4096 : Nat) - 32 : Int))) := by have q := own_rd hs hL hi.2.1 hD3.2 (by omega) 0 (by rw [own_ui3 hc2]; simp); rw [own_ui3 hc2] at q; exact q
        have hpa := own_p3 (cs.getD i 0 / 4096) (by omega)
        obtain ⟨cl132, Ar132, -, -, hin132, hat132⟩ := Vr.at (j := (Int32.ofNat D)) (v := (.int (Int32.ofInt ((cs.getD i 0 / 4096 : Nat) - 32 : Int)))) (own_pos (by omega)) (by rw [own_clamp (by omega)]; exact hr0)
        refine own_go (S' := (Tp.setTop (mkF m 108 #[vr a, vr u, vr src, vi (Int32.ofNat off), vi (Int32.ofNat L0), vi (Int32.ofNat i), vr ar, vi ((Int32.ofNat D) + (1 : Int32)), t8, t9, .unset] [(.int (Int32.ofInt ((cs.getD i 0 / 4096 : Nat) - 32 : Int)))]))) (fun tq kq => XS.aload Xp.here hx rfl (dd 21 rfl) rfl rfl (XS.iload Xp.here hx rfl (dd 22 rfl) rfl (XS.iinc Xp.here hx rfl (dd 23 rfl) rfl (l' := #[vr a, vr u, vr src, vi (Int32.ofNat off), vi (Int32.ofNat L0), vi (Int32.ofNat i), vr ar, vi ((Int32.ofNat D) + (1 : Int32)), t8, t9, .unset]) rfl (Xp.baloadBytes hx (j := (Int32.ofNat D)) (v := (.int (Int32.ofInt ((cs.getD i 0 / 4096 : Nat) - 32 : Int)))) (by rw [ep]; exact Ar132.1) (State.isArrayOf_alike hZ.alike Ar132.2.1) Ar132.2.2 hin132 hat132 (g := (mkF m 107 #[vr a, vr u, vr src, vi (Int32.ofNat off), vi (Int32.ofNat L0), vi (Int32.ofNat i), vr ar, vi ((Int32.ofNat D) + (1 : Int32)), t8, t9, .unset] [(.int (Int32.ofNat D)), (.ref ar)])) rfl rfl (dd 24 rfl) tq kq)))) ?_
        rw [own_succ (D)]
        refine own_go (S' := (Tp.setTop (mkF m 187 #[vr a, vr u, vr src, vi (Int32.ofNat off), vi (Int32.ofNat L0), vi (Int32.ofNat i), vr ar, vi ((Int32.ofNat (D + 1)) + (-1 : Int32)), vi (Int32.ofInt ((cs.getD i 0 / 4096 : Nat) - 32 : Int)), t9, .unset] []))) (fun tq kq => XS.istoreS Xp.here hx rfl (dd 25 rfl) rfl rfl hi.2.2.1 (XS.iload Xp.here hx rfl (dd 26 rfl) rfl (XS.ifYes Xp.here hx rfl (pc0 := 112) (pc' := 129) rfl (dd 27 rfl) rfl ((if0 _ _).trans (tlt hpa.1).1) (by decide) (by decide) (XS.iload Xp.here hx rfl (dd 35 rfl) rfl (XS.sipush Xp.here hx rfl (dd 36 rfl) (XS.iand Xp.here hx rfl (dd 37 rfl) rfl (XS.sipush Xp.here hx rfl (dd 38 rfl) (XS.icmpYes Xp.here hx rfl (pc0 := 138) (pc' := 184) rfl (dd 39 rfl) rfl (feq hpa.2.2.2.1).2 (by decide) (by decide) (XS.iinc Xp.here hx rfl (dd 60 rfl) rfl (l' := #[vr a, vr u, vr src, vi (Int32.ofNat off), vi (Int32.ofNat L0), vi (Int32.ofNat i), vr ar, vi ((Int32.ofNat (D + 1)) + (-1 : Int32)), vi (Int32.ofInt ((cs.getD i 0 / 4096 : Nat) - 32 : Int)), t9, .unset]) rfl kq))))))))) ?_
        rw [own_pred D]
        have hb255 : 255 < cs.getD i 0 := by omega
        have hnf := own_fi_ne (show i < cs.length by omega) hb255
        obtain ⟨_, _, ⟨T133, L133, k133, n133⟩, -, X133, ⟨Lc133, hQ133, l133, y133, z133⟩, st133⟩ := Jvm.LawKit.callS Xp hx (y := M7) hown (mvT hZ (ww hw 170 rfl)) (mvT hZ (ww hw 171 rfl)) (mvT hZ (ww hw 24 rfl)) (mvT hZ (ww hw 172 rfl)) (by decide) (backOf (W := 0) (rm31 l Z a0 hw [] hp n0 Op L0 hL4) hZ (ww hw 172 rfl) (ww hw 24 rfl) (by decide) (by decide)) (g := (mkF m 228 #[vr a, vr u, vr src, vi (Int32.ofNat off), vi (Int32.ofNat L0), vi (Int32.ofNat i), vr ar, vi (Int32.ofNat D), vi (Int32.ofInt ((cs.getD i 0 / 4096 : Nat) - 32 : Int)), t9, .unset] [(.int (Int32.ofNat L0))])) rfl (by rw [hml]; rfl) (argsL := [(.int (Int32.ofNat L0))]) (rest := []) (lenOf pd_2 rfl) rfl (by show 2 * 0 + _ ≤ _; exact Nat.le_of_eq rfl) (dd 63 rfl) (fun _ _ => ⟨rfl, ep, (by decide : 1 + 1 ≤ _), (by decide : 400 + 800 ≤ _)⟩)
        dsimp only [Pt.U, Pt.locs, Pt.cells, Pt.slots] at X133 l133 y133 z133 st133 hQ133
        subst l133 y133 z133
        obtain ⟨b133, kb133, rfl, N133, K133, gb133, V133, Xb133⟩ := hQ133
        have Nf133 := Fr.app Np N133
        have O133 := Op.keep K133 all0
        have KK133 := Kp.trans K133 all0
        have ne_a_b133 := own_nL Ea.lt gb133
        have ne_ar_b133 := own_nL Vr.lt gb133
        have ge_b133 : n0 ≤ b133 := Nat.le_trans (own_osz Op) gb133
        have gk_b133 : h0.size ≤ b133 := Nat.le_trans Kp.1 gb133
        have f134 := (Vr.keep K133 nin0)
        obtain ⟨_, _, ⟨T135, L135, k135, n135⟩, -, X135, ⟨Lc135, hQ135, l135, y135, z135⟩, st135⟩ := Jvm.LawKit.callS X133 hx (y := M23) hown (mvT hZ (ww hw 205 rfl)) (mvT hZ (ww hw 206 rfl)) (mvT hZ (ww hw 168 rfl)) (mvT hZ (ww hw 207 rfl)) (by decide) (backOf (W := 0) (rm40 l Z a0 hw [] T133.heap n0 O133 ar kr (own_lv (cs.take i) ++ (own_bv (own_u8 cs)).drop i) b133 kb133 cs i L0 z fm HP f134 V133 (fun t ht => by rw [List.getElem?_append_left (by rw [own_lvtl (by omega)]; exact ht)]; have q := own_lvat (cs := cs.take i) (i := t) (by rw [List.length_take]; omega); rw [q, List.getD_eq_getElem?_getD, List.getElem?_take_of_lt ht, ← List.getD_eq_getElem?_getD]) hi.2.2.2.2 (by omega) (by omega) hL4 ge_b133 ne_ar_b133 HF) hZ (ww hw 207 rfl) (ww hw 168 rfl) (by decide) (by decide)) (g := (mkF m 241 #[vr a, vr u, vr src, vi (Int32.ofNat off), vi (Int32.ofNat L0), vi (Int32.ofNat i), vr ar, vi (Int32.ofNat D), vr b133, t9, .unset] [(.int (Int32.ofNat i)), (.int 0), (.ref b133), (.int 0), (.ref ar)])) rfl (by rw [hml]; rfl) (argsL := [(.ref ar), (.int 0), (.ref b133), (.int 0), (.int (Int32.ofNat i))]) (rest := []) (lenOf pd_25 rfl) rfl (by show 2 * 0 + _ ≤ _; exact Nat.le_of_eq rfl) (dd 70 rfl) (fun _ _ => ⟨rfl, rfl, (by decide : 2 + 0 ≤ _), (by decide : 1200 + 0 ≤ _)⟩)
        dsimp only [Pt.U, Pt.locs, Pt.cells, Pt.slots] at X135 l135 y135 z135 st135 hQ135
        subst l135 y135 z135
        obtain ⟨rfl, N135, K135, V135⟩ := hQ135
        have Nf135 := Fr.app Nf133 N135
        have O135 := O133.keep K135 (allS ge_b133 all0)
        have KK135 := KK133.trans K135 (allS (Or.inr gk_b133) all0)
        have f136 := (f134.keep K135 (ninS ne_ar_b133 nin0))
        obtain ⟨_, _, ⟨T137, L137, k137, n137⟩, -, X137, ⟨Lc137, hQ137, l137, y137, z137⟩, st137⟩ := Jvm.LawKit.callS X135 hx (y := M24) hown (mvT hZ (ww hw 218 rfl)) (mvT hZ (ww hw 219 rfl)) (mvT hZ (ww hw 10 rfl)) (mvT hZ (ww hw 220 rfl)) (by decide) (backOf (W := 0) (rm44 l Z a0 hw [] T135.heap n0 O135 ar kr (own_lv (cs.take i) ++ (own_bv (own_u8 cs)).drop i) b133 kb133 cs n L0 i z i D HP f136 V135 hs hL hL4 hcs hch ge_b133 ne_ar_b133 (by omega) hi.2.1 hD3.2) hZ (ww hw 220 rfl) (ww hw 10 rfl) (by decide) (by decide)) (g := (mkF m 255 #[vr a, vr u, vr src, vi (Int32.ofNat off), vi (Int32.ofNat L0), vi (Int32.ofNat i), vr ar, vi (Int32.ofNat D), vr b133, t9, .unset] [(.int 1), (.int (Int32.ofNat i)), (.ref b133), (.int (Int32.ofNat L0)), (.int (Int32.ofNat D)), (.ref ar)])) rfl (by rw [hml]; rfl) (argsL := [(.ref ar), (.int (Int32.ofNat D)), (.int (Int32.ofNat L0)), (.ref b133), (.int (Int32.ofNat i)), (.int 1)]) (rest := []) (lenOf pd_30 rfl) rfl (by show 2 * 0 + _ ≤ _; exact Nat.le_of_eq rfl) (dd 77 rfl) (fun _ _ => ⟨rfl, rfl, (by decide : 2 + 0 ≤ _), (by decide : 1200 + 0 ≤ _)⟩)
        dsimp only [Pt.U, Pt.locs, Pt.cells, Pt.slots] at X137 l137 y137 z137 st137 hQ137
        subst l137 y137 z137
        obtain ⟨rfl, N137, K137, V137⟩ := hQ137
        have Nf137 := Fr.app Nf135 N137
        have O137 := O135.keep K137 (allS ge_b133 all0)
        have KK137 := KK135.trans K137 (allS (Or.inr gk_b133) all0)
        refine own_go (S' := (T137.setTop (mkF m 269 #[vr a, vr u, vr src, vi (Int32.ofNat off), vi (Int32.ofNat L0), vi (Int32.ofNat n), vr ar, vi (Int32.ofNat D), vr b133, t9, .unset] [(.ref b133)]))) (fun tq kq => XS.goto Xp.here hx rfl (pc0 := 187) (pc' := 190) rfl (dd 61 rfl) (by decide) (by decide) (XS.iload Xp.here hx rfl (dd 3 rfl) rfl (XS.iload Xp.here hx rfl (dd 4 rfl) rfl (XS.icmpYes Xp.here hx rfl (pc0 := 194) (pc' := 226) rfl (dd 5 rfl) rfl (feq (fun q => absurd ((own_eqN (by omega) (by omega)).mp q) (by omega))).2 (by decide) (by decide) (XS.iload Xp.here hx rfl (dd 62 rfl) rfl (st133 tq (XS.astore X133.here hx rfl (dd 64 rfl) rfl rfl (l' := #[vr a, vr u, vr src, vi (Int32.ofNat off), vi (Int32.ofNat L0), vi (Int32.ofNat i), vr ar, vi (Int32.ofNat D), vr b133, t9, .unset]) rfl (XS.aload X133.here hx rfl (dd 65 rfl) rfl rfl (XS.iconst X133.here hx rfl (dd 66 rfl) (XS.aload X133.here hx rfl (dd 67 rfl) rfl rfl (XS.iconst X133.here hx rfl (dd 68 rfl) (XS.iload X133.here hx rfl (dd 69 rfl) rfl (st135 tq (XS.aload X135.here hx rfl (dd 71 rfl) rfl rfl (XS.iload X135.here hx rfl (dd 72 rfl) rfl (XS.iload X135.here hx rfl (dd 73 rfl) rfl (XS.aload X135.here hx rfl (dd 74 rfl) rfl rfl (XS.iload X135.here hx rfl (dd 75 rfl) rfl (XS.iconst X135.here hx rfl (dd 76 rfl) (st137 tq (XS.istore X137.here hx rfl (dd 78 rfl) rfl (l' := #[vr a, vr u, vr src, vi (Int32.ofNat off), vi (Int32.ofNat L0), vi (Int32.ofNat n), vr ar, vi (Int32.ofNat D), vr b133, t9, .unset]) rfl (XS.iload X137.here hx rfl (dd 79 rfl) rfl (XS.iload X137.here hx rfl (dd 80 rfl) rfl (XS.icmpNo X137.here hx rfl (dd 81 rfl) rfl (feq (fun q => absurd ((own_eqN (by omega) (by omega)).mp q) (by omega))).1 (XS.aload X137.here hx rfl (dd 82 rfl) rfl rfl kq))))))))))))))))))))))))) ?_
        refine own_go (S' := (T137.setTop (mkF m 273 #[vr a, vr u, vr src, vi (Int32.ofNat off), vi (Int32.ofNat L0), vi (Int32.ofNat n), vr ar, vi (Int32.ofNat D), vr b133, t9, .unset] [(.int ((Int32.ofNat n) <<< ((1 : Int32) &&& 31))), (.ref b133)]))) (fun tq kq => XS.iload X137.here hx rfl (dd 83 rfl) rfl (XS.iconst X137.here hx rfl (dd 84 rfl) (XS.ishl X137.here hx rfl (dd 85 rfl) rfl kq))) ?_
        rw [own_shl1 (by omega)]
        have f138 := (((Ea.keep K133).keep K135).keep K137)
        obtain ⟨_, _, ⟨T140, L140, k140, n140⟩, -, X140, ⟨Lc140, hQ140, l140, y140, z140⟩, st140⟩ := Jvm.LawKit.callS X137 hx (y := M6) hown (mvT hZ (ww hw 177 rfl)) (mvT hZ (ww hw 178 rfl)) (mvT hZ (ww hw 146 rfl)) (mvT hZ (ww hw 179 rfl)) (by decide) (backOf (W := 0) (rm33 l Z a0 hw [] T137.heap n0 O137 b133 kb133 (own_pad (own_wv cs) (2 * L0) (.int 0)) (2 * n) V137 (by rw [own_padlen (by rw [own_wvlen]; omega)]; omega) (by rw [own_padlen (by rw [own_wvlen]; omega)]; omega) (by omega) (own_padfit (own_wvfit cs))) hZ (ww hw 179 rfl) (ww hw 146 rfl) (by decide) (by decide)) (g := (mkF m 273 #[vr a, vr u, vr src, vi (Int32.ofNat off), vi (Int32.ofNat L0), vi (Int32.ofNat n), vr ar, vi (Int32.ofNat D), vr b133, t9, .unset] [(.int (Int32.ofNat (2 * n))), (.ref b133)])) rfl (by rw [hml]; rfl) (argsL := [(.ref b133), (.int (Int32.ofNat (2 * n)))]) (rest := []) (lenOf pd_12 rfl) rfl (by show 2 * 0 + _ ≤ _; exact Nat.le_of_eq rfl) (dd 86 rfl) (fun _ _ => ⟨rfl, rfl, (by decide : 2 + 1 ≤ _), (by decide : 1200 + 800 ≤ _)⟩)
        dsimp only [Pt.U, Pt.locs, Pt.cells, Pt.slots] at X140 l140 y140 z140 st140 hQ140
        subst l140 y140 z140
        obtain ⟨b140, kb140, rfl, N140, K140, gb140, V140, Xb140⟩ := hQ140
        have Nf140 := Fr.app Nf137 N140
        have KK140 := KK137.trans K140 all0
        have ne_a_b140 := own_nL f138.lt gb140
        have gk_b140 : h0.size ≤ b140 := Nat.le_trans KK137.1 gb140
        have f141 := ((((Fv.keep K133 nin0).keep K135 (ninS ne_a_b133 nin0)).keep K137 (ninS ne_a_b133 nin0)).keep K140 nin0)
        have f142 := (f138.keep K140)
        obtain ⟨T143, h143, X143, e143, W143, st143⟩ := putF X140 hx hZ hown (host := "") (Or.inl (ww hw 35 rfl)) Via.refl rfl f141 f142 (Or.inr ⟨(ww hw 36 rfl), rfl, hnm⟩) (ww hw 9 rfl) (ty := (.array .byte)) (by decide) rfl rfl (g := (mkF m 281 #[vr a, vr u, vr src, vi (Int32.ofNat off), vi (Int32.ofNat L0), vi (Int32.ofNat n), vr ar, vi (Int32.ofNat D), vr b140, t9, .unset] [(.ref b140), (.ref a)])) rfl rfl (dd 90 rfl)
        have N143 := Fr.snoc X143 Nf140 ga
        have K143 := KK140.wr W143 (Or.inl (List.mem_of_getElem? (i := 0) rfl))
        have F143 := f141.same W143
        have f144 := (((((Fc.keep K133 nin0).keep K135 (ninS ne_a_b133 nin0)).keep K137 (ninS ne_a_b133 nin0)).keep K140 nin0).other W143 (Or.inr (slot_ne (Or.inr (ww hw 34 rfl)) (Or.inr (ww hw 36 rfl)) (by decide) (t := .byte) (t' := (.array .byte)) (by decide) (by decide))))
        have f145 := (f142.wr W143)
        obtain ⟨T146, h146, X146, e146, W146, st146⟩ := putFN X143 hx hZ hown (ww hw 33 rfl) Via.refl e143 f144 f145 (Or.inr ⟨(ww hw 34 rfl), rfl, hnm⟩) (ww hw 9 rfl) (ty := .byte) (v' := (.int 1)) (by decide) rfl rfl (g := (mkF m 286 #[vr a, vr u, vr src, vi (Int32.ofNat off), vi (Int32.ofNat L0), vi (Int32.ofNat n), vr ar, vi (Int32.ofNat D), vr b140, t9, .unset] [(.int 1), (.ref a)])) rfl rfl (dd 93 rfl)
        have N146 := Fr.snoc X146 N143 ga
        have K146 := K143.wr W146 (Or.inl (List.mem_of_getElem? (i := 0) rfl))
        have F146 := f144.same W146
        refine own_go (S' := (T146.setTop (mkF m 879 #[vr a, vr u, vr src, vi (Int32.ofNat off), vi (Int32.ofNat L0), vi (Int32.ofNat n), vr ar, vi (Int32.ofNat D), vr b140, t9, .unset] []))) (fun tq kq => st140 tq (XS.astore X140.here hx rfl (dd 87 rfl) rfl rfl (l' := #[vr a, vr u, vr src, vi (Int32.ofNat off), vi (Int32.ofNat L0), vi (Int32.ofNat n), vr ar, vi (Int32.ofNat D), vr b140, t9, .unset]) rfl (XS.aloadN X140.here hx rfl (dd 88 rfl) rfl rfl (XS.aload X140.here hx rfl (dd 89 rfl) rfl rfl (st143 tq (XS.aloadN X143.here hx rfl (dd 91 rfl) rfl rfl (XS.iconst X143.here hx rfl (dd 92 rfl) (st146 tq (XS.goto X146.here hx rfl (pc0 := 289) (pc' := 879) rfl (dd 94 rfl) (by decide) (by decide) kq))))))))) ?_
        refine own_retV X146 hx hlk hret (dd 95 rfl) (by decide) (by decide) ?_
        have f147 := (F143.other W146 (Or.inr (slot_ne (Or.inr (ww hw 36 rfl)) (Or.inr (ww hw 34 rfl)) (by decide) (t := (.array .byte)) (t' := .byte) (by decide) (by decide))))
        have f148 := ((V140.other W143 (Ne.symm ne_a_b140)).other W146 (Ne.symm ne_a_b140))
        have f149 := ((Xb140.wr W143).wr W146)
        rw [e146]
        exact ⟨rfl, N146, K146, b140, _, gk_b140, f147, (by rw [own_cd1 hnf]; exact F146), (by rw [own_sv1 hnf, ← own_wvpt (M := (2 * L0)) hcs]; exact f148), f149⟩
def Q_rm24 (Z : State) (h0 : Heap) (n0 : Nat) (a : Addr) (src : Addr) (ks : ClassId) (vs : List Value) (off : Nat) (cs : List Nat) (n : Nat) (L0 : Nat) (z : Int32) (u : Addr) (fm : Value) (v : Option Value) (h : Heap) (L : List Loc) : Prop := v = none ∧ Fr n0 L ∧ Keep h0 h [a] ∧ ∃ (d : Addr) (kd : ClassId), h0.size ≤ d ∧ Fld Z h a "java/lang/String" "value" "[B" (.ref d) ∧ Fld Z h a "java/lang/String" "coder" "B" (.int (own_cd cs)) ∧ own_Ar Z h d kd .byte (own_sv cs) ∧ Exa Z h d "[B"
theorem rm24 (l : Launch) (Z : State) (a0 : Array Value) (hw : ∀ d ∈ tables_1, d.before a0 Z = true) (ws : List Jvm.Cond) (h0 : Heap) (n0 : Nat) (O0 : Old Z n0 h0) (a : Addr) (src : Addr) (ks : ClassId) (vs : List Value) (off : Nat) (cs : List Nat) (n : Nat) (L0 : Nat) (z : Int32) (u : Addr) (fm : Value) (HP : own_PK Z z) (HU : own_UK Z u) (HF : own_FK Z fm) (Ea : Exa Z h0 a "java/lang/String") (Fv : Fld Z h0 a "java/lang/String" "value" "[B" .null) (Fc : Fld Z h0 a "java/lang/String" "coder" "B" (.int 0)) (ga : n0 ≤ a) (Vs : own_Ar Z h0 src ks .byte vs) (hsrc : ∀ t, t < L0 → vs[off + t]? = some (.int (own_fb cs t))) (hL : L0 = (own_u8 cs).length) (hL4 : L0 ≤ 400) (hcs : cs.length = n) (hch : ∀ j, cs.getD j 0 < 32768) (hn0 : 0 < n) (ho0 : 0 < off) (hvl : vs.length ≤ 4096) (hol : off + L0 ≤ vs.length) (hfv : ∀ v ∈ vs, fits .byte v = true) (nas : src ≠ a) :
    MetFree l M9 (head1 (Jvm.Cond.codeWith M9 jdk_42_method_11_code 11 none [((800 : Nat), (813 : Nat), (816 : Nat), (202 : Nat))] :: ws) ({ frames := 5, cells := 3, slots := 2000, locals := 90 } : Room)) (fun aq U => aq = #[(.ref a), (.ref u), (.ref src), (.int (Int32.ofNat off)), (.int (Int32.ofNat L0))] ∧ Z.Warmed39 U.vm ∧ U.heap = h0) (fun _ _ _ _ _ => True) (fun _ U oo U' => ∃ v L, oo = .returned v ∧ Q_rm24 Z h0 n0 a src ks vs off cs n L0 z u fm v U'.heap L ∧ FrameEnd U oo U' L ({ frames := 5, cells := 3, slots := 2000, locals := 90 } : Room).cells ({ frames := 5, cells := 3, slots := 2000, locals := 90 } : Room).slots) := by
  refine MetFree.of_bodySF (plainFor_of_name pn_rm4) hisWith ?_
  intro p e s m args below meth c s₁ Bd hml0 hP hK
  obtain ⟨rfl, hZ, hh⟩ := hP
  have hx := Bd.exec
  have hby := Bd.bytes
  have dd := @dq _ _ _ hby D24
  have hml : c.maxLocals = 11 := hml0
  have hown : s.vm.findClass "java/lang/String" = some m.cls := findClass_of_methodNamed Bd.named
  have hnm := (name_of_methodNamed Bd.named Bd.method).1
  have hlk := Bd.notSynchronized
  have hret := Bd.returns
  have X0 : Stand p l e ({ frames := 5, cells := 3, slots := 2000, locals := 90 } : Room) s m #[(.ref a), (.ref u), (.ref src), (.int (Int32.ofNat off)), (.int (Int32.ofNat L0))] below meth c s₁ [] 0 0 := Stand.of_body Bd
  have e0 : s₁.heap = h0 := by rw [← hh, Bd.state]; rfl
  have N0 := Fr.nil n0
  have K0 := Keep.refl h0 [a]
  refine own_go (S' := (s₁.setTop (mkF m 0 #[vr a, vr u, vr src, vi (Int32.ofNat off), vi (Int32.ofNat L0), .unset, .unset, .unset, .unset, .unset, .unset] []))) (fun tq kq => castTop rfl kq) ?_
  show own_G p e s below (Q_rm24 Z h0 n0 a src ks vs off cs n L0 z u fm) _ _ _
  obtain ⟨SC, hz, SA, SH, SL⟩ := id HP
  obtain ⟨SI, SU, EU⟩ := id HU
  have hge := own_u8ge cs
  obtain ⟨T101, X101, e101, st101⟩ := initO X0 hx hZ hown (ww hw 18 rfl) (ww hw 19 rfl) (ww hw 20 rfl) e0 (g := (mkF m 1 #[vr a, vr u, vr src, vi (Int32.ofNat off), vi (Int32.ofNat L0), .unset, .unset, .unset, .unset, .unset, .unset] [(.ref a)])) rfl (by rw [hml]; rfl) rfl (dd 97 rfl) (by decide) (W := 0) (by show 2 * 0 + _ ≤ _; exact Nat.le_of_eq rfl) (by decide)
  obtain ⟨T102, X102, e102, st102⟩ := getS2 X101 hx hZ hown (host := "") (Or.inl (ww hw 79 rfl)) Via.refl e101 (SI.ext O0.2) (g := (mkF m 31 #[vr a, vr u, vr src, vi (Int32.ofNat off), vi (Int32.ofNat L0), .unset, .unset, .unset, .unset, .unset, .unset] [(.ref u)])) rfl (dd 101 rfl)
  obtain ⟨T103, X103, e103, st103⟩ := getS2 X102 hx hZ hown (host := "") (Or.inl (ww hw 21 rfl)) Via.refl e102 (SC.ext O0.2) (g := (mkF m 37 #[vr a, vr u, vr src, vi (Int32.ofNat off), vi (Int32.ofNat L0), .unset, .unset, .unset, .unset, .unset, .unset] [])) rfl (dd 103 rfl)
  obtain ⟨_, _, ⟨T104, L104, k104, n104⟩, -, X104, ⟨Lc104, hQ104, l104, y104, z104⟩, st104⟩ := Jvm.LawKit.callS X103 hx (y := M14) hown (mvT hZ (ww hw 143 rfl)) (mvT hZ (ww hw 89 rfl)) (mvT hZ (ww hw 86 rfl)) (mvT hZ (ww hw 90 rfl)) (by decide) (backOf (W := 0) (rm16 l Z a0 hw [] h0 n0 O0 src ks vs off L0 (own_fb cs) Vs hsrc (by omega)) hZ (ww hw 90 rfl) (ww hw 86 rfl) (by decide) (by decide)) (g := (mkF m 47 #[vr a, vr u, vr src, vi (Int32.ofNat off), vi (Int32.ofNat L0), .unset, .unset, .unset, .unset, .unset, .unset] [(.int (Int32.ofNat L0)), (.int (Int32.ofNat off)), (.ref src)])) rfl (by rw [hml]; rfl) (argsL := [(.ref src), (.int (Int32.ofNat off)), (.int (Int32.ofNat L0))]) (rest := []) (lenOf pd_8 rfl) rfl (by show 2 * 0 + _ ≤ _; exact Nat.le_of_eq rfl) (dd 108 rfl) (fun _ _ => ⟨rfl, e103, (by decide : 0 + 0 ≤ _), (by decide : 0 + 0 ≤ _)⟩)
  dsimp only [Pt.U, Pt.locs, Pt.cells, Pt.slots] at X104 l104 y104 z104 st104 hQ104
  subst l104 y104 z104
  obtain ⟨rfl, N104, eh104⟩ := hQ104
  have Nf104 := Fr.app N0 N104
  refine own_go (S' := (T104.setTop (mkF m 56 #[vr a, vr u, vr src, vi (Int32.ofNat off), vi (Int32.ofNat L0), vi (Int32.ofNat (own_np (own_fb cs) L0)), .unset, .unset, .unset, .unset, .unset] [(.int (Int32.ofNat L0)), (.int (Int32.ofNat (own_np (own_fb cs) L0)))]))) (fun tq kq => XS.aloadN X0.here hx rfl (dd 96 rfl) rfl rfl (st101 tq (XS.iload X101.here hx rfl (dd 98 rfl) rfl (XS.ifYes X101.here hx rfl (pc0 := 6) (pc' := 30) rfl (dd 99 rfl) rfl ((if0 _ _).trans (feq (fun q => absurd ((own_eqN (b := 0) (by omega) (by decide)).mp q) (by omega))).2) (by decide) (by decide) (XS.aloadN X101.here hx rfl (dd 100 rfl) rfl rfl (st102 tq (Jvm.RoadKit.acmp (g := (mkF m 34 #[vr a, vr u, vr src, vi (Int32.ofNat off), vi (Int32.ofNat L0), .unset, .unset, .unset, .unset, .unset, .unset] [(.ref u), (.ref u)])) X102 hx rfl rfl rfl (pc0 := 34) (pc' := 37) (same := true) rfl (dd 102 rfl) rfl (decide_eq_true rfl) (by decide) (by decide) (st103 tq (XS.ifNo X103.here hx rfl (dd 104 rfl) rfl ((if0 _ _).trans (feq hz).1) (XS.aloadN X103.here hx rfl (dd 105 rfl) rfl rfl (XS.iloadN X103.here hx rfl (dd 106 rfl) rfl (XS.iload X103.here hx rfl (dd 107 rfl) rfl (st104 tq (XS.istore X104.here hx rfl (dd 109 rfl) rfl (l' := #[vr a, vr u, vr src, vi (Int32.ofNat off), vi (Int32.ofNat L0), vi (Int32.ofNat (own_np (own_fb cs) L0)), .unset, .unset, .unset, .unset, .unset]) rfl (XS.iload X104.here hx rfl (dd 110 rfl) rfl (XS.iload X104.here hx rfl (dd 111 rfl) rfl kq)))))))))))))))) ?_
  by_cases hnp : own_np (own_fb cs) L0 = L0
  · refine own_go (S' := (T104.setTop (mkF m 66 #[vr a, vr u, vr src, vi (Int32.ofNat off), vi (Int32.ofNat L0), vi (Int32.ofNat (own_np (own_fb cs) L0)), .unset, .unset, .unset, .unset, .unset] [(.int ((Int32.ofNat off) + (Int32.ofNat L0))), (.int (Int32.ofNat off)), (.ref src), (.ref a)]))) (fun tq kq => XS.icmpNo X104.here hx rfl (dd 112 rfl) rfl (teq (by rw [hnp])).2 (XS.aloadN X104.here hx rfl (dd 113 rfl) rfl rfl (XS.aloadN X104.here hx rfl (dd 114 rfl) rfl rfl (XS.iloadN X104.here hx rfl (dd 115 rfl) rfl (XS.iloadN X104.here hx rfl (dd 116 rfl) rfl (XS.iload X104.here hx rfl (dd 117 rfl) rfl (XS.iadd X104.here hx rfl (dd 118 rfl) rfl kq))))))) ?_
    rw [own_addN off L0]
    obtain ⟨_, _, ⟨T105, L105, k105, n105⟩, -, X105, ⟨Lc105, hQ105, l105, y105, z105⟩, st105⟩ := Jvm.LawKit.callS X104 hx (y := M16) hown (mvT hZ (ww hw 144 rfl)) (mvT hZ (ww hw 145 rfl)) (mvT hZ (ww hw 146 rfl)) (mvT hZ (ww hw 147 rfl)) (by decide) (backOf (W := 1) (rm25 l Z a0 hw [] h0 n0 O0 src ks vs off L0 Vs hol hvl hL4 hfv ho0) hZ (ww hw 147 rfl) (ww hw 146 rfl) (by decide) (by decide)) (g := (mkF m 66 #[vr a, vr u, vr src, vi (Int32.ofNat off), vi (Int32.ofNat L0), vi (Int32.ofNat (own_np (own_fb cs) L0)), .unset, .unset, .unset, .unset, .unset] [(.int (Int32.ofNat (off + L0))), (.int (Int32.ofNat off)), (.ref src), (.ref a)])) rfl (by rw [hml]; rfl) (argsL := [(.ref src), (.int (Int32.ofNat off)), (.int (Int32.ofNat (off + L0)))]) (rest := [(.ref a)]) (lenOf pd_11 rfl) rfl (by show 2 * 0 + _ ≤ _; exact Nat.le_of_eq rfl) (dd 119 rfl) (fun _ _ => ⟨rfl, eh104, (by decide : 0 + 1 ≤ _), (by decide : 0 + 400 ≤ _)⟩)
    dsimp only [Pt.U, Pt.locs, Pt.cells, Pt.slots] at X105 l105 y105 z105 st105 hQ105
    subst l105 y105 z105
    obtain ⟨b105, kb105, rfl, N105, K105, gb105, V105, Xb105⟩ := hQ105
    have Nf105 := Fr.app Nf104 N105
    have KK105 := K0.trans K105 all0
    have ne_a_b105 := own_nL Ea.lt gb105
    have gk_b105 : h0.size ≤ b105 := Nat.le_trans K0.1 gb105
    have f106 := (Fv.keep K105 nin0)
    have f107 := (Ea.keep K105)
    obtain ⟨T108, h108, X108, e108, W108, st108⟩ := putF X105 hx hZ hown (host := "") (Or.inl (ww hw 35 rfl)) Via.refl rfl f106 f107 (Or.inr ⟨(ww hw 36 rfl), rfl, hnm⟩) (ww hw 9 rfl) (ty := (.array .byte)) (by decide) rfl rfl (g := (mkF m 69 #[vr a, vr u, vr src, vi (Int32.ofNat off), vi (Int32.ofNat L0), vi (Int32.ofNat (own_np (own_fb cs) L0)), .unset, .unset, .unset, .unset, .unset] [(.ref b105), (.ref a)])) rfl rfl (dd 120 rfl)
    have N108 := Fr.snoc X108 Nf105 ga
    have K108 := KK105.wr W108 (Or.inl (List.mem_of_getElem? (i := 0) rfl))
    have F108 := f106.same W108
    have f109 := ((Fc.keep K105 nin0).other W108 (Or.inr (slot_ne (Or.inr (ww hw 34 rfl)) (Or.inr (ww hw 36 rfl)) (by decide) (t := .byte) (t' := (.array .byte)) (by decide) (by decide))))
    have f110 := (f107.wr W108)
    obtain ⟨T111, h111, X111, e111, W111, st111⟩ := putFN X108 hx hZ hown (ww hw 33 rfl) Via.refl e108 f109 f110 (Or.inr ⟨(ww hw 34 rfl), rfl, hnm⟩) (ww hw 9 rfl) (ty := .byte) (v' := (.int 0)) (by decide) rfl rfl (g := (mkF m 74 #[vr a, vr u, vr src, vi (Int32.ofNat off), vi (Int32.ofNat L0), vi (Int32.ofNat (own_np (own_fb cs) L0)), .unset, .unset, .unset, .unset, .unset] [(.int 0), (.ref a)])) rfl rfl (dd 123 rfl)
    have N111 := Fr.snoc X111 N108 ga
    have K111 := K108.wr W111 (Or.inl (List.mem_of_getElem? (i := 0) rfl))
    have F111 := f109.same W111
    refine own_go (S' := (T111.setTop (mkF m 77 #[vr a, vr u, vr src, vi (Int32.ofNat off), vi (Int32.ofNat L0), vi (Int32.ofNat (own_np (own_fb cs) L0)), .unset, .unset, .unset, .unset, .unset] []))) (fun tq kq => st105 tq (st108 tq (XS.aloadN X108.here hx rfl (dd 121 rfl) rfl rfl (XS.iconst X108.here hx rfl (dd 122 rfl) (st111 tq kq))))) ?_
    refine own_retV X111 hx hlk hret (dd 124 rfl) (by decide) (by decide) ?_
    subst hL
    have hA := own_npA hch hnp
    have hfa := own_fi_all (cs := cs) (fun j hj => Nat.le_of_lt (Nat.lt_of_lt_of_le (hA j hj) (by decide)))
    have f112 := (F108.other W111 (Or.inr (slot_ne (Or.inr (ww hw 36 rfl)) (Or.inr (ww hw 34 rfl)) (by decide) (t := (.array .byte)) (t' := .byte) (by decide) (by decide))))
    have f113 := ((V105.other W108 (Ne.symm ne_a_b105)).other W111 (Ne.symm ne_a_b105))
    have f114 := ((Xb105.wr W108).wr W111)
    rw [e111]
    exact ⟨rfl, N111, K111, b105, _, gk_b105, f112, (by rw [own_cd0 hfa]; exact F111), (by rw [own_sv0 hfa, own_lv8 hA, ← own_slice hsrc]; exact f113), f114⟩
  · refine own_go (S' := (T104.setTop (mkF m 84 #[vr a, vr u, vr src, vi (Int32.ofNat off), vi (Int32.ofNat L0), vi (Int32.ofNat (own_np (own_fb cs) L0)), .unset, .unset, .unset, .unset, .unset] [(.int ((Int32.ofNat off) + (Int32.ofNat L0))), (.int (Int32.ofNat off)), (.ref src)]))) (fun tq kq => XS.icmpYes X104.here hx rfl (pc0 := 56) (pc' := 78) rfl (dd 112 rfl) rfl (feq (fun q => hnp ((own_eqN (by have := own_np_le (own_fb cs) L0; omega) (by omega)).mp q))).2 (by decide) (by decide) (XS.aloadN X104.here hx rfl (dd 125 rfl) rfl rfl (XS.iloadN X104.here hx rfl (dd 126 rfl) rfl (XS.iloadN X104.here hx rfl (dd 127 rfl) rfl (XS.iload X104.here hx rfl (dd 128 rfl) rfl (XS.iadd X104.here hx rfl (dd 129 rfl) rfl kq)))))) ?_
    rw [own_addN off L0]
    obtain ⟨_, _, ⟨T115, L115, k115, n115⟩, -, X115, ⟨Lc115, hQ115, l115, y115, z115⟩, st115⟩ := Jvm.LawKit.callS X104 hx (y := M16) hown (mvT hZ (ww hw 144 rfl)) (mvT hZ (ww hw 145 rfl)) (mvT hZ (ww hw 146 rfl)) (mvT hZ (ww hw 147 rfl)) (by decide) (backOf (W := 0) (rm25 l Z a0 hw [] h0 n0 O0 src ks vs off L0 Vs hol hvl hL4 hfv ho0) hZ (ww hw 147 rfl) (ww hw 146 rfl) (by decide) (by decide)) (g := (mkF m 84 #[vr a, vr u, vr src, vi (Int32.ofNat off), vi (Int32.ofNat L0), vi (Int32.ofNat (own_np (own_fb cs) L0)), .unset, .unset, .unset, .unset, .unset] [(.int (Int32.ofNat (off + L0))), (.int (Int32.ofNat off)), (.ref src)])) rfl (by rw [hml]; rfl) (argsL := [(.ref src), (.int (Int32.ofNat off)), (.int (Int32.ofNat (off + L0)))]) (rest := []) (lenOf pd_11 rfl) rfl (by show 2 * 0 + _ ≤ _; exact Nat.le_of_eq rfl) (dd 130 rfl) (fun _ _ => ⟨rfl, eh104, (by decide : 0 + 1 ≤ _), (by decide : 0 + 400 ≤ _)⟩)
    dsimp only [Pt.U, Pt.locs, Pt.cells, Pt.slots] at X115 l115 y115 z115 st115 hQ115
    subst l115 y115 z115
    obtain ⟨b115, kb115, rfl, N115, K115, gb115, V115, Xb115⟩ := hQ115
    have Nf115 := Fr.app Nf104 N115
    have O115 := O0.keep K115 all0
    have KK115 := K0.trans K115 all0
    have ne_a_b115 := own_nL Ea.lt gb115
    have ge_b115 : n0 ≤ b115 := Nat.le_trans (own_osz O0) gb115
    have gk_b115 : h0.size ≤ b115 := Nat.le_trans K0.1 gb115
    refine own_go (S' := (T115.setTop (mkF m 93 #[vr a, vr u, vr src, vi (Int32.ofNat off), vi (Int32.ofNat L0), vi (Int32.ofNat (own_np (own_fb cs) L0)), vr b115, vi (Int32.ofNat (own_np (own_fb cs) L0)), .unset, .unset, .unset] []))) (fun tq kq => st115 tq (XS.astore X115.here hx rfl (dd 131 rfl) rfl rfl (l' := #[vr a, vr u, vr src, vi (Int32.ofNat off), vi (Int32.ofNat L0), vi (Int32.ofNat (own_np (own_fb cs) L0)), vr b115, .unset, .unset, .unset, .unset]) rfl (XS.iload X115.here hx rfl (dd 132 rfl) rfl (XS.istore X115.here hx rfl (dd 133 rfl) rfl (l' := #[vr a, vr u, vr src, vi (Int32.ofNat off), vi (Int32.ofNat L0), vi (Int32.ofNat (own_np (own_fb cs) L0)), vr b115, vi (Int32.ofNat (own_np (own_fb cs) L0)), .unset, .unset, .unset]) rfl kq)))) ?_
    subst hL
    have hS := own_npS hch hnp
    have hle := own_np_le (own_fb cs) (own_u8 cs).length
    have f116 := (Ea.keep K115)
    have f117 := (Fv.keep K115 nin0)
    have f118 := (Fc.keep K115 nin0)
    exact loop93 hlk hret hx hZ hw hby hml hown hnm a src off b115 kb115 cs n _ z u fm HP HF rfl hL4 hcs hch (by omega) ga ge_b115 gk_b115 ne_a_b115 (n - own_np (own_fb cs) (own_u8 cs).length) (own_np (own_fb cs) (own_u8 cs).length) (own_np (own_fb cs) (own_u8 cs).length) .unset .unset ⟨by omega, hS.2.1, One.u, One.u, fun j hj => Nat.le_of_lt (Nat.lt_of_lt_of_le (hS.2.2.1 j hj) (by decide))⟩ X115 rfl Nf115 O115 KK115 f116 f117 f118 (by have q := V115; rw [own_slice hsrc] at q; exact (own_arstart hS.2.1 hS.2.2.1 (by omega)) ▸ q) Xb115
def Q_dec0 (Z : State) (h0 : Heap) (n0 : Nat) (a : Addr) (src : Addr) (off : Nat) (z : Int32) (u : Addr) (v : Option Value) (h : Heap) (L : List Loc) : Prop := v = none ∧ Fr n0 L ∧ Keep h0 h [a] ∧ ∃ (d : Addr) (kd : ClassId), Fld Z h a "java/lang/String" "value" "[B" (.ref d) ∧ Fld Z h a "java/lang/String" "coder" "B" (.int (own_cd [])) ∧ own_Ar Z h d kd .byte (own_sv []) ∧ Exa Z h d "[B"
theorem dec0 (l : Launch) (Z : State) (a0 : Array Value) (hw : ∀ d ∈ tables_1, d.before a0 Z = true) (ws : List Jvm.Cond) (h0 : Heap) (n0 : Nat) (O0 : Old Z n0 h0) (a : Addr) (src : Addr) (off : Nat) (z : Int32) (u : Addr) (hEL : EW Z a0 own_EL) (HP : own_PK Z z) (Ea : Exa Z h0 a "java/lang/String") (Fv : Fld Z h0 a "java/lang/String" "value" "[B" .null) (Fc : Fld Z h0 a "java/lang/String" "coder" "B" (.int 0)) (ga : n0 ≤ a) :
    MetFree l M9 (head1 (Jvm.Cond.codeWith M9 jdk_42_method_11_code 11 none [((800 : Nat), (813 : Nat), (816 : Nat), (202 : Nat))] :: ws) ({ frames := 1, cells := 2, slots := 4, locals := 12 } : Room)) (fun aq U => aq = #[(.ref a), (.ref u), (.ref src), (.int (Int32.ofNat off)), (.int (Int32.ofNat 0))] ∧ Z.Warmed39 U.vm ∧ U.heap = h0 ∧ CHv Z own_EL U.vm h0) (fun _ _ _ _ _ => True) (fun _ U oo U' => ∃ v L, oo = .returned v ∧ Q_dec0 Z h0 n0 a src off z u v U'.heap L ∧ CHr Z own_EL U.vm U.heap U'.vm U'.heap ∧ ReturnedEndW U oo U' L ({ frames := 1, cells := 2, slots := 4, locals := 12 } : Room).cells ({ frames := 1, cells := 2, slots := 4, locals := 12 } : Room).slots) := by
  refine MetFree.of_bodySF (plainFor_of_name pn_rm4) hisWith ?_
  intro p e s m args below meth c s₁ Bd hml0 hP hK
  obtain ⟨rfl, hZ, hh, hCH⟩ := hP
  have C0 := CHr.refl hCH
  have hS0 := own_since s s.heap.size
  have hk0 : s.heap.size ≤ h0.size := Nat.le_of_eq (congrArg Array.size hh)
  have hx := Bd.exec
  have hby := Bd.bytes
  have dd := @dq _ _ _ hby D24
  have hml : c.maxLocals = 11 := hml0
  have hown : s.vm.findClass "java/lang/String" = some m.cls := findClass_of_methodNamed Bd.named
  have hnm := (name_of_methodNamed Bd.named Bd.method).1
  have hlk := Bd.notSynchronized
  have hret := Bd.returns
  have X0 : Stand p l e ({ frames := 1, cells := 2, slots := 4, locals := 12 } : Room) s m #[(.ref a), (.ref u), (.ref src), (.int (Int32.ofNat off)), (.int (Int32.ofNat 0))] below meth c s₁ [] 0 0 := Stand.of_body Bd
  have e0 : s₁.heap = h0 := by rw [← hh, Bd.state]; rfl
  have N0 := Fr.nil n0
  have K0 := Keep.refl h0 [a]
  refine own_goH (S' := (s₁.setTop (mkF m 0 #[vr a, vr u, vr src, vi (Int32.ofNat off), vi (Int32.ofNat 0), .unset, .unset, .unset, .unset, .unset, .unset] []))) (fun tq kq => castTop rfl kq) ?_
  show own_GH p e s below Z own_EL (Q_dec0 Z h0 n0 a src off z u) _ _ _
  obtain ⟨SC, hz, SA, SH, SL⟩ := id HP
  have sf_a : own_Sf Z own_EL s.vm h0 a := ⟨own_safeNull hZ.alike Ea Fv, Ea.lt⟩
  obtain ⟨T101, X101, e101, st101⟩ := initO X0 hx hZ hown (ww hw 18 rfl) (ww hw 19 rfl) (ww hw 20 rfl) e0 (g := (mkF m 1 #[vr a, vr u, vr src, vi (Int32.ofNat off), vi (Int32.ofNat 0), .unset, .unset, .unset, .unset, .unset, .unset] [(.ref a)])) rfl (by rw [hml]; rfl) rfl (dd 97 rfl) (by decide) (W := 0) (by show 2 * 0 + _ ≤ _; exact Nat.le_of_eq rfl) (by decide)
  obtain ⟨la, T102, h102, k1102, lb, kb, X102, e102, E102, hS102, hk102, hZ, hown, A102, Fc102, Fv102, Av102, lta, ltb, hC102, Lt, hne, st102⟩ := ldcCH (s := s) (vm0 := s.vm) X101 hx hZ hown (ww hw 159 rfl) (own_sAt hw) e101 hS0 hk0 hEL (List.mem_of_getElem? (i := 1) rfl) C0.1 (vs := []) (z := 0) ⟨by decide, rfl⟩ (by decide) rfl (g := (mkF m 10 #[vr a, vr u, vr src, vi (Int32.ofNat off), vi (Int32.ofNat 0), .unset, .unset, .unset, .unset, .unset, .unset] [(.ref a)])) rfl (dd 135 rfl) (n := 0) (by decide) (by decide) (by decide) (by decide)
  have Vl102 := own_ofArv0 Av102
  have Xl102 : Exa Z h102 lb "[B" := own_bkExa hZ.alike Vl102 (Classical.byContradiction fun q => (hne lb q).2 rfl)
  have cr103 := hC102
  have Ccr103 := C0.trans cr103
  have sf104 := sf_a.go cr103
  have ne_a_la := (hne a sf104.1).1
  have ne_a_lb := (hne a sf104.1).2
  have K102 := K0.ext E102
  obtain ⟨T105, X105, e105, st105⟩ := getF X102 hx hZ hown (host := "") (Or.inl (ww hw 35 rfl)) Via.refl e102 Fv102 (g := (mkF m 12 #[vr a, vr u, vr src, vi (Int32.ofNat off), vi (Int32.ofNat 0), .unset, .unset, .unset, .unset, .unset, .unset] [(.ref la), (.ref a)])) rfl rfl (dd 136 rfl)
  have f106 := (Fv.ext E102)
  have f107 := (Ea.ext E102)
  obtain ⟨T108, h108, X108, e108, W108, st108⟩ := putF X105 hx hZ hown (host := "") (Or.inl (ww hw 35 rfl)) Via.refl e105 f106 f107 (Or.inr ⟨(ww hw 36 rfl), rfl, hnm⟩) (ww hw 9 rfl) (ty := (.array .byte)) (by decide) rfl rfl (g := (mkF m 15 #[vr a, vr u, vr src, vi (Int32.ofNat off), vi (Int32.ofNat 0), .unset, .unset, .unset, .unset, .unset, .unset] [(.ref lb), (.ref a)])) rfl rfl (dd 137 rfl)
  have N108 := Fr.snoc X108 N0 ga
  have K108 := K102.wr W108 (Or.inl (List.mem_of_getElem? (i := 0) rfl))
  have cr109 := CHr.wr W108 sf104.1 Ccr103.1
  have Ccr109 := Ccr103.trans cr109
  have sf110 := sf104.go cr109
  have F108 := f106.same W108
  have f111 := (Fc102.other W108 (Or.inl (Ne.symm ne_a_la)))
  obtain ⟨T112, X112, e112, st112⟩ := getF X108 hx hZ hown (host := "") (Or.inl (ww hw 33 rfl)) Via.refl e108 f111 (g := (mkF m 21 #[vr a, vr u, vr src, vi (Int32.ofNat off), vi (Int32.ofNat 0), .unset, .unset, .unset, .unset, .unset, .unset] [(.ref la), (.ref a)])) rfl rfl (dd 140 rfl)
  have f113 := ((Fc.ext E102).other W108 (Or.inr (slot_ne (Or.inr (ww hw 34 rfl)) (Or.inr (ww hw 36 rfl)) (by decide) (t := .byte) (t' := (.array .byte)) (by decide) (by decide))))
  have f114 := (f107.wr W108)
  obtain ⟨T115, h115, X115, e115, W115, st115⟩ := putFN X112 hx hZ hown (ww hw 33 rfl) Via.refl e112 f113 f114 (Or.inr ⟨(ww hw 34 rfl), rfl, hnm⟩) (ww hw 9 rfl) (ty := .byte) (v' := (.int 0)) (by decide) rfl rfl (g := (mkF m 24 #[vr a, vr u, vr src, vi (Int32.ofNat off), vi (Int32.ofNat 0), .unset, .unset, .unset, .unset, .unset, .unset] [(.int 0), (.ref a)])) rfl rfl (dd 141 rfl)
  have N115 := Fr.snoc X115 N108 ga
  have K115 := K108.wr W115 (Or.inl (List.mem_of_getElem? (i := 0) rfl))
  have cr116 := CHr.wr W115 sf110.1 Ccr109.1
  have Ccr116 := Ccr109.trans cr116
  have sf117 := sf110.go cr116
  have F115 := f113.same W115
  refine own_goH (S' := (T115.setTop (mkF m 879 #[vr a, vr u, vr src, vi (Int32.ofNat off), vi (Int32.ofNat 0), .unset, .unset, .unset, .unset, .unset, .unset] []))) (fun tq kq => XS.aloadN X0.here hx rfl (dd 96 rfl) rfl rfl (st101 tq (XS.iload X101.here hx rfl (dd 98 rfl) rfl (XS.ifNo X101.here hx rfl (dd 99 rfl) rfl ((if0 _ _).trans (teq rfl).2) (XS.aloadN X101.here hx rfl (dd 134 rfl) rfl rfl (st102 tq (st105 tq (st108 tq (XS.aloadN X108.here hx rfl (dd 138 rfl) rfl rfl (ldcAgain X108 hx hZ hown (ww hw 159 rfl) Lt (g := (mkF m 19 #[vr a, vr u, vr src, vi (Int32.ofNat off), vi (Int32.ofNat 0), .unset, .unset, .unset, .unset, .unset, .unset] [(.ref a)])) rfl (dd 139 rfl) tq (st112 tq (st115 tq (XS.goto X115.here hx rfl (pc0 := 27) (pc' := 879) rfl (dd 142 rfl) (by decide) (by decide) kq))))))))))))) ?_
  refine own_retVH X115 hS102 (by rw [e115]; exact (Nat.le_trans (Nat.le_trans hk102 (Nat.le_of_eq W108.size.symm)) (Nat.le_of_eq W115.size.symm))) hZ hEL hh (by rw [e115]; exact Ccr116) hx hlk hret (dd 95 rfl) (by decide) (by decide) ?_
  have f118 := (F108.other W115 (Or.inr (slot_ne (Or.inr (ww hw 36 rfl)) (Or.inr (ww hw 34 rfl)) (by decide) (t := (.array .byte)) (t' := .byte) (by decide) (by decide))))
  have f119 := ((Vl102.other W108 (Ne.symm ne_a_lb)).other W115 (Ne.symm ne_a_lb))
  have f120 := ((Xl102.wr W108).wr W115)
  rw [e115]
  exact ⟨rfl, N115, K115, lb, _, f118, F115, f119, f120⟩
theorem pn_rm21 : plainName "java/util/Objects" = true := by first | (simp [plainName, overriddenIn]; done) | decide +kernel
def Q_rm21 (Z : State) (h0 : Heap) (n0 : Nat) (x : Addr) (v : Option Value) (h : Heap) (L : List Loc) : Prop := v = some (.ref x) ∧ Fr n0 L ∧ h = h0
theorem rm21 (l : Launch) (Z : State) (a0 : Array Value) (hw : ∀ d ∈ tables_1, d.before a0 Z = true) (ws : List Jvm.Cond) (h0 : Heap) (n0 : Nat) (O0 : Old Z n0 h0) (x : Addr)  :
    MetFree l M44 (head1 (Jvm.Cond.code M44 jdk_31_method_10_code 1 (some (.object "java/lang/Object")) :: ws) ({ frames := 0, cells := 0, slots := 0, locals := 0 } : Room)) (fun aq U => aq = #[(.ref x)] ∧ Z.Warmed39 U.vm ∧ U.heap = h0) (fun _ _ _ _ _ => True) (fun _ U oo U' => ∃ v L, oo = .returned v ∧ Q_rm21 Z h0 n0 x v U'.heap L ∧ FrameEnd U oo U' L ({ frames := 0, cells := 0, slots := 0, locals := 0 } : Room).cells ({ frames := 0, cells := 0, slots := 0, locals := 0 } : Room).slots) := by
  refine MetFree.of_bodySF (plainFor_of_name pn_rm21) hisR ?_
  intro p e s m args below meth c s₁ Bd hml0 hP hK
  obtain ⟨rfl, hZ, hh⟩ := hP
  have hx := Bd.exec
  have hby := Bd.bytes
  have dd := @dq _ _ _ hby D21
  have hml : c.maxLocals = 1 := hml0
  have hown : s.vm.findClass "java/util/Objects" = some m.cls := findClass_of_methodNamed Bd.named
  have hnm := (name_of_methodNamed Bd.named Bd.method).1
  have hlk := Bd.notSynchronized
  have hret := Bd.returns
  have X0 : Stand p l e ({ frames := 0, cells := 0, slots := 0, locals := 0 } : Room) s m #[(.ref x)] below meth c s₁ [] 0 0 := Stand.of_body Bd
  have e0 : s₁.heap = h0 := by rw [← hh, Bd.state]; rfl
  have N0 := Fr.nil n0
  have K0 := Keep.refl h0 []
  refine own_go (S' := (s₁.setTop (mkF m 0 #[vr x] []))) (fun tq kq => castTop rfl kq) ?_
  show own_G p e s below (Q_rm21 Z h0 n0 x) _ _ _
  refine own_go (S' := (s₁.setTop (mkF m 13 #[vr x] [(.ref x)]))) (fun tq kq => XS.aloadN X0.here hx rfl (dd 0 rfl) rfl rfl (XS.ifnonnullYes X0.here hx rfl (pc0 := 1) (pc' := 12) rfl (dd 1 rfl) rfl (by decide) (by decide) (XS.aloadN X0.here hx rfl (dd 2 rfl) rfl rfl kq))) ?_
  refine own_retA X0 hx hlk hret rfl rfl (dd 3 rfl) (by decide) (by decide) ?_
  exact ⟨rfl, N0, e0⟩
def Q_rm20 (Z : State) (h0 : Heap) (n0 : Nat) (a : Addr) (src : Addr) (ks : ClassId) (vs : List Value) (off : Nat) (cs : List Nat) (n : Nat) (L0 : Nat) (z : Int32) (u : Addr) (fm : Value) (v : Option Value) (h : Heap) (L : List Loc) : Prop := v = none ∧ Fr n0 L ∧ Keep h0 h [a] ∧ ∃ (d : Addr) (kd : ClassId), Fld Z h a "java/lang/String" "value" "[B" (.ref d) ∧ Fld Z h a "java/lang/String" "coder" "B" (.int (own_cd cs)) ∧ own_Ar Z h d kd .byte (own_sv cs) ∧ Exa Z h d "[B"
theorem rm20 (l : Launch) (Z : State) (a0 : Array Value) (hw : ∀ d ∈ tables_1, d.before a0 Z = true) (ws : List Jvm.Cond) (h0 : Heap) (n0 : Nat) (O0 : Old Z n0 h0) (a : Addr) (src : Addr) (ks : ClassId) (vs : List Value) (off : Nat) (cs : List Nat) (n : Nat) (L0 : Nat) (z : Int32) (u : Addr) (fm : Value) (hEL : EW Z a0 own_EL) (HP : own_PK Z z) (HU : own_UK Z u) (HF : own_FK Z fm) (Ea : Exa Z h0 a "java/lang/String") (Fv : Fld Z h0 a "java/lang/String" "value" "[B" .null) (Fc : Fld Z h0 a "java/lang/String" "coder" "B" (.int 0)) (ga : n0 ≤ a) (Vs : own_Ar Z h0 src ks .byte vs) (hsrc : ∀ t, t < L0 → vs[off + t]? = some (.int (own_fb cs t))) (hL : L0 = (own_u8 cs).length) (hL4 : L0 ≤ 400) (hcs : cs.length = n) (hch : ∀ j, cs.getD j 0 < 32768) (ho0 : 0 < off) (hvl : vs.length ≤ 4096) (hol : off + L0 ≤ vs.length) (hfv : ∀ v ∈ vs, fits .byte v = true) (nas : src ≠ a) :
    MetFree l M13 (head1 (Jvm.Cond.code M13 jdk_42_method_10_code 5 none :: ws) ({ frames := 6, cells := 3, slots := 2000, locals := 112 } : Room)) (fun aq U => aq = #[(.ref a), (.ref src), (.int (Int32.ofNat off)), (.int (Int32.ofNat L0)), (.ref u)] ∧ Z.Warmed39 U.vm ∧ U.heap = h0 ∧ CHv Z own_EL U.vm h0) (fun _ _ _ _ _ => True) (fun _ U oo U' => ∃ v L, oo = .returned v ∧ Q_rm20 Z h0 n0 a src ks vs off cs n L0 z u fm v U'.heap L ∧ CHr Z own_EL U.vm U.heap U'.vm U'.heap ∧ ReturnedEndW U oo U' L ({ frames := 6, cells := 3, slots := 2000, locals := 112 } : Room).cells ({ frames := 6, cells := 3, slots := 2000, locals := 112 } : Room).slots) := by
  refine MetFree.of_bodySF (plainFor_of_name pn_rm4) hisR ?_
  intro p e s m args below meth c s₁ Bd hml0 hP hK
  obtain ⟨rfl, hZ, hh, hCH⟩ := hP
  have C0 := CHr.refl hCH
  have hS0 := own_since s s.heap.size
  have hk0 : s.heap.size ≤ h0.size := Nat.le_of_eq (congrArg Array.size hh)
  have hx := Bd.exec
  have hby := Bd.bytes
  have dd := @dq _ _ _ hby D20
  have hml : c.maxLocals = 5 := hml0
  have hown : s.vm.findClass "java/lang/String" = some m.cls := findClass_of_methodNamed Bd.named
  have hnm := (name_of_methodNamed Bd.named Bd.method).1
  have hlk := Bd.notSynchronized
  have hret := Bd.returns
  have X0 : Stand p l e ({ frames := 6, cells := 3, slots := 2000, locals := 112 } : Room) s m #[(.ref a), (.ref src), (.int (Int32.ofNat off)), (.int (Int32.ofNat L0)), (.ref u)] below meth c s₁ [] 0 0 := Stand.of_body Bd
  have e0 : s₁.heap = h0 := by rw [← hh, Bd.state]; rfl
  have N0 := Fr.nil n0
  have K0 := Keep.refl h0 [a]
  refine own_goH (S' := (s₁.setTop (mkF m 0 #[vr a, vr src, vi (Int32.ofNat off), vi (Int32.ofNat L0), vr u] []))) (fun tq kq => castTop rfl kq) ?_
  show own_GH p e s below Z own_EL (Q_rm20 Z h0 n0 a src ks vs off cs n L0 z u fm) _ _ _
  obtain ⟨SC, hz, SA, SH, SL⟩ := id HP
  obtain ⟨SI, SU, EU⟩ := id HU
  have sf_a : own_Sf Z own_EL s.vm h0 a := ⟨own_safeNull hZ.alike Ea Fv, Ea.lt⟩
  obtain ⟨_, _, ⟨T101, L101, k101, n101⟩, -, X101, ⟨Lc101, hQ101, l101, y101, z101⟩, st101⟩ := Jvm.LawKit.callS X0 hx (y := M44) hown (mvT hZ (ww hw 126 rfl)) (mvT hZ (ww hw 127 rfl)) (mvT hZ (ww hw 128 rfl)) (mvT hZ (ww hw 129 rfl)) (by decide) (backOf (W := 1) (rm21 l Z a0 hw [] h0 n0 O0 u) hZ (ww hw 129 rfl) (ww hw 128 rfl) (by decide) (by decide)) (g := (mkF m 3 #[vr a, vr src, vi (Int32.ofNat off), vi (Int32.ofNat L0), vr u] [(.ref u), (.ref a)])) rfl (by rw [hml]; rfl) (argsL := [(.ref u)]) (rest := [(.ref a)]) (lenOf pd_31 rfl) rfl (by show 2 * 0 + _ ≤ _; exact Nat.le_of_eq rfl) (dd 2 rfl) (fun _ _ => ⟨rfl, e0, (by decide : 0 + 0 ≤ _), (by decide : 0 + 0 ≤ _)⟩)
  dsimp only [Pt.U, Pt.locs, Pt.cells, Pt.slots] at X101 l101 y101 z101 st101 hQ101
  subst l101 y101 z101
  obtain ⟨rfl, N101, eh101⟩ := hQ101
  have Nf101 := Fr.app N0 N101
  obtain ⟨T102, X102, e102, st102⟩ := castY X101 hx hZ hown (ww hw 130 rfl) eh101 (Ins.of_exa (EU.ext O0.2) (ww hw 131 rfl)) (g := (mkF m 6 #[vr a, vr src, vi (Int32.ofNat off), vi (Int32.ofNat L0), vr u] [(.ref u), (.ref a)])) rfl rfl (dd 3 rfl)
  obtain ⟨cl103, Ar103, ln103⟩ := Vs.len
  have lq103 : cl103.slots.size.toInt32 = (Int32.ofNat (vs.length)) := ln103.trans rfl
  obtain ⟨_, _, ⟨T104, L104, k104, n104⟩, -, X104, ⟨Lc104, hQ104, l104, y104, z104⟩, st104⟩ := Jvm.LawKit.callS X102 hx (y := M22) hown (mvT hZ (ww hw 132 rfl)) (mvT hZ (ww hw 133 rfl)) (mvT hZ (ww hw 10 rfl)) (mvT hZ (ww hw 134 rfl)) (by decide) (backOf (W := 3) (rm22 l Z a0 hw [] h0 n0 O0 off L0 vs.length fm hol (by omega) HF) hZ (ww hw 134 rfl) (ww hw 10 rfl) (by decide) (by decide)) (g := (mkF m 14 #[vr a, vr src, vi (Int32.ofNat off), vi (Int32.ofNat L0), vr u] [(.int (Int32.ofNat (vs.length))), (.int (Int32.ofNat L0)), (.int (Int32.ofNat off)), (.ref src), (.ref u), (.ref a)])) rfl (by rw [hml]; rfl) (argsL := [(.int (Int32.ofNat off)), (.int (Int32.ofNat L0)), (.int (Int32.ofNat (vs.length)))]) (rest := [(.ref src), (.ref u), (.ref a)]) (lenOf pd_23 rfl) rfl (by show 2 * 0 + _ ≤ _; exact Nat.le_of_eq rfl) (dd 9 rfl) (fun _ _ => ⟨rfl, e102, (by decide : 0 + 0 ≤ _), (by decide : 0 + 0 ≤ _)⟩)
  dsimp only [Pt.U, Pt.locs, Pt.cells, Pt.slots] at X104 l104 y104 z104 st104 hQ104
  subst l104 y104 z104
  obtain ⟨rfl, N104, eh104⟩ := hQ104
  have Nf104 := Fr.app Nf101 N104
  refine own_goH (S' := (T104.setTop (mkF m 18 #[vr a, vr src, vi (Int32.ofNat off), vi (Int32.ofNat L0), vr u] [(.int (Int32.ofNat L0)), (.int (Int32.ofNat off)), (.ref src), (.ref u), (.ref a)]))) (fun tq kq => XS.aloadN X0.here hx rfl (dd 0 rfl) rfl rfl (XS.aload X0.here hx rfl (dd 1 rfl) rfl rfl (st101 tq (st102 tq (XS.aloadN X102.here hx rfl (dd 4 rfl) rfl rfl (XS.iloadN X102.here hx rfl (dd 5 rfl) rfl (XS.iloadN X102.here hx rfl (dd 6 rfl) rfl (XS.aloadN X102.here hx rfl (dd 7 rfl) rfl rfl (X102.arraylength hx (by rw [e102]; exact Ar103.1) (State.isArrayOf_alike hZ.alike Ar103.2.1) (g := (mkF m 13 #[vr a, vr src, vi (Int32.ofNat off), vi (Int32.ofNat L0), vr u] [(.ref src), (.int (Int32.ofNat L0)), (.int (Int32.ofNat off)), (.ref src), (.ref u), (.ref a)])) rfl rfl (dd 8 rfl) tq (by rw [lq103]; exact (st104 tq (XS.iloadN X104.here hx rfl (dd 10 rfl) rfl kq)))))))))))) ?_
  by_cases hc0 : cs = []
  · subst hc0
    have hL0 : L0 = 0 := hL
    subst hL0
    obtain ⟨_, _, ⟨T105, L105, k105, n105⟩, -, X105, hS105, hg105, ⟨Lc105, hQ105, l105, y105, z105, hC105⟩, st105⟩ := own_specialBackSX X104 hx (y := M9) rfl hown (mvT hZ (ww hw 140 rfl)) (mvT hZ (ww hw 141 rfl)) (mvT hZ (ww hw 142 rfl)) (by decide) (own_backSX (s := s) (vm0 := s.vm) (W := 0) (dec0 l Z a0 hw [] h0 n0 O0 a src off z u hEL HP Ea Fv Fc ga) hZ (ww hw 142 rfl) (ww hw 10 rfl) (by decide) (by decide) hEL C0.1) (g := (mkF m 18 #[vr a, vr src, vi (Int32.ofNat off), vi (Int32.ofNat 0), vr u] [(.int (Int32.ofNat 0)), (.int (Int32.ofNat off)), (.ref src), (.ref u), (.ref a)])) rfl (by rw [hml]; rfl) (Steps.refl _) (a := a) (argsL := [(.ref u), (.ref src), (.int (Int32.ofNat off)), (.int (Int32.ofNat 0))]) (rest := []) (lenOf pd_32 rfl) rfl (by show 2 * 0 + _ ≤ _; exact Nat.le_of_eq rfl) (dd 11 rfl) (fun _ _ => ⟨rfl, eh104, (by decide : 0 + 2 ≤ _), (by decide : 0 + 4 ≤ _)⟩)
    dsimp only [Pt.U, Pt.locs, Pt.cells, Pt.slots] at hS105 hg105 hC105
    have hSn105 : s.Since T105.vm T105.heap.size := hS0.trans hS105 (Nat.le_trans (by rw [eh104]; exact hk0) hg105)
    have hZ : Z.Warmed39 (s.setVm T105.vm).vm := State.Warmed39.trans (t := s) hZ hS105.1
    have hown : (s.setVm T105.vm).vm.findClass "java/lang/String" = some m.cls := by rw [show (s.setVm T105.vm).vm = T105.vm from rfl, hS105.1.alike.findClass]; exact hown
    have cr106 := hC105
    have Ccr106 := C0.trans cr106
    have sf107 := sf_a.go cr106
    dsimp only [Pt.U, Pt.locs, Pt.cells, Pt.slots] at X105 l105 y105 z105 st105 hQ105
    subst l105 y105 z105
    have X105 : Stand p l e _ (s.setVm T105.vm) m _ below meth c T105 _ _ _ := X105
    obtain ⟨rfl, N105, K105, d105, kd105, Fv105, Fc105, Vd105, Xd105⟩ := hQ105
    have Nf105 := Fr.app Nf104 N105
    have KK105 := K0.trans K105 (allS (Or.inl (List.mem_of_getElem? (i := 0) rfl)) all0)
    refine own_goH (S' := (T105.setTop (mkF m 21 #[vr a, vr src, vi (Int32.ofNat off), vi (Int32.ofNat 0), vr u] []))) (fun tq kq => st105.trans kq) ?_
    refine own_retVH X105 hSn105 (Nat.le_refl _) hZ hEL hh Ccr106 hx hlk hret (dd 12 rfl) (by decide) (by decide) ?_
    exact ⟨rfl, Nf105, KK105, d105, _, Fv105, Fc105, Vd105, Xd105⟩
  · obtain ⟨_, _, ⟨T108, L108, k108, n108⟩, -, X108, ⟨Lc108, hQ108, l108, y108, z108⟩, st108⟩ := X104.specialBackH hx (y := M9) rfl hown (mvT hZ (ww hw 140 rfl)) (mvT hZ (ww hw 141 rfl)) (mvT hZ (ww hw 142 rfl)) (by decide) (backOfWith (W := 0) (rm24 l Z a0 hw [] h0 n0 O0 a src ks vs off cs n L0 z u fm HP HU HF Ea Fv Fc ga Vs hsrc hL hL4 hcs hch (by rw [← hcs]; exact List.length_pos_iff.mpr hc0) ho0 hvl hol hfv nas) hZ (ww hw 142 rfl) (ww hw 10 rfl) (by decide) (by decide)) (g := (mkF m 18 #[vr a, vr src, vi (Int32.ofNat off), vi (Int32.ofNat L0), vr u] [(.int (Int32.ofNat L0)), (.int (Int32.ofNat off)), (.ref src), (.ref u), (.ref a)])) rfl (by rw [hml]; rfl) (Steps.refl _) (a := a) (argsL := [(.ref u), (.ref src), (.int (Int32.ofNat off)), (.int (Int32.ofNat L0))]) (rest := []) (lenOf pd_32 rfl) rfl (by show 2 * 0 + _ ≤ _; exact Nat.le_of_eq rfl) (dd 11 rfl) (fun _ _ => ⟨rfl, eh104, (by decide : 0 + 3 ≤ _), (by decide : 0 + 2000 ≤ _)⟩)
    dsimp only [Pt.U, Pt.locs, Pt.cells, Pt.slots] at X108 l108 y108 z108 st108 hQ108
    subst l108 y108 z108
    obtain ⟨rfl, N108, K108, d108, kd108, -, Fv108, Fc108, Vd108, Xd108⟩ := hQ108
    have Nf108 := Fr.app Nf104 N108
    have KK108 := K0.trans K108 (allS (Or.inl (List.mem_of_getElem? (i := 0) rfl)) all0)
    have cr109 := CHr.keep K108 (sfS sf_a.1 sf0) C0.1
    have Ccr109 := C0.trans cr109
    have sf110 := sf_a.go cr109
    refine own_goH (S' := (T108.setTop (mkF m 21 #[vr a, vr src, vi (Int32.ofNat off), vi (Int32.ofNat L0), vr u] []))) (fun tq kq => st108.trans kq) ?_
    refine own_retVH X108 hS0 (Nat.le_trans hk0 K108.1) hZ hEL hh Ccr109 hx hlk hret (dd 12 rfl) (by decide) (by decide) ?_
    exact ⟨rfl, Nf108, KK108, d108, _, Fv108, Fc108, Vd108, Xd108⟩
theorem loop30 {p : Program} {l : Launch} {e : Env} {s : State} {m : MethodId} {args : Array Value} {below : List Frame} {meth : Method} {c : Code} {Z : State} {a0 : Array Value} {h0 : Heap} {n0 : Nat} (hlk : meth.locks = false) (hret : meth.sig.returnType = some .boolean) (hx : p.tables.exec = Jvm.exec) (hZ : Z.Warmed39 s.vm) (hw : ∀ d ∈ tables_1, d.before a0 Z = true) (hby : c.code = jdk_43_method_13_code) (hml : c.maxLocals = 3) (hown : s.vm.findClass "java/lang/StringLatin1" = some m.cls) (hnm : meth.name = "equals") (a : Addr) (ka : ClassId) (b : Addr) (kb : ClassId) (vs : List Value) (hv : ∀ j, j < vs.length → ∃ x, vs[j]? = some (.int x)) (hvl : vs.length < 2 ^ 30) :
    ∀ (kt : Nat) (i : Nat), i + kt = vs.length → ∀ {Tp : State} {locs : List Loc} {hp : Heap} (Xp : Stand p l e ({ frames := 0, cells := 0, slots := 0, locals := 0 } : Room) s m args below meth c Tp locs 0 0) (ep : Tp.heap = hp) (Np : Fr n0 locs) (Op : Old Z n0 hp) (Kp : Keep h0 hp []) (Va : own_Ar Z hp a ka .byte vs) (Vb : own_Ar Z hp b kb .byte vs) (hhp : hp = h0), own_G p e s below (fun v h L => v = some (.int 1) ∧ Fr n0 L ∧ h = h0) ({ frames := 0, cells := 0, slots := 0, locals := 0 } : Room).cells ({ frames := 0, cells := 0, slots := 0, locals := 0 } : Room).slots (Tp.setTop (mkF m 9 #[vr a, vr b, vi (Int32.ofNat i)] [])) := by
  have dd := @dq _ _ _ hby D30
  intro kt
  induction kt with
  | zero =>
    intro i  hi Tp locs hp Xp ep Np Op Kp Va Vb hhp
    obtain ⟨cl101, Ar101, ln101⟩ := Va.len
    have lq101 : cl101.slots.size.toInt32 = (Int32.ofNat (vs.length)) := ln101.trans rfl
    refine own_go (S' := (Tp.setTop (mkF m 33 #[vr a, vr b, vi (Int32.ofNat i)] [(.int 1)]))) (fun tq kq => XS.iloadN Xp.here hx rfl (dd 0 rfl) rfl (XS.aloadN Xp.here hx rfl (dd 1 rfl) rfl rfl (Xp.arraylength hx (by rw [ep]; exact Ar101.1) (State.isArrayOf_alike hZ.alike Ar101.2.1) (g := (mkF m 11 #[vr a, vr b, vi (Int32.ofNat i)] [(.ref a), (.int (Int32.ofNat i))])) rfl rfl (dd 2 rfl) tq (by rw [lq101]; exact (XS.icmpYes Xp.here hx rfl (pc0 := 12) (pc' := 32) rfl (dd 3 rfl) rfl (flt (fun q => absurd ((own_lt (by omega) (by omega)).mp q) (by omega))).2.1 (by decide) (by decide) (XS.iconst Xp.here hx rfl (dd 4 rfl) kq)))))) ?_
    refine own_retN Xp hx hlk hret (by simp) (dd 5 rfl) (by decide) (by decide) ?_
    exact ⟨rfl, Np, ep.trans hhp⟩
  | succ kt ih =>
    intro i  hi Tp locs hp Xp ep Np Op Kp Va Vb hhp
    obtain ⟨x, hx0⟩ := hv i (by omega)
    obtain ⟨cl101, Ar101, ln101⟩ := Va.len
    have lq101 : cl101.slots.size.toInt32 = (Int32.ofNat (vs.length)) := ln101.trans rfl
    obtain ⟨cl102, Ar102, -, -, hin102, hat102⟩ := Va.at (j := (Int32.ofNat i)) (v := (.int x)) (own_pos (by omega)) (by rw [own_clamp (by omega)]; exact hx0)
    obtain ⟨cl103, Ar103, -, -, hin103, hat103⟩ := Vb.at (j := (Int32.ofNat i)) (v := (.int x)) (own_pos (by omega)) (by rw [own_clamp (by omega)]; exact hx0)
    refine own_go (S' := (Tp.setTop (mkF m 9 #[vr a, vr b, vi ((Int32.ofNat i) + (1 : Int32))] []))) (fun tq kq => XS.iloadN Xp.here hx rfl (dd 0 rfl) rfl (XS.aloadN Xp.here hx rfl (dd 1 rfl) rfl rfl (Xp.arraylength hx (by rw [ep]; exact Ar101.1) (State.isArrayOf_alike hZ.alike Ar101.2.1) (g := (mkF m 11 #[vr a, vr b, vi (Int32.ofNat i)] [(.ref a), (.int (Int32.ofNat i))])) rfl rfl (dd 2 rfl) tq (by rw [lq101]; exact (XS.icmpNo Xp.here hx rfl (dd 3 rfl) rfl (tlt ((own_lt (by omega) (by omega)).mpr (by omega))).2.1 (XS.aloadN Xp.here hx rfl (dd 6 rfl) rfl rfl (XS.iloadN Xp.here hx rfl (dd 7 rfl) rfl (Xp.baloadBytes hx (j := (Int32.ofNat i)) (v := (.int x)) (by rw [ep]; exact Ar102.1) (State.isArrayOf_alike hZ.alike Ar102.2.1) Ar102.2.2 hin102 hat102 (g := (mkF m 17 #[vr a, vr b, vi (Int32.ofNat i)] [(.int (Int32.ofNat i)), (.ref a)])) rfl rfl (dd 8 rfl) tq (XS.aloadN Xp.here hx rfl (dd 9 rfl) rfl rfl (XS.iloadN Xp.here hx rfl (dd 10 rfl) rfl (Xp.baloadBytes hx (j := (Int32.ofNat i)) (v := (.int x)) (by rw [ep]; exact Ar103.1) (State.isArrayOf_alike hZ.alike Ar103.2.1) Ar103.2.2 hin103 hat103 (g := (mkF m 20 #[vr a, vr b, vi (Int32.ofNat i)] [(.int (Int32.ofNat i)), (.ref b), (.int x)])) rfl rfl (dd 11 rfl) tq (XS.icmpYes Xp.here hx rfl (pc0 := 21) (pc' := 26) rfl (dd 12 rfl) rfl (teq (rfl : x = x)).1 (by decide) (by decide) (XS.iinc Xp.here hx rfl (dd 13 rfl) rfl (l' := #[vr a, vr b, vi ((Int32.ofNat i) + (1 : Int32))]) rfl (XS.goto Xp.here hx rfl (pc0 := 29) (pc' := 9) rfl (dd 14 rfl) (by decide) (by decide) kq)))))))))))))) ?_
    rw [own_succ i]
    exact ih (i + 1) (by omega) Xp ep Np Op Kp Va Vb hhp
def Q_rm30 (Z : State) (h0 : Heap) (n0 : Nat) (a : Addr) (ka : ClassId) (b : Addr) (kb : ClassId) (vs : List Value) (v : Option Value) (h : Heap) (L : List Loc) : Prop := v = some (.int 1) ∧ Fr n0 L ∧ h = h0
theorem rm30 (l : Launch) (Z : State) (a0 : Array Value) (hw : ∀ d ∈ tables_1, d.before a0 Z = true) (ws : List Jvm.Cond) (h0 : Heap) (n0 : Nat) (O0 : Old Z n0 h0) (a : Addr) (ka : ClassId) (b : Addr) (kb : ClassId) (vs : List Value) (Va : own_Ar Z h0 a ka .byte vs) (Vb : own_Ar Z h0 b kb .byte vs) (hv : ∀ j, j < vs.length → ∃ x, vs[j]? = some (.int x)) (hvl : vs.length < 2 ^ 30) :
    MetFree l M45 (head1 (Jvm.Cond.code M45 jdk_43_method_13_code 3 (some .boolean) :: ws) ({ frames := 0, cells := 0, slots := 0, locals := 0 } : Room)) (fun aq U => aq = #[(.ref a), (.ref b)] ∧ Z.Warmed39 U.vm ∧ U.heap = h0) (fun _ _ _ _ _ => True) (fun _ U oo U' => ∃ v L, oo = .returned v ∧ Q_rm30 Z h0 n0 a ka b kb vs v U'.heap L ∧ FrameEnd U oo U' L ({ frames := 0, cells := 0, slots := 0, locals := 0 } : Room).cells ({ frames := 0, cells := 0, slots := 0, locals := 0 } : Room).slots) := by
  refine MetFree.of_bodySF (plainFor_of_name pn_rm40) hisR ?_
  intro p e s m args below meth c s₁ Bd hml0 hP hK
  obtain ⟨rfl, hZ, hh⟩ := hP
  have hx := Bd.exec
  have hby := Bd.bytes
  have dd := @dq _ _ _ hby D30
  have hml : c.maxLocals = 3 := hml0
  have hown : s.vm.findClass "java/lang/StringLatin1" = some m.cls := findClass_of_methodNamed Bd.named
  have hnm := (name_of_methodNamed Bd.named Bd.method).1
  have hlk := Bd.notSynchronized
  have hret := Bd.returns
  have X0 : Stand p l e ({ frames := 0, cells := 0, slots := 0, locals := 0 } : Room) s m #[(.ref a), (.ref b)] below meth c s₁ [] 0 0 := Stand.of_body Bd
  have e0 : s₁.heap = h0 := by rw [← hh, Bd.state]; rfl
  have N0 := Fr.nil n0
  have K0 := Keep.refl h0 []
  refine own_go (S' := (s₁.setTop (mkF m 0 #[vr a, vr b, .unset] []))) (fun tq kq => castTop rfl kq) ?_
  show own_G p e s below (Q_rm30 Z h0 n0 a ka b kb vs) _ _ _
  obtain ⟨cl101, Ar101, ln101⟩ := Va.len
  have lq101 : cl101.slots.size.toInt32 = (Int32.ofNat (vs.length)) := ln101.trans rfl
  obtain ⟨cl102, Ar102, ln102⟩ := Vb.len
  have lq102 : cl102.slots.size.toInt32 = (Int32.ofNat (vs.length)) := ln102.trans rfl
  refine own_go (S' := (s₁.setTop (mkF m 9 #[vr a, vr b, vi 0] []))) (fun tq kq => XS.aloadN X0.here hx rfl (dd 15 rfl) rfl rfl (X0.arraylength hx (by rw [e0]; exact Ar101.1) (State.isArrayOf_alike hZ.alike Ar101.2.1) (g := (mkF m 1 #[vr a, vr b, .unset] [(.ref a)])) rfl rfl (dd 16 rfl) tq (by rw [lq101]; exact (XS.aloadN X0.here hx rfl (dd 17 rfl) rfl rfl (X0.arraylength hx (by rw [e0]; exact Ar102.1) (State.isArrayOf_alike hZ.alike Ar102.2.1) (g := (mkF m 3 #[vr a, vr b, .unset] [(.ref b), (.int (Int32.ofNat (vs.length)))])) rfl rfl (dd 18 rfl) tq (by rw [lq102]; exact (XS.icmpNo X0.here hx rfl (dd 19 rfl) rfl (teq (rfl : (Int32.ofNat (vs.length)) = (Int32.ofNat (vs.length)))).2 (XS.iconst X0.here hx rfl (dd 20 rfl) (XS.istoreN X0.here hx rfl (dd 21 rfl) rfl (l' := #[vr a, vr b, vi 0]) rfl kq))))))))) ?_
  exact loop30 hlk hret hx hZ hw hby hml hown hnm a ka b kb vs hv hvl (vs.length) (0)  (by omega) X0 e0 N0 O0 K0 Va Vb rfl
def Q_rm29 (Z : State) (h0 : Heap) (n0 : Nat) (a : Addr) (b : Addr) (na : Nat) (nb' : Nat) (cs : List Nat) (z : Int32) (v : Option Value) (h : Heap) (L : List Loc) : Prop := v = some (.int 1) ∧ Fr n0 L ∧ h = h0
theorem rm29 (l : Launch) (Z : State) (a0 : Array Value) (hw : ∀ d ∈ tables_1, d.before a0 Z = true) (ws : List Jvm.Cond) (h0 : Heap) (n0 : Nat) (O0 : Old Z n0 h0) (a : Addr) (b : Addr) (na : Nat) (nb' : Nat) (cs : List Nat) (z : Int32) (HP : own_PK Z z) (Sa : own_Str Z h0 na a cs) (Sb : own_Str Z h0 nb' b cs) (hcl : cs.length ≤ 130) :
    MetFree l M0 (head1 (Jvm.Cond.code M0 jdk_42_method_66_code 3 (some .boolean) :: ws) ({ frames := 1, cells := 0, slots := 0, locals := 14 } : Room)) (fun aq U => aq = #[(.ref a), (.ref b)] ∧ Z.Warmed39 U.vm ∧ U.heap = h0) (fun _ _ _ _ _ => True) (fun _ U oo U' => ∃ v L, oo = .returned v ∧ Q_rm29 Z h0 n0 a b na nb' cs z v U'.heap L ∧ FrameEnd U oo U' L ({ frames := 1, cells := 0, slots := 0, locals := 14 } : Room).cells ({ frames := 1, cells := 0, slots := 0, locals := 14 } : Room).slots) := by
  refine MetFree.of_bodySF (plainFor_of_name pn_rm4) hisR ?_
  intro p e s m args below meth c s₁ Bd hml0 hP hK
  obtain ⟨rfl, hZ, hh⟩ := hP
  have hx := Bd.exec
  have hby := Bd.bytes
  have dd := @dq _ _ _ hby D29
  have hml : c.maxLocals = 3 := hml0
  have hown : s.vm.findClass "java/lang/String" = some m.cls := findClass_of_methodNamed Bd.named
  have hnm := (name_of_methodNamed Bd.named Bd.method).1
  have hlk := Bd.notSynchronized
  have hret := Bd.returns
  have X0 : Stand p l e ({ frames := 1, cells := 0, slots := 0, locals := 14 } : Room) s m #[(.ref a), (.ref b)] below meth c s₁ [] 0 0 := Stand.of_body Bd
  have e0 : s₁.heap = h0 := by rw [← hh, Bd.state]; rfl
  have N0 := Fr.nil n0
  have K0 := Keep.refl h0 []
  refine own_go (S' := (s₁.setTop (mkF m 0 #[vr a, vr b, .unset] []))) (fun tq kq => castTop rfl kq) ?_
  show own_G p e s below (Q_rm29 Z h0 n0 a b na nb' cs z) _ _ _
  obtain ⟨SC, hz, SA, SH, SL⟩ := id HP
  obtain ⟨qn1, qa1, Ea1, Fc1, d1, kd1, qd1, Fv1, Vd1, Xd1⟩ := Sa
  obtain ⟨qn2, qa2, Ea2, Fc2, d2, kd2, qd2, Fv2, Vd2, Xd2⟩ := Sb
  refine own_go (S' := (s₁.setTop (mkF m 2 #[vr a, vr b, .unset] [(.ref b), (.ref a)]))) (fun tq kq => XS.aloadN X0.here hx rfl (dd 0 rfl) rfl rfl (XS.aloadN X0.here hx rfl (dd 1 rfl) rfl rfl kq)) ?_
  by_cases hc101 : a = b
  · refine own_go (S' := (s₁.setTop (mkF m 6 #[vr a, vr b, .unset] [(.int 1)]))) (fun tq kq => Jvm.RoadKit.acmp (g := (mkF m 2 #[vr a, vr b, .unset] [(.ref b), (.ref a)])) X0 hx rfl rfl rfl (pc0 := 2) (pc' := 5) (same := true) rfl (dd 2 rfl) rfl (decide_eq_true (congrArg Value.ref hc101)) (by decide) (by decide) (XS.iconst X0.here hx rfl (dd 3 rfl) kq)) ?_
    refine own_retN X0 hx hlk hret (by simp) (dd 4 rfl) (by decide) (by decide) ?_
    exact ⟨rfl, N0, e0⟩
  · obtain ⟨T102, X102, e102, st102⟩ := instY X0 hx hZ hown (ww hw 165 rfl) e0 (Ins.self Ea2) (g := (mkF m 8 #[vr a, vr b, .unset] [(.ref b)])) rfl rfl (dd 6 rfl)
    obtain ⟨T103, X103, e103, st103⟩ := castY X102 hx hZ hown (ww hw 165 rfl) e102 (Ins.self Ea2) (g := (mkF m 15 #[vr a, vr b, .unset] [(.ref b)])) rfl rfl (dd 9 rfl)
    obtain ⟨T104, X104, e104, st104⟩ := getS2 X103 hx hZ hown (host := "") (Or.inl (ww hw 21 rfl)) Via.refl e103 (SC.ext O0.2) (g := (mkF m 19 #[vr a, vr b, vr b] [])) rfl (dd 11 rfl)
    obtain ⟨T105, X105, e105, st105⟩ := getF X104 hx hZ hown (host := "") (Or.inl (ww hw 33 rfl)) Via.refl e104 Fc1 (g := (mkF m 26 #[vr a, vr b, vr b] [(.ref a)])) rfl rfl (dd 14 rfl)
    obtain ⟨T106, X106, e106, st106⟩ := getF X105 hx hZ hown (host := "") (Or.inl (ww hw 33 rfl)) Via.refl e105 Fc2 (g := (mkF m 30 #[vr a, vr b, vr b] [(.ref b), (.int (own_cd cs))])) rfl rfl (dd 16 rfl)
    obtain ⟨T107, X107, e107, st107⟩ := getF X106 hx hZ hown (host := "") (Or.inl (ww hw 35 rfl)) Via.refl e106 Fv1 (g := (mkF m 37 #[vr a, vr b, vr b] [(.ref a)])) rfl rfl (dd 19 rfl)
    obtain ⟨T108, X108, e108, st108⟩ := getF X107 hx hZ hown (host := "") (Or.inl (ww hw 35 rfl)) Via.refl e107 Fv2 (g := (mkF m 41 #[vr a, vr b, vr b] [(.ref b), (.ref d1)])) rfl rfl (dd 21 rfl)
    obtain ⟨_, _, ⟨T109, L109, k109, n109⟩, -, X109, ⟨Lc109, hQ109, l109, y109, z109⟩, st109⟩ := Jvm.LawKit.callS X108 hx (y := M45) hown (mvT hZ (ww hw 166 rfl)) (mvT hZ (ww hw 167 rfl)) (mvT hZ (ww hw 168 rfl)) (mvT hZ (ww hw 169 rfl)) (by decide) (backOf (W := 0) (rm30 l Z a0 hw [] h0 n0 O0 d1 kd1 d2 kd2 (own_sv cs) Vd1 Vd2 (own_svint cs) (by rw [own_svlen]; split <;> omega)) hZ (ww hw 169 rfl) (ww hw 168 rfl) (by decide) (by decide)) (g := (mkF m 44 #[vr a, vr b, vr b] [(.ref d2), (.ref d1)])) rfl (by rw [hml]; rfl) (argsL := [(.ref d1), (.ref d2)]) (rest := []) (lenOf pd_33 rfl) rfl (by show 2 * 0 + _ ≤ _; exact Nat.le_of_eq rfl) (dd 22 rfl) (fun _ _ => ⟨rfl, e108, (by decide : 0 + 0 ≤ _), (by decide : 0 + 0 ≤ _)⟩)
    dsimp only [Pt.U, Pt.locs, Pt.cells, Pt.slots] at X109 l109 y109 z109 st109 hQ109
    subst l109 y109 z109
    obtain ⟨rfl, N109, eh109⟩ := hQ109
    have Nf109 := Fr.app N0 N109
    refine own_go (S' := (T109.setTop (mkF m 55 #[vr a, vr b, vr b] [(.int 1)]))) (fun tq kq => Jvm.RoadKit.acmp (g := (mkF m 2 #[vr a, vr b, .unset] [(.ref b), (.ref a)])) X0 hx rfl rfl rfl (pc0 := 2) (pc' := 7) (same := false) rfl (dd 2 rfl) rfl (decide_eq_false fun q => hc101 (Value.ref.inj q)) (by decide) (by decide) (XS.aloadN X0.here hx rfl (dd 5 rfl) rfl rfl (st102 tq (XS.ifNo X102.here hx rfl (dd 7 rfl) rfl ((if0 _ _).trans (feq (by decide : ¬ ((1 : Int32) = (0 : Int32)))).1) (XS.aloadN X102.here hx rfl (dd 8 rfl) rfl rfl (st103 tq (XS.astoreN X103.here hx rfl (dd 10 rfl) rfl rfl (l' := #[vr a, vr b, vr b]) rfl (st104 tq (XS.ifNo X104.here hx rfl (dd 12 rfl) rfl ((if0 _ _).trans (feq hz).1) (XS.aloadN X104.here hx rfl (dd 13 rfl) rfl rfl (st105 tq (XS.aloadN X105.here hx rfl (dd 15 rfl) rfl rfl (st106 tq (XS.icmpNo X106.here hx rfl (dd 17 rfl) rfl (teq (rfl : (own_cd cs) = (own_cd cs))).2 (XS.aloadN X106.here hx rfl (dd 18 rfl) rfl rfl (st107 tq (XS.aloadN X107.here hx rfl (dd 20 rfl) rfl rfl (st108 tq (st109 tq (XS.ifNo X109.here hx rfl (dd 23 rfl) rfl ((if0 _ _).trans (feq (by decide : ¬ ((1 : Int32) = (0 : Int32)))).1) (XS.iconst X109.here hx rfl (dd 24 rfl) (XS.goto X109.here hx rfl (pc0 := 51) (pc' := 55) rfl (dd 25 rfl) (by decide) (by decide) kq)))))))))))))))))))))) ?_
    refine own_retN X109 hx hlk hret (by simp) (dd 26 rfl) (by decide) (by decide) ?_
    exact ⟨rfl, Nf109, eh109⟩
theorem pn_rm2 : plainName "com/example/vestwright/vestwright/cli/TableRowsCellsPinLaw" = true := by first | (simp [plainName, overriddenIn]; done) | decide +kernel
def Q_rm2 (Z : State) (h0 : Heap) (n0 : Nat) (x : Int32) (v : Option Value) (h : Heap) (L : List Loc) : Prop := ∃ n : Nat, n < 32768 ∧ v = some (.int (Int32.ofNat n)) ∧ Fr n0 L ∧ h = h0
theorem rm2 (l : Launch) (Z : State) (a0 : Array Value) (hw : ∀ d ∈ tables_1, d.before a0 Z = true) (ws : List Jvm.Cond) (h0 : Heap) (n0 : Nat) (O0 : Old Z n0 h0) (x : Int32)  :
    MetFree l M25 (head1 (Jvm.Cond.code M25 method_2_code 1 (some .char) :: ws) ({ frames := 0, cells := 0, slots := 0, locals := 0 } : Room)) (fun aq U => aq = #[(.int x)] ∧ Z.Warmed39 U.vm ∧ U.heap = h0) (fun _ _ _ _ _ => True) (fun _ U oo U' => ∃ v L, oo = .returned v ∧ Q_rm2 Z h0 n0 x v U'.heap L ∧ FrameEnd U oo U' L ({ frames := 0, cells := 0, slots := 0, locals := 0 } : Room).cells ({ frames := 0, cells := 0, slots := 0, locals := 0 } : Room).slots) := by
  refine MetFree.of_bodySF (plainFor_of_name pn_rm2) hisR ?_
  intro p e s m args below meth c s₁ Bd hml0 hP hK
  obtain ⟨rfl, hZ, hh⟩ := hP
  have hx := Bd.exec
  have hby := Bd.bytes
  have dd := @dq _ _ _ hby D2
  have hml : c.maxLocals = 1 := hml0
  have hown : s.vm.findClass "com/example/vestwright/vestwright/cli/TableRowsCellsPinLaw" = some m.cls := findClass_of_methodNamed Bd.named
  have hnm := (name_of_methodNamed Bd.named Bd.method).1
  have hlk := Bd.notSynchronized
  have hret := Bd.returns
  have X0 : Stand p l e ({ frames := 0, cells := 0, slots := 0, locals := 0 } : Room) s m #[(.int x)] below meth c s₁ [] 0 0 := Stand.of_body Bd
  have e0 : s₁.heap = h0 := by rw [← hh, Bd.state]; rfl
  have N0 := Fr.nil n0
  have K0 := Keep.refl h0 []
  refine own_go (S' := (s₁.setTop (mkF m 0 #[vi x] []))) (fun tq kq => castTop rfl kq) ?_
  show own_G p e s below (Q_rm2 Z h0 n0 x) _ _ _
  refine own_go (S' := (s₁.setTop (mkF m 6 #[vi x] [(.int ((x &&& (32767 : Int32)).toUInt32.toUInt16.toUInt32.toInt32))]))) (fun tq kq => XS.iloadN X0.here hx rfl (dd 0 rfl) rfl (XS.sipush X0.here hx rfl (dd 1 rfl) (XS.iand X0.here hx rfl (dd 2 rfl) rfl (XS.i2c X0.here hx rfl (dd 3 rfl) rfl kq)))) ?_
  refine own_retN X0 hx hlk hret (by simp) (dd 4 rfl) (by decide) (by decide) ?_
  obtain ⟨n, hn, en⟩ := own_chE x
  exact ⟨n, hn, by rw [en], N0, e0⟩
def Q_rm1 (Z : State) (h0 : Heap) (n0 : Nat) (sel : Int32) (x : Int32) (z : Int32) (v : Option Value) (h : Heap) (L : List Loc) : Prop := ∃ (b : Addr) (cs : List Nat), v = some (.ref b) ∧ Fr n0 L ∧ Keep h0 h [] ∧ own_Str Z h h.size b cs ∧ cs.length ≤ 130 ∧ ∀ j, cs.getD j 0 < 32768
theorem rm1 (l : Launch) (Z : State) (a0 : Array Value) (hw : ∀ d ∈ tables_1, d.before a0 Z = true) (ws : List Jvm.Cond) (h0 : Heap) (n0 : Nat) (O0 : Old Z n0 h0) (sel : Int32) (x : Int32) (z : Int32) (hEL : EW Z a0 own_EL) (HP : own_PK Z z) :
    MetFree l M10 (head1 (Jvm.Cond.code M10 method_3_code 6 (some (.object "java/lang/String")) :: ws) ({ frames := 6, cells := 4, slots := 1334, locals := 124 } : Room)) (fun aq U => aq = #[(.int sel), (.int x)] ∧ Z.Warmed39 U.vm ∧ U.heap = h0 ∧ CHv Z own_EL U.vm h0) (fun _ _ _ _ _ => True) (fun _ U oo U' => ∃ v L, oo = .returned v ∧ Q_rm1 Z h0 n0 sel x z v U'.heap L ∧ CHr Z own_EL U.vm U.heap U'.vm U'.heap ∧ ReturnedEndW U oo U' L ({ frames := 6, cells := 4, slots := 1334, locals := 124 } : Room).cells ({ frames := 6, cells := 4, slots := 1334, locals := 124 } : Room).slots) := by
  refine MetFree.of_bodySF (plainFor_of_name pn_rm2) hisR ?_
  intro p e s m args below meth c s₁ Bd hml0 hP hK
  obtain ⟨rfl, hZ, hh, hCH⟩ := hP
  have C0 := CHr.refl hCH
  have hS0 := own_since s s.heap.size
  have hk0 : s.heap.size ≤ h0.size := Nat.le_of_eq (congrArg Array.size hh)
  have hx := Bd.exec
  have hby := Bd.bytes
  have dd := @dq _ _ _ hby D1
  have hml : c.maxLocals = 6 := hml0
  have hown : s.vm.findClass "com/example/vestwright/vestwright/cli/TableRowsCellsPinLaw" = some m.cls := findClass_of_methodNamed Bd.named
  have hnm := (name_of_methodNamed Bd.named Bd.method).1
  have hlk := Bd.notSynchronized
  have hret := Bd.returns
  have X0 : Stand p l e ({ frames := 6, cells := 4, slots := 1334, locals := 124 } : Room) s m #[(.int sel), (.int x)] below meth c s₁ [] 0 0 := Stand.of_body Bd
  have e0 : s₁.heap = h0 := by rw [← hh, Bd.state]; rfl
  have N0 := Fr.nil n0
  have K0 := Keep.refl h0 []
  refine own_goH (S' := (s₁.setTop (mkF m 0 #[vi sel, vi x, .unset, .unset, .unset, .unset] []))) (fun tq kq => castTop rfl kq) ?_
  show own_GH p e s below Z own_EL (Q_rm1 Z h0 n0 sel x z) _ _ _
  obtain ⟨SC, hz, SA, SH, SL⟩ := id HP
  obtain ⟨_, _, ⟨T101, L101, k101, n101⟩, -, X101, ⟨Lc101, hQ101, l101, y101, z101⟩, st101⟩ := Jvm.LawKit.callS X0 hx (y := M25) hown (mvT hZ (ww hw 4 rfl)) (mvT hZ (ww hw 5 rfl)) (mvT hZ (ww hw 2 rfl)) (mvT hZ (ww hw 6 rfl)) (by decide) (backOf (W := 0) (rm2 l Z a0 hw [] h0 n0 O0 x) hZ (ww hw 6 rfl) (ww hw 2 rfl) (by decide) (by decide)) (g := (mkF m 1 #[vi sel, vi x, .unset, .unset, .unset, .unset] [(.int x)])) rfl (by rw [hml]; rfl) (argsL := [(.int x)]) (rest := []) (lenOf pd_34 rfl) rfl (by show 2 * 0 + _ ≤ _; exact Nat.le_of_eq rfl) (dd 1 rfl) (fun _ _ => ⟨rfl, e0, (by decide : 0 + 0 ≤ _), (by decide : 0 + 0 ≤ _)⟩)
  dsimp only [Pt.U, Pt.locs, Pt.cells, Pt.slots] at X101 l101 y101 z101 st101 hQ101
  subst l101 y101 z101
  obtain ⟨n101, hn101, rfl, N101, eh101⟩ := hQ101
  have Nf101 := Fr.app N0 N101
  obtain ⟨_, _, ⟨T102, L102, k102, n102⟩, -, X102, ⟨Lc102, hQ102, l102, y102, z102⟩, st102⟩ := Jvm.LawKit.callS X101 hx (y := M25) hown (mvT hZ (ww hw 4 rfl)) (mvT hZ (ww hw 5 rfl)) (mvT hZ (ww hw 2 rfl)) (mvT hZ (ww hw 6 rfl)) (by decide) (backOf (W := 0) (rm2 l Z a0 hw [] h0 n0 O0 ((x.toUInt32 >>> ((15 : Int32) &&& 31).toUInt32).toInt32)) hZ (ww hw 6 rfl) (ww hw 2 rfl) (by decide) (by decide)) (g := (mkF m 9 #[vi sel, vi x, vi (Int32.ofNat n101), .unset, .unset, .unset] [(.int ((x.toUInt32 >>> ((15 : Int32) &&& 31).toUInt32).toInt32))])) rfl (by rw [hml]; rfl) (argsL := [(.int ((x.toUInt32 >>> ((15 : Int32) &&& 31).toUInt32).toInt32))]) (rest := []) (lenOf pd_34 rfl) rfl (by show 2 * 0 + _ ≤ _; exact Nat.le_of_eq rfl) (dd 6 rfl) (fun _ _ => ⟨rfl, eh101, (by decide : 0 + 0 ≤ _), (by decide : 0 + 0 ≤ _)⟩)
  dsimp only [Pt.U, Pt.locs, Pt.cells, Pt.slots] at X102 l102 y102 z102 st102 hQ102
  subst l102 y102 z102
  obtain ⟨n102, hn102, rfl, N102, eh102⟩ := hQ102
  have Nf102 := Fr.app Nf101 N102
  refine own_goH (S' := (T102.setTop (mkF m 16 #[vi sel, vi x, vi (Int32.ofNat n101), vi (Int32.ofNat n102), .unset, .unset] [(.int (sel &&& (3 : Int32)))]))) (fun tq kq => XS.iloadN X0.here hx rfl (dd 0 rfl) rfl (st101 tq (XS.istoreN X101.here hx rfl (dd 2 rfl) rfl (l' := #[vi sel, vi x, vi (Int32.ofNat n101), .unset, .unset, .unset]) rfl (XS.iloadN X101.here hx rfl (dd 3 rfl) rfl (XS.bipush X101.here hx rfl (dd 4 rfl) (XS.iushr X101.here hx rfl (dd 5 rfl) rfl (st102 tq (XS.istoreN X102.here hx rfl (dd 7 rfl) rfl (l' := #[vi sel, vi x, vi (Int32.ofNat n101), vi (Int32.ofNat n102), .unset, .unset]) rfl (XS.iloadN X102.here hx rfl (dd 8 rfl) rfl (XS.iconst X102.here hx rfl (dd 9 rfl) (XS.iand X102.here hx rfl (dd 10 rfl) rfl kq))))))))))) ?_
  rcases own_and3 sel with hq | hq | hq | hq
  · rw [hq]
    obtain ⟨la, T103, h103, k1103, lb, kb, X103, e103, E103, hS103, hk103, hZ, hown, A103, Fc103, Fv103, Av103, lta, ltb, hC103, Lt, hne, st103⟩ := ldcCH (s := s) (vm0 := s.vm) X102 hx hZ hown (ww hw 37 rfl) (own_sAt hw) eh102 hS0 hk0 hEL (List.mem_of_getElem? (i := 0) rfl) C0.1 (vs := []) (z := 0) ⟨by decide, rfl⟩ (by decide) rfl (g := (mkF m 23 #[vi sel, vi x, vi (Int32.ofNat n101), vi (Int32.ofNat n102), vi 0, .unset] [])) rfl (dd 14 rfl) (n := 0) (by decide) (by decide) (by decide) (by decide)
    have Vl103 := own_ofArv0 Av103
    have Xl103 : Exa Z h103 lb "[B" := own_bkExa hZ.alike Vl103 (Classical.byContradiction fun q => (hne lb q).2 rfl)
    have cr104 := hC103
    have Ccr104 := C0.trans cr104
    have K103 := K0.ext E103
    refine own_goH (S' := (T103.setTop (mkF m 25 #[vi sel, vi x, vi (Int32.ofNat n101), vi (Int32.ofNat n102), vi 0, .unset] [(.ref la)]))) (fun tq kq => XS.istore X102.here hx rfl (dd 11 rfl) rfl (l' := #[vi sel, vi x, vi (Int32.ofNat n101), vi (Int32.ofNat n102), vi 0, .unset]) rfl (XS.iload X102.here hx rfl (dd 12 rfl) rfl (XS.ifNo X102.here hx rfl (dd 13 rfl) rfl ((if0 _ _).trans (teq (by decide : (0 : Int32) = (0 : Int32))).2) (st103 tq kq)))) ?_
    refine own_retAH X103 hS103 (by rw [e103]; exact hk103) hZ hEL hh (by rw [e103]; exact Ccr104) hx hlk hret rfl rfl (dd 15 rfl) (by decide) (by decide) ?_
    rw [e103]
    exact ⟨la, [], rfl, Nf102, K103, ⟨Nat.le_refl _, A103.lt, A103, Fc103, lb, _, Vl103.lt, Fv103, Vl103, Xl103⟩, (by decide), (fun j => by simp)⟩
  · rw [hq]
    obtain ⟨T105, h105, X105, e105, E105, A105, D105, -, st105⟩ := newO X102 hx hZ hown (ww hw 8 rfl) (ww hw 9 rfl) (ww hw 10 rfl) eh102 (g := (mkF m 32 #[vi sel, vi x, vi (Int32.ofNat n101), vi (Int32.ofNat n102), vi 1, .unset] [])) rfl (dd 19 rfl) (by decide) (by decide)
    obtain ⟨b105, g105⟩ : ∃ z, z = h0.size := ⟨_, rfl⟩
    rw [← g105] at A105 D105 st105
    have ge_b105 : n0 ≤ b105 := Nat.le_trans (own_osz O0) (Nat.le_of_eq g105.symm)
    have gk_b105 : h0.size ≤ b105 := Nat.le_trans K0.1 (Nat.le_of_eq g105.symm)
    have O105 := O0.ext E105
    have K105 := K0.ext E105
    have cr106 := CHr.ext E105 C0.1
    have Ccr106 := C0.trans cr106
    have sf_b105 := own_Sf.ext C0.1 E105 g105 A105.lt
    have F_coder_b105 : Fld Z h105 b105 "java/lang/String" "coder" "B" (.int 0) := D105 (Or.inr (ww hw 34 rfl)) (ty := .byte) (by decide)
    have F_value_b105 : Fld Z h105 b105 "java/lang/String" "value" "[B" .null := D105 (Or.inr (ww hw 36 rfl)) (ty := (.array .byte)) (by decide)
    obtain ⟨T107, h107, k107, X107, e107, E107, A107, st107⟩ := newP X105 hx hZ (ww hw 7 rfl) e105 (g := (mkF m 37 #[vi sel, vi x, vi (Int32.ofNat n101), vi (Int32.ofNat n102), vi 1, .unset] [(.int 1), (.ref b105), (.ref b105)])) rfl (dd 22 rfl) rfl (by decide) (cap := 1) (by decide) (by decide) (by decide) (by decide)
    obtain ⟨b107, g107⟩ : ∃ z, z = h105.size := ⟨_, rfl⟩
    rw [← g107] at A107 st107
    have ne_b105_b107 := own_nE A105.lt g107
    have ge_b107 : n0 ≤ b107 := Nat.le_trans (own_osz O105) (Nat.le_of_eq g107.symm)
    have gk_b107 : h0.size ≤ b107 := Nat.le_trans K105.1 (Nat.le_of_eq g107.symm)
    have V107 : own_Ar Z h107 b107 k107 .char [(.int 0)] := own_Ar.new A107 (by decide)
    have O107 := O105.ext E107
    have K107 := K105.ext E107
    have cr108 := CHr.ext E107 Ccr106.1
    have Ccr108 := Ccr106.trans cr108
    have sf109 := sf_b105.go cr108
    obtain ⟨cl110, Ar110, qa110, sa110, hin110, -⟩ := V107.at (j := (0 : Int32)) (by decide) rfl
    obtain ⟨T110, h110, X110, e110, W110, st110⟩ := stC X107 hx hZ e107 Ar110 (j := (0 : Int32)) hin110 (g := (mkF m 42 #[vi sel, vi x, vi (Int32.ofNat n101), vi (Int32.ofNat n102), vi 1, .unset] [(.int (Int32.ofNat n101)), (.int 0), (.ref b107), (.ref b107), (.ref b105), (.ref b105)])) rfl rfl (dd 26 rfl)
    have N110 := Fr.snoc X110 Nf102 ge_b107
    have O110 := O107.wr W110 ge_b107
    have K110 := K107.wr W110 (Or.inr gk_b107)
    have cr111 := CHr.wr W110 (own_safeAr hZ.alike V107 (by nofun)) Ccr108.1
    have Ccr111 := Ccr108.trans cr111
    have sf112 := sf109.go cr111
    have V110 : own_Ar Z h110 b107 k107 .char [(.int ((Int32.ofNat n101).toUInt32.toUInt16.toUInt32.toInt32))] := own_Ar.set Ar110 qa110 sa110 V107.small W110
    have Vc : own_Ar Z h110 b107 k107 .char (own_cv [n101]) := by have q := V110; rw [own_i2cO hn101] at q; exact q
    have hbd : ∀ j, [n101].getD j 0 < 32768 := (own_bset (l := [0]) (i := 0) (own_brep (k := 1) (by decide)) hn101)
    have f113 := ((A105.ext E107).wr W110)
    have f114 := ((F_value_b105.ext E107).other W110 (Or.inl ne_b105_b107))
    have f115 := ((F_coder_b105.ext E107).other W110 (Or.inl ne_b105_b107))
    obtain ⟨_, _, ⟨T116, L116, k116, n116⟩, -, X116, ⟨Lc116, hQ116, l116, y116, z116⟩, st116⟩ := X110.specialBack hx (y := M11) rfl hown (mvT hZ (ww hw 11 rfl)) (mvT hZ (ww hw 12 rfl)) (mvT hZ (ww hw 13 rfl)) (by decide) (backOf (W := 1) (rm3 l Z a0 hw [] h110 n0 O110 b105 b107 k107 [n101] 1 z HP f113 f114 f115 ge_b105 Vc (by simp) (by decide) (by decide) hbd (Ne.symm ne_b105_b107)) hZ (ww hw 13 rfl) (ww hw 10 rfl) (by decide) (by decide)) (g := (mkF m 43 #[vi sel, vi x, vi (Int32.ofNat n101), vi (Int32.ofNat n102), vi 1, .unset] [(.ref b107), (.ref b105), (.ref b105)])) rfl (by rw [hml]; rfl) (Steps.refl _) (a := b105) (argsL := [(.ref b107)]) (rest := [(.ref b105)]) (lenOf pd_35 rfl) rfl (by show 2 * 0 + _ ≤ _; exact Nat.le_of_eq rfl) (dd 27 rfl) (fun _ _ => ⟨rfl, e110, (by decide : 2 + 2 ≤ _), (by decide : 5 + 1200 ≤ _)⟩)
    dsimp only [Pt.U, Pt.locs, Pt.cells, Pt.slots] at X116 l116 y116 z116 st116 hQ116
    subst l116 y116 z116
    obtain ⟨rfl, N116, K116, d116, kd116, gd116, Fv116, Fc116, Vd116, Xd116⟩ := hQ116
    have Nf116 := Fr.app N110 N116
    have KK116 := K110.trans K116 (allS (Or.inr gk_b105) all0)
    have cr117 := CHr.keep K116 (sfS sf112.1 sf0) Ccr111.1
    have Ccr117 := Ccr111.trans cr117
    have sf118 := sf112.go cr117
    refine own_goH (S' := (T116.setTop (mkF m 46 #[vi sel, vi x, vi (Int32.ofNat n101), vi (Int32.ofNat n102), vi 1, .unset] [(.ref b105)]))) (fun tq kq => XS.istore X102.here hx rfl (dd 11 rfl) rfl (l' := #[vi sel, vi x, vi (Int32.ofNat n101), vi (Int32.ofNat n102), vi 1, .unset]) rfl (XS.iload X102.here hx rfl (dd 12 rfl) rfl (XS.ifYes X102.here hx rfl (pc0 := 20) (pc' := 26) rfl (dd 13 rfl) rfl ((if0 _ _).trans (feq (by decide : ¬ ((1 : Int32) = (0 : Int32)))).2) (by decide) (by decide) (XS.iload X102.here hx rfl (dd 16 rfl) rfl (XS.iconst X102.here hx rfl (dd 17 rfl) (XS.icmpNo X102.here hx rfl (dd 18 rfl) rfl (teq (by decide : (1 : Int32) = (1 : Int32))).2 (st105 tq (XS.dup X105.here hx rfl (dd 20 rfl) rfl rfl (XS.iconst X105.here hx rfl (dd 21 rfl) (st107 tq (XS.dup X107.here hx rfl (dd 23 rfl) rfl rfl (XS.iconst X107.here hx rfl (dd 24 rfl) (XS.iloadN X107.here hx rfl (dd 25 rfl) rfl (st110 tq (st116.trans kq))))))))))))))) ?_
    refine own_retAH X116 hS0 (Nat.le_trans (Nat.le_trans (Nat.le_trans (Nat.le_trans hk0 E105.1) E107.1) (Nat.le_of_eq W110.size.symm)) K116.1) hZ hEL hh Ccr117 hx hlk hret rfl rfl (dd 28 rfl) (by decide) (by decide) ?_
    have f119 := (f113.keep K116)
    exact ⟨b105, [n101], rfl, Nf116, KK116, ⟨Nat.le_refl _, f119.lt, f119, Fc116, d116, _, Vd116.lt, Fv116, Vd116, Xd116⟩, (by simp), hbd⟩
  · rw [hq]
    obtain ⟨T120, h120, X120, e120, E120, A120, D120, -, st120⟩ := newO X102 hx hZ hown (ww hw 8 rfl) (ww hw 9 rfl) (ww hw 10 rfl) eh102 (g := (mkF m 53 #[vi sel, vi x, vi (Int32.ofNat n101), vi (Int32.ofNat n102), vi 2, .unset] [])) rfl (dd 32 rfl) (by decide) (by decide)
    obtain ⟨b120, g120⟩ : ∃ z, z = h0.size := ⟨_, rfl⟩
    rw [← g120] at A120 D120 st120
    have ge_b120 : n0 ≤ b120 := Nat.le_trans (own_osz O0) (Nat.le_of_eq g120.symm)
    have gk_b120 : h0.size ≤ b120 := Nat.le_trans K0.1 (Nat.le_of_eq g120.symm)
    have O120 := O0.ext E120
    have K120 := K0.ext E120
    have cr121 := CHr.ext E120 C0.1
    have Ccr121 := C0.trans cr121
    have sf_b120 := own_Sf.ext C0.1 E120 g120 A120.lt
    have F_coder_b120 : Fld Z h120 b120 "java/lang/String" "coder" "B" (.int 0) := D120 (Or.inr (ww hw 34 rfl)) (ty := .byte) (by decide)
    have F_value_b120 : Fld Z h120 b120 "java/lang/String" "value" "[B" .null := D120 (Or.inr (ww hw 36 rfl)) (ty := (.array .byte)) (by decide)
    obtain ⟨T122, h122, k122, X122, e122, E122, A122, st122⟩ := newP X120 hx hZ (ww hw 7 rfl) e120 (g := (mkF m 58 #[vi sel, vi x, vi (Int32.ofNat n101), vi (Int32.ofNat n102), vi 2, .unset] [(.int 2), (.ref b120), (.ref b120)])) rfl (dd 35 rfl) rfl (by decide) (cap := 2) (by decide) (by decide) (by decide) (by decide)
    obtain ⟨b122, g122⟩ : ∃ z, z = h120.size := ⟨_, rfl⟩
    rw [← g122] at A122 st122
    have ne_b120_b122 := own_nE A120.lt g122
    have ge_b122 : n0 ≤ b122 := Nat.le_trans (own_osz O120) (Nat.le_of_eq g122.symm)
    have gk_b122 : h0.size ≤ b122 := Nat.le_trans K120.1 (Nat.le_of_eq g122.symm)
    have V122 : own_Ar Z h122 b122 k122 .char [(.int 0), (.int 0)] := own_Ar.new A122 (by decide)
    have O122 := O120.ext E122
    have K122 := K120.ext E122
    have cr123 := CHr.ext E122 Ccr121.1
    have Ccr123 := Ccr121.trans cr123
    have sf124 := sf_b120.go cr123
    obtain ⟨cl125, Ar125, qa125, sa125, hin125, -⟩ := V122.at (j := (0 : Int32)) (by decide) rfl
    obtain ⟨T125, h125, X125, e125, W125, st125⟩ := stC X122 hx hZ e122 Ar125 (j := (0 : Int32)) hin125 (g := (mkF m 63 #[vi sel, vi x, vi (Int32.ofNat n101), vi (Int32.ofNat n102), vi 2, .unset] [(.int (Int32.ofNat n101)), (.int 0), (.ref b122), (.ref b122), (.ref b120), (.ref b120)])) rfl rfl (dd 39 rfl)
    have N125 := Fr.snoc X125 Nf102 ge_b122
    have O125 := O122.wr W125 ge_b122
    have K125 := K122.wr W125 (Or.inr gk_b122)
    have cr126 := CHr.wr W125 (own_safeAr hZ.alike V122 (by nofun)) Ccr123.1
    have Ccr126 := Ccr123.trans cr126
    have sf127 := sf124.go cr126
    have V125 : own_Ar Z h125 b122 k122 .char [(.int ((Int32.ofNat n101).toUInt32.toUInt16.toUInt32.toInt32)), (.int 0)] := own_Ar.set Ar125 qa125 sa125 V122.small W125
    obtain ⟨cl128, Ar128, qa128, sa128, hin128, -⟩ := V125.at (j := (1 : Int32)) (by decide) rfl
    obtain ⟨T128, h128, X128, e128, W128, st128⟩ := stC X125 hx hZ e125 Ar128 (j := (1 : Int32)) hin128 (g := (mkF m 67 #[vi sel, vi x, vi (Int32.ofNat n101), vi (Int32.ofNat n102), vi 2, .unset] [(.int (Int32.ofNat n102)), (.int 1), (.ref b122), (.ref b122), (.ref b120), (.ref b120)])) rfl rfl (dd 43 rfl)
    have N128 := Fr.snoc X128 N125 ge_b122
    have O128 := O125.wr W128 ge_b122
    have K128 := K125.wr W128 (Or.inr gk_b122)
    have cr129 := CHr.wr W128 (own_safeAr hZ.alike V125 (by nofun)) Ccr126.1
    have Ccr129 := Ccr126.trans cr129
    have sf130 := sf127.go cr129
    have V128 : own_Ar Z h128 b122 k122 .char [(.int ((Int32.ofNat n101).toUInt32.toUInt16.toUInt32.toInt32)), (.int ((Int32.ofNat n102).toUInt32.toUInt16.toUInt32.toInt32))] := own_Ar.set Ar128 qa128 sa128 V125.small W128
    have Vc : own_Ar Z h128 b122 k122 .char (own_cv [n101, n102]) := by have q := V128; rw [own_i2cO hn101, own_i2cO hn102] at q; exact q
    have hbd : ∀ j, [n101, n102].getD j 0 < 32768 := (own_bset (l := [n101, 0]) (i := 1) (own_bset (l := [0, 0]) (i := 0) (own_brep (k := 2) (by decide)) hn101) hn102)
    have f131 := (((A120.ext E122).wr W125).wr W128)
    have f132 := (((F_value_b120.ext E122).other W125 (Or.inl ne_b120_b122)).other W128 (Or.inl ne_b120_b122))
    have f133 := (((F_coder_b120.ext E122).other W125 (Or.inl ne_b120_b122)).other W128 (Or.inl ne_b120_b122))
    obtain ⟨_, _, ⟨T134, L134, k134, n134⟩, -, X134, ⟨Lc134, hQ134, l134, y134, z134⟩, st134⟩ := X128.specialBack hx (y := M11) rfl hown (mvT hZ (ww hw 11 rfl)) (mvT hZ (ww hw 12 rfl)) (mvT hZ (ww hw 13 rfl)) (by decide) (backOf (W := 1) (rm3 l Z a0 hw [] h128 n0 O128 b120 b122 k122 [n101, n102] 2 z HP f131 f132 f133 ge_b120 Vc (by simp) (by decide) (by decide) hbd (Ne.symm ne_b120_b122)) hZ (ww hw 13 rfl) (ww hw 10 rfl) (by decide) (by decide)) (g := (mkF m 68 #[vi sel, vi x, vi (Int32.ofNat n101), vi (Int32.ofNat n102), vi 2, .unset] [(.ref b122), (.ref b120), (.ref b120)])) rfl (by rw [hml]; rfl) (Steps.refl _) (a := b120) (argsL := [(.ref b122)]) (rest := [(.ref b120)]) (lenOf pd_35 rfl) rfl (by show 2 * 0 + _ ≤ _; exact Nat.le_of_eq rfl) (dd 44 rfl) (fun _ _ => ⟨rfl, e128, (by decide : 2 + 2 ≤ _), (by decide : 6 + 1200 ≤ _)⟩)
    dsimp only [Pt.U, Pt.locs, Pt.cells, Pt.slots] at X134 l134 y134 z134 st134 hQ134
    subst l134 y134 z134
    obtain ⟨rfl, N134, K134, d134, kd134, gd134, Fv134, Fc134, Vd134, Xd134⟩ := hQ134
    have Nf134 := Fr.app N128 N134
    have KK134 := K128.trans K134 (allS (Or.inr gk_b120) all0)
    have cr135 := CHr.keep K134 (sfS sf130.1 sf0) Ccr129.1
    have Ccr135 := Ccr129.trans cr135
    have sf136 := sf130.go cr135
    refine own_goH (S' := (T134.setTop (mkF m 71 #[vi sel, vi x, vi (Int32.ofNat n101), vi (Int32.ofNat n102), vi 2, .unset] [(.ref b120)]))) (fun tq kq => XS.istore X102.here hx rfl (dd 11 rfl) rfl (l' := #[vi sel, vi x, vi (Int32.ofNat n101), vi (Int32.ofNat n102), vi 2, .unset]) rfl (XS.iload X102.here hx rfl (dd 12 rfl) rfl (XS.ifYes X102.here hx rfl (pc0 := 20) (pc' := 26) rfl (dd 13 rfl) rfl ((if0 _ _).trans (feq (by decide : ¬ ((2 : Int32) = (0 : Int32)))).2) (by decide) (by decide) (XS.iload X102.here hx rfl (dd 16 rfl) rfl (XS.iconst X102.here hx rfl (dd 17 rfl) (XS.icmpYes X102.here hx rfl (pc0 := 29) (pc' := 47) rfl (dd 18 rfl) rfl (feq (by decide : ¬ ((2 : Int32) = (1 : Int32)))).2 (by decide) (by decide) (XS.iload X102.here hx rfl (dd 29 rfl) rfl (XS.iconst X102.here hx rfl (dd 30 rfl) (XS.icmpNo X102.here hx rfl (dd 31 rfl) rfl (teq (by decide : (2 : Int32) = (2 : Int32))).2 (st120 tq (XS.dup X120.here hx rfl (dd 33 rfl) rfl rfl (XS.iconst X120.here hx rfl (dd 34 rfl) (st122 tq (XS.dup X122.here hx rfl (dd 36 rfl) rfl rfl (XS.iconst X122.here hx rfl (dd 37 rfl) (XS.iloadN X122.here hx rfl (dd 38 rfl) rfl (st125 tq (XS.dup X125.here hx rfl (dd 40 rfl) rfl rfl (XS.iconst X125.here hx rfl (dd 41 rfl) (XS.iloadN X125.here hx rfl (dd 42 rfl) rfl (st128 tq (st134.trans kq)))))))))))))))))))))) ?_
    refine own_retAH X134 hS0 (Nat.le_trans (Nat.le_trans (Nat.le_trans (Nat.le_trans (Nat.le_trans hk0 E120.1) E122.1) (Nat.le_of_eq W125.size.symm)) (Nat.le_of_eq W128.size.symm)) K134.1) hZ hEL hh Ccr135 hx hlk hret rfl rfl (dd 45 rfl) (by decide) (by decide) ?_
    have f137 := (f131.keep K134)
    exact ⟨b120, [n101, n102], rfl, Nf134, KK134, ⟨Nat.le_refl _, f137.lt, f137, Fc134, d134, _, Vd134.lt, Fv134, Vd134, Xd134⟩, (by simp), hbd⟩
  · rw [hq]
    obtain ⟨T138, h138, k138, X138, e138, E138, A138, st138⟩ := newP X102 hx hZ (ww hw 7 rfl) eh102 (g := (mkF m 75 #[vi sel, vi x, vi (Int32.ofNat n101), vi (Int32.ofNat n102), vi 3, .unset] [(.int 130)])) rfl (dd 47 rfl) rfl (by decide) (cap := 130) (by decide) (by decide) (by decide) (by decide)
    obtain ⟨b138, g138⟩ : ∃ z, z = h0.size := ⟨_, rfl⟩
    rw [← g138] at A138 st138
    have ge_b138 : n0 ≤ b138 := Nat.le_trans (own_osz O0) (Nat.le_of_eq g138.symm)
    have gk_b138 : h0.size ≤ b138 := Nat.le_trans K0.1 (Nat.le_of_eq g138.symm)
    have V138 : own_Ar Z h138 b138 k138 .char (List.replicate 130 (.int 0)) := own_Ar.new A138 (by decide)
    have O138 := O0.ext E138
    have K138 := K0.ext E138
    have cr139 := CHr.ext E138 C0.1
    have Ccr139 := C0.trans cr139
    have Vz140 : own_Ar Z h138 b138 k138 .char (own_cv (List.replicate 130 0)) := own_cvrep 130 ▸ V138
    obtain ⟨cl141, Ar141, qa141, sa141, hin141, -⟩ := Vz140.at (j := (0 : Int32)) (by decide) (own_cvat (cs := (List.replicate 130 0)) (i := 0) (by simp))
    obtain ⟨T141, h141, X141, e141, W141, st141⟩ := stC X138 hx hZ e138 Ar141 (j := (0 : Int32)) hin141 (g := (mkF m 83 #[vi sel, vi x, vi (Int32.ofNat n101), vi (Int32.ofNat n102), vi 3, vr b138] [(.int (Int32.ofNat n101)), (.int 0), (.ref b138)])) rfl rfl (dd 52 rfl)
    have N141 := Fr.snoc X141 Nf102 ge_b138
    have O141 := O138.wr W141 ge_b138
    have K141 := K138.wr W141 (Or.inr gk_b138)
    have cr142 := CHr.wr W141 (own_safeAr hZ.alike Vz140 (by nofun)) Ccr139.1
    have Ccr142 := Ccr139.trans cr142
    have V141 : own_Ar Z h141 b138 k138 .char (own_cv ((List.replicate 130 0).set 0 n101)) := (by have q := (own_Ar.set Ar141 qa141 sa141 Vz140.small W141); rw [show nar .char (Int32.ofNat n101) = Int32.ofNat n101 from own_i2cO hn101] at q; exact own_cvset ▸ (show own_Ar Z _ _ _ _ ((own_cv (List.replicate 130 0)).set 0 (.int (Int32.ofNat n101))) from q))
    obtain ⟨cl143, Ar143, qa143, sa143, hin143, -⟩ := V141.at (j := (64 : Int32)) (by decide) (own_cvat (cs := ((List.replicate 130 0).set 0 n101)) (i := 64) (by simp))
    obtain ⟨T143, h143, X143, e143, W143, st143⟩ := stC X141 hx hZ e141 Ar143 (j := (64 : Int32)) hin143 (g := (mkF m 89 #[vi sel, vi x, vi (Int32.ofNat n101), vi (Int32.ofNat n102), vi 3, vr b138] [(.int (Int32.ofNat n102)), (.int 64), (.ref b138)])) rfl rfl (dd 56 rfl)
    have N143 := Fr.snoc X143 N141 ge_b138
    have O143 := O141.wr W143 ge_b138
    have K143 := K141.wr W143 (Or.inr gk_b138)
    have cr144 := CHr.wr W143 (own_safeAr hZ.alike V141 (by nofun)) Ccr142.1
    have Ccr144 := Ccr142.trans cr144
    have V143 : own_Ar Z h143 b138 k138 .char (own_cv (((List.replicate 130 0).set 0 n101).set 64 n102)) := (by have q := (own_Ar.set Ar143 qa143 sa143 V141.small W143); rw [show nar .char (Int32.ofNat n102) = Int32.ofNat n102 from own_i2cO hn102] at q; exact own_cvset ▸ (show own_Ar Z _ _ _ _ ((own_cv ((List.replicate 130 0).set 0 n101)).set 64 (.int (Int32.ofNat n102))) from q))
    obtain ⟨cl145, Ar145, qa145, sa145, hin145, -⟩ := V143.at (j := (129 : Int32)) (by decide) (own_cvat (cs := (((List.replicate 130 0).set 0 n101).set 64 n102)) (i := 129) (by simp))
    obtain ⟨T145, h145, X145, e145, W145, st145⟩ := stC X143 hx hZ e143 Ar145 (j := (129 : Int32)) hin145 (g := (mkF m 96 #[vi sel, vi x, vi (Int32.ofNat n101), vi (Int32.ofNat n102), vi 3, vr b138] [(.int (Int32.ofNat n101)), (.int 129), (.ref b138)])) rfl rfl (dd 60 rfl)
    have N145 := Fr.snoc X145 N143 ge_b138
    have O145 := O143.wr W145 ge_b138
    have K145 := K143.wr W145 (Or.inr gk_b138)
    have cr146 := CHr.wr W145 (own_safeAr hZ.alike V143 (by nofun)) Ccr144.1
    have Ccr146 := Ccr144.trans cr146
    have V145 : own_Ar Z h145 b138 k138 .char (own_cv ((((List.replicate 130 0).set 0 n101).set 64 n102).set 129 n101)) := (by have q := (own_Ar.set Ar145 qa145 sa145 V143.small W145); rw [show nar .char (Int32.ofNat n101) = Int32.ofNat n101 from own_i2cO hn101] at q; exact own_cvset ▸ (show own_Ar Z _ _ _ _ ((own_cv (((List.replicate 130 0).set 0 n101).set 64 n102)).set 129 (.int (Int32.ofNat n101))) from q))
    obtain ⟨T147, h147, X147, e147, E147, A147, D147, -, st147⟩ := newO X145 hx hZ hown (ww hw 8 rfl) (ww hw 9 rfl) (ww hw 10 rfl) e145 (g := (mkF m 97 #[vi sel, vi x, vi (Int32.ofNat n101), vi (Int32.ofNat n102), vi 3, vr b138] [])) rfl (dd 61 rfl) (by decide) (by decide)
    obtain ⟨b147, g147⟩ : ∃ z, z = h145.size := ⟨_, rfl⟩
    rw [← g147] at A147 D147 st147
    have ne_b138_b147 := own_nE V145.lt g147
    have ge_b147 : n0 ≤ b147 := Nat.le_trans (own_osz O145) (Nat.le_of_eq g147.symm)
    have gk_b147 : h0.size ≤ b147 := Nat.le_trans K145.1 (Nat.le_of_eq g147.symm)
    have O147 := O145.ext E147
    have K147 := K145.ext E147
    have cr148 := CHr.ext E147 Ccr146.1
    have Ccr148 := Ccr146.trans cr148
    have sf_b147 := own_Sf.ext Ccr146.1 E147 g147 A147.lt
    have F_coder_b147 : Fld Z h147 b147 "java/lang/String" "coder" "B" (.int 0) := D147 (Or.inr (ww hw 34 rfl)) (ty := .byte) (by decide)
    have F_value_b147 : Fld Z h147 b147 "java/lang/String" "value" "[B" .null := D147 (Or.inr (ww hw 36 rfl)) (ty := (.array .byte)) (by decide)
    refine own_goH (S' := (T147.setTop (mkF m 100 #[vi sel, vi x, vi (Int32.ofNat n101), vi (Int32.ofNat n102), vi 3, vr b138] [(.ref b147)]))) (fun tq kq => XS.istore X102.here hx rfl (dd 11 rfl) rfl (l' := #[vi sel, vi x, vi (Int32.ofNat n101), vi (Int32.ofNat n102), vi 3, .unset]) rfl (XS.iload X102.here hx rfl (dd 12 rfl) rfl (XS.ifYes X102.here hx rfl (pc0 := 20) (pc' := 26) rfl (dd 13 rfl) rfl ((if0 _ _).trans (feq (by decide : ¬ ((3 : Int32) = (0 : Int32)))).2) (by decide) (by decide) (XS.iload X102.here hx rfl (dd 16 rfl) rfl (XS.iconst X102.here hx rfl (dd 17 rfl) (XS.icmpYes X102.here hx rfl (pc0 := 29) (pc' := 47) rfl (dd 18 rfl) rfl (feq (by decide : ¬ ((3 : Int32) = (1 : Int32)))).2 (by decide) (by decide) (XS.iload X102.here hx rfl (dd 29 rfl) rfl (XS.iconst X102.here hx rfl (dd 30 rfl) (XS.icmpYes X102.here hx rfl (pc0 := 50) (pc' := 72) rfl (dd 31 rfl) rfl (feq (by decide : ¬ ((3 : Int32) = (2 : Int32)))).2 (by decide) (by decide) (XS.sipush X102.here hx rfl (dd 46 rfl) (st138 tq (XS.astore X138.here hx rfl (dd 48 rfl) rfl rfl (l' := #[vi sel, vi x, vi (Int32.ofNat n101), vi (Int32.ofNat n102), vi 3, vr b138]) rfl (XS.aload X138.here hx rfl (dd 49 rfl) rfl rfl (XS.iconst X138.here hx rfl (dd 50 rfl) (XS.iloadN X138.here hx rfl (dd 51 rfl) rfl (st141 tq (XS.aload X141.here hx rfl (dd 53 rfl) rfl rfl (XS.bipush X141.here hx rfl (dd 54 rfl) (XS.iloadN X141.here hx rfl (dd 55 rfl) rfl (st143 tq (XS.aload X143.here hx rfl (dd 57 rfl) rfl rfl (XS.sipush X143.here hx rfl (dd 58 rfl) (XS.iloadN X143.here hx rfl (dd 59 rfl) rfl (st145 tq (st147 tq kq))))))))))))))))))))))))) ?_
    have f149 := (V145.ext E147)
    have Vc : own_Ar Z h147 b138 k138 .char (own_cv ((((List.replicate 130 0).set 0 n101).set 64 n102).set 129 n101)) := by have q := f149; exact q
    have hbd : ∀ j, ((((List.replicate 130 0).set 0 n101).set 64 n102).set 129 n101).getD j 0 < 32768 := (own_bset (own_bset (own_bset (own_brep (k := 130) (by decide)) hn101) hn102) hn101)
    obtain ⟨_, _, ⟨T150, L150, k150, n150⟩, -, X150, ⟨Lc150, hQ150, l150, y150, z150⟩, st150⟩ := X147.specialBack hx (y := M11) rfl hown (mvT hZ (ww hw 11 rfl)) (mvT hZ (ww hw 12 rfl)) (mvT hZ (ww hw 13 rfl)) (by decide) (backOf (W := 1) (rm3 l Z a0 hw [] h147 n0 O147 b147 b138 k138 ((((List.replicate 130 0).set 0 n101).set 64 n102).set 129 n101) 130 z HP A147 F_value_b147 F_coder_b147 ge_b147 Vc (by simp) (by decide) (by decide) hbd ne_b138_b147) hZ (ww hw 13 rfl) (ww hw 10 rfl) (by decide) (by decide)) (g := (mkF m 103 #[vi sel, vi x, vi (Int32.ofNat n101), vi (Int32.ofNat n102), vi 3, vr b138] [(.ref b138), (.ref b147), (.ref b147)])) rfl (by rw [hml]; rfl) (Steps.refl _) (a := b147) (argsL := [(.ref b138)]) (rest := [(.ref b147)]) (lenOf pd_35 rfl) rfl (by show 2 * 0 + _ ≤ _; exact Nat.le_of_eq rfl) (dd 64 rfl) (fun _ _ => ⟨rfl, e147, (by decide : 2 + 2 ≤ _), (by decide : 134 + 1200 ≤ _)⟩)
    dsimp only [Pt.U, Pt.locs, Pt.cells, Pt.slots] at X150 l150 y150 z150 st150 hQ150
    subst l150 y150 z150
    obtain ⟨rfl, N150, K150, d150, kd150, gd150, Fv150, Fc150, Vd150, Xd150⟩ := hQ150
    have Nf150 := Fr.app N145 N150
    have KK150 := K147.trans K150 (allS (Or.inr gk_b147) all0)
    have cr151 := CHr.keep K150 (sfS sf_b147.1 sf0) Ccr148.1
    have Ccr151 := Ccr148.trans cr151
    have sf152 := sf_b147.go cr151
    refine own_goH (S' := (T150.setTop (mkF m 106 #[vi sel, vi x, vi (Int32.ofNat n101), vi (Int32.ofNat n102), vi 3, vr b138] [(.ref b147)]))) (fun tq kq => XS.dup X147.here hx rfl (dd 62 rfl) rfl rfl (XS.aload X147.here hx rfl (dd 63 rfl) rfl rfl (st150.trans kq))) ?_
    refine own_retAH X150 hS0 (Nat.le_trans (Nat.le_trans (Nat.le_trans (Nat.le_trans (Nat.le_trans (Nat.le_trans hk0 E138.1) (Nat.le_of_eq W141.size.symm)) (Nat.le_of_eq W143.size.symm)) (Nat.le_of_eq W145.size.symm)) E147.1) K150.1) hZ hEL hh Ccr151 hx hlk hret rfl rfl (dd 65 rfl) (by decide) (by decide) ?_
    have f153 := (A147.keep K150)
    exact ⟨b147, ((((List.replicate 130 0).set 0 n101).set 64 n102).set 129 n101), rfl, Nf150, KK150, ⟨Nat.le_refl _, f153.lt, f153, Fc150, d150, _, Vd150.lt, Fv150, Vd150, Xd150⟩, (by simp), hbd⟩
theorem seg19 {p : Program} {l : Launch} {e : Env} {R : Room} {s : State} {m : MethodId} {args : Array Value} {below : List Frame} {meth : Method} {c : Code} {Z : State} {a0 : Array Value} (hx : p.tables.exec = Jvm.exec) (hZ : Z.Warmed39 s.vm) (hw : ∀ d ∈ tables_1, d.before a0 Z = true) (hby : c.code = prog_15_method_5_code) (hml : c.maxLocals = 8) (hown : s.vm.findClass "com/example/vestwright/vestwright/cli/TableRows" = some m.cls) (t : Addr) (bb : Addr) (k1 : ClassId) (bl : List Int) (pre : List Int) (post : List Int) (cs : List Nat) (P : Nat) (x1 : Int32) (ar : Addr) (x4 : Int32) (t7 : Slot) (ho7 : One t7) (hb0 : bl = pre ++ (own_en cs ++ post)) (hP : P = pre.length) (hP4 : P ≤ 4000) (hu0 : (own_u8 cs).length ≤ 390) {Tp : State} {locs : List Loc} {ce sl' : Nat} {hp : Heap} (Xp : Stand p l e R s m args below meth c Tp locs ce sl') (ep : Tp.heap = hp) (Fb : Fld Z hp t "com/example/vestwright/vestwright/cli/TableRows" "bytes" "[B" (.ref bb)) (Vb : own_Ar Z hp bb k1 .byte (own_pad (own_bv bl) 4096 (.int 0))) : own_SG p e below (fun U => ∃ (T' : State) (s6 s7 : Int32), U = T'.setTop (mkF m 69 #[vr t, vi x1, vr ar, .val (.int (Int32.ofNat (P + (own_vl (own_u8 cs).length).length))), vi x4, vi (Int32.ofNat (own_u8 cs).length), vi s6, vi s7] []) ∧ Stand p l e R s m args below meth c T' locs ce sl' ∧ T'.heap = hp) (Tp.setTop (mkF m 33 #[vr t, vi x1, vr ar, vi (Int32.ofNat P), vi x4, vi 0, vi 0, t7] [])) := by
  have dd := @dq _ _ _ hby D19
  have hlen := congrArg List.length hb0
  simp only [List.length_append, own_enlen] at hlen
  have hv0 := own_vll (own_u8 cs).length
  by_cases hsh : (own_u8 cs).length < 128
  · have hvl := own_vl1 hsh
    have hvL : (own_vl (own_u8 cs).length).length = 1 := by rw [hvl]; rfl
    have hg0 : (own_pad (own_bv bl) 4096 (.int 0))[P]? = some (.int (Int32.ofInt ((own_u8 cs).length : Nat))) := by have q := own_get (mid := own_vl (own_u8 cs).length) (post := own_u8 cs ++ post) (t := 0) (P := P) (show bl = pre ++ (own_vl (own_u8 cs).length ++ (own_u8 cs ++ post)) by rw [hb0]; simp [own_en]) (by omega) (by omega); rw [hvl] at q; exact q
    have hw1 := own_v1 _ hsh
    obtain ⟨T101, X101, e101, st101⟩ := getF Xp hx hZ hown (host := "") (Or.inl (ww hw 47 rfl)) Via.refl ep Fb (g := (mkF m 34 #[vr t, vi x1, vr ar, vi (Int32.ofNat P), vi x4, vi 0, vi 0, t7] [(.ref t)])) rfl rfl (dd 1 rfl)
    obtain ⟨cl102, Ar102, -, -, hin102, hat102⟩ := Vb.at (j := (Int32.ofNat P)) (v := (.int (Int32.ofInt ((own_u8 cs).length : Nat)))) (own_pos (by omega)) (by rw [own_clamp (by omega)]; exact hg0)
    refine own_goS (S' := (T101.setTop (mkF m 42 #[vr t, vi x1, vr ar, vi ((Int32.ofNat P) + (1 : Int32)), vi x4, vi 0, vi 0, t7] [(.int (Int32.ofInt ((own_u8 cs).length : Nat)))]))) (fun tq kq => XS.aloadN Xp.here hx rfl (dd 0 rfl) rfl rfl (st101 tq (XS.iloadN X101.here hx rfl (dd 2 rfl) rfl (XS.iinc X101.here hx rfl (dd 3 rfl) rfl (l' := #[vr t, vi x1, vr ar, vi ((Int32.ofNat P) + (1 : Int32)), vi x4, vi 0, vi 0, t7]) rfl (X101.baloadBytes hx (j := (Int32.ofNat P)) (v := (.int (Int32.ofInt ((own_u8 cs).length : Nat)))) (by rw [e101]; exact Ar102.1) (State.isArrayOf_alike hZ.alike Ar102.2.1) Ar102.2.2 hin102 hat102 (g := (mkF m 41 #[vr t, vi x1, vr ar, vi ((Int32.ofNat P) + (1 : Int32)), vi x4, vi 0, vi 0, t7] [(.int (Int32.ofNat P)), (.ref bb)])) rfl rfl (dd 4 rfl) tq kq))))) ?_
    rw [own_succ (P)]
    refine own_goS (S' := (T101.setTop (mkF m 55 #[vr t, vi x1, vr ar, vi (Int32.ofNat (P + 1)), vi x4, vi 0, vi 0, vi (Int32.ofInt ((own_u8 cs).length : Nat))] [(.int ((0 : Int32) ||| (((Int32.ofInt ((own_u8 cs).length : Nat)) &&& (127 : Int32)) <<< ((0 : Int32) &&& 31))))]))) (fun tq kq => XS.istoreS X101.here hx rfl (dd 5 rfl) rfl rfl ho7 (XS.iload X101.here hx rfl (dd 6 rfl) rfl (XS.iload X101.here hx rfl (dd 7 rfl) rfl (XS.bipush X101.here hx rfl (dd 8 rfl) (XS.iand X101.here hx rfl (dd 9 rfl) rfl (XS.iload X101.here hx rfl (dd 10 rfl) rfl (XS.ishl X101.here hx rfl (dd 11 rfl) rfl (XS.ior X101.here hx rfl (dd 12 rfl) rfl kq)))))))) ?_
    rw [hw1.1]
    refine own_goS (S' := (T101.setTop (mkF m 69 #[vr t, vi x1, vr ar, vi (Int32.ofNat (P + 1)), vi x4, vi (Int32.ofNat (own_u8 cs).length), vi 7, vi (Int32.ofInt ((own_u8 cs).length : Nat))] []))) (fun tq kq => XS.istore X101.here hx rfl (dd 13 rfl) rfl (l' := #[vr t, vi x1, vr ar, vi (Int32.ofNat (P + 1)), vi x4, vi (Int32.ofNat (own_u8 cs).length), vi 0, vi (Int32.ofInt ((own_u8 cs).length : Nat))]) rfl (XS.iinc X101.here hx rfl (dd 14 rfl) rfl (l' := #[vr t, vi x1, vr ar, vi (Int32.ofNat (P + 1)), vi x4, vi (Int32.ofNat (own_u8 cs).length), vi 7, vi (Int32.ofInt ((own_u8 cs).length : Nat))]) rfl (XS.iload X101.here hx rfl (dd 15 rfl) rfl (XS.sipush X101.here hx rfl (dd 16 rfl) (XS.iand X101.here hx rfl (dd 17 rfl) rfl (XS.ifNo X101.here hx rfl (dd 18 rfl) rfl ((if0 _ _).trans (teq hw1.2).2) kq)))))) ?_
    rw [show P + 1 = P + (own_vl (own_u8 cs).length).length by rw [hvL]]
    exact ⟨_, ⟨T101, _, _, rfl, X101, e101⟩, fun _ q => q⟩
  · have hvl := own_vl2 hsh
    have hvL : (own_vl (own_u8 cs).length).length = 2 := by rw [hvl]; rfl
    have hg0 : (own_pad (own_bv bl) 4096 (.int 0))[P]? = some (.int (Int32.ofInt (((own_u8 cs).length % 128 : Nat) - 128 : Int))) := by have q := own_get (mid := own_vl (own_u8 cs).length) (post := own_u8 cs ++ post) (t := 0) (P := P) (show bl = pre ++ (own_vl (own_u8 cs).length ++ (own_u8 cs ++ post)) by rw [hb0]; simp [own_en]) (by omega) (by omega); rw [hvl] at q; exact q
    have hg1 : (own_pad (own_bv bl) 4096 (.int 0))[P + 1]? = some (.int (Int32.ofInt (((own_u8 cs).length / 128 : Nat) : Int))) := by have q := own_get (mid := own_vl (own_u8 cs).length) (post := own_u8 cs ++ post) (t := 1) (P := P + 1) (show bl = pre ++ (own_vl (own_u8 cs).length ++ (own_u8 cs ++ post)) by rw [hb0]; simp [own_en]) (by omega) (by omega); rw [hvl] at q; exact q
    have hw1 := own_v2 _ (show (own_u8 cs).length < 400 by omega) (by omega)
    obtain ⟨T103, X103, e103, st103⟩ := getF Xp hx hZ hown (host := "") (Or.inl (ww hw 47 rfl)) Via.refl ep Fb (g := (mkF m 34 #[vr t, vi x1, vr ar, vi (Int32.ofNat P), vi x4, vi 0, vi 0, t7] [(.ref t)])) rfl rfl (dd 1 rfl)
    obtain ⟨cl104, Ar104, -, -, hin104, hat104⟩ := Vb.at (j := (Int32.ofNat P)) (v := (.int (Int32.ofInt (((own_u8 cs).length % 128 : Nat) - 128 : Int)))) (own_pos (by omega)) (by rw [own_clamp (by omega)]; exact hg0)
    refine own_goS (S' := (T103.setTop (mkF m 42 #[vr t, vi x1, vr ar, vi ((Int32.ofNat P) + (1 : Int32)), vi x4, vi 0, vi 0, t7] [(.int (Int32.ofInt (((own_u8 cs).length % 128 : Nat) - 128 : Int)))]))) (fun tq kq => XS.aloadN Xp.here hx rfl (dd 0 rfl) rfl rfl (st103 tq (XS.iloadN X103.here hx rfl (dd 2 rfl) rfl (XS.iinc X103.here hx rfl (dd 3 rfl) rfl (l' := #[vr t, vi x1, vr ar, vi ((Int32.ofNat P) + (1 : Int32)), vi x4, vi 0, vi 0, t7]) rfl (X103.baloadBytes hx (j := (Int32.ofNat P)) (v := (.int (Int32.ofInt (((own_u8 cs).length % 128 : Nat) - 128 : Int)))) (by rw [e103]; exact Ar104.1) (State.isArrayOf_alike hZ.alike Ar104.2.1) Ar104.2.2 hin104 hat104 (g := (mkF m 41 #[vr t, vi x1, vr ar, vi ((Int32.ofNat P) + (1 : Int32)), vi x4, vi 0, vi 0, t7] [(.int (Int32.ofNat P)), (.ref bb)])) rfl rfl (dd 4 rfl) tq kq))))) ?_
    rw [own_succ (P)]
    refine own_goS (S' := (T103.setTop (mkF m 55 #[vr t, vi x1, vr ar, vi (Int32.ofNat (P + 1)), vi x4, vi 0, vi 0, .val (.int (Int32.ofInt (((own_u8 cs).length % 128 : Nat) - 128 : Int)))] [(.int ((0 : Int32) ||| (((Int32.ofInt (((own_u8 cs).length % 128 : Nat) - 128 : Int)) &&& (127 : Int32)) <<< ((0 : Int32) &&& 31))))]))) (fun tq kq => XS.istoreS X103.here hx rfl (dd 5 rfl) rfl rfl ho7 (XS.iload X103.here hx rfl (dd 6 rfl) rfl (XS.iload X103.here hx rfl (dd 7 rfl) rfl (XS.bipush X103.here hx rfl (dd 8 rfl) (XS.iand X103.here hx rfl (dd 9 rfl) rfl (XS.iload X103.here hx rfl (dd 10 rfl) rfl (XS.ishl X103.here hx rfl (dd 11 rfl) rfl (XS.ior X103.here hx rfl (dd 12 rfl) rfl kq)))))))) ?_
    rw [hw1.1]
    obtain ⟨T105, X105, e105, st105⟩ := getF X103 hx hZ hown (host := "") (Or.inl (ww hw 47 rfl)) Via.refl e103 Fb (g := (mkF m 34 #[vr t, vi x1, vr ar, vi (Int32.ofNat (P + 1)), vi x4, vi (Int32.ofNat ((own_u8 cs).length % 128)), vi 7, .val (.int (Int32.ofInt (((own_u8 cs).length % 128 : Nat) - 128 : Int)))] [(.ref t)])) rfl rfl (dd 1 rfl)
    obtain ⟨cl106, Ar106, -, -, hin106, hat106⟩ := Vb.at (j := (Int32.ofNat (P + 1))) (v := (.int (Int32.ofInt (((own_u8 cs).length / 128 : Nat) : Int)))) (own_pos (by omega)) (by rw [own_clamp (by omega)]; exact hg1)
    refine own_goS (S' := (T105.setTop (mkF m 42 #[vr t, vi x1, vr ar, vi ((Int32.ofNat (P + 1)) + (1 : Int32)), vi x4, vi (Int32.ofNat ((own_u8 cs).length % 128)), vi 7, .val (.int (Int32.ofInt (((own_u8 cs).length % 128 : Nat) - 128 : Int)))] [(.int (Int32.ofInt (((own_u8 cs).length / 128 : Nat) : Int)))]))) (fun tq kq => XS.istore X103.here hx rfl (dd 13 rfl) rfl (l' := #[vr t, vi x1, vr ar, vi (Int32.ofNat (P + 1)), vi x4, vi (Int32.ofNat ((own_u8 cs).length % 128)), vi 0, .val (.int (Int32.ofInt (((own_u8 cs).length % 128 : Nat) - 128 : Int)))]) rfl (XS.iinc X103.here hx rfl (dd 14 rfl) rfl (l' := #[vr t, vi x1, vr ar, vi (Int32.ofNat (P + 1)), vi x4, vi (Int32.ofNat ((own_u8 cs).length % 128)), vi 7, .val (.int (Int32.ofInt (((own_u8 cs).length % 128 : Nat) - 128 : Int)))]) rfl (XS.iload X103.here hx rfl (dd 15 rfl) rfl (XS.sipush X103.here hx rfl (dd 16 rfl) (XS.iand X103.here hx rfl (dd 17 rfl) rfl (XS.ifYes X103.here hx rfl (pc0 := 66) (pc' := 33) rfl (dd 18 rfl) rfl ((if0 _ _).trans (feq hw1.2.1).2) (by decide) (by decide) (XS.aloadN X103.here hx rfl (dd 0 rfl) rfl rfl (st105 tq (XS.iloadN X105.here hx rfl (dd 2 rfl) rfl (XS.iinc X105.here hx rfl (dd 3 rfl) rfl (l' := #[vr t, vi x1, vr ar, vi ((Int32.ofNat (P + 1)) + (1 : Int32)), vi x4, vi (Int32.ofNat ((own_u8 cs).length % 128)), vi 7, .val (.int (Int32.ofInt (((own_u8 cs).length % 128 : Nat) - 128 : Int)))]) rfl (X105.baloadBytes hx (j := (Int32.ofNat (P + 1))) (v := (.int (Int32.ofInt (((own_u8 cs).length / 128 : Nat) : Int)))) (by rw [e105]; exact Ar106.1) (State.isArrayOf_alike hZ.alike Ar106.2.1) Ar106.2.2 hin106 hat106 (g := (mkF m 41 #[vr t, vi x1, vr ar, vi ((Int32.ofNat (P + 1)) + (1 : Int32)), vi x4, vi (Int32.ofNat ((own_u8 cs).length % 128)), vi 7, .val (.int (Int32.ofInt (((own_u8 cs).length % 128 : Nat) - 128 : Int)))] [(.int (Int32.ofNat (P + 1))), (.ref bb)])) rfl rfl (dd 4 rfl) tq kq))))))))))) ?_
    rw [own_succ (P + 1)]
    refine own_goS (S' := (T105.setTop (mkF m 55 #[vr t, vi x1, vr ar, vi (Int32.ofNat (P + 1 + 1)), vi x4, vi (Int32.ofNat ((own_u8 cs).length % 128)), vi 7, .val (.int (Int32.ofInt (((own_u8 cs).length / 128 : Nat) : Int)))] [(.int ((Int32.ofNat ((own_u8 cs).length % 128)) ||| (((Int32.ofInt (((own_u8 cs).length / 128 : Nat) : Int)) &&& (127 : Int32)) <<< ((7 : Int32) &&& 31))))]))) (fun tq kq => XS.istore X105.here hx rfl (dd 5 rfl) rfl (l' := #[vr t, vi x1, vr ar, vi (Int32.ofNat (P + 1 + 1)), vi x4, vi (Int32.ofNat ((own_u8 cs).length % 128)), vi 7, .val (.int (Int32.ofInt (((own_u8 cs).length / 128 : Nat) : Int)))]) rfl (XS.iload X105.here hx rfl (dd 6 rfl) rfl (XS.iload X105.here hx rfl (dd 7 rfl) rfl (XS.bipush X105.here hx rfl (dd 8 rfl) (XS.iand X105.here hx rfl (dd 9 rfl) rfl (XS.iload X105.here hx rfl (dd 10 rfl) rfl (XS.ishl X105.here hx rfl (dd 11 rfl) rfl (XS.ior X105.here hx rfl (dd 12 rfl) rfl kq)))))))) ?_
    rw [hw1.2.2.1]
    refine own_goS (S' := (T105.setTop (mkF m 69 #[vr t, vi x1, vr ar, vi (Int32.ofNat (P + 1 + 1)), vi x4, vi (Int32.ofNat (own_u8 cs).length), vi 14, .val (.int (Int32.ofInt (((own_u8 cs).length / 128 : Nat) : Int)))] []))) (fun tq kq => XS.istore X105.here hx rfl (dd 13 rfl) rfl (l' := #[vr t, vi x1, vr ar, vi (Int32.ofNat (P + 1 + 1)), vi x4, vi (Int32.ofNat (own_u8 cs).length), vi 7, .val (.int (Int32.ofInt (((own_u8 cs).length / 128 : Nat) : Int)))]) rfl (XS.iinc X105.here hx rfl (dd 14 rfl) rfl (l' := #[vr t, vi x1, vr ar, vi (Int32.ofNat (P + 1 + 1)), vi x4, vi (Int32.ofNat (own_u8 cs).length), vi 14, .val (.int (Int32.ofInt (((own_u8 cs).length / 128 : Nat) : Int)))]) rfl (XS.iload X105.here hx rfl (dd 15 rfl) rfl (XS.sipush X105.here hx rfl (dd 16 rfl) (XS.iand X105.here hx rfl (dd 17 rfl) rfl (XS.ifNo X105.here hx rfl (dd 18 rfl) rfl ((if0 _ _).trans (teq hw1.2.2.2).2) kq)))))) ?_
    rw [show P + 1 + 1 = P + (own_vl (own_u8 cs).length).length by rw [hvL]]
    exact ⟨_, ⟨T105, _, _, rfl, X105, e105⟩, fun _ q => q⟩
def Q_cel1 (Z : State) (h0 : Heap) (n0 : Nat) (t : Addr) (bb : Addr) (bs : Addr) (bk : Addr) (k1 : ClassId) (k2 : ClassId) (k3 : ClassId) (bl : List Int) (sl : List Value) (kl : List Value) (r : Nat) (ri : Nat) (pp : Nat) (pre : List Int) (post : List Int) (cs0 : List Nat) (z : Int32) (u : Addr) (fm : Value) (v : Option Value) (h : Heap) (L : List Loc) : Prop := ∃ (b : Addr) (kb : ClassId) (y0 : Addr), v = some (.ref b) ∧ Fr n0 L ∧ Keep h0 h [] ∧ h0.size ≤ b ∧ own_Ar Z h b kb (.object "java/lang/String") [(.ref y0)] ∧ own_Str Z h h.size y0 cs0
theorem cel1 (l : Launch) (Z : State) (a0 : Array Value) (hw : ∀ d ∈ tables_1, d.before a0 Z = true) (ws : List Jvm.Cond) (h0 : Heap) (n0 : Nat) (O0 : Old Z n0 h0) (t : Addr) (bb : Addr) (bs : Addr) (bk : Addr) (k1 : ClassId) (k2 : ClassId) (k3 : ClassId) (bl : List Int) (sl : List Value) (kl : List Value) (r : Nat) (ri : Nat) (pp : Nat) (pre : List Int) (post : List Int) (cs0 : List Nat) (z : Int32) (u : Addr) (fm : Value) (hEL : EW Z a0 own_EL) (HP : own_PK Z z) (HU : own_UK Z u) (HF : own_FK Z fm) (TRh : own_TR Z h0 t bb bs bk k1 k2 k3 (1 : Int32) bl sl kl r) (hri : ri ≤ 1) (hst : sl[ri]? = some (.int (Int32.ofNat pp))) (hbl : bl = pre ++ (own_en cs0 ++ (post))) (hpp : pp = pre.length) (hb4 : bl.length ≤ 4000) (hbr : ∀ z ∈ bl, -128 ≤ z ∧ z < 128) (hl0 : cs0.length ≤ 130) (hc0 : ∀ j, cs0.getD j 0 < 32768) :
    MetFree l M1 (head1 (Jvm.Cond.code M1 prog_15_method_5_code 8 (some (.array (.object "java/lang/String"))) :: ws) ({ frames := 7, cells := 5, slots := 2005, locals := 131 } : Room)) (fun aq U => aq = #[(.ref t), (.int (Int32.ofNat ri))] ∧ Z.Warmed39 U.vm ∧ U.heap = h0 ∧ CHv Z own_EL U.vm h0) (fun _ _ _ _ _ => True) (fun _ U oo U' => ∃ v L, oo = .returned v ∧ Q_cel1 Z h0 n0 t bb bs bk k1 k2 k3 bl sl kl r ri pp pre post cs0 z u fm v U'.heap L ∧ CHr Z own_EL U.vm U.heap U'.vm U'.heap ∧ ReturnedEndW U oo U' L ({ frames := 7, cells := 5, slots := 2005, locals := 131 } : Room).cells ({ frames := 7, cells := 5, slots := 2005, locals := 131 } : Room).slots) := by
  refine MetFree.of_bodySF (plainFor_of_name pn_rm9) hisR ?_
  intro p e s m args below meth c s₁ Bd hml0 hP hK
  obtain ⟨rfl, hZ, hh, hCH⟩ := hP
  have C0 := CHr.refl hCH
  have hS0 := own_since s s.heap.size
  have hk0 : s.heap.size ≤ h0.size := Nat.le_of_eq (congrArg Array.size hh)
  have hx := Bd.exec
  have hby := Bd.bytes
  have dd := @dq _ _ _ hby D19
  have hml : c.maxLocals = 8 := hml0
  have hown : s.vm.findClass "com/example/vestwright/vestwright/cli/TableRows" = some m.cls := findClass_of_methodNamed Bd.named
  have hnm := (name_of_methodNamed Bd.named Bd.method).1
  have hlk := Bd.notSynchronized
  have hret := Bd.returns
  have X0 : Stand p l e ({ frames := 7, cells := 5, slots := 2005, locals := 131 } : Room) s m #[(.ref t), (.int (Int32.ofNat ri))] below meth c s₁ [] 0 0 := Stand.of_body Bd
  have e0 : s₁.heap = h0 := by rw [← hh, Bd.state]; rfl
  have N0 := Fr.nil n0
  have K0 := Keep.refl h0 []
  refine own_goH (S' := (s₁.setTop (mkF m 0 #[vr t, vi (Int32.ofNat ri), .unset, .unset, .unset, .unset, .unset, .unset] []))) (fun tq kq => castTop rfl kq) ?_
  show own_GH p e s below Z own_EL (Q_cel1 Z h0 n0 t bb bs bk k1 k2 k3 bl sl kl r ri pp pre post cs0 z u fm) _ _ _
  obtain ⟨SC, hz, SA, SH, SL⟩ := id HP
  obtain ⟨SI, SU, EU⟩ := id HU
  obtain ⟨⟨Et, Fw, Fb, Fu, Fs, Fk, Fz⟩, ⟨Vb, Vs, Vk⟩, ⟨ls, lk⟩, nq1, nq2, nq3, nq4, nq5, nq6⟩ := TRh
  have hlen := congrArg List.length hbl
  simp only [List.length_append, own_enlen] at hlen
  have hu0 : (own_u8 cs0).length ≤ 390 := Nat.le_trans (own_u8le cs0) (by omega)
  have hv0 := own_vll (own_u8 cs0).length
  have hb0 : bl = pre ++ (own_en cs0 ++ post) := hbl
  have hpl1 : (pre ++ own_en cs0).length = pre.length + ((own_vl (own_u8 cs0).length).length + (own_u8 cs0).length) := by rw [List.length_append, own_enlen]
  obtain ⟨T101, X101, e101, st101⟩ := getF X0 hx hZ hown (host := "") (Or.inl (ww hw 54 rfl)) Via.refl e0 Fw (g := (mkF m 1 #[vr t, vi (Int32.ofNat ri), .unset, .unset, .unset, .unset, .unset, .unset] [(.ref t)])) rfl rfl (dd 20 rfl)
  obtain ⟨T102, h102, k102, X102, e102, E102, A102, Ov102, st102⟩ := newR X101 hx hZ hown (ww hw 122 rfl) (ww hw 56 rfl) e101 (g := (mkF m 4 #[vr t, vi (Int32.ofNat ri), .unset, .unset, .unset, .unset, .unset, .unset] [(.int 1)])) rfl (dd 21 rfl) rfl (by decide) (cap := 1) (by decide) (by decide) (by decide) (by decide)
  obtain ⟨b102, g102⟩ : ∃ z, z = h0.size := ⟨_, rfl⟩
  rw [← g102] at A102 st102
  have ne_t_b102 := own_nE Et.lt g102
  have ge_b102 : n0 ≤ b102 := Nat.le_trans (own_osz O0) (Nat.le_of_eq g102.symm)
  have gk_b102 : h0.size ≤ b102 := Nat.le_trans K0.1 (Nat.le_of_eq g102.symm)
  have V102 : own_Ar Z h102 b102 k102 (.object "java/lang/String") [.null] := own_Ar.new A102 (by decide)
  have O102 := O0.ext E102
  have K102 := K0.ext E102
  have cr103 := CHr.ext E102 C0.1
  have Ccr103 := C0.trans cr103
  have f104 := (Fs.ext E102)
  obtain ⟨T105, X105, e105, st105⟩ := getF X102 hx hZ hown (host := "") (Or.inl (ww hw 50 rfl)) Via.refl e102 f104 (g := (mkF m 9 #[vr t, vi (Int32.ofNat ri), vr b102, .unset, .unset, .unset, .unset, .unset] [(.ref t)])) rfl rfl (dd 24 rfl)
  have f106 := (Vs.ext E102)
  obtain ⟨cl107, Ar107, -, -, hin107, hat107⟩ := f106.at (j := (Int32.ofNat ri)) (v := (.int (Int32.ofNat pp))) (own_pos (by omega)) (by rw [own_clamp (by omega)]; exact hst)
  have f108 := (Fw.ext E102)
  obtain ⟨T109, X109, e109, st109⟩ := getF X105 hx hZ hown (host := "") (Or.inl (ww hw 54 rfl)) Via.refl e105 f108 (g := (mkF m 21 #[vr t, vi (Int32.ofNat ri), vr b102, vi (Int32.ofNat pp), vi 0, .unset, .unset, .unset] [(.ref t), (.int 0)])) rfl rfl (dd 32 rfl)
  have f111 := (Fb.ext E102)
  have f112 := (Vb.ext E102)
  obtain ⟨_, ⟨T110, s6110, s7110, rfl, X110, e110⟩, st110⟩ := seg19 hx hZ hw hby hml hown t bb k1 bl pre post cs0 (pp) (Int32.ofNat ri) b102 (0 : Int32) .unset One.u hb0 (by omega) (by omega) hu0 X109 e109 f111 f112
  obtain ⟨T113, h113, X113, e113, E113, A113, D113, -, st113⟩ := newO X110 hx hZ hown (ww hw 122 rfl) (ww hw 9 rfl) (ww hw 10 rfl) e110 (g := (mkF m 72 #[vr t, vi (Int32.ofNat ri), vr b102, .val (.int (Int32.ofNat (pp + (own_vl (own_u8 cs0).length).length))), vi 0, vi (Int32.ofNat (own_u8 cs0).length), vi s6110, vi s7110] [(.int 0), (.ref b102)])) rfl (dd 40 rfl) (by decide) (by decide)
  obtain ⟨b113, g113⟩ : ∃ z, z = h102.size := ⟨_, rfl⟩
  rw [← g113] at A113 D113 st113
  have ne_b102_b113 := own_nE V102.lt g113
  have ne_bb_b113 := own_nE f112.lt g113
  have f115 := (Et.ext E102)
  have ne_t_b113 := own_nE f115.lt g113
  have ge_b113 : n0 ≤ b113 := Nat.le_trans (own_osz O102) (Nat.le_of_eq g113.symm)
  have gk_b113 : h0.size ≤ b113 := Nat.le_trans K102.1 (Nat.le_of_eq g113.symm)
  have O113 := O102.ext E113
  have K113 := K102.ext E113
  have cr116 := CHr.ext E113 Ccr103.1
  have Ccr116 := Ccr103.trans cr116
  have sf_b113 := own_Sf.ext Ccr103.1 E113 g113 A113.lt
  have F_coder_b113 : Fld Z h113 b113 "java/lang/String" "coder" "B" (.int 0) := D113 (Or.inr (ww hw 34 rfl)) (ty := .byte) (by decide)
  have F_value_b113 : Fld Z h113 b113 "java/lang/String" "value" "[B" .null := D113 (Or.inr (ww hw 36 rfl)) (ty := (.array .byte)) (by decide)
  refine own_goH (S' := (T113.setTop (mkF m 77 #[vr t, vi (Int32.ofNat ri), vr b102, .val (.int (Int32.ofNat (pp + (own_vl (own_u8 cs0).length).length))), vi 0, vi (Int32.ofNat (own_u8 cs0).length), vi s6110, vi s7110] [(.ref t), (.ref b113), (.ref b113), (.int 0), (.ref b102)]))) (fun tq kq => XS.aloadN X0.here hx rfl (dd 19 rfl) rfl rfl (st101 tq (st102 tq (XS.astoreN X102.here hx rfl (dd 22 rfl) rfl rfl (l' := #[vr t, vi (Int32.ofNat ri), vr b102, .unset, .unset, .unset, .unset, .unset]) rfl (XS.aloadN X102.here hx rfl (dd 23 rfl) rfl rfl (st105 tq (XS.iloadN X105.here hx rfl (dd 25 rfl) rfl (X105.iaload hx (j := (Int32.ofNat ri)) (v := (.int (Int32.ofNat pp))) (by rw [e105]; exact Ar107.1) (State.isArrayOf_alike hZ.alike Ar107.2.1) Ar107.2.2 hin107 hat107 (g := (mkF m 13 #[vr t, vi (Int32.ofNat ri), vr b102, .unset, .unset, .unset, .unset, .unset] [(.int (Int32.ofNat ri)), (.ref bs)])) rfl rfl (dd 26 rfl) tq (XS.istoreN X105.here hx rfl (dd 27 rfl) rfl (l' := #[vr t, vi (Int32.ofNat ri), vr b102, vi (Int32.ofNat pp), .unset, .unset, .unset, .unset]) rfl (XS.iconst X105.here hx rfl (dd 28 rfl) (XS.istore X105.here hx rfl (dd 29 rfl) rfl (l' := #[vr t, vi (Int32.ofNat ri), vr b102, vi (Int32.ofNat pp), vi 0, .unset, .unset, .unset]) rfl (XS.iload X105.here hx rfl (dd 30 rfl) rfl (XS.aloadN X105.here hx rfl (dd 31 rfl) rfl rfl (st109 tq (XS.icmpNo X109.here hx rfl (dd 33 rfl) rfl (tlt (by decide : (0 : Int32) < (1 : Int32))).2.1 (XS.iconst X109.here hx rfl (dd 34 rfl) (XS.istore X109.here hx rfl (dd 35 rfl) rfl (l' := #[vr t, vi (Int32.ofNat ri), vr b102, vi (Int32.ofNat pp), vi 0, vi 0, .unset, .unset]) rfl (XS.iconst X109.here hx rfl (dd 36 rfl) (XS.istore X109.here hx rfl (dd 37 rfl) rfl (l' := #[vr t, vi (Int32.ofNat ri), vr b102, vi (Int32.ofNat pp), vi 0, vi 0, vi 0, .unset]) rfl (st110 tq (XS.aloadN X110.here hx rfl (dd 38 rfl) rfl rfl (XS.iload X110.here hx rfl (dd 39 rfl) rfl (st113 tq (XS.dup X113.here hx rfl (dd 41 rfl) rfl rfl (XS.aloadN X113.here hx rfl (dd 42 rfl) rfl rfl kq))))))))))))))))))))))))) ?_
  have f117 := (f111.ext E113)
  obtain ⟨T118, X118, e118, st118⟩ := getF X113 hx hZ hown (host := "") (Or.inl (ww hw 47 rfl)) Via.refl e113 f117 (g := (mkF m 77 #[vr t, vi (Int32.ofNat ri), vr b102, .val (.int (Int32.ofNat (pp + (own_vl (own_u8 cs0).length).length))), vi 0, vi (Int32.ofNat (own_u8 cs0).length), vi s6110, vi s7110] [(.ref t), (.ref b113), (.ref b113), (.int 0), (.ref b102)])) rfl rfl (dd 43 rfl)
  obtain ⟨T119, X119, e119, st119⟩ := getS2 X118 hx hZ hown (host := "") (Or.inl (ww hw 64 rfl)) Via.refl e118 (SU.ext O113.2) (g := (mkF m 83 #[vr t, vi (Int32.ofNat ri), vr b102, .val (.int (Int32.ofNat (pp + (own_vl (own_u8 cs0).length).length))), vi 0, vi (Int32.ofNat (own_u8 cs0).length), vi s6110, vi s7110] [(.int (Int32.ofNat (own_u8 cs0).length)), (.int (Int32.ofNat (pp + (own_vl (own_u8 cs0).length).length))), (.ref bb), (.ref b113), (.ref b113), (.int 0), (.ref b102)])) rfl (dd 46 rfl)
  have f120 := (V102.ext E113)
  have f121 := (f112.ext E113)
  obtain ⟨_, _, ⟨T125, L125, k125, n125⟩, -, X125, hS125, hg125, ⟨Lc125, hQ125, l125, y125, z125, hC125⟩, st125⟩ := X119.specialBackS hx (y := M13) rfl hown (mvT hZ (ww hw 123 rfl)) (mvT hZ (ww hw 124 rfl)) (mvT hZ (ww hw 125 rfl)) (by decide) (backOfSH (s := s) (vm0 := s.vm) (W := 3) (rm20 l Z a0 hw [] h113 n0 O113 b113 bb k1 (own_pad (own_bv bl) 4096 (.int 0)) (pp + (own_vl (own_u8 cs0).length).length) cs0 cs0.length (own_u8 cs0).length z u fm hEL HP HU HF A113 F_value_b113 F_coder_b113 ge_b113 f121 (own_src hb0 (by omega)) rfl (by omega) rfl hc0 (by omega) (by rw [own_padlen (by rw [own_bvlen]; omega)]; decide) (by rw [own_padlen (by rw [own_bvlen]; omega)]; omega) (own_padfit (own_bvfit hbr)) ne_bb_b113) hZ (ww hw 125 rfl) (ww hw 10 rfl) (by decide) (by decide) hEL Ccr116.1) (g := (mkF m 86 #[vr t, vi (Int32.ofNat ri), vr b102, .val (.int (Int32.ofNat (pp + (own_vl (own_u8 cs0).length).length))), vi 0, vi (Int32.ofNat (own_u8 cs0).length), vi s6110, vi s7110] [(.ref u), (.int (Int32.ofNat (own_u8 cs0).length)), (.int (Int32.ofNat (pp + (own_vl (own_u8 cs0).length).length))), (.ref bb), (.ref b113), (.ref b113), (.int 0), (.ref b102)])) rfl (by rw [hml]; rfl) (Steps.refl _) (a := b113) (argsL := [(.ref bb), (.int (Int32.ofNat (pp + (own_vl (own_u8 cs0).length).length))), (.int (Int32.ofNat (own_u8 cs0).length)), (.ref u)]) (rest := [(.ref b113), (.int 0), (.ref b102)]) (lenOf pd_36 rfl) rfl (by show 2 * 0 + _ ≤ _; exact Nat.le_of_eq rfl) (dd 47 rfl) (fun _ _ => ⟨rfl, e119, (by decide : 2 + 3 ≤ _), (by decide : 5 + 2000 ≤ _)⟩)
  dsimp only [Pt.U, Pt.locs, Pt.cells, Pt.slots] at hS125 hg125 hC125
  have hSn125 : s.Since T125.vm T125.heap.size := hS0.trans hS125 (Nat.le_trans (by rw [e119]; exact (Nat.le_trans (Nat.le_trans hk0 E102.1) E113.1)) hg125)
  have hZ : Z.Warmed39 (s.setVm T125.vm).vm := State.Warmed39.trans (t := s) hZ hS125.1
  have hown : (s.setVm T125.vm).vm.findClass "com/example/vestwright/vestwright/cli/TableRows" = some m.cls := by rw [show (s.setVm T125.vm).vm = T125.vm from rfl, hS125.1.alike.findClass]; exact hown
  have cr126 := hC125
  have Ccr126 := Ccr116.trans cr126
  have sf127 := sf_b113.go cr126
  dsimp only [Pt.U, Pt.locs, Pt.cells, Pt.slots] at X125 l125 y125 z125 st125 hQ125
  subst l125 y125 z125
  have X125 : Stand p l e _ (s.setVm T125.vm) m _ below meth c T125 _ _ _ := X125
  obtain ⟨rfl, N125, K125, d125, kd125, Fv125, Fc125, Vd125, Xd125⟩ := hQ125
  have Nf125 := Fr.app N0 N125
  have KK125 := K113.trans K125 (allS (Or.inr gk_b113) all0)
  have f128 := (f120.keep K125 (ninS ne_b102_b113 nin0))
  have ne_d_ar125 := own_ArNe Vd125 f128 (by nofun)
  obtain ⟨cl129, Ar129, qa129, sa129, hin129, -⟩ := f128.at (j := (0 : Int32)) (by decide) rfl
  have f130 := (A113.keep K125)
  obtain ⟨T129, h129, X129, e129, W129, st129⟩ := stR X125 hx hZ rfl Ar129 (j := (0 : Int32)) hin129 rfl (Sto.of Ar129 (qa129 ▸ Ov102) (Ins.self f130)) (g := (mkF m 89 #[vr t, vi (Int32.ofNat ri), vr b102, .val (.int (Int32.ofNat (pp + (own_vl (own_u8 cs0).length).length))), vi 0, vi (Int32.ofNat (own_u8 cs0).length), vi s6110, vi s7110] [(.ref b113), (.int 0), (.ref b102)])) rfl rfl (dd 48 rfl)
  have N129 := Fr.snoc X129 Nf125 ge_b102
  have K129 := KK125.wr W129 (Or.inr gk_b102)
  have cr131 := CHr.wr W129 (own_safeAr hZ.alike f128 (by nofun)) Ccr126.1
  have Ccr131 := Ccr126.trans cr131
  have sf132 := sf127.go cr131
  have V129 : own_Ar Z h129 b102 k102 (.object "java/lang/String") [(.ref b113)] := own_Ar.set Ar129 qa129 sa129 f128.small W129
  refine own_goH (S' := (T129.setTop (mkF m 94 #[vr t, vi (Int32.ofNat ri), vr b102, .val (.int (Int32.ofNat (pp + (own_vl (own_u8 cs0).length).length))), vi 0, vi (Int32.ofNat (own_u8 cs0).length), vi s6110, vi s7110] [(.int ((Int32.ofNat (pp + (own_vl (own_u8 cs0).length).length)) + (Int32.ofNat (own_u8 cs0).length)))]))) (fun tq kq => st118 tq (XS.iloadN X118.here hx rfl (dd 44 rfl) rfl (XS.iload X118.here hx rfl (dd 45 rfl) rfl (st119 tq (st125.trans (st129 tq (XS.iloadN X129.here hx rfl (dd 49 rfl) rfl (XS.iload X129.here hx rfl (dd 50 rfl) rfl (XS.iadd X129.here hx rfl (dd 51 rfl) rfl kq))))))))) ?_
  rw [own_addN (pp + (own_vl (own_u8 cs0).length).length) (own_u8 cs0).length]
  have f133 := (((f108.ext E113).keep K125 (ninS ne_t_b113 nin0)).other W129 (Or.inl ne_t_b102))
  obtain ⟨T134, X134, e134, st134⟩ := getF X129 hx hZ hown (host := "") (Or.inl (ww hw 54 rfl)) Via.refl e129 f133 (g := (mkF m 21 #[vr t, vi (Int32.ofNat ri), vr b102, .val (.int (Int32.ofNat (pp + (own_vl (own_u8 cs0).length).length + (own_u8 cs0).length))), vi 1, vi (Int32.ofNat (own_u8 cs0).length), vi s6110, vi s7110] [(.ref t), (.int 1)])) rfl rfl (dd 32 rfl)
  refine own_goH (S' := (T134.setTop (mkF m 102 #[vr t, vi (Int32.ofNat ri), vr b102, .val (.int (Int32.ofNat (pp + (own_vl (own_u8 cs0).length).length + (own_u8 cs0).length))), vi 1, vi (Int32.ofNat (own_u8 cs0).length), vi s6110, vi s7110] [(.ref b102)]))) (fun tq kq => XS.istoreN X129.here hx rfl (dd 52 rfl) rfl (l' := #[vr t, vi (Int32.ofNat ri), vr b102, .val (.int (Int32.ofNat (pp + (own_vl (own_u8 cs0).length).length + (own_u8 cs0).length))), vi 0, vi (Int32.ofNat (own_u8 cs0).length), vi s6110, vi s7110]) rfl (XS.iinc X129.here hx rfl (dd 53 rfl) rfl (l' := #[vr t, vi (Int32.ofNat ri), vr b102, .val (.int (Int32.ofNat (pp + (own_vl (own_u8 cs0).length).length + (own_u8 cs0).length))), vi 1, vi (Int32.ofNat (own_u8 cs0).length), vi s6110, vi s7110]) rfl (XS.goto X129.here hx rfl (pc0 := 98) (pc' := 18) rfl (dd 54 rfl) (by decide) (by decide) (XS.iload X129.here hx rfl (dd 30 rfl) rfl (XS.aloadN X129.here hx rfl (dd 31 rfl) rfl rfl (st134 tq (XS.icmpYes X134.here hx rfl (pc0 := 24) (pc' := 101) rfl (dd 33 rfl) rfl (flt (by decide : ¬ ((1 : Int32) < (1 : Int32)))).2.1 (by decide) (by decide) (XS.aloadN X134.here hx rfl (dd 55 rfl) rfl rfl kq)))))))) ?_
  refine own_retAH X134 hSn125 (by rw [e134]; exact (Nat.le_trans (Nat.le_refl _) (Nat.le_of_eq W129.size.symm))) hZ hEL hh (by rw [e134]; exact Ccr131) hx hlk hret rfl rfl (dd 56 rfl) (by decide) (by decide) ?_
  have f135 := (f130.wr W129)
  have f136 := (Fc125.other W129 (Or.inl (Ne.symm ne_b102_b113)))
  have f137 := (Fv125.other W129 (Or.inl (Ne.symm ne_b102_b113)))
  have f138 := (Vd125.other W129 ne_d_ar125)
  have f139 := (Xd125.wr W129)
  rw [e134]
  exact ⟨b102, _, b113, rfl, N129, K129, gk_b102, V129, ⟨Nat.le_refl _, f135.lt, f135, f136, d125, _, f138.lt, f137, f138, f139⟩⟩
def Q_cel2 (Z : State) (h0 : Heap) (n0 : Nat) (t : Addr) (bb : Addr) (bs : Addr) (bk : Addr) (k1 : ClassId) (k2 : ClassId) (k3 : ClassId) (bl : List Int) (sl : List Value) (kl : List Value) (r : Nat) (ri : Nat) (pp : Nat) (pre : List Int) (post : List Int) (cs0 : List Nat) (cs1 : List Nat) (z : Int32) (u : Addr) (fm : Value) (v : Option Value) (h : Heap) (L : List Loc) : Prop := ∃ (b : Addr) (kb : ClassId) (y0 y1 : Addr), v = some (.ref b) ∧ Fr n0 L ∧ Keep h0 h [] ∧ h0.size ≤ b ∧ own_Ar Z h b kb (.object "java/lang/String") [(.ref y0), (.ref y1)] ∧ own_Str Z h h.size y0 cs0 ∧ own_Str Z h h.size y1 cs1
theorem cel2 (l : Launch) (Z : State) (a0 : Array Value) (hw : ∀ d ∈ tables_1, d.before a0 Z = true) (ws : List Jvm.Cond) (h0 : Heap) (n0 : Nat) (O0 : Old Z n0 h0) (t : Addr) (bb : Addr) (bs : Addr) (bk : Addr) (k1 : ClassId) (k2 : ClassId) (k3 : ClassId) (bl : List Int) (sl : List Value) (kl : List Value) (r : Nat) (ri : Nat) (pp : Nat) (pre : List Int) (post : List Int) (cs0 : List Nat) (cs1 : List Nat) (z : Int32) (u : Addr) (fm : Value) (hEL : EW Z a0 own_EL) (HP : own_PK Z z) (HU : own_UK Z u) (HF : own_FK Z fm) (TRh : own_TR Z h0 t bb bs bk k1 k2 k3 (2 : Int32) bl sl kl r) (hri : ri ≤ 1) (hst : sl[ri]? = some (.int (Int32.ofNat pp))) (hbl : bl = pre ++ (own_en cs0 ++ (own_en cs1 ++ (post)))) (hpp : pp = pre.length) (hb4 : bl.length ≤ 4000) (hbr : ∀ z ∈ bl, -128 ≤ z ∧ z < 128) (hl0 : cs0.length ≤ 130) (hc0 : ∀ j, cs0.getD j 0 < 32768) (hl1 : cs1.length ≤ 130) (hc1 : ∀ j, cs1.getD j 0 < 32768) :
    MetFree l M1 (head1 (Jvm.Cond.code M1 prog_15_method_5_code 8 (some (.array (.object "java/lang/String"))) :: ws) ({ frames := 7, cells := 9, slots := 4010, locals := 131 } : Room)) (fun aq U => aq = #[(.ref t), (.int (Int32.ofNat ri))] ∧ Z.Warmed39 U.vm ∧ U.heap = h0 ∧ CHv Z own_EL U.vm h0) (fun _ _ _ _ _ => True) (fun _ U oo U' => ∃ v L, oo = .returned v ∧ Q_cel2 Z h0 n0 t bb bs bk k1 k2 k3 bl sl kl r ri pp pre post cs0 cs1 z u fm v U'.heap L ∧ CHr Z own_EL U.vm U.heap U'.vm U'.heap ∧ ReturnedEndW U oo U' L ({ frames := 7, cells := 9, slots := 4010, locals := 131 } : Room).cells ({ frames := 7, cells := 9, slots := 4010, locals := 131 } : Room).slots) := by
  refine MetFree.of_bodySF (plainFor_of_name pn_rm9) hisR ?_
  intro p e s m args below meth c s₁ Bd hml0 hP hK
  obtain ⟨rfl, hZ, hh, hCH⟩ := hP
  have C0 := CHr.refl hCH
  have hS0 := own_since s s.heap.size
  have hk0 : s.heap.size ≤ h0.size := Nat.le_of_eq (congrArg Array.size hh)
  have hx := Bd.exec
  have hby := Bd.bytes
  have dd := @dq _ _ _ hby D19
  have hml : c.maxLocals = 8 := hml0
  have hown : s.vm.findClass "com/example/vestwright/vestwright/cli/TableRows" = some m.cls := findClass_of_methodNamed Bd.named
  have hnm := (name_of_methodNamed Bd.named Bd.method).1
  have hlk := Bd.notSynchronized
  have hret := Bd.returns
  have X0 : Stand p l e ({ frames := 7, cells := 9, slots := 4010, locals := 131 } : Room) s m #[(.ref t), (.int (Int32.ofNat ri))] below meth c s₁ [] 0 0 := Stand.of_body Bd
  have e0 : s₁.heap = h0 := by rw [← hh, Bd.state]; rfl
  have N0 := Fr.nil n0
  have K0 := Keep.refl h0 []
  refine own_goH (S' := (s₁.setTop (mkF m 0 #[vr t, vi (Int32.ofNat ri), .unset, .unset, .unset, .unset, .unset, .unset] []))) (fun tq kq => castTop rfl kq) ?_
  show own_GH p e s below Z own_EL (Q_cel2 Z h0 n0 t bb bs bk k1 k2 k3 bl sl kl r ri pp pre post cs0 cs1 z u fm) _ _ _
  obtain ⟨SC, hz, SA, SH, SL⟩ := id HP
  obtain ⟨SI, SU, EU⟩ := id HU
  obtain ⟨⟨Et, Fw, Fb, Fu, Fs, Fk, Fz⟩, ⟨Vb, Vs, Vk⟩, ⟨ls, lk⟩, nq1, nq2, nq3, nq4, nq5, nq6⟩ := TRh
  have hlen := congrArg List.length hbl
  simp only [List.length_append, own_enlen] at hlen
  have hu0 : (own_u8 cs0).length ≤ 390 := Nat.le_trans (own_u8le cs0) (by omega)
  have hv0 := own_vll (own_u8 cs0).length
  have hu1 : (own_u8 cs1).length ≤ 390 := Nat.le_trans (own_u8le cs1) (by omega)
  have hv1 := own_vll (own_u8 cs1).length
  have hb0 : bl = pre ++ (own_en cs0 ++ (own_en cs1 ++ post)) := hbl
  have hb1 : bl = (pre ++ own_en cs0) ++ (own_en cs1 ++ post) := by rw [hbl]; simp
  have hpl1 : (pre ++ own_en cs0).length = pre.length + ((own_vl (own_u8 cs0).length).length + (own_u8 cs0).length) := by rw [List.length_append, own_enlen]
  obtain ⟨T101, X101, e101, st101⟩ := getF X0 hx hZ hown (host := "") (Or.inl (ww hw 54 rfl)) Via.refl e0 Fw (g := (mkF m 1 #[vr t, vi (Int32.ofNat ri), .unset, .unset, .unset, .unset, .unset, .unset] [(.ref t)])) rfl rfl (dd 20 rfl)
  obtain ⟨T102, h102, k102, X102, e102, E102, A102, Ov102, st102⟩ := newR X101 hx hZ hown (ww hw 122 rfl) (ww hw 56 rfl) e101 (g := (mkF m 4 #[vr t, vi (Int32.ofNat ri), .unset, .unset, .unset, .unset, .unset, .unset] [(.int 2)])) rfl (dd 21 rfl) rfl (by decide) (cap := 2) (by decide) (by decide) (by decide) (by decide)
  obtain ⟨b102, g102⟩ : ∃ z, z = h0.size := ⟨_, rfl⟩
  rw [← g102] at A102 st102
  have ne_bb_b102 := own_nE Vb.lt g102
  have ne_t_b102 := own_nE Et.lt g102
  have ge_b102 : n0 ≤ b102 := Nat.le_trans (own_osz O0) (Nat.le_of_eq g102.symm)
  have gk_b102 : h0.size ≤ b102 := Nat.le_trans K0.1 (Nat.le_of_eq g102.symm)
  have V102 : own_Ar Z h102 b102 k102 (.object "java/lang/String") [.null, .null] := own_Ar.new A102 (by decide)
  have O102 := O0.ext E102
  have K102 := K0.ext E102
  have cr103 := CHr.ext E102 C0.1
  have Ccr103 := C0.trans cr103
  have f104 := (Fs.ext E102)
  obtain ⟨T105, X105, e105, st105⟩ := getF X102 hx hZ hown (host := "") (Or.inl (ww hw 50 rfl)) Via.refl e102 f104 (g := (mkF m 9 #[vr t, vi (Int32.ofNat ri), vr b102, .unset, .unset, .unset, .unset, .unset] [(.ref t)])) rfl rfl (dd 24 rfl)
  have f106 := (Vs.ext E102)
  obtain ⟨cl107, Ar107, -, -, hin107, hat107⟩ := f106.at (j := (Int32.ofNat ri)) (v := (.int (Int32.ofNat pp))) (own_pos (by omega)) (by rw [own_clamp (by omega)]; exact hst)
  have f108 := (Fw.ext E102)
  obtain ⟨T109, X109, e109, st109⟩ := getF X105 hx hZ hown (host := "") (Or.inl (ww hw 54 rfl)) Via.refl e105 f108 (g := (mkF m 21 #[vr t, vi (Int32.ofNat ri), vr b102, vi (Int32.ofNat pp), vi 0, .unset, .unset, .unset] [(.ref t), (.int 0)])) rfl rfl (dd 32 rfl)
  have f111 := (Fb.ext E102)
  have f112 := (Vb.ext E102)
  obtain ⟨_, ⟨T110, s6110, s7110, rfl, X110, e110⟩, st110⟩ := seg19 hx hZ hw hby hml hown t bb k1 bl pre (own_en cs1 ++ post) cs0 (pp) (Int32.ofNat ri) b102 (0 : Int32) .unset One.u hb0 (by omega) (by omega) hu0 X109 e109 f111 f112
  obtain ⟨T113, h113, X113, e113, E113, A113, D113, -, st113⟩ := newO X110 hx hZ hown (ww hw 122 rfl) (ww hw 9 rfl) (ww hw 10 rfl) e110 (g := (mkF m 72 #[vr t, vi (Int32.ofNat ri), vr b102, .val (.int (Int32.ofNat (pp + (own_vl (own_u8 cs0).length).length))), vi 0, vi (Int32.ofNat (own_u8 cs0).length), vi s6110, vi s7110] [(.int 0), (.ref b102)])) rfl (dd 40 rfl) (by decide) (by decide)
  obtain ⟨b113, g113⟩ : ∃ z, z = h102.size := ⟨_, rfl⟩
  rw [← g113] at A113 D113 st113
  have ne_b102_b113 := own_nE V102.lt g113
  have ne_bb_b113 := own_nE f112.lt g113
  have f115 := (Et.ext E102)
  have ne_t_b113 := own_nE f115.lt g113
  have ge_b113 : n0 ≤ b113 := Nat.le_trans (own_osz O102) (Nat.le_of_eq g113.symm)
  have gk_b113 : h0.size ≤ b113 := Nat.le_trans K102.1 (Nat.le_of_eq g113.symm)
  have O113 := O102.ext E113
  have K113 := K102.ext E113
  have cr116 := CHr.ext E113 Ccr103.1
  have Ccr116 := Ccr103.trans cr116
  have sf_b113 := own_Sf.ext Ccr103.1 E113 g113 A113.lt
  have F_coder_b113 : Fld Z h113 b113 "java/lang/String" "coder" "B" (.int 0) := D113 (Or.inr (ww hw 34 rfl)) (ty := .byte) (by decide)
  have F_value_b113 : Fld Z h113 b113 "java/lang/String" "value" "[B" .null := D113 (Or.inr (ww hw 36 rfl)) (ty := (.array .byte)) (by decide)
  refine own_goH (S' := (T113.setTop (mkF m 77 #[vr t, vi (Int32.ofNat ri), vr b102, .val (.int (Int32.ofNat (pp + (own_vl (own_u8 cs0).length).length))), vi 0, vi (Int32.ofNat (own_u8 cs0).length), vi s6110, vi s7110] [(.ref t), (.ref b113), (.ref b113), (.int 0), (.ref b102)]))) (fun tq kq => XS.aloadN X0.here hx rfl (dd 19 rfl) rfl rfl (st101 tq (st102 tq (XS.astoreN X102.here hx rfl (dd 22 rfl) rfl rfl (l' := #[vr t, vi (Int32.ofNat ri), vr b102, .unset, .unset, .unset, .unset, .unset]) rfl (XS.aloadN X102.here hx rfl (dd 23 rfl) rfl rfl (st105 tq (XS.iloadN X105.here hx rfl (dd 25 rfl) rfl (X105.iaload hx (j := (Int32.ofNat ri)) (v := (.int (Int32.ofNat pp))) (by rw [e105]; exact Ar107.1) (State.isArrayOf_alike hZ.alike Ar107.2.1) Ar107.2.2 hin107 hat107 (g := (mkF m 13 #[vr t, vi (Int32.ofNat ri), vr b102, .unset, .unset, .unset, .unset, .unset] [(.int (Int32.ofNat ri)), (.ref bs)])) rfl rfl (dd 26 rfl) tq (XS.istoreN X105.here hx rfl (dd 27 rfl) rfl (l' := #[vr t, vi (Int32.ofNat ri), vr b102, vi (Int32.ofNat pp), .unset, .unset, .unset, .unset]) rfl (XS.iconst X105.here hx rfl (dd 28 rfl) (XS.istore X105.here hx rfl (dd 29 rfl) rfl (l' := #[vr t, vi (Int32.ofNat ri), vr b102, vi (Int32.ofNat pp), vi 0, .unset, .unset, .unset]) rfl (XS.iload X105.here hx rfl (dd 30 rfl) rfl (XS.aloadN X105.here hx rfl (dd 31 rfl) rfl rfl (st109 tq (XS.icmpNo X109.here hx rfl (dd 33 rfl) rfl (tlt (by decide : (0 : Int32) < (2 : Int32))).2.1 (XS.iconst X109.here hx rfl (dd 34 rfl) (XS.istore X109.here hx rfl (dd 35 rfl) rfl (l' := #[vr t, vi (Int32.ofNat ri), vr b102, vi (Int32.ofNat pp), vi 0, vi 0, .unset, .unset]) rfl (XS.iconst X109.here hx rfl (dd 36 rfl) (XS.istore X109.here hx rfl (dd 37 rfl) rfl (l' := #[vr t, vi (Int32.ofNat ri), vr b102, vi (Int32.ofNat pp), vi 0, vi 0, vi 0, .unset]) rfl (st110 tq (XS.aloadN X110.here hx rfl (dd 38 rfl) rfl rfl (XS.iload X110.here hx rfl (dd 39 rfl) rfl (st113 tq (XS.dup X113.here hx rfl (dd 41 rfl) rfl rfl (XS.aloadN X113.here hx rfl (dd 42 rfl) rfl rfl kq))))))))))))))))))))))))) ?_
  have f117 := (f111.ext E113)
  obtain ⟨T118, X118, e118, st118⟩ := getF X113 hx hZ hown (host := "") (Or.inl (ww hw 47 rfl)) Via.refl e113 f117 (g := (mkF m 77 #[vr t, vi (Int32.ofNat ri), vr b102, .val (.int (Int32.ofNat (pp + (own_vl (own_u8 cs0).length).length))), vi 0, vi (Int32.ofNat (own_u8 cs0).length), vi s6110, vi s7110] [(.ref t), (.ref b113), (.ref b113), (.int 0), (.ref b102)])) rfl rfl (dd 43 rfl)
  obtain ⟨T119, X119, e119, st119⟩ := getS2 X118 hx hZ hown (host := "") (Or.inl (ww hw 64 rfl)) Via.refl e118 (SU.ext O113.2) (g := (mkF m 83 #[vr t, vi (Int32.ofNat ri), vr b102, .val (.int (Int32.ofNat (pp + (own_vl (own_u8 cs0).length).length))), vi 0, vi (Int32.ofNat (own_u8 cs0).length), vi s6110, vi s7110] [(.int (Int32.ofNat (own_u8 cs0).length)), (.int (Int32.ofNat (pp + (own_vl (own_u8 cs0).length).length))), (.ref bb), (.ref b113), (.ref b113), (.int 0), (.ref b102)])) rfl (dd 46 rfl)
  have f120 := (V102.ext E113)
  have f121 := (f112.ext E113)
  have f124 := (f115.ext E113)
  obtain ⟨_, _, ⟨T125, L125, k125, n125⟩, -, X125, hS125, hg125, ⟨Lc125, hQ125, l125, y125, z125, hC125⟩, st125⟩ := X119.specialBackS hx (y := M13) rfl hown (mvT hZ (ww hw 123 rfl)) (mvT hZ (ww hw 124 rfl)) (mvT hZ (ww hw 125 rfl)) (by decide) (backOfSH (s := s) (vm0 := s.vm) (W := 3) (rm20 l Z a0 hw [] h113 n0 O113 b113 bb k1 (own_pad (own_bv bl) 4096 (.int 0)) (pp + (own_vl (own_u8 cs0).length).length) cs0 cs0.length (own_u8 cs0).length z u fm hEL HP HU HF A113 F_value_b113 F_coder_b113 ge_b113 f121 (own_src hb0 (by omega)) rfl (by omega) rfl hc0 (by omega) (by rw [own_padlen (by rw [own_bvlen]; omega)]; decide) (by rw [own_padlen (by rw [own_bvlen]; omega)]; omega) (own_padfit (own_bvfit hbr)) ne_bb_b113) hZ (ww hw 125 rfl) (ww hw 10 rfl) (by decide) (by decide) hEL Ccr116.1) (g := (mkF m 86 #[vr t, vi (Int32.ofNat ri), vr b102, .val (.int (Int32.ofNat (pp + (own_vl (own_u8 cs0).length).length))), vi 0, vi (Int32.ofNat (own_u8 cs0).length), vi s6110, vi s7110] [(.ref u), (.int (Int32.ofNat (own_u8 cs0).length)), (.int (Int32.ofNat (pp + (own_vl (own_u8 cs0).length).length))), (.ref bb), (.ref b113), (.ref b113), (.int 0), (.ref b102)])) rfl (by rw [hml]; rfl) (Steps.refl _) (a := b113) (argsL := [(.ref bb), (.int (Int32.ofNat (pp + (own_vl (own_u8 cs0).length).length))), (.int (Int32.ofNat (own_u8 cs0).length)), (.ref u)]) (rest := [(.ref b113), (.int 0), (.ref b102)]) (lenOf pd_36 rfl) rfl (by show 2 * 0 + _ ≤ _; exact Nat.le_of_eq rfl) (dd 47 rfl) (fun _ _ => ⟨rfl, e119, (by decide : 2 + 3 ≤ _), (by decide : 6 + 2000 ≤ _)⟩)
  dsimp only [Pt.U, Pt.locs, Pt.cells, Pt.slots] at hS125 hg125 hC125
  have hSn125 : s.Since T125.vm T125.heap.size := hS0.trans hS125 (Nat.le_trans (by rw [e119]; exact (Nat.le_trans (Nat.le_trans hk0 E102.1) E113.1)) hg125)
  have hZ : Z.Warmed39 (s.setVm T125.vm).vm := State.Warmed39.trans (t := s) hZ hS125.1
  have hown : (s.setVm T125.vm).vm.findClass "com/example/vestwright/vestwright/cli/TableRows" = some m.cls := by rw [show (s.setVm T125.vm).vm = T125.vm from rfl, hS125.1.alike.findClass]; exact hown
  have cr126 := hC125
  have Ccr126 := Ccr116.trans cr126
  have sf127 := sf_b113.go cr126
  dsimp only [Pt.U, Pt.locs, Pt.cells, Pt.slots] at X125 l125 y125 z125 st125 hQ125
  subst l125 y125 z125
  have X125 : Stand p l e _ (s.setVm T125.vm) m _ below meth c T125 _ _ _ := X125
  obtain ⟨rfl, N125, K125, d125, kd125, Fv125, Fc125, Vd125, Xd125⟩ := hQ125
  have Nf125 := Fr.app N0 N125
  have O125 := O113.keep K125 (allS ge_b113 all0)
  have KK125 := K113.trans K125 (allS (Or.inr gk_b113) all0)
  have f128 := (f120.keep K125 (ninS ne_b102_b113 nin0))
  have ne_d_ar125 := own_ArNe Vd125 f128 (by nofun)
  obtain ⟨cl129, Ar129, qa129, sa129, hin129, -⟩ := f128.at (j := (0 : Int32)) (by decide) rfl
  have f130 := (A113.keep K125)
  obtain ⟨T129, h129, X129, e129, W129, st129⟩ := stR X125 hx hZ rfl Ar129 (j := (0 : Int32)) hin129 rfl (Sto.of Ar129 (qa129 ▸ Ov102) (Ins.self f130)) (g := (mkF m 89 #[vr t, vi (Int32.ofNat ri), vr b102, .val (.int (Int32.ofNat (pp + (own_vl (own_u8 cs0).length).length))), vi 0, vi (Int32.ofNat (own_u8 cs0).length), vi s6110, vi s7110] [(.ref b113), (.int 0), (.ref b102)])) rfl rfl (dd 48 rfl)
  have N129 := Fr.snoc X129 Nf125 ge_b102
  have O129 := O125.wr W129 ge_b102
  have K129 := KK125.wr W129 (Or.inr gk_b102)
  have cr131 := CHr.wr W129 (own_safeAr hZ.alike f128 (by nofun)) Ccr126.1
  have Ccr131 := Ccr126.trans cr131
  have sf132 := sf127.go cr131
  have V129 : own_Ar Z h129 b102 k102 (.object "java/lang/String") [(.ref b113), .null] := own_Ar.set Ar129 qa129 sa129 f128.small W129
  refine own_goH (S' := (T129.setTop (mkF m 94 #[vr t, vi (Int32.ofNat ri), vr b102, .val (.int (Int32.ofNat (pp + (own_vl (own_u8 cs0).length).length))), vi 0, vi (Int32.ofNat (own_u8 cs0).length), vi s6110, vi s7110] [(.int ((Int32.ofNat (pp + (own_vl (own_u8 cs0).length).length)) + (Int32.ofNat (own_u8 cs0).length)))]))) (fun tq kq => st118 tq (XS.iloadN X118.here hx rfl (dd 44 rfl) rfl (XS.iload X118.here hx rfl (dd 45 rfl) rfl (st119 tq (st125.trans (st129 tq (XS.iloadN X129.here hx rfl (dd 49 rfl) rfl (XS.iload X129.here hx rfl (dd 50 rfl) rfl (XS.iadd X129.here hx rfl (dd 51 rfl) rfl kq))))))))) ?_
  rw [own_addN (pp + (own_vl (own_u8 cs0).length).length) (own_u8 cs0).length]
  have f133 := (((f108.ext E113).keep K125 (ninS ne_t_b113 nin0)).other W129 (Or.inl ne_t_b102))
  obtain ⟨T134, X134, e134, st134⟩ := getF X129 hx hZ hown (host := "") (Or.inl (ww hw 54 rfl)) Via.refl e129 f133 (g := (mkF m 21 #[vr t, vi (Int32.ofNat ri), vr b102, .val (.int (Int32.ofNat (pp + (own_vl (own_u8 cs0).length).length + (own_u8 cs0).length))), vi 1, vi (Int32.ofNat (own_u8 cs0).length), vi s6110, vi s7110] [(.ref t), (.int 1)])) rfl rfl (dd 32 rfl)
  have f136 := ((f117.keep K125 (ninS ne_t_b113 nin0)).other W129 (Or.inl ne_t_b102))
  have f137 := ((f121.keep K125 (ninS ne_bb_b113 nin0)).other W129 ne_bb_b102)
  obtain ⟨_, ⟨T135, s6135, s7135, rfl, X135, e135⟩, st135⟩ := seg19 hx hZ hw hby hml hown t bb k1 bl (pre ++ own_en cs0) post cs1 (pp + (own_vl (own_u8 cs0).length).length + (own_u8 cs0).length) (Int32.ofNat ri) b102 (1 : Int32) (vi s7110) (One.val rfl) hb1 (by omega) (by omega) hu1 X134 e134 f136 f137
  obtain ⟨T138, h138, X138, e138, E138, A138, D138, -, st138⟩ := newO X135 hx hZ hown (ww hw 122 rfl) (ww hw 9 rfl) (ww hw 10 rfl) e135 (g := (mkF m 72 #[vr t, vi (Int32.ofNat ri), vr b102, .val (.int (Int32.ofNat (pp + (own_vl (own_u8 cs0).length).length + (own_u8 cs0).length + (own_vl (own_u8 cs1).length).length))), vi 1, vi (Int32.ofNat (own_u8 cs1).length), vi s6135, vi s7135] [(.int 1), (.ref b102)])) rfl (dd 40 rfl) (by decide) (by decide)
  obtain ⟨b138, g138⟩ : ∃ z, z = h129.size := ⟨_, rfl⟩
  rw [← g138] at A138 D138 st138
  have ne_b102_b138 := own_nE V129.lt g138
  have f139 := (f130.wr W129)
  have ne_b113_b138 := own_nE f139.lt g138
  have ne_bb_b138 := own_nE f137.lt g138
  have f142 := (Vd125.other W129 ne_d_ar125)
  have ne_d125_b138 := own_nE f142.lt g138
  have f143 := ((f124.keep K125).wr W129)
  have ne_t_b138 := own_nE f143.lt g138
  have ge_b138 : n0 ≤ b138 := Nat.le_trans (own_osz O129) (Nat.le_of_eq g138.symm)
  have gk_b138 : h0.size ≤ b138 := Nat.le_trans K129.1 (Nat.le_of_eq g138.symm)
  have O138 := O129.ext E138
  have K138 := K129.ext E138
  have cr144 := CHr.ext E138 Ccr131.1
  have Ccr144 := Ccr131.trans cr144
  have sf145 := sf132.go cr144
  have sf_b138 := own_Sf.ext Ccr131.1 E138 g138 A138.lt
  have F_coder_b138 : Fld Z h138 b138 "java/lang/String" "coder" "B" (.int 0) := D138 (Or.inr (ww hw 34 rfl)) (ty := .byte) (by decide)
  have F_value_b138 : Fld Z h138 b138 "java/lang/String" "value" "[B" .null := D138 (Or.inr (ww hw 36 rfl)) (ty := (.array .byte)) (by decide)
  have f146 := (f136.ext E138)
  obtain ⟨T147, X147, e147, st147⟩ := getF X138 hx hZ hown (host := "") (Or.inl (ww hw 47 rfl)) Via.refl e138 f146 (g := (mkF m 77 #[vr t, vi (Int32.ofNat ri), vr b102, .val (.int (Int32.ofNat (pp + (own_vl (own_u8 cs0).length).length + (own_u8 cs0).length + (own_vl (own_u8 cs1).length).length))), vi 1, vi (Int32.ofNat (own_u8 cs1).length), vi s6135, vi s7135] [(.ref t), (.ref b138), (.ref b138), (.int 1), (.ref b102)])) rfl rfl (dd 43 rfl)
  obtain ⟨T148, X148, e148, st148⟩ := getS2 X147 hx hZ hown (host := "") (Or.inl (ww hw 64 rfl)) Via.refl e147 (SU.ext O138.2) (g := (mkF m 83 #[vr t, vi (Int32.ofNat ri), vr b102, .val (.int (Int32.ofNat (pp + (own_vl (own_u8 cs0).length).length + (own_u8 cs0).length + (own_vl (own_u8 cs1).length).length))), vi 1, vi (Int32.ofNat (own_u8 cs1).length), vi s6135, vi s7135] [(.int (Int32.ofNat (own_u8 cs1).length)), (.int (Int32.ofNat (pp + (own_vl (own_u8 cs0).length).length + (own_u8 cs0).length + (own_vl (own_u8 cs1).length).length))), (.ref bb), (.ref b138), (.ref b138), (.int 1), (.ref b102)])) rfl (dd 46 rfl)
  have f149 := (V129.ext E138)
  have f150 := (f139.ext E138)
  have f151 := (f137.ext E138)
  have f154 := (f142.ext E138)
  obtain ⟨_, _, ⟨T156, L156, k156, n156⟩, -, X156, hS156, hg156, ⟨Lc156, hQ156, l156, y156, z156, hC156⟩, st156⟩ := X148.specialBackS hx (y := M13) rfl hown (mvT hZ (ww hw 123 rfl)) (mvT hZ (ww hw 124 rfl)) (mvT hZ (ww hw 125 rfl)) (by decide) (backOfSH (s := s) (vm0 := T125.vm) (W := 3) (rm20 l Z a0 hw [] h138 n0 O138 b138 bb k1 (own_pad (own_bv bl) 4096 (.int 0)) (pp + (own_vl (own_u8 cs0).length).length + (own_u8 cs0).length + (own_vl (own_u8 cs1).length).length) cs1 cs1.length (own_u8 cs1).length z u fm hEL HP HU HF A138 F_value_b138 F_coder_b138 ge_b138 f151 (own_src hb1 (by omega)) rfl (by omega) rfl hc1 (by omega) (by rw [own_padlen (by rw [own_bvlen]; omega)]; decide) (by rw [own_padlen (by rw [own_bvlen]; omega)]; omega) (own_padfit (own_bvfit hbr)) ne_bb_b138) hZ (ww hw 125 rfl) (ww hw 10 rfl) (by decide) (by decide) hEL Ccr144.1) (g := (mkF m 86 #[vr t, vi (Int32.ofNat ri), vr b102, .val (.int (Int32.ofNat (pp + (own_vl (own_u8 cs0).length).length + (own_u8 cs0).length + (own_vl (own_u8 cs1).length).length))), vi 1, vi (Int32.ofNat (own_u8 cs1).length), vi s6135, vi s7135] [(.ref u), (.int (Int32.ofNat (own_u8 cs1).length)), (.int (Int32.ofNat (pp + (own_vl (own_u8 cs0).length).length + (own_u8 cs0).length + (own_vl (own_u8 cs1).length).length))), (.ref bb), (.ref b138), (.ref b138), (.int 1), (.ref b102)])) rfl (by rw [hml]; rfl) (Steps.refl _) (a := b138) (argsL := [(.ref bb), (.int (Int32.ofNat (pp + (own_vl (own_u8 cs0).length).length + (own_u8 cs0).length + (own_vl (own_u8 cs1).length).length))), (.int (Int32.ofNat (own_u8 cs1).length)), (.ref u)]) (rest := [(.ref b138), (.int 1), (.ref b102)]) (lenOf pd_36 rfl) rfl (by show 2 * 0 + _ ≤ _; exact Nat.le_of_eq rfl) (dd 47 rfl) (fun _ _ => ⟨rfl, e148, (by decide : 6 + 3 ≤ _), (by decide : 2010 + 2000 ≤ _)⟩)
  dsimp only [Pt.U, Pt.locs, Pt.cells, Pt.slots] at hS156 hg156 hC156
  have hSn156 : s.Since T156.vm T156.heap.size := hSn125.trans hS156 (Nat.le_trans (by rw [e148]; exact (Nat.le_trans (Nat.le_trans (Nat.le_refl _) (Nat.le_of_eq W129.size.symm)) E138.1)) hg156)
  have hZ : Z.Warmed39 (s.setVm T156.vm).vm := State.Warmed39.trans (t := (s.setVm T125.vm)) hZ hS156.1
  have hown : (s.setVm T156.vm).vm.findClass "com/example/vestwright/vestwright/cli/TableRows" = some m.cls := by rw [show (s.setVm T156.vm).vm = T156.vm from rfl, hS156.1.alike.findClass]; exact hown
  have cr157 := hC156
  have Ccr157 := Ccr144.trans cr157
  have sf158 := sf145.go cr157
  have sf159 := sf_b138.go cr157
  dsimp only [Pt.U, Pt.locs, Pt.cells, Pt.slots] at X156 l156 y156 z156 st156 hQ156
  subst l156 y156 z156
  have X156 : Stand p l e _ (s.setVm T156.vm) m _ below meth c T156 _ _ _ := X156
  obtain ⟨rfl, N156, K156, d156, kd156, Fv156, Fc156, Vd156, Xd156⟩ := hQ156
  have Nf156 := Fr.app N129 N156
  have KK156 := K138.trans K156 (allS (Or.inr gk_b138) all0)
  have f160 := (f149.keep K156 (ninS ne_b102_b138 nin0))
  have ne_d_ar156 := own_ArNe Vd156 f160 (by nofun)
  obtain ⟨cl161, Ar161, qa161, sa161, hin161, -⟩ := f160.at (j := (1 : Int32)) (by decide) rfl
  have f162 := (A138.keep K156)
  obtain ⟨T161, h161, X161, e161, W161, st161⟩ := stR X156 hx hZ rfl Ar161 (j := (1 : Int32)) hin161 rfl (Sto.of Ar161 (qa161 ▸ Ov102) (Ins.self f162)) (g := (mkF m 89 #[vr t, vi (Int32.ofNat ri), vr b102, .val (.int (Int32.ofNat (pp + (own_vl (own_u8 cs0).length).length + (own_u8 cs0).length + (own_vl (own_u8 cs1).length).length))), vi 1, vi (Int32.ofNat (own_u8 cs1).length), vi s6135, vi s7135] [(.ref b138), (.int 1), (.ref b102)])) rfl rfl (dd 48 rfl)
  have N161 := Fr.snoc X161 Nf156 ge_b102
  have K161 := KK156.wr W161 (Or.inr gk_b102)
  have cr163 := CHr.wr W161 (own_safeAr hZ.alike f160 (by nofun)) Ccr157.1
  have Ccr163 := Ccr157.trans cr163
  have sf164 := sf158.go cr163
  have sf165 := sf159.go cr163
  have V161 : own_Ar Z h161 b102 k102 (.object "java/lang/String") [(.ref b113), (.ref b138)] := own_Ar.set Ar161 qa161 sa161 f160.small W161
  refine own_goH (S' := (T161.setTop (mkF m 93 #[vr t, vi (Int32.ofNat ri), vr b102, .val (.int (Int32.ofNat (pp + (own_vl (own_u8 cs0).length).length + (own_u8 cs0).length + (own_vl (own_u8 cs1).length).length))), vi 1, vi (Int32.ofNat (own_u8 cs1).length), vi s6135, vi s7135] [(.int (Int32.ofNat (own_u8 cs1).length)), (.int (Int32.ofNat (pp + (own_vl (own_u8 cs0).length).length + (own_u8 cs0).length + (own_vl (own_u8 cs1).length).length)))]))) (fun tq kq => XS.istoreN X129.here hx rfl (dd 52 rfl) rfl (l' := #[vr t, vi (Int32.ofNat ri), vr b102, .val (.int (Int32.ofNat (pp + (own_vl (own_u8 cs0).length).length + (own_u8 cs0).length))), vi 0, vi (Int32.ofNat (own_u8 cs0).length), vi s6110, vi s7110]) rfl (XS.iinc X129.here hx rfl (dd 53 rfl) rfl (l' := #[vr t, vi (Int32.ofNat ri), vr b102, .val (.int (Int32.ofNat (pp + (own_vl (own_u8 cs0).length).length + (own_u8 cs0).length))), vi 1, vi (Int32.ofNat (own_u8 cs0).length), vi s6110, vi s7110]) rfl (XS.goto X129.here hx rfl (pc0 := 98) (pc' := 18) rfl (dd 54 rfl) (by decide) (by decide) (XS.iload X129.here hx rfl (dd 30 rfl) rfl (XS.aloadN X129.here hx rfl (dd 31 rfl) rfl rfl (st134 tq (XS.icmpNo X134.here hx rfl (dd 33 rfl) rfl (tlt (by decide : (1 : Int32) < (2 : Int32))).2.1 (XS.iconst X134.here hx rfl (dd 34 rfl) (XS.istore X134.here hx rfl (dd 35 rfl) rfl (l' := #[vr t, vi (Int32.ofNat ri), vr b102, .val (.int (Int32.ofNat (pp + (own_vl (own_u8 cs0).length).length + (own_u8 cs0).length))), vi 1, vi 0, vi s6110, vi s7110]) rfl (XS.iconst X134.here hx rfl (dd 36 rfl) (XS.istore X134.here hx rfl (dd 37 rfl) rfl (l' := #[vr t, vi (Int32.ofNat ri), vr b102, .val (.int (Int32.ofNat (pp + (own_vl (own_u8 cs0).length).length + (own_u8 cs0).length))), vi 1, vi 0, vi 0, vi s7110]) rfl (st135 tq (XS.aloadN X135.here hx rfl (dd 38 rfl) rfl rfl (XS.iload X135.here hx rfl (dd 39 rfl) rfl (st138 tq (XS.dup X138.here hx rfl (dd 41 rfl) rfl rfl (XS.aloadN X138.here hx rfl (dd 42 rfl) rfl rfl (st147 tq (XS.iloadN X147.here hx rfl (dd 44 rfl) rfl (XS.iload X147.here hx rfl (dd 45 rfl) rfl (st148 tq (st156.trans (st161 tq (XS.iloadN X161.here hx rfl (dd 49 rfl) rfl (XS.iload X161.here hx rfl (dd 50 rfl) rfl kq))))))))))))))))))))))))) ?_
  refine own_goH (S' := (T161.setTop (mkF m 94 #[vr t, vi (Int32.ofNat ri), vr b102, .val (.int (Int32.ofNat (pp + (own_vl (own_u8 cs0).length).length + (own_u8 cs0).length + (own_vl (own_u8 cs1).length).length))), vi 1, vi (Int32.ofNat (own_u8 cs1).length), vi s6135, vi s7135] [(.int ((Int32.ofNat (pp + (own_vl (own_u8 cs0).length).length + (own_u8 cs0).length + (own_vl (own_u8 cs1).length).length)) + (Int32.ofNat (own_u8 cs1).length)))]))) (fun tq kq => XS.iadd X161.here hx rfl (dd 51 rfl) rfl kq) ?_
  rw [own_addN (pp + (own_vl (own_u8 cs0).length).length + (own_u8 cs0).length + (own_vl (own_u8 cs1).length).length) (own_u8 cs1).length]
  have f166 := (((f133.ext E138).keep K156 (ninS ne_t_b138 nin0)).other W161 (Or.inl ne_t_b102))
  obtain ⟨T167, X167, e167, st167⟩ := getF X161 hx hZ hown (host := "") (Or.inl (ww hw 54 rfl)) Via.refl e161 f166 (g := (mkF m 21 #[vr t, vi (Int32.ofNat ri), vr b102, .val (.int (Int32.ofNat (pp + (own_vl (own_u8 cs0).length).length + (own_u8 cs0).length + (own_vl (own_u8 cs1).length).length + (own_u8 cs1).length))), vi 2, vi (Int32.ofNat (own_u8 cs1).length), vi s6135, vi s7135] [(.ref t), (.int 2)])) rfl rfl (dd 32 rfl)
  refine own_goH (S' := (T167.setTop (mkF m 102 #[vr t, vi (Int32.ofNat ri), vr b102, .val (.int (Int32.ofNat (pp + (own_vl (own_u8 cs0).length).length + (own_u8 cs0).length + (own_vl (own_u8 cs1).length).length + (own_u8 cs1).length))), vi 2, vi (Int32.ofNat (own_u8 cs1).length), vi s6135, vi s7135] [(.ref b102)]))) (fun tq kq => XS.istoreN X161.here hx rfl (dd 52 rfl) rfl (l' := #[vr t, vi (Int32.ofNat ri), vr b102, .val (.int (Int32.ofNat (pp + (own_vl (own_u8 cs0).length).length + (own_u8 cs0).length + (own_vl (own_u8 cs1).length).length + (own_u8 cs1).length))), vi 1, vi (Int32.ofNat (own_u8 cs1).length), vi s6135, vi s7135]) rfl (XS.iinc X161.here hx rfl (dd 53 rfl) rfl (l' := #[vr t, vi (Int32.ofNat ri), vr b102, .val (.int (Int32.ofNat (pp + (own_vl (own_u8 cs0).length).length + (own_u8 cs0).length + (own_vl (own_u8 cs1).length).length + (own_u8 cs1).length))), vi 2, vi (Int32.ofNat (own_u8 cs1).length), vi s6135, vi s7135]) rfl (XS.goto X161.here hx rfl (pc0 := 98) (pc' := 18) rfl (dd 54 rfl) (by decide) (by decide) (XS.iload X161.here hx rfl (dd 30 rfl) rfl (XS.aloadN X161.here hx rfl (dd 31 rfl) rfl rfl (st167 tq (XS.icmpYes X167.here hx rfl (pc0 := 24) (pc' := 101) rfl (dd 33 rfl) rfl (flt (by decide : ¬ ((2 : Int32) < (2 : Int32)))).2.1 (by decide) (by decide) (XS.aloadN X167.here hx rfl (dd 55 rfl) rfl rfl kq)))))))) ?_
  refine own_retAH X167 hSn156 (by rw [e167]; exact (Nat.le_trans (Nat.le_refl _) (Nat.le_of_eq W161.size.symm))) hZ hEL hh (by rw [e167]; exact Ccr163) hx hlk hret rfl rfl (dd 56 rfl) (by decide) (by decide) ?_
  have f168 := ((f150.keep K156).wr W161)
  have f169 := ((((Fc125.other W129 (Or.inl (Ne.symm ne_b102_b113))).ext E138).keep K156 (ninS ne_b113_b138 nin0)).other W161 (Or.inl (Ne.symm ne_b102_b113)))
  have f170 := ((((Fv125.other W129 (Or.inl (Ne.symm ne_b102_b113))).ext E138).keep K156 (ninS ne_b113_b138 nin0)).other W161 (Or.inl (Ne.symm ne_b102_b113)))
  have f171 := ((f154.keep K156 (ninS ne_d125_b138 nin0)).other W161 ne_d_ar125)
  have f172 := ((((Xd125.wr W129).ext E138).keep K156).wr W161)
  have f173 := (f162.wr W161)
  have f174 := (Fc156.other W161 (Or.inl (Ne.symm ne_b102_b138)))
  have f175 := (Fv156.other W161 (Or.inl (Ne.symm ne_b102_b138)))
  have f176 := (Vd156.other W161 ne_d_ar156)
  have f177 := (Xd156.wr W161)
  rw [e167]
  exact ⟨b102, _, b113, b138, rfl, N161, K161, gk_b102, V161, ⟨Nat.le_refl _, f168.lt, f168, f169, d125, _, f171.lt, f170, f171, f172⟩, ⟨Nat.le_refl _, f173.lt, f173, f174, d156, _, f176.lt, f175, f176, f177⟩⟩
theorem ef_rm0 (m : MethodId) (p0 : Int32) (p1 : Int32) (p2 : Int32) (p3 : Int32) (p4 : Int32) (p5 : Int32) (z : Int32) (u : Addr) (fm : Value) : entryFrame m #[(.int p0), (.int p1), (.int p2), (.int p3), (.int p4), (.int p5)] maxLocals = mkF m 0 #[vi p0, vi p1, vi p2, vi p3, vi p4, vi p5, .unset, .unset, .unset, .unset, .unset, .unset, .unset, .unset, .unset, .unset, .unset] [] := by first | (simp [entryFrame, mkF, argsToLocals, Value.category, maxLocals]; done) | rfl
def Q_rm0 (Z : State) (h0 : Heap) (n0 : Nat) (p0 : Int32) (p1 : Int32) (p2 : Int32) (p3 : Int32) (p4 : Int32) (p5 : Int32) (z : Int32) (u : Addr) (fm : Value) (v : Option Value) (h : Heap) (L : List Loc) : Prop := v = some (.int 1) ∧ Fr n0 L
theorem rm0 (l : Launch) (Z : State) (a0 : Array Value) (hw : ∀ d ∈ tables_1, d.before a0 Z = true) (ws : List Jvm.Cond) (h0 : Heap) (n0 : Nat) (O0 : Old Z n0 h0) (p0 : Int32) (p1 : Int32) (p2 : Int32) (p3 : Int32) (p4 : Int32) (p5 : Int32) (z : Int32) (u : Addr) (fm : Value) (hEL : EW Z a0 own_EL) (HP : own_PK Z z) (HU : own_UK Z u) (HF : own_FK Z fm) :
    MetFree l x (head1 (Jvm.Cond.code x code maxLocals ret :: ws) room_1) (fun aq U => aq = #[(.int p0), (.int p1), (.int p2), (.int p3), (.int p4), (.int p5)] ∧ Z.Warmed39 U.vm ∧ U.heap = h0 ∧ CHv Z own_EL U.vm h0) (fun _ _ _ _ _ => True) (fun _ U oo U' => ∃ v L, oo = .returned v ∧ Q_rm0 Z h0 n0 p0 p1 p2 p3 p4 p5 z u fm v U'.heap L ∧ CHr Z own_EL U.vm U.heap U'.vm U'.heap ∧ ReturnedEndW U oo U' L room_1.cells room_1.slots) := by
  refine MetFree.of_bodySF (plainFor_of_name pn_rm2) hisR ?_
  intro p e s m args below meth c s₁ Bd hml0 hP hK
  obtain ⟨rfl, hZ, hh, hCH⟩ := hP
  have C0 := CHr.refl hCH
  have hS0 := own_since s s.heap.size
  have hk0 : s.heap.size ≤ h0.size := Nat.le_of_eq (congrArg Array.size hh)
  have hx := Bd.exec
  have hby := Bd.bytes
  have hml : c.maxLocals = 17 := hml0
  have hown : s.vm.findClass "com/example/vestwright/vestwright/cli/TableRowsCellsPinLaw" = some m.cls := findClass_of_methodNamed Bd.named
  have hnm := (name_of_methodNamed Bd.named Bd.method).1
  have hlk := Bd.notSynchronized
  have hret := Bd.returns
  have X0 : Stand p l e room_1 s m #[(.int p0), (.int p1), (.int p2), (.int p3), (.int p4), (.int p5)] below meth c s₁ [] 0 0 := Stand.of_body Bd
  have e0 : s₁.heap = h0 := by rw [← hh, Bd.state]; rfl
  have N0 := Fr.nil n0
  have K0 := Keep.refl h0 []
  refine own_goH (S' := (s₁.setTop (mkF m 0 #[vi p0, vi p1, vi p2, vi p3, vi p4, vi p5, .unset, .unset, .unset, .unset, .unset, .unset, .unset, .unset, .unset, .unset, .unset] []))) (fun tq kq => castTop (ef_rm0 m p0 p1 p2 p3 p4 p5 z u fm) kq) ?_
  show own_GH p e s below Z own_EL (Q_rm0 Z h0 n0 p0 p1 p2 p3 p4 p5 z u fm) _ _ _
  obtain ⟨SC, hz, SA, SH, SL⟩ := id HP
  obtain ⟨SI, SU, EU⟩ := id HU
  obtain ⟨_, _, ⟨T101, L101, k101, n101⟩, -, X101, hS101, hg101, ⟨Lc101, hQ101, l101, y101, z101, hC101⟩, st101⟩ := callSS X0 hx (y := M10) hown (mvT hZ (ww hw 0 rfl)) (mvT hZ (ww hw 1 rfl)) (mvT hZ (ww hw 2 rfl)) (mvT hZ (ww hw 3 rfl)) (by decide) (backOfSH (s := s) (vm0 := s.vm) (W := 0) (rm1 l Z a0 hw [] h0 n0 O0 p1 p2 z hEL HP) hZ (ww hw 3 rfl) (ww hw 2 rfl) (by decide) (by decide) hEL C0.1) (g := (mkF m 9 #[vi p0, vi p1, vi p2, vi p3, vi p4, vi p5, vi ((1 : Int32) + (p0 &&& (1 : Int32))), .unset, .unset, .unset, .unset, .unset, .unset, .unset, .unset, .unset, .unset] [(.int p2), (.int p1)])) rfl (by rw [hml]; rfl) (argsL := [(.int p1), (.int p2)]) (rest := []) (lenOf pd_37 rfl) rfl (by show 2 * 0 + _ ≤ _; exact Nat.le_of_eq rfl) (hb hby at_9) (fun _ _ => ⟨rfl, e0, (by decide : 0 + 4 ≤ _), (by decide : 0 + 1334 ≤ _)⟩)
  dsimp only [Pt.U, Pt.locs, Pt.cells, Pt.slots] at hS101 hg101 hC101
  have hSn101 : s.Since T101.vm T101.heap.size := hS0.trans hS101 (Nat.le_trans (by rw [e0]; exact hk0) hg101)
  have hZ : Z.Warmed39 (s.setVm T101.vm).vm := State.Warmed39.trans (t := s) hZ hS101.1
  have hown : (s.setVm T101.vm).vm.findClass "com/example/vestwright/vestwright/cli/TableRowsCellsPinLaw" = some m.cls := by rw [show (s.setVm T101.vm).vm = T101.vm from rfl, hS101.1.alike.findClass]; exact hown
  have cr102 := hC101
  have Ccr102 := C0.trans cr102
  dsimp only [Pt.U, Pt.locs, Pt.cells, Pt.slots] at X101 l101 y101 z101 st101 hQ101
  subst l101 y101 z101
  have X101 : Stand p l e _ (s.setVm T101.vm) m _ below meth c T101 _ _ _ := X101
  obtain ⟨b101, cs101, rfl, N101, K101, S101, hl101, hc101⟩ := hQ101
  have Nf101 := Fr.app N0 N101
  have O101 := O0.keep K101 all0
  have KK101 := K0.trans K101 all0
  obtain ⟨nn101, hnn101⟩ : ∃ q, q = T101.heap.size := ⟨_, rfl⟩
  refine own_goH (S' := (s₁.setTop (mkF m 9 #[vi p0, vi p1, vi p2, vi p3, vi p4, vi p5, vi ((1 : Int32) + (p0 &&& (1 : Int32))), .unset, .unset, .unset, .unset, .unset, .unset, .unset, .unset, .unset, .unset] [(.int p2), (.int p1)]))) (fun tq kq => XS.iconst X0.here hx rfl (hb hby at_0) (XS.iloadN X0.here hx rfl (hb hby at_1) rfl (XS.iconst X0.here hx rfl (hb hby at_2) (XS.iand X0.here hx rfl (hb hby at_3) rfl (XS.iadd X0.here hx rfl (hb hby at_4) rfl (XS.istore X0.here hx rfl (hb hby at_5) rfl (l' := #[vi p0, vi p1, vi p2, vi p3, vi p4, vi p5, vi ((1 : Int32) + (p0 &&& (1 : Int32))), .unset, .unset, .unset, .unset, .unset, .unset, .unset, .unset, .unset, .unset]) rfl (XS.iloadN X0.here hx rfl (hb hby at_7) rfl (XS.iloadN X0.here hx rfl (hb hby at_8) rfl kq)))))))) ?_
  rw [← hnn101] at S101
  obtain ⟨_, _, ⟨T103, L103, k103, n103⟩, -, X103, hS103, hg103, ⟨Lc103, hQ103, l103, y103, z103, hC103⟩, st103⟩ := callSS X101 hx (y := M10) hown (mvT hZ (ww hw 0 rfl)) (mvT hZ (ww hw 1 rfl)) (mvT hZ (ww hw 2 rfl)) (mvT hZ (ww hw 3 rfl)) (by decide) (backOfSH (s := s) (vm0 := T101.vm) (W := 0) (rm1 l Z a0 hw [] T101.heap n0 O101 ((p1.toUInt32 >>> ((2 : Int32) &&& 31).toUInt32).toInt32) p3 z hEL HP) hZ (ww hw 3 rfl) (ww hw 2 rfl) (by decide) (by decide) hEL Ccr102.1) (g := (mkF m 18 #[vi p0, vi p1, vi p2, vi p3, vi p4, vi p5, vi ((1 : Int32) + (p0 &&& (1 : Int32))), vr b101, .unset, .unset, .unset, .unset, .unset, .unset, .unset, .unset, .unset] [(.int p3), (.int ((p1.toUInt32 >>> ((2 : Int32) &&& 31).toUInt32).toInt32))])) rfl (by rw [hml]; rfl) (argsL := [(.int ((p1.toUInt32 >>> ((2 : Int32) &&& 31).toUInt32).toInt32)), (.int p3)]) (rest := []) (lenOf pd_37 rfl) rfl (by show 2 * 0 + _ ≤ _; exact Nat.le_of_eq rfl) (hb hby at_18) (fun _ _ => ⟨rfl, rfl, (by decide : 4 + 4 ≤ _), (by decide : 1334 + 1334 ≤ _)⟩)
  dsimp only [Pt.U, Pt.locs, Pt.cells, Pt.slots] at hS103 hg103 hC103
  have hSn103 : s.Since T103.vm T103.heap.size := hSn101.trans hS103 (Nat.le_trans (Nat.le_refl _) hg103)
  have hZ : Z.Warmed39 (s.setVm T103.vm).vm := State.Warmed39.trans (t := (s.setVm T101.vm)) hZ hS103.1
  have hown : (s.setVm T103.vm).vm.findClass "com/example/vestwright/vestwright/cli/TableRowsCellsPinLaw" = some m.cls := by rw [show (s.setVm T103.vm).vm = T103.vm from rfl, hS103.1.alike.findClass]; exact hown
  have cr104 := hC103
  have Ccr104 := Ccr102.trans cr104
  dsimp only [Pt.U, Pt.locs, Pt.cells, Pt.slots] at X103 l103 y103 z103 st103 hQ103
  subst l103 y103 z103
  have X103 : Stand p l e _ (s.setVm T103.vm) m _ below meth c T103 _ _ _ := X103
  obtain ⟨b103, cs103, rfl, N103, K103, S103, hl103, hc103⟩ := hQ103
  have Nf103 := Fr.app Nf101 N103
  have O103 := O101.keep K103 all0
  have KK103 := KK101.trans K103 all0
  obtain ⟨nn103, hnn103⟩ : ∃ q, q = T103.heap.size := ⟨_, rfl⟩
  refine own_goH (S' := (T101.setTop (mkF m 18 #[vi p0, vi p1, vi p2, vi p3, vi p4, vi p5, vi ((1 : Int32) + (p0 &&& (1 : Int32))), vr b101, .unset, .unset, .unset, .unset, .unset, .unset, .unset, .unset, .unset] [(.int p3), (.int ((p1.toUInt32 >>> ((2 : Int32) &&& 31).toUInt32).toInt32))]))) (fun tq kq => st101.trans (XS.astore X101.here hx rfl (hb hby at_12) rfl rfl (l' := #[vi p0, vi p1, vi p2, vi p3, vi p4, vi p5, vi ((1 : Int32) + (p0 &&& (1 : Int32))), vr b101, .unset, .unset, .unset, .unset, .unset, .unset, .unset, .unset, .unset]) rfl (XS.iloadN X101.here hx rfl (hb hby at_14) rfl (XS.iconst X101.here hx rfl (hb hby at_15) (XS.iushr X101.here hx rfl (hb hby at_16) rfl (XS.iloadN X101.here hx rfl (hb hby at_17) rfl kq)))))) ?_
  rw [← hnn103] at S103
  obtain ⟨_, _, ⟨T105, L105, k105, n105⟩, -, X105, hS105, hg105, ⟨Lc105, hQ105, l105, y105, z105, hC105⟩, st105⟩ := callSS X103 hx (y := M10) hown (mvT hZ (ww hw 0 rfl)) (mvT hZ (ww hw 1 rfl)) (mvT hZ (ww hw 2 rfl)) (mvT hZ (ww hw 3 rfl)) (by decide) (backOfSH (s := s) (vm0 := T103.vm) (W := 0) (rm1 l Z a0 hw [] T103.heap n0 O103 ((p1.toUInt32 >>> ((4 : Int32) &&& 31).toUInt32).toInt32) p4 z hEL HP) hZ (ww hw 3 rfl) (ww hw 2 rfl) (by decide) (by decide) hEL Ccr104.1) (g := (mkF m 28 #[vi p0, vi p1, vi p2, vi p3, vi p4, vi p5, vi ((1 : Int32) + (p0 &&& (1 : Int32))), vr b101, vr b103, .unset, .unset, .unset, .unset, .unset, .unset, .unset, .unset] [(.int p4), (.int ((p1.toUInt32 >>> ((4 : Int32) &&& 31).toUInt32).toInt32))])) rfl (by rw [hml]; rfl) (argsL := [(.int ((p1.toUInt32 >>> ((4 : Int32) &&& 31).toUInt32).toInt32)), (.int p4)]) (rest := []) (lenOf pd_37 rfl) rfl (by show 2 * 0 + _ ≤ _; exact Nat.le_of_eq rfl) (hb hby at_28) (fun _ _ => ⟨rfl, rfl, (by decide : 8 + 4 ≤ _), (by decide : 2668 + 1334 ≤ _)⟩)
  dsimp only [Pt.U, Pt.locs, Pt.cells, Pt.slots] at hS105 hg105 hC105
  have hSn105 : s.Since T105.vm T105.heap.size := hSn103.trans hS105 (Nat.le_trans (Nat.le_refl _) hg105)
  have hZ : Z.Warmed39 (s.setVm T105.vm).vm := State.Warmed39.trans (t := (s.setVm T103.vm)) hZ hS105.1
  have hown : (s.setVm T105.vm).vm.findClass "com/example/vestwright/vestwright/cli/TableRowsCellsPinLaw" = some m.cls := by rw [show (s.setVm T105.vm).vm = T105.vm from rfl, hS105.1.alike.findClass]; exact hown
  have cr106 := hC105
  have Ccr106 := Ccr104.trans cr106
  dsimp only [Pt.U, Pt.locs, Pt.cells, Pt.slots] at X105 l105 y105 z105 st105 hQ105
  subst l105 y105 z105
  have X105 : Stand p l e _ (s.setVm T105.vm) m _ below meth c T105 _ _ _ := X105
  obtain ⟨b105, cs105, rfl, N105, K105, S105, hl105, hc105⟩ := hQ105
  have Nf105 := Fr.app Nf103 N105
  have O105 := O103.keep K105 all0
  have KK105 := KK103.trans K105 all0
  obtain ⟨nn105, hnn105⟩ : ∃ q, q = T105.heap.size := ⟨_, rfl⟩
  refine own_goH (S' := (T103.setTop (mkF m 28 #[vi p0, vi p1, vi p2, vi p3, vi p4, vi p5, vi ((1 : Int32) + (p0 &&& (1 : Int32))), vr b101, vr b103, .unset, .unset, .unset, .unset, .unset, .unset, .unset, .unset] [(.int p4), (.int ((p1.toUInt32 >>> ((4 : Int32) &&& 31).toUInt32).toInt32))]))) (fun tq kq => st103.trans (XS.astore X103.here hx rfl (hb hby at_21) rfl rfl (l' := #[vi p0, vi p1, vi p2, vi p3, vi p4, vi p5, vi ((1 : Int32) + (p0 &&& (1 : Int32))), vr b101, vr b103, .unset, .unset, .unset, .unset, .unset, .unset, .unset, .unset]) rfl (XS.iloadN X103.here hx rfl (hb hby at_23) rfl (XS.iconst X103.here hx rfl (hb hby at_24) (XS.iushr X103.here hx rfl (hb hby at_25) rfl (XS.iload X103.here hx rfl (hb hby at_26) rfl kq)))))) ?_
  rw [← hnn105] at S105
  obtain ⟨_, _, ⟨T107, L107, k107, n107⟩, -, X107, hS107, hg107, ⟨Lc107, hQ107, l107, y107, z107, hC107⟩, st107⟩ := callSS X105 hx (y := M10) hown (mvT hZ (ww hw 0 rfl)) (mvT hZ (ww hw 1 rfl)) (mvT hZ (ww hw 2 rfl)) (mvT hZ (ww hw 3 rfl)) (by decide) (backOfSH (s := s) (vm0 := T105.vm) (W := 0) (rm1 l Z a0 hw [] T105.heap n0 O105 ((p1.toUInt32 >>> ((6 : Int32) &&& 31).toUInt32).toInt32) p5 z hEL HP) hZ (ww hw 3 rfl) (ww hw 2 rfl) (by decide) (by decide) hEL Ccr106.1) (g := (mkF m 39 #[vi p0, vi p1, vi p2, vi p3, vi p4, vi p5, vi ((1 : Int32) + (p0 &&& (1 : Int32))), vr b101, vr b103, vr b105, .unset, .unset, .unset, .unset, .unset, .unset, .unset] [(.int p5), (.int ((p1.toUInt32 >>> ((6 : Int32) &&& 31).toUInt32).toInt32))])) rfl (by rw [hml]; rfl) (argsL := [(.int ((p1.toUInt32 >>> ((6 : Int32) &&& 31).toUInt32).toInt32)), (.int p5)]) (rest := []) (lenOf pd_37 rfl) rfl (by show 2 * 0 + _ ≤ _; exact Nat.le_of_eq rfl) (hb hby at_39) (fun _ _ => ⟨rfl, rfl, (by decide : 12 + 4 ≤ _), (by decide : 4002 + 1334 ≤ _)⟩)
  dsimp only [Pt.U, Pt.locs, Pt.cells, Pt.slots] at hS107 hg107 hC107
  have hSn107 : s.Since T107.vm T107.heap.size := hSn105.trans hS107 (Nat.le_trans (Nat.le_refl _) hg107)
  have hZ : Z.Warmed39 (s.setVm T107.vm).vm := State.Warmed39.trans (t := (s.setVm T105.vm)) hZ hS107.1
  have hown : (s.setVm T107.vm).vm.findClass "com/example/vestwright/vestwright/cli/TableRowsCellsPinLaw" = some m.cls := by rw [show (s.setVm T107.vm).vm = T107.vm from rfl, hS107.1.alike.findClass]; exact hown
  have cr108 := hC107
  have Ccr108 := Ccr106.trans cr108
  dsimp only [Pt.U, Pt.locs, Pt.cells, Pt.slots] at X107 l107 y107 z107 st107 hQ107
  subst l107 y107 z107
  have X107 : Stand p l e _ (s.setVm T107.vm) m _ below meth c T107 _ _ _ := X107
  obtain ⟨b107, cs107, rfl, N107, K107, S107, hl107, hc107⟩ := hQ107
  have Nf107 := Fr.app Nf105 N107
  have O107 := O105.keep K107 all0
  have KK107 := KK105.trans K107 all0
  obtain ⟨nn107, hnn107⟩ : ∃ q, q = T107.heap.size := ⟨_, rfl⟩
  refine own_goH (S' := (T105.setTop (mkF m 39 #[vi p0, vi p1, vi p2, vi p3, vi p4, vi p5, vi ((1 : Int32) + (p0 &&& (1 : Int32))), vr b101, vr b103, vr b105, .unset, .unset, .unset, .unset, .unset, .unset, .unset] [(.int p5), (.int ((p1.toUInt32 >>> ((6 : Int32) &&& 31).toUInt32).toInt32))]))) (fun tq kq => st105.trans (XS.astore X105.here hx rfl (hb hby at_31) rfl rfl (l' := #[vi p0, vi p1, vi p2, vi p3, vi p4, vi p5, vi ((1 : Int32) + (p0 &&& (1 : Int32))), vr b101, vr b103, vr b105, .unset, .unset, .unset, .unset, .unset, .unset, .unset]) rfl (XS.iloadN X105.here hx rfl (hb hby at_33) rfl (XS.bipush X105.here hx rfl (hb hby at_34) (XS.iushr X105.here hx rfl (hb hby at_36) rfl (XS.iload X105.here hx rfl (hb hby at_37) rfl kq)))))) ?_
  rw [← hnn107] at S107
  obtain ⟨nn, hnn⟩ : ∃ q, q = T107.heap.size := ⟨_, rfl⟩
  have f109 := (((S101.keep K103 all0).keep K105 all0).keep K107 all0)
  have Su0 : own_Str Z T107.heap nn b101 cs101 := by rw [hnn]; exact own_Str.mono f109 f109.1 (Nat.le_refl _)
  have f110 := ((S103.keep K105 all0).keep K107 all0)
  have Su1 : own_Str Z T107.heap nn b103 cs103 := by rw [hnn]; exact own_Str.mono f110 f110.1 (Nat.le_refl _)
  have f111 := (S105.keep K107 all0)
  have Su2 : own_Str Z T107.heap nn b105 cs105 := by rw [hnn]; exact own_Str.mono f111 f111.1 (Nat.le_refl _)
  have Su3 : own_Str Z T107.heap nn b107 cs107 := by rw [hnn]; exact own_Str.mono S107 S107.1 (Nat.le_refl _)
  refine own_goH (S' := (T107.setTop (mkF m 44 #[vi p0, vi p1, vi p2, vi p3, vi p4, vi p5, vi ((1 : Int32) + (p0 &&& (1 : Int32))), vr b101, vr b103, vr b105, vr b107, .unset, .unset, .unset, .unset, .unset, .unset] []))) (fun tq kq => st107.trans (XS.astore X107.here hx rfl (hb hby at_42) rfl rfl (l' := #[vi p0, vi p1, vi p2, vi p3, vi p4, vi p5, vi ((1 : Int32) + (p0 &&& (1 : Int32))), vr b101, vr b103, vr b105, vr b107, .unset, .unset, .unset, .unset, .unset, .unset]) rfl kq)) ?_
  rcases own_and1 p0 with hq | hq
  · rw [hq, show (1 : Int32) + (0 : Int32) = (1 : Int32) from by decide]
    obtain ⟨T112, h112, X112, e112, E112, A112, D112, -, st112⟩ := newO X107 hx hZ hown (ww hw 40 rfl) (ww hw 41 rfl) (ww hw 42 rfl) rfl (g := (mkF m 44 #[vi p0, vi p1, vi p2, vi p3, vi p4, vi p5, vi 1, vr b101, vr b103, vr b105, vr b107, .unset, .unset, .unset, .unset, .unset, .unset] [])) rfl (hb hby at_44) (by decide) (by decide)
    obtain ⟨b112, g112⟩ : ∃ z, z = T107.heap.size := ⟨_, rfl⟩
    rw [← g112] at A112 D112 st112
    have nb_b101_b112 : nn ≤ b112 := Nat.le_trans Su0.1 (Nat.le_of_eq g112.symm)
    have nb_b103_b112 : nn ≤ b112 := Nat.le_trans Su1.1 (Nat.le_of_eq g112.symm)
    have nb_b105_b112 : nn ≤ b112 := Nat.le_trans Su2.1 (Nat.le_of_eq g112.symm)
    have nb_b107_b112 : nn ≤ b112 := Nat.le_trans Su3.1 (Nat.le_of_eq g112.symm)
    have ge_b112 : n0 ≤ b112 := Nat.le_trans (own_osz O107) (Nat.le_of_eq g112.symm)
    have gk_b112 : h0.size ≤ b112 := Nat.le_trans KK107.1 (Nat.le_of_eq g112.symm)
    have O112 := O107.ext E112
    have K112 := KK107.ext E112
    have cr113 := CHr.ext E112 Ccr108.1
    have Ccr113 := Ccr108.trans cr113
    have F_bytes_b112 : Fld Z h112 b112 "com/example/vestwright/vestwright/cli/TableRows" "bytes" "[B" .null := D112 (Or.inl (ww hw 48 rfl)) (ty := (.array .byte)) (by decide)
    have F_starts_b112 : Fld Z h112 b112 "com/example/vestwright/vestwright/cli/TableRows" "starts" "[I" .null := D112 (Or.inl (ww hw 51 rfl)) (ty := (.array .int)) (by decide)
    have F_keys_b112 : Fld Z h112 b112 "com/example/vestwright/vestwright/cli/TableRows" "keys" "[I" .null := D112 (Or.inl (ww hw 53 rfl)) (ty := (.array .int)) (by decide)
    have F_width_b112 : Fld Z h112 b112 "com/example/vestwright/vestwright/cli/TableRows" "width" "I" (.int 0) := D112 (Or.inr (ww hw 55 rfl)) (ty := .int) (by decide)
    have F_used_b112 : Fld Z h112 b112 "com/example/vestwright/vestwright/cli/TableRows" "used" "I" (.int 0) := D112 (Or.inl (ww hw 102 rfl)) (ty := .int) (by decide)
    have F_size_b112 : Fld Z h112 b112 "com/example/vestwright/vestwright/cli/TableRows" "size" "I" (.int 0) := D112 (Or.inl (ww hw 108 rfl)) (ty := .int) (by decide)
    have f114 := (Su0.2.2.1.ext E112)
    have f115 := (Su1.2.2.1.ext E112)
    have f116 := (Su2.2.2.1.ext E112)
    have f117 := (Su3.2.2.1.ext E112)
    have f118 := (Su0.ext E112)
    have f119 := (Su1.ext E112)
    have f120 := (Su2.ext E112)
    have f121 := (Su3.ext E112)
    obtain ⟨_, _, ⟨T122, L122, k122, n122⟩, -, X122, ⟨Lc122, hQ122, l122, y122, z122⟩, st122⟩ := X112.specialBack hx (y := M20) rfl hown (mvT hZ (ww hw 43 rfl)) (mvT hZ (ww hw 44 rfl)) (mvT hZ (ww hw 45 rfl)) (by decide) (backOf (W := 1) (rm9 l Z a0 hw [] h112 n0 O112 b112 (1 : Int32) A112 F_width_b112 F_bytes_b112 F_used_b112 F_starts_b112 F_keys_b112 F_size_b112 ge_b112) hZ (ww hw 45 rfl) (ww hw 42 rfl) (by decide) (by decide)) (g := (mkF m 50 #[vi p0, vi p1, vi p2, vi p3, vi p4, vi p5, vi 1, vr b101, vr b103, vr b105, vr b107, .unset, .unset, .unset, .unset, .unset, .unset] [(.int 1), (.ref b112), (.ref b112)])) rfl (by rw [hml]; rfl) (Steps.refl _) (a := b112) (argsL := [(.int 1)]) (rest := [(.ref b112)]) (lenOf pd_20 rfl) rfl (by show 2 * 0 + _ ≤ _; exact Nat.le_of_eq rfl) (hb hby at_50) (fun _ _ => ⟨rfl, e112, (by decide : 17 + 3 ≤ _), (by decide : 5342 + 12288 ≤ _)⟩)
    dsimp only [Pt.U, Pt.locs, Pt.cells, Pt.slots] at X122 l122 y122 z122 st122 hQ122
    subst l122 y122 z122
    obtain ⟨rfl, N122, K122, bb122, bs122, bk122, ka122, kb122, kc122, TR122, g1122, g2122, g3122⟩ := hQ122
    have Nf122 := Fr.app Nf107 N122
    have O122 := O112.keep K122 (allS ge_b112 all0)
    have KK122 := K112.trans K122 (allS (Or.inr gk_b112) all0)
    have cr123 := CHr.keep K122 (sfS (Safe.exa hZ.alike A112 (by decide) (by decide)) sf0) Ccr113.1
    have Ccr123 := Ccr113.trans cr123
    have nb_b101_bb122 : nn ≤ bb122 := Nat.le_trans f118.1 g1122
    have nb_b105_bb122 : nn ≤ bb122 := Nat.le_trans f120.1 g1122
    have nb_b107_bb122 : nn ≤ bb122 := Nat.le_trans f121.1 g1122
    have ge_bb122 : n0 ≤ bb122 := Nat.le_trans (own_osz O112) g1122
    have gk_bb122 : h0.size ≤ bb122 := Nat.le_trans K112.1 g1122
    have nb_b101_bs122 : nn ≤ bs122 := Nat.le_trans f118.1 g2122
    have nb_b105_bs122 : nn ≤ bs122 := Nat.le_trans f120.1 g2122
    have nb_b107_bs122 : nn ≤ bs122 := Nat.le_trans f121.1 g2122
    have ge_bs122 : n0 ≤ bs122 := Nat.le_trans (own_osz O112) g2122
    have gk_bs122 : h0.size ≤ bs122 := Nat.le_trans K112.1 g2122
    have nb_b101_bk122 : nn ≤ bk122 := Nat.le_trans f118.1 g3122
    have nb_b105_bk122 : nn ≤ bk122 := Nat.le_trans f120.1 g3122
    have nb_b107_bk122 : nn ≤ bk122 := Nat.le_trans f121.1 g3122
    have ge_bk122 : n0 ≤ bk122 := Nat.le_trans (own_osz O112) g3122
    have gk_bk122 : h0.size ≤ bk122 := Nat.le_trans K112.1 g3122
    obtain ⟨⟨Et122, Fw122, Fb122, Fu122, Fs122, Fk122, Fz122⟩, ⟨Vb122, Vs122, Vk122⟩, ⟨ls122, lk122⟩, nq1122, nq2122, nq3122, nq4122, nq5122, nq6122⟩ := TR122
    have sf_bb := own_Sf.keep Ccr113.1 K122 (sfS (Safe.exa hZ.alike A112 (by decide) (by decide)) sf0) g1122 Vb122.lt
    obtain ⟨T124, h124, k124, X124, e124, E124, A124, Ov124, st124⟩ := newR X122 hx hZ hown (ww hw 8 rfl) (ww hw 56 rfl) rfl (g := (mkF m 58 #[vi p0, vi p1, vi p2, vi p3, vi p4, vi p5, vi 1, vr b101, vr b103, vr b105, vr b107, vr b112, .unset, .unset, .unset, .unset, .unset] [(.int 2), (.ref b112)])) rfl (hb hby at_58) rfl (by decide) (cap := 2) (by decide) (by decide) (by decide) (by decide)
    obtain ⟨b124, g124⟩ : ∃ z, z = T122.heap.size := ⟨_, rfl⟩
    rw [← g124] at A124 st124
    have f125 := (f114.keep K122)
    have f126 := (f115.keep K122)
    have f127 := (f116.keep K122)
    have f128 := (f117.keep K122)
    have ne_b112_b124 := own_nE Et122.lt g124
    have ne_bb122_b124 := own_nE Vb122.lt g124
    have ne_bk122_b124 := own_nE Vk122.lt g124
    have ne_bs122_b124 := own_nE Vs122.lt g124
    have f129 := (f118.keep K122 (allS nb_b101_b112 all0))
    have nb_b101_b124 : nn ≤ b124 := Nat.le_trans f129.1 (Nat.le_of_eq g124.symm)
    have f130 := (f119.keep K122 (allS nb_b103_b112 all0))
    have nb_b103_b124 : nn ≤ b124 := Nat.le_trans f130.1 (Nat.le_of_eq g124.symm)
    have f131 := (f120.keep K122 (allS nb_b105_b112 all0))
    have nb_b105_b124 : nn ≤ b124 := Nat.le_trans f131.1 (Nat.le_of_eq g124.symm)
    have f132 := (f121.keep K122 (allS nb_b107_b112 all0))
    have nb_b107_b124 : nn ≤ b124 := Nat.le_trans f132.1 (Nat.le_of_eq g124.symm)
    have ge_b124 : n0 ≤ b124 := Nat.le_trans (own_osz O122) (Nat.le_of_eq g124.symm)
    have gk_b124 : h0.size ≤ b124 := Nat.le_trans KK122.1 (Nat.le_of_eq g124.symm)
    have V124 : own_Ar Z h124 b124 k124 (.object "java/lang/String") [.null, .null] := own_Ar.new A124 (by decide)
    have O124 := O122.ext E124
    have K124 := KK122.ext E124
    have cr133 := CHr.ext E124 Ccr123.1
    have Ccr133 := Ccr123.trans cr133
    have sf134 := sf_bb.go cr133
    obtain ⟨cl135, Ar135, qa135, sa135, hin135, -⟩ := V124.at (j := (0 : Int32)) (by decide) rfl
    have f136 := (f125.ext E124)
    obtain ⟨T135, h135, X135, e135, W135, st135⟩ := stR X124 hx hZ e124 Ar135 (j := (0 : Int32)) hin135 rfl (Sto.of Ar135 (qa135 ▸ Ov124) (Ins.self f136)) (g := (mkF m 65 #[vi p0, vi p1, vi p2, vi p3, vi p4, vi p5, vi 1, vr b101, vr b103, vr b105, vr b107, vr b112, .unset, .unset, .unset, .unset, .unset] [(.ref b101), (.int 0), (.ref b124), (.ref b124), (.ref b112)])) rfl rfl (hb hby at_65)
    have N135 := Fr.snoc X135 Nf122 ge_b124
    have O135 := O124.wr W135 ge_b124
    have K135 := K124.wr W135 (Or.inr gk_b124)
    have cr137 := CHr.wr W135 (own_safeAr hZ.alike V124 (by nofun)) Ccr133.1
    have Ccr137 := Ccr133.trans cr137
    have sf138 := sf134.go cr137
    have V135 : own_Ar Z h135 b124 k124 (.object "java/lang/String") [(.ref b101), .null] := own_Ar.set Ar135 qa135 sa135 V124.small W135
    obtain ⟨cl139, Ar139, qa139, sa139, hin139, -⟩ := V135.at (j := (1 : Int32)) (by decide) rfl
    have f140 := ((f126.ext E124).wr W135)
    obtain ⟨T139, h139, X139, e139, W139, st139⟩ := stR X135 hx hZ e135 Ar139 (j := (1 : Int32)) hin139 rfl (Sto.of Ar139 (qa139 ▸ Ov124) (Ins.self f140)) (g := (mkF m 70 #[vi p0, vi p1, vi p2, vi p3, vi p4, vi p5, vi 1, vr b101, vr b103, vr b105, vr b107, vr b112, .unset, .unset, .unset, .unset, .unset] [(.ref b103), (.int 1), (.ref b124), (.ref b124), (.ref b112)])) rfl rfl (hb hby at_70)
    have N139 := Fr.snoc X139 N135 ge_b124
    have O139 := O135.wr W139 ge_b124
    have K139 := K135.wr W139 (Or.inr gk_b124)
    have cr141 := CHr.wr W139 (own_safeAr hZ.alike V135 (by nofun)) Ccr137.1
    have Ccr141 := Ccr137.trans cr141
    have sf142 := sf138.go cr141
    have V139 : own_Ar Z h139 b124 k124 (.object "java/lang/String") [(.ref b101), (.ref b103)] := own_Ar.set Ar139 qa139 sa139 V135.small W139
    have f143 := (((Et122.ext E124).wr W135).wr W139)
    have f144 := (((Fw122.ext E124).other W135 (Or.inl ne_b112_b124)).other W139 (Or.inl ne_b112_b124))
    have f145 := (((Fb122.ext E124).other W135 (Or.inl ne_b112_b124)).other W139 (Or.inl ne_b112_b124))
    have f146 := (((Fu122.ext E124).other W135 (Or.inl ne_b112_b124)).other W139 (Or.inl ne_b112_b124))
    have f147 := (((Fs122.ext E124).other W135 (Or.inl ne_b112_b124)).other W139 (Or.inl ne_b112_b124))
    have f148 := (((Fk122.ext E124).other W135 (Or.inl ne_b112_b124)).other W139 (Or.inl ne_b112_b124))
    have f149 := (((Fz122.ext E124).other W135 (Or.inl ne_b112_b124)).other W139 (Or.inl ne_b112_b124))
    have f150 := (((Vb122.ext E124).other W135 ne_bb122_b124).other W139 ne_bb122_b124)
    have f151 := (((Vs122.ext E124).other W135 ne_bs122_b124).other W139 ne_bs122_b124)
    have f152 := (((Vk122.ext E124).other W135 ne_bk122_b124).other W139 ne_bk122_b124)
    have hu101 : (own_u8 cs101).length ≤ 390 := Nat.le_trans (own_u8le cs101) (by omega)
    have hv101 := own_vll (own_u8 cs101).length
    have hu103 : (own_u8 cs103).length ≤ 390 := Nat.le_trans (own_u8le cs103) (by omega)
    have hv103 := own_vll (own_u8 cs103).length
    have hbn0 : ([] : List Int).length ≤ 1000 := by simp
    have hbr0 : ∀ z ∈ ([] : List Int), -128 ≤ z ∧ z < 128 := (fun z hz => absurd hz List.not_mem_nil)
    have f153 := (((f129.ext E124).wr W135 nb_b101_b124).wr W139 nb_b101_b124)
    have f154 := (((f130.ext E124).wr W135 nb_b103_b124).wr W139 nb_b103_b124)
    obtain ⟨cq155, kq155, q155a, q155b, q155c⟩ := isOf hZ e139 f143
    obtain ⟨_, _, ⟨T155, L155, k155, n155⟩, -, X155, ⟨Lc155, hQ155, l155, y155, z155⟩, st155⟩ := X139.virtualBack hx (y := M2) (z := M2) hown (mvT hZ (ww hw 57 rfl)) (mvT hZ (ww hw 58 rfl)) (notFace_of_selects (args := #[]) (mvT hZ (ww hw 60 rfl))) (mvT hZ (ww hw 60 rfl)) (mvT hZ (ww hw 59 rfl)) (by decide) (backOf (W := 0) (add1 l Z a0 hw [] h139 n0 O139 b112 bb122 bs122 bk122 ka122 kb122 kc122 ([] : List Int) (List.replicate 4096 (.int 0)) (List.replicate 4096 (.int 0)) 0 b124 k124 b101 b103 nn cs101 cs103 p2 z u HP HU ⟨⟨f143, f144, f145, f146, f147, f148, f149⟩, ⟨f150, f151, f152⟩, ⟨ls122, lk122⟩, nq1122, nq2122, nq3122, nq4122, nq5122, nq6122⟩ (by decide) hbn0 hbr0 ge_b112 ge_bb122 ge_bs122 ge_bk122 V139 f153 hl101 hc101 f154 hl103 hc103) hZ (ww hw 61 rfl) (ww hw 42 rfl) (by decide) (by decide)) q155a q155c (g := (mkF m 72 #[vi p0, vi p1, vi p2, vi p3, vi p4, vi p5, vi 1, vr b101, vr b103, vr b105, vr b107, vr b112, .unset, .unset, .unset, .unset, .unset] [(.int p2), (.ref b124), (.ref b112)])) rfl (by rw [hml]; rfl) (Steps.refl _) (argsL := [(.ref b124), (.int p2)]) (rest := []) (lenOf pd_38 rfl) rfl (by show 2 * 0 + _ ≤ _; exact Nat.le_of_eq rfl) (hb hby at_72) (fun _ _ => ⟨rfl, e139, (by decide : 21 + 3 ≤ _), (by decide : 17632 + 1601 ≤ _)⟩)
    dsimp only [Pt.U, Pt.locs, Pt.cells, Pt.slots] at X155 l155 y155 z155 st155 hQ155
    subst l155 y155 z155
    obtain ⟨rfl, N155, K155, TR155⟩ := hQ155
    have Nf155 := Fr.app N139 N155
    have O155 := O139.keep K155 (allS ge_b112 (allS ge_bb122 (allS ge_bs122 (allS ge_bk122 all0))))
    have KK155 := K139.trans K155 (allS (Or.inr gk_b112) (allS (Or.inr gk_bb122) (allS (Or.inr gk_bs122) (allS (Or.inr gk_bk122) all0))))
    have cr156 := CHr.keep K155 (sfS (Safe.exa hZ.alike f143 (by decide) (by decide)) (sfS sf142.1 (sfS (own_safeAr hZ.alike f151 (by nofun)) (sfS (own_safeAr hZ.alike f152 (by nofun)) sf0)))) Ccr141.1
    have Ccr156 := Ccr141.trans cr156
    have sf157 := sf142.go cr156
    obtain ⟨B155, hB155⟩ : ∃ q : List Int, q = ((([] : List Int) ++ own_vl (own_u8 cs101).length) ++ own_u8 cs101) := ⟨_, rfl⟩
    refine own_goH (S' := (T139.setTop (mkF m 72 #[vi p0, vi p1, vi p2, vi p3, vi p4, vi p5, vi 1, vr b101, vr b103, vr b105, vr b107, vr b112, .unset, .unset, .unset, .unset, .unset] [(.int p2), (.ref b124), (.ref b112)]))) (fun tq kq => st112 tq (XS.dup X112.here hx rfl (hb hby at_47) rfl rfl (XS.iload X112.here hx rfl (hb hby at_48) rfl (st122.trans (XS.astore X122.here hx rfl (hb hby at_53) rfl rfl (l' := #[vi p0, vi p1, vi p2, vi p3, vi p4, vi p5, vi 1, vr b101, vr b103, vr b105, vr b107, vr b112, .unset, .unset, .unset, .unset, .unset]) rfl (XS.aload X122.here hx rfl (hb hby at_55) rfl rfl (XS.iconst X122.here hx rfl (hb hby at_57) (st124 tq (XS.dup X124.here hx rfl (hb hby at_61) rfl rfl (XS.iconst X124.here hx rfl (hb hby at_62) (XS.aload X124.here hx rfl (hb hby at_63) rfl rfl (st135 tq (XS.dup X135.here hx rfl (hb hby at_66) rfl rfl (XS.iconst X135.here hx rfl (hb hby at_67) (XS.aload X135.here hx rfl (hb hby at_68) rfl rfl (st139 tq (XS.iloadN X139.here hx rfl (hb hby at_71) rfl kq))))))))))))))))) ?_
    rw [← hB155] at TR155
    obtain ⟨D155, hD155⟩ : ∃ q : List Value, q = ((List.replicate 4096 (.int 0)).set 0 (.int (Int32.ofNat ([] : List Int).length))) := ⟨_, rfl⟩
    rw [← hD155] at TR155
    obtain ⟨E155, hE155⟩ : ∃ q : List Value, q = ((List.replicate 4096 (.int 0)).set 0 (.int p2)) := ⟨_, rfl⟩
    rw [← hE155] at TR155
    obtain ⟨⟨Et155, Fw155, Fb155, Fu155, Fs155, Fk155, Fz155⟩, ⟨Vb155, Vs155, Vk155⟩, ⟨ls155, lk155⟩, nq1155, nq2155, nq3155, nq4155, nq5155, nq6155⟩ := TR155
    have hlB155 := congrArg List.length hB155
    simp only [List.length_append, List.length_nil] at hlB155
    obtain ⟨T158, h158, k158, X158, e158, E158, A158, Ov158, st158⟩ := newR X155 hx hZ hown (ww hw 8 rfl) (ww hw 56 rfl) rfl (g := (mkF m 80 #[vi p0, vi p1, vi p2, vi p3, vi p4, vi p5, vi 1, vr b101, vr b103, vr b105, vr b107, vr b112, vi 1, .unset, .unset, .unset, .unset] [(.int 2), (.ref b112)])) rfl (hb hby at_80) rfl (by decide) (cap := 2) (by decide) (by decide) (by decide) (by decide)
    obtain ⟨b158, g158⟩ : ∃ z, z = T155.heap.size := ⟨_, rfl⟩
    rw [← g158] at A158 st158
    have f159 := (((f136.wr W135).wr W139).keep K155)
    have f161 := ((((f127.ext E124).wr W135).wr W139).keep K155)
    have f162 := ((((f128.ext E124).wr W135).wr W139).keep K155)
    have ne_b112_b158 := own_nE Et155.lt g158
    have ne_bb122_b158 := own_nE Vb155.lt g158
    have ne_bk122_b158 := own_nE Vk155.lt g158
    have ne_bs122_b158 := own_nE Vs155.lt g158
    have f164 := (f153.keep K155 (allS nb_b101_b112 (allS nb_b101_bb122 (allS nb_b101_bs122 (allS nb_b101_bk122 all0)))))
    have nb_b101_b158 : nn ≤ b158 := Nat.le_trans f164.1 (Nat.le_of_eq g158.symm)
    have f166 := ((((f131.ext E124).wr W135 nb_b105_b124).wr W139 nb_b105_b124).keep K155 (allS nb_b105_b112 (allS nb_b105_bb122 (allS nb_b105_bs122 (allS nb_b105_bk122 all0)))))
    have nb_b105_b158 : nn ≤ b158 := Nat.le_trans f166.1 (Nat.le_of_eq g158.symm)
    have f167 := ((((f132.ext E124).wr W135 nb_b107_b124).wr W139 nb_b107_b124).keep K155 (allS nb_b107_b112 (allS nb_b107_bb122 (allS nb_b107_bs122 (allS nb_b107_bk122 all0)))))
    have nb_b107_b158 : nn ≤ b158 := Nat.le_trans f167.1 (Nat.le_of_eq g158.symm)
    have ge_b158 : n0 ≤ b158 := Nat.le_trans (own_osz O155) (Nat.le_of_eq g158.symm)
    have gk_b158 : h0.size ≤ b158 := Nat.le_trans KK155.1 (Nat.le_of_eq g158.symm)
    have V158 : own_Ar Z h158 b158 k158 (.object "java/lang/String") [.null, .null] := own_Ar.new A158 (by decide)
    have O158 := O155.ext E158
    have K158 := KK155.ext E158
    have cr168 := CHr.ext E158 Ccr156.1
    have Ccr168 := Ccr156.trans cr168
    have sf169 := sf157.go cr168
    obtain ⟨cl170, Ar170, qa170, sa170, hin170, -⟩ := V158.at (j := (0 : Int32)) (by decide) rfl
    have f171 := (f161.ext E158)
    obtain ⟨T170, h170, X170, e170, W170, st170⟩ := stR X158 hx hZ e158 Ar170 (j := (0 : Int32)) hin170 rfl (Sto.of Ar170 (qa170 ▸ Ov158) (Ins.self f171)) (g := (mkF m 87 #[vi p0, vi p1, vi p2, vi p3, vi p4, vi p5, vi 1, vr b101, vr b103, vr b105, vr b107, vr b112, vi 1, .unset, .unset, .unset, .unset] [(.ref b105), (.int 0), (.ref b158), (.ref b158), (.ref b112)])) rfl rfl (hb hby at_87)
    have N170 := Fr.snoc X170 Nf155 ge_b158
    have O170 := O158.wr W170 ge_b158
    have K170 := K158.wr W170 (Or.inr gk_b158)
    have cr172 := CHr.wr W170 (own_safeAr hZ.alike V158 (by nofun)) Ccr168.1
    have Ccr172 := Ccr168.trans cr172
    have sf173 := sf169.go cr172
    have V170 : own_Ar Z h170 b158 k158 (.object "java/lang/String") [(.ref b105), .null] := own_Ar.set Ar170 qa170 sa170 V158.small W170
    obtain ⟨cl174, Ar174, qa174, sa174, hin174, -⟩ := V170.at (j := (1 : Int32)) (by decide) rfl
    have f175 := ((f162.ext E158).wr W170)
    obtain ⟨T174, h174, X174, e174, W174, st174⟩ := stR X170 hx hZ e170 Ar174 (j := (1 : Int32)) hin174 rfl (Sto.of Ar174 (qa174 ▸ Ov158) (Ins.self f175)) (g := (mkF m 92 #[vi p0, vi p1, vi p2, vi p3, vi p4, vi p5, vi 1, vr b101, vr b103, vr b105, vr b107, vr b112, vi 1, .unset, .unset, .unset, .unset] [(.ref b107), (.int 1), (.ref b158), (.ref b158), (.ref b112)])) rfl rfl (hb hby at_92)
    have N174 := Fr.snoc X174 N170 ge_b158
    have O174 := O170.wr W174 ge_b158
    have K174 := K170.wr W174 (Or.inr gk_b158)
    have cr176 := CHr.wr W174 (own_safeAr hZ.alike V170 (by nofun)) Ccr172.1
    have Ccr176 := Ccr172.trans cr176
    have sf177 := sf173.go cr176
    have V174 : own_Ar Z h174 b158 k158 (.object "java/lang/String") [(.ref b105), (.ref b107)] := own_Ar.set Ar174 qa174 sa174 V170.small W174
    have f178 := (((Et155.ext E158).wr W170).wr W174)
    have f179 := (((Fw155.ext E158).other W170 (Or.inl ne_b112_b158)).other W174 (Or.inl ne_b112_b158))
    have f180 := (((Fb155.ext E158).other W170 (Or.inl ne_b112_b158)).other W174 (Or.inl ne_b112_b158))
    have f181 := (((Fu155.ext E158).other W170 (Or.inl ne_b112_b158)).other W174 (Or.inl ne_b112_b158))
    have f182 := (((Fs155.ext E158).other W170 (Or.inl ne_b112_b158)).other W174 (Or.inl ne_b112_b158))
    have f183 := (((Fk155.ext E158).other W170 (Or.inl ne_b112_b158)).other W174 (Or.inl ne_b112_b158))
    have f184 := (((Fz155.ext E158).other W170 (Or.inl ne_b112_b158)).other W174 (Or.inl ne_b112_b158))
    have f185 := (((Vb155.ext E158).other W170 ne_bb122_b158).other W174 ne_bb122_b158)
    have f186 := (((Vs155.ext E158).other W170 ne_bs122_b158).other W174 ne_bs122_b158)
    have f187 := (((Vk155.ext E158).other W170 ne_bk122_b158).other W174 ne_bk122_b158)
    have hu105 : (own_u8 cs105).length ≤ 390 := Nat.le_trans (own_u8le cs105) (by omega)
    have hv105 := own_vll (own_u8 cs105).length
    have hu107 : (own_u8 cs107).length ≤ 390 := Nat.le_trans (own_u8le cs107) (by omega)
    have hv107 := own_vll (own_u8 cs107).length
    have hbn1 : B155.length ≤ 1000 := by omega
    have hbr1 : ∀ z ∈ B155, -128 ≤ z ∧ z < 128 := (hB155 ▸ (own_rapp (own_rapp hbr0 (own_vlr (by omega))) (own_u8r hc101)))
    have f188 := (((f166.ext E158).wr W170 nb_b105_b158).wr W174 nb_b105_b158)
    have f189 := (((f167.ext E158).wr W170 nb_b107_b158).wr W174 nb_b107_b158)
    obtain ⟨cq190, kq190, q190a, q190b, q190c⟩ := isOf hZ e174 f178
    obtain ⟨_, _, ⟨T190, L190, k190, n190⟩, -, X190, ⟨Lc190, hQ190, l190, y190, z190⟩, st190⟩ := X174.virtualBack hx (y := M2) (z := M2) hown (mvT hZ (ww hw 57 rfl)) (mvT hZ (ww hw 58 rfl)) (notFace_of_selects (args := #[]) (mvT hZ (ww hw 60 rfl))) (mvT hZ (ww hw 60 rfl)) (mvT hZ (ww hw 59 rfl)) (by decide) (backOf (W := 0) (add1 l Z a0 hw [] h174 n0 O174 b112 bb122 bs122 bk122 ka122 kb122 kc122 B155 D155 E155 (0 + 1) b158 k158 b105 b107 nn cs105 cs107 p3 z u HP HU ⟨⟨f178, f179, f180, f181, f182, f183, f184⟩, ⟨f185, f186, f187⟩, ⟨ls155, lk155⟩, nq1155, nq2155, nq3155, nq4155, nq5155, nq6155⟩ (by decide) hbn1 hbr1 ge_b112 ge_bb122 ge_bs122 ge_bk122 V174 f188 hl105 hc105 f189 hl107 hc107) hZ (ww hw 61 rfl) (ww hw 42 rfl) (by decide) (by decide)) q190a q190c (g := (mkF m 94 #[vi p0, vi p1, vi p2, vi p3, vi p4, vi p5, vi 1, vr b101, vr b103, vr b105, vr b107, vr b112, vi 1, .unset, .unset, .unset, .unset] [(.int p3), (.ref b158), (.ref b112)])) rfl (by rw [hml]; rfl) (Steps.refl _) (argsL := [(.ref b158), (.int p3)]) (rest := []) (lenOf pd_38 rfl) rfl (by show 2 * 0 + _ ≤ _; exact Nat.le_of_eq rfl) (hb hby at_94) (fun _ _ => ⟨rfl, e174, (by decide : 25 + 3 ≤ _), (by decide : 19235 + 1601 ≤ _)⟩)
    dsimp only [Pt.U, Pt.locs, Pt.cells, Pt.slots] at X190 l190 y190 z190 st190 hQ190
    subst l190 y190 z190
    obtain ⟨rfl, N190, K190, TR190⟩ := hQ190
    have Nf190 := Fr.app N174 N190
    have O190 := O174.keep K190 (allS ge_b112 (allS ge_bb122 (allS ge_bs122 (allS ge_bk122 all0))))
    have KK190 := K174.trans K190 (allS (Or.inr gk_b112) (allS (Or.inr gk_bb122) (allS (Or.inr gk_bs122) (allS (Or.inr gk_bk122) all0))))
    have cr191 := CHr.keep K190 (sfS (Safe.exa hZ.alike f178 (by decide) (by decide)) (sfS sf177.1 (sfS (own_safeAr hZ.alike f186 (by nofun)) (sfS (own_safeAr hZ.alike f187 (by nofun)) sf0)))) Ccr176.1
    have Ccr191 := Ccr176.trans cr191
    have sf192 := sf177.go cr191
    obtain ⟨B190, hB190⟩ : ∃ q : List Int, q = ((B155 ++ own_vl (own_u8 cs105).length) ++ own_u8 cs105) := ⟨_, rfl⟩
    refine own_goH (S' := (T174.setTop (mkF m 94 #[vi p0, vi p1, vi p2, vi p3, vi p4, vi p5, vi 1, vr b101, vr b103, vr b105, vr b107, vr b112, vi 1, .unset, .unset, .unset, .unset] [(.int p3), (.ref b158), (.ref b112)]))) (fun tq kq => st155.trans (XS.istore X155.here hx rfl (hb hby at_75) rfl (l' := #[vi p0, vi p1, vi p2, vi p3, vi p4, vi p5, vi 1, vr b101, vr b103, vr b105, vr b107, vr b112, vi 1, .unset, .unset, .unset, .unset]) rfl (XS.aload X155.here hx rfl (hb hby at_77) rfl rfl (XS.iconst X155.here hx rfl (hb hby at_79) (st158 tq (XS.dup X158.here hx rfl (hb hby at_83) rfl rfl (XS.iconst X158.here hx rfl (hb hby at_84) (XS.aload X158.here hx rfl (hb hby at_85) rfl rfl (st170 tq (XS.dup X170.here hx rfl (hb hby at_88) rfl rfl (XS.iconst X170.here hx rfl (hb hby at_89) (XS.aload X170.here hx rfl (hb hby at_90) rfl rfl (st174 tq (XS.iloadN X174.here hx rfl (hb hby at_93) rfl kq)))))))))))))) ?_
    rw [← hB190] at TR190
    obtain ⟨D190, hD190⟩ : ∃ q : List Value, q = (D155.set (0 + 1) (.int (Int32.ofNat B155.length))) := ⟨_, rfl⟩
    rw [← hD190] at TR190
    obtain ⟨E190, hE190⟩ : ∃ q : List Value, q = (E155.set (0 + 1) (.int p3)) := ⟨_, rfl⟩
    rw [← hE190] at TR190
    obtain ⟨⟨Et190, Fw190, Fb190, Fu190, Fs190, Fk190, Fz190⟩, ⟨Vb190, Vs190, Vk190⟩, ⟨ls190, lk190⟩, nq1190, nq2190, nq3190, nq4190, nq5190, nq6190⟩ := TR190
    have hlB190 := congrArg List.length hB190
    simp only [List.length_append, List.length_nil] at hlB190
    refine own_goH (S' := (T190.setTop (mkF m 116 #[vi p0, vi p1, vi p2, vi p3, vi p4, vi p5, vi 1, vr b101, vr b103, vr b105, vr b107, vr b112, vi 1, vi 1, .unset, .unset, .unset] [(.int (((p0.toUInt32 >>> ((1 : Int32) &&& 31).toUInt32).toInt32) &&& (1 : Int32)))]))) (fun tq kq => st190.trans (XS.istore X190.here hx rfl (hb hby at_97) rfl (l' := #[vi p0, vi p1, vi p2, vi p3, vi p4, vi p5, vi 1, vr b101, vr b103, vr b105, vr b107, vr b112, vi 1, vi 1, .unset, .unset, .unset]) rfl (XS.iload X190.here hx rfl (hb hby at_99) rfl (XS.ifNo X190.here hx rfl (hb hby at_101) rfl ((if0 _ _).trans (feq (by decide : ¬ ((1 : Int32) = (0 : Int32)))).1) (XS.iload X190.here hx rfl (hb hby at_104) rfl (XS.ifYes X190.here hx rfl (pc0 := 106) (pc' := 111) rfl (hb hby at_106) rfl ((if0 _ _).trans (feq (by decide : ¬ ((1 : Int32) = (0 : Int32)))).2) (by decide) (by decide) (XS.iloadN X190.here hx rfl (hb hby at_111) rfl (XS.iconst X190.here hx rfl (hb hby at_112) (XS.iushr X190.here hx rfl (hb hby at_113) rfl (XS.iconst X190.here hx rfl (hb hby at_114) (XS.iand X190.here hx rfl (hb hby at_115) rfl kq))))))))))) ?_
    by_cases hc193 : (((p0.toUInt32 >>> ((1 : Int32) &&& 31).toUInt32).toInt32) &&& (1 : Int32)) = (0 : Int32)
    · have f195 := ((((f159.ext E158).wr W170).wr W174).keep K190)
      have f201 := ((((f164.ext E158).wr W170 nb_b101_b158).wr W174 nb_b101_b158).keep K190 (allS nb_b101_b112 (allS nb_b101_bb122 (allS nb_b101_bs122 (allS nb_b101_bk122 all0)))))
      have f203 := (f188.keep K190 (allS nb_b105_b112 (allS nb_b105_bb122 (allS nb_b105_bs122 (allS nb_b105_bk122 all0)))))
      obtain ⟨cq205, kq205, q205a, q205b, q205c⟩ := isOf hZ rfl Et190
      obtain ⟨_, _, ⟨T205, L205, k205, n205⟩, -, X205, hS205, hg205, ⟨Lc205, hQ205, l205, y205, z205, hC205⟩, st205⟩ := X190.virtualBackS hx (y := M1) (z := M1) hown (mvT hZ (ww hw 117 rfl)) (mvT hZ (ww hw 118 rfl)) (notFace_of_selects (args := #[]) (mvT hZ (ww hw 120 rfl))) (mvT hZ (ww hw 120 rfl)) (mvT hZ (ww hw 119 rfl)) (by decide) (backOfSH (s := s) (vm0 := T107.vm) (W := 0) (cel1 l Z a0 hw [] T190.heap n0 O190 b112 bb122 bs122 bk122 ka122 kb122 kc122 B190 D190 E190 ((0 + 1) + 1) 0 (([] : List Int).length) ([] : List Int) (own_en cs105) cs101 z u fm hEL HP HU HF ⟨⟨Et190, Fw190, Fb190, Fu190, Fs190, Fk190, Fz190⟩, ⟨Vb190, Vs190, Vk190⟩, ⟨ls190, lk190⟩, nq1190, nq2190, nq3190, nq4190, nq5190, nq6190⟩ (by decide) (by simp [hD190, hD155]) (by simp [hB190, hB155, own_en]) rfl (by omega) (hB190 ▸ (own_rapp (own_rapp hbr1 (own_vlr (by omega))) (own_u8r hc105))) hl101 hc101) hZ (ww hw 121 rfl) (ww hw 42 rfl) (by decide) (by decide) hEL Ccr191.1) q205a q205c (g := (mkF m 153 #[vi p0, vi p1, vi p2, vi p3, vi p4, vi p5, vi 1, vr b101, vr b103, vr b105, vr b107, vr b112, vi 1, vi 1, vi 0, .unset, .unset] [(.int 0), (.ref b112)])) rfl (by rw [hml]; rfl) (Steps.refl _) (argsL := [(.int 0)]) (rest := []) (lenOf pd_39 rfl) rfl (by show 2 * 0 + _ ≤ _; exact Nat.le_of_eq rfl) (hb hby at_153) (fun _ _ => ⟨rfl, rfl, (by decide : 28 + 5 ≤ _), (by decide : 20836 + 2005 ≤ _)⟩)
      dsimp only [Pt.U, Pt.locs, Pt.cells, Pt.slots] at hS205 hg205 hC205
      have hSn205 : s.Since T205.vm T205.heap.size := hSn107.trans hS205 (Nat.le_trans (Nat.le_trans (Nat.le_trans (Nat.le_trans (Nat.le_trans (Nat.le_trans (Nat.le_trans (Nat.le_trans (Nat.le_trans (Nat.le_trans (Nat.le_trans (Nat.le_refl _) E112.1) K122.1) E124.1) (Nat.le_of_eq W135.size.symm)) (Nat.le_of_eq W139.size.symm)) K155.1) E158.1) (Nat.le_of_eq W170.size.symm)) (Nat.le_of_eq W174.size.symm)) K190.1) hg205)
      have hZ : Z.Warmed39 (s.setVm T205.vm).vm := State.Warmed39.trans (t := (s.setVm T107.vm)) hZ hS205.1
      have hown : (s.setVm T205.vm).vm.findClass "com/example/vestwright/vestwright/cli/TableRowsCellsPinLaw" = some m.cls := by rw [show (s.setVm T205.vm).vm = T205.vm from rfl, hS205.1.alike.findClass]; exact hown
      have cr206 := hC205
      have Ccr206 := Ccr191.trans cr206
      have sf207 := sf192.go cr206
      dsimp only [Pt.U, Pt.locs, Pt.cells, Pt.slots] at X205 l205 y205 z205 st205 hQ205
      subst l205 y205 z205
      have X205 : Stand p l e _ (s.setVm T205.vm) m _ below meth c T205 _ _ _ := X205
      obtain ⟨b205, kb205, y0205, rfl, N205, K205, gb205, V205, Y0205⟩ := hQ205
      have Nf205 := Fr.app Nf190 N205
      have O205 := O190.keep K205 all0
      have KK205 := KK190.trans K205 all0
      obtain ⟨nn205, hnn205⟩ : ∃ q, q = T205.heap.size := ⟨_, rfl⟩
      refine own_goH (S' := (T190.setTop (mkF m 153 #[vi p0, vi p1, vi p2, vi p3, vi p4, vi p5, vi 1, vr b101, vr b103, vr b105, vr b107, vr b112, vi 1, vi 1, vi 0, .unset, .unset] [(.int 0), (.ref b112)]))) (fun tq kq => XS.ifYes X190.here hx rfl (pc0 := 116) (pc' := 123) rfl (hb hby at_116) rfl ((if0 _ _).trans (teq hc193).1) (by decide) (by decide) (XS.iconst X190.here hx rfl (hb hby at_123) (XS.istore X190.here hx rfl (hb hby at_124) rfl (l' := #[vi p0, vi p1, vi p2, vi p3, vi p4, vi p5, vi 1, vr b101, vr b103, vr b105, vr b107, vr b112, vi 1, vi 1, vi 0, .unset, .unset]) rfl (XS.iload X190.here hx rfl (hb hby at_126) rfl (XS.ifYes X190.here hx rfl (pc0 := 128) (pc' := 150) rfl (hb hby at_128) rfl ((if0 _ _).trans (teq (by decide : (0 : Int32) = (0 : Int32))).1) (by decide) (by decide) (XS.aload X190.here hx rfl (hb hby at_150) rfl rfl (XS.iconst X190.here hx rfl (hb hby at_152) kq))))))) ?_
      rw [← hnn205] at Y0205
      have f213 := (Et190.keep K205)
      have f216 := (Vb190.keep K205 nin0)
      have f217 := (Vk190.keep K205 nin0)
      have f218 := (Vs190.keep K205 nin0)
      have f219 := (f201.keep K205 all0)
      have f221 := (f203.keep K205 all0)
      have f223 := (Fw190.keep K205 nin0)
      have f224 := (Fb190.keep K205 nin0)
      have f225 := (Fu190.keep K205 nin0)
      have f226 := (Fs190.keep K205 nin0)
      have f227 := (Fk190.keep K205 nin0)
      have f228 := (Fz190.keep K205 nin0)
      obtain ⟨cq229, kq229, q229a, q229b, q229c⟩ := isOf hZ rfl f213
      obtain ⟨_, _, ⟨T229, L229, k229, n229⟩, -, X229, hS229, hg229, ⟨Lc229, hQ229, l229, y229, z229, hC229⟩, st229⟩ := X205.virtualBackS hx (y := M1) (z := M1) hown (mvT hZ (ww hw 117 rfl)) (mvT hZ (ww hw 118 rfl)) (notFace_of_selects (args := #[]) (mvT hZ (ww hw 120 rfl))) (mvT hZ (ww hw 120 rfl)) (mvT hZ (ww hw 119 rfl)) (by decide) (backOfSH (s := s) (vm0 := T205.vm) (W := 0) (cel1 l Z a0 hw [] T205.heap n0 O205 b112 bb122 bs122 bk122 ka122 kb122 kc122 B190 D190 E190 ((0 + 1) + 1) 1 (B155.length) (own_en cs101) ([] : List Int) cs105 z u fm hEL HP HU HF ⟨⟨f213, f223, f224, f225, f226, f227, f228⟩, ⟨f216, f218, f217⟩, ⟨ls190, lk190⟩, nq1190, nq2190, nq3190, nq4190, nq5190, nq6190⟩ (by decide) (by simp [hD190, hD155]) (by simp [hB190, hB155, own_en]) (by simp [hB155, own_en]) (by omega) (hB190 ▸ (own_rapp (own_rapp hbr1 (own_vlr (by omega))) (own_u8r hc105))) hl105 hc105) hZ (ww hw 121 rfl) (ww hw 42 rfl) (by decide) (by decide) hEL Ccr206.1) q229a q229c (g := (mkF m 161 #[vi p0, vi p1, vi p2, vi p3, vi p4, vi p5, vi 1, vr b101, vr b103, vr b105, vr b107, vr b112, vi 1, vi 1, vi 0, vr b205, .unset] [(.int 1), (.ref b112)])) rfl (by rw [hml]; rfl) (Steps.refl _) (argsL := [(.int 1)]) (rest := []) (lenOf pd_39 rfl) rfl (by show 2 * 0 + _ ≤ _; exact Nat.le_of_eq rfl) (hb hby at_161) (fun _ _ => ⟨rfl, rfl, (by decide : 33 + 5 ≤ _), (by decide : 22841 + 2005 ≤ _)⟩)
      dsimp only [Pt.U, Pt.locs, Pt.cells, Pt.slots] at hS229 hg229 hC229
      have hSn229 : s.Since T229.vm T229.heap.size := hSn205.trans hS229 (Nat.le_trans (Nat.le_refl _) hg229)
      have hZ : Z.Warmed39 (s.setVm T229.vm).vm := State.Warmed39.trans (t := (s.setVm T205.vm)) hZ hS229.1
      have hown : (s.setVm T229.vm).vm.findClass "com/example/vestwright/vestwright/cli/TableRowsCellsPinLaw" = some m.cls := by rw [show (s.setVm T229.vm).vm = T229.vm from rfl, hS229.1.alike.findClass]; exact hown
      have cr230 := hC229
      have Ccr230 := Ccr206.trans cr230
      have sf231 := sf207.go cr230
      dsimp only [Pt.U, Pt.locs, Pt.cells, Pt.slots] at X229 l229 y229 z229 st229 hQ229
      subst l229 y229 z229
      have X229 : Stand p l e _ (s.setVm T229.vm) m _ below meth c T229 _ _ _ := X229
      obtain ⟨b229, kb229, y0229, rfl, N229, K229, gb229, V229, Y0229⟩ := hQ229
      have Nf229 := Fr.app Nf205 N229
      have O229 := O205.keep K229 all0
      have KK229 := KK205.trans K229 all0
      obtain ⟨nn229, hnn229⟩ : ∃ q, q = T229.heap.size := ⟨_, rfl⟩
      refine own_goH (S' := (T205.setTop (mkF m 161 #[vi p0, vi p1, vi p2, vi p3, vi p4, vi p5, vi 1, vr b101, vr b103, vr b105, vr b107, vr b112, vi 1, vi 1, vi 0, vr b205, .unset] [(.int 1), (.ref b112)]))) (fun tq kq => st205.trans (XS.astore X205.here hx rfl (hb hby at_156) rfl rfl (l' := #[vi p0, vi p1, vi p2, vi p3, vi p4, vi p5, vi 1, vr b101, vr b103, vr b105, vr b107, vr b112, vi 1, vi 1, vi 0, vr b205, .unset]) rfl (XS.aload X205.here hx rfl (hb hby at_158) rfl rfl (XS.iconst X205.here hx rfl (hb hby at_160) kq)))) ?_
      rw [← hnn229] at Y0229
      have f232 := (V205.keep K229 nin0)
      obtain ⟨cl233, Ar233, ln233⟩ := f232.len
      have lq233 : cl233.slots.size.toInt32 = (1 : Int32) := ln233.trans rfl
      obtain ⟨cl234, Ar234, ln234⟩ := V229.len
      have lq234 : cl234.slots.size.toInt32 = (1 : Int32) := ln234.trans rfl
      obtain ⟨cl235, Ar235, -, -, hin235, hat235⟩ := f232.at (j := (0 : Int32)) (v := (.ref y0205)) (by decide) rfl
      have f236 := (Y0205.keep K229 all0)
      have f237 := (f219.keep K229 all0)
      have f239 := (Y0205.2.2.1.keep K229)
      obtain ⟨cq238, kq238, q238a, q238b, q238c⟩ := isOf hZ rfl f239
      obtain ⟨_, _, ⟨T238, L238, k238, n238⟩, -, X238, ⟨Lc238, hQ238, l238, y238, z238⟩, st238⟩ := X229.virtualBack hx (y := M0) (z := M0) hown (mvT hZ (ww hw 160 rfl)) (mvT hZ (ww hw 161 rfl)) (notFace_of_selects (args := #[]) (mvT hZ (ww hw 163 rfl))) (mvT hZ (ww hw 163 rfl)) (mvT hZ (ww hw 162 rfl)) (by decide) (backOf (W := 0) (rm29 l Z a0 hw [] T229.heap n0 O229 y0205 b101 nn205 nn cs101 z HP f236 f237 hl101) hZ (ww hw 164 rfl) (ww hw 10 rfl) (by decide) (by decide)) q238a q238c (g := (mkF m 190 #[vi p0, vi p1, vi p2, vi p3, vi p4, vi p5, vi 1, vr b101, vr b103, vr b105, vr b107, vr b112, vi 1, vi 1, vi 0, vr b205, vr b229] [(.ref b101), (.ref y0205)])) rfl (by rw [hml]; rfl) (Steps.refl _) (argsL := [(.ref b101)]) (rest := []) (lenOf pd_40 rfl) rfl (by show 2 * 0 + _ ≤ _; exact Nat.le_of_eq rfl) (hb hby at_190) (fun _ _ => ⟨rfl, rfl, (by decide : 38 + 0 ≤ _), (by decide : 24846 + 0 ≤ _)⟩)
      dsimp only [Pt.U, Pt.locs, Pt.cells, Pt.slots] at X238 l238 y238 z238 st238 hQ238
      subst l238 y238 z238
      obtain ⟨rfl, N238, eh238⟩ := hQ238
      have Nf238 := Fr.app Nf229 N238
      obtain ⟨cl240, Ar240, -, -, hin240, hat240⟩ := V229.at (j := (0 : Int32)) (v := (.ref y0229)) (by decide) rfl
      have f241 := (f221.keep K229 all0)
      obtain ⟨cq242, kq242, q242a, q242b, q242c⟩ := isOf hZ eh238 Y0229.2.2.1
      obtain ⟨_, _, ⟨T242, L242, k242, n242⟩, -, X242, ⟨Lc242, hQ242, l242, y242, z242⟩, st242⟩ := X238.virtualBack hx (y := M0) (z := M0) hown (mvT hZ (ww hw 160 rfl)) (mvT hZ (ww hw 161 rfl)) (notFace_of_selects (args := #[]) (mvT hZ (ww hw 163 rfl))) (mvT hZ (ww hw 163 rfl)) (mvT hZ (ww hw 162 rfl)) (by decide) (backOf (W := 0) (rm29 l Z a0 hw [] T229.heap n0 O229 y0229 b105 nn229 nn cs105 z HP Y0229 f241 hl105) hZ (ww hw 164 rfl) (ww hw 10 rfl) (by decide) (by decide)) q242a q242c (g := (mkF m 202 #[vi p0, vi p1, vi p2, vi p3, vi p4, vi p5, vi 1, vr b101, vr b103, vr b105, vr b107, vr b112, vi 1, vi 1, vi 0, vr b205, vr b229] [(.ref b105), (.ref y0229)])) rfl (by rw [hml]; rfl) (Steps.refl _) (argsL := [(.ref b105)]) (rest := []) (lenOf pd_40 rfl) rfl (by show 2 * 0 + _ ≤ _; exact Nat.le_of_eq rfl) (hb hby at_202) (fun _ _ => ⟨rfl, eh238, (by decide : 38 + 0 ≤ _), (by decide : 24846 + 0 ≤ _)⟩)
      dsimp only [Pt.U, Pt.locs, Pt.cells, Pt.slots] at X242 l242 y242 z242 st242 hQ242
      subst l242 y242 z242
      obtain ⟨rfl, N242, eh242⟩ := hQ242
      have Nf242 := Fr.app Nf238 N242
      refine own_goH (S' := (T242.setTop (mkF m 246 #[vi p0, vi p1, vi p2, vi p3, vi p4, vi p5, vi 1, vr b101, vr b103, vr b105, vr b107, vr b112, vi 1, vi 1, vi 0, vr b205, vr b229] []))) (fun tq kq => st229.trans (XS.astore X229.here hx rfl (hb hby at_164) rfl rfl (l' := #[vi p0, vi p1, vi p2, vi p3, vi p4, vi p5, vi 1, vr b101, vr b103, vr b105, vr b107, vr b112, vi 1, vi 1, vi 0, vr b205, vr b229]) rfl (XS.aload X229.here hx rfl (hb hby at_166) rfl rfl (X229.arraylength hx Ar233.1 (State.isArrayOf_alike hZ.alike Ar233.2.1) (g := (mkF m 168 #[vi p0, vi p1, vi p2, vi p3, vi p4, vi p5, vi 1, vr b101, vr b103, vr b105, vr b107, vr b112, vi 1, vi 1, vi 0, vr b205, vr b229] [(.ref b205)])) rfl rfl (hb hby at_168) tq (by rw [lq233]; exact (XS.iload X229.here hx rfl (hb hby at_169) rfl (XS.icmpNo X229.here hx rfl (hb hby at_171) rfl (teq (by decide : (1 : Int32) = (1 : Int32))).2 (XS.aload X229.here hx rfl (hb hby at_174) rfl rfl (X229.arraylength hx Ar234.1 (State.isArrayOf_alike hZ.alike Ar234.2.1) (g := (mkF m 176 #[vi p0, vi p1, vi p2, vi p3, vi p4, vi p5, vi 1, vr b101, vr b103, vr b105, vr b107, vr b112, vi 1, vi 1, vi 0, vr b205, vr b229] [(.ref b229)])) rfl rfl (hb hby at_176) tq (by rw [lq234]; exact (XS.iload X229.here hx rfl (hb hby at_177) rfl (XS.icmpYes X229.here hx rfl (pc0 := 179) (pc' := 184) rfl (hb hby at_179) rfl (teq (by decide : (1 : Int32) = (1 : Int32))).1 (by decide) (by decide) (XS.aload X229.here hx rfl (hb hby at_184) rfl rfl (XS.iconst X229.here hx rfl (hb hby at_186) (X229.aaload hx (j := (0 : Int32)) (v := (.ref y0205)) Ar235.1 (State.isArrayOf_alike hZ.alike Ar235.2.1) rfl Ar235.2.2 hin235 hat235 (g := (mkF m 187 #[vi p0, vi p1, vi p2, vi p3, vi p4, vi p5, vi 1, vr b101, vr b103, vr b105, vr b107, vr b112, vi 1, vi 1, vi 0, vr b205, vr b229] [(.int 0), (.ref b205)])) rfl rfl (hb hby at_187) tq (XS.aload X229.here hx rfl (hb hby at_188) rfl rfl (st238.trans (XS.ifNo X238.here hx rfl (hb hby at_193) rfl ((if0 _ _).trans (feq (by decide : ¬ ((1 : Int32) = (0 : Int32)))).1) (XS.aload X238.here hx rfl (hb hby at_196) rfl rfl (XS.iconst X238.here hx rfl (hb hby at_198) (X238.aaload hx (j := (0 : Int32)) (v := (.ref y0229)) (by rw [eh238]; exact Ar240.1) (State.isArrayOf_alike hZ.alike Ar240.2.1) rfl Ar240.2.2 hin240 hat240 (g := (mkF m 199 #[vi p0, vi p1, vi p2, vi p3, vi p4, vi p5, vi 1, vr b101, vr b103, vr b105, vr b107, vr b112, vi 1, vi 1, vi 0, vr b205, vr b229] [(.int 0), (.ref b229)])) rfl rfl (hb hby at_199) tq (XS.aload X238.here hx rfl (hb hby at_200) rfl rfl (st242.trans (XS.ifYes X242.here hx rfl (pc0 := 205) (pc' := 210) rfl (hb hby at_205) rfl ((if0 _ _).trans (feq (by decide : ¬ ((1 : Int32) = (0 : Int32)))).2) (by decide) (by decide) (XS.iload X242.here hx rfl (hb hby at_210) rfl (XS.iconst X242.here hx rfl (hb hby at_212) (XS.icmpYes X242.here hx rfl (pc0 := 213) (pc' := 246) rfl (hb hby at_213) rfl (feq (by decide : ¬ ((1 : Int32) = (2 : Int32)))).2 (by decide) (by decide) kq))))))))))))))))))))))))))) ?_
      refine own_goH (S' := (T242.setTop (mkF m 247 #[vi p0, vi p1, vi p2, vi p3, vi p4, vi p5, vi 1, vr b101, vr b103, vr b105, vr b107, vr b112, vi 1, vi 1, vi 0, vr b205, vr b229] [(.int 1)]))) (fun tq kq => XS.iconst X242.here hx rfl (hb hby at_246) kq) ?_
      refine own_retNH X242 hSn229 (by rw [eh242]; exact (Nat.le_refl _)) hZ hEL hh (by rw [eh242]; exact Ccr230) hx hlk hret (by simp) (hb hby at_247) (by decide) (by decide) ?_
      exact ⟨rfl, Nf242⟩
    · have f244 := ((((f159.ext E158).wr W170).wr W174).keep K190)
      have f250 := ((((f164.ext E158).wr W170 nb_b101_b158).wr W174 nb_b101_b158).keep K190 (allS nb_b101_b112 (allS nb_b101_bb122 (allS nb_b101_bs122 (allS nb_b101_bk122 all0)))))
      have f252 := (f188.keep K190 (allS nb_b105_b112 (allS nb_b105_bb122 (allS nb_b105_bs122 (allS nb_b105_bk122 all0)))))
      obtain ⟨cq254, kq254, q254a, q254b, q254c⟩ := isOf hZ rfl Et190
      obtain ⟨_, _, ⟨T254, L254, k254, n254⟩, -, X254, hS254, hg254, ⟨Lc254, hQ254, l254, y254, z254, hC254⟩, st254⟩ := X190.virtualBackS hx (y := M1) (z := M1) hown (mvT hZ (ww hw 117 rfl)) (mvT hZ (ww hw 118 rfl)) (notFace_of_selects (args := #[]) (mvT hZ (ww hw 120 rfl))) (mvT hZ (ww hw 120 rfl)) (mvT hZ (ww hw 119 rfl)) (by decide) (backOfSH (s := s) (vm0 := T107.vm) (W := 0) (cel1 l Z a0 hw [] T190.heap n0 O190 b112 bb122 bs122 bk122 ka122 kb122 kc122 B190 D190 E190 ((0 + 1) + 1) 1 (B155.length) (own_en cs101) ([] : List Int) cs105 z u fm hEL HP HU HF ⟨⟨Et190, Fw190, Fb190, Fu190, Fs190, Fk190, Fz190⟩, ⟨Vb190, Vs190, Vk190⟩, ⟨ls190, lk190⟩, nq1190, nq2190, nq3190, nq4190, nq5190, nq6190⟩ (by decide) (by simp [hD190, hD155]) (by simp [hB190, hB155, own_en]) (by simp [hB155, own_en]) (by omega) (hB190 ▸ (own_rapp (own_rapp hbr1 (own_vlr (by omega))) (own_u8r hc105))) hl105 hc105) hZ (ww hw 121 rfl) (ww hw 42 rfl) (by decide) (by decide) hEL Ccr191.1) q254a q254c (g := (mkF m 134 #[vi p0, vi p1, vi p2, vi p3, vi p4, vi p5, vi 1, vr b101, vr b103, vr b105, vr b107, vr b112, vi 1, vi 1, vi 1, .unset, .unset] [(.int 1), (.ref b112)])) rfl (by rw [hml]; rfl) (Steps.refl _) (argsL := [(.int 1)]) (rest := []) (lenOf pd_39 rfl) rfl (by show 2 * 0 + _ ≤ _; exact Nat.le_of_eq rfl) (hb hby at_134) (fun _ _ => ⟨rfl, rfl, (by decide : 28 + 5 ≤ _), (by decide : 20836 + 2005 ≤ _)⟩)
      dsimp only [Pt.U, Pt.locs, Pt.cells, Pt.slots] at hS254 hg254 hC254
      have hSn254 : s.Since T254.vm T254.heap.size := hSn107.trans hS254 (Nat.le_trans (Nat.le_trans (Nat.le_trans (Nat.le_trans (Nat.le_trans (Nat.le_trans (Nat.le_trans (Nat.le_trans (Nat.le_trans (Nat.le_trans (Nat.le_trans (Nat.le_refl _) E112.1) K122.1) E124.1) (Nat.le_of_eq W135.size.symm)) (Nat.le_of_eq W139.size.symm)) K155.1) E158.1) (Nat.le_of_eq W170.size.symm)) (Nat.le_of_eq W174.size.symm)) K190.1) hg254)
      have hZ : Z.Warmed39 (s.setVm T254.vm).vm := State.Warmed39.trans (t := (s.setVm T107.vm)) hZ hS254.1
      have hown : (s.setVm T254.vm).vm.findClass "com/example/vestwright/vestwright/cli/TableRowsCellsPinLaw" = some m.cls := by rw [show (s.setVm T254.vm).vm = T254.vm from rfl, hS254.1.alike.findClass]; exact hown
      have cr255 := hC254
      have Ccr255 := Ccr191.trans cr255
      have sf256 := sf192.go cr255
      dsimp only [Pt.U, Pt.locs, Pt.cells, Pt.slots] at X254 l254 y254 z254 st254 hQ254
      subst l254 y254 z254
      have X254 : Stand p l e _ (s.setVm T254.vm) m _ below meth c T254 _ _ _ := X254
      obtain ⟨b254, kb254, y0254, rfl, N254, K254, gb254, V254, Y0254⟩ := hQ254
      have Nf254 := Fr.app Nf190 N254
      have O254 := O190.keep K254 all0
      have KK254 := KK190.trans K254 all0
      obtain ⟨nn254, hnn254⟩ : ∃ q, q = T254.heap.size := ⟨_, rfl⟩
      refine own_goH (S' := (T190.setTop (mkF m 134 #[vi p0, vi p1, vi p2, vi p3, vi p4, vi p5, vi 1, vr b101, vr b103, vr b105, vr b107, vr b112, vi 1, vi 1, vi 1, .unset, .unset] [(.int 1), (.ref b112)]))) (fun tq kq => XS.ifNo X190.here hx rfl (hb hby at_116) rfl ((if0 _ _).trans (feq hc193).1) (XS.iconst X190.here hx rfl (hb hby at_119) (XS.goto X190.here hx rfl (pc0 := 120) (pc' := 124) rfl (hb hby at_120) (by decide) (by decide) (XS.istore X190.here hx rfl (hb hby at_124) rfl (l' := #[vi p0, vi p1, vi p2, vi p3, vi p4, vi p5, vi 1, vr b101, vr b103, vr b105, vr b107, vr b112, vi 1, vi 1, vi 1, .unset, .unset]) rfl (XS.iload X190.here hx rfl (hb hby at_126) rfl (XS.ifNo X190.here hx rfl (hb hby at_128) rfl ((if0 _ _).trans (feq (by decide : ¬ ((1 : Int32) = (0 : Int32)))).1) (XS.aload X190.here hx rfl (hb hby at_131) rfl rfl (XS.iconst X190.here hx rfl (hb hby at_133) kq)))))))) ?_
      rw [← hnn254] at Y0254
      have f262 := (Et190.keep K254)
      have f265 := (Vb190.keep K254 nin0)
      have f266 := (Vk190.keep K254 nin0)
      have f267 := (Vs190.keep K254 nin0)
      have f268 := (f250.keep K254 all0)
      have f270 := (f252.keep K254 all0)
      have f272 := (Fw190.keep K254 nin0)
      have f273 := (Fb190.keep K254 nin0)
      have f274 := (Fu190.keep K254 nin0)
      have f275 := (Fs190.keep K254 nin0)
      have f276 := (Fk190.keep K254 nin0)
      have f277 := (Fz190.keep K254 nin0)
      obtain ⟨cq278, kq278, q278a, q278b, q278c⟩ := isOf hZ rfl f262
      obtain ⟨_, _, ⟨T278, L278, k278, n278⟩, -, X278, hS278, hg278, ⟨Lc278, hQ278, l278, y278, z278, hC278⟩, st278⟩ := X254.virtualBackS hx (y := M1) (z := M1) hown (mvT hZ (ww hw 117 rfl)) (mvT hZ (ww hw 118 rfl)) (notFace_of_selects (args := #[]) (mvT hZ (ww hw 120 rfl))) (mvT hZ (ww hw 120 rfl)) (mvT hZ (ww hw 119 rfl)) (by decide) (backOfSH (s := s) (vm0 := T254.vm) (W := 0) (cel1 l Z a0 hw [] T254.heap n0 O254 b112 bb122 bs122 bk122 ka122 kb122 kc122 B190 D190 E190 ((0 + 1) + 1) 0 (([] : List Int).length) ([] : List Int) (own_en cs105) cs101 z u fm hEL HP HU HF ⟨⟨f262, f272, f273, f274, f275, f276, f277⟩, ⟨f265, f267, f266⟩, ⟨ls190, lk190⟩, nq1190, nq2190, nq3190, nq4190, nq5190, nq6190⟩ (by decide) (by simp [hD190, hD155]) (by simp [hB190, hB155, own_en]) rfl (by omega) (hB190 ▸ (own_rapp (own_rapp hbr1 (own_vlr (by omega))) (own_u8r hc105))) hl101 hc101) hZ (ww hw 121 rfl) (ww hw 42 rfl) (by decide) (by decide) hEL Ccr255.1) q278a q278c (g := (mkF m 142 #[vi p0, vi p1, vi p2, vi p3, vi p4, vi p5, vi 1, vr b101, vr b103, vr b105, vr b107, vr b112, vi 1, vi 1, vi 1, .unset, vr b254] [(.int 0), (.ref b112)])) rfl (by rw [hml]; rfl) (Steps.refl _) (argsL := [(.int 0)]) (rest := []) (lenOf pd_39 rfl) rfl (by show 2 * 0 + _ ≤ _; exact Nat.le_of_eq rfl) (hb hby at_142) (fun _ _ => ⟨rfl, rfl, (by decide : 33 + 5 ≤ _), (by decide : 22841 + 2005 ≤ _)⟩)
      dsimp only [Pt.U, Pt.locs, Pt.cells, Pt.slots] at hS278 hg278 hC278
      have hSn278 : s.Since T278.vm T278.heap.size := hSn254.trans hS278 (Nat.le_trans (Nat.le_refl _) hg278)
      have hZ : Z.Warmed39 (s.setVm T278.vm).vm := State.Warmed39.trans (t := (s.setVm T254.vm)) hZ hS278.1
      have hown : (s.setVm T278.vm).vm.findClass "com/example/vestwright/vestwright/cli/TableRowsCellsPinLaw" = some m.cls := by rw [show (s.setVm T278.vm).vm = T278.vm from rfl, hS278.1.alike.findClass]; exact hown
      have cr279 := hC278
      have Ccr279 := Ccr255.trans cr279
      have sf280 := sf256.go cr279
      dsimp only [Pt.U, Pt.locs, Pt.cells, Pt.slots] at X278 l278 y278 z278 st278 hQ278
      subst l278 y278 z278
      have X278 : Stand p l e _ (s.setVm T278.vm) m _ below meth c T278 _ _ _ := X278
      obtain ⟨b278, kb278, y0278, rfl, N278, K278, gb278, V278, Y0278⟩ := hQ278
      have Nf278 := Fr.app Nf254 N278
      have O278 := O254.keep K278 all0
      have KK278 := KK254.trans K278 all0
      obtain ⟨nn278, hnn278⟩ : ∃ q, q = T278.heap.size := ⟨_, rfl⟩
      refine own_goH (S' := (T254.setTop (mkF m 142 #[vi p0, vi p1, vi p2, vi p3, vi p4, vi p5, vi 1, vr b101, vr b103, vr b105, vr b107, vr b112, vi 1, vi 1, vi 1, .unset, vr b254] [(.int 0), (.ref b112)]))) (fun tq kq => st254.trans (XS.astore X254.here hx rfl (hb hby at_137) rfl rfl (l' := #[vi p0, vi p1, vi p2, vi p3, vi p4, vi p5, vi 1, vr b101, vr b103, vr b105, vr b107, vr b112, vi 1, vi 1, vi 1, .unset, vr b254]) rfl (XS.aload X254.here hx rfl (hb hby at_139) rfl rfl (XS.iconst X254.here hx rfl (hb hby at_141) kq)))) ?_
      rw [← hnn278] at Y0278
      obtain ⟨cl281, Ar281, ln281⟩ := V278.len
      have lq281 : cl281.slots.size.toInt32 = (1 : Int32) := ln281.trans rfl
      have f282 := (V254.keep K278 nin0)
      obtain ⟨cl283, Ar283, ln283⟩ := f282.len
      have lq283 : cl283.slots.size.toInt32 = (1 : Int32) := ln283.trans rfl
      obtain ⟨cl284, Ar284, -, -, hin284, hat284⟩ := V278.at (j := (0 : Int32)) (v := (.ref y0278)) (by decide) rfl
      have f285 := (f268.keep K278 all0)
      obtain ⟨cq286, kq286, q286a, q286b, q286c⟩ := isOf hZ rfl Y0278.2.2.1
      obtain ⟨_, _, ⟨T286, L286, k286, n286⟩, -, X286, ⟨Lc286, hQ286, l286, y286, z286⟩, st286⟩ := X278.virtualBack hx (y := M0) (z := M0) hown (mvT hZ (ww hw 160 rfl)) (mvT hZ (ww hw 161 rfl)) (notFace_of_selects (args := #[]) (mvT hZ (ww hw 163 rfl))) (mvT hZ (ww hw 163 rfl)) (mvT hZ (ww hw 162 rfl)) (by decide) (backOf (W := 0) (rm29 l Z a0 hw [] T278.heap n0 O278 y0278 b101 nn278 nn cs101 z HP Y0278 f285 hl101) hZ (ww hw 164 rfl) (ww hw 10 rfl) (by decide) (by decide)) q286a q286c (g := (mkF m 190 #[vi p0, vi p1, vi p2, vi p3, vi p4, vi p5, vi 1, vr b101, vr b103, vr b105, vr b107, vr b112, vi 1, vi 1, vi 1, vr b278, vr b254] [(.ref b101), (.ref y0278)])) rfl (by rw [hml]; rfl) (Steps.refl _) (argsL := [(.ref b101)]) (rest := []) (lenOf pd_40 rfl) rfl (by show 2 * 0 + _ ≤ _; exact Nat.le_of_eq rfl) (hb hby at_190) (fun _ _ => ⟨rfl, rfl, (by decide : 38 + 0 ≤ _), (by decide : 24846 + 0 ≤ _)⟩)
      dsimp only [Pt.U, Pt.locs, Pt.cells, Pt.slots] at X286 l286 y286 z286 st286 hQ286
      subst l286 y286 z286
      obtain ⟨rfl, N286, eh286⟩ := hQ286
      have Nf286 := Fr.app Nf278 N286
      obtain ⟨cl287, Ar287, -, -, hin287, hat287⟩ := f282.at (j := (0 : Int32)) (v := (.ref y0254)) (by decide) rfl
      have f288 := (Y0254.keep K278 all0)
      have f289 := (f270.keep K278 all0)
      have f291 := (Y0254.2.2.1.keep K278)
      obtain ⟨cq290, kq290, q290a, q290b, q290c⟩ := isOf hZ eh286 f291
      obtain ⟨_, _, ⟨T290, L290, k290, n290⟩, -, X290, ⟨Lc290, hQ290, l290, y290, z290⟩, st290⟩ := X286.virtualBack hx (y := M0) (z := M0) hown (mvT hZ (ww hw 160 rfl)) (mvT hZ (ww hw 161 rfl)) (notFace_of_selects (args := #[]) (mvT hZ (ww hw 163 rfl))) (mvT hZ (ww hw 163 rfl)) (mvT hZ (ww hw 162 rfl)) (by decide) (backOf (W := 0) (rm29 l Z a0 hw [] T278.heap n0 O278 y0254 b105 nn254 nn cs105 z HP f288 f289 hl105) hZ (ww hw 164 rfl) (ww hw 10 rfl) (by decide) (by decide)) q290a q290c (g := (mkF m 202 #[vi p0, vi p1, vi p2, vi p3, vi p4, vi p5, vi 1, vr b101, vr b103, vr b105, vr b107, vr b112, vi 1, vi 1, vi 1, vr b278, vr b254] [(.ref b105), (.ref y0254)])) rfl (by rw [hml]; rfl) (Steps.refl _) (argsL := [(.ref b105)]) (rest := []) (lenOf pd_40 rfl) rfl (by show 2 * 0 + _ ≤ _; exact Nat.le_of_eq rfl) (hb hby at_202) (fun _ _ => ⟨rfl, eh286, (by decide : 38 + 0 ≤ _), (by decide : 24846 + 0 ≤ _)⟩)
      dsimp only [Pt.U, Pt.locs, Pt.cells, Pt.slots] at X290 l290 y290 z290 st290 hQ290
      subst l290 y290 z290
      obtain ⟨rfl, N290, eh290⟩ := hQ290
      have Nf290 := Fr.app Nf286 N290
      refine own_goH (S' := (T290.setTop (mkF m 213 #[vi p0, vi p1, vi p2, vi p3, vi p4, vi p5, vi 1, vr b101, vr b103, vr b105, vr b107, vr b112, vi 1, vi 1, vi 1, vr b278, vr b254] [(.int 2), (.int 1)]))) (fun tq kq => st278.trans (XS.astore X278.here hx rfl (hb hby at_145) rfl rfl (l' := #[vi p0, vi p1, vi p2, vi p3, vi p4, vi p5, vi 1, vr b101, vr b103, vr b105, vr b107, vr b112, vi 1, vi 1, vi 1, vr b278, vr b254]) rfl (XS.goto X278.here hx rfl (pc0 := 147) (pc' := 166) rfl (hb hby at_147) (by decide) (by decide) (XS.aload X278.here hx rfl (hb hby at_166) rfl rfl (X278.arraylength hx Ar281.1 (State.isArrayOf_alike hZ.alike Ar281.2.1) (g := (mkF m 168 #[vi p0, vi p1, vi p2, vi p3, vi p4, vi p5, vi 1, vr b101, vr b103, vr b105, vr b107, vr b112, vi 1, vi 1, vi 1, vr b278, vr b254] [(.ref b278)])) rfl rfl (hb hby at_168) tq (by rw [lq281]; exact (XS.iload X278.here hx rfl (hb hby at_169) rfl (XS.icmpNo X278.here hx rfl (hb hby at_171) rfl (teq (by decide : (1 : Int32) = (1 : Int32))).2 (XS.aload X278.here hx rfl (hb hby at_174) rfl rfl (X278.arraylength hx Ar283.1 (State.isArrayOf_alike hZ.alike Ar283.2.1) (g := (mkF m 176 #[vi p0, vi p1, vi p2, vi p3, vi p4, vi p5, vi 1, vr b101, vr b103, vr b105, vr b107, vr b112, vi 1, vi 1, vi 1, vr b278, vr b254] [(.ref b254)])) rfl rfl (hb hby at_176) tq (by rw [lq283]; exact (XS.iload X278.here hx rfl (hb hby at_177) rfl (XS.icmpYes X278.here hx rfl (pc0 := 179) (pc' := 184) rfl (hb hby at_179) rfl (teq (by decide : (1 : Int32) = (1 : Int32))).1 (by decide) (by decide) (XS.aload X278.here hx rfl (hb hby at_184) rfl rfl (XS.iconst X278.here hx rfl (hb hby at_186) (X278.aaload hx (j := (0 : Int32)) (v := (.ref y0278)) Ar284.1 (State.isArrayOf_alike hZ.alike Ar284.2.1) rfl Ar284.2.2 hin284 hat284 (g := (mkF m 187 #[vi p0, vi p1, vi p2, vi p3, vi p4, vi p5, vi 1, vr b101, vr b103, vr b105, vr b107, vr b112, vi 1, vi 1, vi 1, vr b278, vr b254] [(.int 0), (.ref b278)])) rfl rfl (hb hby at_187) tq (XS.aload X278.here hx rfl (hb hby at_188) rfl rfl (st286.trans (XS.ifNo X286.here hx rfl (hb hby at_193) rfl ((if0 _ _).trans (feq (by decide : ¬ ((1 : Int32) = (0 : Int32)))).1) (XS.aload X286.here hx rfl (hb hby at_196) rfl rfl (XS.iconst X286.here hx rfl (hb hby at_198) (X286.aaload hx (j := (0 : Int32)) (v := (.ref y0254)) (by rw [eh286]; exact Ar287.1) (State.isArrayOf_alike hZ.alike Ar287.2.1) rfl Ar287.2.2 hin287 hat287 (g := (mkF m 199 #[vi p0, vi p1, vi p2, vi p3, vi p4, vi p5, vi 1, vr b101, vr b103, vr b105, vr b107, vr b112, vi 1, vi 1, vi 1, vr b278, vr b254] [(.int 0), (.ref b254)])) rfl rfl (hb hby at_199) tq (XS.aload X286.here hx rfl (hb hby at_200) rfl rfl (st290.trans (XS.ifYes X290.here hx rfl (pc0 := 205) (pc' := 210) rfl (hb hby at_205) rfl ((if0 _ _).trans (feq (by decide : ¬ ((1 : Int32) = (0 : Int32)))).2) (by decide) (by decide) (XS.iload X290.here hx rfl (hb hby at_210) rfl (XS.iconst X290.here hx rfl (hb hby at_212) kq))))))))))))))))))))))))))) ?_
      refine own_goH (S' := (T290.setTop (mkF m 247 #[vi p0, vi p1, vi p2, vi p3, vi p4, vi p5, vi 1, vr b101, vr b103, vr b105, vr b107, vr b112, vi 1, vi 1, vi 1, vr b278, vr b254] [(.int 1)]))) (fun tq kq => XS.icmpYes X290.here hx rfl (pc0 := 213) (pc' := 246) rfl (hb hby at_213) rfl (feq (by decide : ¬ ((1 : Int32) = (2 : Int32)))).2 (by decide) (by decide) (XS.iconst X290.here hx rfl (hb hby at_246) kq)) ?_
      refine own_retNH X290 hSn278 (by rw [eh290]; exact (Nat.le_refl _)) hZ hEL hh (by rw [eh290]; exact Ccr279) hx hlk hret (by simp) (hb hby at_247) (by decide) (by decide) ?_
      exact ⟨rfl, Nf290⟩
  · rw [hq, show (1 : Int32) + (1 : Int32) = (2 : Int32) from by decide]
    obtain ⟨T292, h292, X292, e292, E292, A292, D292, -, st292⟩ := newO X107 hx hZ hown (ww hw 40 rfl) (ww hw 41 rfl) (ww hw 42 rfl) rfl (g := (mkF m 44 #[vi p0, vi p1, vi p2, vi p3, vi p4, vi p5, vi 2, vr b101, vr b103, vr b105, vr b107, .unset, .unset, .unset, .unset, .unset, .unset] [])) rfl (hb hby at_44) (by decide) (by decide)
    obtain ⟨b292, g292⟩ : ∃ z, z = T107.heap.size := ⟨_, rfl⟩
    rw [← g292] at A292 D292 st292
    have nb_b101_b292 : nn ≤ b292 := Nat.le_trans Su0.1 (Nat.le_of_eq g292.symm)
    have nb_b103_b292 : nn ≤ b292 := Nat.le_trans Su1.1 (Nat.le_of_eq g292.symm)
    have nb_b105_b292 : nn ≤ b292 := Nat.le_trans Su2.1 (Nat.le_of_eq g292.symm)
    have nb_b107_b292 : nn ≤ b292 := Nat.le_trans Su3.1 (Nat.le_of_eq g292.symm)
    have ge_b292 : n0 ≤ b292 := Nat.le_trans (own_osz O107) (Nat.le_of_eq g292.symm)
    have gk_b292 : h0.size ≤ b292 := Nat.le_trans KK107.1 (Nat.le_of_eq g292.symm)
    have O292 := O107.ext E292
    have K292 := KK107.ext E292
    have cr293 := CHr.ext E292 Ccr108.1
    have Ccr293 := Ccr108.trans cr293
    have F_bytes_b292 : Fld Z h292 b292 "com/example/vestwright/vestwright/cli/TableRows" "bytes" "[B" .null := D292 (Or.inl (ww hw 48 rfl)) (ty := (.array .byte)) (by decide)
    have F_starts_b292 : Fld Z h292 b292 "com/example/vestwright/vestwright/cli/TableRows" "starts" "[I" .null := D292 (Or.inl (ww hw 51 rfl)) (ty := (.array .int)) (by decide)
    have F_keys_b292 : Fld Z h292 b292 "com/example/vestwright/vestwright/cli/TableRows" "keys" "[I" .null := D292 (Or.inl (ww hw 53 rfl)) (ty := (.array .int)) (by decide)
    have F_width_b292 : Fld Z h292 b292 "com/example/vestwright/vestwright/cli/TableRows" "width" "I" (.int 0) := D292 (Or.inr (ww hw 55 rfl)) (ty := .int) (by decide)
    have F_used_b292 : Fld Z h292 b292 "com/example/vestwright/vestwright/cli/TableRows" "used" "I" (.int 0) := D292 (Or.inl (ww hw 102 rfl)) (ty := .int) (by decide)
    have F_size_b292 : Fld Z h292 b292 "com/example/vestwright/vestwright/cli/TableRows" "size" "I" (.int 0) := D292 (Or.inl (ww hw 108 rfl)) (ty := .int) (by decide)
    have f294 := (Su0.2.2.1.ext E292)
    have f295 := (Su1.2.2.1.ext E292)
    have f296 := (Su2.2.2.1.ext E292)
    have f297 := (Su3.2.2.1.ext E292)
    have f298 := (Su0.ext E292)
    have f299 := (Su1.ext E292)
    have f300 := (Su2.ext E292)
    have f301 := (Su3.ext E292)
    obtain ⟨_, _, ⟨T302, L302, k302, n302⟩, -, X302, ⟨Lc302, hQ302, l302, y302, z302⟩, st302⟩ := X292.specialBack hx (y := M20) rfl hown (mvT hZ (ww hw 43 rfl)) (mvT hZ (ww hw 44 rfl)) (mvT hZ (ww hw 45 rfl)) (by decide) (backOf (W := 1) (rm9 l Z a0 hw [] h292 n0 O292 b292 (2 : Int32) A292 F_width_b292 F_bytes_b292 F_used_b292 F_starts_b292 F_keys_b292 F_size_b292 ge_b292) hZ (ww hw 45 rfl) (ww hw 42 rfl) (by decide) (by decide)) (g := (mkF m 50 #[vi p0, vi p1, vi p2, vi p3, vi p4, vi p5, vi 2, vr b101, vr b103, vr b105, vr b107, .unset, .unset, .unset, .unset, .unset, .unset] [(.int 2), (.ref b292), (.ref b292)])) rfl (by rw [hml]; rfl) (Steps.refl _) (a := b292) (argsL := [(.int 2)]) (rest := [(.ref b292)]) (lenOf pd_20 rfl) rfl (by show 2 * 0 + _ ≤ _; exact Nat.le_of_eq rfl) (hb hby at_50) (fun _ _ => ⟨rfl, e292, (by decide : 17 + 3 ≤ _), (by decide : 5342 + 12288 ≤ _)⟩)
    dsimp only [Pt.U, Pt.locs, Pt.cells, Pt.slots] at X302 l302 y302 z302 st302 hQ302
    subst l302 y302 z302
    obtain ⟨rfl, N302, K302, bb302, bs302, bk302, ka302, kb302, kc302, TR302, g1302, g2302, g3302⟩ := hQ302
    have Nf302 := Fr.app Nf107 N302
    have O302 := O292.keep K302 (allS ge_b292 all0)
    have KK302 := K292.trans K302 (allS (Or.inr gk_b292) all0)
    have cr303 := CHr.keep K302 (sfS (Safe.exa hZ.alike A292 (by decide) (by decide)) sf0) Ccr293.1
    have Ccr303 := Ccr293.trans cr303
    have nb_b101_bb302 : nn ≤ bb302 := Nat.le_trans f298.1 g1302
    have nb_b103_bb302 : nn ≤ bb302 := Nat.le_trans f299.1 g1302
    have nb_b105_bb302 : nn ≤ bb302 := Nat.le_trans f300.1 g1302
    have nb_b107_bb302 : nn ≤ bb302 := Nat.le_trans f301.1 g1302
    have ge_bb302 : n0 ≤ bb302 := Nat.le_trans (own_osz O292) g1302
    have gk_bb302 : h0.size ≤ bb302 := Nat.le_trans K292.1 g1302
    have nb_b101_bs302 : nn ≤ bs302 := Nat.le_trans f298.1 g2302
    have nb_b103_bs302 : nn ≤ bs302 := Nat.le_trans f299.1 g2302
    have nb_b105_bs302 : nn ≤ bs302 := Nat.le_trans f300.1 g2302
    have nb_b107_bs302 : nn ≤ bs302 := Nat.le_trans f301.1 g2302
    have ge_bs302 : n0 ≤ bs302 := Nat.le_trans (own_osz O292) g2302
    have gk_bs302 : h0.size ≤ bs302 := Nat.le_trans K292.1 g2302
    have nb_b101_bk302 : nn ≤ bk302 := Nat.le_trans f298.1 g3302
    have nb_b103_bk302 : nn ≤ bk302 := Nat.le_trans f299.1 g3302
    have nb_b105_bk302 : nn ≤ bk302 := Nat.le_trans f300.1 g3302
    have nb_b107_bk302 : nn ≤ bk302 := Nat.le_trans f301.1 g3302
    have ge_bk302 : n0 ≤ bk302 := Nat.le_trans (own_osz O292) g3302
    have gk_bk302 : h0.size ≤ bk302 := Nat.le_trans K292.1 g3302
    obtain ⟨⟨Et302, Fw302, Fb302, Fu302, Fs302, Fk302, Fz302⟩, ⟨Vb302, Vs302, Vk302⟩, ⟨ls302, lk302⟩, nq1302, nq2302, nq3302, nq4302, nq5302, nq6302⟩ := TR302
    have sf_bb := own_Sf.keep Ccr293.1 K302 (sfS (Safe.exa hZ.alike A292 (by decide) (by decide)) sf0) g1302 Vb302.lt
    obtain ⟨T304, h304, k304, X304, e304, E304, A304, Ov304, st304⟩ := newR X302 hx hZ hown (ww hw 8 rfl) (ww hw 56 rfl) rfl (g := (mkF m 58 #[vi p0, vi p1, vi p2, vi p3, vi p4, vi p5, vi 2, vr b101, vr b103, vr b105, vr b107, vr b292, .unset, .unset, .unset, .unset, .unset] [(.int 2), (.ref b292)])) rfl (hb hby at_58) rfl (by decide) (cap := 2) (by decide) (by decide) (by decide) (by decide)
    obtain ⟨b304, g304⟩ : ∃ z, z = T302.heap.size := ⟨_, rfl⟩
    rw [← g304] at A304 st304
    have f305 := (f294.keep K302)
    have f306 := (f295.keep K302)
    have f307 := (f296.keep K302)
    have f308 := (f297.keep K302)
    have ne_b292_b304 := own_nE Et302.lt g304
    have ne_bb302_b304 := own_nE Vb302.lt g304
    have ne_bk302_b304 := own_nE Vk302.lt g304
    have ne_bs302_b304 := own_nE Vs302.lt g304
    have f309 := (f298.keep K302 (allS nb_b101_b292 all0))
    have nb_b101_b304 : nn ≤ b304 := Nat.le_trans f309.1 (Nat.le_of_eq g304.symm)
    have f310 := (f299.keep K302 (allS nb_b103_b292 all0))
    have nb_b103_b304 : nn ≤ b304 := Nat.le_trans f310.1 (Nat.le_of_eq g304.symm)
    have f311 := (f300.keep K302 (allS nb_b105_b292 all0))
    have nb_b105_b304 : nn ≤ b304 := Nat.le_trans f311.1 (Nat.le_of_eq g304.symm)
    have f312 := (f301.keep K302 (allS nb_b107_b292 all0))
    have nb_b107_b304 : nn ≤ b304 := Nat.le_trans f312.1 (Nat.le_of_eq g304.symm)
    have ge_b304 : n0 ≤ b304 := Nat.le_trans (own_osz O302) (Nat.le_of_eq g304.symm)
    have gk_b304 : h0.size ≤ b304 := Nat.le_trans KK302.1 (Nat.le_of_eq g304.symm)
    have V304 : own_Ar Z h304 b304 k304 (.object "java/lang/String") [.null, .null] := own_Ar.new A304 (by decide)
    have O304 := O302.ext E304
    have K304 := KK302.ext E304
    have cr313 := CHr.ext E304 Ccr303.1
    have Ccr313 := Ccr303.trans cr313
    have sf314 := sf_bb.go cr313
    obtain ⟨cl315, Ar315, qa315, sa315, hin315, -⟩ := V304.at (j := (0 : Int32)) (by decide) rfl
    have f316 := (f305.ext E304)
    obtain ⟨T315, h315, X315, e315, W315, st315⟩ := stR X304 hx hZ e304 Ar315 (j := (0 : Int32)) hin315 rfl (Sto.of Ar315 (qa315 ▸ Ov304) (Ins.self f316)) (g := (mkF m 65 #[vi p0, vi p1, vi p2, vi p3, vi p4, vi p5, vi 2, vr b101, vr b103, vr b105, vr b107, vr b292, .unset, .unset, .unset, .unset, .unset] [(.ref b101), (.int 0), (.ref b304), (.ref b304), (.ref b292)])) rfl rfl (hb hby at_65)
    have N315 := Fr.snoc X315 Nf302 ge_b304
    have O315 := O304.wr W315 ge_b304
    have K315 := K304.wr W315 (Or.inr gk_b304)
    have cr317 := CHr.wr W315 (own_safeAr hZ.alike V304 (by nofun)) Ccr313.1
    have Ccr317 := Ccr313.trans cr317
    have sf318 := sf314.go cr317
    have V315 : own_Ar Z h315 b304 k304 (.object "java/lang/String") [(.ref b101), .null] := own_Ar.set Ar315 qa315 sa315 V304.small W315
    obtain ⟨cl319, Ar319, qa319, sa319, hin319, -⟩ := V315.at (j := (1 : Int32)) (by decide) rfl
    have f320 := ((f306.ext E304).wr W315)
    obtain ⟨T319, h319, X319, e319, W319, st319⟩ := stR X315 hx hZ e315 Ar319 (j := (1 : Int32)) hin319 rfl (Sto.of Ar319 (qa319 ▸ Ov304) (Ins.self f320)) (g := (mkF m 70 #[vi p0, vi p1, vi p2, vi p3, vi p4, vi p5, vi 2, vr b101, vr b103, vr b105, vr b107, vr b292, .unset, .unset, .unset, .unset, .unset] [(.ref b103), (.int 1), (.ref b304), (.ref b304), (.ref b292)])) rfl rfl (hb hby at_70)
    have N319 := Fr.snoc X319 N315 ge_b304
    have O319 := O315.wr W319 ge_b304
    have K319 := K315.wr W319 (Or.inr gk_b304)
    have cr321 := CHr.wr W319 (own_safeAr hZ.alike V315 (by nofun)) Ccr317.1
    have Ccr321 := Ccr317.trans cr321
    have sf322 := sf318.go cr321
    have V319 : own_Ar Z h319 b304 k304 (.object "java/lang/String") [(.ref b101), (.ref b103)] := own_Ar.set Ar319 qa319 sa319 V315.small W319
    have f323 := (((Et302.ext E304).wr W315).wr W319)
    have f324 := (((Fw302.ext E304).other W315 (Or.inl ne_b292_b304)).other W319 (Or.inl ne_b292_b304))
    have f325 := (((Fb302.ext E304).other W315 (Or.inl ne_b292_b304)).other W319 (Or.inl ne_b292_b304))
    have f326 := (((Fu302.ext E304).other W315 (Or.inl ne_b292_b304)).other W319 (Or.inl ne_b292_b304))
    have f327 := (((Fs302.ext E304).other W315 (Or.inl ne_b292_b304)).other W319 (Or.inl ne_b292_b304))
    have f328 := (((Fk302.ext E304).other W315 (Or.inl ne_b292_b304)).other W319 (Or.inl ne_b292_b304))
    have f329 := (((Fz302.ext E304).other W315 (Or.inl ne_b292_b304)).other W319 (Or.inl ne_b292_b304))
    have f330 := (((Vb302.ext E304).other W315 ne_bb302_b304).other W319 ne_bb302_b304)
    have f331 := (((Vs302.ext E304).other W315 ne_bs302_b304).other W319 ne_bs302_b304)
    have f332 := (((Vk302.ext E304).other W315 ne_bk302_b304).other W319 ne_bk302_b304)
    have hu101 : (own_u8 cs101).length ≤ 390 := Nat.le_trans (own_u8le cs101) (by omega)
    have hv101 := own_vll (own_u8 cs101).length
    have hu103 : (own_u8 cs103).length ≤ 390 := Nat.le_trans (own_u8le cs103) (by omega)
    have hv103 := own_vll (own_u8 cs103).length
    have hbn0 : ([] : List Int).length ≤ 1000 := by simp
    have hbr0 : ∀ z ∈ ([] : List Int), -128 ≤ z ∧ z < 128 := (fun z hz => absurd hz List.not_mem_nil)
    have f333 := (((f309.ext E304).wr W315 nb_b101_b304).wr W319 nb_b101_b304)
    have f334 := (((f310.ext E304).wr W315 nb_b103_b304).wr W319 nb_b103_b304)
    obtain ⟨cq335, kq335, q335a, q335b, q335c⟩ := isOf hZ e319 f323
    obtain ⟨_, _, ⟨T335, L335, k335, n335⟩, -, X335, ⟨Lc335, hQ335, l335, y335, z335⟩, st335⟩ := X319.virtualBack hx (y := M2) (z := M2) hown (mvT hZ (ww hw 57 rfl)) (mvT hZ (ww hw 58 rfl)) (notFace_of_selects (args := #[]) (mvT hZ (ww hw 60 rfl))) (mvT hZ (ww hw 60 rfl)) (mvT hZ (ww hw 59 rfl)) (by decide) (backOf (W := 0) (add2 l Z a0 hw [] h319 n0 O319 b292 bb302 bs302 bk302 ka302 kb302 kc302 ([] : List Int) (List.replicate 4096 (.int 0)) (List.replicate 4096 (.int 0)) 0 b304 k304 b101 b103 nn cs101 cs103 p2 z u HP HU ⟨⟨f323, f324, f325, f326, f327, f328, f329⟩, ⟨f330, f331, f332⟩, ⟨ls302, lk302⟩, nq1302, nq2302, nq3302, nq4302, nq5302, nq6302⟩ (by decide) hbn0 hbr0 ge_b292 ge_bb302 ge_bs302 ge_bk302 V319 f333 hl101 hc101 f334 hl103 hc103) hZ (ww hw 61 rfl) (ww hw 42 rfl) (by decide) (by decide)) q335a q335c (g := (mkF m 72 #[vi p0, vi p1, vi p2, vi p3, vi p4, vi p5, vi 2, vr b101, vr b103, vr b105, vr b107, vr b292, .unset, .unset, .unset, .unset, .unset] [(.int p2), (.ref b304), (.ref b292)])) rfl (by rw [hml]; rfl) (Steps.refl _) (argsL := [(.ref b304), (.int p2)]) (rest := []) (lenOf pd_38 rfl) rfl (by show 2 * 0 + _ ≤ _; exact Nat.le_of_eq rfl) (hb hby at_72) (fun _ _ => ⟨rfl, e319, (by decide : 21 + 5 ≤ _), (by decide : 17632 + 3202 ≤ _)⟩)
    dsimp only [Pt.U, Pt.locs, Pt.cells, Pt.slots] at X335 l335 y335 z335 st335 hQ335
    subst l335 y335 z335
    obtain ⟨rfl, N335, K335, TR335⟩ := hQ335
    have Nf335 := Fr.app N319 N335
    have O335 := O319.keep K335 (allS ge_b292 (allS ge_bb302 (allS ge_bs302 (allS ge_bk302 all0))))
    have KK335 := K319.trans K335 (allS (Or.inr gk_b292) (allS (Or.inr gk_bb302) (allS (Or.inr gk_bs302) (allS (Or.inr gk_bk302) all0))))
    have cr336 := CHr.keep K335 (sfS (Safe.exa hZ.alike f323 (by decide) (by decide)) (sfS sf322.1 (sfS (own_safeAr hZ.alike f331 (by nofun)) (sfS (own_safeAr hZ.alike f332 (by nofun)) sf0)))) Ccr321.1
    have Ccr336 := Ccr321.trans cr336
    have sf337 := sf322.go cr336
    obtain ⟨B335, hB335⟩ : ∃ q : List Int, q = ((((([] : List Int) ++ own_vl (own_u8 cs101).length) ++ own_u8 cs101) ++ own_vl (own_u8 cs103).length) ++ own_u8 cs103) := ⟨_, rfl⟩
    refine own_goH (S' := (T319.setTop (mkF m 72 #[vi p0, vi p1, vi p2, vi p3, vi p4, vi p5, vi 2, vr b101, vr b103, vr b105, vr b107, vr b292, .unset, .unset, .unset, .unset, .unset] [(.int p2), (.ref b304), (.ref b292)]))) (fun tq kq => st292 tq (XS.dup X292.here hx rfl (hb hby at_47) rfl rfl (XS.iload X292.here hx rfl (hb hby at_48) rfl (st302.trans (XS.astore X302.here hx rfl (hb hby at_53) rfl rfl (l' := #[vi p0, vi p1, vi p2, vi p3, vi p4, vi p5, vi 2, vr b101, vr b103, vr b105, vr b107, vr b292, .unset, .unset, .unset, .unset, .unset]) rfl (XS.aload X302.here hx rfl (hb hby at_55) rfl rfl (XS.iconst X302.here hx rfl (hb hby at_57) (st304 tq (XS.dup X304.here hx rfl (hb hby at_61) rfl rfl (XS.iconst X304.here hx rfl (hb hby at_62) (XS.aload X304.here hx rfl (hb hby at_63) rfl rfl (st315 tq (XS.dup X315.here hx rfl (hb hby at_66) rfl rfl (XS.iconst X315.here hx rfl (hb hby at_67) (XS.aload X315.here hx rfl (hb hby at_68) rfl rfl (st319 tq (XS.iloadN X319.here hx rfl (hb hby at_71) rfl kq))))))))))))))))) ?_
    rw [← hB335] at TR335
    obtain ⟨D335, hD335⟩ : ∃ q : List Value, q = ((List.replicate 4096 (.int 0)).set 0 (.int (Int32.ofNat ([] : List Int).length))) := ⟨_, rfl⟩
    rw [← hD335] at TR335
    obtain ⟨E335, hE335⟩ : ∃ q : List Value, q = ((List.replicate 4096 (.int 0)).set 0 (.int p2)) := ⟨_, rfl⟩
    rw [← hE335] at TR335
    obtain ⟨⟨Et335, Fw335, Fb335, Fu335, Fs335, Fk335, Fz335⟩, ⟨Vb335, Vs335, Vk335⟩, ⟨ls335, lk335⟩, nq1335, nq2335, nq3335, nq4335, nq5335, nq6335⟩ := TR335
    have hlB335 := congrArg List.length hB335
    simp only [List.length_append, List.length_nil] at hlB335
    obtain ⟨T338, h338, k338, X338, e338, E338, A338, Ov338, st338⟩ := newR X335 hx hZ hown (ww hw 8 rfl) (ww hw 56 rfl) rfl (g := (mkF m 80 #[vi p0, vi p1, vi p2, vi p3, vi p4, vi p5, vi 2, vr b101, vr b103, vr b105, vr b107, vr b292, vi 1, .unset, .unset, .unset, .unset] [(.int 2), (.ref b292)])) rfl (hb hby at_80) rfl (by decide) (cap := 2) (by decide) (by decide) (by decide) (by decide)
    obtain ⟨b338, g338⟩ : ∃ z, z = T335.heap.size := ⟨_, rfl⟩
    rw [← g338] at A338 st338
    have f339 := (((f316.wr W315).wr W319).keep K335)
    have f341 := ((((f307.ext E304).wr W315).wr W319).keep K335)
    have f342 := ((((f308.ext E304).wr W315).wr W319).keep K335)
    have ne_b292_b338 := own_nE Et335.lt g338
    have ne_bb302_b338 := own_nE Vb335.lt g338
    have ne_bk302_b338 := own_nE Vk335.lt g338
    have ne_bs302_b338 := own_nE Vs335.lt g338
    have f344 := (f333.keep K335 (allS nb_b101_b292 (allS nb_b101_bb302 (allS nb_b101_bs302 (allS nb_b101_bk302 all0)))))
    have nb_b101_b338 : nn ≤ b338 := Nat.le_trans f344.1 (Nat.le_of_eq g338.symm)
    have f345 := (f334.keep K335 (allS nb_b103_b292 (allS nb_b103_bb302 (allS nb_b103_bs302 (allS nb_b103_bk302 all0)))))
    have nb_b103_b338 : nn ≤ b338 := Nat.le_trans f345.1 (Nat.le_of_eq g338.symm)
    have f346 := ((((f311.ext E304).wr W315 nb_b105_b304).wr W319 nb_b105_b304).keep K335 (allS nb_b105_b292 (allS nb_b105_bb302 (allS nb_b105_bs302 (allS nb_b105_bk302 all0)))))
    have nb_b105_b338 : nn ≤ b338 := Nat.le_trans f346.1 (Nat.le_of_eq g338.symm)
    have f347 := ((((f312.ext E304).wr W315 nb_b107_b304).wr W319 nb_b107_b304).keep K335 (allS nb_b107_b292 (allS nb_b107_bb302 (allS nb_b107_bs302 (allS nb_b107_bk302 all0)))))
    have nb_b107_b338 : nn ≤ b338 := Nat.le_trans f347.1 (Nat.le_of_eq g338.symm)
    have ge_b338 : n0 ≤ b338 := Nat.le_trans (own_osz O335) (Nat.le_of_eq g338.symm)
    have gk_b338 : h0.size ≤ b338 := Nat.le_trans KK335.1 (Nat.le_of_eq g338.symm)
    have V338 : own_Ar Z h338 b338 k338 (.object "java/lang/String") [.null, .null] := own_Ar.new A338 (by decide)
    have O338 := O335.ext E338
    have K338 := KK335.ext E338
    have cr348 := CHr.ext E338 Ccr336.1
    have Ccr348 := Ccr336.trans cr348
    have sf349 := sf337.go cr348
    obtain ⟨cl350, Ar350, qa350, sa350, hin350, -⟩ := V338.at (j := (0 : Int32)) (by decide) rfl
    have f351 := (f341.ext E338)
    obtain ⟨T350, h350, X350, e350, W350, st350⟩ := stR X338 hx hZ e338 Ar350 (j := (0 : Int32)) hin350 rfl (Sto.of Ar350 (qa350 ▸ Ov338) (Ins.self f351)) (g := (mkF m 87 #[vi p0, vi p1, vi p2, vi p3, vi p4, vi p5, vi 2, vr b101, vr b103, vr b105, vr b107, vr b292, vi 1, .unset, .unset, .unset, .unset] [(.ref b105), (.int 0), (.ref b338), (.ref b338), (.ref b292)])) rfl rfl (hb hby at_87)
    have N350 := Fr.snoc X350 Nf335 ge_b338
    have O350 := O338.wr W350 ge_b338
    have K350 := K338.wr W350 (Or.inr gk_b338)
    have cr352 := CHr.wr W350 (own_safeAr hZ.alike V338 (by nofun)) Ccr348.1
    have Ccr352 := Ccr348.trans cr352
    have sf353 := sf349.go cr352
    have V350 : own_Ar Z h350 b338 k338 (.object "java/lang/String") [(.ref b105), .null] := own_Ar.set Ar350 qa350 sa350 V338.small W350
    obtain ⟨cl354, Ar354, qa354, sa354, hin354, -⟩ := V350.at (j := (1 : Int32)) (by decide) rfl
    have f355 := ((f342.ext E338).wr W350)
    obtain ⟨T354, h354, X354, e354, W354, st354⟩ := stR X350 hx hZ e350 Ar354 (j := (1 : Int32)) hin354 rfl (Sto.of Ar354 (qa354 ▸ Ov338) (Ins.self f355)) (g := (mkF m 92 #[vi p0, vi p1, vi p2, vi p3, vi p4, vi p5, vi 2, vr b101, vr b103, vr b105, vr b107, vr b292, vi 1, .unset, .unset, .unset, .unset] [(.ref b107), (.int 1), (.ref b338), (.ref b338), (.ref b292)])) rfl rfl (hb hby at_92)
    have N354 := Fr.snoc X354 N350 ge_b338
    have O354 := O350.wr W354 ge_b338
    have K354 := K350.wr W354 (Or.inr gk_b338)
    have cr356 := CHr.wr W354 (own_safeAr hZ.alike V350 (by nofun)) Ccr352.1
    have Ccr356 := Ccr352.trans cr356
    have sf357 := sf353.go cr356
    have V354 : own_Ar Z h354 b338 k338 (.object "java/lang/String") [(.ref b105), (.ref b107)] := own_Ar.set Ar354 qa354 sa354 V350.small W354
    have f358 := (((Et335.ext E338).wr W350).wr W354)
    have f359 := (((Fw335.ext E338).other W350 (Or.inl ne_b292_b338)).other W354 (Or.inl ne_b292_b338))
    have f360 := (((Fb335.ext E338).other W350 (Or.inl ne_b292_b338)).other W354 (Or.inl ne_b292_b338))
    have f361 := (((Fu335.ext E338).other W350 (Or.inl ne_b292_b338)).other W354 (Or.inl ne_b292_b338))
    have f362 := (((Fs335.ext E338).other W350 (Or.inl ne_b292_b338)).other W354 (Or.inl ne_b292_b338))
    have f363 := (((Fk335.ext E338).other W350 (Or.inl ne_b292_b338)).other W354 (Or.inl ne_b292_b338))
    have f364 := (((Fz335.ext E338).other W350 (Or.inl ne_b292_b338)).other W354 (Or.inl ne_b292_b338))
    have f365 := (((Vb335.ext E338).other W350 ne_bb302_b338).other W354 ne_bb302_b338)
    have f366 := (((Vs335.ext E338).other W350 ne_bs302_b338).other W354 ne_bs302_b338)
    have f367 := (((Vk335.ext E338).other W350 ne_bk302_b338).other W354 ne_bk302_b338)
    have hu105 : (own_u8 cs105).length ≤ 390 := Nat.le_trans (own_u8le cs105) (by omega)
    have hv105 := own_vll (own_u8 cs105).length
    have hu107 : (own_u8 cs107).length ≤ 390 := Nat.le_trans (own_u8le cs107) (by omega)
    have hv107 := own_vll (own_u8 cs107).length
    have hbn1 : B335.length ≤ 1000 := by omega
    have hbr1 : ∀ z ∈ B335, -128 ≤ z ∧ z < 128 := (hB335 ▸ (own_rapp (own_rapp (own_rapp (own_rapp hbr0 (own_vlr (by omega))) (own_u8r hc101)) (own_vlr (by omega))) (own_u8r hc103)))
    have f368 := (((f346.ext E338).wr W350 nb_b105_b338).wr W354 nb_b105_b338)
    have f369 := (((f347.ext E338).wr W350 nb_b107_b338).wr W354 nb_b107_b338)
    obtain ⟨cq370, kq370, q370a, q370b, q370c⟩ := isOf hZ e354 f358
    obtain ⟨_, _, ⟨T370, L370, k370, n370⟩, -, X370, ⟨Lc370, hQ370, l370, y370, z370⟩, st370⟩ := X354.virtualBack hx (y := M2) (z := M2) hown (mvT hZ (ww hw 57 rfl)) (mvT hZ (ww hw 58 rfl)) (notFace_of_selects (args := #[]) (mvT hZ (ww hw 60 rfl))) (mvT hZ (ww hw 60 rfl)) (mvT hZ (ww hw 59 rfl)) (by decide) (backOf (W := 0) (add2 l Z a0 hw [] h354 n0 O354 b292 bb302 bs302 bk302 ka302 kb302 kc302 B335 D335 E335 (0 + 1) b338 k338 b105 b107 nn cs105 cs107 p3 z u HP HU ⟨⟨f358, f359, f360, f361, f362, f363, f364⟩, ⟨f365, f366, f367⟩, ⟨ls335, lk335⟩, nq1335, nq2335, nq3335, nq4335, nq5335, nq6335⟩ (by decide) hbn1 hbr1 ge_b292 ge_bb302 ge_bs302 ge_bk302 V354 f368 hl105 hc105 f369 hl107 hc107) hZ (ww hw 61 rfl) (ww hw 42 rfl) (by decide) (by decide)) q370a q370c (g := (mkF m 94 #[vi p0, vi p1, vi p2, vi p3, vi p4, vi p5, vi 2, vr b101, vr b103, vr b105, vr b107, vr b292, vi 1, .unset, .unset, .unset, .unset] [(.int p3), (.ref b338), (.ref b292)])) rfl (by rw [hml]; rfl) (Steps.refl _) (argsL := [(.ref b338), (.int p3)]) (rest := []) (lenOf pd_38 rfl) rfl (by show 2 * 0 + _ ≤ _; exact Nat.le_of_eq rfl) (hb hby at_94) (fun _ _ => ⟨rfl, e354, (by decide : 27 + 5 ≤ _), (by decide : 20836 + 3202 ≤ _)⟩)
    dsimp only [Pt.U, Pt.locs, Pt.cells, Pt.slots] at X370 l370 y370 z370 st370 hQ370
    subst l370 y370 z370
    obtain ⟨rfl, N370, K370, TR370⟩ := hQ370
    have Nf370 := Fr.app N354 N370
    have O370 := O354.keep K370 (allS ge_b292 (allS ge_bb302 (allS ge_bs302 (allS ge_bk302 all0))))
    have KK370 := K354.trans K370 (allS (Or.inr gk_b292) (allS (Or.inr gk_bb302) (allS (Or.inr gk_bs302) (allS (Or.inr gk_bk302) all0))))
    have cr371 := CHr.keep K370 (sfS (Safe.exa hZ.alike f358 (by decide) (by decide)) (sfS sf357.1 (sfS (own_safeAr hZ.alike f366 (by nofun)) (sfS (own_safeAr hZ.alike f367 (by nofun)) sf0)))) Ccr356.1
    have Ccr371 := Ccr356.trans cr371
    have sf372 := sf357.go cr371
    obtain ⟨B370, hB370⟩ : ∃ q : List Int, q = ((((B335 ++ own_vl (own_u8 cs105).length) ++ own_u8 cs105) ++ own_vl (own_u8 cs107).length) ++ own_u8 cs107) := ⟨_, rfl⟩
    refine own_goH (S' := (T354.setTop (mkF m 94 #[vi p0, vi p1, vi p2, vi p3, vi p4, vi p5, vi 2, vr b101, vr b103, vr b105, vr b107, vr b292, vi 1, .unset, .unset, .unset, .unset] [(.int p3), (.ref b338), (.ref b292)]))) (fun tq kq => st335.trans (XS.istore X335.here hx rfl (hb hby at_75) rfl (l' := #[vi p0, vi p1, vi p2, vi p3, vi p4, vi p5, vi 2, vr b101, vr b103, vr b105, vr b107, vr b292, vi 1, .unset, .unset, .unset, .unset]) rfl (XS.aload X335.here hx rfl (hb hby at_77) rfl rfl (XS.iconst X335.here hx rfl (hb hby at_79) (st338 tq (XS.dup X338.here hx rfl (hb hby at_83) rfl rfl (XS.iconst X338.here hx rfl (hb hby at_84) (XS.aload X338.here hx rfl (hb hby at_85) rfl rfl (st350 tq (XS.dup X350.here hx rfl (hb hby at_88) rfl rfl (XS.iconst X350.here hx rfl (hb hby at_89) (XS.aload X350.here hx rfl (hb hby at_90) rfl rfl (st354 tq (XS.iloadN X354.here hx rfl (hb hby at_93) rfl kq)))))))))))))) ?_
    rw [← hB370] at TR370
    obtain ⟨D370, hD370⟩ : ∃ q : List Value, q = (D335.set (0 + 1) (.int (Int32.ofNat B335.length))) := ⟨_, rfl⟩
    rw [← hD370] at TR370
    obtain ⟨E370, hE370⟩ : ∃ q : List Value, q = (E335.set (0 + 1) (.int p3)) := ⟨_, rfl⟩
    rw [← hE370] at TR370
    obtain ⟨⟨Et370, Fw370, Fb370, Fu370, Fs370, Fk370, Fz370⟩, ⟨Vb370, Vs370, Vk370⟩, ⟨ls370, lk370⟩, nq1370, nq2370, nq3370, nq4370, nq5370, nq6370⟩ := TR370
    have hlB370 := congrArg List.length hB370
    simp only [List.length_append, List.length_nil] at hlB370
    refine own_goH (S' := (T370.setTop (mkF m 116 #[vi p0, vi p1, vi p2, vi p3, vi p4, vi p5, vi 2, vr b101, vr b103, vr b105, vr b107, vr b292, vi 1, vi 1, .unset, .unset, .unset] [(.int (((p0.toUInt32 >>> ((1 : Int32) &&& 31).toUInt32).toInt32) &&& (1 : Int32)))]))) (fun tq kq => st370.trans (XS.istore X370.here hx rfl (hb hby at_97) rfl (l' := #[vi p0, vi p1, vi p2, vi p3, vi p4, vi p5, vi 2, vr b101, vr b103, vr b105, vr b107, vr b292, vi 1, vi 1, .unset, .unset, .unset]) rfl (XS.iload X370.here hx rfl (hb hby at_99) rfl (XS.ifNo X370.here hx rfl (hb hby at_101) rfl ((if0 _ _).trans (feq (by decide : ¬ ((1 : Int32) = (0 : Int32)))).1) (XS.iload X370.here hx rfl (hb hby at_104) rfl (XS.ifYes X370.here hx rfl (pc0 := 106) (pc' := 111) rfl (hb hby at_106) rfl ((if0 _ _).trans (feq (by decide : ¬ ((1 : Int32) = (0 : Int32)))).2) (by decide) (by decide) (XS.iloadN X370.here hx rfl (hb hby at_111) rfl (XS.iconst X370.here hx rfl (hb hby at_112) (XS.iushr X370.here hx rfl (hb hby at_113) rfl (XS.iconst X370.here hx rfl (hb hby at_114) (XS.iand X370.here hx rfl (hb hby at_115) rfl kq))))))))))) ?_
    by_cases hc373 : (((p0.toUInt32 >>> ((1 : Int32) &&& 31).toUInt32).toInt32) &&& (1 : Int32)) = (0 : Int32)
    · have f375 := ((((f339.ext E338).wr W350).wr W354).keep K370)
      have f381 := ((((f344.ext E338).wr W350 nb_b101_b338).wr W354 nb_b101_b338).keep K370 (allS nb_b101_b292 (allS nb_b101_bb302 (allS nb_b101_bs302 (allS nb_b101_bk302 all0)))))
      have f382 := ((((f345.ext E338).wr W350 nb_b103_b338).wr W354 nb_b103_b338).keep K370 (allS nb_b103_b292 (allS nb_b103_bb302 (allS nb_b103_bs302 (allS nb_b103_bk302 all0)))))
      have f383 := (f368.keep K370 (allS nb_b105_b292 (allS nb_b105_bb302 (allS nb_b105_bs302 (allS nb_b105_bk302 all0)))))
      have f384 := (f369.keep K370 (allS nb_b107_b292 (allS nb_b107_bb302 (allS nb_b107_bs302 (allS nb_b107_bk302 all0)))))
      obtain ⟨cq385, kq385, q385a, q385b, q385c⟩ := isOf hZ rfl Et370
      obtain ⟨_, _, ⟨T385, L385, k385, n385⟩, -, X385, hS385, hg385, ⟨Lc385, hQ385, l385, y385, z385, hC385⟩, st385⟩ := X370.virtualBackS hx (y := M1) (z := M1) hown (mvT hZ (ww hw 117 rfl)) (mvT hZ (ww hw 118 rfl)) (notFace_of_selects (args := #[]) (mvT hZ (ww hw 120 rfl))) (mvT hZ (ww hw 120 rfl)) (mvT hZ (ww hw 119 rfl)) (by decide) (backOfSH (s := s) (vm0 := T107.vm) (W := 0) (cel2 l Z a0 hw [] T370.heap n0 O370 b292 bb302 bs302 bk302 ka302 kb302 kc302 B370 D370 E370 ((0 + 1) + 1) 0 (([] : List Int).length) ([] : List Int) (own_en cs105 ++ own_en cs107) cs101 cs103 z u fm hEL HP HU HF ⟨⟨Et370, Fw370, Fb370, Fu370, Fs370, Fk370, Fz370⟩, ⟨Vb370, Vs370, Vk370⟩, ⟨ls370, lk370⟩, nq1370, nq2370, nq3370, nq4370, nq5370, nq6370⟩ (by decide) (by simp [hD370, hD335]) (by simp [hB370, hB335, own_en]) rfl (by omega) (hB370 ▸ (own_rapp (own_rapp (own_rapp (own_rapp hbr1 (own_vlr (by omega))) (own_u8r hc105)) (own_vlr (by omega))) (own_u8r hc107))) hl101 hc101 hl103 hc103) hZ (ww hw 121 rfl) (ww hw 42 rfl) (by decide) (by decide) hEL Ccr371.1) q385a q385c (g := (mkF m 153 #[vi p0, vi p1, vi p2, vi p3, vi p4, vi p5, vi 2, vr b101, vr b103, vr b105, vr b107, vr b292, vi 1, vi 1, vi 0, .unset, .unset] [(.int 0), (.ref b292)])) rfl (by rw [hml]; rfl) (Steps.refl _) (argsL := [(.int 0)]) (rest := []) (lenOf pd_39 rfl) rfl (by show 2 * 0 + _ ≤ _; exact Nat.le_of_eq rfl) (hb hby at_153) (fun _ _ => ⟨rfl, rfl, (by decide : 32 + 9 ≤ _), (by decide : 24038 + 4010 ≤ _)⟩)
      dsimp only [Pt.U, Pt.locs, Pt.cells, Pt.slots] at hS385 hg385 hC385
      have hSn385 : s.Since T385.vm T385.heap.size := hSn107.trans hS385 (Nat.le_trans (Nat.le_trans (Nat.le_trans (Nat.le_trans (Nat.le_trans (Nat.le_trans (Nat.le_trans (Nat.le_trans (Nat.le_trans (Nat.le_trans (Nat.le_trans (Nat.le_refl _) E292.1) K302.1) E304.1) (Nat.le_of_eq W315.size.symm)) (Nat.le_of_eq W319.size.symm)) K335.1) E338.1) (Nat.le_of_eq W350.size.symm)) (Nat.le_of_eq W354.size.symm)) K370.1) hg385)
      have hZ : Z.Warmed39 (s.setVm T385.vm).vm := State.Warmed39.trans (t := (s.setVm T107.vm)) hZ hS385.1
      have hown : (s.setVm T385.vm).vm.findClass "com/example/vestwright/vestwright/cli/TableRowsCellsPinLaw" = some m.cls := by rw [show (s.setVm T385.vm).vm = T385.vm from rfl, hS385.1.alike.findClass]; exact hown
      have cr386 := hC385
      have Ccr386 := Ccr371.trans cr386
      have sf387 := sf372.go cr386
      dsimp only [Pt.U, Pt.locs, Pt.cells, Pt.slots] at X385 l385 y385 z385 st385 hQ385
      subst l385 y385 z385
      have X385 : Stand p l e _ (s.setVm T385.vm) m _ below meth c T385 _ _ _ := X385
      obtain ⟨b385, kb385, y0385, y1385, rfl, N385, K385, gb385, V385, Y0385, Y1385⟩ := hQ385
      have Nf385 := Fr.app Nf370 N385
      have O385 := O370.keep K385 all0
      have KK385 := KK370.trans K385 all0
      obtain ⟨nn385, hnn385⟩ : ∃ q, q = T385.heap.size := ⟨_, rfl⟩
      refine own_goH (S' := (T370.setTop (mkF m 153 #[vi p0, vi p1, vi p2, vi p3, vi p4, vi p5, vi 2, vr b101, vr b103, vr b105, vr b107, vr b292, vi 1, vi 1, vi 0, .unset, .unset] [(.int 0), (.ref b292)]))) (fun tq kq => XS.ifYes X370.here hx rfl (pc0 := 116) (pc' := 123) rfl (hb hby at_116) rfl ((if0 _ _).trans (teq hc373).1) (by decide) (by decide) (XS.iconst X370.here hx rfl (hb hby at_123) (XS.istore X370.here hx rfl (hb hby at_124) rfl (l' := #[vi p0, vi p1, vi p2, vi p3, vi p4, vi p5, vi 2, vr b101, vr b103, vr b105, vr b107, vr b292, vi 1, vi 1, vi 0, .unset, .unset]) rfl (XS.iload X370.here hx rfl (hb hby at_126) rfl (XS.ifYes X370.here hx rfl (pc0 := 128) (pc' := 150) rfl (hb hby at_128) rfl ((if0 _ _).trans (teq (by decide : (0 : Int32) = (0 : Int32))).1) (by decide) (by decide) (XS.aload X370.here hx rfl (hb hby at_150) rfl rfl (XS.iconst X370.here hx rfl (hb hby at_152) kq))))))) ?_
      rw [← hnn385] at Y0385 Y1385
      have f393 := (Et370.keep K385)
      have f396 := (Vb370.keep K385 nin0)
      have f397 := (Vk370.keep K385 nin0)
      have f398 := (Vs370.keep K385 nin0)
      have f399 := (f381.keep K385 all0)
      have f400 := (f382.keep K385 all0)
      have f401 := (f383.keep K385 all0)
      have f402 := (f384.keep K385 all0)
      have f403 := (Fw370.keep K385 nin0)
      have f404 := (Fb370.keep K385 nin0)
      have f405 := (Fu370.keep K385 nin0)
      have f406 := (Fs370.keep K385 nin0)
      have f407 := (Fk370.keep K385 nin0)
      have f408 := (Fz370.keep K385 nin0)
      obtain ⟨cq409, kq409, q409a, q409b, q409c⟩ := isOf hZ rfl f393
      obtain ⟨_, _, ⟨T409, L409, k409, n409⟩, -, X409, hS409, hg409, ⟨Lc409, hQ409, l409, y409, z409, hC409⟩, st409⟩ := X385.virtualBackS hx (y := M1) (z := M1) hown (mvT hZ (ww hw 117 rfl)) (mvT hZ (ww hw 118 rfl)) (notFace_of_selects (args := #[]) (mvT hZ (ww hw 120 rfl))) (mvT hZ (ww hw 120 rfl)) (mvT hZ (ww hw 119 rfl)) (by decide) (backOfSH (s := s) (vm0 := T385.vm) (W := 0) (cel2 l Z a0 hw [] T385.heap n0 O385 b292 bb302 bs302 bk302 ka302 kb302 kc302 B370 D370 E370 ((0 + 1) + 1) 1 (B335.length) (own_en cs101 ++ own_en cs103) ([] : List Int) cs105 cs107 z u fm hEL HP HU HF ⟨⟨f393, f403, f404, f405, f406, f407, f408⟩, ⟨f396, f398, f397⟩, ⟨ls370, lk370⟩, nq1370, nq2370, nq3370, nq4370, nq5370, nq6370⟩ (by decide) (by simp [hD370, hD335]) (by simp [hB370, hB335, own_en]) (by simp [hB335, own_en]) (by omega) (hB370 ▸ (own_rapp (own_rapp (own_rapp (own_rapp hbr1 (own_vlr (by omega))) (own_u8r hc105)) (own_vlr (by omega))) (own_u8r hc107))) hl105 hc105 hl107 hc107) hZ (ww hw 121 rfl) (ww hw 42 rfl) (by decide) (by decide) hEL Ccr386.1) q409a q409c (g := (mkF m 161 #[vi p0, vi p1, vi p2, vi p3, vi p4, vi p5, vi 2, vr b101, vr b103, vr b105, vr b107, vr b292, vi 1, vi 1, vi 0, vr b385, .unset] [(.int 1), (.ref b292)])) rfl (by rw [hml]; rfl) (Steps.refl _) (argsL := [(.int 1)]) (rest := []) (lenOf pd_39 rfl) rfl (by show 2 * 0 + _ ≤ _; exact Nat.le_of_eq rfl) (hb hby at_161) (fun _ _ => ⟨rfl, rfl, (by decide : 41 + 9 ≤ _), (by decide : 28048 + 4010 ≤ _)⟩)
      dsimp only [Pt.U, Pt.locs, Pt.cells, Pt.slots] at hS409 hg409 hC409
      have hSn409 : s.Since T409.vm T409.heap.size := hSn385.trans hS409 (Nat.le_trans (Nat.le_refl _) hg409)
      have hZ : Z.Warmed39 (s.setVm T409.vm).vm := State.Warmed39.trans (t := (s.setVm T385.vm)) hZ hS409.1
      have hown : (s.setVm T409.vm).vm.findClass "com/example/vestwright/vestwright/cli/TableRowsCellsPinLaw" = some m.cls := by rw [show (s.setVm T409.vm).vm = T409.vm from rfl, hS409.1.alike.findClass]; exact hown
      have cr410 := hC409
      have Ccr410 := Ccr386.trans cr410
      have sf411 := sf387.go cr410
      dsimp only [Pt.U, Pt.locs, Pt.cells, Pt.slots] at X409 l409 y409 z409 st409 hQ409
      subst l409 y409 z409
      have X409 : Stand p l e _ (s.setVm T409.vm) m _ below meth c T409 _ _ _ := X409
      obtain ⟨b409, kb409, y0409, y1409, rfl, N409, K409, gb409, V409, Y0409, Y1409⟩ := hQ409
      have Nf409 := Fr.app Nf385 N409
      have O409 := O385.keep K409 all0
      have KK409 := KK385.trans K409 all0
      obtain ⟨nn409, hnn409⟩ : ∃ q, q = T409.heap.size := ⟨_, rfl⟩
      refine own_goH (S' := (T385.setTop (mkF m 161 #[vi p0, vi p1, vi p2, vi p3, vi p4, vi p5, vi 2, vr b101, vr b103, vr b105, vr b107, vr b292, vi 1, vi 1, vi 0, vr b385, .unset] [(.int 1), (.ref b292)]))) (fun tq kq => st385.trans (XS.astore X385.here hx rfl (hb hby at_156) rfl rfl (l' := #[vi p0, vi p1, vi p2, vi p3, vi p4, vi p5, vi 2, vr b101, vr b103, vr b105, vr b107, vr b292, vi 1, vi 1, vi 0, vr b385, .unset]) rfl (XS.aload X385.here hx rfl (hb hby at_158) rfl rfl (XS.iconst X385.here hx rfl (hb hby at_160) kq)))) ?_
      rw [← hnn409] at Y0409 Y1409
      have f412 := (V385.keep K409 nin0)
      obtain ⟨cl413, Ar413, ln413⟩ := f412.len
      have lq413 : cl413.slots.size.toInt32 = (2 : Int32) := ln413.trans rfl
      obtain ⟨cl414, Ar414, ln414⟩ := V409.len
      have lq414 : cl414.slots.size.toInt32 = (2 : Int32) := ln414.trans rfl
      obtain ⟨cl415, Ar415, -, -, hin415, hat415⟩ := f412.at (j := (0 : Int32)) (v := (.ref y0385)) (by decide) rfl
      have f416 := (Y0385.keep K409 all0)
      have f417 := (f399.keep K409 all0)
      have f419 := (Y0385.2.2.1.keep K409)
      obtain ⟨cq418, kq418, q418a, q418b, q418c⟩ := isOf hZ rfl f419
      obtain ⟨_, _, ⟨T418, L418, k418, n418⟩, -, X418, ⟨Lc418, hQ418, l418, y418, z418⟩, st418⟩ := X409.virtualBack hx (y := M0) (z := M0) hown (mvT hZ (ww hw 160 rfl)) (mvT hZ (ww hw 161 rfl)) (notFace_of_selects (args := #[]) (mvT hZ (ww hw 163 rfl))) (mvT hZ (ww hw 163 rfl)) (mvT hZ (ww hw 162 rfl)) (by decide) (backOf (W := 0) (rm29 l Z a0 hw [] T409.heap n0 O409 y0385 b101 nn385 nn cs101 z HP f416 f417 hl101) hZ (ww hw 164 rfl) (ww hw 10 rfl) (by decide) (by decide)) q418a q418c (g := (mkF m 190 #[vi p0, vi p1, vi p2, vi p3, vi p4, vi p5, vi 2, vr b101, vr b103, vr b105, vr b107, vr b292, vi 1, vi 1, vi 0, vr b385, vr b409] [(.ref b101), (.ref y0385)])) rfl (by rw [hml]; rfl) (Steps.refl _) (argsL := [(.ref b101)]) (rest := []) (lenOf pd_40 rfl) rfl (by show 2 * 0 + _ ≤ _; exact Nat.le_of_eq rfl) (hb hby at_190) (fun _ _ => ⟨rfl, rfl, (by decide : 50 + 0 ≤ _), (by decide : 32058 + 0 ≤ _)⟩)
      dsimp only [Pt.U, Pt.locs, Pt.cells, Pt.slots] at X418 l418 y418 z418 st418 hQ418
      subst l418 y418 z418
      obtain ⟨rfl, N418, eh418⟩ := hQ418
      have Nf418 := Fr.app Nf409 N418
      obtain ⟨cl420, Ar420, -, -, hin420, hat420⟩ := V409.at (j := (0 : Int32)) (v := (.ref y0409)) (by decide) rfl
      have f421 := (f401.keep K409 all0)
      obtain ⟨cq422, kq422, q422a, q422b, q422c⟩ := isOf hZ eh418 Y0409.2.2.1
      obtain ⟨_, _, ⟨T422, L422, k422, n422⟩, -, X422, ⟨Lc422, hQ422, l422, y422, z422⟩, st422⟩ := X418.virtualBack hx (y := M0) (z := M0) hown (mvT hZ (ww hw 160 rfl)) (mvT hZ (ww hw 161 rfl)) (notFace_of_selects (args := #[]) (mvT hZ (ww hw 163 rfl))) (mvT hZ (ww hw 163 rfl)) (mvT hZ (ww hw 162 rfl)) (by decide) (backOf (W := 0) (rm29 l Z a0 hw [] T409.heap n0 O409 y0409 b105 nn409 nn cs105 z HP Y0409 f421 hl105) hZ (ww hw 164 rfl) (ww hw 10 rfl) (by decide) (by decide)) q422a q422c (g := (mkF m 202 #[vi p0, vi p1, vi p2, vi p3, vi p4, vi p5, vi 2, vr b101, vr b103, vr b105, vr b107, vr b292, vi 1, vi 1, vi 0, vr b385, vr b409] [(.ref b105), (.ref y0409)])) rfl (by rw [hml]; rfl) (Steps.refl _) (argsL := [(.ref b105)]) (rest := []) (lenOf pd_40 rfl) rfl (by show 2 * 0 + _ ≤ _; exact Nat.le_of_eq rfl) (hb hby at_202) (fun _ _ => ⟨rfl, eh418, (by decide : 50 + 0 ≤ _), (by decide : 32058 + 0 ≤ _)⟩)
      dsimp only [Pt.U, Pt.locs, Pt.cells, Pt.slots] at X422 l422 y422 z422 st422 hQ422
      subst l422 y422 z422
      obtain ⟨rfl, N422, eh422⟩ := hQ422
      have Nf422 := Fr.app Nf418 N422
      refine own_goH (S' := (T422.setTop (mkF m 216 #[vi p0, vi p1, vi p2, vi p3, vi p4, vi p5, vi 2, vr b101, vr b103, vr b105, vr b107, vr b292, vi 1, vi 1, vi 0, vr b385, vr b409] []))) (fun tq kq => st409.trans (XS.astore X409.here hx rfl (hb hby at_164) rfl rfl (l' := #[vi p0, vi p1, vi p2, vi p3, vi p4, vi p5, vi 2, vr b101, vr b103, vr b105, vr b107, vr b292, vi 1, vi 1, vi 0, vr b385, vr b409]) rfl (XS.aload X409.here hx rfl (hb hby at_166) rfl rfl (X409.arraylength hx Ar413.1 (State.isArrayOf_alike hZ.alike Ar413.2.1) (g := (mkF m 168 #[vi p0, vi p1, vi p2, vi p3, vi p4, vi p5, vi 2, vr b101, vr b103, vr b105, vr b107, vr b292, vi 1, vi 1, vi 0, vr b385, vr b409] [(.ref b385)])) rfl rfl (hb hby at_168) tq (by rw [lq413]; exact (XS.iload X409.here hx rfl (hb hby at_169) rfl (XS.icmpNo X409.here hx rfl (hb hby at_171) rfl (teq (by decide : (2 : Int32) = (2 : Int32))).2 (XS.aload X409.here hx rfl (hb hby at_174) rfl rfl (X409.arraylength hx Ar414.1 (State.isArrayOf_alike hZ.alike Ar414.2.1) (g := (mkF m 176 #[vi p0, vi p1, vi p2, vi p3, vi p4, vi p5, vi 2, vr b101, vr b103, vr b105, vr b107, vr b292, vi 1, vi 1, vi 0, vr b385, vr b409] [(.ref b409)])) rfl rfl (hb hby at_176) tq (by rw [lq414]; exact (XS.iload X409.here hx rfl (hb hby at_177) rfl (XS.icmpYes X409.here hx rfl (pc0 := 179) (pc' := 184) rfl (hb hby at_179) rfl (teq (by decide : (2 : Int32) = (2 : Int32))).1 (by decide) (by decide) (XS.aload X409.here hx rfl (hb hby at_184) rfl rfl (XS.iconst X409.here hx rfl (hb hby at_186) (X409.aaload hx (j := (0 : Int32)) (v := (.ref y0385)) Ar415.1 (State.isArrayOf_alike hZ.alike Ar415.2.1) rfl Ar415.2.2 hin415 hat415 (g := (mkF m 187 #[vi p0, vi p1, vi p2, vi p3, vi p4, vi p5, vi 2, vr b101, vr b103, vr b105, vr b107, vr b292, vi 1, vi 1, vi 0, vr b385, vr b409] [(.int 0), (.ref b385)])) rfl rfl (hb hby at_187) tq (XS.aload X409.here hx rfl (hb hby at_188) rfl rfl (st418.trans (XS.ifNo X418.here hx rfl (hb hby at_193) rfl ((if0 _ _).trans (feq (by decide : ¬ ((1 : Int32) = (0 : Int32)))).1) (XS.aload X418.here hx rfl (hb hby at_196) rfl rfl (XS.iconst X418.here hx rfl (hb hby at_198) (X418.aaload hx (j := (0 : Int32)) (v := (.ref y0409)) (by rw [eh418]; exact Ar420.1) (State.isArrayOf_alike hZ.alike Ar420.2.1) rfl Ar420.2.2 hin420 hat420 (g := (mkF m 199 #[vi p0, vi p1, vi p2, vi p3, vi p4, vi p5, vi 2, vr b101, vr b103, vr b105, vr b107, vr b292, vi 1, vi 1, vi 0, vr b385, vr b409] [(.int 0), (.ref b409)])) rfl rfl (hb hby at_199) tq (XS.aload X418.here hx rfl (hb hby at_200) rfl rfl (st422.trans (XS.ifYes X422.here hx rfl (pc0 := 205) (pc' := 210) rfl (hb hby at_205) rfl ((if0 _ _).trans (feq (by decide : ¬ ((1 : Int32) = (0 : Int32)))).2) (by decide) (by decide) (XS.iload X422.here hx rfl (hb hby at_210) rfl (XS.iconst X422.here hx rfl (hb hby at_212) (XS.icmpNo X422.here hx rfl (hb hby at_213) rfl (teq (by decide : (2 : Int32) = (2 : Int32))).2 kq))))))))))))))))))))))))))) ?_
      obtain ⟨cl423, Ar423, -, -, hin423, hat423⟩ := f412.at (j := (1 : Int32)) (v := (.ref y1385)) (by decide) rfl
      have f424 := (Y1385.keep K409 all0)
      have f425 := (f400.keep K409 all0)
      have f427 := (Y1385.2.2.1.keep K409)
      obtain ⟨cq426, kq426, q426a, q426b, q426c⟩ := isOf hZ eh422 f427
      obtain ⟨_, _, ⟨T426, L426, k426, n426⟩, -, X426, ⟨Lc426, hQ426, l426, y426, z426⟩, st426⟩ := X422.virtualBack hx (y := M0) (z := M0) hown (mvT hZ (ww hw 160 rfl)) (mvT hZ (ww hw 161 rfl)) (notFace_of_selects (args := #[]) (mvT hZ (ww hw 163 rfl))) (mvT hZ (ww hw 163 rfl)) (mvT hZ (ww hw 162 rfl)) (by decide) (backOf (W := 0) (rm29 l Z a0 hw [] T409.heap n0 O409 y1385 b103 nn385 nn cs103 z HP f424 f425 hl103) hZ (ww hw 164 rfl) (ww hw 10 rfl) (by decide) (by decide)) q426a q426c (g := (mkF m 222 #[vi p0, vi p1, vi p2, vi p3, vi p4, vi p5, vi 2, vr b101, vr b103, vr b105, vr b107, vr b292, vi 1, vi 1, vi 0, vr b385, vr b409] [(.ref b103), (.ref y1385)])) rfl (by rw [hml]; rfl) (Steps.refl _) (argsL := [(.ref b103)]) (rest := []) (lenOf pd_40 rfl) rfl (by show 2 * 0 + _ ≤ _; exact Nat.le_of_eq rfl) (hb hby at_222) (fun _ _ => ⟨rfl, eh422, (by decide : 50 + 0 ≤ _), (by decide : 32058 + 0 ≤ _)⟩)
      dsimp only [Pt.U, Pt.locs, Pt.cells, Pt.slots] at X426 l426 y426 z426 st426 hQ426
      subst l426 y426 z426
      obtain ⟨rfl, N426, eh426⟩ := hQ426
      have Nf426 := Fr.app Nf422 N426
      obtain ⟨cl428, Ar428, -, -, hin428, hat428⟩ := V409.at (j := (1 : Int32)) (v := (.ref y1409)) (by decide) rfl
      have f429 := (f402.keep K409 all0)
      obtain ⟨cq430, kq430, q430a, q430b, q430c⟩ := isOf hZ eh426 Y1409.2.2.1
      obtain ⟨_, _, ⟨T430, L430, k430, n430⟩, -, X430, ⟨Lc430, hQ430, l430, y430, z430⟩, st430⟩ := X426.virtualBack hx (y := M0) (z := M0) hown (mvT hZ (ww hw 160 rfl)) (mvT hZ (ww hw 161 rfl)) (notFace_of_selects (args := #[]) (mvT hZ (ww hw 163 rfl))) (mvT hZ (ww hw 163 rfl)) (mvT hZ (ww hw 162 rfl)) (by decide) (backOf (W := 0) (rm29 l Z a0 hw [] T409.heap n0 O409 y1409 b107 nn409 nn cs107 z HP Y1409 f429 hl107) hZ (ww hw 164 rfl) (ww hw 10 rfl) (by decide) (by decide)) q430a q430c (g := (mkF m 234 #[vi p0, vi p1, vi p2, vi p3, vi p4, vi p5, vi 2, vr b101, vr b103, vr b105, vr b107, vr b292, vi 1, vi 1, vi 0, vr b385, vr b409] [(.ref b107), (.ref y1409)])) rfl (by rw [hml]; rfl) (Steps.refl _) (argsL := [(.ref b107)]) (rest := []) (lenOf pd_40 rfl) rfl (by show 2 * 0 + _ ≤ _; exact Nat.le_of_eq rfl) (hb hby at_234) (fun _ _ => ⟨rfl, eh426, (by decide : 50 + 0 ≤ _), (by decide : 32058 + 0 ≤ _)⟩)
      dsimp only [Pt.U, Pt.locs, Pt.cells, Pt.slots] at X430 l430 y430 z430 st430 hQ430
      subst l430 y430 z430
      obtain ⟨rfl, N430, eh430⟩ := hQ430
      have Nf430 := Fr.app Nf426 N430
      refine own_goH (S' := (T430.setTop (mkF m 245 #[vi p0, vi p1, vi p2, vi p3, vi p4, vi p5, vi 2, vr b101, vr b103, vr b105, vr b107, vr b292, vi 1, vi 1, vi 0, vr b385, vr b409] [(.int 1)]))) (fun tq kq => XS.aload X422.here hx rfl (hb hby at_216) rfl rfl (XS.iconst X422.here hx rfl (hb hby at_218) (X422.aaload hx (j := (1 : Int32)) (v := (.ref y1385)) (by rw [eh422]; exact Ar423.1) (State.isArrayOf_alike hZ.alike Ar423.2.1) rfl Ar423.2.2 hin423 hat423 (g := (mkF m 219 #[vi p0, vi p1, vi p2, vi p3, vi p4, vi p5, vi 2, vr b101, vr b103, vr b105, vr b107, vr b292, vi 1, vi 1, vi 0, vr b385, vr b409] [(.int 1), (.ref b385)])) rfl rfl (hb hby at_219) tq (XS.aload X422.here hx rfl (hb hby at_220) rfl rfl (st426.trans (XS.ifNo X426.here hx rfl (hb hby at_225) rfl ((if0 _ _).trans (feq (by decide : ¬ ((1 : Int32) = (0 : Int32)))).1) (XS.aload X426.here hx rfl (hb hby at_228) rfl rfl (XS.iconst X426.here hx rfl (hb hby at_230) (X426.aaload hx (j := (1 : Int32)) (v := (.ref y1409)) (by rw [eh426]; exact Ar428.1) (State.isArrayOf_alike hZ.alike Ar428.2.1) rfl Ar428.2.2 hin428 hat428 (g := (mkF m 231 #[vi p0, vi p1, vi p2, vi p3, vi p4, vi p5, vi 2, vr b101, vr b103, vr b105, vr b107, vr b292, vi 1, vi 1, vi 0, vr b385, vr b409] [(.int 1), (.ref b409)])) rfl rfl (hb hby at_231) tq (XS.aload X426.here hx rfl (hb hby at_232) rfl rfl (st430.trans (XS.ifNo X430.here hx rfl (hb hby at_237) rfl ((if0 _ _).trans (feq (by decide : ¬ ((1 : Int32) = (0 : Int32)))).1) (XS.iconst X430.here hx rfl (hb hby at_240) (XS.goto X430.here hx rfl (pc0 := 241) (pc' := 245) rfl (hb hby at_241) (by decide) (by decide) kq)))))))))))))) ?_
      refine own_retNH X430 hSn409 (by rw [eh430]; exact (Nat.le_refl _)) hZ hEL hh (by rw [eh430]; exact Ccr410) hx hlk hret (by simp) (hb hby at_245) (by decide) (by decide) ?_
      exact ⟨rfl, Nf430⟩
    · have f432 := ((((f339.ext E338).wr W350).wr W354).keep K370)
      have f438 := ((((f344.ext E338).wr W350 nb_b101_b338).wr W354 nb_b101_b338).keep K370 (allS nb_b101_b292 (allS nb_b101_bb302 (allS nb_b101_bs302 (allS nb_b101_bk302 all0)))))
      have f439 := ((((f345.ext E338).wr W350 nb_b103_b338).wr W354 nb_b103_b338).keep K370 (allS nb_b103_b292 (allS nb_b103_bb302 (allS nb_b103_bs302 (allS nb_b103_bk302 all0)))))
      have f440 := (f368.keep K370 (allS nb_b105_b292 (allS nb_b105_bb302 (allS nb_b105_bs302 (allS nb_b105_bk302 all0)))))
      have f441 := (f369.keep K370 (allS nb_b107_b292 (allS nb_b107_bb302 (allS nb_b107_bs302 (allS nb_b107_bk302 all0)))))
      obtain ⟨cq442, kq442, q442a, q442b, q442c⟩ := isOf hZ rfl Et370
      obtain ⟨_, _, ⟨T442, L442, k442, n442⟩, -, X442, hS442, hg442, ⟨Lc442, hQ442, l442, y442, z442, hC442⟩, st442⟩ := X370.virtualBackS hx (y := M1) (z := M1) hown (mvT hZ (ww hw 117 rfl)) (mvT hZ (ww hw 118 rfl)) (notFace_of_selects (args := #[]) (mvT hZ (ww hw 120 rfl))) (mvT hZ (ww hw 120 rfl)) (mvT hZ (ww hw 119 rfl)) (by decide) (backOfSH (s := s) (vm0 := T107.vm) (W := 0) (cel2 l Z a0 hw [] T370.heap n0 O370 b292 bb302 bs302 bk302 ka302 kb302 kc302 B370 D370 E370 ((0 + 1) + 1) 1 (B335.length) (own_en cs101 ++ own_en cs103) ([] : List Int) cs105 cs107 z u fm hEL HP HU HF ⟨⟨Et370, Fw370, Fb370, Fu370, Fs370, Fk370, Fz370⟩, ⟨Vb370, Vs370, Vk370⟩, ⟨ls370, lk370⟩, nq1370, nq2370, nq3370, nq4370, nq5370, nq6370⟩ (by decide) (by simp [hD370, hD335]) (by simp [hB370, hB335, own_en]) (by simp [hB335, own_en]) (by omega) (hB370 ▸ (own_rapp (own_rapp (own_rapp (own_rapp hbr1 (own_vlr (by omega))) (own_u8r hc105)) (own_vlr (by omega))) (own_u8r hc107))) hl105 hc105 hl107 hc107) hZ (ww hw 121 rfl) (ww hw 42 rfl) (by decide) (by decide) hEL Ccr371.1) q442a q442c (g := (mkF m 134 #[vi p0, vi p1, vi p2, vi p3, vi p4, vi p5, vi 2, vr b101, vr b103, vr b105, vr b107, vr b292, vi 1, vi 1, vi 1, .unset, .unset] [(.int 1), (.ref b292)])) rfl (by rw [hml]; rfl) (Steps.refl _) (argsL := [(.int 1)]) (rest := []) (lenOf pd_39 rfl) rfl (by show 2 * 0 + _ ≤ _; exact Nat.le_of_eq rfl) (hb hby at_134) (fun _ _ => ⟨rfl, rfl, (by decide : 32 + 9 ≤ _), (by decide : 24038 + 4010 ≤ _)⟩)
      dsimp only [Pt.U, Pt.locs, Pt.cells, Pt.slots] at hS442 hg442 hC442
      have hSn442 : s.Since T442.vm T442.heap.size := hSn107.trans hS442 (Nat.le_trans (Nat.le_trans (Nat.le_trans (Nat.le_trans (Nat.le_trans (Nat.le_trans (Nat.le_trans (Nat.le_trans (Nat.le_trans (Nat.le_trans (Nat.le_trans (Nat.le_refl _) E292.1) K302.1) E304.1) (Nat.le_of_eq W315.size.symm)) (Nat.le_of_eq W319.size.symm)) K335.1) E338.1) (Nat.le_of_eq W350.size.symm)) (Nat.le_of_eq W354.size.symm)) K370.1) hg442)
      have hZ : Z.Warmed39 (s.setVm T442.vm).vm := State.Warmed39.trans (t := (s.setVm T107.vm)) hZ hS442.1
      have hown : (s.setVm T442.vm).vm.findClass "com/example/vestwright/vestwright/cli/TableRowsCellsPinLaw" = some m.cls := by rw [show (s.setVm T442.vm).vm = T442.vm from rfl, hS442.1.alike.findClass]; exact hown
      have cr443 := hC442
      have Ccr443 := Ccr371.trans cr443
      have sf444 := sf372.go cr443
      dsimp only [Pt.U, Pt.locs, Pt.cells, Pt.slots] at X442 l442 y442 z442 st442 hQ442
      subst l442 y442 z442
      have X442 : Stand p l e _ (s.setVm T442.vm) m _ below meth c T442 _ _ _ := X442
      obtain ⟨b442, kb442, y0442, y1442, rfl, N442, K442, gb442, V442, Y0442, Y1442⟩ := hQ442
      have Nf442 := Fr.app Nf370 N442
      have O442 := O370.keep K442 all0
      have KK442 := KK370.trans K442 all0
      obtain ⟨nn442, hnn442⟩ : ∃ q, q = T442.heap.size := ⟨_, rfl⟩
      refine own_goH (S' := (T370.setTop (mkF m 134 #[vi p0, vi p1, vi p2, vi p3, vi p4, vi p5, vi 2, vr b101, vr b103, vr b105, vr b107, vr b292, vi 1, vi 1, vi 1, .unset, .unset] [(.int 1), (.ref b292)]))) (fun tq kq => XS.ifNo X370.here hx rfl (hb hby at_116) rfl ((if0 _ _).trans (feq hc373).1) (XS.iconst X370.here hx rfl (hb hby at_119) (XS.goto X370.here hx rfl (pc0 := 120) (pc' := 124) rfl (hb hby at_120) (by decide) (by decide) (XS.istore X370.here hx rfl (hb hby at_124) rfl (l' := #[vi p0, vi p1, vi p2, vi p3, vi p4, vi p5, vi 2, vr b101, vr b103, vr b105, vr b107, vr b292, vi 1, vi 1, vi 1, .unset, .unset]) rfl (XS.iload X370.here hx rfl (hb hby at_126) rfl (XS.ifNo X370.here hx rfl (hb hby at_128) rfl ((if0 _ _).trans (feq (by decide : ¬ ((1 : Int32) = (0 : Int32)))).1) (XS.aload X370.here hx rfl (hb hby at_131) rfl rfl (XS.iconst X370.here hx rfl (hb hby at_133) kq)))))))) ?_
      rw [← hnn442] at Y0442 Y1442
      have f450 := (Et370.keep K442)
      have f453 := (Vb370.keep K442 nin0)
      have f454 := (Vk370.keep K442 nin0)
      have f455 := (Vs370.keep K442 nin0)
      have f456 := (f438.keep K442 all0)
      have f457 := (f439.keep K442 all0)
      have f458 := (f440.keep K442 all0)
      have f459 := (f441.keep K442 all0)
      have f460 := (Fw370.keep K442 nin0)
      have f461 := (Fb370.keep K442 nin0)
      have f462 := (Fu370.keep K442 nin0)
      have f463 := (Fs370.keep K442 nin0)
      have f464 := (Fk370.keep K442 nin0)
      have f465 := (Fz370.keep K442 nin0)
      obtain ⟨cq466, kq466, q466a, q466b, q466c⟩ := isOf hZ rfl f450
      obtain ⟨_, _, ⟨T466, L466, k466, n466⟩, -, X466, hS466, hg466, ⟨Lc466, hQ466, l466, y466, z466, hC466⟩, st466⟩ := X442.virtualBackS hx (y := M1) (z := M1) hown (mvT hZ (ww hw 117 rfl)) (mvT hZ (ww hw 118 rfl)) (notFace_of_selects (args := #[]) (mvT hZ (ww hw 120 rfl))) (mvT hZ (ww hw 120 rfl)) (mvT hZ (ww hw 119 rfl)) (by decide) (backOfSH (s := s) (vm0 := T442.vm) (W := 0) (cel2 l Z a0 hw [] T442.heap n0 O442 b292 bb302 bs302 bk302 ka302 kb302 kc302 B370 D370 E370 ((0 + 1) + 1) 0 (([] : List Int).length) ([] : List Int) (own_en cs105 ++ own_en cs107) cs101 cs103 z u fm hEL HP HU HF ⟨⟨f450, f460, f461, f462, f463, f464, f465⟩, ⟨f453, f455, f454⟩, ⟨ls370, lk370⟩, nq1370, nq2370, nq3370, nq4370, nq5370, nq6370⟩ (by decide) (by simp [hD370, hD335]) (by simp [hB370, hB335, own_en]) rfl (by omega) (hB370 ▸ (own_rapp (own_rapp (own_rapp (own_rapp hbr1 (own_vlr (by omega))) (own_u8r hc105)) (own_vlr (by omega))) (own_u8r hc107))) hl101 hc101 hl103 hc103) hZ (ww hw 121 rfl) (ww hw 42 rfl) (by decide) (by decide) hEL Ccr443.1) q466a q466c (g := (mkF m 142 #[vi p0, vi p1, vi p2, vi p3, vi p4, vi p5, vi 2, vr b101, vr b103, vr b105, vr b107, vr b292, vi 1, vi 1, vi 1, .unset, vr b442] [(.int 0), (.ref b292)])) rfl (by rw [hml]; rfl) (Steps.refl _) (argsL := [(.int 0)]) (rest := []) (lenOf pd_39 rfl) rfl (by show 2 * 0 + _ ≤ _; exact Nat.le_of_eq rfl) (hb hby at_142) (fun _ _ => ⟨rfl, rfl, (by decide : 41 + 9 ≤ _), (by decide : 28048 + 4010 ≤ _)⟩)
      dsimp only [Pt.U, Pt.locs, Pt.cells, Pt.slots] at hS466 hg466 hC466
      have hSn466 : s.Since T466.vm T466.heap.size := hSn442.trans hS466 (Nat.le_trans (Nat.le_refl _) hg466)
      have hZ : Z.Warmed39 (s.setVm T466.vm).vm := State.Warmed39.trans (t := (s.setVm T442.vm)) hZ hS466.1
      have hown : (s.setVm T466.vm).vm.findClass "com/example/vestwright/vestwright/cli/TableRowsCellsPinLaw" = some m.cls := by rw [show (s.setVm T466.vm).vm = T466.vm from rfl, hS466.1.alike.findClass]; exact hown
      have cr467 := hC466
      have Ccr467 := Ccr443.trans cr467
      have sf468 := sf444.go cr467
      dsimp only [Pt.U, Pt.locs, Pt.cells, Pt.slots] at X466 l466 y466 z466 st466 hQ466
      subst l466 y466 z466
      have X466 : Stand p l e _ (s.setVm T466.vm) m _ below meth c T466 _ _ _ := X466
      obtain ⟨b466, kb466, y0466, y1466, rfl, N466, K466, gb466, V466, Y0466, Y1466⟩ := hQ466
      have Nf466 := Fr.app Nf442 N466
      have O466 := O442.keep K466 all0
      have KK466 := KK442.trans K466 all0
      obtain ⟨nn466, hnn466⟩ : ∃ q, q = T466.heap.size := ⟨_, rfl⟩
      refine own_goH (S' := (T442.setTop (mkF m 142 #[vi p0, vi p1, vi p2, vi p3, vi p4, vi p5, vi 2, vr b101, vr b103, vr b105, vr b107, vr b292, vi 1, vi 1, vi 1, .unset, vr b442] [(.int 0), (.ref b292)]))) (fun tq kq => st442.trans (XS.astore X442.here hx rfl (hb hby at_137) rfl rfl (l' := #[vi p0, vi p1, vi p2, vi p3, vi p4, vi p5, vi 2, vr b101, vr b103, vr b105, vr b107, vr b292, vi 1, vi 1, vi 1, .unset, vr b442]) rfl (XS.aload X442.here hx rfl (hb hby at_139) rfl rfl (XS.iconst X442.here hx rfl (hb hby at_141) kq)))) ?_
      rw [← hnn466] at Y0466 Y1466
      obtain ⟨cl469, Ar469, ln469⟩ := V466.len
      have lq469 : cl469.slots.size.toInt32 = (2 : Int32) := ln469.trans rfl
      have f470 := (V442.keep K466 nin0)
      obtain ⟨cl471, Ar471, ln471⟩ := f470.len
      have lq471 : cl471.slots.size.toInt32 = (2 : Int32) := ln471.trans rfl
      obtain ⟨cl472, Ar472, -, -, hin472, hat472⟩ := V466.at (j := (0 : Int32)) (v := (.ref y0466)) (by decide) rfl
      have f473 := (f456.keep K466 all0)
      obtain ⟨cq474, kq474, q474a, q474b, q474c⟩ := isOf hZ rfl Y0466.2.2.1
      obtain ⟨_, _, ⟨T474, L474, k474, n474⟩, -, X474, ⟨Lc474, hQ474, l474, y474, z474⟩, st474⟩ := X466.virtualBack hx (y := M0) (z := M0) hown (mvT hZ (ww hw 160 rfl)) (mvT hZ (ww hw 161 rfl)) (notFace_of_selects (args := #[]) (mvT hZ (ww hw 163 rfl))) (mvT hZ (ww hw 163 rfl)) (mvT hZ (ww hw 162 rfl)) (by decide) (backOf (W := 0) (rm29 l Z a0 hw [] T466.heap n0 O466 y0466 b101 nn466 nn cs101 z HP Y0466 f473 hl101) hZ (ww hw 164 rfl) (ww hw 10 rfl) (by decide) (by decide)) q474a q474c (g := (mkF m 190 #[vi p0, vi p1, vi p2, vi p3, vi p4, vi p5, vi 2, vr b101, vr b103, vr b105, vr b107, vr b292, vi 1, vi 1, vi 1, vr b466, vr b442] [(.ref b101), (.ref y0466)])) rfl (by rw [hml]; rfl) (Steps.refl _) (argsL := [(.ref b101)]) (rest := []) (lenOf pd_40 rfl) rfl (by show 2 * 0 + _ ≤ _; exact Nat.le_of_eq rfl) (hb hby at_190) (fun _ _ => ⟨rfl, rfl, (by decide : 50 + 0 ≤ _), (by decide : 32058 + 0 ≤ _)⟩)
      dsimp only [Pt.U, Pt.locs, Pt.cells, Pt.slots] at X474 l474 y474 z474 st474 hQ474
      subst l474 y474 z474
      obtain ⟨rfl, N474, eh474⟩ := hQ474
      have Nf474 := Fr.app Nf466 N474
      obtain ⟨cl475, Ar475, -, -, hin475, hat475⟩ := f470.at (j := (0 : Int32)) (v := (.ref y0442)) (by decide) rfl
      have f476 := (Y0442.keep K466 all0)
      have f477 := (f458.keep K466 all0)
      have f479 := (Y0442.2.2.1.keep K466)
      obtain ⟨cq478, kq478, q478a, q478b, q478c⟩ := isOf hZ eh474 f479
      obtain ⟨_, _, ⟨T478, L478, k478, n478⟩, -, X478, ⟨Lc478, hQ478, l478, y478, z478⟩, st478⟩ := X474.virtualBack hx (y := M0) (z := M0) hown (mvT hZ (ww hw 160 rfl)) (mvT hZ (ww hw 161 rfl)) (notFace_of_selects (args := #[]) (mvT hZ (ww hw 163 rfl))) (mvT hZ (ww hw 163 rfl)) (mvT hZ (ww hw 162 rfl)) (by decide) (backOf (W := 0) (rm29 l Z a0 hw [] T466.heap n0 O466 y0442 b105 nn442 nn cs105 z HP f476 f477 hl105) hZ (ww hw 164 rfl) (ww hw 10 rfl) (by decide) (by decide)) q478a q478c (g := (mkF m 202 #[vi p0, vi p1, vi p2, vi p3, vi p4, vi p5, vi 2, vr b101, vr b103, vr b105, vr b107, vr b292, vi 1, vi 1, vi 1, vr b466, vr b442] [(.ref b105), (.ref y0442)])) rfl (by rw [hml]; rfl) (Steps.refl _) (argsL := [(.ref b105)]) (rest := []) (lenOf pd_40 rfl) rfl (by show 2 * 0 + _ ≤ _; exact Nat.le_of_eq rfl) (hb hby at_202) (fun _ _ => ⟨rfl, eh474, (by decide : 50 + 0 ≤ _), (by decide : 32058 + 0 ≤ _)⟩)
      dsimp only [Pt.U, Pt.locs, Pt.cells, Pt.slots] at X478 l478 y478 z478 st478 hQ478
      subst l478 y478 z478
      obtain ⟨rfl, N478, eh478⟩ := hQ478
      have Nf478 := Fr.app Nf474 N478
      refine own_goH (S' := (T478.setTop (mkF m 213 #[vi p0, vi p1, vi p2, vi p3, vi p4, vi p5, vi 2, vr b101, vr b103, vr b105, vr b107, vr b292, vi 1, vi 1, vi 1, vr b466, vr b442] [(.int 2), (.int 2)]))) (fun tq kq => st466.trans (XS.astore X466.here hx rfl (hb hby at_145) rfl rfl (l' := #[vi p0, vi p1, vi p2, vi p3, vi p4, vi p5, vi 2, vr b101, vr b103, vr b105, vr b107, vr b292, vi 1, vi 1, vi 1, vr b466, vr b442]) rfl (XS.goto X466.here hx rfl (pc0 := 147) (pc' := 166) rfl (hb hby at_147) (by decide) (by decide) (XS.aload X466.here hx rfl (hb hby at_166) rfl rfl (X466.arraylength hx Ar469.1 (State.isArrayOf_alike hZ.alike Ar469.2.1) (g := (mkF m 168 #[vi p0, vi p1, vi p2, vi p3, vi p4, vi p5, vi 2, vr b101, vr b103, vr b105, vr b107, vr b292, vi 1, vi 1, vi 1, vr b466, vr b442] [(.ref b466)])) rfl rfl (hb hby at_168) tq (by rw [lq469]; exact (XS.iload X466.here hx rfl (hb hby at_169) rfl (XS.icmpNo X466.here hx rfl (hb hby at_171) rfl (teq (by decide : (2 : Int32) = (2 : Int32))).2 (XS.aload X466.here hx rfl (hb hby at_174) rfl rfl (X466.arraylength hx Ar471.1 (State.isArrayOf_alike hZ.alike Ar471.2.1) (g := (mkF m 176 #[vi p0, vi p1, vi p2, vi p3, vi p4, vi p5, vi 2, vr b101, vr b103, vr b105, vr b107, vr b292, vi 1, vi 1, vi 1, vr b466, vr b442] [(.ref b442)])) rfl rfl (hb hby at_176) tq (by rw [lq471]; exact (XS.iload X466.here hx rfl (hb hby at_177) rfl (XS.icmpYes X466.here hx rfl (pc0 := 179) (pc' := 184) rfl (hb hby at_179) rfl (teq (by decide : (2 : Int32) = (2 : Int32))).1 (by decide) (by decide) (XS.aload X466.here hx rfl (hb hby at_184) rfl rfl (XS.iconst X466.here hx rfl (hb hby at_186) (X466.aaload hx (j := (0 : Int32)) (v := (.ref y0466)) Ar472.1 (State.isArrayOf_alike hZ.alike Ar472.2.1) rfl Ar472.2.2 hin472 hat472 (g := (mkF m 187 #[vi p0, vi p1, vi p2, vi p3, vi p4, vi p5, vi 2, vr b101, vr b103, vr b105, vr b107, vr b292, vi 1, vi 1, vi 1, vr b466, vr b442] [(.int 0), (.ref b466)])) rfl rfl (hb hby at_187) tq (XS.aload X466.here hx rfl (hb hby at_188) rfl rfl (st474.trans (XS.ifNo X474.here hx rfl (hb hby at_193) rfl ((if0 _ _).trans (feq (by decide : ¬ ((1 : Int32) = (0 : Int32)))).1) (XS.aload X474.here hx rfl (hb hby at_196) rfl rfl (XS.iconst X474.here hx rfl (hb hby at_198) (X474.aaload hx (j := (0 : Int32)) (v := (.ref y0442)) (by rw [eh474]; exact Ar475.1) (State.isArrayOf_alike hZ.alike Ar475.2.1) rfl Ar475.2.2 hin475 hat475 (g := (mkF m 199 #[vi p0, vi p1, vi p2, vi p3, vi p4, vi p5, vi 2, vr b101, vr b103, vr b105, vr b107, vr b292, vi 1, vi 1, vi 1, vr b466, vr b442] [(.int 0), (.ref b442)])) rfl rfl (hb hby at_199) tq (XS.aload X474.here hx rfl (hb hby at_200) rfl rfl (st478.trans (XS.ifYes X478.here hx rfl (pc0 := 205) (pc' := 210) rfl (hb hby at_205) rfl ((if0 _ _).trans (feq (by decide : ¬ ((1 : Int32) = (0 : Int32)))).2) (by decide) (by decide) (XS.iload X478.here hx rfl (hb hby at_210) rfl (XS.iconst X478.here hx rfl (hb hby at_212) kq))))))))))))))))))))))))))) ?_
      obtain ⟨cl480, Ar480, -, -, hin480, hat480⟩ := V466.at (j := (1 : Int32)) (v := (.ref y1466)) (by decide) rfl
      have f481 := (f457.keep K466 all0)
      obtain ⟨cq482, kq482, q482a, q482b, q482c⟩ := isOf hZ eh478 Y1466.2.2.1
      obtain ⟨_, _, ⟨T482, L482, k482, n482⟩, -, X482, ⟨Lc482, hQ482, l482, y482, z482⟩, st482⟩ := X478.virtualBack hx (y := M0) (z := M0) hown (mvT hZ (ww hw 160 rfl)) (mvT hZ (ww hw 161 rfl)) (notFace_of_selects (args := #[]) (mvT hZ (ww hw 163 rfl))) (mvT hZ (ww hw 163 rfl)) (mvT hZ (ww hw 162 rfl)) (by decide) (backOf (W := 0) (rm29 l Z a0 hw [] T466.heap n0 O466 y1466 b103 nn466 nn cs103 z HP Y1466 f481 hl103) hZ (ww hw 164 rfl) (ww hw 10 rfl) (by decide) (by decide)) q482a q482c (g := (mkF m 222 #[vi p0, vi p1, vi p2, vi p3, vi p4, vi p5, vi 2, vr b101, vr b103, vr b105, vr b107, vr b292, vi 1, vi 1, vi 1, vr b466, vr b442] [(.ref b103), (.ref y1466)])) rfl (by rw [hml]; rfl) (Steps.refl _) (argsL := [(.ref b103)]) (rest := []) (lenOf pd_40 rfl) rfl (by show 2 * 0 + _ ≤ _; exact Nat.le_of_eq rfl) (hb hby at_222) (fun _ _ => ⟨rfl, eh478, (by decide : 50 + 0 ≤ _), (by decide : 32058 + 0 ≤ _)⟩)
      dsimp only [Pt.U, Pt.locs, Pt.cells, Pt.slots] at X482 l482 y482 z482 st482 hQ482
      subst l482 y482 z482
      obtain ⟨rfl, N482, eh482⟩ := hQ482
      have Nf482 := Fr.app Nf478 N482
      obtain ⟨cl483, Ar483, -, -, hin483, hat483⟩ := f470.at (j := (1 : Int32)) (v := (.ref y1442)) (by decide) rfl
      have f484 := (Y1442.keep K466 all0)
      have f485 := (f459.keep K466 all0)
      have f487 := (Y1442.2.2.1.keep K466)
      obtain ⟨cq486, kq486, q486a, q486b, q486c⟩ := isOf hZ eh482 f487
      obtain ⟨_, _, ⟨T486, L486, k486, n486⟩, -, X486, ⟨Lc486, hQ486, l486, y486, z486⟩, st486⟩ := X482.virtualBack hx (y := M0) (z := M0) hown (mvT hZ (ww hw 160 rfl)) (mvT hZ (ww hw 161 rfl)) (notFace_of_selects (args := #[]) (mvT hZ (ww hw 163 rfl))) (mvT hZ (ww hw 163 rfl)) (mvT hZ (ww hw 162 rfl)) (by decide) (backOf (W := 0) (rm29 l Z a0 hw [] T466.heap n0 O466 y1442 b107 nn442 nn cs107 z HP f484 f485 hl107) hZ (ww hw 164 rfl) (ww hw 10 rfl) (by decide) (by decide)) q486a q486c (g := (mkF m 234 #[vi p0, vi p1, vi p2, vi p3, vi p4, vi p5, vi 2, vr b101, vr b103, vr b105, vr b107, vr b292, vi 1, vi 1, vi 1, vr b466, vr b442] [(.ref b107), (.ref y1442)])) rfl (by rw [hml]; rfl) (Steps.refl _) (argsL := [(.ref b107)]) (rest := []) (lenOf pd_40 rfl) rfl (by show 2 * 0 + _ ≤ _; exact Nat.le_of_eq rfl) (hb hby at_234) (fun _ _ => ⟨rfl, eh482, (by decide : 50 + 0 ≤ _), (by decide : 32058 + 0 ≤ _)⟩)
      dsimp only [Pt.U, Pt.locs, Pt.cells, Pt.slots] at X486 l486 y486 z486 st486 hQ486
      subst l486 y486 z486
      obtain ⟨rfl, N486, eh486⟩ := hQ486
      have Nf486 := Fr.app Nf482 N486
      refine own_goH (S' := (T486.setTop (mkF m 245 #[vi p0, vi p1, vi p2, vi p3, vi p4, vi p5, vi 2, vr b101, vr b103, vr b105, vr b107, vr b292, vi 1, vi 1, vi 1, vr b466, vr b442] [(.int 1)]))) (fun tq kq => XS.icmpNo X478.here hx rfl (hb hby at_213) rfl (teq (by decide : (2 : Int32) = (2 : Int32))).2 (XS.aload X478.here hx rfl (hb hby at_216) rfl rfl (XS.iconst X478.here hx rfl (hb hby at_218) (X478.aaload hx (j := (1 : Int32)) (v := (.ref y1466)) (by rw [eh478]; exact Ar480.1) (State.isArrayOf_alike hZ.alike Ar480.2.1) rfl Ar480.2.2 hin480 hat480 (g := (mkF m 219 #[vi p0, vi p1, vi p2, vi p3, vi p4, vi p5, vi 2, vr b101, vr b103, vr b105, vr b107, vr b292, vi 1, vi 1, vi 1, vr b466, vr b442] [(.int 1), (.ref b466)])) rfl rfl (hb hby at_219) tq (XS.aload X478.here hx rfl (hb hby at_220) rfl rfl (st482.trans (XS.ifNo X482.here hx rfl (hb hby at_225) rfl ((if0 _ _).trans (feq (by decide : ¬ ((1 : Int32) = (0 : Int32)))).1) (XS.aload X482.here hx rfl (hb hby at_228) rfl rfl (XS.iconst X482.here hx rfl (hb hby at_230) (X482.aaload hx (j := (1 : Int32)) (v := (.ref y1442)) (by rw [eh482]; exact Ar483.1) (State.isArrayOf_alike hZ.alike Ar483.2.1) rfl Ar483.2.2 hin483 hat483 (g := (mkF m 231 #[vi p0, vi p1, vi p2, vi p3, vi p4, vi p5, vi 2, vr b101, vr b103, vr b105, vr b107, vr b292, vi 1, vi 1, vi 1, vr b466, vr b442] [(.int 1), (.ref b442)])) rfl rfl (hb hby at_231) tq (XS.aload X482.here hx rfl (hb hby at_232) rfl rfl (st486.trans (XS.ifNo X486.here hx rfl (hb hby at_237) rfl ((if0 _ _).trans (feq (by decide : ¬ ((1 : Int32) = (0 : Int32)))).1) (XS.iconst X486.here hx rfl (hb hby at_240) (XS.goto X486.here hx rfl (pc0 := 241) (pc' := 245) rfl (hb hby at_241) (by decide) (by decide) kq))))))))))))))) ?_
      refine own_retNH X486 hSn466 (by rw [eh486]; exact (Nat.le_refl _)) hZ hEL hh (by rw [eh486]; exact Ccr467) hx hlk hret (by simp) (hb hby at_245) (by decide) (by decide) ?_
      exact ⟨rfl, Nf486⟩
theorem comes_1 {Post : Tables → Env → Array Value → State → Outcome → State → Prop} (hpost : ∀ tb e args s v u, (limb_1_1.after args s (.returned v) u = true ∧ limb_1_2.after args s (.returned v) u = true ∧ True) → FramedW s (.returned v) u (Jvm.fieldLocs frame_1_writes args s ++ Jvm.arrayLocs frame_1_arrays args s ++ Jvm.staticLocs frame_1_statics s) 112 38144 → Post tb e args s (.returned v) u) :
    ArmFor flags0 classFile x code maxLocals ret World_1 tables_1 room_1 Calls_1 rest_1 Pre_1 Post := by
  intro l hfl _ _ p e ha hc hk s m args below hf hA hF happ hP
  obtain ⟨hcalls, hrest, hpre⟩ := hP
  obtain ⟨-, -, -, hnamed, -, -, -, hat⟩ := (Spec.applies_iff hf).mp happ
  obtain ⟨hg, hn⟩ := and_e (Cond.before_iff.mp (show (Jvm.Cond.and given_1 narrow_1).before args s = true from hpre))
  obtain ⟨hcount, hg0⟩ := and_e hg
  obtain ⟨ga0, hg1⟩ := and_e hg0
  obtain ⟨ga1, hg2⟩ := and_e hg1
  obtain ⟨ga2, hg3⟩ := and_e hg2
  obtain ⟨ga3, hg4⟩ := and_e hg3
  obtain ⟨ga4, hg5⟩ := and_e hg4
  have ga5 := hg5
  obtain ⟨w0, w1, w2, w3, w4, w5, rfl⟩ : ∃ w0 w1 w2 w3 w4 w5 : Value, args = #[w0, w1, w2, w3, w4, w5] := by
    have hs : args.size = 6 := by simpa [Cond.value, given_1] using hcount
    obtain ⟨L⟩ := args
    match L, hs with
    | [w0, w1, w2, w3, w4, w5], _ => exact ⟨w0, w1, w2, w3, w4, w5, rfl⟩
  have hw := fun d (hd : d ∈ tables_1) => atoms_spec (ws := Jvm.Cond.code x code maxLocals ret :: tables_1) hat d (List.mem_cons_of_mem _ hd)
  have hfit : Fit s := fun {y c} hc i hi => by
    obtain ⟨ha, rfl⟩ := Array.getElem?_eq_some_iff.mp hc
    have q := List.all_eq_true.mp ((Array.all_eq_true_iff_forall_mem.mp hF) _ (Array.getElem_mem ha)) i (List.mem_range.mpr hi)
    simpa [Array.getElem?_eq_getElem hi] using q
  obtain ⟨hsets, hown0⟩ := atoms_of _ (rest_1_c_eq ▸ (show rest_1_c.before _ s = true from hrest))
  have hr0 := Cond.before_iff.mp hown0
  obtain ⟨i0, ei0⟩ := is_v ga0
  obtain rfl : w0 = (.int i0) := Option.some.inj ei0
  obtain ⟨i1, ei1⟩ := is_v ga1
  obtain rfl : w1 = (.int i1) := Option.some.inj ei1
  obtain ⟨i2, ei2⟩ := is_v ga2
  obtain rfl : w2 = (.int i2) := Option.some.inj ei2
  obtain ⟨i3, ei3⟩ := is_v ga3
  obtain rfl : w3 = (.int i3) := Option.some.inj ei3
  obtain ⟨i4, ei4⟩ := is_v ga4
  obtain rfl : w4 = (.int i4) := Option.some.inj ei4
  obtain ⟨i5, ei5⟩ := is_v ga5
  obtain rfl : w5 = (.int i5) := Option.some.inj ei5
  obtain ⟨z, ez⟩ := is_v (Cond.before_iff.mp (hsets _ (List.mem_of_getElem? (i := 1) rfl)))
  have SC := Sta.start ez (Or.inl (hsets _ (List.mem_of_getElem? (i := 0) rfl)))
  have hz := own_nz ez (Cond.before_iff.mp (hsets _ (List.mem_of_getElem? (i := 2) rfl)))
  obtain ⟨fm, efm, hfm⟩ := isR_v (Cond.before_iff.mp (hsets _ (List.mem_of_getElem? (i := 8) rfl)))
  have SF := Sta.start efm (Or.inl (hsets _ (List.mem_of_getElem? (i := 7) rfl)))
  obtain ⟨u, ei⟩ := exa_v (Cond.before_iff.mp (hsets _ (List.mem_of_getElem? (i := 17) rfl)))
  have SI := Sta.start ei (Or.inl (hsets _ (List.mem_of_getElem? (i := 16) rfl)))
  have EU := Exa.start ei (Cond.before_iff.mp (hsets _ (List.mem_of_getElem? (i := 17) rfl)))
  have eu := own_eqR (Cond.before_iff.mp (hsets _ (List.mem_of_getElem? (i := 13) rfl))) ei
  have SU := Sta.start eu (Or.inl (hsets _ (List.mem_of_getElem? (i := 10) rfl)))
  have SA := Sta.start (own_eqI (Cond.before_iff.mp (hsets _ (List.mem_of_getElem? (i := 21) rfl)))) (Or.inl (hsets _ (List.mem_of_getElem? (i := 20) rfl)))
  have SH := Sta.start (own_eqI (Cond.before_iff.mp (hsets _ (List.mem_of_getElem? (i := 24) rfl)))) (Or.inl (hsets _ (List.mem_of_getElem? (i := 23) rfl)))
  have SL := Sta.start (own_eqI (Cond.before_iff.mp (hsets _ (List.mem_of_getElem? (i := 27) rfl)))) (Or.inl (hsets _ (List.mem_of_getElem? (i := 26) rfl)))
  have HP : own_PK s z := ⟨SC, hz, SA, SH, SL⟩
  have HU : own_UK s u := ⟨SI, SU, EU⟩
  have HF : own_FK s fm := ⟨SF, hfm⟩
  have hcw : Jvm.Lit.compactW.before _ s = true := (hsets _ (List.mem_of_getElem? (i := 2) rfl))
  have hEL : EW s _ own_EL := EW.cons (ww hw 37 rfl) (by decide) (EW.cons (ww hw 159 rfl) (by decide) EW.nil)
  have hCH : CHv s own_EL s.vm s.heap := CHv.start hEL (fun p hp => hcalls.1 p (show p ∈ consts_1 from hp)) hcw (ww hw 26 rfl) (ww hw 9 rfl)
  obtain ⟨n, o, h1, h2, h3, _, L, rfl, ⟨rfl, N⟩, -, hq⟩ := rm0 l s _ hw tables_1 s.heap s.heap.size (Old.start s) i0 i1 i2 i3 i4 i5 z u fm hEL HP HU HF p e ha hc hk s m _ below hf ((Spec.applies_iff_loose hf).mp happ).1 ⟨rfl, State.Warmed39.refl s, rfl, hCH⟩ trivial
  refine ⟨n, _, h1, h2, h3, hpost _ _ _ _ _ _ ⟨Cond.after_iff.mpr rfl, Cond.after_iff.mpr (eq_i res_at (Term.int_eval (1)) rfl), trivial⟩ ⟨hq.1, hq.2.1, hq.2.2.1, (hq.2.2.2.sift fun y hy => Or.inr (N y hy)).mono (by decide) (by decide)⟩⟩
theorem main_1_1 : Claimed_1_1 := comes_1 fun _ _ _ _ _ _ h hF => ⟨h.1, hF⟩
theorem main_1_2 : Claimed_1_2 := comes_1 fun _ _ _ _ _ _ h hF => ⟨h.2.1, hF⟩
end Jvm.Pilot.@@N@@
namespace Jvm.Pilot.@@N@@
open Jvm Jvm.ClassFile Sem Op Lib Jvm.Free Jvm.Stand Jvm.Pilot.@@N@@.Jvm.D
/-! MADE BY PROGRAM (witnessworld.py) out of the Statement's table words and the real class files: 33 classes; the members and pool entries that the words name. The judged class is class 1, her method 3. -/
namespace start1
open Jvm.ClassFile
def u (s : String) : CpInfo := .utf8 (stringToUtf16 s)
/-- a pool by its gaps: so many unusable entries, then the entry; so many at the end -/
def gap : Nat → List CpInfo → List CpInfo
  | 0, r => r
  | n + 1, r => .unusable :: gap n r
def poolList (es : List (Nat × CpInfo)) (last : Nat) : List CpInfo := es.foldr (fun e r => gap e.1 (e.2 :: r)) (gap last [])
def pool (es : List (Nat × CpInfo)) (last : Nat) : Array CpInfo := ⟨poolList es last⟩
def fileOf (pool : Array CpInfo) (this : Nat) (attrs : Array Attribute := #[]) (ms : Array MethodInfo := #[]) (fl : Nat := 33) (sup : Nat := 0) (ifs : Array Nat := #[]) (fds : Array FieldInfo := #[]) : ClassFile where
  minorVersion := 0
  majorVersion := 65
  constantPool := pool
  accessFlags := fl
  thisClass := this
  superClass := sup
  interfaces := ifs
  fields := fds
  methods := ms
  attributes := attrs
def plain (name : String) (sup : Option ClassId) : Class where
  name := name
  kind := .ordinary
  loader := none
  accessFlags := 33
  super := sup
  interfaces := #[]
  cf := none
  fields := #[]
  methods := #[]
  instanceTypes := #[]
  staticTypes := #[]
  resolved := #[]
  callSites := []
  init := .initialized
  statics := none
  mirror := none

def pool0 : Array CpInfo := pool [(5, u "<init>"), (0, u "()V"), (1, .class_ 10), (1, u "java/lang/Object"), (85, u "clone"), (0, u "()Ljava/lang/Object;")] 26

def k0c0 : Code := { maxStack := 0, maxLocals := 1, code := object_method_1_code, exceptionTable := #[], attributes := #[] }
def k0m0 : Method := { name := "<init>", desc := "()V", sig := { parameters := [], returnType := none }, accessFlags := 1, code := some k0c0 }
def k0m1 : Method := { name := "clone", desc := "()Ljava/lang/Object;", sig := { parameters := [], returnType := some (.object "java/lang/Object") }, accessFlags := 260, code := none }
/-- java/lang/Object -/
def k0 : Class := { plain "java/lang/Object" none with
  accessFlags := 33
  interfaces := #[]
  cf := some (fileOf pool0 8 #[] #[{ accessFlags := 1, nameIndex := 5, descriptorIndex := 6, attributes := #[] }, { accessFlags := 260, nameIndex := 96, descriptorIndex := 97, attributes := #[] }] 33 0 #[] #[])
  fields := #[]
  methods := #[k0m0, k0m1]
  instanceTypes := #[]
  staticTypes := #[]
  resolved := Array.replicate 124 none
  statics := none }

def pool1 : Array CpInfo := pool [(2, .class_ 4), (1, u "java/lang/Object"), (0, u "<init>"), (0, u "()V"), (0, .methodref 8 9), (0, .class_ 10), (0, .nameAndType 11 12), (0, u "com/example/vestwright/vestwright/cli/TableRowsCellsPinLaw"), (0, u "ch"), (0, u "(I)C"), (0, .string 14), (0, u ""), (0, .class_ 16), (0, u "java/lang/String"), (0, .methodref 15 18), (0, .nameAndType 5 19), (0, u "([C)V"), (0, .methodref 8 21), (0, .nameAndType 22 23), (0, u "pick"), (0, u "(II)Ljava/lang/String;"), (0, .class_ 25), (0, u "com/example/vestwright/vestwright/cli/TableRows"), (0, .methodref 24 27), (0, .nameAndType 5 28), (0, u "(I)V"), (0, .methodref 24 30), (0, .nameAndType 31 32), (0, u "add"), (0, u "([Ljava/lang/String;I)Z"), (0, .methodref 24 34), (0, .nameAndType 35 36), (0, u "cells"), (0, u "(I)[Ljava/lang/String;"), (0, .methodref 15 38), (0, .nameAndType 39 40), (0, u "equals"), (0, u "(Ljava/lang/Object;)Z"), (3, u "law"), (0, u "(IIIIII)Z")] 4

def k1m0 : Method := { name := "<init>", desc := "()V", sig := { parameters := [], returnType := none }, accessFlags := 2, code := none }
def k1c1 : Code := { maxStack := 2, maxLocals := 1, code := method_2_code, exceptionTable := #[], attributes := #[] }
def k1m1 : Method := { name := "ch", desc := "(I)C", sig := { parameters := [.int], returnType := some .char }, accessFlags := 10, code := some k1c1 }
def k1c2 : Code := { maxStack := 6, maxLocals := 6, code := method_3_code, exceptionTable := #[], attributes := #[] }
def k1m2 : Method := { name := "pick", desc := "(II)Ljava/lang/String;", sig := { parameters := [.int, .int], returnType := some (.object "java/lang/String") }, accessFlags := 10, code := some k1c2 }
def k1c3 : Code := { maxStack := 5, maxLocals := 17, code := code, exceptionTable := #[], attributes := #[] }
def k1m3 : Method := { name := "law", desc := "(IIIIII)Z", sig := { parameters := [.int, .int, .int, .int, .int, .int], returnType := some .boolean }, accessFlags := 9, code := some k1c3 }
/-- com/example/vestwright/vestwright/cli/TableRowsCellsPinLaw -/
def k1 : Class := { plain "com/example/vestwright/vestwright/cli/TableRowsCellsPinLaw" (some 0) with
  accessFlags := 49
  interfaces := #[]
  cf := some (fileOf pool1 8 #[] #[{ accessFlags := 2, nameIndex := 5, descriptorIndex := 6, attributes := #[] }, { accessFlags := 10, nameIndex := 11, descriptorIndex := 12, attributes := #[] }, { accessFlags := 10, nameIndex := 22, descriptorIndex := 23, attributes := #[] }, { accessFlags := 9, nameIndex := 44, descriptorIndex := 45, attributes := #[] }] 49 2 #[] #[])
  fields := #[]
  methods := #[k1m0, k1m1, k1m2, k1m3]
  instanceTypes := #[]
  staticTypes := #[]
  resolved := Array.replicate 50 none
  statics := none }

def pool2 : Array CpInfo := pool [(1, .class_ 2), (0, u "java/io/Serializable"), (0, .class_ 4), (0, u "java/lang/Object")] 2

/-- java/io/Serializable -/
def k2 : Class := { plain "java/io/Serializable" (some 0) with
  accessFlags := 1537
  interfaces := #[]
  cf := some (fileOf pool2 1 #[] #[] 1537 3 #[] #[])
  fields := #[]
  methods := #[]
  instanceTypes := #[]
  staticTypes := #[]
  resolved := Array.replicate 7 none
  statics := none }

def pool3 : Array CpInfo := pool [(1, .class_ 2), (0, u "java/lang/Comparable"), (0, .class_ 4), (0, u "java/lang/Object")] 7

/-- java/lang/Comparable -/
def k3 : Class := { plain "java/lang/Comparable" (some 0) with
  accessFlags := 1537
  interfaces := #[]
  cf := some (fileOf pool3 1 #[] #[] 1537 3 #[] #[])
  fields := #[]
  methods := #[]
  instanceTypes := #[]
  staticTypes := #[]
  resolved := Array.replicate 12 none
  statics := none }

def pool4 : Array CpInfo := pool [(2, .class_ 4), (1, u "java/lang/CharSequence"), (42, .class_ 48), (0, u "java/lang/CharSequence$1CodePointIterator"), (10, .class_ 60), (0, u "java/lang/CharSequence$1CharIterator"), (5, .class_ 67), (0, u "java/lang/Object")] 63

/-- java/lang/CharSequence -/
def k4 : Class := { plain "java/lang/CharSequence" (some 0) with
  accessFlags := 1537
  interfaces := #[]
  cf := some (fileOf pool4 2 #[.nestMembers #[47, 59]] #[] 1537 66 #[] #[])
  fields := #[]
  methods := #[]
  instanceTypes := #[]
  staticTypes := #[]
  resolved := Array.replicate 131 none
  statics := none }

def pool5 : Array CpInfo := pool [(1, .class_ 2), (0, u "java/lang/constant/Constable"), (0, .class_ 4), (0, u "java/lang/Object")] 6

/-- java/lang/constant/Constable -/
def k5 : Class := { plain "java/lang/constant/Constable" (some 0) with
  accessFlags := 1537
  interfaces := #[]
  cf := some (fileOf pool5 1 #[] #[] 1537 3 #[] #[])
  fields := #[]
  methods := #[]
  instanceTypes := #[]
  staticTypes := #[]
  resolved := Array.replicate 11 none
  statics := none }

def pool6 : Array CpInfo := pool [(1, .class_ 2), (0, u "java/lang/constant/ConstantDesc"), (0, .class_ 4), (0, u "java/lang/Object")] 32

/-- java/lang/constant/ConstantDesc -/
def k6 : Class := { plain "java/lang/constant/ConstantDesc" (some 0) with
  accessFlags := 1537
  interfaces := #[]
  cf := some (fileOf pool6 1 #[] #[] 1537 3 #[] #[])
  fields := #[]
  methods := #[]
  instanceTypes := #[]
  staticTypes := #[]
  resolved := Array.replicate 37 none
  statics := none }

def pool7 : Array CpInfo := pool [(1, .methodref 2 3), (0, .class_ 4), (0, .nameAndType 5 6), (0, u "java/lang/Object"), (0, u "<init>"), (0, u "()V"), (0, .string 8), (0, u ""), (0, .fieldref 10 11), (0, .class_ 12), (0, .nameAndType 13 14), (0, u "java/lang/String"), (0, u "value"), (0, u "[B"), (0, .fieldref 10 16), (0, .nameAndType 17 18), (0, u "coder"), (0, u "B"), (2, u "hash"), (0, u "I"), (2, u "hashIsZero"), (0, u "Z"), (0, .methodref 10 28), (0, .nameAndType 5 29), (0, u "([CIILjava/lang/Void;)V"), (4, .methodref 10 35), (0, .nameAndType 36 37), (0, u "checkBoundsOffCount"), (0, u "(III)I"), (0, .fieldref 10 39), (0, .nameAndType 40 26), (0, u "COMPACT_STRINGS"), (1, .class_ 44), (1, u "java/lang/StringUTF16"), (0, u "compress"), (1, .methodref 42 48), (0, .nameAndType 49 50), (0, u "coderFromArrayLen"), (0, u "([BI)B"), (3, .methodref 55 56), (0, .class_ 57), (0, .nameAndType 58 59), (0, u "java/util/Arrays"), (0, u "copyOfRange"), (0, u "([BII)[B"), (0, .methodref 42 61), (0, .nameAndType 62 63), (0, u "newBytesFor"), (0, u "(I)[B"), (0, .methodref 42 65), (0, .nameAndType 66 67), (0, u "putChar"), (0, u "([BII)V"), (7, .methodref 10 76), (0, .nameAndType 5 77), (0, u "(Ljava/nio/charset/Charset;[BII)V"), (0, .methodref 79 80), (0, .class_ 81), (0, .nameAndType 82 83), (0, u "java/util/Objects"), (0, u "requireNonNull"), (0, u "(Ljava/lang/Object;)Ljava/lang/Object;"), (0, .class_ 85), (0, u "java/nio/charset/Charset"), (0, .fieldref 87 88), (0, .class_ 89), (0, .nameAndType 90 91), (0, u "sun/nio/cs/UTF_8"), (0, u "INSTANCE"), (0, u "Lsun/nio/cs/UTF_8;"), (0, .methodref 93 94), (0, .class_ 95), (0, .nameAndType 96 97), (0, u "java/lang/StringCoding"), (0, u "countPositives"), (0, u "([BII)I"), (0, .methodref 10 99), (0, .nameAndType 100 101), (0, u "decode2"), (0, u "(II)C"), (0, .methodref 55 103), (0, .nameAndType 104 105), (0, u "copyOf"), (0, u "([BI)[B"), (0, .methodref 107 108), (0, .class_ 109), (0, .nameAndType 110 111), (0, u "java/lang/StringLatin1"), (0, u "inflate"), (0, u "([BI[BII)V"), (0, .methodref 10 113), (0, .nameAndType 114 115), (0, u "decodeUTF8_UTF16"), (0, u "([BII[BIZ)I"), (12, .methodref 93 129), (0, .nameAndType 130 131), (0, u "hasNegatives"), (0, u "([BII)Z"), (45, .methodref 42 178), (0, .nameAndType 45 179), (0, u "([CII)[B"), (58, u "([BIILjava/nio/charset/Charset;)V"), (13, .methodref 10 253), (0, .nameAndType 254 255), (0, u "encodeUTF8"), (0, u "(B[BZ)[B"), (23, .methodref 280 281), (0, .class_ 14), (0, .nameAndType 282 283), (0, u "clone"), (0, u "()Ljava/lang/Object;"), (33, u "encode"), (17, .methodref 10 336), (0, .nameAndType 17 337), (0, u "()B"), (22, .methodref 42 361), (0, .nameAndType 362 363), (0, u "getChar"), (0, u "([BI)C"), (1, .class_ 367), (1, u "java/lang/Character"), (1, u "(C)Z"), (13, .integer 4294844288), (1, .methodref 10 386), (0, .nameAndType 387 388), (0, u "isNotContinuation"), (0, u "(I)Z"), (3, .methodref 10 393), (0, .nameAndType 394 395), (0, u "isMalformed3"), (0, u "(III)Z"), (4, .methodref 10 401), (0, .nameAndType 402 403), (0, u "decode3"), (0, u "(III)C"), (0, .methodref 365 405), (0, .nameAndType 406 369), (0, u "isSurrogate"), (66, .methodref 10 474), (0, .nameAndType 475 476), (0, u "encodeUTF8_UTF16"), (0, u "([BZ)[B"), (55, u "getBytes"), (2, .methodref 10 536), (0, .nameAndType 317 537), (0, u "(Ljava/nio/charset/Charset;B[B)[B"), (3, .methodref 107 542), (0, .nameAndType 543 544), (0, u "equals"), (0, u "([B[B)Z"), (28, u "(Ljava/lang/Object;)Z"), (1, .class_ 576), (0, u "java/lang/CharSequence"), (22, u "CASE_INSENSITIVE_ORDER"), (0, u "Ljava/util/Comparator;"), (409, u "([C)V"), (42, .fieldref 1054 1055), (0, .class_ 1056), (0, .nameAndType 1057 1058), (0, u "jdk/internal/util/Preconditions"), (0, u "SIOOBE_FORMATTER"), (0, u "Ljava/util/function/BiFunction;"), (5, u "(IIILjava/util/function/BiFunction;)I"), (0, .methodref 1054 1066), (0, .nameAndType 1067 1064), (0, u "checkFromIndexSize"), (33, u "serialPersistentFields"), (0, u "[Ljava/io/ObjectStreamField;"), (0, .class_ 1104), (0, u "java/lang/String$CaseInsensitiveComparator"), (1, .class_ 1107), (0, u "java/io/Serializable"), (0, .class_ 1109), (0, u "java/lang/Comparable"), (0, .class_ 1111), (0, u "java/lang/constant/Constable"), (0, .class_ 1113), (0, u "java/lang/constant/ConstantDesc"), (2, u "serialVersionUID"), (0, u "J"), (3, u "REPL"), (0, u "C"), (2, u "LATIN1"), (1, u "UTF16"), (117, u "(Ljava/nio/charset/Charset;)[B")] 205

def k7m0 : Method := { name := "<init>", desc := "()V", sig := { parameters := [], returnType := none }, accessFlags := 1, code := none }
def k7c1 : Code := { maxStack := 5, maxLocals := 2, code := jdk_42_method_3_code, exceptionTable := #[], attributes := #[] }
def k7m1 : Method := { name := "<init>", desc := "([C)V", sig := { parameters := [(.array .char)], returnType := none }, accessFlags := 1, code := some k7c1 }
def k7c2 : Code := { maxStack := 6, maxLocals := 5, code := jdk_42_method_10_code, exceptionTable := #[], attributes := #[] }
def k7m2 : Method := { name := "<init>", desc := "([BIILjava/nio/charset/Charset;)V", sig := { parameters := [(.array .byte), .int, .int, (.object "java/nio/charset/Charset")], returnType := none }, accessFlags := 1, code := some k7c2 }
def k7c3 : Code := { maxStack := 6, maxLocals := 11, code := jdk_42_method_11_code, exceptionTable := #[{ startPc := 800, endPc := 813, handlerPc := 816, catchType := 202 }], attributes := #[] }
def k7m3 : Method := { name := "<init>", desc := "(Ljava/nio/charset/Charset;[BII)V", sig := { parameters := [(.object "java/nio/charset/Charset"), (.array .byte), .int, .int], returnType := none }, accessFlags := 2, code := some k7c3 }
def k7c4 : Code := { maxStack := 4, maxLocals := 3, code := jdk_42_method_18_code, exceptionTable := #[], attributes := #[] }
def k7m4 : Method := { name := "encode", desc := "(Ljava/nio/charset/Charset;B[B)[B", sig := { parameters := [(.object "java/nio/charset/Charset"), .byte, (.array .byte)], returnType := some (.array .byte) }, accessFlags := 10, code := some k7c4 }
def k7c5 : Code := { maxStack := 2, maxLocals := 1, code := jdk_42_method_29_code, exceptionTable := #[], attributes := #[] }
def k7m5 : Method := { name := "isNotContinuation", desc := "(I)Z", sig := { parameters := [.int], returnType := some .boolean }, accessFlags := 10, code := some k7c5 }
def k7c6 : Code := { maxStack := 2, maxLocals := 3, code := jdk_42_method_30_code, exceptionTable := #[], attributes := #[] }
def k7m6 : Method := { name := "isMalformed3", desc := "(III)Z", sig := { parameters := [.int, .int, .int], returnType := some .boolean }, accessFlags := 10, code := some k7c6 }
def k7c7 : Code := { maxStack := 2, maxLocals := 2, code := jdk_42_method_35_code, exceptionTable := #[], attributes := #[] }
def k7m7 : Method := { name := "decode2", desc := "(II)C", sig := { parameters := [.int, .int], returnType := some .char }, accessFlags := 10, code := some k7c7 }
def k7c8 : Code := { maxStack := 3, maxLocals := 3, code := jdk_42_method_36_code, exceptionTable := #[], attributes := #[] }
def k7m8 : Method := { name := "decode3", desc := "(III)C", sig := { parameters := [.int, .int, .int], returnType := some .char }, accessFlags := 10, code := some k7c8 }
def k7c9 : Code := { maxStack := 4, maxLocals := 11, code := jdk_42_method_38_code, exceptionTable := #[], attributes := #[] }
def k7m9 : Method := { name := "decodeUTF8_UTF16", desc := "([BII[BIZ)I", sig := { parameters := [(.array .byte), .int, .int, (.array .byte), .int, .boolean], returnType := some .int }, accessFlags := 10, code := some k7c9 }
def k7c10 : Code := { maxStack := 5, maxLocals := 9, code := jdk_42_method_46_code, exceptionTable := #[], attributes := #[] }
def k7m10 : Method := { name := "encodeUTF8", desc := "(B[BZ)[B", sig := { parameters := [.byte, (.array .byte), .boolean], returnType := some (.array .byte) }, accessFlags := 10, code := some k7c10 }
def k7c11 : Code := { maxStack := 5, maxLocals := 9, code := jdk_42_method_47_code, exceptionTable := #[], attributes := #[] }
def k7m11 : Method := { name := "encodeUTF8_UTF16", desc := "([BZ)[B", sig := { parameters := [(.array .byte), .boolean], returnType := some (.array .byte) }, accessFlags := 10, code := some k7c11 }
def k7c12 : Code := { maxStack := 3, maxLocals := 2, code := jdk_42_method_64_code, exceptionTable := #[], attributes := #[] }
def k7m12 : Method := { name := "getBytes", desc := "(Ljava/nio/charset/Charset;)[B", sig := { parameters := [(.object "java/nio/charset/Charset")], returnType := some (.array .byte) }, accessFlags := 1, code := some k7c12 }
def k7c13 : Code := { maxStack := 2, maxLocals := 3, code := jdk_42_method_66_code, exceptionTable := #[], attributes := #[] }
def k7m13 : Method := { name := "equals", desc := "(Ljava/lang/Object;)Z", sig := { parameters := [(.object "java/lang/Object")], returnType := some .boolean }, accessFlags := 1, code := some k7c13 }
def k7c14 : Code := { maxStack := 4, maxLocals := 6, code := jdk_42_method_149_code, exceptionTable := #[], attributes := #[] }
def k7m14 : Method := { name := "<init>", desc := "([CIILjava/lang/Void;)V", sig := { parameters := [(.array .char), .int, .int, (.object "java/lang/Void")], returnType := none }, accessFlags := 2, code := some k7c14 }
def k7c15 : Code := { maxStack := 1, maxLocals := 1, code := jdk_42_method_152_code, exceptionTable := #[], attributes := #[] }
def k7m15 : Method := { name := "coder", desc := "()B", sig := { parameters := [], returnType := some .byte }, accessFlags := 0, code := some k7c15 }
def k7c16 : Code := { maxStack := 4, maxLocals := 3, code := jdk_42_method_157_code, exceptionTable := #[], attributes := #[] }
def k7m16 : Method := { name := "checkBoundsOffCount", desc := "(III)I", sig := { parameters := [.int, .int, .int], returnType := some .int }, accessFlags := 8, code := some k7c16 }
/-- java/lang/String -/
def k7 : Class := { plain "java/lang/String" (some 0) with
  accessFlags := 49
  interfaces := #[2, 3, 4, 5, 6]
  cf := some (fileOf pool7 10 #[.nestMembers #[1103]] #[{ accessFlags := 1, nameIndex := 5, descriptorIndex := 6, attributes := #[] }, { accessFlags := 1, nameIndex := 5, descriptorIndex := 1010, attributes := #[] }, { accessFlags := 1, nameIndex := 5, descriptorIndex := 238, attributes := #[] }, { accessFlags := 2, nameIndex := 5, descriptorIndex := 77, attributes := #[] }, { accessFlags := 10, nameIndex := 317, descriptorIndex := 537, attributes := #[] }, { accessFlags := 10, nameIndex := 387, descriptorIndex := 388, attributes := #[] }, { accessFlags := 10, nameIndex := 394, descriptorIndex := 395, attributes := #[] }, { accessFlags := 10, nameIndex := 100, descriptorIndex := 101, attributes := #[] }, { accessFlags := 10, nameIndex := 402, descriptorIndex := 403, attributes := #[] }, { accessFlags := 10, nameIndex := 114, descriptorIndex := 115, attributes := #[] }, { accessFlags := 10, nameIndex := 254, descriptorIndex := 255, attributes := #[] }, { accessFlags := 10, nameIndex := 475, descriptorIndex := 476, attributes := #[] }, { accessFlags := 1, nameIndex := 532, descriptorIndex := 1245, attributes := #[] }, { accessFlags := 1, nameIndex := 543, descriptorIndex := 573, attributes := #[] }, { accessFlags := 2, nameIndex := 5, descriptorIndex := 29, attributes := #[] }, { accessFlags := 0, nameIndex := 17, descriptorIndex := 337, attributes := #[] }, { accessFlags := 8, nameIndex := 36, descriptorIndex := 37, attributes := #[] }] 49 2 #[1106, 1108, 575, 1110, 1112] #[{ accessFlags := 18, nameIndex := 13, descriptorIndex := 14, attributes := #[] }, { accessFlags := 18, nameIndex := 17, descriptorIndex := 18, attributes := #[] }, { accessFlags := 2, nameIndex := 21, descriptorIndex := 22, attributes := #[] }, { accessFlags := 2, nameIndex := 25, descriptorIndex := 26, attributes := #[] }, { accessFlags := 26, nameIndex := 1116, descriptorIndex := 1117, attributes := #[] }, { accessFlags := 24, nameIndex := 40, descriptorIndex := 26, attributes := #[] }, { accessFlags := 26, nameIndex := 1101, descriptorIndex := 1102, attributes := #[] }, { accessFlags := 26, nameIndex := 1121, descriptorIndex := 1122, attributes := #[] }, { accessFlags := 25, nameIndex := 599, descriptorIndex := 600, attributes := #[] }, { accessFlags := 24, nameIndex := 1125, descriptorIndex := 18, attributes := #[] }, { accessFlags := 24, nameIndex := 1127, descriptorIndex := 18, attributes := #[] }])
  fields := #[{ name := "value", type := (.array .byte), accessFlags := 18, slot := 0, constantValue := 0 }, { name := "coder", type := .byte, accessFlags := 18, slot := 1, constantValue := 0 }, { name := "hash", type := .int, accessFlags := 2, slot := 2, constantValue := 0 }, { name := "hashIsZero", type := .boolean, accessFlags := 2, slot := 3, constantValue := 0 }, { name := "serialVersionUID", type := .long, accessFlags := 26, slot := 0, constantValue := 0 }, { name := "COMPACT_STRINGS", type := .boolean, accessFlags := 24, slot := 1, constantValue := 0 }, { name := "serialPersistentFields", type := (.array (.object "java/io/ObjectStreamField")), accessFlags := 26, slot := 2, constantValue := 0 }, { name := "REPL", type := .char, accessFlags := 26, slot := 3, constantValue := 0 }, { name := "CASE_INSENSITIVE_ORDER", type := (.object "java/util/Comparator"), accessFlags := 25, slot := 4, constantValue := 0 }, { name := "LATIN1", type := .byte, accessFlags := 24, slot := 5, constantValue := 0 }, { name := "UTF16", type := .byte, accessFlags := 24, slot := 6, constantValue := 0 }]
  methods := #[k7m0, k7m1, k7m2, k7m3, k7m4, k7m5, k7m6, k7m7, k7m8, k7m9, k7m10, k7m11, k7m12, k7m13, k7m14, k7m15, k7m16]
  instanceTypes := #[(.array .byte), .byte, .int, .boolean]
  staticTypes := #[.long, .boolean, (.array (.object "java/io/ObjectStreamField")), .char, (.object "java/util/Comparator"), .byte, .byte]
  resolved := Array.replicate 1451 none
  statics := some 0 }

def pool8 : Array CpInfo := pool [(3, .class_ 4), (0, u "java/lang/String"), (1, .class_ 8), (1, u "java/lang/Object"), (0, u "<init>"), (0, u "()V"), (0, .methodref 12 13), (0, .class_ 14), (0, .nameAndType 15 16), (0, u "java/lang/StringUTF16"), (0, u "newBytesLength"), (0, u "(I)I"), (3, .integer 1073741823), (23, .fieldref 12 45), (0, .nameAndType 46 47), (0, u "$assertionsDisabled"), (0, u "Z"), (0, .methodref 12 49), (0, .nameAndType 50 51), (0, u "length"), (0, u "([B)I"), (7, .fieldref 12 60), (0, .nameAndType 61 62), (0, u "HI_BYTE_SHIFT"), (0, u "I"), (0, .fieldref 12 64), (0, .nameAndType 65 62), (0, u "LO_BYTE_SHIFT"), (5, .methodref 12 72), (0, .nameAndType 73 74), (0, u "getChar"), (0, u "([BI)C"), (24, u "(II[B)V"), (7, .methodref 12 108), (0, .nameAndType 109 110), (0, u "newBytesFor"), (0, u "(I)[B"), (0, .methodref 12 112), (0, .nameAndType 113 114), (0, u "putChar"), (0, u "([BII)V"), (0, .methodref 12 116), (0, .nameAndType 117 118), (0, u "compress"), (0, u "([CI[BII)I"), (0, .methodref 12 120), (0, .nameAndType 121 122), (0, u "toBytes"), (0, u "([CII)[B"), (17, u "inflate"), (0, u "([BI[BII)V"), (31, .methodref 12 174), (0, .nameAndType 175 99), (0, u "checkBoundsOffCount"), (85, u "coderFromArrayLen"), (0, u "([BI)B"), (18, u "(III)I"), (87, .class_ 371), (1, u "java/lang/StringUTF16$LinesSpliterator"), (47, .methodref 3 420), (0, .nameAndType 175 281), (9, u "MAX_LENGTH"), (196, .class_ 628), (0, u "java/lang/StringUTF16$CodePointsSpliterator"), (0, .class_ 630), (0, u "java/lang/StringUTF16$CharsSpliterator")] 4

def k8m0 : Method := { name := "<init>", desc := "()V", sig := { parameters := [], returnType := none }, accessFlags := 0, code := none }
def k8c1 : Code := { maxStack := 1, maxLocals := 1, code := jdk_52_method_2_code, exceptionTable := #[], attributes := #[] }
def k8m1 : Method := { name := "newBytesFor", desc := "(I)[B", sig := { parameters := [.int], returnType := some (.array .byte) }, accessFlags := 9, code := some k8c1 }
def k8c2 : Code := { maxStack := 4, maxLocals := 1, code := jdk_52_method_3_code, exceptionTable := #[], attributes := #[] }
def k8m2 : Method := { name := "newBytesLength", desc := "(I)I", sig := { parameters := [.int], returnType := some .int }, accessFlags := 9, code := some k8c2 }
def k8c3 : Code := { maxStack := 4, maxLocals := 3, code := jdk_52_method_4_code, exceptionTable := #[], attributes := #[] }
def k8m3 : Method := { name := "putChar", desc := "([BII)V", sig := { parameters := [(.array .byte), .int, .int], returnType := none }, accessFlags := 8, code := some k8c3 }
def k8c4 : Code := { maxStack := 3, maxLocals := 2, code := jdk_52_method_5_code, exceptionTable := #[], attributes := #[] }
def k8m4 : Method := { name := "getChar", desc := "([BI)C", sig := { parameters := [(.array .byte), .int], returnType := some .char }, accessFlags := 8, code := some k8c4 }
def k8c5 : Code := { maxStack := 2, maxLocals := 1, code := jdk_52_method_6_code, exceptionTable := #[], attributes := #[] }
def k8m5 : Method := { name := "length", desc := "([B)I", sig := { parameters := [(.array .byte)], returnType := some .int }, accessFlags := 9, code := some k8c5 }
def k8c6 : Code := { maxStack := 4, maxLocals := 5, code := jdk_52_method_14_code, exceptionTable := #[], attributes := #[] }
def k8m6 : Method := { name := "toBytes", desc := "([CII)[B", sig := { parameters := [(.array .char), .int, .int], returnType := some (.array .byte) }, accessFlags := 9, code := some k8c6 }
def k8c7 : Code := { maxStack := 2, maxLocals := 2, code := jdk_52_method_15_code, exceptionTable := #[], attributes := #[] }
def k8m7 : Method := { name := "coderFromArrayLen", desc := "([BI)B", sig := { parameters := [(.array .byte), .int], returnType := some .byte }, accessFlags := 8, code := some k8c7 }
def k8c8 : Code := { maxStack := 5, maxLocals := 6, code := jdk_52_method_16_code, exceptionTable := #[], attributes := #[] }
def k8m8 : Method := { name := "compress", desc := "([CII)[B", sig := { parameters := [(.array .char), .int, .int], returnType := some (.array .byte) }, accessFlags := 9, code := some k8c8 }
def k8c9 : Code := { maxStack := 3, maxLocals := 7, code := jdk_52_method_21_code, exceptionTable := #[], attributes := #[] }
def k8m9 : Method := { name := "compress", desc := "([CI[BII)I", sig := { parameters := [(.array .char), .int, (.array .byte), .int, .int], returnType := some .int }, accessFlags := 9, code := some k8c9 }
def k8c10 : Code := { maxStack := 4, maxLocals := 6, code := jdk_52_method_86_code, exceptionTable := #[], attributes := #[] }
def k8m10 : Method := { name := "inflate", desc := "([BI[BII)V", sig := { parameters := [(.array .byte), .int, (.array .byte), .int, .int], returnType := none }, accessFlags := 9, code := some k8c10 }
def k8c11 : Code := { maxStack := 3, maxLocals := 3, code := jdk_52_method_94_code, exceptionTable := #[], attributes := #[] }
def k8m11 : Method := { name := "checkBoundsOffCount", desc := "(II[B)V", sig := { parameters := [.int, .int, (.array .byte)], returnType := none }, accessFlags := 9, code := some k8c11 }
/-- java/lang/StringUTF16 -/
def k8 : Class := { plain "java/lang/StringUTF16" (some 0) with
  accessFlags := 48
  interfaces := #[]
  cf := some (fileOf pool8 12 #[.nestMembers #[627, 629, 369]] #[{ accessFlags := 0, nameIndex := 9, descriptorIndex := 10, attributes := #[] }, { accessFlags := 9, nameIndex := 109, descriptorIndex := 110, attributes := #[] }, { accessFlags := 9, nameIndex := 15, descriptorIndex := 16, attributes := #[] }, { accessFlags := 8, nameIndex := 113, descriptorIndex := 114, attributes := #[] }, { accessFlags := 8, nameIndex := 73, descriptorIndex := 74, attributes := #[] }, { accessFlags := 9, nameIndex := 50, descriptorIndex := 51, attributes := #[] }, { accessFlags := 9, nameIndex := 121, descriptorIndex := 122, attributes := #[] }, { accessFlags := 8, nameIndex := 261, descriptorIndex := 262, attributes := #[] }, { accessFlags := 9, nameIndex := 117, descriptorIndex := 122, attributes := #[] }, { accessFlags := 9, nameIndex := 117, descriptorIndex := 118, attributes := #[] }, { accessFlags := 9, nameIndex := 140, descriptorIndex := 141, attributes := #[] }, { accessFlags := 9, nameIndex := 175, descriptorIndex := 99, attributes := #[] }] 48 6 #[] #[{ accessFlags := 26, nameIndex := 61, descriptorIndex := 62, attributes := #[] }, { accessFlags := 26, nameIndex := 65, descriptorIndex := 62, attributes := #[] }, { accessFlags := 24, nameIndex := 430, descriptorIndex := 62, attributes := #[] }, { accessFlags := 4120, nameIndex := 46, descriptorIndex := 47, attributes := #[] }])
  fields := #[{ name := "HI_BYTE_SHIFT", type := .int, accessFlags := 26, slot := 0, constantValue := 0 }, { name := "LO_BYTE_SHIFT", type := .int, accessFlags := 26, slot := 1, constantValue := 0 }, { name := "MAX_LENGTH", type := .int, accessFlags := 24, slot := 2, constantValue := 0 }, { name := "$assertionsDisabled", type := .boolean, accessFlags := 4120, slot := 3, constantValue := 0 }]
  methods := #[k8m0, k8m1, k8m2, k8m3, k8m4, k8m5, k8m6, k8m7, k8m8, k8m9, k8m10, k8m11]
  instanceTypes := #[]
  staticTypes := #[.int, .int, .int, .boolean]
  resolved := Array.replicate 635 none
  statics := some 1 }

def pool9 : Array CpInfo := pool [(3, .class_ 4), (0, u "com/example/vestwright/vestwright/cli/TableRows"), (0, .methodref 6 7), (0, .class_ 8), (0, .nameAndType 9 10), (0, u "java/lang/Object"), (0, u "<init>"), (0, u "()V"), (0, .fieldref 3 12), (0, .nameAndType 13 14), (0, u "bytes"), (0, u "[B"), (0, .fieldref 3 16), (0, .nameAndType 17 18), (0, u "starts"), (0, u "[I"), (0, .fieldref 3 20), (0, .nameAndType 21 18), (0, u "keys"), (0, .fieldref 3 23), (0, .nameAndType 24 25), (0, u "width"), (0, u "I"), (0, .class_ 14), (0, .fieldref 28 29), (0, .class_ 30), (0, .nameAndType 31 32), (0, u "java/nio/charset/StandardCharsets"), (0, u "UTF_8"), (0, u "Ljava/nio/charset/Charset;"), (0, .methodref 34 35), (0, .class_ 36), (0, .nameAndType 37 38), (0, u "java/lang/String"), (0, u "getBytes"), (0, u "(Ljava/nio/charset/Charset;)[B"), (0, .integer 2147483639), (0, .fieldref 3 41), (0, .nameAndType 42 25), (0, u "used"), (0, .methodref 3 44), (0, .nameAndType 45 46), (0, u "ensureRoom"), (0, u "(I)V"), (0, .fieldref 3 48), (0, .nameAndType 49 25), (0, u "size"), (0, .methodref 3 51), (0, .nameAndType 52 46), (0, u "writeLength"), (0, .methodref 54 55), (0, .class_ 56), (0, .nameAndType 57 58), (0, u "java/lang/System"), (0, u "arraycopy"), (0, u "(Ljava/lang/Object;ILjava/lang/Object;II)V"), (0, .methodref 34 60), (0, .nameAndType 9 61), (0, u "([BIILjava/nio/charset/Charset;)V"), (1, .class_ 65), (1, u "java/util/Arrays"), (0, u "copyOf"), (1, .class_ 69), (0, u "com/example/vestwright/vestwright/cli/TableRows$ByKey"), (3, .long 2147483639), (1, .long 2), (10, .methodref 63 87), (0, .nameAndType 66 88), (0, u "([BI)[B"), (0, u "ROOM"), (2, u "MOST_BYTES"), (0, u "LENGTH_BITS"), (1, u "MORE"), (1, u "LONGEST_LENGTH"), (3, u "add"), (0, u "([Ljava/lang/String;I)Z"), (8, u "cells"), (0, u "(I)[Ljava/lang/String;")] 8

def k9c0 : Code := { maxStack := 2, maxLocals := 2, code := prog_15_method_1_code, exceptionTable := #[], attributes := #[] }
def k9m0 : Method := { name := "<init>", desc := "(I)V", sig := { parameters := [.int], returnType := none }, accessFlags := 0, code := some k9c0 }
def k9c1 : Code := { maxStack := 5, maxLocals := 11, code := prog_15_method_2_code, exceptionTable := #[], attributes := #[] }
def k9m1 : Method := { name := "add", desc := "([Ljava/lang/String;I)Z", sig := { parameters := [(.array (.object "java/lang/String")), .int], returnType := some .boolean }, accessFlags := 0, code := some k9c1 }
def k9c2 : Code := { maxStack := 8, maxLocals := 8, code := prog_15_method_5_code, exceptionTable := #[], attributes := #[] }
def k9m2 : Method := { name := "cells", desc := "(I)[Ljava/lang/String;", sig := { parameters := [.int], returnType := some (.array (.object "java/lang/String")) }, accessFlags := 0, code := some k9c2 }
def k9c3 : Code := { maxStack := 5, maxLocals := 3, code := prog_15_method_7_code, exceptionTable := #[], attributes := #[] }
def k9m3 : Method := { name := "writeLength", desc := "(I)V", sig := { parameters := [.int], returnType := none }, accessFlags := 2, code := some k9c3 }
def k9c4 : Code := { maxStack := 10, maxLocals := 3, code := prog_15_method_8_code, exceptionTable := #[], attributes := #[] }
def k9m4 : Method := { name := "ensureRoom", desc := "(I)V", sig := { parameters := [.int], returnType := none }, accessFlags := 2, code := some k9c4 }
/-- com/example/vestwright/vestwright/cli/TableRows -/
def k9 : Class := { plain "com/example/vestwright/vestwright/cli/TableRows" (some 0) with
  accessFlags := 48
  interfaces := #[]
  cf := some (fileOf pool9 3 #[.nestMembers #[68]] #[{ accessFlags := 0, nameIndex := 9, descriptorIndex := 46, attributes := #[] }, { accessFlags := 0, nameIndex := 101, descriptorIndex := 102, attributes := #[] }, { accessFlags := 0, nameIndex := 111, descriptorIndex := 112, attributes := #[] }, { accessFlags := 2, nameIndex := 52, descriptorIndex := 46, attributes := #[] }, { accessFlags := 2, nameIndex := 45, descriptorIndex := 46, attributes := #[] }] 48 6 #[] #[{ accessFlags := 26, nameIndex := 89, descriptorIndex := 25, attributes := #[] }, { accessFlags := 26, nameIndex := 92, descriptorIndex := 25, attributes := #[] }, { accessFlags := 26, nameIndex := 93, descriptorIndex := 25, attributes := #[] }, { accessFlags := 26, nameIndex := 95, descriptorIndex := 25, attributes := #[] }, { accessFlags := 26, nameIndex := 97, descriptorIndex := 25, attributes := #[] }, { accessFlags := 18, nameIndex := 24, descriptorIndex := 25, attributes := #[] }, { accessFlags := 2, nameIndex := 13, descriptorIndex := 14, attributes := #[] }, { accessFlags := 2, nameIndex := 42, descriptorIndex := 25, attributes := #[] }, { accessFlags := 2, nameIndex := 17, descriptorIndex := 18, attributes := #[] }, { accessFlags := 2, nameIndex := 21, descriptorIndex := 18, attributes := #[] }, { accessFlags := 2, nameIndex := 49, descriptorIndex := 25, attributes := #[] }])
  fields := #[{ name := "ROOM", type := .int, accessFlags := 26, slot := 0, constantValue := 0 }, { name := "MOST_BYTES", type := .int, accessFlags := 26, slot := 1, constantValue := 0 }, { name := "LENGTH_BITS", type := .int, accessFlags := 26, slot := 2, constantValue := 0 }, { name := "MORE", type := .int, accessFlags := 26, slot := 3, constantValue := 0 }, { name := "LONGEST_LENGTH", type := .int, accessFlags := 26, slot := 4, constantValue := 0 }, { name := "width", type := .int, accessFlags := 18, slot := 0, constantValue := 0 }, { name := "bytes", type := (.array .byte), accessFlags := 2, slot := 1, constantValue := 0 }, { name := "used", type := .int, accessFlags := 2, slot := 2, constantValue := 0 }, { name := "starts", type := (.array .int), accessFlags := 2, slot := 3, constantValue := 0 }, { name := "keys", type := (.array .int), accessFlags := 2, slot := 4, constantValue := 0 }, { name := "size", type := .int, accessFlags := 2, slot := 5, constantValue := 0 }]
  methods := #[k9m0, k9m1, k9m2, k9m3, k9m4]
  instanceTypes := #[.int, (.array .byte), .int, (.array .int), (.array .int), .int]
  staticTypes := #[.int, .int, .int, .int, .int]
  resolved := Array.replicate 121 none
  statics := none }

def pool10 : Array CpInfo := pool [(2, .class_ 4), (1, u "java/lang/Object"), (0, u "<init>"), (0, u "()V"), (14, .class_ 23), (1, u "java/nio/charset/StandardCharsets"), (0, u "US_ASCII"), (0, u "Ljava/nio/charset/Charset;"), (7, u "ISO_8859_1"), (7, u "UTF_8"), (5, u "UTF_16BE"), (5, u "UTF_16LE"), (5, u "UTF_16")] 8

def k10m0 : Method := { name := "<init>", desc := "()V", sig := { parameters := [], returnType := none }, accessFlags := 2, code := none }
/-- java/nio/charset/StandardCharsets -/
def k10 : Class := { plain "java/nio/charset/StandardCharsets" (some 0) with
  accessFlags := 49
  interfaces := #[]
  cf := some (fileOf pool10 21 #[] #[{ accessFlags := 2, nameIndex := 5, descriptorIndex := 6, attributes := #[] }] 49 2 #[] #[{ accessFlags := 25, nameIndex := 24, descriptorIndex := 25, attributes := #[] }, { accessFlags := 25, nameIndex := 33, descriptorIndex := 25, attributes := #[] }, { accessFlags := 25, nameIndex := 41, descriptorIndex := 25, attributes := #[] }, { accessFlags := 25, nameIndex := 47, descriptorIndex := 25, attributes := #[] }, { accessFlags := 25, nameIndex := 53, descriptorIndex := 25, attributes := #[] }, { accessFlags := 25, nameIndex := 59, descriptorIndex := 25, attributes := #[] }])
  fields := #[{ name := "US_ASCII", type := (.object "java/nio/charset/Charset"), accessFlags := 25, slot := 0, constantValue := 0 }, { name := "ISO_8859_1", type := (.object "java/nio/charset/Charset"), accessFlags := 25, slot := 1, constantValue := 0 }, { name := "UTF_8", type := (.object "java/nio/charset/Charset"), accessFlags := 25, slot := 2, constantValue := 0 }, { name := "UTF_16BE", type := (.object "java/nio/charset/Charset"), accessFlags := 25, slot := 3, constantValue := 0 }, { name := "UTF_16LE", type := (.object "java/nio/charset/Charset"), accessFlags := 25, slot := 4, constantValue := 0 }, { name := "UTF_16", type := (.object "java/nio/charset/Charset"), accessFlags := 25, slot := 5, constantValue := 0 }]
  methods := #[k10m0]
  instanceTypes := #[]
  staticTypes := #[(.object "java/nio/charset/Charset"), (.object "java/nio/charset/Charset"), (.object "java/nio/charset/Charset"), (.object "java/nio/charset/Charset"), (.object "java/nio/charset/Charset"), (.object "java/nio/charset/Charset")]
  resolved := Array.replicate 68 none
  statics := some 2 }

def pool11 : Array CpInfo := pool [(18, .class_ 20), (1, u "java/nio/charset/Charset"), (0, u "cache1"), (0, u "[Ljava/lang/Object;"), (2, u "cache2"), (0, .class_ 27), (0, u "java/lang/Object"), (0, .class_ 29), (0, u "java/nio/charset/Charset$1"), (4, .class_ 36), (1, u "java/nio/charset/Charset$ThreadTrackHolder"), (21, .class_ 59), (0, u "java/nio/charset/Charset$2"), (11, .class_ 73), (1, u "java/nio/charset/Charset$ExtendedProviderHolder"), (22, u "standardProvider"), (0, u "Ljava/nio/charset/spi/CharsetProvider;"), (29, u "name"), (7, .class_ 136), (0, u "java/nio/charset/Charset$3"), (5, u "defaultCharset"), (0, u "Ljava/nio/charset/Charset;"), (14, u "zeroAliases"), (0, u "[Ljava/lang/String;"), (29, u "Ljava/lang/String;"), (2, u "aliases"), (2, u "aliasSet"), (0, u "Ljava/util/Set;"), (82, .class_ 280), (0, u "java/lang/Comparable"), (84, .class_ 366), (0, u "java/nio/charset/Charset$ExtendedProviderHolder$1")] 3

/-- java/nio/charset/Charset -/
def k11 : Class := { plain "java/nio/charset/Charset" (some 0) with
  accessFlags := 1057
  interfaces := #[3]
  cf := some (fileOf pool11 18 #[.nestMembers #[71, 365, 34, 135, 58, 28]] #[] 1057 26 #[279] #[{ accessFlags := 26, nameIndex := 96, descriptorIndex := 97, attributes := #[] }, { accessFlags := 26, nameIndex := 158, descriptorIndex := 159, attributes := #[] }, { accessFlags := 74, nameIndex := 21, descriptorIndex := 22, attributes := #[] }, { accessFlags := 74, nameIndex := 25, descriptorIndex := 22, attributes := #[] }, { accessFlags := 10, nameIndex := 142, descriptorIndex := 143, attributes := #[] }, { accessFlags := 18, nameIndex := 127, descriptorIndex := 189, attributes := #[] }, { accessFlags := 18, nameIndex := 192, descriptorIndex := 159, attributes := #[] }, { accessFlags := 2, nameIndex := 195, descriptorIndex := 196, attributes := #[] }])
  fields := #[{ name := "standardProvider", type := (.object "java/nio/charset/spi/CharsetProvider"), accessFlags := 26, slot := 0, constantValue := 0 }, { name := "zeroAliases", type := (.array (.object "java/lang/String")), accessFlags := 26, slot := 1, constantValue := 0 }, { name := "cache1", type := (.array (.object "java/lang/Object")), accessFlags := 74, slot := 2, constantValue := 0 }, { name := "cache2", type := (.array (.object "java/lang/Object")), accessFlags := 74, slot := 3, constantValue := 0 }, { name := "defaultCharset", type := (.object "java/nio/charset/Charset"), accessFlags := 10, slot := 4, constantValue := 0 }, { name := "name", type := (.object "java/lang/String"), accessFlags := 18, slot := 0, constantValue := 0 }, { name := "aliases", type := (.array (.object "java/lang/String")), accessFlags := 18, slot := 1, constantValue := 0 }, { name := "aliasSet", type := (.object "java/util/Set"), accessFlags := 2, slot := 2, constantValue := 0 }]
  methods := #[]
  instanceTypes := #[(.object "java/lang/String"), (.array (.object "java/lang/String")), (.object "java/util/Set")]
  staticTypes := #[(.object "java/nio/charset/spi/CharsetProvider"), (.array (.object "java/lang/String")), (.array (.object "java/lang/Object")), (.array (.object "java/lang/Object")), (.object "java/nio/charset/Charset")]
  resolved := Array.replicate 370 none
  statics := none }

def pool12 : Array CpInfo := pool [(1, .class_ 2), (0, u "sun/nio/cs/HistoricallyNamedCharset"), (0, .class_ 4), (0, u "java/lang/Object")] 4

/-- sun/nio/cs/HistoricallyNamedCharset -/
def k12 : Class := { plain "sun/nio/cs/HistoricallyNamedCharset" (some 0) with
  accessFlags := 1537
  interfaces := #[]
  cf := some (fileOf pool12 1 #[] #[] 1537 3 #[] #[])
  fields := #[]
  methods := #[]
  instanceTypes := #[]
  staticTypes := #[]
  resolved := Array.replicate 9 none
  statics := none }

def pool13 : Array CpInfo := pool [(2, .class_ 4), (1, u "java/nio/charset/Charset"), (130, .class_ 136), (0, u "sun/nio/cs/Unicode"), (0, .class_ 138), (0, u "sun/nio/cs/HistoricallyNamedCharset")] 15

/-- sun/nio/cs/Unicode -/
def k13 : Class := { plain "sun/nio/cs/Unicode" (some 11) with
  accessFlags := 1056
  interfaces := #[12]
  cf := some (fileOf pool13 135 #[] #[] 1056 2 #[137] #[])
  fields := #[]
  methods := #[]
  instanceTypes := #[(.object "java/lang/String"), (.array (.object "java/lang/String")), (.object "java/util/Set")]
  staticTypes := #[]
  resolved := Array.replicate 154 none
  statics := none }

def pool14 : Array CpInfo := pool [(10, .class_ 12), (1, u "sun/nio/cs/Unicode"), (0, u "<init>"), (3, .class_ 18), (0, u "sun/nio/cs/UTF_8$Decoder"), (3, .class_ 23), (0, u "sun/nio/cs/UTF_8$Encoder"), (15, .class_ 40), (0, u "sun/nio/cs/UTF_8"), (2, u "()V"), (2, u "INSTANCE"), (0, u "Lsun/nio/cs/UTF_8;"), (8, u "JLA"), (0, u "Ljdk/internal/access/JavaLangAccess;")] 26

def k14m0 : Method := { name := "<init>", desc := "()V", sig := { parameters := [], returnType := none }, accessFlags := 1, code := none }
/-- sun/nio/cs/UTF_8 -/
def k14 : Class := { plain "sun/nio/cs/UTF_8" (some 13) with
  accessFlags := 49
  interfaces := #[]
  cf := some (fileOf pool14 39 #[.nestMembers #[22, 17]] #[{ accessFlags := 1, nameIndex := 13, descriptorIndex := 43, attributes := #[] }] 49 10 #[] #[{ accessFlags := 25, nameIndex := 46, descriptorIndex := 47, attributes := #[] }, { accessFlags := 26, nameIndex := 56, descriptorIndex := 57, attributes := #[] }])
  fields := #[{ name := "INSTANCE", type := (.object "sun/nio/cs/UTF_8"), accessFlags := 25, slot := 0, constantValue := 0 }, { name := "JLA", type := (.object "jdk/internal/access/JavaLangAccess"), accessFlags := 26, slot := 1, constantValue := 0 }]
  methods := #[k14m0]
  instanceTypes := #[(.object "java/lang/String"), (.array (.object "java/lang/String")), (.object "java/util/Set")]
  staticTypes := #[(.object "sun/nio/cs/UTF_8"), (.object "jdk/internal/access/JavaLangAccess")]
  resolved := Array.replicate 84 none
  statics := some 3 }

def pool15 : Array CpInfo := pool [(2, .class_ 4), (1, u "java/lang/Object"), (0, u "<init>"), (0, u "()V"), (0, .methodref 8 9), (0, .class_ 10), (0, .nameAndType 11 12), (0, u "java/lang/StringCoding"), (0, u "countPositives"), (0, u "([BII)I"), (11, u "hasNegatives"), (0, u "([BII)Z")] 23

def k15m0 : Method := { name := "<init>", desc := "()V", sig := { parameters := [], returnType := none }, accessFlags := 2, code := none }
def k15c1 : Code := { maxStack := 3, maxLocals := 3, code := jdk_123_method_2_code, exceptionTable := #[], attributes := #[] }
def k15m1 : Method := { name := "hasNegatives", desc := "([BII)Z", sig := { parameters := [(.array .byte), .int, .int], returnType := some .boolean }, accessFlags := 9, code := some k15c1 }
def k15c2 : Code := { maxStack := 2, maxLocals := 5, code := jdk_123_method_3_code, exceptionTable := #[], attributes := #[] }
def k15m2 : Method := { name := "countPositives", desc := "([BII)I", sig := { parameters := [(.array .byte), .int, .int], returnType := some .int }, accessFlags := 9, code := some k15c2 }
/-- java/lang/StringCoding -/
def k15 : Class := { plain "java/lang/StringCoding" (some 0) with
  accessFlags := 32
  interfaces := #[]
  cf := some (fileOf pool15 8 #[] #[{ accessFlags := 2, nameIndex := 5, descriptorIndex := 6, attributes := #[] }, { accessFlags := 9, nameIndex := 24, descriptorIndex := 25, attributes := #[] }, { accessFlags := 9, nameIndex := 11, descriptorIndex := 12, attributes := #[] }] 32 2 #[] #[])
  fields := #[]
  methods := #[k15m0, k15m1, k15m2]
  instanceTypes := #[]
  staticTypes := #[]
  resolved := Array.replicate 49 none
  statics := none }

def pool16 : Array CpInfo := pool [(1, .class_ 2), (0, u "java/lang/Cloneable"), (0, .class_ 4), (0, u "java/lang/Object")] 2

/-- java/lang/Cloneable -/
def k16 : Class := { plain "java/lang/Cloneable" (some 0) with
  accessFlags := 1537
  interfaces := #[]
  cf := some (fileOf pool16 1 #[] #[] 1537 3 #[] #[])
  fields := #[]
  methods := #[]
  instanceTypes := #[]
  staticTypes := #[]
  resolved := Array.replicate 7 none
  statics := none }

def pool17 : Array CpInfo := pool [(2, .class_ 4), (1, u "java/lang/Object"), (0, u "<init>"), (0, u "()V"), (1, .class_ 10), (1, u "java/lang/System"), (0, u "allowSecurityManager"), (0, u "I"), (16, u "cons"), (0, u "Ljava/io/Console;"), (77, .class_ 110), (1, u "java/lang/System$CallersHolder"), (43, u "initialErrStream"), (0, u "Ljava/io/PrintStream;"), (19, u "security"), (0, u "Ljava/lang/SecurityManager;"), (31, .class_ 209), (0, u "java/lang/System$1"), (7, u "props"), (0, u "Ljava/util/Properties;"), (2, u "lineSeparator"), (0, u "Ljava/lang/String;"), (96, .class_ 321), (1, u "java/lang/System$LoggerFinder"), (5, .class_ 328), (0, u "java/lang/System$Logger"), (67, u "err"), (2, u "out"), (91, u "notSupportedJnuEncoding"), (15, u "in"), (17, u "initialIn"), (0, u "Ljava/io/InputStream;"), (35, u "bootLayer"), (0, u "Ljava/lang/ModuleLayer;"), (99, .class_ 664), (0, u "java/lang/System$2"), (9, u "NEVER"), (2, u "MAYBE"), (49, u "arraycopy"), (0, u "(Ljava/lang/Object;ILjava/lang/Object;II)V"), (72, .class_ 802), (0, u "java/lang/System$Logger$Level")] 31

def k17m0 : Method := { name := "<init>", desc := "()V", sig := { parameters := [], returnType := none }, accessFlags := 2, code := none }
def k17m1 : Method := { name := "arraycopy", desc := "(Ljava/lang/Object;ILjava/lang/Object;II)V", sig := { parameters := [(.object "java/lang/Object"), .int, (.object "java/lang/Object"), .int, .int], returnType := none }, accessFlags := 265, code := none }
/-- java/lang/System -/
def k17 : Class := { plain "java/lang/System" (some 0) with
  accessFlags := 49
  interfaces := #[]
  cf := some (fileOf pool17 8 #[.nestMembers #[319, 327, 801, 108, 663, 208]] #[{ accessFlags := 2, nameIndex := 5, descriptorIndex := 6, attributes := #[] }, { accessFlags := 265, nameIndex := 727, descriptorIndex := 728, attributes := #[] }] 49 2 #[] #[{ accessFlags := 25, nameIndex := 507, descriptorIndex := 526, attributes := #[] }, { accessFlags := 25, nameIndex := 399, descriptorIndex := 155, attributes := #[] }, { accessFlags := 25, nameIndex := 396, descriptorIndex := 155, attributes := #[] }, { accessFlags := 10, nameIndex := 525, descriptorIndex := 526, attributes := #[] }, { accessFlags := 26, nameIndex := 674, descriptorIndex := 12, attributes := #[] }, { accessFlags := 26, nameIndex := 677, descriptorIndex := 12, attributes := #[] }, { accessFlags := 10, nameIndex := 11, descriptorIndex := 12, attributes := #[] }, { accessFlags := 74, nameIndex := 175, descriptorIndex := 176, attributes := #[] }, { accessFlags := 10, nameIndex := 491, descriptorIndex := 222, attributes := #[] }, { accessFlags := 74, nameIndex := 29, descriptorIndex := 30, attributes := #[] }, { accessFlags := 74, nameIndex := 154, descriptorIndex := 155, attributes := #[] }, { accessFlags := 10, nameIndex := 217, descriptorIndex := 218, attributes := #[] }, { accessFlags := 10, nameIndex := 221, descriptorIndex := 222, attributes := #[] }, { accessFlags := 8, nameIndex := 562, descriptorIndex := 563, attributes := #[] }])
  fields := #[{ name := "in", type := (.object "java/io/InputStream"), accessFlags := 25, slot := 0, constantValue := 0 }, { name := "out", type := (.object "java/io/PrintStream"), accessFlags := 25, slot := 1, constantValue := 0 }, { name := "err", type := (.object "java/io/PrintStream"), accessFlags := 25, slot := 2, constantValue := 0 }, { name := "initialIn", type := (.object "java/io/InputStream"), accessFlags := 10, slot := 3, constantValue := 0 }, { name := "NEVER", type := .int, accessFlags := 26, slot := 4, constantValue := 0 }, { name := "MAYBE", type := .int, accessFlags := 26, slot := 5, constantValue := 0 }, { name := "allowSecurityManager", type := .int, accessFlags := 10, slot := 6, constantValue := 0 }, { name := "security", type := (.object "java/lang/SecurityManager"), accessFlags := 74, slot := 7, constantValue := 0 }, { name := "notSupportedJnuEncoding", type := (.object "java/lang/String"), accessFlags := 10, slot := 8, constantValue := 0 }, { name := "cons", type := (.object "java/io/Console"), accessFlags := 74, slot := 9, constantValue := 0 }, { name := "initialErrStream", type := (.object "java/io/PrintStream"), accessFlags := 74, slot := 10, constantValue := 0 }, { name := "props", type := (.object "java/util/Properties"), accessFlags := 10, slot := 11, constantValue := 0 }, { name := "lineSeparator", type := (.object "java/lang/String"), accessFlags := 10, slot := 12, constantValue := 0 }, { name := "bootLayer", type := (.object "java/lang/ModuleLayer"), accessFlags := 8, slot := 13, constantValue := 0 }]
  methods := #[k17m0, k17m1]
  instanceTypes := #[]
  staticTypes := #[(.object "java/io/InputStream"), (.object "java/io/PrintStream"), (.object "java/io/PrintStream"), (.object "java/io/InputStream"), .int, .int, .int, (.object "java/lang/SecurityManager"), (.object "java/lang/String"), (.object "java/io/Console"), (.object "java/io/PrintStream"), (.object "java/util/Properties"), (.object "java/lang/String"), (.object "java/lang/ModuleLayer")]
  resolved := Array.replicate 834 none
  statics := none }

def pool18 : Array CpInfo := pool [(2, .class_ 4), (1, u "java/lang/Object"), (0, u "<init>"), (0, u "()V"), (35, .class_ 44), (1, u "java/util/Objects"), (0, u "requireNonNull"), (0, u "(Ljava/lang/Object;)Ljava/lang/Object;")] 137

def k18m0 : Method := { name := "<init>", desc := "()V", sig := { parameters := [], returnType := none }, accessFlags := 2, code := none }
def k18c1 : Code := { maxStack := 2, maxLocals := 1, code := jdk_31_method_10_code, exceptionTable := #[], attributes := #[] }
def k18m1 : Method := { name := "requireNonNull", desc := "(Ljava/lang/Object;)Ljava/lang/Object;", sig := { parameters := [(.object "java/lang/Object")], returnType := some (.object "java/lang/Object") }, accessFlags := 9, code := some k18c1 }
/-- java/util/Objects -/
def k18 : Class := { plain "java/util/Objects" (some 0) with
  accessFlags := 49
  interfaces := #[]
  cf := some (fileOf pool18 42 #[] #[{ accessFlags := 2, nameIndex := 5, descriptorIndex := 6, attributes := #[] }, { accessFlags := 9, nameIndex := 45, descriptorIndex := 46, attributes := #[] }] 49 2 #[] #[])
  fields := #[]
  methods := #[k18m0, k18m1]
  instanceTypes := #[]
  staticTypes := #[]
  resolved := Array.replicate 184 none
  statics := none }

def pool19 : Array CpInfo := pool [(2, .class_ 4), (1, u "java/lang/Object"), (0, u "<init>"), (0, u "()V"), (17, .class_ 26), (1, u "jdk/internal/util/Preconditions"), (22, u "checkFromIndexSize"), (5, .class_ 56), (0, u "jdk/internal/util/Preconditions$4"), (57, .class_ 115), (0, u "jdk/internal/util/Preconditions$1"), (7, u "SIOOBE_FORMATTER"), (0, u "Ljava/util/function/BiFunction;"), (0, .class_ 126), (0, u "jdk/internal/util/Preconditions$2"), (3, u "AIOOBE_FORMATTER"), (0, .class_ 132), (0, u "jdk/internal/util/Preconditions$3"), (3, u "IOOBE_FORMATTER"), (46, u "(IIILjava/util/function/BiFunction;)I")] 10

def k19m0 : Method := { name := "<init>", desc := "()V", sig := { parameters := [], returnType := none }, accessFlags := 1, code := none }
def k19c1 : Code := { maxStack := 4, maxLocals := 4, code := jdk_41_method_13_code, exceptionTable := #[], attributes := #[] }
def k19m1 : Method := { name := "checkFromIndexSize", desc := "(IIILjava/util/function/BiFunction;)I", sig := { parameters := [.int, .int, .int, (.object "java/util/function/BiFunction")], returnType := some .int }, accessFlags := 9, code := some k19c1 }
/-- jdk/internal/util/Preconditions -/
def k19 : Class := { plain "jdk/internal/util/Preconditions" (some 0) with
  accessFlags := 33
  interfaces := #[]
  cf := some (fileOf pool19 24 #[.nestMembers #[55, 131, 125, 114]] #[{ accessFlags := 1, nameIndex := 5, descriptorIndex := 6, attributes := #[] }, { accessFlags := 9, nameIndex := 49, descriptorIndex := 183, attributes := #[] }] 33 2 #[] #[{ accessFlags := 25, nameIndex := 123, descriptorIndex := 124, attributes := #[] }, { accessFlags := 25, nameIndex := 130, descriptorIndex := 124, attributes := #[] }, { accessFlags := 25, nameIndex := 136, descriptorIndex := 124, attributes := #[] }])
  fields := #[{ name := "SIOOBE_FORMATTER", type := (.object "java/util/function/BiFunction"), accessFlags := 25, slot := 0, constantValue := 0 }, { name := "AIOOBE_FORMATTER", type := (.object "java/util/function/BiFunction"), accessFlags := 25, slot := 1, constantValue := 0 }, { name := "IOOBE_FORMATTER", type := (.object "java/util/function/BiFunction"), accessFlags := 25, slot := 2, constantValue := 0 }]
  methods := #[k19m0, k19m1]
  instanceTypes := #[]
  staticTypes := #[(.object "java/util/function/BiFunction"), (.object "java/util/function/BiFunction"), (.object "java/util/function/BiFunction")]
  resolved := Array.replicate 194 none
  statics := some 4 }

def pool20 : Array CpInfo := pool [(2, .class_ 4), (1, u "java/lang/Object"), (0, u "<init>"), (0, u "()V"), (7, .class_ 16), (1, u "java/util/Arrays"), (57, .class_ 76), (1, u "java/util/Arrays$NaturalOrder"), (36, .class_ 115), (1, u "java/util/Arrays$LegacyMergeSort"), (1, u "Z"), (21, u "copyOfRange"), (10, .methodref 151 152), (0, .class_ 153), (0, .nameAndType 154 155), (0, u "java/lang/System"), (0, u "arraycopy"), (0, u "(Ljava/lang/Object;ILjava/lang/Object;II)V"), (146, u "copyOf"), (1, .methodref 305 306), (0, .class_ 307), (0, .nameAndType 308 309), (0, u "java/lang/Math"), (0, u "min"), (0, u "(II)I"), (29, .methodref 14 340), (0, .nameAndType 341 342), (0, u "copyOfRangeByte"), (0, u "([BII)[B"), (0, .methodref 14 344), (0, .nameAndType 345 346), (0, u "checkLength"), (0, u "(II)V"), (28, .class_ 376), (0, u "java/util/Arrays$ArrayList"), (68, u "$assertionsDisabled"), (269, u "MIN_ARRAY_SORT_GRAN"), (0, u "I"), (2, u "INSERTIONSORT_THRESHOLD"), (149, u "([BI)[B"), (105, .class_ 976), (0, u "java/util/Arrays$ArrayItr")] 52

def k20m0 : Method := { name := "<init>", desc := "()V", sig := { parameters := [], returnType := none }, accessFlags := 2, code := none }
def k20c1 : Code := { maxStack := 6, maxLocals := 3, code := jdk_65_method_121_code, exceptionTable := #[], attributes := #[] }
def k20m1 : Method := { name := "copyOf", desc := "([BI)[B", sig := { parameters := [(.array .byte), .int], returnType := some (.array .byte) }, accessFlags := 9, code := some k20c1 }
def k20c2 : Code := { maxStack := 4, maxLocals := 2, code := jdk_65_method_131_code, exceptionTable := #[], attributes := #[] }
def k20m2 : Method := { name := "checkLength", desc := "(II)V", sig := { parameters := [.int, .int], returnType := none }, accessFlags := 10, code := some k20c2 }
def k20c3 : Code := { maxStack := 3, maxLocals := 3, code := jdk_65_method_132_code, exceptionTable := #[], attributes := #[] }
def k20m3 : Method := { name := "copyOfRange", desc := "([BII)[B", sig := { parameters := [(.array .byte), .int, .int], returnType := some (.array .byte) }, accessFlags := 9, code := some k20c3 }
def k20c4 : Code := { maxStack := 6, maxLocals := 5, code := jdk_65_method_133_code, exceptionTable := #[], attributes := #[] }
def k20m4 : Method := { name := "copyOfRangeByte", desc := "([BII)[B", sig := { parameters := [(.array .byte), .int, .int], returnType := some (.array .byte) }, accessFlags := 10, code := some k20c4 }
/-- java/util/Arrays -/
def k20 : Class := { plain "java/util/Arrays" (some 0) with
  accessFlags := 49
  interfaces := #[]
  cf := some (fileOf pool20 14 #[.nestMembers #[975, 375, 113, 74]] #[{ accessFlags := 2, nameIndex := 5, descriptorIndex := 6, attributes := #[] }, { accessFlags := 9, nameIndex := 302, descriptorIndex := 869, attributes := #[] }, { accessFlags := 10, nameIndex := 345, descriptorIndex := 346, attributes := #[] }, { accessFlags := 9, nameIndex := 139, descriptorIndex := 342, attributes := #[] }, { accessFlags := 10, nameIndex := 341, descriptorIndex := 342, attributes := #[] }] 49 2 #[] #[{ accessFlags := 26, nameIndex := 715, descriptorIndex := 716, attributes := #[] }, { accessFlags := 26, nameIndex := 719, descriptorIndex := 716, attributes := #[] }, { accessFlags := 4120, nameIndex := 445, descriptorIndex := 117, attributes := #[] }])
  fields := #[{ name := "MIN_ARRAY_SORT_GRAN", type := .int, accessFlags := 26, slot := 0, constantValue := 0 }, { name := "INSERTIONSORT_THRESHOLD", type := .int, accessFlags := 26, slot := 1, constantValue := 0 }, { name := "$assertionsDisabled", type := .boolean, accessFlags := 4120, slot := 2, constantValue := 0 }]
  methods := #[k20m0, k20m1, k20m2, k20m3, k20m4]
  instanceTypes := #[]
  staticTypes := #[.int, .int, .boolean]
  resolved := Array.replicate 1029 none
  statics := none }

def pool21 : Array CpInfo := pool [(1, .class_ 2), (0, u "java/lang/Math"), (1, .class_ 6), (1, u "java/lang/Object"), (0, u "<init>"), (0, u "()V"), (89, .class_ 100), (1, u "java/lang/Math$RandomNumberGeneratorHolder"), (71, u "negativeZeroFloatBits"), (0, u "J"), (2, u "negativeZeroDoubleBits"), (24, u "min"), (43, u "$assertionsDisabled"), (0, u "Z"), (88, u "(II)I"), (2, u "twoToTheDoubleScaleDown"), (0, u "D"), (4, u "twoToTheDoubleScaleUp"), (9, u "E"), (3, u "PI"), (2, u "TAU"), (2, u "DEGREES_TO_RADIANS"), (0, u "RADIANS_TO_DEGREES")] 94

def k21m0 : Method := { name := "<init>", desc := "()V", sig := { parameters := [], returnType := none }, accessFlags := 2, code := none }
def k21c1 : Code := { maxStack := 2, maxLocals := 2, code := jdk_29_method_69_code, exceptionTable := #[], attributes := #[] }
def k21m1 : Method := { name := "min", desc := "(II)I", sig := { parameters := [.int, .int], returnType := some .int }, accessFlags := 9, code := some k21c1 }
/-- java/lang/Math -/
def k21 : Class := { plain "java/lang/Math" (some 0) with
  accessFlags := 49
  interfaces := #[]
  cf := some (fileOf pool21 1 #[.nestMembers #[98]] #[{ accessFlags := 2, nameIndex := 7, descriptorIndex := 8, attributes := #[] }, { accessFlags := 9, nameIndex := 201, descriptorIndex := 335, attributes := #[] }] 49 4 #[] #[{ accessFlags := 25, nameIndex := 354, descriptorIndex := 339, attributes := #[] }, { accessFlags := 25, nameIndex := 358, descriptorIndex := 339, attributes := #[] }, { accessFlags := 25, nameIndex := 361, descriptorIndex := 339, attributes := #[] }, { accessFlags := 26, nameIndex := 364, descriptorIndex := 339, attributes := #[] }, { accessFlags := 26, nameIndex := 365, descriptorIndex := 339, attributes := #[] }, { accessFlags := 26, nameIndex := 172, descriptorIndex := 173, attributes := #[] }, { accessFlags := 26, nameIndex := 176, descriptorIndex := 173, attributes := #[] }, { accessFlags := 8, nameIndex := 344, descriptorIndex := 339, attributes := #[] }, { accessFlags := 8, nameIndex := 338, descriptorIndex := 339, attributes := #[] }, { accessFlags := 4120, nameIndex := 245, descriptorIndex := 246, attributes := #[] }])
  fields := #[{ name := "E", type := .double, accessFlags := 25, slot := 0, constantValue := 0 }, { name := "PI", type := .double, accessFlags := 25, slot := 1, constantValue := 0 }, { name := "TAU", type := .double, accessFlags := 25, slot := 2, constantValue := 0 }, { name := "DEGREES_TO_RADIANS", type := .double, accessFlags := 26, slot := 3, constantValue := 0 }, { name := "RADIANS_TO_DEGREES", type := .double, accessFlags := 26, slot := 4, constantValue := 0 }, { name := "negativeZeroFloatBits", type := .long, accessFlags := 26, slot := 5, constantValue := 0 }, { name := "negativeZeroDoubleBits", type := .long, accessFlags := 26, slot := 6, constantValue := 0 }, { name := "twoToTheDoubleScaleUp", type := .double, accessFlags := 8, slot := 7, constantValue := 0 }, { name := "twoToTheDoubleScaleDown", type := .double, accessFlags := 8, slot := 8, constantValue := 0 }, { name := "$assertionsDisabled", type := .boolean, accessFlags := 4120, slot := 9, constantValue := 0 }]
  methods := #[k21m0, k21m1]
  instanceTypes := #[]
  staticTypes := #[.double, .double, .double, .double, .double, .long, .long, .double, .double, .boolean]
  resolved := Array.replicate 460 none
  statics := none }

def pool22 : Array CpInfo := pool [(4, .class_ 6), (1, u "java/lang/Object"), (0, u "<init>"), (0, u "()V"), (5, .class_ 16), (1, u "java/lang/StringLatin1"), (0, u "inflate"), (2, .class_ 22), (1, u "java/lang/StringUTF16"), (3, .nameAndType 17 27), (0, u "([BI[BII)V"), (93, u "$assertionsDisabled"), (0, u "Z"), (98, .class_ 223), (1, u "java/lang/StringLatin1$LinesSpliterator"), (16, .methodref 20 26), (40, u "equals"), (0, u "([B[B)Z"), (107, .class_ 391), (0, u "java/lang/StringLatin1$CharsSpliterator")] 3

def k22m0 : Method := { name := "<init>", desc := "()V", sig := { parameters := [], returnType := none }, accessFlags := 0, code := none }
def k22c1 : Code := { maxStack := 3, maxLocals := 3, code := jdk_43_method_13_code, exceptionTable := #[], attributes := #[] }
def k22m1 : Method := { name := "equals", desc := "([B[B)Z", sig := { parameters := [(.array .byte), (.array .byte)], returnType := some .boolean }, accessFlags := 9, code := some k22c1 }
def k22c2 : Code := { maxStack := 5, maxLocals := 5, code := jdk_43_method_50_code, exceptionTable := #[], attributes := #[] }
def k22m2 : Method := { name := "inflate", desc := "([BI[BII)V", sig := { parameters := [(.array .byte), .int, (.array .byte), .int, .int], returnType := none }, accessFlags := 9, code := some k22c2 }
/-- java/lang/StringLatin1 -/
def k22 : Class := { plain "java/lang/StringLatin1" (some 0) with
  accessFlags := 48
  interfaces := #[]
  cf := some (fileOf pool22 14 #[.nestMembers #[390, 221]] #[{ accessFlags := 0, nameIndex := 7, descriptorIndex := 8, attributes := #[] }, { accessFlags := 9, nameIndex := 281, descriptorIndex := 282, attributes := #[] }, { accessFlags := 9, nameIndex := 17, descriptorIndex := 27, attributes := #[] }] 48 4 #[] #[{ accessFlags := 4120, nameIndex := 121, descriptorIndex := 122, attributes := #[] }])
  fields := #[{ name := "$assertionsDisabled", type := .boolean, accessFlags := 4120, slot := 0, constantValue := 0 }]
  methods := #[k22m0, k22m1, k22m2]
  instanceTypes := #[]
  staticTypes := #[.boolean]
  resolved := Array.replicate 395 none
  statics := none }

def pool23 : Array CpInfo := pool [(1, .class_ 2), (0, u "java/lang/Character"), (18, u "value"), (0, u "C"), (19, .class_ 44), (1, u "java/lang/Object"), (3, .class_ 50), (1, u "java/lang/Character$CharacterCache"), (24, .integer 55296), (5, u "(C)Z"), (202, u "$assertionsDisabled"), (0, u "Z"), (21, .class_ 309), (1, u "java/lang/Character$UnicodeBlock"), (73, u "TYPE"), (0, u "Ljava/lang/Class;"), (0, .class_ 386), (0, u "java/io/Serializable"), (0, .class_ 388), (0, u "java/lang/Comparable"), (0, .class_ 390), (0, u "java/lang/constant/Constable"), (0, u "MIN_RADIX"), (0, u "I"), (2, u "MAX_RADIX"), (1, u "MIN_VALUE"), (1, u "MAX_VALUE"), (3, u "UNASSIGNED"), (0, u "B"), (0, u "UPPERCASE_LETTER"), (1, u "LOWERCASE_LETTER"), (0, u "TITLECASE_LETTER"), (1, u "MODIFIER_LETTER"), (1, u "OTHER_LETTER"), (1, u "NON_SPACING_MARK"), (1, u "ENCLOSING_MARK"), (1, u "COMBINING_SPACING_MARK"), (1, u "DECIMAL_DIGIT_NUMBER"), (1, u "LETTER_NUMBER"), (1, u "OTHER_NUMBER"), (1, u "SPACE_SEPARATOR"), (1, u "LINE_SEPARATOR"), (1, u "PARAGRAPH_SEPARATOR"), (1, u "CONTROL"), (1, u "FORMAT"), (1, u "PRIVATE_USE"), (1, u "SURROGATE"), (1, u "DASH_PUNCTUATION"), (1, u "START_PUNCTUATION"), (1, u "END_PUNCTUATION"), (1, u "CONNECTOR_PUNCTUATION"), (1, u "OTHER_PUNCTUATION"), (1, u "MATH_SYMBOL"), (1, u "CURRENCY_SYMBOL"), (1, u "MODIFIER_SYMBOL"), (1, u "OTHER_SYMBOL"), (1, u "INITIAL_QUOTE_PUNCTUATION"), (1, u "FINAL_QUOTE_PUNCTUATION"), (1, u "ERROR"), (1, u "DIRECTIONALITY_UNDEFINED"), (0, u "DIRECTIONALITY_LEFT_TO_RIGHT"), (0, u "DIRECTIONALITY_RIGHT_TO_LEFT"), (0, u "DIRECTIONALITY_RIGHT_TO_LEFT_ARABIC"), (0, u "DIRECTIONALITY_EUROPEAN_NUMBER"), (0, u "DIRECTIONALITY_EUROPEAN_NUMBER_SEPARATOR"), (0, u "DIRECTIONALITY_EUROPEAN_NUMBER_TERMINATOR"), (0, u "DIRECTIONALITY_ARABIC_NUMBER"), (0, u "DIRECTIONALITY_COMMON_NUMBER_SEPARATOR"), (0, u "DIRECTIONALITY_NONSPACING_MARK"), (0, u "DIRECTIONALITY_BOUNDARY_NEUTRAL"), (0, u "DIRECTIONALITY_PARAGRAPH_SEPARATOR"), (0, u "DIRECTIONALITY_SEGMENT_SEPARATOR"), (0, u "DIRECTIONALITY_WHITESPACE"), (0, u "DIRECTIONALITY_OTHER_NEUTRALS"), (0, u "DIRECTIONALITY_LEFT_TO_RIGHT_EMBEDDING"), (0, u "DIRECTIONALITY_LEFT_TO_RIGHT_OVERRIDE"), (0, u "DIRECTIONALITY_RIGHT_TO_LEFT_EMBEDDING"), (0, u "DIRECTIONALITY_RIGHT_TO_LEFT_OVERRIDE"), (1, u "DIRECTIONALITY_POP_DIRECTIONAL_FORMAT"), (0, u "DIRECTIONALITY_LEFT_TO_RIGHT_ISOLATE"), (0, u "DIRECTIONALITY_RIGHT_TO_LEFT_ISOLATE"), (0, u "DIRECTIONALITY_FIRST_STRONG_ISOLATE"), (0, u "DIRECTIONALITY_POP_DIRECTIONAL_ISOLATE"), (0, u "MIN_HIGH_SURROGATE"), (0, u "MAX_HIGH_SURROGATE"), (1, u "MIN_LOW_SURROGATE"), (0, u "MAX_LOW_SURROGATE"), (1, u "MIN_SURROGATE"), (0, u "MAX_SURROGATE"), (0, u "MIN_SUPPLEMENTARY_CODE_POINT"), (0, u "MIN_CODE_POINT"), (0, u "MAX_CODE_POINT"), (1, u "serialVersionUID"), (0, u "J"), (2, u "SIZE"), (0, u "BYTES"), (24, u "isSurrogate"), (63, .class_ 596), (0, u "java/lang/Character$UnicodeScript"), (0, .class_ 598), (0, u "java/lang/Character$Subset")] 5

def k23c0 : Code := { maxStack := 2, maxLocals := 1, code := jdk_89_method_16_code, exceptionTable := #[], attributes := #[] }
def k23m0 : Method := { name := "isSurrogate", desc := "(C)Z", sig := { parameters := [.char], returnType := some .boolean }, accessFlags := 9, code := some k23c0 }
/-- java/lang/Character -/
def k23 : Class := { plain "java/lang/Character" (some 0) with
  accessFlags := 49
  interfaces := #[2, 3, 5]
  cf := some (fileOf pool23 1 #[.nestMembers #[48, 595, 307, 597]] #[{ accessFlags := 9, nameIndex := 531, descriptorIndex := 81, attributes := #[] }] 49 42 #[385, 387, 389] #[{ accessFlags := 25, nameIndex := 391, descriptorIndex := 392, attributes := #[] }, { accessFlags := 25, nameIndex := 395, descriptorIndex := 392, attributes := #[] }, { accessFlags := 25, nameIndex := 397, descriptorIndex := 22, attributes := #[] }, { accessFlags := 25, nameIndex := 399, descriptorIndex := 22, attributes := #[] }, { accessFlags := 25, nameIndex := 383, descriptorIndex := 384, attributes := #[] }, { accessFlags := 25, nameIndex := 403, descriptorIndex := 404, attributes := #[] }, { accessFlags := 25, nameIndex := 405, descriptorIndex := 404, attributes := #[] }, { accessFlags := 25, nameIndex := 407, descriptorIndex := 404, attributes := #[] }, { accessFlags := 25, nameIndex := 408, descriptorIndex := 404, attributes := #[] }, { accessFlags := 25, nameIndex := 410, descriptorIndex := 404, attributes := #[] }, { accessFlags := 25, nameIndex := 412, descriptorIndex := 404, attributes := #[] }, { accessFlags := 25, nameIndex := 414, descriptorIndex := 404, attributes := #[] }, { accessFlags := 25, nameIndex := 416, descriptorIndex := 404, attributes := #[] }, { accessFlags := 25, nameIndex := 418, descriptorIndex := 404, attributes := #[] }, { accessFlags := 25, nameIndex := 420, descriptorIndex := 404, attributes := #[] }, { accessFlags := 25, nameIndex := 422, descriptorIndex := 404, attributes := #[] }, { accessFlags := 25, nameIndex := 424, descriptorIndex := 404, attributes := #[] }, { accessFlags := 25, nameIndex := 426, descriptorIndex := 404, attributes := #[] }, { accessFlags := 25, nameIndex := 428, descriptorIndex := 404, attributes := #[] }, { accessFlags := 25, nameIndex := 430, descriptorIndex := 404, attributes := #[] }, { accessFlags := 25, nameIndex := 432, descriptorIndex := 404, attributes := #[] }, { accessFlags := 25, nameIndex := 434, descriptorIndex := 404, attributes := #[] }, { accessFlags := 25, nameIndex := 436, descriptorIndex := 404, attributes := #[] }, { accessFlags := 25, nameIndex := 438, descriptorIndex := 404, attributes := #[] }, { accessFlags := 25, nameIndex := 440, descriptorIndex := 404, attributes := #[] }, { accessFlags := 25, nameIndex := 442, descriptorIndex := 404, attributes := #[] }, { accessFlags := 25, nameIndex := 444, descriptorIndex := 404, attributes := #[] }, { accessFlags := 25, nameIndex := 446, descriptorIndex := 404, attributes := #[] }, { accessFlags := 25, nameIndex := 448, descriptorIndex := 404, attributes := #[] }, { accessFlags := 25, nameIndex := 450, descriptorIndex := 404, attributes := #[] }, { accessFlags := 25, nameIndex := 452, descriptorIndex := 404, attributes := #[] }, { accessFlags := 25, nameIndex := 454, descriptorIndex := 404, attributes := #[] }, { accessFlags := 25, nameIndex := 456, descriptorIndex := 404, attributes := #[] }, { accessFlags := 25, nameIndex := 458, descriptorIndex := 404, attributes := #[] }, { accessFlags := 25, nameIndex := 460, descriptorIndex := 404, attributes := #[] }, { accessFlags := 24, nameIndex := 462, descriptorIndex := 392, attributes := #[] }, { accessFlags := 25, nameIndex := 464, descriptorIndex := 404, attributes := #[] }, { accessFlags := 25, nameIndex := 465, descriptorIndex := 404, attributes := #[] }, { accessFlags := 25, nameIndex := 466, descriptorIndex := 404, attributes := #[] }, { accessFlags := 25, nameIndex := 467, descriptorIndex := 404, attributes := #[] }, { accessFlags := 25, nameIndex := 468, descriptorIndex := 404, attributes := #[] }, { accessFlags := 25, nameIndex := 469, descriptorIndex := 404, attributes := #[] }, { accessFlags := 25, nameIndex := 470, descriptorIndex := 404, attributes := #[] }, { accessFlags := 25, nameIndex := 471, descriptorIndex := 404, attributes := #[] }, { accessFlags := 25, nameIndex := 472, descriptorIndex := 404, attributes := #[] }, { accessFlags := 25, nameIndex := 473, descriptorIndex := 404, attributes := #[] }, { accessFlags := 25, nameIndex := 474, descriptorIndex := 404, attributes := #[] }, { accessFlags := 25, nameIndex := 475, descriptorIndex := 404, attributes := #[] }, { accessFlags := 25, nameIndex := 476, descriptorIndex := 404, attributes := #[] }, { accessFlags := 25, nameIndex := 477, descriptorIndex := 404, attributes := #[] }, { accessFlags := 25, nameIndex := 478, descriptorIndex := 404, attributes := #[] }, { accessFlags := 25, nameIndex := 479, descriptorIndex := 404, attributes := #[] }, { accessFlags := 25, nameIndex := 480, descriptorIndex := 404, attributes := #[] }, { accessFlags := 25, nameIndex := 481, descriptorIndex := 404, attributes := #[] }, { accessFlags := 25, nameIndex := 482, descriptorIndex := 404, attributes := #[] }, { accessFlags := 25, nameIndex := 484, descriptorIndex := 404, attributes := #[] }, { accessFlags := 25, nameIndex := 485, descriptorIndex := 404, attributes := #[] }, { accessFlags := 25, nameIndex := 486, descriptorIndex := 404, attributes := #[] }, { accessFlags := 25, nameIndex := 487, descriptorIndex := 404, attributes := #[] }, { accessFlags := 25, nameIndex := 488, descriptorIndex := 404, attributes := #[] }, { accessFlags := 25, nameIndex := 489, descriptorIndex := 22, attributes := #[] }, { accessFlags := 25, nameIndex := 490, descriptorIndex := 22, attributes := #[] }, { accessFlags := 25, nameIndex := 492, descriptorIndex := 22, attributes := #[] }, { accessFlags := 25, nameIndex := 493, descriptorIndex := 22, attributes := #[] }, { accessFlags := 25, nameIndex := 495, descriptorIndex := 22, attributes := #[] }, { accessFlags := 25, nameIndex := 496, descriptorIndex := 22, attributes := #[] }, { accessFlags := 25, nameIndex := 497, descriptorIndex := 392, attributes := #[] }, { accessFlags := 25, nameIndex := 498, descriptorIndex := 392, attributes := #[] }, { accessFlags := 25, nameIndex := 499, descriptorIndex := 392, attributes := #[] }, { accessFlags := 18, nameIndex := 21, descriptorIndex := 22, attributes := #[] }, { accessFlags := 26, nameIndex := 501, descriptorIndex := 502, attributes := #[] }, { accessFlags := 25, nameIndex := 505, descriptorIndex := 392, attributes := #[] }, { accessFlags := 25, nameIndex := 506, descriptorIndex := 392, attributes := #[] }, { accessFlags := 4120, nameIndex := 284, descriptorIndex := 285, attributes := #[] }])
  fields := #[{ name := "MIN_RADIX", type := .int, accessFlags := 25, slot := 0, constantValue := 0 }, { name := "MAX_RADIX", type := .int, accessFlags := 25, slot := 1, constantValue := 0 }, { name := "MIN_VALUE", type := .char, accessFlags := 25, slot := 2, constantValue := 0 }, { name := "MAX_VALUE", type := .char, accessFlags := 25, slot := 3, constantValue := 0 }, { name := "TYPE", type := (.object "java/lang/Class"), accessFlags := 25, slot := 4, constantValue := 0 }, { name := "UNASSIGNED", type := .byte, accessFlags := 25, slot := 5, constantValue := 0 }, { name := "UPPERCASE_LETTER", type := .byte, accessFlags := 25, slot := 6, constantValue := 0 }, { name := "LOWERCASE_LETTER", type := .byte, accessFlags := 25, slot := 7, constantValue := 0 }, { name := "TITLECASE_LETTER", type := .byte, accessFlags := 25, slot := 8, constantValue := 0 }, { name := "MODIFIER_LETTER", type := .byte, accessFlags := 25, slot := 9, constantValue := 0 }, { name := "OTHER_LETTER", type := .byte, accessFlags := 25, slot := 10, constantValue := 0 }, { name := "NON_SPACING_MARK", type := .byte, accessFlags := 25, slot := 11, constantValue := 0 }, { name := "ENCLOSING_MARK", type := .byte, accessFlags := 25, slot := 12, constantValue := 0 }, { name := "COMBINING_SPACING_MARK", type := .byte, accessFlags := 25, slot := 13, constantValue := 0 }, { name := "DECIMAL_DIGIT_NUMBER", type := .byte, accessFlags := 25, slot := 14, constantValue := 0 }, { name := "LETTER_NUMBER", type := .byte, accessFlags := 25, slot := 15, constantValue := 0 }, { name := "OTHER_NUMBER", type := .byte, accessFlags := 25, slot := 16, constantValue := 0 }, { name := "SPACE_SEPARATOR", type := .byte, accessFlags := 25, slot := 17, constantValue := 0 }, { name := "LINE_SEPARATOR", type := .byte, accessFlags := 25, slot := 18, constantValue := 0 }, { name := "PARAGRAPH_SEPARATOR", type := .byte, accessFlags := 25, slot := 19, constantValue := 0 }, { name := "CONTROL", type := .byte, accessFlags := 25, slot := 20, constantValue := 0 }, { name := "FORMAT", type := .byte, accessFlags := 25, slot := 21, constantValue := 0 }, { name := "PRIVATE_USE", type := .byte, accessFlags := 25, slot := 22, constantValue := 0 }, { name := "SURROGATE", type := .byte, accessFlags := 25, slot := 23, constantValue := 0 }, { name := "DASH_PUNCTUATION", type := .byte, accessFlags := 25, slot := 24, constantValue := 0 }, { name := "START_PUNCTUATION", type := .byte, accessFlags := 25, slot := 25, constantValue := 0 }, { name := "END_PUNCTUATION", type := .byte, accessFlags := 25, slot := 26, constantValue := 0 }, { name := "CONNECTOR_PUNCTUATION", type := .byte, accessFlags := 25, slot := 27, constantValue := 0 }, { name := "OTHER_PUNCTUATION", type := .byte, accessFlags := 25, slot := 28, constantValue := 0 }, { name := "MATH_SYMBOL", type := .byte, accessFlags := 25, slot := 29, constantValue := 0 }, { name := "CURRENCY_SYMBOL", type := .byte, accessFlags := 25, slot := 30, constantValue := 0 }, { name := "MODIFIER_SYMBOL", type := .byte, accessFlags := 25, slot := 31, constantValue := 0 }, { name := "OTHER_SYMBOL", type := .byte, accessFlags := 25, slot := 32, constantValue := 0 }, { name := "INITIAL_QUOTE_PUNCTUATION", type := .byte, accessFlags := 25, slot := 33, constantValue := 0 }, { name := "FINAL_QUOTE_PUNCTUATION", type := .byte, accessFlags := 25, slot := 34, constantValue := 0 }, { name := "ERROR", type := .int, accessFlags := 24, slot := 35, constantValue := 0 }, { name := "DIRECTIONALITY_UNDEFINED", type := .byte, accessFlags := 25, slot := 36, constantValue := 0 }, { name := "DIRECTIONALITY_LEFT_TO_RIGHT", type := .byte, accessFlags := 25, slot := 37, constantValue := 0 }, { name := "DIRECTIONALITY_RIGHT_TO_LEFT", type := .byte, accessFlags := 25, slot := 38, constantValue := 0 }, { name := "DIRECTIONALITY_RIGHT_TO_LEFT_ARABIC", type := .byte, accessFlags := 25, slot := 39, constantValue := 0 }, { name := "DIRECTIONALITY_EUROPEAN_NUMBER", type := .byte, accessFlags := 25, slot := 40, constantValue := 0 }, { name := "DIRECTIONALITY_EUROPEAN_NUMBER_SEPARATOR", type := .byte, accessFlags := 25, slot := 41, constantValue := 0 }, { name := "DIRECTIONALITY_EUROPEAN_NUMBER_TERMINATOR", type := .byte, accessFlags := 25, slot := 42, constantValue := 0 }, { name := "DIRECTIONALITY_ARABIC_NUMBER", type := .byte, accessFlags := 25, slot := 43, constantValue := 0 }, { name := "DIRECTIONALITY_COMMON_NUMBER_SEPARATOR", type := .byte, accessFlags := 25, slot := 44, constantValue := 0 }, { name := "DIRECTIONALITY_NONSPACING_MARK", type := .byte, accessFlags := 25, slot := 45, constantValue := 0 }, { name := "DIRECTIONALITY_BOUNDARY_NEUTRAL", type := .byte, accessFlags := 25, slot := 46, constantValue := 0 }, { name := "DIRECTIONALITY_PARAGRAPH_SEPARATOR", type := .byte, accessFlags := 25, slot := 47, constantValue := 0 }, { name := "DIRECTIONALITY_SEGMENT_SEPARATOR", type := .byte, accessFlags := 25, slot := 48, constantValue := 0 }, { name := "DIRECTIONALITY_WHITESPACE", type := .byte, accessFlags := 25, slot := 49, constantValue := 0 }, { name := "DIRECTIONALITY_OTHER_NEUTRALS", type := .byte, accessFlags := 25, slot := 50, constantValue := 0 }, { name := "DIRECTIONALITY_LEFT_TO_RIGHT_EMBEDDING", type := .byte, accessFlags := 25, slot := 51, constantValue := 0 }, { name := "DIRECTIONALITY_LEFT_TO_RIGHT_OVERRIDE", type := .byte, accessFlags := 25, slot := 52, constantValue := 0 }, { name := "DIRECTIONALITY_RIGHT_TO_LEFT_EMBEDDING", type := .byte, accessFlags := 25, slot := 53, constantValue := 0 }, { name := "DIRECTIONALITY_RIGHT_TO_LEFT_OVERRIDE", type := .byte, accessFlags := 25, slot := 54, constantValue := 0 }, { name := "DIRECTIONALITY_POP_DIRECTIONAL_FORMAT", type := .byte, accessFlags := 25, slot := 55, constantValue := 0 }, { name := "DIRECTIONALITY_LEFT_TO_RIGHT_ISOLATE", type := .byte, accessFlags := 25, slot := 56, constantValue := 0 }, { name := "DIRECTIONALITY_RIGHT_TO_LEFT_ISOLATE", type := .byte, accessFlags := 25, slot := 57, constantValue := 0 }, { name := "DIRECTIONALITY_FIRST_STRONG_ISOLATE", type := .byte, accessFlags := 25, slot := 58, constantValue := 0 }, { name := "DIRECTIONALITY_POP_DIRECTIONAL_ISOLATE", type := .byte, accessFlags := 25, slot := 59, constantValue := 0 }, { name := "MIN_HIGH_SURROGATE", type := .char, accessFlags := 25, slot := 60, constantValue := 0 }, { name := "MAX_HIGH_SURROGATE", type := .char, accessFlags := 25, slot := 61, constantValue := 0 }, { name := "MIN_LOW_SURROGATE", type := .char, accessFlags := 25, slot := 62, constantValue := 0 }, { name := "MAX_LOW_SURROGATE", type := .char, accessFlags := 25, slot := 63, constantValue := 0 }, { name := "MIN_SURROGATE", type := .char, accessFlags := 25, slot := 64, constantValue := 0 }, { name := "MAX_SURROGATE", type := .char, accessFlags := 25, slot := 65, constantValue := 0 }, { name := "MIN_SUPPLEMENTARY_CODE_POINT", type := .int, accessFlags := 25, slot := 66, constantValue := 0 }, { name := "MIN_CODE_POINT", type := .int, accessFlags := 25, slot := 67, constantValue := 0 }, { name := "MAX_CODE_POINT", type := .int, accessFlags := 25, slot := 68, constantValue := 0 }, { name := "value", type := .char, accessFlags := 18, slot := 0, constantValue := 0 }, { name := "serialVersionUID", type := .long, accessFlags := 26, slot := 69, constantValue := 0 }, { name := "SIZE", type := .int, accessFlags := 25, slot := 70, constantValue := 0 }, { name := "BYTES", type := .int, accessFlags := 25, slot := 71, constantValue := 0 }, { name := "$assertionsDisabled", type := .boolean, accessFlags := 4120, slot := 72, constantValue := 0 }]
  methods := #[k23m0]
  instanceTypes := #[.char]
  staticTypes := #[.int, .int, .char, .char, (.object "java/lang/Class"), .byte, .byte, .byte, .byte, .byte, .byte, .byte, .byte, .byte, .byte, .byte, .byte, .byte, .byte, .byte, .byte, .byte, .byte, .byte, .byte, .byte, .byte, .byte, .byte, .byte, .byte, .byte, .byte, .byte, .byte, .int, .byte, .byte, .byte, .byte, .byte, .byte, .byte, .byte, .byte, .byte, .byte, .byte, .byte, .byte, .byte, .byte, .byte, .byte, .byte, .byte, .byte, .byte, .byte, .byte, .char, .char, .char, .char, .char, .char, .int, .int, .int, .long, .int, .int, .boolean]
  resolved := Array.replicate 604 none
  statics := none }

def pool24 : Array CpInfo := pool [(9, u "<init>"), (6, .class_ 18), (1, u "java/lang/Object"), (0, u "()V"), (1, .class_ 23), (1, u "jdk/internal/util/ArraysSupport"), (0, u "LOG2_ARRAY_LONG_INDEX_SCALE"), (0, u "I"), (2, u "U"), (0, u "Ljdk/internal/misc/Unsafe;"), (8, u "BIG_ENDIAN"), (0, u "Z"), (8, u "LOG2_BYTE_BIT_SIZE"), (4, u "LOG2_ARRAY_INT_INDEX_SCALE"), (54, u "JLA"), (0, u "Ljdk/internal/access/JavaLangAccess;"), (11, u "LOG2_ARRAY_BOOLEAN_INDEX_SCALE"), (9, u "LOG2_ARRAY_BYTE_INDEX_SCALE"), (5, u "LOG2_ARRAY_CHAR_INDEX_SCALE"), (5, u "LOG2_ARRAY_SHORT_INDEX_SCALE"), (18, u "LOG2_ARRAY_FLOAT_INDEX_SCALE"), (24, u "LOG2_ARRAY_DOUBLE_INDEX_SCALE"), (89, u "T_BOOLEAN"), (2, u "T_CHAR"), (1, u "T_FLOAT"), (1, u "T_DOUBLE"), (1, u "T_BYTE"), (1, u "T_SHORT"), (1, u "T_INT"), (1, u "T_LONG"), (1, u "SOFT_MAX_ARRAY_LENGTH")] 83

def k24m0 : Method := { name := "<init>", desc := "()V", sig := { parameters := [], returnType := none }, accessFlags := 2, code := none }
/-- jdk/internal/util/ArraysSupport -/
def k24 : Class := { plain "jdk/internal/util/ArraysSupport" (some 0) with
  accessFlags := 33
  interfaces := #[]
  cf := some (fileOf pool24 21 #[] #[{ accessFlags := 2, nameIndex := 9, descriptorIndex := 19, attributes := #[] }] 33 16 #[] #[{ accessFlags := 24, nameIndex := 28, descriptorIndex := 29, attributes := #[] }, { accessFlags := 26, nameIndex := 38, descriptorIndex := 39, attributes := #[] }, { accessFlags := 25, nameIndex := 121, descriptorIndex := 25, attributes := #[] }, { accessFlags := 25, nameIndex := 131, descriptorIndex := 25, attributes := #[] }, { accessFlags := 25, nameIndex := 137, descriptorIndex := 25, attributes := #[] }, { accessFlags := 25, nameIndex := 143, descriptorIndex := 25, attributes := #[] }, { accessFlags := 25, nameIndex := 53, descriptorIndex := 25, attributes := #[] }, { accessFlags := 25, nameIndex := 24, descriptorIndex := 25, attributes := #[] }, { accessFlags := 25, nameIndex := 162, descriptorIndex := 25, attributes := #[] }, { accessFlags := 25, nameIndex := 187, descriptorIndex := 25, attributes := #[] }, { accessFlags := 26, nameIndex := 48, descriptorIndex := 25, attributes := #[] }, { accessFlags := 25, nameIndex := 277, descriptorIndex := 25, attributes := #[] }, { accessFlags := 25, nameIndex := 280, descriptorIndex := 25, attributes := #[] }, { accessFlags := 25, nameIndex := 282, descriptorIndex := 25, attributes := #[] }, { accessFlags := 25, nameIndex := 284, descriptorIndex := 25, attributes := #[] }, { accessFlags := 25, nameIndex := 286, descriptorIndex := 25, attributes := #[] }, { accessFlags := 25, nameIndex := 288, descriptorIndex := 25, attributes := #[] }, { accessFlags := 25, nameIndex := 290, descriptorIndex := 25, attributes := #[] }, { accessFlags := 25, nameIndex := 292, descriptorIndex := 25, attributes := #[] }, { accessFlags := 26, nameIndex := 108, descriptorIndex := 109, attributes := #[] }, { accessFlags := 25, nameIndex := 294, descriptorIndex := 25, attributes := #[] }])
  fields := #[{ name := "U", type := (.object "jdk/internal/misc/Unsafe"), accessFlags := 24, slot := 0, constantValue := 0 }, { name := "BIG_ENDIAN", type := .boolean, accessFlags := 26, slot := 1, constantValue := 0 }, { name := "LOG2_ARRAY_BOOLEAN_INDEX_SCALE", type := .int, accessFlags := 25, slot := 2, constantValue := 0 }, { name := "LOG2_ARRAY_BYTE_INDEX_SCALE", type := .int, accessFlags := 25, slot := 3, constantValue := 0 }, { name := "LOG2_ARRAY_CHAR_INDEX_SCALE", type := .int, accessFlags := 25, slot := 4, constantValue := 0 }, { name := "LOG2_ARRAY_SHORT_INDEX_SCALE", type := .int, accessFlags := 25, slot := 5, constantValue := 0 }, { name := "LOG2_ARRAY_INT_INDEX_SCALE", type := .int, accessFlags := 25, slot := 6, constantValue := 0 }, { name := "LOG2_ARRAY_LONG_INDEX_SCALE", type := .int, accessFlags := 25, slot := 7, constantValue := 0 }, { name := "LOG2_ARRAY_FLOAT_INDEX_SCALE", type := .int, accessFlags := 25, slot := 8, constantValue := 0 }, { name := "LOG2_ARRAY_DOUBLE_INDEX_SCALE", type := .int, accessFlags := 25, slot := 9, constantValue := 0 }, { name := "LOG2_BYTE_BIT_SIZE", type := .int, accessFlags := 26, slot := 10, constantValue := 0 }, { name := "T_BOOLEAN", type := .int, accessFlags := 25, slot := 11, constantValue := 0 }, { name := "T_CHAR", type := .int, accessFlags := 25, slot := 12, constantValue := 0 }, { name := "T_FLOAT", type := .int, accessFlags := 25, slot := 13, constantValue := 0 }, { name := "T_DOUBLE", type := .int, accessFlags := 25, slot := 14, constantValue := 0 }, { name := "T_BYTE", type := .int, accessFlags := 25, slot := 15, constantValue := 0 }, { name := "T_SHORT", type := .int, accessFlags := 25, slot := 16, constantValue := 0 }, { name := "T_INT", type := .int, accessFlags := 25, slot := 17, constantValue := 0 }, { name := "T_LONG", type := .int, accessFlags := 25, slot := 18, constantValue := 0 }, { name := "JLA", type := (.object "jdk/internal/access/JavaLangAccess"), accessFlags := 26, slot := 19, constantValue := 0 }, { name := "SOFT_MAX_ARRAY_LENGTH", type := .int, accessFlags := 25, slot := 20, constantValue := 0 }]
  methods := #[k24m0]
  instanceTypes := #[]
  staticTypes := #[(.object "jdk/internal/misc/Unsafe"), .boolean, .int, .int, .int, .int, .int, .int, .int, .int, .int, .int, .int, .int, .int, .int, .int, .int, .int, (.object "jdk/internal/access/JavaLangAccess"), .int]
  resolved := Array.replicate 378 none
  statics := none }

/-- the primitive byte -/
def k25 : Class := { plain "byte" none with kind := .primitive 'B', accessFlags := 0x411 }
/-- [B -/
def k26 : Class := { plain "[B" (some 0) with kind := .array 25 .byte, interfaces := #[16, 2], accessFlags := 1041 }

/-- the primitive char -/
def k27 : Class := { plain "char" none with kind := .primitive 'C', accessFlags := 0x411 }
/-- [C -/
def k28 : Class := { plain "[C" (some 0) with kind := .array 27 .char, interfaces := #[16, 2], accessFlags := 1041 }

/-- the primitive int -/
def k29 : Class := { plain "int" none with kind := .primitive 'I', accessFlags := 0x411 }
/-- [I -/
def k30 : Class := { plain "[I" (some 0) with kind := .array 29 .int, interfaces := #[16, 2], accessFlags := 1041 }

/-- [[B -/
def k31 : Class := { plain "[[B" (some 0) with kind := .array 26 (.array .byte), interfaces := #[16, 2], accessFlags := 1041 }

/-- [Ljava/lang/String; -/
def k32 : Class := { plain "[Ljava/lang/String;" (some 0) with kind := .array 7 (.object "java/lang/String"), interfaces := #[16, 2], accessFlags := 1041 }

def heap : Heap := #[{ cls := 7, slots := #[.long 0, .int 1, .null, .int 0, .null, .int 0, .int 0], vm := .statics 7 },
  { cls := 8, slots := #[.int 0, .int 8, .int 0, .int 1], vm := .statics 8 },
  { cls := 10, slots := #[.null, .null, .ref 6, .null, .null, .null], vm := .statics 10 },
  { cls := 14, slots := #[.ref 6, .null], vm := .statics 14 },
  { cls := 19, slots := #[.null, .null, .null], vm := .statics 19 },
  { cls := 31, slots := #[], vm := .none },
  { cls := 14, slots := #[.null, .null, .null], vm := .none }]
def classes : Array Class := #[k0, k1, k2, k3, k4, k5, k6, k7, k8, k9, k10, k11, k12, k13, k14, k15, k16, k17, k18, k19, k20, k21, k22, k23, k24, k25, k26, k27, k28, k29, k30, k31, k32]
def interned : List (Array UInt16 × Addr) := []
def slotsUsed : Nat := 25
def theMethod : MethodId := ⟨1, 3⟩
def args0 : Array Value := #[.int 3, .int 228, .int 65, .int 300, .int 40000, .int 7]
def aboutOver (below : List Frame) : State where
  vm := { classes := classes, interned := interned.toArray }
  heap := heap
  slotsUsed := slotsUsed
  threads := #[{ frames := .invoking theMethod args0 :: below }]
def below0 : List Frame := [.native { method := ⟨0, 0⟩, args := #[] }]
def about1 : State := aboutOver below0
def p0 : Program := .bare "" "" ""
def e0 : Env := launch0.env 0 0 0
theorem w_frames : about1.frames = Frame.invoking theMethod args0 :: below0 := rfl
set_option maxRecDepth 65536 in
theorem w_args : argsFit about1.vm theMethod args0 = true := by decide +kernel
set_option maxRecDepth 65536 in
theorem w_heap : heapFits about1 = true := by decide +kernel
set_option maxRecDepth 65536 in
theorem w_runnable : about1.curStatus? = some .runnable := by decide +kernel
set_option maxRecDepth 65536 in
theorem w_alone : about1.alone = true := by decide +kernel
set_option maxRecDepth 65536 in
theorem w_named : about1.methodNamed? x = some theMethod := by decide +kernel
set_option maxRecDepth 65536 in
theorem w_hears : about1.hears theMethod below0 = true := by decide +kernel
set_option maxRecDepth 65536 in
theorem w_ripe : about1.ripe theMethod args0 below0 = true := by decide +kernel
theorem w_running : about1.status = .running := rfl
set_option maxRecDepth 65536 in
theorem w_room : about1.hasRoom e0.platform room_1 = true :=
  launch0.hasRoom_least _ room_1 (by decide +kernel) (by decide +kernel) (by decide +kernel) (by decide +kernel) (by decide +kernel) (by decide +kernel)
theorem allAtoms_all (ts : List Jvm.Cond) (a : Array Jvm.Value) (st : Jvm.State) : (allAtoms ts).before a st = ts.all (fun c => c.before a st) := by
  induction ts with
  | nil => rfl
  | cons c t ih =>
    show (Jvm.Cond.and c (allAtoms t)).before a st = _
    rw [Jvm.Cond.before_and, ih, List.all_cons]
def words1 : List Jvm.Cond := Jvm.Cond.code x code maxLocals ret :: tables_1
/-- a 'code' word, met by the world's own term for the bytes: nothing is compared byte by byte -/
theorem code_word {y : MethodName} {bytes : ByteArray} {mx : Nat} {rt : Option FieldType} {a : Array Value} {s : State} {m : MethodId} {meth : Method} {c : Code} (h1 : s.methodNamed? y = some m) (h2 : s.vm.method? m = some meth) (h3 : meth.code = some c) (h4 : c.code = bytes)
    (h5 : (c.maxLocals == mx && c.exceptionTable.isEmpty && decide (c.maxStack ≤ mostOperands) && decide (meth.sig.returnType = rt) && !meth.locks && decide (parseMethodDescriptor y.desc = some meth.sig)) = true) : (Jvm.Cond.code y bytes mx rt).before a s = true := by
  simp only [Bool.and_eq_true, beq_iff_eq, Bool.not_eq_true', decide_eq_true_eq] at h5
  obtain ⟨⟨⟨⟨⟨g1, g2⟩, g3⟩, g4⟩, g5⟩, g6⟩ := h5
  simp [Cond.before, Cond.holds, Cond.value, h1, h2, h3, h4, g1, g2, g3, g4, g5, g6]
theorem codeWith_word {y : MethodName} {bytes : ByteArray} {mx : Nat} {rt : Option FieldType} {hs : List (Nat × Nat × Nat × Nat)} {a : Array Value} {s : State} {m : MethodId} {meth : Method} {c : Code} (h1 : s.methodNamed? y = some m) (h2 : s.vm.method? m = some meth) (h3 : meth.code = some c) (h4 : c.code = bytes)
    (h5 : (c.maxLocals == mx && decide (c.exceptionTable.toList.map (fun h => (h.startPc, h.endPc, h.handlerPc, h.catchType)) = hs) && decide (c.maxStack ≤ mostOperands) && decide (meth.sig.returnType = rt) && !meth.locks && decide (parseMethodDescriptor y.desc = some meth.sig)) = true) : (Jvm.Cond.codeWith y bytes mx rt hs).before a s = true := by
  simp only [Bool.and_eq_true, beq_iff_eq, Bool.not_eq_true', decide_eq_true_eq] at h5
  obtain ⟨⟨⟨⟨⟨g1, g2⟩, g3⟩, g4⟩, g5⟩, g6⟩ := h5
  simp [Cond.before, Cond.holds, Cond.value, h1, h2, h3, h4, g1, g2, g3, g4, g5, g6]
def isCode : Jvm.Cond → Bool
  | .code _ _ _ _ => true
  | .codeWith _ _ _ _ _ => true
  | _ => false
theorem all_split {L : List Jvm.Cond} {P : Jvm.Cond → Bool} (h1 : L.all (fun c => isCode c || P c) = true) (h2 : ∀ c ∈ L.filter isCode, P c = true) : L.all P = true := by
  refine List.all_eq_true.mpr fun c hc => ?_
  have h := List.all_eq_true.mp h1 c hc
  rcases Bool.eq_false_or_eq_true (isCode c) with hi | hi
  · exact h2 c (List.mem_filter.mpr ⟨hc, hi⟩)
  · simpa [hi] using h
set_option maxRecDepth 65536 in
theorem w_c0 : (Jvm.Cond.code x code maxLocals ret).before args0 about1 = true := code_word (m := ⟨1, 3⟩) (meth := k1m3) (c := k1c3) (by decide +kernel) rfl rfl rfl (by decide +kernel)
set_option maxRecDepth 65536 in
theorem w_c1 : (Jvm.Cond.code ({ cls := "com/example/vestwright/vestwright/cli/TableRowsCellsPinLaw", name := "pick", desc := "(II)Ljava/lang/String;" } : Jvm.MethodName) method_3_code (6 : Nat) (Option.some (Jvm.ClassFile.FieldType.object "java/lang/String"))).before args0 about1 = true := code_word (m := ⟨1, 2⟩) (meth := k1m2) (c := k1c2) (by decide +kernel) rfl rfl rfl (by decide +kernel)
set_option maxRecDepth 65536 in
theorem w_c2 : (Jvm.Cond.code ({ cls := "com/example/vestwright/vestwright/cli/TableRowsCellsPinLaw", name := "ch", desc := "(I)C" } : Jvm.MethodName) method_2_code (1 : Nat) (Option.some Jvm.ClassFile.FieldType.char)).before args0 about1 = true := code_word (m := ⟨1, 1⟩) (meth := k1m1) (c := k1c1) (by decide +kernel) rfl rfl rfl (by decide +kernel)
set_option maxRecDepth 65536 in
theorem w_c3 : (Jvm.Cond.code ({ cls := "java/lang/String", name := "<init>", desc := "([C)V" } : Jvm.MethodName) jdk_42_method_3_code (2 : Nat) (Option.none : Option Jvm.ClassFile.FieldType)).before args0 about1 = true := code_word (m := ⟨7, 1⟩) (meth := k7m1) (c := k7c1) (by decide +kernel) rfl rfl rfl (by decide +kernel)
set_option maxRecDepth 65536 in
theorem w_c4 : (Jvm.Cond.code ({ cls := "java/lang/String", name := "<init>", desc := "([CIILjava/lang/Void;)V" } : Jvm.MethodName) jdk_42_method_149_code (6 : Nat) (Option.none : Option Jvm.ClassFile.FieldType)).before args0 about1 = true := code_word (m := ⟨7, 14⟩) (meth := k7m14) (c := k7c14) (by decide +kernel) rfl rfl rfl (by decide +kernel)
set_option maxRecDepth 65536 in
theorem w_c5 : (Jvm.Cond.code ({ cls := "java/lang/Object", name := "<init>", desc := "()V" } : Jvm.MethodName) object_method_1_code (1 : Nat) (Option.none : Option Jvm.ClassFile.FieldType)).before args0 about1 = true := code_word (m := ⟨0, 0⟩) (meth := k0m0) (c := k0c0) (by decide +kernel) rfl rfl rfl (by decide +kernel)
set_option maxRecDepth 65536 in
theorem w_c6 : (Jvm.Cond.code ({ cls := "java/lang/StringUTF16", name := "compress", desc := "([CII)[B" } : Jvm.MethodName) jdk_52_method_16_code (6 : Nat) (Option.some (Jvm.ClassFile.FieldType.array Jvm.ClassFile.FieldType.byte))).before args0 about1 = true := code_word (m := ⟨8, 8⟩) (meth := k8m8) (c := k8c8) (by decide +kernel) rfl rfl rfl (by decide +kernel)
set_option maxRecDepth 65536 in
theorem w_c7 : (Jvm.Cond.code ({ cls := "java/lang/StringUTF16", name := "compress", desc := "([CI[BII)I" } : Jvm.MethodName) jdk_52_method_21_code (7 : Nat) (Option.some Jvm.ClassFile.FieldType.int)).before args0 about1 = true := code_word (m := ⟨8, 9⟩) (meth := k8m9) (c := k8c9) (by decide +kernel) rfl rfl rfl (by decide +kernel)
set_option maxRecDepth 65536 in
theorem w_c8 : (Jvm.Cond.code ({ cls := "java/lang/StringUTF16", name := "coderFromArrayLen", desc := "([BI)B" } : Jvm.MethodName) jdk_52_method_15_code (2 : Nat) (Option.some Jvm.ClassFile.FieldType.byte)).before args0 about1 = true := code_word (m := ⟨8, 7⟩) (meth := k8m7) (c := k8c7) (by decide +kernel) rfl rfl rfl (by decide +kernel)
set_option maxRecDepth 65536 in
theorem w_c9 : (Jvm.Cond.code ({ cls := "com/example/vestwright/vestwright/cli/TableRows", name := "<init>", desc := "(I)V" } : Jvm.MethodName) prog_15_method_1_code (2 : Nat) (Option.none : Option Jvm.ClassFile.FieldType)).before args0 about1 = true := code_word (m := ⟨9, 0⟩) (meth := k9m0) (c := k9c0) (by decide +kernel) rfl rfl rfl (by decide +kernel)
set_option maxRecDepth 65536 in
theorem w_c10 : (Jvm.Cond.code ({ cls := "com/example/vestwright/vestwright/cli/TableRows", name := "add", desc := "([Ljava/lang/String;I)Z" } : Jvm.MethodName) prog_15_method_2_code (11 : Nat) (Option.some Jvm.ClassFile.FieldType.boolean)).before args0 about1 = true := code_word (m := ⟨9, 1⟩) (meth := k9m1) (c := k9c1) (by decide +kernel) rfl rfl rfl (by decide +kernel)
set_option maxRecDepth 65536 in
theorem w_c11 : (Jvm.Cond.code ({ cls := "java/lang/String", name := "getBytes", desc := "(Ljava/nio/charset/Charset;)[B" } : Jvm.MethodName) jdk_42_method_64_code (2 : Nat) (Option.some (Jvm.ClassFile.FieldType.array Jvm.ClassFile.FieldType.byte))).before args0 about1 = true := code_word (m := ⟨7, 12⟩) (meth := k7m12) (c := k7c12) (by decide +kernel) rfl rfl rfl (by decide +kernel)
set_option maxRecDepth 65536 in
theorem w_c12 : (Jvm.Cond.code ({ cls := "java/lang/String", name := "coder", desc := "()B" } : Jvm.MethodName) jdk_42_method_152_code (1 : Nat) (Option.some Jvm.ClassFile.FieldType.byte)).before args0 about1 = true := code_word (m := ⟨7, 15⟩) (meth := k7m15) (c := k7c15) (by decide +kernel) rfl rfl rfl (by decide +kernel)
set_option maxRecDepth 65536 in
theorem w_c13 : (Jvm.Cond.code ({ cls := "java/lang/String", name := "encode", desc := "(Ljava/nio/charset/Charset;B[B)[B" } : Jvm.MethodName) jdk_42_method_18_code (3 : Nat) (Option.some (Jvm.ClassFile.FieldType.array Jvm.ClassFile.FieldType.byte))).before args0 about1 = true := code_word (m := ⟨7, 4⟩) (meth := k7m4) (c := k7c4) (by decide +kernel) rfl rfl rfl (by decide +kernel)
set_option maxRecDepth 65536 in
theorem w_c14 : (Jvm.Cond.code ({ cls := "java/lang/String", name := "encodeUTF8", desc := "(B[BZ)[B" } : Jvm.MethodName) jdk_42_method_46_code (9 : Nat) (Option.some (Jvm.ClassFile.FieldType.array Jvm.ClassFile.FieldType.byte))).before args0 about1 = true := code_word (m := ⟨7, 10⟩) (meth := k7m10) (c := k7c10) (by decide +kernel) rfl rfl rfl (by decide +kernel)
set_option maxRecDepth 65536 in
theorem w_c15 : (Jvm.Cond.code ({ cls := "java/lang/StringCoding", name := "hasNegatives", desc := "([BII)Z" } : Jvm.MethodName) jdk_123_method_2_code (3 : Nat) (Option.some Jvm.ClassFile.FieldType.boolean)).before args0 about1 = true := code_word (m := ⟨15, 1⟩) (meth := k15m1) (c := k15c1) (by decide +kernel) rfl rfl rfl (by decide +kernel)
set_option maxRecDepth 65536 in
theorem w_c16 : (Jvm.Cond.code ({ cls := "java/lang/StringCoding", name := "countPositives", desc := "([BII)I" } : Jvm.MethodName) jdk_123_method_3_code (5 : Nat) (Option.some Jvm.ClassFile.FieldType.int)).before args0 about1 = true := code_word (m := ⟨15, 2⟩) (meth := k15m2) (c := k15c2) (by decide +kernel) rfl rfl rfl (by decide +kernel)
set_option maxRecDepth 65536 in
theorem w_c17 : (Jvm.Cond.code ({ cls := "com/example/vestwright/vestwright/cli/TableRows", name := "ensureRoom", desc := "(I)V" } : Jvm.MethodName) prog_15_method_8_code (3 : Nat) (Option.none : Option Jvm.ClassFile.FieldType)).before args0 about1 = true := code_word (m := ⟨9, 4⟩) (meth := k9m4) (c := k9c4) (by decide +kernel) rfl rfl rfl (by decide +kernel)
set_option maxRecDepth 65536 in
theorem w_c18 : (Jvm.Cond.code ({ cls := "com/example/vestwright/vestwright/cli/TableRows", name := "writeLength", desc := "(I)V" } : Jvm.MethodName) prog_15_method_7_code (3 : Nat) (Option.none : Option Jvm.ClassFile.FieldType)).before args0 about1 = true := code_word (m := ⟨9, 3⟩) (meth := k9m3) (c := k9c3) (by decide +kernel) rfl rfl rfl (by decide +kernel)
set_option maxRecDepth 65536 in
theorem w_c19 : (Jvm.Cond.code ({ cls := "com/example/vestwright/vestwright/cli/TableRows", name := "cells", desc := "(I)[Ljava/lang/String;" } : Jvm.MethodName) prog_15_method_5_code (8 : Nat) (Option.some (Jvm.ClassFile.FieldType.array (Jvm.ClassFile.FieldType.object "java/lang/String")))).before args0 about1 = true := code_word (m := ⟨9, 2⟩) (meth := k9m2) (c := k9c2) (by decide +kernel) rfl rfl rfl (by decide +kernel)
set_option maxRecDepth 65536 in
theorem w_c20 : (Jvm.Cond.code ({ cls := "java/lang/String", name := "<init>", desc := "([BIILjava/nio/charset/Charset;)V" } : Jvm.MethodName) jdk_42_method_10_code (5 : Nat) (Option.none : Option Jvm.ClassFile.FieldType)).before args0 about1 = true := code_word (m := ⟨7, 2⟩) (meth := k7m2) (c := k7c2) (by decide +kernel) rfl rfl rfl (by decide +kernel)
set_option maxRecDepth 65536 in
theorem w_c21 : (Jvm.Cond.code ({ cls := "java/util/Objects", name := "requireNonNull", desc := "(Ljava/lang/Object;)Ljava/lang/Object;" } : Jvm.MethodName) jdk_31_method_10_code (1 : Nat) (Option.some (Jvm.ClassFile.FieldType.object "java/lang/Object"))).before args0 about1 = true := code_word (m := ⟨18, 1⟩) (meth := k18m1) (c := k18c1) (by decide +kernel) rfl rfl rfl (by decide +kernel)
set_option maxRecDepth 65536 in
theorem w_c22 : (Jvm.Cond.code ({ cls := "java/lang/String", name := "checkBoundsOffCount", desc := "(III)I" } : Jvm.MethodName) jdk_42_method_157_code (3 : Nat) (Option.some Jvm.ClassFile.FieldType.int)).before args0 about1 = true := code_word (m := ⟨7, 16⟩) (meth := k7m16) (c := k7c16) (by decide +kernel) rfl rfl rfl (by decide +kernel)
set_option maxRecDepth 65536 in
theorem w_c23 : (Jvm.Cond.code ({ cls := "jdk/internal/util/Preconditions", name := "checkFromIndexSize", desc := "(IIILjava/util/function/BiFunction;)I" } : Jvm.MethodName) jdk_41_method_13_code (4 : Nat) (Option.some Jvm.ClassFile.FieldType.int)).before args0 about1 = true := code_word (m := ⟨19, 1⟩) (meth := k19m1) (c := k19c1) (by decide +kernel) rfl rfl rfl (by decide +kernel)
set_option maxRecDepth 65536 in
theorem w_c24 : (Jvm.Cond.code ({ cls := "java/util/Arrays", name := "copyOfRange", desc := "([BII)[B" } : Jvm.MethodName) jdk_65_method_132_code (3 : Nat) (Option.some (Jvm.ClassFile.FieldType.array Jvm.ClassFile.FieldType.byte))).before args0 about1 = true := code_word (m := ⟨20, 3⟩) (meth := k20m3) (c := k20c3) (by decide +kernel) rfl rfl rfl (by decide +kernel)
set_option maxRecDepth 65536 in
theorem w_c25 : (Jvm.Cond.code ({ cls := "java/util/Arrays", name := "copyOfRangeByte", desc := "([BII)[B" } : Jvm.MethodName) jdk_65_method_133_code (5 : Nat) (Option.some (Jvm.ClassFile.FieldType.array Jvm.ClassFile.FieldType.byte))).before args0 about1 = true := code_word (m := ⟨20, 4⟩) (meth := k20m4) (c := k20c4) (by decide +kernel) rfl rfl rfl (by decide +kernel)
set_option maxRecDepth 65536 in
theorem w_c26 : (Jvm.Cond.code ({ cls := "java/util/Arrays", name := "checkLength", desc := "(II)V" } : Jvm.MethodName) jdk_65_method_131_code (2 : Nat) (Option.none : Option Jvm.ClassFile.FieldType)).before args0 about1 = true := code_word (m := ⟨20, 2⟩) (meth := k20m2) (c := k20c2) (by decide +kernel) rfl rfl rfl (by decide +kernel)
set_option maxRecDepth 65536 in
theorem w_c27 : (Jvm.Cond.code ({ cls := "java/lang/Math", name := "min", desc := "(II)I" } : Jvm.MethodName) jdk_29_method_69_code (2 : Nat) (Option.some Jvm.ClassFile.FieldType.int)).before args0 about1 = true := code_word (m := ⟨21, 1⟩) (meth := k21m1) (c := k21c1) (by decide +kernel) rfl rfl rfl (by decide +kernel)
set_option maxRecDepth 65536 in
theorem w_c28 : (Jvm.Cond.code ({ cls := "java/lang/String", name := "equals", desc := "(Ljava/lang/Object;)Z" } : Jvm.MethodName) jdk_42_method_66_code (3 : Nat) (Option.some Jvm.ClassFile.FieldType.boolean)).before args0 about1 = true := code_word (m := ⟨7, 13⟩) (meth := k7m13) (c := k7c13) (by decide +kernel) rfl rfl rfl (by decide +kernel)
set_option maxRecDepth 65536 in
theorem w_c29 : (Jvm.Cond.code ({ cls := "java/lang/StringLatin1", name := "equals", desc := "([B[B)Z" } : Jvm.MethodName) jdk_43_method_13_code (3 : Nat) (Option.some Jvm.ClassFile.FieldType.boolean)).before args0 about1 = true := code_word (m := ⟨22, 1⟩) (meth := k22m1) (c := k22c1) (by decide +kernel) rfl rfl rfl (by decide +kernel)
set_option maxRecDepth 65536 in
theorem w_c30 : (Jvm.Cond.code ({ cls := "java/lang/StringUTF16", name := "newBytesFor", desc := "(I)[B" } : Jvm.MethodName) jdk_52_method_2_code (1 : Nat) (Option.some (Jvm.ClassFile.FieldType.array Jvm.ClassFile.FieldType.byte))).before args0 about1 = true := code_word (m := ⟨8, 1⟩) (meth := k8m1) (c := k8c1) (by decide +kernel) rfl rfl rfl (by decide +kernel)
set_option maxRecDepth 65536 in
theorem w_c31 : (Jvm.Cond.code ({ cls := "java/lang/StringUTF16", name := "newBytesLength", desc := "(I)I" } : Jvm.MethodName) jdk_52_method_3_code (1 : Nat) (Option.some Jvm.ClassFile.FieldType.int)).before args0 about1 = true := code_word (m := ⟨8, 2⟩) (meth := k8m2) (c := k8c2) (by decide +kernel) rfl rfl rfl (by decide +kernel)
set_option maxRecDepth 65536 in
theorem w_c32 : (Jvm.Cond.code ({ cls := "java/util/Arrays", name := "copyOf", desc := "([BI)[B" } : Jvm.MethodName) jdk_65_method_121_code (3 : Nat) (Option.some (Jvm.ClassFile.FieldType.array Jvm.ClassFile.FieldType.byte))).before args0 about1 = true := code_word (m := ⟨20, 1⟩) (meth := k20m1) (c := k20c1) (by decide +kernel) rfl rfl rfl (by decide +kernel)
set_option maxRecDepth 65536 in
theorem w_c33 : (Jvm.Cond.code ({ cls := "java/lang/String", name := "decode2", desc := "(II)C" } : Jvm.MethodName) jdk_42_method_35_code (2 : Nat) (Option.some Jvm.ClassFile.FieldType.char)).before args0 about1 = true := code_word (m := ⟨7, 7⟩) (meth := k7m7) (c := k7c7) (by decide +kernel) rfl rfl rfl (by decide +kernel)
set_option maxRecDepth 65536 in
theorem w_c34 : (Jvm.Cond.code ({ cls := "java/lang/StringUTF16", name := "toBytes", desc := "([CII)[B" } : Jvm.MethodName) jdk_52_method_14_code (5 : Nat) (Option.some (Jvm.ClassFile.FieldType.array Jvm.ClassFile.FieldType.byte))).before args0 about1 = true := code_word (m := ⟨8, 6⟩) (meth := k8m6) (c := k8c6) (by decide +kernel) rfl rfl rfl (by decide +kernel)
set_option maxRecDepth 65536 in
theorem w_c35 : (Jvm.Cond.code ({ cls := "java/lang/StringUTF16", name := "putChar", desc := "([BII)V" } : Jvm.MethodName) jdk_52_method_4_code (3 : Nat) (Option.none : Option Jvm.ClassFile.FieldType)).before args0 about1 = true := code_word (m := ⟨8, 3⟩) (meth := k8m3) (c := k8c3) (by decide +kernel) rfl rfl rfl (by decide +kernel)
set_option maxRecDepth 65536 in
theorem w_c36 : (Jvm.Cond.code ({ cls := "java/lang/StringUTF16", name := "getChar", desc := "([BI)C" } : Jvm.MethodName) jdk_52_method_5_code (2 : Nat) (Option.some Jvm.ClassFile.FieldType.char)).before args0 about1 = true := code_word (m := ⟨8, 4⟩) (meth := k8m4) (c := k8c4) (by decide +kernel) rfl rfl rfl (by decide +kernel)
set_option maxRecDepth 65536 in
theorem w_c37 : (Jvm.Cond.code ({ cls := "java/lang/String", name := "encodeUTF8_UTF16", desc := "([BZ)[B" } : Jvm.MethodName) jdk_42_method_47_code (9 : Nat) (Option.some (Jvm.ClassFile.FieldType.array Jvm.ClassFile.FieldType.byte))).before args0 about1 = true := code_word (m := ⟨7, 11⟩) (meth := k7m11) (c := k7c11) (by decide +kernel) rfl rfl rfl (by decide +kernel)
set_option maxRecDepth 65536 in
theorem w_c38 : (Jvm.Cond.code ({ cls := "java/lang/Character", name := "isSurrogate", desc := "(C)Z" } : Jvm.MethodName) jdk_89_method_16_code (1 : Nat) (Option.some Jvm.ClassFile.FieldType.boolean)).before args0 about1 = true := code_word (m := ⟨23, 0⟩) (meth := k23m0) (c := k23c0) (by decide +kernel) rfl rfl rfl (by decide +kernel)
set_option maxRecDepth 65536 in
theorem w_c39 : (Jvm.Cond.code ({ cls := "java/lang/StringLatin1", name := "inflate", desc := "([BI[BII)V" } : Jvm.MethodName) jdk_43_method_50_code (5 : Nat) (Option.none : Option Jvm.ClassFile.FieldType)).before args0 about1 = true := code_word (m := ⟨22, 2⟩) (meth := k22m2) (c := k22c2) (by decide +kernel) rfl rfl rfl (by decide +kernel)
set_option maxRecDepth 65536 in
theorem w_c40 : (Jvm.Cond.code ({ cls := "java/lang/StringUTF16", name := "inflate", desc := "([BI[BII)V" } : Jvm.MethodName) jdk_52_method_86_code (6 : Nat) (Option.none : Option Jvm.ClassFile.FieldType)).before args0 about1 = true := code_word (m := ⟨8, 10⟩) (meth := k8m10) (c := k8c10) (by decide +kernel) rfl rfl rfl (by decide +kernel)
set_option maxRecDepth 65536 in
theorem w_c41 : (Jvm.Cond.code ({ cls := "java/lang/StringUTF16", name := "checkBoundsOffCount", desc := "(II[B)V" } : Jvm.MethodName) jdk_52_method_94_code (3 : Nat) (Option.none : Option Jvm.ClassFile.FieldType)).before args0 about1 = true := code_word (m := ⟨8, 11⟩) (meth := k8m11) (c := k8c11) (by decide +kernel) rfl rfl rfl (by decide +kernel)
set_option maxRecDepth 65536 in
theorem w_c42 : (Jvm.Cond.code ({ cls := "java/lang/StringUTF16", name := "length", desc := "([B)I" } : Jvm.MethodName) jdk_52_method_6_code (1 : Nat) (Option.some Jvm.ClassFile.FieldType.int)).before args0 about1 = true := code_word (m := ⟨8, 5⟩) (meth := k8m5) (c := k8c5) (by decide +kernel) rfl rfl rfl (by decide +kernel)
set_option maxRecDepth 65536 in
theorem w_c43 : (Jvm.Cond.code ({ cls := "java/lang/String", name := "decodeUTF8_UTF16", desc := "([BII[BIZ)I" } : Jvm.MethodName) jdk_42_method_38_code (11 : Nat) (Option.some Jvm.ClassFile.FieldType.int)).before args0 about1 = true := code_word (m := ⟨7, 9⟩) (meth := k7m9) (c := k7c9) (by decide +kernel) rfl rfl rfl (by decide +kernel)
set_option maxRecDepth 65536 in
theorem w_c44 : (Jvm.Cond.code ({ cls := "java/lang/String", name := "isMalformed3", desc := "(III)Z" } : Jvm.MethodName) jdk_42_method_30_code (3 : Nat) (Option.some Jvm.ClassFile.FieldType.boolean)).before args0 about1 = true := code_word (m := ⟨7, 6⟩) (meth := k7m6) (c := k7c6) (by decide +kernel) rfl rfl rfl (by decide +kernel)
set_option maxRecDepth 65536 in
theorem w_c45 : (Jvm.Cond.code ({ cls := "java/lang/String", name := "decode3", desc := "(III)C" } : Jvm.MethodName) jdk_42_method_36_code (3 : Nat) (Option.some Jvm.ClassFile.FieldType.char)).before args0 about1 = true := code_word (m := ⟨7, 8⟩) (meth := k7m8) (c := k7c8) (by decide +kernel) rfl rfl rfl (by decide +kernel)
set_option maxRecDepth 65536 in
theorem w_c46 : (Jvm.Cond.code ({ cls := "java/lang/String", name := "isNotContinuation", desc := "(I)Z" } : Jvm.MethodName) jdk_42_method_29_code (1 : Nat) (Option.some Jvm.ClassFile.FieldType.boolean)).before args0 about1 = true := code_word (m := ⟨7, 5⟩) (meth := k7m5) (c := k7c5) (by decide +kernel) rfl rfl rfl (by decide +kernel)
set_option maxRecDepth 65536 in
theorem w_cw : (Jvm.Cond.codeWith ({ cls := "java/lang/String", name := "<init>", desc := "(Ljava/nio/charset/Charset;[BII)V" } : Jvm.MethodName) jdk_42_method_11_code (11 : Nat) (Option.none : Option Jvm.ClassFile.FieldType) [((800 : Nat), (813 : Nat), (816 : Nat), (202 : Nat))]).before args0 about1 = true := codeWith_word (m := ⟨7, 3⟩) (meth := k7m3) (c := k7c3) (by decide +kernel) rfl rfl rfl (by decide +kernel)
def codes1 : List Jvm.Cond := [Jvm.Cond.code x code maxLocals ret, Jvm.Cond.code ({ cls := "com/example/vestwright/vestwright/cli/TableRowsCellsPinLaw", name := "pick", desc := "(II)Ljava/lang/String;" } : Jvm.MethodName) method_3_code (6 : Nat) (Option.some (Jvm.ClassFile.FieldType.object "java/lang/String")), Jvm.Cond.code ({ cls := "com/example/vestwright/vestwright/cli/TableRowsCellsPinLaw", name := "ch", desc := "(I)C" } : Jvm.MethodName) method_2_code (1 : Nat) (Option.some Jvm.ClassFile.FieldType.char), Jvm.Cond.code ({ cls := "java/lang/String", name := "<init>", desc := "([C)V" } : Jvm.MethodName) jdk_42_method_3_code (2 : Nat) (Option.none : Option Jvm.ClassFile.FieldType), Jvm.Cond.code ({ cls := "java/lang/String", name := "<init>", desc := "([CIILjava/lang/Void;)V" } : Jvm.MethodName) jdk_42_method_149_code (6 : Nat) (Option.none : Option Jvm.ClassFile.FieldType), Jvm.Cond.code ({ cls := "java/lang/Object", name := "<init>", desc := "()V" } : Jvm.MethodName) object_method_1_code (1 : Nat) (Option.none : Option Jvm.ClassFile.FieldType), Jvm.Cond.code ({ cls := "java/lang/StringUTF16", name := "compress", desc := "([CII)[B" } : Jvm.MethodName) jdk_52_method_16_code (6 : Nat) (Option.some (Jvm.ClassFile.FieldType.array Jvm.ClassFile.FieldType.byte)), Jvm.Cond.code ({ cls := "java/lang/StringUTF16", name := "compress", desc := "([CI[BII)I" } : Jvm.MethodName) jdk_52_method_21_code (7 : Nat) (Option.some Jvm.ClassFile.FieldType.int), Jvm.Cond.code ({ cls := "java/lang/StringUTF16", name := "coderFromArrayLen", desc := "([BI)B" } : Jvm.MethodName) jdk_52_method_15_code (2 : Nat) (Option.some Jvm.ClassFile.FieldType.byte), Jvm.Cond.code ({ cls := "com/example/vestwright/vestwright/cli/TableRows", name := "<init>", desc := "(I)V" } : Jvm.MethodName) prog_15_method_1_code (2 : Nat) (Option.none : Option Jvm.ClassFile.FieldType), Jvm.Cond.code ({ cls := "com/example/vestwright/vestwright/cli/TableRows", name := "add", desc := "([Ljava/lang/String;I)Z" } : Jvm.MethodName) prog_15_method_2_code (11 : Nat) (Option.some Jvm.ClassFile.FieldType.boolean), Jvm.Cond.code ({ cls := "java/lang/String", name := "getBytes", desc := "(Ljava/nio/charset/Charset;)[B" } : Jvm.MethodName) jdk_42_method_64_code (2 : Nat) (Option.some (Jvm.ClassFile.FieldType.array Jvm.ClassFile.FieldType.byte)), Jvm.Cond.code ({ cls := "java/lang/String", name := "coder", desc := "()B" } : Jvm.MethodName) jdk_42_method_152_code (1 : Nat) (Option.some Jvm.ClassFile.FieldType.byte), Jvm.Cond.code ({ cls := "java/lang/String", name := "encode", desc := "(Ljava/nio/charset/Charset;B[B)[B" } : Jvm.MethodName) jdk_42_method_18_code (3 : Nat) (Option.some (Jvm.ClassFile.FieldType.array Jvm.ClassFile.FieldType.byte)), Jvm.Cond.code ({ cls := "java/lang/String", name := "encodeUTF8", desc := "(B[BZ)[B" } : Jvm.MethodName) jdk_42_method_46_code (9 : Nat) (Option.some (Jvm.ClassFile.FieldType.array Jvm.ClassFile.FieldType.byte)), Jvm.Cond.code ({ cls := "java/lang/StringCoding", name := "hasNegatives", desc := "([BII)Z" } : Jvm.MethodName) jdk_123_method_2_code (3 : Nat) (Option.some Jvm.ClassFile.FieldType.boolean), Jvm.Cond.code ({ cls := "java/lang/StringCoding", name := "countPositives", desc := "([BII)I" } : Jvm.MethodName) jdk_123_method_3_code (5 : Nat) (Option.some Jvm.ClassFile.FieldType.int), Jvm.Cond.code ({ cls := "com/example/vestwright/vestwright/cli/TableRows", name := "ensureRoom", desc := "(I)V" } : Jvm.MethodName) prog_15_method_8_code (3 : Nat) (Option.none : Option Jvm.ClassFile.FieldType), Jvm.Cond.code ({ cls := "com/example/vestwright/vestwright/cli/TableRows", name := "writeLength", desc := "(I)V" } : Jvm.MethodName) prog_15_method_7_code (3 : Nat) (Option.none : Option Jvm.ClassFile.FieldType), Jvm.Cond.code ({ cls := "com/example/vestwright/vestwright/cli/TableRows", name := "cells", desc := "(I)[Ljava/lang/String;" } : Jvm.MethodName) prog_15_method_5_code (8 : Nat) (Option.some (Jvm.ClassFile.FieldType.array (Jvm.ClassFile.FieldType.object "java/lang/String"))), Jvm.Cond.code ({ cls := "java/lang/String", name := "<init>", desc := "([BIILjava/nio/charset/Charset;)V" } : Jvm.MethodName) jdk_42_method_10_code (5 : Nat) (Option.none : Option Jvm.ClassFile.FieldType), Jvm.Cond.code ({ cls := "java/util/Objects", name := "requireNonNull", desc := "(Ljava/lang/Object;)Ljava/lang/Object;" } : Jvm.MethodName) jdk_31_method_10_code (1 : Nat) (Option.some (Jvm.ClassFile.FieldType.object "java/lang/Object")), Jvm.Cond.code ({ cls := "java/lang/String", name := "checkBoundsOffCount", desc := "(III)I" } : Jvm.MethodName) jdk_42_method_157_code (3 : Nat) (Option.some Jvm.ClassFile.FieldType.int), Jvm.Cond.code ({ cls := "jdk/internal/util/Preconditions", name := "checkFromIndexSize", desc := "(IIILjava/util/function/BiFunction;)I" } : Jvm.MethodName) jdk_41_method_13_code (4 : Nat) (Option.some Jvm.ClassFile.FieldType.int), Jvm.Cond.codeWith ({ cls := "java/lang/String", name := "<init>", desc := "(Ljava/nio/charset/Charset;[BII)V" } : Jvm.MethodName) jdk_42_method_11_code (11 : Nat) (Option.none : Option Jvm.ClassFile.FieldType) [((800 : Nat), (813 : Nat), (816 : Nat), (202 : Nat))], Jvm.Cond.code ({ cls := "java/util/Arrays", name := "copyOfRange", desc := "([BII)[B" } : Jvm.MethodName) jdk_65_method_132_code (3 : Nat) (Option.some (Jvm.ClassFile.FieldType.array Jvm.ClassFile.FieldType.byte)), Jvm.Cond.code ({ cls := "java/util/Arrays", name := "copyOfRangeByte", desc := "([BII)[B" } : Jvm.MethodName) jdk_65_method_133_code (5 : Nat) (Option.some (Jvm.ClassFile.FieldType.array Jvm.ClassFile.FieldType.byte)), Jvm.Cond.code ({ cls := "java/util/Arrays", name := "checkLength", desc := "(II)V" } : Jvm.MethodName) jdk_65_method_131_code (2 : Nat) (Option.none : Option Jvm.ClassFile.FieldType), Jvm.Cond.code ({ cls := "java/lang/Math", name := "min", desc := "(II)I" } : Jvm.MethodName) jdk_29_method_69_code (2 : Nat) (Option.some Jvm.ClassFile.FieldType.int), Jvm.Cond.code ({ cls := "java/lang/String", name := "equals", desc := "(Ljava/lang/Object;)Z" } : Jvm.MethodName) jdk_42_method_66_code (3 : Nat) (Option.some Jvm.ClassFile.FieldType.boolean), Jvm.Cond.code ({ cls := "java/lang/StringLatin1", name := "equals", desc := "([B[B)Z" } : Jvm.MethodName) jdk_43_method_13_code (3 : Nat) (Option.some Jvm.ClassFile.FieldType.boolean), Jvm.Cond.code ({ cls := "java/lang/StringUTF16", name := "newBytesFor", desc := "(I)[B" } : Jvm.MethodName) jdk_52_method_2_code (1 : Nat) (Option.some (Jvm.ClassFile.FieldType.array Jvm.ClassFile.FieldType.byte)), Jvm.Cond.code ({ cls := "java/lang/StringUTF16", name := "newBytesLength", desc := "(I)I" } : Jvm.MethodName) jdk_52_method_3_code (1 : Nat) (Option.some Jvm.ClassFile.FieldType.int), Jvm.Cond.code ({ cls := "java/util/Arrays", name := "copyOf", desc := "([BI)[B" } : Jvm.MethodName) jdk_65_method_121_code (3 : Nat) (Option.some (Jvm.ClassFile.FieldType.array Jvm.ClassFile.FieldType.byte)), Jvm.Cond.code ({ cls := "java/lang/String", name := "decode2", desc := "(II)C" } : Jvm.MethodName) jdk_42_method_35_code (2 : Nat) (Option.some Jvm.ClassFile.FieldType.char), Jvm.Cond.code ({ cls := "java/lang/StringUTF16", name := "toBytes", desc := "([CII)[B" } : Jvm.MethodName) jdk_52_method_14_code (5 : Nat) (Option.some (Jvm.ClassFile.FieldType.array Jvm.ClassFile.FieldType.byte)), Jvm.Cond.code ({ cls := "java/lang/StringUTF16", name := "putChar", desc := "([BII)V" } : Jvm.MethodName) jdk_52_method_4_code (3 : Nat) (Option.none : Option Jvm.ClassFile.FieldType), Jvm.Cond.code ({ cls := "java/lang/StringUTF16", name := "getChar", desc := "([BI)C" } : Jvm.MethodName) jdk_52_method_5_code (2 : Nat) (Option.some Jvm.ClassFile.FieldType.char), Jvm.Cond.code ({ cls := "java/lang/String", name := "encodeUTF8_UTF16", desc := "([BZ)[B" } : Jvm.MethodName) jdk_42_method_47_code (9 : Nat) (Option.some (Jvm.ClassFile.FieldType.array Jvm.ClassFile.FieldType.byte)), Jvm.Cond.code ({ cls := "java/lang/Character", name := "isSurrogate", desc := "(C)Z" } : Jvm.MethodName) jdk_89_method_16_code (1 : Nat) (Option.some Jvm.ClassFile.FieldType.boolean), Jvm.Cond.code ({ cls := "java/lang/StringLatin1", name := "inflate", desc := "([BI[BII)V" } : Jvm.MethodName) jdk_43_method_50_code (5 : Nat) (Option.none : Option Jvm.ClassFile.FieldType), Jvm.Cond.code ({ cls := "java/lang/StringUTF16", name := "inflate", desc := "([BI[BII)V" } : Jvm.MethodName) jdk_52_method_86_code (6 : Nat) (Option.none : Option Jvm.ClassFile.FieldType), Jvm.Cond.code ({ cls := "java/lang/StringUTF16", name := "checkBoundsOffCount", desc := "(II[B)V" } : Jvm.MethodName) jdk_52_method_94_code (3 : Nat) (Option.none : Option Jvm.ClassFile.FieldType), Jvm.Cond.code ({ cls := "java/lang/StringUTF16", name := "length", desc := "([B)I" } : Jvm.MethodName) jdk_52_method_6_code (1 : Nat) (Option.some Jvm.ClassFile.FieldType.int), Jvm.Cond.code ({ cls := "java/lang/String", name := "decodeUTF8_UTF16", desc := "([BII[BIZ)I" } : Jvm.MethodName) jdk_42_method_38_code (11 : Nat) (Option.some Jvm.ClassFile.FieldType.int), Jvm.Cond.code ({ cls := "java/lang/String", name := "isMalformed3", desc := "(III)Z" } : Jvm.MethodName) jdk_42_method_30_code (3 : Nat) (Option.some Jvm.ClassFile.FieldType.boolean), Jvm.Cond.code ({ cls := "java/lang/String", name := "decode3", desc := "(III)C" } : Jvm.MethodName) jdk_42_method_36_code (3 : Nat) (Option.some Jvm.ClassFile.FieldType.char), Jvm.Cond.code ({ cls := "java/lang/String", name := "isNotContinuation", desc := "(I)Z" } : Jvm.MethodName) jdk_42_method_29_code (1 : Nat) (Option.some Jvm.ClassFile.FieldType.boolean)]
set_option maxRecDepth 65536 in
theorem codes_eq : words1.filter isCode = codes1 := rfl
theorem w_codes : ∀ c ∈ words1.filter isCode, c.before args0 about1 = true := by
  rw [codes_eq]
  intro c hc
  simp only [codes1, List.mem_cons, List.not_mem_nil, or_false] at hc
  rcases hc with rfl | rfl | rfl | rfl | rfl | rfl | rfl | rfl | rfl | rfl | rfl | rfl | rfl | rfl | rfl | rfl | rfl | rfl | rfl | rfl | rfl | rfl | rfl | rfl | rfl | rfl | rfl | rfl | rfl | rfl | rfl | rfl | rfl | rfl | rfl | rfl | rfl | rfl | rfl | rfl | rfl | rfl | rfl | rfl | rfl | rfl | rfl | rfl
  · exact w_c0
  · exact w_c1
  · exact w_c2
  · exact w_c3
  · exact w_c4
  · exact w_c5
  · exact w_c6
  · exact w_c7
  · exact w_c8
  · exact w_c9
  · exact w_c10
  · exact w_c11
  · exact w_c12
  · exact w_c13
  · exact w_c14
  · exact w_c15
  · exact w_c16
  · exact w_c17
  · exact w_c18
  · exact w_c19
  · exact w_c20
  · exact w_c21
  · exact w_c22
  · exact w_c23
  · exact w_cw
  · exact w_c24
  · exact w_c25
  · exact w_c26
  · exact w_c27
  · exact w_c28
  · exact w_c29
  · exact w_c30
  · exact w_c31
  · exact w_c32
  · exact w_c33
  · exact w_c34
  · exact w_c35
  · exact w_c36
  · exact w_c37
  · exact w_c38
  · exact w_c39
  · exact w_c40
  · exact w_c41
  · exact w_c42
  · exact w_c43
  · exact w_c44
  · exact w_c45
  · exact w_c46
set_option maxRecDepth 65536 in
theorem w_t1 : (words1.take 24).all (fun c => isCode c || c.before args0 about1) = true := by decide +kernel
set_option maxRecDepth 65536 in
theorem w_t2 : ((words1.drop 24).take 24).all (fun c => isCode c || c.before args0 about1) = true := by decide +kernel
set_option maxRecDepth 65536 in
theorem w_t3 : (((words1.drop 24).drop 24).take 24).all (fun c => isCode c || c.before args0 about1) = true := by decide +kernel
set_option maxRecDepth 65536 in
theorem w_t4 : ((((words1.drop 24).drop 24).drop 24).take 24).all (fun c => isCode c || c.before args0 about1) = true := by decide +kernel
set_option maxRecDepth 65536 in
theorem w_t5 : (((((words1.drop 24).drop 24).drop 24).drop 24).take 24).all (fun c => isCode c || c.before args0 about1) = true := by decide +kernel
set_option maxRecDepth 65536 in
theorem w_t6 : ((((((words1.drop 24).drop 24).drop 24).drop 24).drop 24).take 24).all (fun c => isCode c || c.before args0 about1) = true := by decide +kernel
set_option maxRecDepth 65536 in
theorem w_t7 : (((((((words1.drop 24).drop 24).drop 24).drop 24).drop 24).drop 24).take 24).all (fun c => isCode c || c.before args0 about1) = true := by decide +kernel
set_option maxRecDepth 65536 in
theorem w_t8 : ((((((((words1.drop 24).drop 24).drop 24).drop 24).drop 24).drop 24).drop 24).take 24).all (fun c => isCode c || c.before args0 about1) = true := by decide +kernel
set_option maxRecDepth 65536 in
theorem w_t9 : (((((((((words1.drop 24).drop 24).drop 24).drop 24).drop 24).drop 24).drop 24).drop 24).take 24).all (fun c => isCode c || c.before args0 about1) = true := by decide +kernel
set_option maxRecDepth 65536 in
theorem w_t10 : (((((((((words1.drop 24).drop 24).drop 24).drop 24).drop 24).drop 24).drop 24).drop 24).drop 24).all (fun c => isCode c || c.before args0 about1) = true := by decide +kernel
theorem w_tables : (allAtoms (Jvm.Cond.code x code maxLocals ret :: tables_1)).before args0 about1 = true := by
  rw [allAtoms_all]
  show words1.all (fun c => c.before args0 about1) = true
  refine all_split ?_ w_codes
  rw [← List.take_append_drop 24 words1, List.all_append, w_t1, ← List.take_append_drop 24 (words1.drop 24), List.all_append, w_t2, ← List.take_append_drop 24 ((words1.drop 24).drop 24), List.all_append, w_t3, ← List.take_append_drop 24 (((words1.drop 24).drop 24).drop 24), List.all_append, w_t4, ← List.take_append_drop 24 ((((words1.drop 24).drop 24).drop 24).drop 24), List.all_append, w_t5, ← List.take_append_drop 24 (((((words1.drop 24).drop 24).drop 24).drop 24).drop 24), List.all_append, w_t6, ← List.take_append_drop 24 ((((((words1.drop 24).drop 24).drop 24).drop 24).drop 24).drop 24), List.all_append, w_t7, ← List.take_append_drop 24 (((((((words1.drop 24).drop 24).drop 24).drop 24).drop 24).drop 24).drop 24), List.all_append, w_t8, ← List.take_append_drop 24 ((((((((words1.drop 24).drop 24).drop 24).drop 24).drop 24).drop 24).drop 24).drop 24), List.all_append, w_t9, w_t10]
  rfl
set_option maxRecDepth 65536 in
theorem w_rest : rest_1_c.before args0 about1 = true := by decide +kernel
set_option maxRecDepth 65536 in
theorem w_case : (Jvm.Cond.and given_1 narrow_1).before args0 about1 = true := by decide +kernel
set_option maxRecDepth 65536 in
theorem w_consts : constsHeld consts_1 about1 := Jvm.Lit.constsHeldB_iff.mp (by decide +kernel)
theorem w_applies : (headSpec (Jvm.Cond.code x code maxLocals ret :: tables_1) room_1).applies x e0.platform about1 = true :=
  (Spec.applies_iff w_frames).mpr ⟨w_running, w_runnable, w_alone, w_named, w_hears, w_ripe, w_room, w_tables⟩
theorem atStart : AtStart classFile x code maxLocals ret World_1 tables_1 room_1 Calls_1 rest_1 Pre_1 launch0 p0 e0 about1 theMethod args0 below0 :=
  ⟨lists_1, trivial, launch0.admits_env _ _ _, launch0.least_env, fairChoices_fair.cas, fairChoices_fair.clock, w_frames, w_args, w_heap, w_applies, ⟨w_consts, trivial⟩, w_rest, w_case⟩
end start1
theorem witness_1 : WitnessClaimed_1 := ⟨start1.p0, start1.e0, start1.about1, start1.theMethod, start1.args0, start1.below0, start1.atStart⟩
end Jvm.Pilot.@@N@@
