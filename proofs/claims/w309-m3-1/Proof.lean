import JvmDerived
import JvmDerived.Pilot.@@N@@Statement
import JvmDerived.Pilot.@@N@@Code
set_option linter.unusedVariables false
set_option linter.unusedSimpArgs false
@@BLOCK:NumsL.lean.txt@@
namespace Jvm.RoadKit
open Sem ClassFile Op Lib Jvm.Stand Jvm.Free Jvm.LawKit
section New
variable {p : Program} {l : Launch} {e : Env} {R : Room} {s : State} {m : MethodId} {args : Array Value} {below : List Frame} {meth : Method} {c : Code} {T : State} {locs : List Loc} {cells slots : Nat}
theorem retI (X : Stand p l e R s m args below meth c T locs cells slots) (hx : p.tables.exec = Jvm.exec) {pc : Nat} {Ls : Array Slot} {z : Int32} {rest : List Value} (hret : meth.sig.returnType = some .int) (hd : decode c.code pc = .ok (.ireturn, 1)) {fs : List Frame}
    (hl : ∀ (f : JFrame) (acts : List Action), f.method = m → f.locked = none → f.entered = [] → (doReturn e (T.setTop f) acts (some (.int z))).1 = T.setFrames fs) : Steps p.tables e below (T.setTop (mkF m pc Ls (.int z :: rest))) (T.setFrames fs) := by
  have hm' : T.vm.method? m = some meth := X.method'
  have hn : narrow .int (.int z) = .int z := rfl
  jvm_step X.here [X.here.top, hx, hd, hm', hret, hn]
  first | (intro acts; rw [hl _ acts rfl rfl rfl]) | rw [hl _ _ rfl rfl rfl]
  exact Steps.refl _
end New
end Jvm.RoadKit
namespace Jvm.Pilot.@@N@@
open Jvm Jvm.ClassFile Sem Op Lib Jvm.Free Jvm.Stand Jvm.LawKit Jvm.RoadKit Bundle Jvm.Pilot.@@N@@.Jvm.D
theorem ww {Z : State} {a0 : Array Value} (hw : ∀ d ∈ tables_1, d.before a0 Z = true) (i : Nat) {d : Jvm.Cond} (h : tables_1[i]? = some d) : d.before a0 Z = true := hw _ (List.mem_of_getElem? h)
theorem own_nst {Z : State} {h : Heap} {x : Addr} {C : String} (E : Exa Z h x C) : ∀ cl : Cell, h[x]? = some cl → cl.vm.isStatics = false := by
  intro cl hc
  obtain ⟨c1, k, h1, h2, h3, h4, h5⟩ := E
  cases h1.symm.trans hc
  exact h4
theorem own_stak {Z : State} {h h' : Heap} {ws : List Addr} {C n d : String} {w : Value} (F : Sta Z h C n d w) (K : Keep h h' ws) (q : ∀ x ∈ ws, ∀ cl : Cell, h[x]? = some cl → cl.vm.isStatics = false) : Sta Z h' C n d w := by
  obtain ⟨cf, i, k, f, st, cell, h1, h2, h3, h4, h5, h6, h7⟩ := F
  refine ⟨cf, i, k, f, st, cell, h1, h2, h3, h4, K.2.1 st cell h5 (fun hm => ?_), h6, h7⟩
  rw [q st hm cell h5] at h6
  cases h6
theorem own_retJ {p : Program} {l : Launch} {e : Env} {R : Room} {s : State} {m : MethodId} {args : Array Value} {below : List Frame} {meth : Method} {c : Code} {T : State} {locs : List Loc} {cells slots : Nat}
    (X : Stand p l e R s m args below meth c T locs cells slots) (hx : p.tables.exec = Jvm.exec) {pc : Nat} {Ls : Array Slot} {z : Int64} {rest : List Value} (hret : meth.sig.returnType = some .long) (hd : decode c.code pc = .ok (.lreturn, 1)) {fs : List Frame}
    (hr : ∀ (f : JFrame) (acts : List Action), f.method = m → f.locked = none → f.entered = [] → (doReturn e (T.setTop f) acts (some (.long z))).1 = T.setFrames fs) : Steps p.tables e below (T.setTop (mkF m pc Ls (.long z :: rest))) (T.setFrames fs) := by
  jvm_step X.here [X.here.top, hx, hd, X.method', hret, narrow]
  first | (intro acts; rw [hr _ acts rfl rfl rfl]) | rw [hr _ _ rfl rfl rfl]
  exact Steps.refl _
theorem own_getR {p : Program} {l : Launch} {e : Env} {R : Room} {s : State} {m : MethodId} {args : Array Value} {below : List Frame} {meth : Method} {c : Code} {T : State} {locs : List Loc} {cells slots : Nat} {Z : State} {a0 : Array Value} {h : Heap}
    (X : Stand p l e R s m args below meth c T locs cells slots) (hx : p.tables.exec = Jvm.exec) (hZ : Z.Warmed39 s.vm) {own O n d : String} {index : Nat} (hown : s.vm.findClass own = some m.cls) (w : (Cond.fieldRef own index O n d).before a0 Z = true)
    (eT : T.heap = h) {a : Addr} {v : Value} (F : Fld Z h a O n d v) {g : JFrame} (hg : g.method = m) {rest : List Value} (hs : g.stack = .ref a :: rest) (hd : decode c.code g.pc = .ok (.getfield index, 3)) :
    ∃ T', Stand p l e R s m args below meth c T' locs cells slots ∧ T'.heap = h ∧ ∀ target, Steps p.tables e below (T'.setTop { g with pc := g.pc + 3, stack := v :: rest }) target → Steps p.tables e below (T.setTop g) target := by
  obtain ⟨cell, cf, k, i, f, h1, h2, h3, h4, -, -, h7⟩ := F
  have hT : Z.Warmed39 T.vm := wtrans hZ X.warmed
  have w' := Cond.fieldRef_warmed39 hT w
  obtain ⟨c2, k2, i2, f2, e1, e2⟩ := Cond.fieldRef_spec (s := Z.setVm T.vm) (cur := m.cls) ((X.warmed.alike.findClass _ _).trans hown) w'
  obtain ⟨k', hi, -⟩ := State.fieldFound?_setVm (s := Z) hT.alike h2
  have q := hi.symm.trans e1
  cases q
  exact ⟨T, X, eT, fun target kt => (X.getfieldR hx hg e2 h3 hs (by rw [eT]; exact h1) h4 h7 hd (Steps.refl _)).trans kt⟩
/-- an int[] of n places that hold D -/
def own_AI (Z : State) (h : Heap) (a : Addr) (n : Int32) (D : Nat → Int32) : Prop := ∃ cl : Cell, Arr Z h a cl .int ∧ cl.slots.size = n.toNatClampNeg ∧ ∀ i, i < cl.slots.size → cl.slots[i]? = some (.int (D i))
/-- a double[] of n places that hold D, none of them NaN -/
def own_AD (Z : State) (h : Heap) (a : Addr) (n : Int32) (D : Nat → UInt64) : Prop := ∃ cl : Cell, Arr Z h a cl .double ∧ cl.slots.size = n.toNatClampNeg ∧ ∀ i, i < cl.slots.size → cl.slots[i]? = some (.double (D i)) ∧ Jvm.Free.Fl.NoNaN64 (D i)
def own_upd {A : Type} (D : Nat → A) (j : Nat) (x : A) : Nat → A := fun i => if j = i then x else D i
section OwnA
variable {Z : State} {h h' : Heap} {a b : Addr} {n : Int32} {ws : List Addr} {D : Nat → Int32} {S0 : Nat → UInt64}
theorem own_AI.ext (F : own_AI Z h a n D) (E : Ext h h') : own_AI Z h' a n D := by
  obtain ⟨cl, A, S, H⟩ := F
  exact ⟨cl, A.ext E, S, H⟩
theorem own_AD.ext (F : own_AD Z h a n S0) (E : Ext h h') : own_AD Z h' a n S0 := by
  obtain ⟨cl, A, S, H⟩ := F
  exact ⟨cl, A.ext E, S, H⟩
theorem own_AI.keep (F : own_AI Z h a n D) (K : Keep h h' ws) (q : a ∉ ws) : own_AI Z h' a n D := by
  obtain ⟨cl, A, S, H⟩ := F
  exact ⟨cl, ⟨K.2.1 a cl A.1 q, A.2⟩, S, H⟩
theorem own_AD.keep (F : own_AD Z h a n S0) (K : Keep h h' ws) (q : a ∉ ws) : own_AD Z h' a n S0 := by
  obtain ⟨cl, A, S, H⟩ := F
  exact ⟨cl, ⟨K.2.1 a cl A.1 q, A.2⟩, S, H⟩
theorem own_AI.other {sl : Nat} {v : Value} (F : own_AI Z h a n D) (W : Wr h h' b sl v) (q : a ≠ b) : own_AI Z h' a n D := by
  obtain ⟨cl, A, S, H⟩ := F
  exact ⟨cl, A.other W q, S, H⟩
theorem own_AD.other {sl : Nat} {v : Value} (F : own_AD Z h a n S0) (W : Wr h h' b sl v) (q : a ≠ b) : own_AD Z h' a n S0 := by
  obtain ⟨cl, A, S, H⟩ := F
  exact ⟨cl, A.other W q, S, H⟩
theorem own_AI.put {j : Int32} {x : Int32} {cl : Cell} (A : Arr Z h a cl .int) (S : cl.slots.size = n.toNatClampNeg) (H : ∀ i, i < cl.slots.size → cl.slots[i]? = some (.int (D i))) (W : Wr h h' a j.toNatClampNeg (.int x)) : own_AI Z h' a n (own_upd D j.toNatClampNeg x) := by
  refine ⟨_, A.same W, by rw [sz_set]; exact S, fun i hi => ?_⟩
  rw [sz_set] at hi
  by_cases q : j.toNatClampNeg = i
  · subst q
    simp [Cell.setSlot, hi, own_upd]
  · simp only [Cell.setSlot]
    rw [Array.getElem?_setIfInBounds_ne q]
    simp only [own_upd, if_neg q]
    exact H i hi
theorem own_AD.put {j : Int32} {x : UInt64} {cl : Cell} (A : Arr Z h a cl .double) (S : cl.slots.size = n.toNatClampNeg) (H : ∀ i, i < cl.slots.size → cl.slots[i]? = some (.double (S0 i)) ∧ Jvm.Free.Fl.NoNaN64 (S0 i)) (nx : Jvm.Free.Fl.NoNaN64 x) (W : Wr h h' a j.toNatClampNeg (.double x)) : own_AD Z h' a n (own_upd S0 j.toNatClampNeg x) := by
  refine ⟨_, A.same W, by rw [sz_set]; exact S, fun i hi => ?_⟩
  rw [sz_set] at hi
  by_cases q : j.toNatClampNeg = i
  · subst q
    exact ⟨by simp [Cell.setSlot, hi, own_upd], by simp only [own_upd, if_pos]; exact nx⟩
  · simp only [Cell.setSlot]
    rw [Array.getElem?_setIfInBounds_ne q]
    simp only [own_upd, if_neg q]
    exact H i hi
theorem own_AI.of {k : ClassId} {d : Int32} (F : Arv Z h a k .int n [] (.int d)) : own_AI Z h a n (fun _ => d) := by
  obtain ⟨cl, A, -, S, N, H, -⟩ := F
  exact ⟨cl, A, S, fun i hi => H i hi⟩
theorem own_AD.of {k : ClassId} {d : UInt64} (F : Arv Z h a k .double n [] (.double d)) (nx : Jvm.Free.Fl.NoNaN64 d) : own_AD Z h a n (fun _ => d) := by
  obtain ⟨cl, A, -, S, N, H, -⟩ := F
  exact ⟨cl, A, S, fun i hi => ⟨H i hi, nx⟩⟩
theorem own_AI.lt (F : own_AI Z h a n D) : a < h.size := by
  obtain ⟨cl, A, -⟩ := F
  exact (Array.getElem?_eq_some_iff.mp A.1).1
theorem own_AD.lt (F : own_AD Z h a n S0) : a < h.size := by
  obtain ⟨cl, A, -⟩ := F
  exact (Array.getElem?_eq_some_iff.mp A.1).1
theorem own_inb {cl : Cell} {j : Int32} (q : ¬ (j < 0 ∨ cl.slots.size ≤ j.toNatClampNeg)) : j.toNatClampNeg < cl.slots.size := Nat.lt_of_not_le fun y => q (Or.inr y)
end OwnA
theorem own_raw {p : Program} {l : Launch} {e : Env} {R : Room} {s : State} {m : MethodId} {args : Array Value} {below : List Frame} {meth : Method} {c : Code} {T : State} {locs : List Loc} {cells slots : Nat} {h : Heap}
    (X : Stand p l e R s m args below meth c T locs cells slots) (hx : p.tables.exec = Jvm.exec) {own : String} {index : Nat} (hown : s.vm.findClass own = some m.cls)
    (hlink : (Cond.methodLink own index doubleToRawLongBitsName).before args s = true) (hnat : (Cond.native doubleToRawLongBitsName).before args s = true) (hstat : (Cond.static doubleToRawLongBitsName).before args s = true) (hinit : (Cond.initialized "java/lang/Double").before args s = true) (eT : T.heap = h)
    {g : JFrame} (hg : g.method = m) (hsize : g.locals.size = c.maxLocals) {rest : List Value} {b : UInt64} (hstack : g.stack = .double b :: rest) (hdg : decode c.code g.pc = .ok (.invokestatic index, 3))
    (hframes : 1 ≤ R.frames) (hlocals : 2 * g.monitorRoom + (rest.map fun v => v.category).sum + (nativeFrameWords "java/lang/Double" "doubleToRawLongBits" 2 + 11) ≤ R.locals) :
    ∃ T', Stand p l e R s m args below meth c T' locs cells slots ∧ T'.heap = h ∧ ∀ target, Steps p.tables e below (T'.setTop { g with pc := g.pc + 3, stack := .long b.toInt64 :: rest }) target → Steps p.tables e below (T.setTop g) target := by
  obtain ⟨vm', X', st⟩ := X.doubleToRawLongBits hx hown hlink hnat hstat hinit hg hsize hstack hdg hframes hlocals
  exact ⟨_, X', eT, st⟩
theorem own_selp {Z : State} {a0 : Array Value} {C : String} {y z : MethodName} (hz : (Cond.selects C z z).before a0 Z = true) (e : z.cls = y.cls) (hp : (Cond.privateMethod y).before a0 Z = true) (hi : (Cond.instanceMethod y).before a0 Z = true)
    (hy : y.cls ≠ "java/lang/invoke/MethodHandle" ∧ y.cls ≠ "java/lang/invoke/VarHandle") : (Cond.selects y.cls y y).before a0 Z = true := by
  obtain ⟨c2, r2, m2, q1, q2, q3, q4, kP, hkP, hkPi⟩ := Cond.selects_spec hz
  have hc := findClass_of_methodNamed q3
  rw [e] at hc
  exact selects_self_of_private hc hkP hkPi (Cond.privateMethod_at hp) hi hy
theorem own_retD {p : Program} {l : Launch} {e : Env} {R : Room} {s : State} {m : MethodId} {args : Array Value} {below : List Frame} {meth : Method} {c : Code} {T : State} {locs : List Loc} {cells slots : Nat}
    (X : Stand p l e R s m args below meth c T locs cells slots) (hx : p.tables.exec = Jvm.exec) {pc : Nat} {Ls : Array Slot} {z : UInt64} {rest : List Value} (hret : meth.sig.returnType = some .double) (hd : decode c.code pc = .ok (.dreturn, 1)) {fs : List Frame}
    (hr : ∀ (f : JFrame) (acts : List Action), f.method = m → f.locked = none → f.entered = [] → (doReturn e (T.setTop f) acts (some (.double z))).1 = T.setFrames fs) : Steps p.tables e below (T.setTop (mkF m pc Ls (.double z :: rest))) (T.setFrames fs) := by
  jvm_step X.here [X.here.top, hx, hd, X.method', hret, narrow]
  first | (intro acts; rw [hr _ acts rfl rfl rfl]) | rw [hr _ _ rfl rfl rfl]
  exact Steps.refl _
theorem own_bm (x : Int) (h1 : -9223372036854775808 ≤ x) (h2 : x < 9223372036854775808) : x.bmod (2 ^ 64) = x := by
  have : (2 ^ 64 : Nat) = 18446744073709551616 := rfl
  rw [this]
  simp only [Int.bmod]
  omega
theorem own_i32 (p : Int32) : -2147483648 ≤ p.toInt ∧ p.toInt < 2147483648 := by
  have h1 := p.minValue_le_toInt
  have h2 := p.toInt_lt
  have : (Int32.minValue).toInt = -2147483648 := rfl
  omega
theorem own_pm {x y : Int} (hx : -2147483646 ≤ x) (hx' : x ≤ 2147483649) (hy : -2147483648 ≤ y) (hy' : y < 2147483648) : -4611686020574871552 ≤ x * y ∧ x * y ≤ 4611686020574871552 := by
  have a1 : 0 ≤ (x + 2147483649) * (y + 2147483648) := Int.mul_nonneg (by omega) (by omega)
  have a2 : 0 ≤ (2147483649 - x) * (2147483648 - y) := Int.mul_nonneg (by omega) (by omega)
  have a3 : 0 ≤ (x + 2147483649) * (2147483648 - y) := Int.mul_nonneg (by omega) (by omega)
  have a4 : 0 ≤ (2147483649 - x) * (y + 2147483648) := Int.mul_nonneg (by omega) (by omega)
  simp only [Int.add_mul, Int.mul_add, Int.sub_mul, Int.mul_sub] at a1 a2 a3 a4
  omega
theorem own_n1 (p1 : Int32) : (p1.toInt64 + 2 : Int64).toInt = p1.toInt + 2 := by
  have h := own_i32 p1
  rw [Int64.toInt_add, Int32.toInt_toInt64]
  have : (2 : Int64).toInt = 2 := rfl
  rw [this]
  exact own_bm _ (by omega) (by omega)
theorem own_np (p1 p2 : Int32) : ((p1.toInt64 + 2) * p2.toInt64 : Int64).toInt = (p1.toInt + 2) * p2.toInt := by
  have h := own_i32 p1
  have h' := own_i32 p2
  have k := own_pm (x := p1.toInt + 2) (y := p2.toInt) (by omega) (by omega) (by omega) (by omega)
  rw [Int64.toInt_mul, own_n1, Int32.toInt_toInt64]
  exact own_bm _ (by omega) (by omega)
theorem own_nq (p1 : Int32) : ((128 : Int64) * (p1.toInt64 + 2)).toInt = 128 * (p1.toInt + 2) := by
  have h := own_i32 p1
  rw [Int64.toInt_mul, own_n1]
  have : (128 : Int64).toInt = 128 := rfl
  rw [this]
  exact own_bm _ (by omega) (by omega)

def own_mix (q1 : Int64) : Int64 :=
  let a := (q1 ^^^ ((q1.toUInt64 >>> ((30 : Int32) &&& 0x3f).toInt64.toUInt64).toInt64)) * (-4658895280553007687 : Int64)
  let b := (a ^^^ ((a.toUInt64 >>> ((27 : Int32) &&& 0x3f).toInt64.toUInt64).toInt64)) * (-7723592293110705685 : Int64)
  b ^^^ ((b.toUInt64 >>> ((31 : Int32) &&& 0x3f).toInt64.toUInt64).toInt64)
abbrev own_G : Int64 := -7046029254386353131
def own_z0 : Int64 := -6857235525900058748
def own_gi : Int64 := -1018231460777725123
theorem own_gg : own_G * own_gi = 1 := by decide
def own_mu (st : Int64) : Nat := ((own_z0 - st) * own_gi).toUInt64.toNat
def own_hi (w : Int64) : Int64 := (w.toUInt64 >>> ((32 : Int32) &&& 0x3f).toInt64.toUInt64).toInt64
theorem own_m0 : own_hi (own_mix own_z0) = 1 := by decide
theorem own_mu0 {st : Int64} (h : own_mu st = 0) : st = own_z0 := by
  have e : (own_z0 - st) * own_gi = 0 := by
    have k : ((own_z0 - st) * own_gi).toUInt64 = 0 := UInt64.toNat_inj.mp h
    exact congrArg UInt64.toInt64 k
  have e2 : (own_z0 - st) * own_gi * own_G = 0 := by rw [e]; rfl
  rw [Int64.mul_assoc, Int64.mul_comm own_gi, own_gg, Int64.mul_one] at e2
  have e3 : own_z0 - st + st = 0 + st := by rw [e2]
  rw [Int64.sub_add_cancel, Int64.zero_add] at e3
  exact e3.symm
theorem own_muS {st : Int64} {k : Nat} (h : own_mu st = k + 1) : own_mu (st + own_G) = k := by
  have e : (own_z0 - (st + own_G)) * own_gi = (own_z0 - st) * own_gi - 1 := by
    have a : own_z0 - (st + own_G) = (own_z0 - st) - own_G := by
      rw [Int64.sub_eq_add_neg, Int64.neg_add, Int64.sub_eq_add_neg, Int64.sub_eq_add_neg, ← Int64.add_assoc, Int64.sub_eq_add_neg]
      
    rw [a, Int64.sub_mul, own_gg]
  unfold own_mu at h ⊢
  rw [e]
  generalize (own_z0 - st) * own_gi = x at h ⊢
  have q : (x - 1).toUInt64 = x.toUInt64 - 1 := rfl
  rw [q, UInt64.toNat_sub_of_le _ _ (by rw [UInt64.le_iff_toNat_le, h]; exact Nat.succ_le_succ (Nat.zero_le _)), h]
  rfl
theorem own_hib (w : Int64) : 0 ≤ (own_hi w).toInt ∧ (own_hi w).toInt < 4294967296 ∧ (0 ≤ w.toInt → (own_hi w).toInt = w.toInt / 4294967296) := by
  have k : ((32 : Int32) &&& 0x3f).toInt64.toUInt64 = 32 := rfl
  have n : (w.toUInt64 >>> (32 : UInt64)).toNat = w.toUInt64.toNat / 4294967296 := by
    rw [UInt64.toNat_shiftRight]
    have : (32 : UInt64).toNat % 64 = 32 := rfl
    rw [this, Nat.shiftRight_eq_div_pow]
  have lt := w.toUInt64.toNat_lt
  have e : (own_hi w).toInt = ((w.toUInt64.toNat / 4294967296 : Nat) : Int) := by
    unfold own_hi
    rw [k]
    have f : ((w.toUInt64 >>> (32 : UInt64)).toInt64).toInt = ((w.toUInt64 >>> (32 : UInt64)).toBitVec).toInt := rfl
    rw [f, BitVec.toInt_eq_toNat_cond]
    have g : (w.toUInt64 >>> (32 : UInt64)).toBitVec.toNat = w.toUInt64.toNat / 4294967296 := n
    rw [g]
    split <;> omega
  refine ⟨by rw [e]; omega, by rw [e]; omega, fun h => ?_⟩
  rw [e]
  have q : w.toInt = (w.toUInt64.toNat : Int) := by
    have f : w.toInt = w.toBitVec.toInt := rfl
    have g : w.toUInt64.toNat = w.toBitVec.toNat := rfl
    rw [f, BitVec.toInt_eq_toNat_cond] at h ⊢
    rw [g]
    rw [g] at lt
    split <;> split at h <;> omega
  rw [q]
  omega
def own_pr (st : Int64) (p2 : Int32) : Int64 := own_hi (own_mix st) * p2.toInt64
theorem own_pri (st : Int64) {p2 : Int32} (h : ¬ p2 < 1) : (own_pr st p2).toInt = (own_hi (own_mix st)).toInt * p2.toInt ∧ 0 ≤ (own_pr st p2).toInt ∧ (own_pr st p2).toInt ≤ 4294967295 * p2.toInt := by
  have b := own_hib (own_mix st)
  have c := own_i32 p2
  rw [Int32.lt_iff_toInt_lt] at h
  have o : (1 : Int32).toInt = 1 := rfl
  rw [o] at h
  have m1 : 0 ≤ (own_hi (own_mix st)).toInt * p2.toInt := Int.mul_nonneg (by omega) (by omega)
  have m2 : (own_hi (own_mix st)).toInt * p2.toInt ≤ 4294967295 * p2.toInt := Int.mul_le_mul_of_nonneg_right (by omega) (by omega)
  have e : (own_pr st p2).toInt = (own_hi (own_mix st)).toInt * p2.toInt := by
    unfold own_pr
    rw [Int64.toInt_mul, Int32.toInt_toInt64]
    exact own_bm _ (by omega) (by omega)
  rw [e]
  exact ⟨rfl, m1, m2⟩
theorem own_rng (st : Int64) {p2 : Int32} (h : ¬ p2 < 1) : ¬ (own_hi (own_pr st p2)).toInt32 < 0 ∧ (own_hi (own_pr st p2)).toInt32 < p2 := by
  obtain ⟨e, a, b⟩ := own_pri st h
  have c := own_i32 p2
  have k := (own_hib (own_pr st p2)).2.2 a
  rw [Int32.lt_iff_toInt_lt] at h
  have o : (1 : Int32).toInt = 1 := rfl
  have z : (0 : Int32).toInt = 0 := rfl
  rw [o] at h
  have t : ((own_hi (own_pr st p2)).toInt32).toInt = (own_pr st p2).toInt / 4294967296 := by
    rw [Int64.toInt_toInt32, k]
    simp only [Int.bmod]
    omega
  rw [Int32.lt_iff_toInt_lt, Int32.lt_iff_toInt_lt, t, z]
  omega
theorem own_acc {p2 : Int32} {rj : Int64} (h : ¬ p2 < 1) (hr : rj.toInt < p2.toInt) : ¬ (own_pr own_z0 p2 &&& (4294967295 : Int64)) < rj := by
  have c := own_i32 p2
  rw [Int32.lt_iff_toInt_lt] at h
  have o : (1 : Int32).toInt = 1 := rfl
  rw [o] at h
  have e : own_pr own_z0 p2 = p2.toInt64 := by
    unfold own_pr
    rw [own_m0, Int64.one_mul]
  have q : (p2.toInt64 &&& (4294967295 : Int64)).toInt = p2.toInt := by
    have f : (p2.toInt64 &&& (4294967295 : Int64)).toInt = (p2.toInt64.toBitVec &&& (4294967295 : Int64).toBitVec).toInt := rfl
    have g : p2.toInt64.toBitVec.toInt = p2.toInt := Int32.toInt_toInt64 p2
    rw [BitVec.toInt_eq_toNat_cond] at g
    have lt := p2.toInt64.toBitVec.isLt
    have n : p2.toInt64.toBitVec.toNat = p2.toInt := by split at g <;> omega
    rw [f, BitVec.toInt_eq_toNat_cond, BitVec.toNat_and]
    have mk : (4294967295 : Int64).toBitVec.toNat = 2 ^ 32 - 1 := rfl
    rw [mk, Nat.and_two_pow_sub_one_eq_mod]
    split <;> omega
  rw [e, Int64.lt_iff_toInt_lt, q]
  omega
theorem own_rjb {p2 : Int32} (h : ¬ p2 < 1) : (((4294967296 : Int64) - (((4294967296 : Int64) / (p2.toInt64)) * (p2.toInt64)))).toInt < p2.toInt ∧ ¬ p2.toInt64 = 0 := by
  have c := own_i32 p2
  rw [Int32.lt_iff_toInt_lt] at h
  have o : (1 : Int32).toInt = 1 := rfl
  rw [o] at h
  have k : (4294967296 : Int64).toInt = 4294967296 := rfl
  refine ⟨?_, fun z => ?_⟩
  · have d0 : 0 ≤ Int.tdiv 4294967296 p2.toInt := Int.tdiv_nonneg (by decide) (by omega)
    have d1 := Int.mul_tdiv_add_tmod 4294967296 p2.toInt
    have d2 : Int.tmod 4294967296 p2.toInt < p2.toInt := Int.tmod_lt_of_pos _ (by omega)
    have d3 : 0 ≤ Int.tmod 4294967296 p2.toInt := Int.tmod_nonneg _ (by decide)
    have d4 : Int.tdiv 4294967296 p2.toInt ≤ 4294967296 := by
      have t := Int.natAbs_tdiv_le_natAbs 4294967296 p2.toInt
      omega
    have e1 : ((4294967296 : Int64) / p2.toInt64).toInt = Int.tdiv 4294967296 p2.toInt := by
      rw [Int64.toInt_div, k, Int32.toInt_toInt64]
      exact own_bm _ (by omega) (by omega)
    have cm : Int.tdiv 4294967296 p2.toInt * p2.toInt = p2.toInt * Int.tdiv 4294967296 p2.toInt := Int.mul_comm ..
    have e2 : (((4294967296 : Int64) / p2.toInt64) * p2.toInt64).toInt = Int.tdiv 4294967296 p2.toInt * p2.toInt := by
      rw [Int64.toInt_mul, e1, Int32.toInt_toInt64]
      exact own_bm _ (by omega) (by omega)
    rw [Int64.toInt_sub, e2, k, own_bm _ (by omega) (by omega)]
    omega
  · have := congrArg Int64.toInt z
    rw [Int32.toInt_toInt64] at this
    have z0 : (0 : Int64).toInt = 0 := rfl
    omega
theorem own_AI.cong {Z : State} {h : Heap} {a : Addr} {n : Int32} {D D' : Nat → Int32} (F : own_AI Z h a n D) (q : ∀ i, i < n.toNatClampNeg → D i = D' i) : own_AI Z h a n D' := by
  obtain ⟨cl, A, S, H⟩ := F
  exact ⟨cl, A, S, fun i hi => by rw [H i hi, q i (by rw [← S]; exact hi)]⟩
theorem own_c3 {D D' : Nat → Int32} (h0 : D 0 = D' 0) (h1 : D 1 = D' 1) (h2 : D 2 = D' 2) : ∀ i, i < (3 : Int32).toNatClampNeg → D i = D' i := by
  intro i hi
  have k : (3 : Int32).toNatClampNeg = 3 := rfl
  rw [k] at hi
  match i, hi with
  | 0, _ => exact h0
  | 1, _ => exact h1
  | 2, _ => exact h2
theorem own_cloneI {p : Program} {l : Launch} {e : Env} {R : Room} {s : State} {m : MethodId} {args : Array Value} {below : List Frame} {meth : Method} {c : Code} {T : State} {locs : List Loc} {cells slots : Nat} {Z : State} {h : Heap} {a : Addr}
    (X : Stand p l e R s m args below meth c T locs cells slots) (hx : p.tables.exec = Jvm.exec) (hZ : Z.Warmed39 s.vm) {a0 : Array Value} {own ad : String} {index : Nat} (hown : s.vm.findClass own = some m.cls)
    (w1 : (Cond.methodLink own index ⟨ad, "clone", "()Ljava/lang/Object;"⟩).before a0 Z = true) (w2 : (Cond.sameMethod ad "java/lang/Object" "clone" "()Ljava/lang/Object;").before a0 Z = true) (w3 : (Cond.native ⟨"java/lang/Object", "clone", "()Ljava/lang/Object;"⟩).before a0 Z = true)
    (w4 : (Cond.instanceMethod ⟨"java/lang/Object", "clone", "()Ljava/lang/Object;"⟩).before a0 Z = true) (w5 : (Cond.selects ad ⟨ad, "clone", "()Ljava/lang/Object;"⟩ ⟨"java/lang/Object", "clone", "()Ljava/lang/Object;"⟩).before a0 Z = true) (w6 : (Cond.castable ad "java/lang/Cloneable").before a0 Z = true)
    (eT : T.heap = h) {n : Int32} {D : Nat → Int32} (F : own_AI Z h a n D) (E : Exa Z h a ad) {g : JFrame} (hg : g.method = m) (hsize : g.locals.size = c.maxLocals) {rest : List Value} (hst : g.stack = .ref a :: rest) (hd : decode c.code g.pc = .ok (.invokevirtual index, 3))
    (hf : 1 ≤ R.frames) {W cap : Nat} (hW : 2 * g.monitorRoom + (rest.map fun v => v.category).sum ≤ W) (hl : W + 14 ≤ R.locals) (hcap : n.toNatClampNeg ≤ cap) (hc : cells + 1 ≤ R.cells) (hsl : slots + cap ≤ R.slots) :
    ∃ T' h', Stand p l e R s m args below meth c T' locs (cells + 1) (slots + cap) ∧ T'.heap = h' ∧ Ext h h' ∧ own_AI Z h' h.size n D ∧ Exa Z h' h.size ad ∧
      ∀ target, Steps p.tables e below (T'.setTop { g with pc := g.pc + 3, stack := .ref h.size :: rest }) target → Steps p.tables e below (T.setTop g) target := by
  obtain ⟨cl, A, S, H⟩ := F
  have FC : FitC Z cl := fitC_of A fun i hi v hv => by rw [H i hi] at hv; cases hv; rfl
  obtain ⟨T', h', X', e', ex, A', E', st⟩ := cloneA X hx hZ hown w1 w2 w3 w4 w5 w6 eT A E FC hg hsize hst hd hf hW hl (by rw [S]; exact hcap) hc hsl
  exact ⟨T', h', X', e', ex, ⟨cloneOf cl, A', S, H⟩, E', st⟩
/-- three counts, none below 0, their sum an int -/
def own_ok3 (D : Nat → Int32) : Prop := 0 ≤ (D 0).toInt ∧ 0 ≤ (D 1).toInt ∧ 0 ≤ (D 2).toInt ∧ (D 0).toInt + (D 1).toInt + (D 2).toInt < 2147483648
theorem own_adi {x y : Int32} (hx : 0 ≤ x.toInt) (hy : 0 ≤ y.toInt) (h : x.toInt + y.toInt < 2147483648) : (x + y).toInt = x.toInt + y.toInt := by
  rw [Int32.toInt_add]
  simp only [Int.bmod]
  omega
theorem own_sui {x y : Int32} (hy : 0 ≤ y.toInt) (h : y.toInt ≤ x.toInt) : (x - y).toInt = x.toInt - y.toInt := by
  have a := own_i32 x
  rw [Int32.toInt_sub]
  simp only [Int.bmod]
  omega
theorem own_neg (x : Int32) : x < 0 ↔ x.toBitVec.msb = true := by
  rw [Int32.lt_iff_toInt_lt]
  have z : (0 : Int32).toInt = 0 := rfl
  rw [z, BitVec.msb_eq_toInt]
  have e : x.toInt = x.toBitVec.toInt := rfl
  rw [e]
  simp
theorem own_ax {x y : Int32} (hx : 0 ≤ x.toInt) (hy : 0 ≤ y.toInt) (h : x.toInt + y.toInt < 2147483648) : ¬ ((x ^^^ (x + y)) &&& (y ^^^ (x + y))) < 0 := by
  have e := own_adi hx hy h
  have z : (0 : Int32).toInt = 0 := rfl
  have nx : x.toBitVec.msb = false := by
    cases q : x.toBitVec.msb
    · rfl
    · have := (own_neg x).mpr q
      rw [Int32.lt_iff_toInt_lt, z] at this
      omega
  have ns : (x + y).toBitVec.msb = false := by
    cases q : (x + y).toBitVec.msb
    · rfl
    · have := (own_neg (x + y)).mpr q
      rw [Int32.lt_iff_toInt_lt, z] at this
      omega
  intro n
  have m := (own_neg _).mp n
  rw [Int32.toBitVec_and, Int32.toBitVec_xor, BitVec.msb_and, BitVec.msb_xor, nx, ns] at m
  simp at m
theorem own_a3 {D : Nat → Int32} (h : own_ok3 D) : (¬ (((0 : Int32) ^^^ ((0 : Int32) + D 0)) &&& (D 0 ^^^ ((0 : Int32) + D 0))) < 0) ∧ (¬ ((((0 : Int32) + D 0) ^^^ (((0 : Int32) + D 0) + D 1)) &&& (D 1 ^^^ (((0 : Int32) + D 0) + D 1))) < 0) ∧ (¬ (((((0 : Int32) + D 0) + D 1) ^^^ ((((0 : Int32) + D 0) + D 1) + D 2)) &&& (D 2 ^^^ ((((0 : Int32) + D 0) + D 1) + D 2))) < 0) ∧ ((((0 : Int32) + D 0) + D 1) + D 2).toInt = (D 0).toInt + (D 1).toInt + (D 2).toInt := by
  obtain ⟨a, b, c, d⟩ := h
  have z : (0 : Int32).toInt = 0 := rfl
  have e1 : ((0 : Int32) + D 0).toInt = (D 0).toInt := by rw [own_adi (by omega) a (by omega)]; omega
  have e2 : (((0 : Int32) + D 0) + D 1).toInt = (D 0).toInt + (D 1).toInt := by rw [own_adi (by omega) b (by omega), e1]
  exact ⟨own_ax (by omega) a (by omega), own_ax (by omega) b (by omega), own_ax (by omega) c (by omega), by rw [own_adi (by omega) c (by omega), e2]⟩
theorem own_ss (x : Int32) : x - x = 0 := Int32.sub_self x
theorem own_32 {x : Int32} (h : ¬ (0 : Int32) < x) : ¬ (32 : Int32) < x := by
  rw [Int32.lt_iff_toInt_lt] at h ⊢
  have z : (0 : Int32).toInt = 0 := rfl
  have z2 : (32 : Int32).toInt = 32 := rfl
  omega
theorem own_hA (x y : Int32) : x - ((x - y) - 0) = y := by
  rw [Int32.sub_zero, Int32.sub_eq_add_neg, Int32.neg_sub, Int32.add_comm, Int32.sub_add_cancel]
theorem own_z3 {x y : Int32} (h0 : ¬ (0 : Int32) < x) (h1 : ¬ y < 0) (h2 : ¬ x < y) : y = 0 := by
  rw [Int32.lt_iff_toInt_lt] at h0 h1 h2
  have z : (0 : Int32).toInt = 0 := rfl
  exact Int32.toInt_inj.mp (by omega)
theorem own_kd {x y : Int32} (h : ¬ y < 0) : ¬ y < (x - x) := by rw [own_ss]; exact h
theorem own_kd2 {x y : Int32} (h1 : ¬ y < 0) (h2 : ¬ x < y) : ¬ (x - y) < (x - x) := by
  rw [own_ss, Int32.lt_iff_toInt_lt]
  rw [Int32.lt_iff_toInt_lt] at h1 h2
  have z : (0 : Int32).toInt = 0 := rfl
  rw [own_sui (by omega) (by omega)]
  omega
theorem own_lk {x : Int32} : ¬ x < x := fun h => by
  rw [Int32.lt_iff_toInt_lt] at h
  omega
theorem own_kw {h h' : Heap} {ws ws' : List Addr} (K : Keep h h' ws) (q : ∀ x ∈ ws, x ∈ ws') : Keep h h' ws' := ⟨K.1, fun x c e n => K.2.1 x c e (fun m => n (q x m)), K.2.2⟩
theorem own_step {D Rf E0 : Nat → Int32} (j : Nat) (hj : j < 3) (ok : own_ok3 D) (okE : own_ok3 E0) (h1 : 1 ≤ (D j).toInt) (hE : ∀ i, i < 3 → (Rf i).toInt + (D i).toInt = (E0 i).toInt) :
    own_ok3 (own_upd D j (D j - 1)) ∧ ((own_upd D j (D j - 1)) 0).toInt + ((own_upd D j (D j - 1)) 1).toInt + ((own_upd D j (D j - 1)) 2).toInt = (D 0).toInt + (D 1).toInt + (D 2).toInt - 1 ∧
      ∀ i, i < 3 → ((own_upd Rf j (Rf j + 1)) i).toInt + ((own_upd D j (D j - 1)) i).toInt = (E0 i).toInt := by
  have o : (1 : Int32).toInt = 1 := rfl
  have e1 : (D j - 1).toInt = (D j).toInt - 1 := by rw [own_sui (by rw [o]; decide) (by rw [o]; exact h1), o]
  have e2 : (Rf j + 1).toInt = (Rf j).toInt + 1 := by
    have a := hE j hj
    have b := own_i32 (Rf j)
    have c := own_i32 (E0 j)
    rw [Int32.toInt_add, o]
    simp only [Int.bmod]
    omega
  obtain ⟨a, b, c, d⟩ := ok
  have u0 : ∀ (F : Nat → Int32) (x : Int32) (i : Nat), (own_upd F j x) i = if j = i then x else F i := fun _ _ _ => rfl
  match j, hj, h1, e1, e2, u0 with
  | 0, _, h1, e1, e2, u0 =>
    refine ⟨⟨?_, ?_, ?_, ?_⟩, ?_, fun i hi => ?_⟩ <;> simp only [u0] <;> try simp only [if_true, show ((0 : Nat) = 1) = False from by simp, show ((0 : Nat) = 2) = False from by simp, if_false] <;> try omega
    by_cases q : 0 = i
    · subst q
      simp only [if_true]
      have := hE 0 hi
      omega
    · simp only [if_neg q]
      exact hE i hi
  | 1, _, h1, e1, e2, u0 =>
    refine ⟨⟨?_, ?_, ?_, ?_⟩, ?_, fun i hi => ?_⟩ <;> simp only [u0] <;> try simp only [if_true, show ((1 : Nat) = 0) = False from by simp, show ((1 : Nat) = 2) = False from by simp, if_false] <;> try omega
    by_cases q : 1 = i
    · subst q
      simp only [if_true]
      have := hE 1 hi
      omega
    · simp only [if_neg q]
      exact hE i hi
  | 2, _, h1, e1, e2, u0 =>
    refine ⟨⟨?_, ?_, ?_, ?_⟩, ?_, fun i hi => ?_⟩ <;> simp only [u0] <;> try simp only [if_true, show ((2 : Nat) = 0) = False from by simp, show ((2 : Nat) = 1) = False from by simp, if_false] <;> try omega
    by_cases q : 2 = i
    · subst q
      simp only [if_true]
      have := hE 2 hi
      omega
    · simp only [if_neg q]
      exact hE i hi
theorem own_h3 {D : Nat → Int32} {p2 : Int32} (ok : own_ok3 D) (hs : p2.toInt = (D 0).toInt + (D 1).toInt + (D 2).toInt) :
    (¬ p2 < 0 ∧ ¬ D 0 < 0 ∧ ¬ p2 < D 0) ∧ (¬ (p2 - D 0) < 0 ∧ ¬ D 1 < 0 ∧ ¬ (p2 - D 0) < D 1) ∧ (¬ (p2 - D 0 - D 1) < 0 ∧ ¬ D 2 < 0 ∧ ¬ (p2 - D 0 - D 1) < D 2) := by
  obtain ⟨a, b, c, d⟩ := ok
  have z : (0 : Int32).toInt = 0 := rfl
  have e1 : (p2 - D 0).toInt = p2.toInt - (D 0).toInt := own_sui a (by omega)
  have e2 : (p2 - D 0 - D 1).toInt = p2.toInt - (D 0).toInt - (D 1).toInt := by rw [own_sui b (by omega), e1]
  simp only [Int32.lt_iff_toInt_lt, e1, e2, z]
  omega
def own_Qc (c : Int32) (h0 : Heap) (n0 : Nat) (v : Option Value) (h : Heap) (L : List Loc) : Prop := v = some (.int c) ∧ Fr n0 L ∧ h = h0
def own_Qj (c : Int64) (h0 : Heap) (n0 : Nat) (v : Option Value) (h : Heap) (L : List Loc) : Prop := v = some (.long c) ∧ Fr n0 L ∧ h = h0
theorem d7_0 : decode prog_76_method_10_code 0 = .ok (.lload_n 0, 1) := by decide +kernel
theorem d7_1 : decode prog_76_method_10_code 1 = .ok (.lload_n 0, 1) := by decide +kernel
theorem d7_2 : decode prog_76_method_10_code 2 = .ok (.bipush 30, 2) := by decide +kernel
theorem d7_4 : decode prog_76_method_10_code 4 = .ok (.lushr, 1) := by decide +kernel
theorem d7_5 : decode prog_76_method_10_code 5 = .ok (.lxor, 1) := by decide +kernel
theorem d7_6 : decode prog_76_method_10_code 6 = .ok (.ldc2_w 51, 3) := by decide +kernel
theorem d7_9 : decode prog_76_method_10_code 9 = .ok (.lmul, 1) := by decide +kernel
theorem d7_10 : decode prog_76_method_10_code 10 = .ok (.lstore_n 0, 1) := by decide +kernel
theorem d7_11 : decode prog_76_method_10_code 11 = .ok (.lload_n 0, 1) := by decide +kernel
theorem d7_12 : decode prog_76_method_10_code 12 = .ok (.lload_n 0, 1) := by decide +kernel
theorem d7_13 : decode prog_76_method_10_code 13 = .ok (.bipush 27, 2) := by decide +kernel
theorem d7_15 : decode prog_76_method_10_code 15 = .ok (.lushr, 1) := by decide +kernel
theorem d7_16 : decode prog_76_method_10_code 16 = .ok (.lxor, 1) := by decide +kernel
theorem d7_17 : decode prog_76_method_10_code 17 = .ok (.ldc2_w 53, 3) := by decide +kernel
theorem d7_20 : decode prog_76_method_10_code 20 = .ok (.lmul, 1) := by decide +kernel
theorem d7_21 : decode prog_76_method_10_code 21 = .ok (.lstore_n 0, 1) := by decide +kernel
theorem d7_22 : decode prog_76_method_10_code 22 = .ok (.lload_n 0, 1) := by decide +kernel
theorem d7_23 : decode prog_76_method_10_code 23 = .ok (.lload_n 0, 1) := by decide +kernel
theorem d7_24 : decode prog_76_method_10_code 24 = .ok (.bipush 31, 2) := by decide +kernel
theorem d7_26 : decode prog_76_method_10_code 26 = .ok (.lushr, 1) := by decide +kernel
theorem d7_27 : decode prog_76_method_10_code 27 = .ok (.lxor, 1) := by decide +kernel
theorem d7_28 : decode prog_76_method_10_code 28 = .ok (.lreturn, 1) := by decide +kernel
theorem pn_7 : plainName "com/example/binario/binario/rules/SeededRandom" = true := by first | (simp [plainName, overriddenIn]; done) | decide +kernel
theorem ef_7 (m : MethodId) (x0 : Int64) : entryFrame m #[(.long x0)] 2 = mkF m 0 #[.val (.long x0), .second] [] := by first | (simp [entryFrame, mkF, argsToLocals, Value.category]; done) | rfl
def Q7 (Z : State) (q1 : Int64) (h0 : Heap) (n0 : Nat) (v : Option Value) (h : Heap) (L : List Loc) : Prop := own_Qj (own_mix q1) h0 n0 v h L
set_option maxRecDepth 65536 in
set_option maxHeartbeats 40000000 in
theorem rm7 (l : Launch) (Z : State) (a0 : Array Value) (hw : ∀ d ∈ tables_1, d.before a0 Z = true) (ws : List Jvm.Cond) (q1 : Int64) (h0 : Heap) (n0 : Nat) (Z0 : n0 ≤ h0.size) :
    MetFree l (⟨"com/example/binario/binario/rules/SeededRandom", "mix", "(J)J"⟩ : MethodName) (head1 (Jvm.Cond.code (⟨"com/example/binario/binario/rules/SeededRandom", "mix", "(J)J"⟩ : MethodName) prog_76_method_10_code 2 (some .long) :: ws) ({ frames := 0, cells := 0, slots := 0, locals := 0 } : Room)) (fun a U => a = #[(.long q1)] ∧ Z.Warmed39 U.vm ∧ U.heap = h0) (fun _ _ _ _ _ => True) (fun _ U o U' => ∃ v L, o = .returned v ∧ Q7 Z q1 h0 n0 v U'.heap L ∧ FrameEnd U o U' L ({ frames := 0, cells := 0, slots := 0, locals := 0 } : Room).cells ({ frames := 0, cells := 0, slots := 0, locals := 0 } : Room).slots) := by
  refine MetFree.of_bodySF (plainFor_of_name pn_7) hisR ?_
  intro p e s m args below meth c s₁ Bd hml0 hP hK
  obtain ⟨rfl, hZ, hh⟩ := hP
  have hx := Bd.exec
  have hby := Bd.bytes
  have hml : c.maxLocals = 2 := hml0
  have hown : s.vm.findClass "com/example/binario/binario/rules/SeededRandom" = some m.cls := findClass_of_methodNamed Bd.named
  have hnm := (name_of_methodNamed Bd.named Bd.method).1
  have X0 : Stand p l e ({ frames := 0, cells := 0, slots := 0, locals := 0 } : Room) s m #[(.long q1)] below meth c s₁ [] 0 0 := Stand.of_body Bd
  have e0 : s₁.heap = h0 := by rw [← hh, Bd.state]; rfl
  have N0 := Fr.nil n0
  have pre0 : ∀ t, Steps p.tables e below (s₁.setTop (mkF m 0 #[.val (.long q1), .second] [])) t → Steps p.tables e below (s₁.setTop (entryFrame m #[(.long q1)] 2)) t := fun t k => castTop (ef_7 m q1) k


  obtain ⟨fs, hr, hrun, hended, hW, hsame⟩ := X0.leave (v := some (.long (((((q1 ^^^ ((q1.toUInt64 >>> ((30 : Int32) &&& 0x3f).toInt64.toUInt64).toInt64)) * (-4658895280553007687 : Int64)) ^^^ ((((q1 ^^^ ((q1.toUInt64 >>> ((30 : Int32) &&& 0x3f).toInt64.toUInt64).toInt64)) * (-4658895280553007687 : Int64)).toUInt64 >>> ((27 : Int32) &&& 0x3f).toInt64.toUInt64).toInt64)) * (-7723592293110705685 : Int64)) ^^^ ((((((q1 ^^^ ((q1.toUInt64 >>> ((30 : Int32) &&& 0x3f).toInt64.toUInt64).toInt64)) * (-4658895280553007687 : Int64)) ^^^ ((((q1 ^^^ ((q1.toUInt64 >>> ((30 : Int32) &&& 0x3f).toInt64.toUInt64).toInt64)) * (-4658895280553007687 : Int64)).toUInt64 >>> ((27 : Int32) &&& 0x3f).toInt64.toUInt64).toInt64)) * (-7723592293110705685 : Int64)).toUInt64 >>> ((31 : Int32) &&& 0x3f).toInt64.toUInt64).toInt64)))) (fun h => by rw [Bd.returns] at h; cases h)
  refine ⟨_, _, pre0 _ ?_, hrun, hended, _, _, rfl, ?_, ⟨_, rfl⟩, hW, hsame.mono (by decide) (by decide)⟩
  · show Steps _ _ _ (s₁.setTop (mkF m 0 #[.val (.long q1), .second] [])) _
    refine XS.lloadN X0.here hx rfl (hb hby d7_0) rfl ?_
    refine XS.lloadN X0.here hx rfl (hb hby d7_1) rfl ?_
    refine XS.bipush X0.here hx rfl (hb hby d7_2) ?_
    refine XS.lushr X0.here hx rfl (hb hby d7_4) rfl ?_
    refine XS.lxor X0.here hx rfl (hb hby d7_5) rfl ?_
    refine X0.ldc2Long hx hown (mvT hZ (ww hw 49 rfl)) (g := (mkF m 6 #[.val (.long q1), .second] [(.long (q1 ^^^ ((q1.toUInt64 >>> ((30 : Int32) &&& 0x3f).toInt64.toUInt64).toInt64)))])) rfl (hb hby d7_6) _ ?_
    refine XS.lmul X0.here hx rfl (hb hby d7_9) rfl ?_
    refine XS.lstoreN X0.here hx rfl (hb hby d7_10) rfl (l' := #[.val (.long ((q1 ^^^ ((q1.toUInt64 >>> ((30 : Int32) &&& 0x3f).toInt64.toUInt64).toInt64)) * (-4658895280553007687 : Int64))), .second]) rfl ?_
    refine XS.lloadN X0.here hx rfl (hb hby d7_11) rfl ?_
    refine XS.lloadN X0.here hx rfl (hb hby d7_12) rfl ?_
    refine XS.bipush X0.here hx rfl (hb hby d7_13) ?_
    refine XS.lushr X0.here hx rfl (hb hby d7_15) rfl ?_
    refine XS.lxor X0.here hx rfl (hb hby d7_16) rfl ?_
    refine X0.ldc2Long hx hown (mvT hZ (ww hw 50 rfl)) (g := (mkF m 17 #[.val (.long ((q1 ^^^ ((q1.toUInt64 >>> ((30 : Int32) &&& 0x3f).toInt64.toUInt64).toInt64)) * (-4658895280553007687 : Int64))), .second] [(.long (((q1 ^^^ ((q1.toUInt64 >>> ((30 : Int32) &&& 0x3f).toInt64.toUInt64).toInt64)) * (-4658895280553007687 : Int64)) ^^^ ((((q1 ^^^ ((q1.toUInt64 >>> ((30 : Int32) &&& 0x3f).toInt64.toUInt64).toInt64)) * (-4658895280553007687 : Int64)).toUInt64 >>> ((27 : Int32) &&& 0x3f).toInt64.toUInt64).toInt64)))])) rfl (hb hby d7_17) _ ?_
    refine XS.lmul X0.here hx rfl (hb hby d7_20) rfl ?_
    refine XS.lstoreN X0.here hx rfl (hb hby d7_21) rfl (l' := #[.val (.long ((((q1 ^^^ ((q1.toUInt64 >>> ((30 : Int32) &&& 0x3f).toInt64.toUInt64).toInt64)) * (-4658895280553007687 : Int64)) ^^^ ((((q1 ^^^ ((q1.toUInt64 >>> ((30 : Int32) &&& 0x3f).toInt64.toUInt64).toInt64)) * (-4658895280553007687 : Int64)).toUInt64 >>> ((27 : Int32) &&& 0x3f).toInt64.toUInt64).toInt64)) * (-7723592293110705685 : Int64))), .second]) rfl ?_
    refine XS.lloadN X0.here hx rfl (hb hby d7_22) rfl ?_
    refine XS.lloadN X0.here hx rfl (hb hby d7_23) rfl ?_
    refine XS.bipush X0.here hx rfl (hb hby d7_24) ?_
    refine XS.lushr X0.here hx rfl (hb hby d7_26) rfl ?_
    refine XS.lxor X0.here hx rfl (hb hby d7_27) rfl ?_
    exact own_retJ X0 hx Bd.returns (hb hby d7_28) hr
  · show Q7 Z q1 h0 n0 _ s₁.heap _
    rw [e0]
    exact ⟨rfl, N0, rfl⟩
theorem d11_0 : decode prog_76_method_6_code 0 = .ok (.aload_n 0, 1) := by decide +kernel
theorem d11_1 : decode prog_76_method_6_code 1 = .ok (.dup, 1) := by decide +kernel
theorem d11_2 : decode prog_76_method_6_code 2 = .ok (.getfield 15, 3) := by decide +kernel
theorem d11_5 : decode prog_76_method_6_code 5 = .ok (.ldc2_w 9, 3) := by decide +kernel
theorem d11_8 : decode prog_76_method_6_code 8 = .ok (.ladd, 1) := by decide +kernel
theorem d11_9 : decode prog_76_method_6_code 9 = .ok (.putfield 15, 3) := by decide +kernel
theorem d11_12 : decode prog_76_method_6_code 12 = .ok (.aload_n 0, 1) := by decide +kernel
theorem d11_13 : decode prog_76_method_6_code 13 = .ok (.getfield 15, 3) := by decide +kernel
theorem d11_16 : decode prog_76_method_6_code 16 = .ok (.invokestatic 11, 3) := by decide +kernel
theorem d11_19 : decode prog_76_method_6_code 19 = .ok (.lreturn, 1) := by decide +kernel
theorem pn_11 : plainName "com/example/binario/binario/rules/SeededRandom" = true := by first | (simp [plainName, overriddenIn]; done) | decide +kernel
theorem pd_11_7 : parseMethodDescriptor "(J)J" = some ⟨[.long], some .long⟩ := by decide +kernel
theorem ef_11 (m : MethodId) (x0 : Addr) : entryFrame m #[(.ref x0)] 1 = mkF m 0 #[.val (.ref x0)] [] := by first | (simp [entryFrame, mkF, argsToLocals, Value.category]; done) | rfl
def Q11 (Z : State) (a1 : Addr) (w2 : Int64) (h0 : Heap) (n0 : Nat) (v : Option Value) (h : Heap) (L : List Loc) : Prop := v = some (.long (own_mix (w2 + own_G))) ∧ Fr n0 L ∧ Keep h0 h [a1] ∧ Fld Z h a1 "com/example/binario/binario/rules/SeededRandom" "state" "J" (.long (w2 + own_G))
set_option maxRecDepth 65536 in
set_option maxHeartbeats 40000000 in
theorem rm11 (l : Launch) (Z : State) (a0 : Array Value) (hw : ∀ d ∈ tables_1, d.before a0 Z = true) (ws : List Jvm.Cond) (a1 : Addr) (w2 : Int64) (h0 : Heap) (n0 : Nat) (Z0 : n0 ≤ h0.size) (F_state_a1 : Fld Z h0 a1 "com/example/binario/binario/rules/SeededRandom" "state" "J" (.long w2)) (E_a1 : Exa Z h0 a1 "com/example/binario/binario/rules/SeededRandom") (g_a1 : n0 ≤ a1) :
    MetFree l (⟨"com/example/binario/binario/rules/SeededRandom", "nextLong", "()J"⟩ : MethodName) (head1 (Jvm.Cond.code (⟨"com/example/binario/binario/rules/SeededRandom", "nextLong", "()J"⟩ : MethodName) prog_76_method_6_code 1 (some .long) :: ws) ({ frames := 1, cells := 0, slots := 0, locals := 13 } : Room)) (fun a U => a = #[(.ref a1)] ∧ Z.Warmed39 U.vm ∧ U.heap = h0) (fun _ _ _ _ _ => True) (fun _ U o U' => ∃ v L, o = .returned v ∧ Q11 Z a1 w2 h0 n0 v U'.heap L ∧ FrameEnd U o U' L ({ frames := 1, cells := 0, slots := 0, locals := 13 } : Room).cells ({ frames := 1, cells := 0, slots := 0, locals := 13 } : Room).slots) := by
  refine MetFree.of_bodySF (plainFor_of_name pn_11) hisR ?_
  intro p e s m args below meth c s₁ Bd hml0 hP hK
  obtain ⟨rfl, hZ, hh⟩ := hP
  have hx := Bd.exec
  have hby := Bd.bytes
  have hml : c.maxLocals = 1 := hml0
  have hown : s.vm.findClass "com/example/binario/binario/rules/SeededRandom" = some m.cls := findClass_of_methodNamed Bd.named
  have hnm := (name_of_methodNamed Bd.named Bd.method).1
  have X0 : Stand p l e ({ frames := 1, cells := 0, slots := 0, locals := 13 } : Room) s m #[(.ref a1)] below meth c s₁ [] 0 0 := Stand.of_body Bd
  have e0 : s₁.heap = h0 := by rw [← hh, Bd.state]; rfl
  have N0 := Fr.nil n0
  have pre0 : ∀ t, Steps p.tables e below (s₁.setTop (mkF m 0 #[.val (.ref a1)] [])) t → Steps p.tables e below (s₁.setTop (entryFrame m #[(.ref a1)] 1)) t := fun t k => castTop (ef_11 m a1) k

  obtain ⟨T3, X3, e3, st3⟩ := getF X0 hx hZ hown (host := "") (Or.inl (ww hw 51 rfl)) Via.refl e0 F_state_a1 (g := (mkF m 2 #[.val (.ref a1)] [(.ref a1), (.ref a1)])) rfl rfl (hb hby d11_2)
  obtain ⟨T4, h4, X4, e4, W4, st4⟩ := putF X3 hx hZ hown (host := "") (Or.inl (ww hw 51 rfl)) Via.refl e3 F_state_a1 E_a1 (Or.inl (ww hw 52 rfl)) (ww hw 39 rfl) (ty := .long) (by decide) rfl rfl (g := (mkF m 9 #[.val (.ref a1)] [(.long (w2 + (-7046029254386353131 : Int64))), (.ref a1)])) rfl rfl (hb hby d11_9)
  have Fw4 := F_state_a1.same W4
  have K4 : Keep h0 h4 [a1] := (Keep.refl h0 [a1]).wr W4 (Or.inl (List.mem_of_getElem? (i := 0) rfl))
  have N4 := Fr.snoc X4 N0 g_a1
  obtain ⟨T5, X5, e5, st5⟩ := getF X4 hx hZ hown (host := "") (Or.inl (ww hw 51 rfl)) Via.refl e4 Fw4 (g := (mkF m 13 #[.val (.ref a1)] [(.ref a1)])) rfl rfl (hb hby d11_13)
  obtain ⟨_, _, ⟨T6, L6, k6, n6⟩, -, X6, ⟨Lc6, hQ6, l6, y6, z6⟩, st6⟩ := Jvm.LawKit.callS X5 hx (y := (⟨"com/example/binario/binario/rules/SeededRandom", "mix", "(J)J"⟩ : MethodName)) hown (mvT hZ (ww hw 46 rfl)) (mvT hZ (ww hw 47 rfl)) (mvT hZ (ww hw 36 rfl)) (mvT hZ (ww hw 48 rfl)) (by decide) (backOf (W := 0) (rm7 l Z a0 hw [] (w2 + (-7046029254386353131 : Int64))  h4 n0 (Nat.le_trans Z0 (Keep.of_wr W4).1)) hZ (ww hw 48 rfl) (ww hw 36 rfl) (by decide) (by decide)) (g := (mkF m 16 #[.val (.ref a1)] [(.long (w2 + (-7046029254386353131 : Int64)))])) rfl (by rw [hml]; rfl) (argsL := [(.long (w2 + (-7046029254386353131 : Int64)))]) (rest := []) (lenOf pd_11_7 rfl) rfl (by show 2 * 0 + _ ≤ _; exact Nat.le_of_eq rfl) (hb hby d11_16) (fun _ _ => ⟨rfl, e5, (by decide : 0 + 0 ≤ _), (by decide : 0 + 0 ≤ _)⟩)
  dsimp only [Pt.U, Pt.locs, Pt.cells, Pt.slots] at X6 l6 y6 z6 st6 hQ6
  subst l6 y6 z6
  obtain ⟨rfl, N6q, eh6⟩ := hQ6
  have N6 := Fr.app N4 N6q
  obtain ⟨fs, hr, hrun, hended, hW, hsame⟩ := X6.leave (v := some (.long (own_mix (w2 + (-7046029254386353131 : Int64))))) (fun h => by rw [Bd.returns] at h; cases h)
  refine ⟨_, _, pre0 _ ?_, hrun, hended, _, _, rfl, ?_, ⟨_, rfl⟩, hW, hsame.mono (by decide) (by decide)⟩
  · show Steps _ _ _ (s₁.setTop (mkF m 0 #[.val (.ref a1)] [])) _
    refine XS.aloadN X0.here hx rfl (hb hby d11_0) rfl rfl ?_
    refine XS.dup X0.here hx rfl (hb hby d11_1) rfl rfl ?_
    refine st3 _ ?_
    refine X3.ldc2Long hx hown (mvT hZ (ww hw 45 rfl)) (g := (mkF m 5 #[.val (.ref a1)] [(.long w2), (.ref a1)])) rfl (hb hby d11_5) _ ?_
    refine XS.ladd X3.here hx rfl (hb hby d11_8) rfl ?_
    refine st4 _ ?_
    refine XS.aloadN X4.here hx rfl (hb hby d11_12) rfl rfl ?_
    refine st5 _ ?_
    refine st6 _ ?_
    exact own_retJ X6 hx Bd.returns (hb hby d11_19) hr
  · show Q11 Z a1 w2 h0 n0 _ T6.heap _
    rw [eh6]
    exact ⟨rfl, N6, K4, Fw4⟩
theorem d6_0 : decode prog_76_method_1_code 0 = .ok (.aload_n 0, 1) := by decide +kernel
theorem d6_1 : decode prog_76_method_1_code 1 = .ok (.invokespecial 1, 3) := by decide +kernel
theorem d6_4 : decode prog_76_method_1_code 4 = .ok (.aload_n 0, 1) := by decide +kernel
theorem d6_5 : decode prog_76_method_1_code 5 = .ok (.lload_n 3, 1) := by decide +kernel
theorem d6_6 : decode prog_76_method_1_code 6 = .ok (.ldc2_w 9, 3) := by decide +kernel
theorem d6_9 : decode prog_76_method_1_code 9 = .ok (.lmul, 1) := by decide +kernel
theorem d6_10 : decode prog_76_method_1_code 10 = .ok (.invokestatic 11, 3) := by decide +kernel
theorem d6_13 : decode prog_76_method_1_code 13 = .ok (.lload_n 1, 1) := by decide +kernel
theorem d6_14 : decode prog_76_method_1_code 14 = .ok (.lxor, 1) := by decide +kernel
theorem d6_15 : decode prog_76_method_1_code 15 = .ok (.invokestatic 11, 3) := by decide +kernel
theorem d6_18 : decode prog_76_method_1_code 18 = .ok (.putfield 15, 3) := by decide +kernel
theorem d6_21 : decode prog_76_method_1_code 21 = .ok (.return_, 1) := by decide +kernel
theorem pn_6 : plainName "com/example/binario/binario/rules/SeededRandom" = true := by first | (simp [plainName, overriddenIn]; done) | decide +kernel
theorem pd_6_7 : parseMethodDescriptor "(J)J" = some ⟨[.long], some .long⟩ := by decide +kernel
theorem ef_6 (m : MethodId) (x0 : Addr) (x1 : Int64) (x2 : Int64) : entryFrame m #[(.ref x0), (.long x1), (.long x2)] 5 = mkF m 0 #[.val (.ref x0), .val (.long x1), .second, .val (.long x2), .second] [] := by first | (simp [entryFrame, mkF, argsToLocals, Value.category]; done) | rfl
def Q6 (Z : State) (a1 : Addr) (q2 : Int64) (q3 : Int64) (u_state_a1 : Value) (h0 : Heap) (n0 : Nat) (v : Option Value) (h : Heap) (L : List Loc) : Prop := ∃ st : Int64, v = none ∧ Fr n0 L ∧ Keep h0 h [a1] ∧ Fld Z h a1 "com/example/binario/binario/rules/SeededRandom" "state" "J" (.long st)
set_option maxRecDepth 65536 in
set_option maxHeartbeats 40000000 in
theorem rm6 (l : Launch) (Z : State) (a0 : Array Value) (hw : ∀ d ∈ tables_1, d.before a0 Z = true) (ws : List Jvm.Cond) (a1 : Addr) (q2 : Int64) (q3 : Int64) (u_state_a1 : Value) (h0 : Heap) (n0 : Nat) (Z0 : n0 ≤ h0.size) (E_a1 : Exa Z h0 a1 "com/example/binario/binario/rules/SeededRandom") (F_state_a1 : Fld Z h0 a1 "com/example/binario/binario/rules/SeededRandom" "state" "J" u_state_a1) (g_a1 : n0 ≤ a1) :
    MetFree l (⟨"com/example/binario/binario/rules/SeededRandom", "<init>", "(JJ)V"⟩ : MethodName) (head1 (Jvm.Cond.code (⟨"com/example/binario/binario/rules/SeededRandom", "<init>", "(JJ)V"⟩ : MethodName) prog_76_method_1_code 5 none :: ws) ({ frames := 1, cells := 0, slots := 0, locals := 14 } : Room)) (fun a U => a = #[(.ref a1), (.long q2), (.long q3)] ∧ Z.Warmed39 U.vm ∧ U.heap = h0) (fun _ _ _ _ _ => True) (fun _ U o U' => ∃ v L, o = .returned v ∧ Q6 Z a1 q2 q3 u_state_a1 h0 n0 v U'.heap L ∧ FrameEnd U o U' L ({ frames := 1, cells := 0, slots := 0, locals := 14 } : Room).cells ({ frames := 1, cells := 0, slots := 0, locals := 14 } : Room).slots) := by
  refine MetFree.of_bodySF (plainFor_of_name pn_6) hisR ?_
  intro p e s m args below meth c s₁ Bd hml0 hP hK
  obtain ⟨rfl, hZ, hh⟩ := hP
  have hx := Bd.exec
  have hby := Bd.bytes
  have hml : c.maxLocals = 5 := hml0
  have hown : s.vm.findClass "com/example/binario/binario/rules/SeededRandom" = some m.cls := findClass_of_methodNamed Bd.named
  have hnm := (name_of_methodNamed Bd.named Bd.method).1
  have X0 : Stand p l e ({ frames := 1, cells := 0, slots := 0, locals := 14 } : Room) s m #[(.ref a1), (.long q2), (.long q3)] below meth c s₁ [] 0 0 := Stand.of_body Bd
  have e0 : s₁.heap = h0 := by rw [← hh, Bd.state]; rfl
  have N0 := Fr.nil n0
  have pre0 : ∀ t, Steps p.tables e below (s₁.setTop (mkF m 0 #[.val (.ref a1), .val (.long q2), .second, .val (.long q3), .second] [])) t → Steps p.tables e below (s₁.setTop (entryFrame m #[(.ref a1), (.long q2), (.long q3)] 5)) t := fun t k => castTop (ef_6 m a1 q2 q3) k

  obtain ⟨T4, X4, e4, st4⟩ := initO X0 hx hZ hown (ww hw 44 rfl) (ww hw 10 rfl) (ww hw 11 rfl) e0 (g := (mkF m 1 #[.val (.ref a1), .val (.long q2), .second, .val (.long q3), .second] [(.ref a1)])) rfl (by rw [hml]; rfl) rfl (hb hby d6_1) (by decide) (W := 0) (by show 2 * 0 + _ ≤ _; exact Nat.le_of_eq rfl) (by decide)
  obtain ⟨_, _, ⟨T5, L5, k5, n5⟩, -, X5, ⟨Lc5, hQ5, l5, y5, z5⟩, st5⟩ := Jvm.LawKit.callS X4 hx (y := (⟨"com/example/binario/binario/rules/SeededRandom", "mix", "(J)J"⟩ : MethodName)) hown (mvT hZ (ww hw 46 rfl)) (mvT hZ (ww hw 47 rfl)) (mvT hZ (ww hw 36 rfl)) (mvT hZ (ww hw 48 rfl)) (by decide) (backOf (W := 1) (rm7 l Z a0 hw [] (q3 * (-7046029254386353131 : Int64))  h0 n0 Z0) hZ (ww hw 48 rfl) (ww hw 36 rfl) (by decide) (by decide)) (g := (mkF m 10 #[.val (.ref a1), .val (.long q2), .second, .val (.long q3), .second] [(.long (q3 * (-7046029254386353131 : Int64))), (.ref a1)])) rfl (by rw [hml]; rfl) (argsL := [(.long (q3 * (-7046029254386353131 : Int64)))]) (rest := [(.ref a1)]) (lenOf pd_6_7 rfl) rfl (by show 2 * 0 + _ ≤ _; exact Nat.le_of_eq rfl) (hb hby d6_10) (fun _ _ => ⟨rfl, e4, (by decide : 0 + 0 ≤ _), (by decide : 0 + 0 ≤ _)⟩)
  dsimp only [Pt.U, Pt.locs, Pt.cells, Pt.slots] at X5 l5 y5 z5 st5 hQ5
  subst l5 y5 z5
  obtain ⟨rfl, N5q, eh5⟩ := hQ5
  have N5 := Fr.app N0 N5q
  obtain ⟨_, _, ⟨T6, L6, k6, n6⟩, -, X6, ⟨Lc6, hQ6, l6, y6, z6⟩, st6⟩ := Jvm.LawKit.callS X5 hx (y := (⟨"com/example/binario/binario/rules/SeededRandom", "mix", "(J)J"⟩ : MethodName)) hown (mvT hZ (ww hw 46 rfl)) (mvT hZ (ww hw 47 rfl)) (mvT hZ (ww hw 36 rfl)) (mvT hZ (ww hw 48 rfl)) (by decide) (backOf (W := 1) (rm7 l Z a0 hw [] ((own_mix (q3 * (-7046029254386353131 : Int64))) ^^^ q2)  h0 n0 Z0) hZ (ww hw 48 rfl) (ww hw 36 rfl) (by decide) (by decide)) (g := (mkF m 15 #[.val (.ref a1), .val (.long q2), .second, .val (.long q3), .second] [(.long ((own_mix (q3 * (-7046029254386353131 : Int64))) ^^^ q2)), (.ref a1)])) rfl (by rw [hml]; rfl) (argsL := [(.long ((own_mix (q3 * (-7046029254386353131 : Int64))) ^^^ q2))]) (rest := [(.ref a1)]) (lenOf pd_6_7 rfl) rfl (by show 2 * 0 + _ ≤ _; exact Nat.le_of_eq rfl) (hb hby d6_15) (fun _ _ => ⟨rfl, eh5, (by decide : 0 + 0 ≤ _), (by decide : 0 + 0 ≤ _)⟩)
  dsimp only [Pt.U, Pt.locs, Pt.cells, Pt.slots] at X6 l6 y6 z6 st6 hQ6
  subst l6 y6 z6
  obtain ⟨rfl, N6q, eh6⟩ := hQ6
  have N6 := Fr.app N5 N6q
  obtain ⟨T7, h7, X7, e7, W7, st7⟩ := putF X6 hx hZ hown (host := "") (Or.inl (ww hw 51 rfl)) Via.refl eh6 F_state_a1 E_a1 (Or.inl (ww hw 52 rfl)) (ww hw 39 rfl) (ty := .long) (by decide) rfl rfl (g := (mkF m 18 #[.val (.ref a1), .val (.long q2), .second, .val (.long q3), .second] [(.long (own_mix ((own_mix (q3 * (-7046029254386353131 : Int64))) ^^^ q2))), (.ref a1)])) rfl rfl (hb hby d6_18)
  have Fw7 := F_state_a1.same W7
  have K7 : Keep h0 h7 [a1] := (Keep.refl h0 [a1]).wr W7 (Or.inl (List.mem_of_getElem? (i := 0) rfl))
  have N7 := Fr.snoc X7 N6 g_a1
  obtain ⟨fs, hr, hrun, hended, hW, hsame⟩ := X7.leave (v := none) (fun _ => rfl)
  refine ⟨_, _, pre0 _ ?_, hrun, hended, _, _, rfl, ?_, ⟨_, rfl⟩, hW, hsame.mono (by decide) (by decide)⟩
  · show Steps _ _ _ (s₁.setTop (mkF m 0 #[.val (.ref a1), .val (.long q2), .second, .val (.long q3), .second] [])) _
    refine XS.aloadN X0.here hx rfl (hb hby d6_0) rfl rfl ?_
    refine st4 _ ?_
    refine XS.aloadN X4.here hx rfl (hb hby d6_4) rfl rfl ?_
    refine XS.lloadN X4.here hx rfl (hb hby d6_5) rfl ?_
    refine X4.ldc2Long hx hown (mvT hZ (ww hw 45 rfl)) (g := (mkF m 6 #[.val (.ref a1), .val (.long q2), .second, .val (.long q3), .second] [(.long q3), (.ref a1)])) rfl (hb hby d6_6) _ ?_
    refine XS.lmul X4.here hx rfl (hb hby d6_9) rfl ?_
    refine st5 _ ?_
    refine XS.lloadN X5.here hx rfl (hb hby d6_13) rfl ?_
    refine XS.lxor X5.here hx rfl (hb hby d6_14) rfl ?_
    refine st6 _ ?_
    refine st7 _ ?_
    exact X7.returnOut hx Bd.returns (hb hby d6_21) hr
  · show Q6 Z a1 q2 q3 u_state_a1 h0 n0 _ T7.heap _
    rw [e7]
    exact ⟨_, rfl, N7, K7, Fw7⟩
theorem d5_0 : decode prog_76_method_4_code 0 = .ok (.new 7, 3) := by decide +kernel
theorem d5_3 : decode prog_76_method_4_code 3 = .ok (.dup, 1) := by decide +kernel
theorem d5_4 : decode prog_76_method_4_code 4 = .ok (.lload_n 0, 1) := by decide +kernel
theorem d5_5 : decode prog_76_method_4_code 5 = .ok (.ldc2_w 24, 3) := by decide +kernel
theorem d5_8 : decode prog_76_method_4_code 8 = .ok (.invokespecial 19, 3) := by decide +kernel
theorem d5_11 : decode prog_76_method_4_code 11 = .ok (.areturn, 1) := by decide +kernel
theorem pn_5 : plainName "com/example/binario/binario/rules/SeededRandom" = true := by first | (simp [plainName, overriddenIn]; done) | decide +kernel
theorem pd_5_6 : parseMethodDescriptor "(JJ)V" = some ⟨[.long, .long], none⟩ := by decide +kernel
theorem ef_5 (m : MethodId) (x0 : Int64) : entryFrame m #[(.long x0)] 2 = mkF m 0 #[.val (.long x0), .second] [] := by first | (simp [entryFrame, mkF, argsToLocals, Value.category]; done) | rfl
def Q5 (Z : State) (q1 : Int64) (h0 : Heap) (n0 : Nat) (v : Option Value) (h : Heap) (L : List Loc) : Prop := ∃ (sr : Addr) (st : Int64), v = some (.ref sr) ∧ Fr n0 L ∧ Keep h0 h [] ∧ h0.size ≤ sr ∧ Exa Z h sr "com/example/binario/binario/rules/SeededRandom" ∧ Fld Z h sr "com/example/binario/binario/rules/SeededRandom" "state" "J" (.long st)
set_option maxRecDepth 65536 in
set_option maxHeartbeats 40000000 in
theorem rm5 (l : Launch) (Z : State) (a0 : Array Value) (hw : ∀ d ∈ tables_1, d.before a0 Z = true) (ws : List Jvm.Cond) (q1 : Int64) (h0 : Heap) (n0 : Nat) (Z0 : n0 ≤ h0.size) :
    MetFree l (⟨"com/example/binario/binario/rules/SeededRandom", "passengerDraws", "(J)Lcom/example/binario/binario/rules/SeededRandom;"⟩ : MethodName) (head1 (Jvm.Cond.code (⟨"com/example/binario/binario/rules/SeededRandom", "passengerDraws", "(J)Lcom/example/binario/binario/rules/SeededRandom;"⟩ : MethodName) prog_76_method_4_code 2 (some (.object "com/example/binario/binario/rules/SeededRandom")) :: ws) ({ frames := 2, cells := 1, slots := 1, locals := 31 } : Room)) (fun a U => a = #[(.long q1)] ∧ Z.Warmed39 U.vm ∧ U.heap = h0) (fun _ _ _ _ _ => True) (fun _ U o U' => ∃ v L, o = .returned v ∧ Q5 Z q1 h0 n0 v U'.heap L ∧ FrameEnd U o U' L ({ frames := 2, cells := 1, slots := 1, locals := 31 } : Room).cells ({ frames := 2, cells := 1, slots := 1, locals := 31 } : Room).slots) := by
  refine MetFree.of_bodySF (plainFor_of_name pn_5) hisR ?_
  intro p e s m args below meth c s₁ Bd hml0 hP hK
  obtain ⟨rfl, hZ, hh⟩ := hP
  have hx := Bd.exec
  have hby := Bd.bytes
  have hml : c.maxLocals = 2 := hml0
  have hown : s.vm.findClass "com/example/binario/binario/rules/SeededRandom" = some m.cls := findClass_of_methodNamed Bd.named
  have hnm := (name_of_methodNamed Bd.named Bd.method).1
  have X0 : Stand p l e ({ frames := 2, cells := 1, slots := 1, locals := 31 } : Room) s m #[(.long q1)] below meth c s₁ [] 0 0 := Stand.of_body Bd
  have e0 : s₁.heap = h0 := by rw [← hh, Bd.state]; rfl
  have N0 := Fr.nil n0
  have pre0 : ∀ t, Steps p.tables e below (s₁.setTop (mkF m 0 #[.val (.long q1), .second] [])) t → Steps p.tables e below (s₁.setTop (entryFrame m #[(.long q1)] 2)) t := fun t k => castTop (ef_5 m q1) k

  obtain ⟨T2, h2, X2, e2, E2, A2, D2, -, st2⟩ := newO X0 hx hZ hown (ww hw 38 rfl) (ww hw 39 rfl) (ww hw 36 rfl) e0 (g := (mkF m 0 #[.val (.long q1), .second] [])) rfl (hb hby d5_0) (by decide) (by decide)
  obtain ⟨b2, g2⟩ : ∃ z, z = h0.size := ⟨_, rfl⟩
  rw [← g2] at A2 D2 st2
  have F_state_b2 : Fld Z h2 b2 "com/example/binario/binario/rules/SeededRandom" "state" "J" (.long (0 : Int64)) := D2 (Or.inl (ww hw 52 rfl)) (ty := .long) (by decide)
  have E_b2 := A2
  have g_b2 : n0 ≤ b2 := Nat.le_trans Z0 (Nat.le_of_eq g2.symm)
  have sz_b2 : h0.size ≤ b2 := (Nat.le_trans (Keep.refl h0 []).1 (Nat.le_of_eq g2.symm))
  have K2 : Keep h0 h2 [] := (Keep.refl h0 []).ext E2
  obtain ⟨_, _, ⟨T3, L3, k3, n3⟩, -, X3, ⟨Lc3, hQ3, l3, y3, z3⟩, st3⟩ := X2.specialBack hx (y := (⟨"com/example/binario/binario/rules/SeededRandom", "<init>", "(JJ)V"⟩ : MethodName)) rfl hown (mvT hZ (ww hw 41 rfl)) (mvT hZ (ww hw 42 rfl)) (mvT hZ (ww hw 43 rfl)) (by decide) (backOf (W := 1) (rm6 l Z a0 hw [] b2 q1 (4 : Int64) _ h2 n0 (Nat.le_trans Z0 E2.1) E_b2 F_state_b2 g_b2) hZ (ww hw 43 rfl) (ww hw 36 rfl) (by decide) (by decide)) (g := (mkF m 8 #[.val (.long q1), .second] [(.long (4 : Int64)), (.long q1), (.ref b2), (.ref b2)])) rfl (by rw [hml]; rfl) (Steps.refl _) (a := b2) (argsL := [(.long q1), (.long (4 : Int64))]) (rest := [(.ref b2)]) (lenOf pd_5_6 rfl) rfl (by show 2 * 0 + _ ≤ _; exact Nat.le_of_eq rfl) (hb hby d5_8) (fun _ _ => ⟨rfl, e2, (by decide : 1 + 0 ≤ _), (by decide : 1 + 0 ≤ _)⟩)
  dsimp only [Pt.U, Pt.locs, Pt.cells, Pt.slots] at X3 l3 y3 z3 st3 hQ3
  subst l3 y3 z3
  obtain ⟨st3, rfl, N3q, Kc3, Fs3⟩ := hQ3
  have N3 := Fr.app N0 N3q
  have K3 : Keep h0 T3.heap [] := K2.trans Kc3 (allS (Or.inr sz_b2) all0)
  obtain ⟨fs, hr, hrun, hended, hW, hsame⟩ := X3.leave (v := some (.ref b2)) (fun h => by rw [Bd.returns] at h; cases h)
  refine ⟨_, _, pre0 _ ?_, hrun, hended, _, _, rfl, ?_, ⟨_, rfl⟩, hW, hsame.mono (by decide) (by decide)⟩
  · show Steps _ _ _ (s₁.setTop (mkF m 0 #[.val (.long q1), .second] [])) _
    refine st2 _ ?_
    refine XS.dup X2.here hx rfl (hb hby d5_3) rfl rfl ?_
    refine XS.lloadN X2.here hx rfl (hb hby d5_4) rfl ?_
    refine X2.ldc2Long hx hown (mvT hZ (ww hw 40 rfl)) (g := (mkF m 5 #[.val (.long q1), .second] [(.long q1), (.ref b2), (.ref b2)])) rfl (hb hby d5_5) _ ?_
    refine st3.trans ?_
    jvm_step X3.here [X3.here.top, hx, (hb hby d5_11), X3.method', Bd.returns, Value.isRef, FieldType.isReference]
    first | (intro acts; rw [hr _ acts rfl rfl rfl]) | rw [hr _ _ rfl rfl rfl]
    exact Steps.refl _
  · show Q5 Z q1 h0 n0 _ T3.heap _
    exact ⟨b2, _, rfl, N3, K3, sz_b2, (E_b2.keep Kc3), Fs3⟩
theorem d3_0 : decode jdk_29_method_24_code 0 = .ok (.iload_n 0, 1) := by decide +kernel
theorem d3_1 : decode jdk_29_method_24_code 1 = .ok (.iload_n 1, 1) := by decide +kernel
theorem d3_2 : decode jdk_29_method_24_code 2 = .ok (.iadd, 1) := by decide +kernel
theorem d3_3 : decode jdk_29_method_24_code 3 = .ok (.istore_n 2, 1) := by decide +kernel
theorem d3_4 : decode jdk_29_method_24_code 4 = .ok (.iload_n 0, 1) := by decide +kernel
theorem d3_5 : decode jdk_29_method_24_code 5 = .ok (.iload_n 2, 1) := by decide +kernel
theorem d3_6 : decode jdk_29_method_24_code 6 = .ok (.ixor, 1) := by decide +kernel
theorem d3_7 : decode jdk_29_method_24_code 7 = .ok (.iload_n 1, 1) := by decide +kernel
theorem d3_8 : decode jdk_29_method_24_code 8 = .ok (.iload_n 2, 1) := by decide +kernel
theorem d3_9 : decode jdk_29_method_24_code 9 = .ok (.ixor, 1) := by decide +kernel
theorem d3_10 : decode jdk_29_method_24_code 10 = .ok (.iand, 1) := by decide +kernel
theorem d3_11 : decode jdk_29_method_24_code 11 = .ok (.ifCond .ge 13, 3) := by decide +kernel
theorem d3_24 : decode jdk_29_method_24_code 24 = .ok (.iload_n 2, 1) := by decide +kernel
theorem d3_25 : decode jdk_29_method_24_code 25 = .ok (.ireturn, 1) := by decide +kernel
theorem ef_3 (m : MethodId) (x0 : Int32) (x1 : Int32) : entryFrame m #[(.int x0), (.int x1)] 3 = mkF m 0 #[.val (.int x0), .val (.int x1), .unset] [] := by first | (simp [entryFrame, mkF, argsToLocals, Value.category]; done) | rfl
def Q3 (Z : State) (p1 : Int32) (p2 : Int32) (h0 : Heap) (n0 : Nat) (v : Option Value) (h : Heap) (L : List Loc) : Prop := own_Qc (p1 + p2) h0 n0 v h L
set_option maxRecDepth 65536 in
set_option maxHeartbeats 40000000 in
theorem rm3 (l : Launch) (Z : State) (a0 : Array Value) (hw : ∀ d ∈ tables_1, d.before a0 Z = true) (ws : List Jvm.Cond) (p1 : Int32) (p2 : Int32) (h0 : Heap) (n0 : Nat) (Z0 : n0 ≤ h0.size) (hc11 : ¬ (((p1 ^^^ (p1 + p2)) &&& (p2 ^^^ (p1 + p2))) < (0 : Int32))) :
    MetFree l (⟨"java/lang/Math", "addExact", "(II)I"⟩ : MethodName) (head1 (Jvm.Cond.code (⟨"java/lang/Math", "addExact", "(II)I"⟩ : MethodName) jdk_29_method_24_code 3 (some .int) :: ws) ({ frames := 0, cells := 0, slots := 0, locals := 0 } : Room)) (fun a U => a = #[(.int p1), (.int p2)] ∧ Z.Warmed39 U.vm ∧ U.heap = h0) (fun _ _ _ _ _ => True) (fun _ U o U' => ∃ v L, o = .returned v ∧ Q3 Z p1 p2 h0 n0 v U'.heap L ∧ FrameEnd U o U' L ({ frames := 0, cells := 0, slots := 0, locals := 0 } : Room).cells ({ frames := 0, cells := 0, slots := 0, locals := 0 } : Room).slots) := by
  refine MetFree.of_bodySF (Jvm.Free.JP.mathPlain rfl (by decide +kernel)) hisR ?_
  intro p e s m args below meth c s₁ Bd hml0 hP hK
  obtain ⟨rfl, hZ, hh⟩ := hP
  have hx := Bd.exec
  have hby := Bd.bytes
  have hml : c.maxLocals = 3 := hml0
  have hown : s.vm.findClass "java/lang/Math" = some m.cls := findClass_of_methodNamed Bd.named
  have hnm := (name_of_methodNamed Bd.named Bd.method).1
  have X0 : Stand p l e ({ frames := 0, cells := 0, slots := 0, locals := 0 } : Room) s m #[(.int p1), (.int p2)] below meth c s₁ [] 0 0 := Stand.of_body Bd
  have e0 : s₁.heap = h0 := by rw [← hh, Bd.state]; rfl
  have N0 := Fr.nil n0
  have pre0 : ∀ t, Steps p.tables e below (s₁.setTop (mkF m 0 #[.val (.int p1), .val (.int p2), .unset] [])) t → Steps p.tables e below (s₁.setTop (entryFrame m #[(.int p1), (.int p2)] 3)) t := fun t k => castTop (ef_3 m p1 p2) k


  obtain ⟨fs, hr, hrun, hended, hW, hsame⟩ := X0.leave (v := some (.int (p1 + p2))) (fun h => by rw [Bd.returns] at h; cases h)
  refine ⟨_, _, pre0 _ ?_, hrun, hended, _, _, rfl, ?_, ⟨_, rfl⟩, hW, hsame.mono (by decide) (by decide)⟩
  · show Steps _ _ _ (s₁.setTop (mkF m 0 #[.val (.int p1), .val (.int p2), .unset] [])) _
    refine XS.iloadN X0.here hx rfl (hb hby d3_0) rfl ?_
    refine XS.iloadN X0.here hx rfl (hb hby d3_1) rfl ?_
    refine XS.iadd X0.here hx rfl (hb hby d3_2) rfl ?_
    refine XS.istoreN X0.here hx rfl (hb hby d3_3) rfl (l' := #[.val (.int p1), .val (.int p2), .val (.int (p1 + p2))]) rfl ?_
    refine XS.iloadN X0.here hx rfl (hb hby d3_4) rfl ?_
    refine XS.iloadN X0.here hx rfl (hb hby d3_5) rfl ?_
    refine XS.ixor X0.here hx rfl (hb hby d3_6) rfl ?_
    refine XS.iloadN X0.here hx rfl (hb hby d3_7) rfl ?_
    refine XS.iloadN X0.here hx rfl (hb hby d3_8) rfl ?_
    refine XS.ixor X0.here hx rfl (hb hby d3_9) rfl ?_
    refine XS.iand X0.here hx rfl (hb hby d3_10) rfl ?_
    refine XS.ifYes X0.here hx rfl (pc0 := 11) (pc' := 24) rfl (hb hby d3_11) rfl ((if0 _ _).trans (flt hc11).2.1) (by decide) (by decide) ?_
    refine XS.iloadN X0.here hx rfl (hb hby d3_24) rfl ?_
    exact retI X0 hx Bd.returns (hb hby d3_25) hr
  · show Q3 Z p1 p2 h0 n0 _ s₁.heap _
    rw [e0]
    exact ⟨rfl, N0, rfl⟩
theorem d9_0 : decode jdk_65_method_103_code 0 = .ok (.iconst 0, 1) := by decide +kernel
theorem d9_1 : decode jdk_65_method_103_code 1 = .ok (.istore_n 2, 1) := by decide +kernel
theorem d9_2 : decode jdk_65_method_103_code 2 = .ok (.aload_n 0, 1) := by decide +kernel
theorem d9_3 : decode jdk_65_method_103_code 3 = .ok (.arraylength, 1) := by decide +kernel
theorem d9_4 : decode jdk_65_method_103_code 4 = .ok (.istore_n 3, 1) := by decide +kernel
theorem d9_5 : decode jdk_65_method_103_code 5 = .ok (.iload_n 2, 1) := by decide +kernel
theorem d9_6 : decode jdk_65_method_103_code 6 = .ok (.iload_n 3, 1) := by decide +kernel
theorem d9_7 : decode jdk_65_method_103_code 7 = .ok (.if_icmp .ge 13, 3) := by decide +kernel
theorem d9_10 : decode jdk_65_method_103_code 10 = .ok (.aload_n 0, 1) := by decide +kernel
theorem d9_11 : decode jdk_65_method_103_code 11 = .ok (.iload_n 2, 1) := by decide +kernel
theorem d9_12 : decode jdk_65_method_103_code 12 = .ok (.iload_n 1, 1) := by decide +kernel
theorem d9_13 : decode jdk_65_method_103_code 13 = .ok (.iastore, 1) := by decide +kernel
theorem d9_14 : decode jdk_65_method_103_code 14 = .ok (.iinc 2 1, 3) := by decide +kernel
theorem d9_17 : decode jdk_65_method_103_code 17 = .ok (.goto (-12), 3) := by decide +kernel
theorem d9_20 : decode jdk_65_method_103_code 20 = .ok (.return_, 1) := by decide +kernel
theorem pn_9 : plainName "java/util/Arrays" = true := by first | (simp [plainName, overriddenIn]; done) | decide +kernel
theorem ef_9 (m : MethodId) (x0 : Addr) (x1 : Int32) : entryFrame m #[(.ref x0), (.int x1)] 4 = mkF m 0 #[.val (.ref x0), .val (.int x1), .unset, .unset] [] := by first | (simp [entryFrame, mkF, argsToLocals, Value.category]; done) | rfl
def Q9 (Z : State) (a1 : Addr) (p2 : Int32) (D : Nat → Int32) (h0 : Heap) (n0 : Nat) (v : Option Value) (h : Heap) (L : List Loc) : Prop := v = none ∧ Fr n0 L ∧ Keep h0 h [a1] ∧ own_AI Z h a1 (3 : Int32) (fun _ => p2)
set_option maxRecDepth 65536 in
set_option maxHeartbeats 40000000 in
theorem rm9 (l : Launch) (Z : State) (a0 : Array Value) (hw : ∀ d ∈ tables_1, d.before a0 Z = true) (ws : List Jvm.Cond) (a1 : Addr) (p2 : Int32) (D : Nat → Int32) (h0 : Heap) (n0 : Nat) (Z0 : n0 ≤ h0.size) (V_a1 : own_AI Z h0 a1 (3 : Int32) D) (g_a1 : n0 ≤ a1) :
    MetFree l (⟨"java/util/Arrays", "fill", "([II)V"⟩ : MethodName) (head1 (Jvm.Cond.code (⟨"java/util/Arrays", "fill", "([II)V"⟩ : MethodName) jdk_65_method_103_code 4 none :: ws) ({ frames := 0, cells := 0, slots := 0, locals := 0 } : Room)) (fun a U => a = #[(.ref a1), (.int p2)] ∧ Z.Warmed39 U.vm ∧ U.heap = h0) (fun _ _ _ _ _ => True) (fun _ U o U' => ∃ v L, o = .returned v ∧ Q9 Z a1 p2 D h0 n0 v U'.heap L ∧ FrameEnd U o U' L ({ frames := 0, cells := 0, slots := 0, locals := 0 } : Room).cells ({ frames := 0, cells := 0, slots := 0, locals := 0 } : Room).slots) := by
  refine MetFree.of_bodySF (plainFor_of_name pn_9) hisR ?_
  intro p e s m args below meth c s₁ Bd hml0 hP hK
  obtain ⟨rfl, hZ, hh⟩ := hP
  have hx := Bd.exec
  have hby := Bd.bytes
  have hml : c.maxLocals = 4 := hml0
  have hown : s.vm.findClass "java/util/Arrays" = some m.cls := findClass_of_methodNamed Bd.named
  have hnm := (name_of_methodNamed Bd.named Bd.method).1
  have X0 : Stand p l e ({ frames := 0, cells := 0, slots := 0, locals := 0 } : Room) s m #[(.ref a1), (.int p2)] below meth c s₁ [] 0 0 := Stand.of_body Bd
  have e0 : s₁.heap = h0 := by rw [← hh, Bd.state]; rfl
  have N0 := Fr.nil n0
  have pre0 : ∀ t, Steps p.tables e below (s₁.setTop (mkF m 0 #[.val (.ref a1), .val (.int p2), .unset, .unset] [])) t → Steps p.tables e below (s₁.setTop (entryFrame m #[(.ref a1), (.int p2)] 4)) t := fun t k => castTop (ef_9 m a1 p2) k

  obtain ⟨cl_a1_3, Ar_a1_3, S_a1_3, -⟩ := id (V_a1)
  obtain ⟨cl_13, Ar_13, S_13, H_13⟩ := id (V_a1)
  have hin13 : ¬ ((0 : Int32) < 0 ∨ cl_13.slots.size ≤ ((0 : Int32)).toNatClampNeg) := inb_of S_13 ⟨by decide, by decide⟩
  obtain ⟨T3, h3, X3, e3, W3, st3⟩ := stI X0 hx hZ e0 Ar_13 (j := (0 : Int32)) hin13 (g := (mkF m 13 #[.val (.ref a1), .val (.int p2), .val (.int (0 : Int32)), .val (.int (3 : Int32))] [(.int p2), (.int (0 : Int32)), (.ref a1)])) rfl rfl (hb hby d9_13)
  have V_a1_3 := own_AI.put Ar_13 S_13 H_13 W3
  have K3 : Keep h0 h3 [a1] := (Keep.refl h0 [a1]).wr W3 (Or.inl (List.mem_of_getElem? (i := 0) rfl))
  have N3 := Fr.snoc X3 N0 g_a1
  obtain ⟨cl_13_1, Ar_13_1, S_13_1, H_13_1⟩ := id (V_a1_3)
  have hin13_1 : ¬ (((0 : Int32) + (1 : Int32)) < 0 ∨ cl_13_1.slots.size ≤ (((0 : Int32) + (1 : Int32))).toNatClampNeg) := inb_of S_13_1 ⟨by decide, by decide⟩
  obtain ⟨T4, h4, X4, e4, W4, st4⟩ := stI X3 hx hZ e3 Ar_13_1 (j := ((0 : Int32) + (1 : Int32))) hin13_1 (g := (mkF m 13 #[.val (.ref a1), .val (.int p2), .val (.int ((0 : Int32) + (1 : Int32))), .val (.int (3 : Int32))] [(.int p2), (.int ((0 : Int32) + (1 : Int32))), (.ref a1)])) rfl rfl (hb hby d9_13)
  have V_a1_4 := own_AI.put Ar_13_1 S_13_1 H_13_1 W4
  have K4 : Keep h0 h4 [a1] := K3.wr W4 (Or.inl (List.mem_of_getElem? (i := 0) rfl))
  have N4 := Fr.snoc X4 N3 g_a1
  obtain ⟨cl_13_2, Ar_13_2, S_13_2, H_13_2⟩ := id (V_a1_4)
  have hin13_2 : ¬ ((((0 : Int32) + (1 : Int32)) + (1 : Int32)) < 0 ∨ cl_13_2.slots.size ≤ ((((0 : Int32) + (1 : Int32)) + (1 : Int32))).toNatClampNeg) := inb_of S_13_2 ⟨by decide, by decide⟩
  obtain ⟨T5, h5, X5, e5, W5, st5⟩ := stI X4 hx hZ e4 Ar_13_2 (j := (((0 : Int32) + (1 : Int32)) + (1 : Int32))) hin13_2 (g := (mkF m 13 #[.val (.ref a1), .val (.int p2), .val (.int (((0 : Int32) + (1 : Int32)) + (1 : Int32))), .val (.int (3 : Int32))] [(.int p2), (.int (((0 : Int32) + (1 : Int32)) + (1 : Int32))), (.ref a1)])) rfl rfl (hb hby d9_13)
  have V_a1_5 := own_AI.put Ar_13_2 S_13_2 H_13_2 W5
  have K5 : Keep h0 h5 [a1] := K4.wr W5 (Or.inl (List.mem_of_getElem? (i := 0) rfl))
  have N5 := Fr.snoc X5 N4 g_a1
  obtain ⟨fs, hr, hrun, hended, hW, hsame⟩ := X5.leave (v := none) (fun _ => rfl)
  refine ⟨_, _, pre0 _ ?_, hrun, hended, _, _, rfl, ?_, ⟨_, rfl⟩, hW, hsame.mono (by decide) (by decide)⟩
  · show Steps _ _ _ (s₁.setTop (mkF m 0 #[.val (.ref a1), .val (.int p2), .unset, .unset] [])) _
    refine XS.iconst X0.here hx rfl (hb hby d9_0) ?_
    refine XS.istoreN X0.here hx rfl (hb hby d9_1) rfl (l' := #[.val (.ref a1), .val (.int p2), .val (.int (0 : Int32)), .unset]) rfl ?_
    refine XS.aloadN X0.here hx rfl (hb hby d9_2) rfl rfl ?_
    refine X0.arraylength hx (by rw [e0]; exact Ar_a1_3.1) (State.isArrayOf_alike hZ.alike Ar_a1_3.2.1) (g := (mkF m 3 #[.val (.ref a1), .val (.int p2), .val (.int (0 : Int32)), .unset] [(.ref a1)])) rfl rfl (hb hby d9_3) _ ?_
    rw [len_of S_a1_3 (by decide)]
    refine XS.istoreN X0.here hx rfl (hb hby d9_4) rfl (l' := #[.val (.ref a1), .val (.int p2), .val (.int (0 : Int32)), .val (.int (3 : Int32))]) rfl ?_
    refine XS.iloadN X0.here hx rfl (hb hby d9_5) rfl ?_
    refine XS.iloadN X0.here hx rfl (hb hby d9_6) rfl ?_
    refine XS.icmpNo X0.here hx rfl (hb hby d9_7) rfl (tlt (by decide : (0 : Int32) < (3 : Int32))).2.1 ?_
    refine XS.aloadN X0.here hx rfl (hb hby d9_10) rfl rfl ?_
    refine XS.iloadN X0.here hx rfl (hb hby d9_11) rfl ?_
    refine XS.iloadN X0.here hx rfl (hb hby d9_12) rfl ?_
    refine st3 _ ?_
    refine XS.iinc X3.here hx rfl (hb hby d9_14) rfl (l' := #[.val (.ref a1), .val (.int p2), .val (.int ((0 : Int32) + (1 : Int32))), .val (.int (3 : Int32))]) rfl ?_
    refine XS.goto X3.here hx rfl (pc0 := 17) (pc' := 5) rfl (hb hby d9_17) (by decide) (by decide) ?_
    refine XS.iloadN X3.here hx rfl (hb hby d9_5) rfl ?_
    refine XS.iloadN X3.here hx rfl (hb hby d9_6) rfl ?_
    refine XS.icmpNo X3.here hx rfl (hb hby d9_7) rfl (tlt (by decide : ((0 : Int32) + (1 : Int32)) < (3 : Int32))).2.1 ?_
    refine XS.aloadN X3.here hx rfl (hb hby d9_10) rfl rfl ?_
    refine XS.iloadN X3.here hx rfl (hb hby d9_11) rfl ?_
    refine XS.iloadN X3.here hx rfl (hb hby d9_12) rfl ?_
    refine st4 _ ?_
    refine XS.iinc X4.here hx rfl (hb hby d9_14) rfl (l' := #[.val (.ref a1), .val (.int p2), .val (.int (((0 : Int32) + (1 : Int32)) + (1 : Int32))), .val (.int (3 : Int32))]) rfl ?_
    refine XS.goto X4.here hx rfl (pc0 := 17) (pc' := 5) rfl (hb hby d9_17) (by decide) (by decide) ?_
    refine XS.iloadN X4.here hx rfl (hb hby d9_5) rfl ?_
    refine XS.iloadN X4.here hx rfl (hb hby d9_6) rfl ?_
    refine XS.icmpNo X4.here hx rfl (hb hby d9_7) rfl (tlt (by decide : (((0 : Int32) + (1 : Int32)) + (1 : Int32)) < (3 : Int32))).2.1 ?_
    refine XS.aloadN X4.here hx rfl (hb hby d9_10) rfl rfl ?_
    refine XS.iloadN X4.here hx rfl (hb hby d9_11) rfl ?_
    refine XS.iloadN X4.here hx rfl (hb hby d9_12) rfl ?_
    refine st5 _ ?_
    refine XS.iinc X5.here hx rfl (hb hby d9_14) rfl (l' := #[.val (.ref a1), .val (.int p2), .val (.int ((((0 : Int32) + (1 : Int32)) + (1 : Int32)) + (1 : Int32))), .val (.int (3 : Int32))]) rfl ?_
    refine XS.goto X5.here hx rfl (pc0 := 17) (pc' := 5) rfl (hb hby d9_17) (by decide) (by decide) ?_
    refine XS.iloadN X5.here hx rfl (hb hby d9_5) rfl ?_
    refine XS.iloadN X5.here hx rfl (hb hby d9_6) rfl ?_
    refine XS.icmpYes X5.here hx rfl (pc0 := 7) (pc' := 20) rfl (hb hby d9_7) rfl (flt (by decide : ¬ (((((0 : Int32) + (1 : Int32)) + (1 : Int32)) + (1 : Int32)) < (3 : Int32)))).2.1 (by decide) (by decide) ?_
    exact X5.returnOut hx Bd.returns (hb hby d9_20) hr
  · show Q9 Z a1 p2 D h0 n0 _ T5.heap _
    rw [e5]
    exact ⟨rfl, N5, K5, own_AI.cong V_a1_5 (own_c3 rfl rfl rfl)⟩
theorem d1_0 : decode prog_68_method_1_code 0 = .ok (.aload_n 0, 1) := by decide +kernel
theorem d1_1 : decode prog_68_method_1_code 1 = .ok (.invokespecial 1, 3) := by decide +kernel
theorem d1_4 : decode prog_68_method_1_code 4 = .ok (.aload_n 0, 1) := by decide +kernel
theorem d1_5 : decode prog_68_method_1_code 5 = .ok (.aload_n 1, 1) := by decide +kernel
theorem d1_6 : decode prog_68_method_1_code 6 = .ok (.invokevirtual 7, 3) := by decide +kernel
theorem d1_9 : decode prog_68_method_1_code 9 = .ok (.checkcast 8, 3) := by decide +kernel
theorem d1_12 : decode prog_68_method_1_code 12 = .ok (.putfield 13, 3) := by decide +kernel
theorem d1_15 : decode prog_68_method_1_code 15 = .ok (.aload_n 1, 1) := by decide +kernel
theorem d1_16 : decode prog_68_method_1_code 16 = .ok (.astore_n 2, 1) := by decide +kernel
theorem d1_17 : decode prog_68_method_1_code 17 = .ok (.aload_n 2, 1) := by decide +kernel
theorem d1_18 : decode prog_68_method_1_code 18 = .ok (.arraylength, 1) := by decide +kernel
theorem d1_19 : decode prog_68_method_1_code 19 = .ok (.istore_n 3, 1) := by decide +kernel
theorem d1_20 : decode prog_68_method_1_code 20 = .ok (.iconst 0, 1) := by decide +kernel
theorem d1_21 : decode prog_68_method_1_code 21 = .ok (.istore 4, 2) := by decide +kernel
theorem d1_23 : decode prog_68_method_1_code 23 = .ok (.iload 4, 2) := by decide +kernel
theorem d1_25 : decode prog_68_method_1_code 25 = .ok (.iload_n 3, 1) := by decide +kernel
theorem d1_26 : decode prog_68_method_1_code 26 = .ok (.if_icmp .ge 28, 3) := by decide +kernel
theorem d1_29 : decode prog_68_method_1_code 29 = .ok (.aload_n 2, 1) := by decide +kernel
theorem d1_30 : decode prog_68_method_1_code 30 = .ok (.iload 4, 2) := by decide +kernel
theorem d1_32 : decode prog_68_method_1_code 32 = .ok (.iaload, 1) := by decide +kernel
theorem d1_33 : decode prog_68_method_1_code 33 = .ok (.istore 5, 2) := by decide +kernel
theorem d1_35 : decode prog_68_method_1_code 35 = .ok (.aload_n 0, 1) := by decide +kernel
theorem d1_36 : decode prog_68_method_1_code 36 = .ok (.aload_n 0, 1) := by decide +kernel
theorem d1_37 : decode prog_68_method_1_code 37 = .ok (.getfield 18, 3) := by decide +kernel
theorem d1_40 : decode prog_68_method_1_code 40 = .ok (.iload 5, 2) := by decide +kernel
theorem d1_42 : decode prog_68_method_1_code 42 = .ok (.invokestatic 22, 3) := by decide +kernel
theorem d1_45 : decode prog_68_method_1_code 45 = .ok (.putfield 18, 3) := by decide +kernel
theorem d1_48 : decode prog_68_method_1_code 48 = .ok (.iinc 4 1, 3) := by decide +kernel
theorem d1_51 : decode prog_68_method_1_code 51 = .ok (.goto (-28), 3) := by decide +kernel
theorem d1_54 : decode prog_68_method_1_code 54 = .ok (.return_, 1) := by decide +kernel
theorem pn_1 : plainName "com/example/binario/binario/rules/PassengerBag" = true := by first | (simp [plainName, overriddenIn]; done) | decide +kernel
theorem pd_1_3 : parseMethodDescriptor "(II)I" = some ⟨[.int, .int], some .int⟩ := by decide +kernel
theorem ef_1 (m : MethodId) (x0 : Addr) (x1 : Addr) : entryFrame m #[(.ref x0), (.ref x1)] 6 = mkF m 0 #[.val (.ref x0), .val (.ref x1), .unset, .unset, .unset, .unset] [] := by first | (simp [entryFrame, mkF, argsToLocals, Value.category]; done) | rfl
def Q1 (Z : State) (a1 : Addr) (a2 : Addr) (D : Nat → Int32) (uc : Value) (h0 : Heap) (n0 : Nat) (v : Option Value) (h : Heap) (L : List Loc) : Prop := ∃ ca : Addr, v = none ∧ Fr n0 L ∧ Keep h0 h [a1] ∧ h0.size ≤ ca ∧ Fld Z h a1 "com/example/binario/binario/rules/PassengerBag" "counts" "[I" (.ref ca) ∧ Fld Z h a1 "com/example/binario/binario/rules/PassengerBag" "left" "I" (.int ((((0 : Int32) + D 0) + D 1) + D 2)) ∧ own_AI Z h ca (3 : Int32) D
set_option maxRecDepth 65536 in
set_option maxHeartbeats 40000000 in
theorem rm1 (l : Launch) (Z : State) (a0 : Array Value) (hw : ∀ d ∈ tables_1, d.before a0 Z = true) (ws : List Jvm.Cond) (a1 : Addr) (a2 : Addr) (D : Nat → Int32) (uc : Value) (h0 : Heap) (n0 : Nat) (Z0 : n0 ≤ h0.size) (E_a1 : Exa Z h0 a1 "com/example/binario/binario/rules/PassengerBag") (F_c : Fld Z h0 a1 "com/example/binario/binario/rules/PassengerBag" "counts" "[I" uc) (F_l : Fld Z h0 a1 "com/example/binario/binario/rules/PassengerBag" "left" "I" (.int (0 : Int32))) (E_a2 : Exa Z h0 a2 "[I") (V_a2 : own_AI Z h0 a2 (3 : Int32) D) (g_a1 : n0 ≤ a1) (ne12 : a1 ≠ a2) (ok : own_ok3 D) :
    MetFree l (⟨"com/example/binario/binario/rules/PassengerBag", "<init>", "([I)V"⟩ : MethodName) (head1 (Jvm.Cond.code (⟨"com/example/binario/binario/rules/PassengerBag", "<init>", "([I)V"⟩ : MethodName) prog_68_method_1_code 6 none :: ws) ({ frames := 1, cells := 1, slots := 3, locals := 15 } : Room)) (fun a U => a = #[(.ref a1), (.ref a2)] ∧ Z.Warmed39 U.vm ∧ U.heap = h0) (fun _ _ _ _ _ => True) (fun _ U o U' => ∃ v L, o = .returned v ∧ Q1 Z a1 a2 D uc h0 n0 v U'.heap L ∧ FrameEnd U o U' L ({ frames := 1, cells := 1, slots := 3, locals := 15 } : Room).cells ({ frames := 1, cells := 1, slots := 3, locals := 15 } : Room).slots) := by
  refine MetFree.of_bodySF (plainFor_of_name pn_1) hisR ?_
  intro p e s m args below meth c s₁ Bd hml0 hP hK
  obtain ⟨rfl, hZ, hh⟩ := hP
  have hx := Bd.exec
  have hby := Bd.bytes
  have hml : c.maxLocals = 6 := hml0
  have hown : s.vm.findClass "com/example/binario/binario/rules/PassengerBag" = some m.cls := findClass_of_methodNamed Bd.named
  have hnm := (name_of_methodNamed Bd.named Bd.method).1
  have X0 : Stand p l e ({ frames := 1, cells := 1, slots := 3, locals := 15 } : Room) s m #[(.ref a1), (.ref a2)] below meth c s₁ [] 0 0 := Stand.of_body Bd
  have e0 : s₁.heap = h0 := by rw [← hh, Bd.state]; rfl
  have N0 := Fr.nil n0
  have pre0 : ∀ t, Steps p.tables e below (s₁.setTop (mkF m 0 #[.val (.ref a1), .val (.ref a2), .unset, .unset, .unset, .unset] [])) t → Steps p.tables e below (s₁.setTop (entryFrame m #[(.ref a1), (.ref a2)] 6)) t := fun t k => castTop (ef_1 m a1 a2) k
  obtain ⟨ha0, ha1, ha2, -⟩ := own_a3 ok
  obtain ⟨T3, X3, e3, st3⟩ := initO X0 hx hZ hown (ww hw 9 rfl) (ww hw 10 rfl) (ww hw 11 rfl) e0 (g := (mkF m 1 #[.val (.ref a1), .val (.ref a2), .unset, .unset, .unset, .unset] [(.ref a1)])) rfl (by rw [hml]; rfl) rfl (hb hby d1_1) (by decide) (W := 0) (by show 2 * 0 + _ ≤ _; exact Nat.le_of_eq rfl) (by decide)
  obtain ⟨T4, h4, X4, e4, E4, V4, Ex4, st4⟩ := own_cloneI X3 hx hZ hown (ww hw 12 rfl) (ww hw 13 rfl) (ww hw 17 rfl) (ww hw 15 rfl) (ww hw 16 rfl) (ww hw 18 rfl) e3 V_a2 E_a2 (g := (mkF m 6 #[.val (.ref a1), .val (.ref a2), .unset, .unset, .unset, .unset] [(.ref a2), (.ref a1)])) rfl (by rw [hml]; rfl) rfl (hb hby d1_6) (by decide) (W := 1) (by show 2 * 0 + _ ≤ _; exact Nat.le_of_eq rfl) (by decide) (cap := 3) (by decide) (by decide) (by decide)
  obtain ⟨b4, g4⟩ : ∃ z, z = h0.size := ⟨_, rfl⟩
  rw [← g4] at V4 Ex4 st4
  have E_b4 := Ex4
  have g_b4 : n0 ≤ b4 := Nat.le_trans Z0 (Nat.le_of_eq g4.symm)
  have sz_b4 : h0.size ≤ b4 := (Nat.le_trans (Keep.refl h0 [a1]).1 (Nat.le_of_eq g4.symm))
  have K4 : Keep h0 h4 [a1] := (Keep.refl h0 [a1]).ext E4
  obtain ⟨T5, X5, e5, st5⟩ := castY X4 hx hZ hown (ww hw 19 rfl) e4 (Ins.self E_b4) (g := (mkF m 9 #[.val (.ref a1), .val (.ref a2), .unset, .unset, .unset, .unset] [(.ref b4), (.ref a1)])) rfl rfl (hb hby d1_9)
  obtain ⟨T6, h6, X6, e6, W6, st6⟩ := putF X5 hx hZ hown (host := "") (Or.inl (ww hw 21 rfl)) Via.refl e5 (F_c.ext E4) (E_a1.ext E4) (Or.inr ⟨(ww hw 22 rfl), rfl, hnm⟩) (ww hw 4 rfl) (ty := (.array .int)) (by decide) rfl rfl (g := (mkF m 12 #[.val (.ref a1), .val (.ref a2), .unset, .unset, .unset, .unset] [(.ref b4), (.ref a1)])) rfl rfl (hb hby d1_12)
  have Fw6 := (F_c.ext E4).same W6
  have K6 : Keep h0 h6 [a1] := K4.wr W6 (Or.inl (List.mem_of_getElem? (i := 0) rfl))
  have N6 := Fr.snoc X6 N0 g_a1
  obtain ⟨cl_a2_18, Ar_a2_18, S_a2_18, -⟩ := id (((V_a2.ext E4).other W6 ne12.symm))
  obtain ⟨cl_32, Ar_32, S_32, H_32⟩ := id (((V_a2.ext E4).other W6 ne12.symm))
  have hin32 : ¬ ((0 : Int32) < 0 ∨ cl_32.slots.size ≤ ((0 : Int32)).toNatClampNeg) := inb_of S_32 ⟨by decide, by decide⟩
  have hat32 := H_32 _ (own_inb hin32)
  obtain ⟨T7, X7, e7, st7⟩ := getF X6 hx hZ hown (host := "") (Or.inl (ww hw 23 rfl)) Via.refl e6 ((F_l.ext E4).other W6 (Or.inr (slot_ne (Or.inl (ww hw 24 rfl)) (Or.inr (ww hw 22 rfl)) (by decide) (t := .int) (t' := (.array .int)) (by decide) (by decide)))) (g := (mkF m 37 #[.val (.ref a1), .val (.ref a2), .val (.ref a2), .val (.int (3 : Int32)), .val (.int (0 : Int32)), .val (.int (D ((0 : Int32)).toNatClampNeg))] [(.ref a1), (.ref a1)])) rfl rfl (hb hby d1_37)
  obtain ⟨_, _, ⟨T8, L8, k8, n8⟩, -, X8, ⟨Lc8, hQ8, l8, y8, z8⟩, st8⟩ := Jvm.LawKit.callS X7 hx (y := (⟨"java/lang/Math", "addExact", "(II)I"⟩ : MethodName)) hown (mvT hZ (ww hw 25 rfl)) (mvT hZ (ww hw 26 rfl)) (mvT hZ (ww hw 27 rfl)) (mvT hZ (ww hw 28 rfl)) (by decide) (backOf (W := 1) (rm3 l Z a0 hw [] (0 : Int32) (D ((0 : Int32)).toNatClampNeg)  h6 n0 (Nat.le_trans (Nat.le_trans Z0 E4.1) (Keep.of_wr W6).1) ha0) hZ (ww hw 28 rfl) (ww hw 27 rfl) (by decide) (by decide)) (g := (mkF m 42 #[.val (.ref a1), .val (.ref a2), .val (.ref a2), .val (.int (3 : Int32)), .val (.int (0 : Int32)), .val (.int (D ((0 : Int32)).toNatClampNeg))] [(.int (D ((0 : Int32)).toNatClampNeg)), (.int (0 : Int32)), (.ref a1)])) rfl (by rw [hml]; rfl) (argsL := [(.int (0 : Int32)), (.int (D ((0 : Int32)).toNatClampNeg))]) (rest := [(.ref a1)]) (lenOf pd_1_3 rfl) rfl (by show 2 * 0 + _ ≤ _; exact Nat.le_of_eq rfl) (hb hby d1_42) (fun _ _ => ⟨rfl, e7, (by decide : 1 + 0 ≤ _), (by decide : 3 + 0 ≤ _)⟩)
  dsimp only [Pt.U, Pt.locs, Pt.cells, Pt.slots] at X8 l8 y8 z8 st8 hQ8
  subst l8 y8 z8
  obtain ⟨rfl, N8q, eh8⟩ := hQ8
  have N8 := Fr.app N6 N8q
  obtain ⟨T9, h9, X9, e9, W9, st9⟩ := putF X8 hx hZ hown (host := "") (Or.inl (ww hw 23 rfl)) Via.refl eh8 ((F_l.ext E4).other W6 (Or.inr (slot_ne (Or.inl (ww hw 24 rfl)) (Or.inr (ww hw 22 rfl)) (by decide) (t := .int) (t' := (.array .int)) (by decide) (by decide)))) ((E_a1.ext E4).wr W6) (Or.inl (ww hw 24 rfl)) (ww hw 4 rfl) (ty := .int) (by decide) rfl rfl (g := (mkF m 45 #[.val (.ref a1), .val (.ref a2), .val (.ref a2), .val (.int (3 : Int32)), .val (.int (0 : Int32)), .val (.int (D ((0 : Int32)).toNatClampNeg))] [(.int ((0 : Int32) + (D ((0 : Int32)).toNatClampNeg))), (.ref a1)])) rfl rfl (hb hby d1_45)
  have Fw9 := ((F_l.ext E4).other W6 (Or.inr (slot_ne (Or.inl (ww hw 24 rfl)) (Or.inr (ww hw 22 rfl)) (by decide) (t := .int) (t' := (.array .int)) (by decide) (by decide)))).same W9
  have K9 : Keep h0 h9 [a1] := K6.wr W9 (Or.inl (List.mem_of_getElem? (i := 0) rfl))
  have N9 := Fr.snoc X9 N8 g_a1
  obtain ⟨cl_32_1, Ar_32_1, S_32_1, H_32_1⟩ := id ((((V_a2.ext E4).other W6 ne12.symm).other W9 ne12.symm))
  have hin32_1 : ¬ (((0 : Int32) + (1 : Int32)) < 0 ∨ cl_32_1.slots.size ≤ (((0 : Int32) + (1 : Int32))).toNatClampNeg) := inb_of S_32_1 ⟨by decide, by decide⟩
  have hat32_1 := H_32_1 _ (own_inb hin32_1)
  obtain ⟨T10, X10, e10, st10⟩ := getF X9 hx hZ hown (host := "") (Or.inl (ww hw 23 rfl)) Via.refl e9 Fw9 (g := (mkF m 37 #[.val (.ref a1), .val (.ref a2), .val (.ref a2), .val (.int (3 : Int32)), .val (.int ((0 : Int32) + (1 : Int32))), .val (.int (D (((0 : Int32) + (1 : Int32))).toNatClampNeg))] [(.ref a1), (.ref a1)])) rfl rfl (hb hby d1_37)
  obtain ⟨_, _, ⟨T11, L11, k11, n11⟩, -, X11, ⟨Lc11, hQ11, l11, y11, z11⟩, st11⟩ := Jvm.LawKit.callS X10 hx (y := (⟨"java/lang/Math", "addExact", "(II)I"⟩ : MethodName)) hown (mvT hZ (ww hw 25 rfl)) (mvT hZ (ww hw 26 rfl)) (mvT hZ (ww hw 27 rfl)) (mvT hZ (ww hw 28 rfl)) (by decide) (backOf (W := 1) (rm3 l Z a0 hw [] ((0 : Int32) + (D ((0 : Int32)).toNatClampNeg)) (D (((0 : Int32) + (1 : Int32))).toNatClampNeg)  h9 n0 (Nat.le_trans (Nat.le_trans (Nat.le_trans Z0 E4.1) (Keep.of_wr W6).1) (Keep.of_wr W9).1) ha1) hZ (ww hw 28 rfl) (ww hw 27 rfl) (by decide) (by decide)) (g := (mkF m 42 #[.val (.ref a1), .val (.ref a2), .val (.ref a2), .val (.int (3 : Int32)), .val (.int ((0 : Int32) + (1 : Int32))), .val (.int (D (((0 : Int32) + (1 : Int32))).toNatClampNeg))] [(.int (D (((0 : Int32) + (1 : Int32))).toNatClampNeg)), (.int ((0 : Int32) + (D ((0 : Int32)).toNatClampNeg))), (.ref a1)])) rfl (by rw [hml]; rfl) (argsL := [(.int ((0 : Int32) + (D ((0 : Int32)).toNatClampNeg))), (.int (D (((0 : Int32) + (1 : Int32))).toNatClampNeg))]) (rest := [(.ref a1)]) (lenOf pd_1_3 rfl) rfl (by show 2 * 0 + _ ≤ _; exact Nat.le_of_eq rfl) (hb hby d1_42) (fun _ _ => ⟨rfl, e10, (by decide : 1 + 0 ≤ _), (by decide : 3 + 0 ≤ _)⟩)
  dsimp only [Pt.U, Pt.locs, Pt.cells, Pt.slots] at X11 l11 y11 z11 st11 hQ11
  subst l11 y11 z11
  obtain ⟨rfl, N11q, eh11⟩ := hQ11
  have N11 := Fr.app N9 N11q
  obtain ⟨T12, h12, X12, e12, W12, st12⟩ := putF X11 hx hZ hown (host := "") (Or.inl (ww hw 23 rfl)) Via.refl eh11 Fw9 (((E_a1.ext E4).wr W6).wr W9) (Or.inl (ww hw 24 rfl)) (ww hw 4 rfl) (ty := .int) (by decide) rfl rfl (g := (mkF m 45 #[.val (.ref a1), .val (.ref a2), .val (.ref a2), .val (.int (3 : Int32)), .val (.int ((0 : Int32) + (1 : Int32))), .val (.int (D (((0 : Int32) + (1 : Int32))).toNatClampNeg))] [(.int (((0 : Int32) + (D ((0 : Int32)).toNatClampNeg)) + (D (((0 : Int32) + (1 : Int32))).toNatClampNeg))), (.ref a1)])) rfl rfl (hb hby d1_45)
  have Fw12 := Fw9.same W12
  have K12 : Keep h0 h12 [a1] := K9.wr W12 (Or.inl (List.mem_of_getElem? (i := 0) rfl))
  have N12 := Fr.snoc X12 N11 g_a1
  obtain ⟨cl_32_2, Ar_32_2, S_32_2, H_32_2⟩ := id (((((V_a2.ext E4).other W6 ne12.symm).other W9 ne12.symm).other W12 ne12.symm))
  have hin32_2 : ¬ ((((0 : Int32) + (1 : Int32)) + (1 : Int32)) < 0 ∨ cl_32_2.slots.size ≤ ((((0 : Int32) + (1 : Int32)) + (1 : Int32))).toNatClampNeg) := inb_of S_32_2 ⟨by decide, by decide⟩
  have hat32_2 := H_32_2 _ (own_inb hin32_2)
  obtain ⟨T13, X13, e13, st13⟩ := getF X12 hx hZ hown (host := "") (Or.inl (ww hw 23 rfl)) Via.refl e12 Fw12 (g := (mkF m 37 #[.val (.ref a1), .val (.ref a2), .val (.ref a2), .val (.int (3 : Int32)), .val (.int (((0 : Int32) + (1 : Int32)) + (1 : Int32))), .val (.int (D ((((0 : Int32) + (1 : Int32)) + (1 : Int32))).toNatClampNeg))] [(.ref a1), (.ref a1)])) rfl rfl (hb hby d1_37)
  obtain ⟨_, _, ⟨T14, L14, k14, n14⟩, -, X14, ⟨Lc14, hQ14, l14, y14, z14⟩, st14⟩ := Jvm.LawKit.callS X13 hx (y := (⟨"java/lang/Math", "addExact", "(II)I"⟩ : MethodName)) hown (mvT hZ (ww hw 25 rfl)) (mvT hZ (ww hw 26 rfl)) (mvT hZ (ww hw 27 rfl)) (mvT hZ (ww hw 28 rfl)) (by decide) (backOf (W := 1) (rm3 l Z a0 hw [] (((0 : Int32) + (D ((0 : Int32)).toNatClampNeg)) + (D (((0 : Int32) + (1 : Int32))).toNatClampNeg)) (D ((((0 : Int32) + (1 : Int32)) + (1 : Int32))).toNatClampNeg)  h12 n0 (Nat.le_trans (Nat.le_trans (Nat.le_trans (Nat.le_trans Z0 E4.1) (Keep.of_wr W6).1) (Keep.of_wr W9).1) (Keep.of_wr W12).1) ha2) hZ (ww hw 28 rfl) (ww hw 27 rfl) (by decide) (by decide)) (g := (mkF m 42 #[.val (.ref a1), .val (.ref a2), .val (.ref a2), .val (.int (3 : Int32)), .val (.int (((0 : Int32) + (1 : Int32)) + (1 : Int32))), .val (.int (D ((((0 : Int32) + (1 : Int32)) + (1 : Int32))).toNatClampNeg))] [(.int (D ((((0 : Int32) + (1 : Int32)) + (1 : Int32))).toNatClampNeg)), (.int (((0 : Int32) + (D ((0 : Int32)).toNatClampNeg)) + (D (((0 : Int32) + (1 : Int32))).toNatClampNeg))), (.ref a1)])) rfl (by rw [hml]; rfl) (argsL := [(.int (((0 : Int32) + (D ((0 : Int32)).toNatClampNeg)) + (D (((0 : Int32) + (1 : Int32))).toNatClampNeg))), (.int (D ((((0 : Int32) + (1 : Int32)) + (1 : Int32))).toNatClampNeg))]) (rest := [(.ref a1)]) (lenOf pd_1_3 rfl) rfl (by show 2 * 0 + _ ≤ _; exact Nat.le_of_eq rfl) (hb hby d1_42) (fun _ _ => ⟨rfl, e13, (by decide : 1 + 0 ≤ _), (by decide : 3 + 0 ≤ _)⟩)
  dsimp only [Pt.U, Pt.locs, Pt.cells, Pt.slots] at X14 l14 y14 z14 st14 hQ14
  subst l14 y14 z14
  obtain ⟨rfl, N14q, eh14⟩ := hQ14
  have N14 := Fr.app N12 N14q
  obtain ⟨T15, h15, X15, e15, W15, st15⟩ := putF X14 hx hZ hown (host := "") (Or.inl (ww hw 23 rfl)) Via.refl eh14 Fw12 ((((E_a1.ext E4).wr W6).wr W9).wr W12) (Or.inl (ww hw 24 rfl)) (ww hw 4 rfl) (ty := .int) (by decide) rfl rfl (g := (mkF m 45 #[.val (.ref a1), .val (.ref a2), .val (.ref a2), .val (.int (3 : Int32)), .val (.int (((0 : Int32) + (1 : Int32)) + (1 : Int32))), .val (.int (D ((((0 : Int32) + (1 : Int32)) + (1 : Int32))).toNatClampNeg))] [(.int ((((0 : Int32) + (D ((0 : Int32)).toNatClampNeg)) + (D (((0 : Int32) + (1 : Int32))).toNatClampNeg)) + (D ((((0 : Int32) + (1 : Int32)) + (1 : Int32))).toNatClampNeg))), (.ref a1)])) rfl rfl (hb hby d1_45)
  have Fw15 := Fw12.same W15
  have K15 : Keep h0 h15 [a1] := K12.wr W15 (Or.inl (List.mem_of_getElem? (i := 0) rfl))
  have N15 := Fr.snoc X15 N14 g_a1
  obtain ⟨fs, hr, hrun, hended, hW, hsame⟩ := X15.leave (v := none) (fun _ => rfl)
  refine ⟨_, _, pre0 _ ?_, hrun, hended, _, _, rfl, ?_, ⟨_, rfl⟩, hW, hsame.mono (by decide) (by decide)⟩
  · show Steps _ _ _ (s₁.setTop (mkF m 0 #[.val (.ref a1), .val (.ref a2), .unset, .unset, .unset, .unset] [])) _
    refine XS.aloadN X0.here hx rfl (hb hby d1_0) rfl rfl ?_
    refine st3 _ ?_
    refine XS.aloadN X3.here hx rfl (hb hby d1_4) rfl rfl ?_
    refine XS.aloadN X3.here hx rfl (hb hby d1_5) rfl rfl ?_
    refine st4 _ ?_
    refine st5 _ ?_
    refine st6 _ ?_
    refine XS.aloadN X6.here hx rfl (hb hby d1_15) rfl rfl ?_
    refine XS.astoreN X6.here hx rfl (hb hby d1_16) rfl rfl (l' := #[.val (.ref a1), .val (.ref a2), .val (.ref a2), .unset, .unset, .unset]) rfl ?_
    refine XS.aloadN X6.here hx rfl (hb hby d1_17) rfl rfl ?_
    refine X6.arraylength hx (by rw [e6]; exact Ar_a2_18.1) (State.isArrayOf_alike hZ.alike Ar_a2_18.2.1) (g := (mkF m 18 #[.val (.ref a1), .val (.ref a2), .val (.ref a2), .unset, .unset, .unset] [(.ref a2)])) rfl rfl (hb hby d1_18) _ ?_
    rw [len_of S_a2_18 (by decide)]
    refine XS.istoreN X6.here hx rfl (hb hby d1_19) rfl (l' := #[.val (.ref a1), .val (.ref a2), .val (.ref a2), .val (.int (3 : Int32)), .unset, .unset]) rfl ?_
    refine XS.iconst X6.here hx rfl (hb hby d1_20) ?_
    refine XS.istore X6.here hx rfl (hb hby d1_21) rfl (l' := #[.val (.ref a1), .val (.ref a2), .val (.ref a2), .val (.int (3 : Int32)), .val (.int (0 : Int32)), .unset]) rfl ?_
    refine XS.iload X6.here hx rfl (hb hby d1_23) rfl ?_
    refine XS.iloadN X6.here hx rfl (hb hby d1_25) rfl ?_
    refine XS.icmpNo X6.here hx rfl (hb hby d1_26) rfl (tlt (by decide : (0 : Int32) < (3 : Int32))).2.1 ?_
    refine XS.aloadN X6.here hx rfl (hb hby d1_29) rfl rfl ?_
    refine XS.iload X6.here hx rfl (hb hby d1_30) rfl ?_
    refine X6.iaload hx (j := (0 : Int32)) (v := (.int (D ((0 : Int32)).toNatClampNeg))) (by rw [e6]; exact Ar_32.1) (State.isArrayOf_alike hZ.alike Ar_32.2.1) Ar_32.2.2 hin32 hat32 (g := (mkF m 32 #[.val (.ref a1), .val (.ref a2), .val (.ref a2), .val (.int (3 : Int32)), .val (.int (0 : Int32)), .unset] [(.int (0 : Int32)), (.ref a2)])) rfl rfl (hb hby d1_32) _ ?_
    refine XS.istore X6.here hx rfl (hb hby d1_33) rfl (l' := #[.val (.ref a1), .val (.ref a2), .val (.ref a2), .val (.int (3 : Int32)), .val (.int (0 : Int32)), .val (.int (D ((0 : Int32)).toNatClampNeg))]) rfl ?_
    refine XS.aloadN X6.here hx rfl (hb hby d1_35) rfl rfl ?_
    refine XS.aloadN X6.here hx rfl (hb hby d1_36) rfl rfl ?_
    refine st7 _ ?_
    refine XS.iload X7.here hx rfl (hb hby d1_40) rfl ?_
    refine st8 _ ?_
    refine st9 _ ?_
    refine XS.iinc X9.here hx rfl (hb hby d1_48) rfl (l' := #[.val (.ref a1), .val (.ref a2), .val (.ref a2), .val (.int (3 : Int32)), .val (.int ((0 : Int32) + (1 : Int32))), .val (.int (D ((0 : Int32)).toNatClampNeg))]) rfl ?_
    refine XS.goto X9.here hx rfl (pc0 := 51) (pc' := 23) rfl (hb hby d1_51) (by decide) (by decide) ?_
    refine XS.iload X9.here hx rfl (hb hby d1_23) rfl ?_
    refine XS.iloadN X9.here hx rfl (hb hby d1_25) rfl ?_
    refine XS.icmpNo X9.here hx rfl (hb hby d1_26) rfl (tlt (by decide : ((0 : Int32) + (1 : Int32)) < (3 : Int32))).2.1 ?_
    refine XS.aloadN X9.here hx rfl (hb hby d1_29) rfl rfl ?_
    refine XS.iload X9.here hx rfl (hb hby d1_30) rfl ?_
    refine X9.iaload hx (j := ((0 : Int32) + (1 : Int32))) (v := (.int (D (((0 : Int32) + (1 : Int32))).toNatClampNeg))) (by rw [e9]; exact Ar_32_1.1) (State.isArrayOf_alike hZ.alike Ar_32_1.2.1) Ar_32_1.2.2 hin32_1 hat32_1 (g := (mkF m 32 #[.val (.ref a1), .val (.ref a2), .val (.ref a2), .val (.int (3 : Int32)), .val (.int ((0 : Int32) + (1 : Int32))), .val (.int (D ((0 : Int32)).toNatClampNeg))] [(.int ((0 : Int32) + (1 : Int32))), (.ref a2)])) rfl rfl (hb hby d1_32) _ ?_
    refine XS.istore X9.here hx rfl (hb hby d1_33) rfl (l' := #[.val (.ref a1), .val (.ref a2), .val (.ref a2), .val (.int (3 : Int32)), .val (.int ((0 : Int32) + (1 : Int32))), .val (.int (D (((0 : Int32) + (1 : Int32))).toNatClampNeg))]) rfl ?_
    refine XS.aloadN X9.here hx rfl (hb hby d1_35) rfl rfl ?_
    refine XS.aloadN X9.here hx rfl (hb hby d1_36) rfl rfl ?_
    refine st10 _ ?_
    refine XS.iload X10.here hx rfl (hb hby d1_40) rfl ?_
    refine st11 _ ?_
    refine st12 _ ?_
    refine XS.iinc X12.here hx rfl (hb hby d1_48) rfl (l' := #[.val (.ref a1), .val (.ref a2), .val (.ref a2), .val (.int (3 : Int32)), .val (.int (((0 : Int32) + (1 : Int32)) + (1 : Int32))), .val (.int (D (((0 : Int32) + (1 : Int32))).toNatClampNeg))]) rfl ?_
    refine XS.goto X12.here hx rfl (pc0 := 51) (pc' := 23) rfl (hb hby d1_51) (by decide) (by decide) ?_
    refine XS.iload X12.here hx rfl (hb hby d1_23) rfl ?_
    refine XS.iloadN X12.here hx rfl (hb hby d1_25) rfl ?_
    refine XS.icmpNo X12.here hx rfl (hb hby d1_26) rfl (tlt (by decide : (((0 : Int32) + (1 : Int32)) + (1 : Int32)) < (3 : Int32))).2.1 ?_
    refine XS.aloadN X12.here hx rfl (hb hby d1_29) rfl rfl ?_
    refine XS.iload X12.here hx rfl (hb hby d1_30) rfl ?_
    refine X12.iaload hx (j := (((0 : Int32) + (1 : Int32)) + (1 : Int32))) (v := (.int (D ((((0 : Int32) + (1 : Int32)) + (1 : Int32))).toNatClampNeg))) (by rw [e12]; exact Ar_32_2.1) (State.isArrayOf_alike hZ.alike Ar_32_2.2.1) Ar_32_2.2.2 hin32_2 hat32_2 (g := (mkF m 32 #[.val (.ref a1), .val (.ref a2), .val (.ref a2), .val (.int (3 : Int32)), .val (.int (((0 : Int32) + (1 : Int32)) + (1 : Int32))), .val (.int (D (((0 : Int32) + (1 : Int32))).toNatClampNeg))] [(.int (((0 : Int32) + (1 : Int32)) + (1 : Int32))), (.ref a2)])) rfl rfl (hb hby d1_32) _ ?_
    refine XS.istore X12.here hx rfl (hb hby d1_33) rfl (l' := #[.val (.ref a1), .val (.ref a2), .val (.ref a2), .val (.int (3 : Int32)), .val (.int (((0 : Int32) + (1 : Int32)) + (1 : Int32))), .val (.int (D ((((0 : Int32) + (1 : Int32)) + (1 : Int32))).toNatClampNeg))]) rfl ?_
    refine XS.aloadN X12.here hx rfl (hb hby d1_35) rfl rfl ?_
    refine XS.aloadN X12.here hx rfl (hb hby d1_36) rfl rfl ?_
    refine st13 _ ?_
    refine XS.iload X13.here hx rfl (hb hby d1_40) rfl ?_
    refine st14 _ ?_
    refine st15 _ ?_
    refine XS.iinc X15.here hx rfl (hb hby d1_48) rfl (l' := #[.val (.ref a1), .val (.ref a2), .val (.ref a2), .val (.int (3 : Int32)), .val (.int ((((0 : Int32) + (1 : Int32)) + (1 : Int32)) + (1 : Int32))), .val (.int (D ((((0 : Int32) + (1 : Int32)) + (1 : Int32))).toNatClampNeg))]) rfl ?_
    refine XS.goto X15.here hx rfl (pc0 := 51) (pc' := 23) rfl (hb hby d1_51) (by decide) (by decide) ?_
    refine XS.iload X15.here hx rfl (hb hby d1_23) rfl ?_
    refine XS.iloadN X15.here hx rfl (hb hby d1_25) rfl ?_
    refine XS.icmpYes X15.here hx rfl (pc0 := 26) (pc' := 54) rfl (hb hby d1_26) rfl (flt (by decide : ¬ (((((0 : Int32) + (1 : Int32)) + (1 : Int32)) + (1 : Int32)) < (3 : Int32)))).2.1 (by decide) (by decide) ?_
    exact X15.returnOut hx Bd.returns (hb hby d1_54) hr
  · show Q1 Z a1 a2 D uc h0 n0 _ T15.heap _
    rw [e15]
    exact ⟨b4, rfl, N15, K15, sz_b4, (((Fw6.other W9 (Or.inr (slot_ne (Or.inr (ww hw 22 rfl)) (Or.inl (ww hw 24 rfl)) (by decide) (t := (.array .int)) (t' := .int) (by decide) (by decide)))).other W12 (Or.inr (slot_ne (Or.inr (ww hw 22 rfl)) (Or.inl (ww hw 24 rfl)) (by decide) (t := (.array .int)) (t' := .int) (by decide) (by decide)))).other W15 (Or.inr (slot_ne (Or.inr (ww hw 22 rfl)) (Or.inl (ww hw 24 rfl)) (by decide) (t := (.array .int)) (t' := .int) (by decide) (by decide)))), Fw15, ((((V4.other W6 (Ne.symm (Nat.ne_of_lt (Nat.lt_of_lt_of_le E_a1.lt (Nat.le_of_eq g4.symm))))).other W9 (Ne.symm (Nat.ne_of_lt (Nat.lt_of_lt_of_le E_a1.lt (Nat.le_of_eq g4.symm))))).other W12 (Ne.symm (Nat.ne_of_lt (Nat.lt_of_lt_of_le E_a1.lt (Nat.le_of_eq g4.symm))))).other W15 (Ne.symm (Nat.ne_of_lt (Nat.lt_of_lt_of_le E_a1.lt (Nat.le_of_eq g4.symm)))))⟩
theorem d4_0 : decode prog_68_method_2_code 0 = .ok (.aload_n 0, 1) := by decide +kernel
theorem d4_1 : decode prog_68_method_2_code 1 = .ok (.getfield 13, 3) := by decide +kernel
theorem d4_4 : decode prog_68_method_2_code 4 = .ok (.iload_n 1, 1) := by decide +kernel
theorem d4_5 : decode prog_68_method_2_code 5 = .ok (.dup2, 1) := by decide +kernel
theorem d4_6 : decode prog_68_method_2_code 6 = .ok (.iaload, 1) := by decide +kernel
theorem d4_7 : decode prog_68_method_2_code 7 = .ok (.iload_n 2, 1) := by decide +kernel
theorem d4_8 : decode prog_68_method_2_code 8 = .ok (.isub, 1) := by decide +kernel
theorem d4_9 : decode prog_68_method_2_code 9 = .ok (.iastore, 1) := by decide +kernel
theorem d4_10 : decode prog_68_method_2_code 10 = .ok (.aload_n 0, 1) := by decide +kernel
theorem d4_11 : decode prog_68_method_2_code 11 = .ok (.dup, 1) := by decide +kernel
theorem d4_12 : decode prog_68_method_2_code 12 = .ok (.getfield 18, 3) := by decide +kernel
theorem d4_15 : decode prog_68_method_2_code 15 = .ok (.iload_n 2, 1) := by decide +kernel
theorem d4_16 : decode prog_68_method_2_code 16 = .ok (.isub, 1) := by decide +kernel
theorem d4_17 : decode prog_68_method_2_code 17 = .ok (.putfield 18, 3) := by decide +kernel
theorem d4_20 : decode prog_68_method_2_code 20 = .ok (.return_, 1) := by decide +kernel
theorem pn_4 : plainName "com/example/binario/binario/rules/PassengerBag" = true := by first | (simp [plainName, overriddenIn]; done) | decide +kernel
theorem ef_4 (m : MethodId) (x0 : Addr) (x1 : Int32) (x2 : Int32) : entryFrame m #[(.ref x0), (.int x1), (.int x2)] 3 = mkF m 0 #[.val (.ref x0), .val (.int x1), .val (.int x2)] [] := by first | (simp [entryFrame, mkF, argsToLocals, Value.category]; done) | rfl
def Q4 (Z : State) (a1 : Addr) (p2 : Int32) (p3 : Int32) (ca : Addr) (lf : Int32) (D : Nat → Int32) (h0 : Heap) (n0 : Nat) (v : Option Value) (h : Heap) (L : List Loc) : Prop := v = none ∧ Fr n0 L ∧ Keep h0 h [a1, ca] ∧ Fld Z h a1 "com/example/binario/binario/rules/PassengerBag" "counts" "[I" (.ref ca) ∧ Fld Z h a1 "com/example/binario/binario/rules/PassengerBag" "left" "I" (.int (lf - p3)) ∧ own_AI Z h ca (3 : Int32) (own_upd D (p2).toNatClampNeg ((D (p2).toNatClampNeg) - p3))
set_option maxRecDepth 65536 in
set_option maxHeartbeats 40000000 in
theorem rm4 (l : Launch) (Z : State) (a0 : Array Value) (hw : ∀ d ∈ tables_1, d.before a0 Z = true) (ws : List Jvm.Cond) (a1 : Addr) (p2 : Int32) (p3 : Int32) (ca : Addr) (lf : Int32) (D : Nat → Int32) (h0 : Heap) (n0 : Nat) (Z0 : n0 ≤ h0.size) (E_a1 : Exa Z h0 a1 "com/example/binario/binario/rules/PassengerBag") (F_c : Fld Z h0 a1 "com/example/binario/binario/rules/PassengerBag" "counts" "[I" (.ref ca)) (F_l : Fld Z h0 a1 "com/example/binario/binario/rules/PassengerBag" "left" "I" (.int lf)) (V_ca : own_AI Z h0 ca (3 : Int32) D) (g_a1 : n0 ≤ a1) (g_ca : n0 ≤ ca) (nac : a1 ≠ ca) (hj : ¬ p2 < 0 ∧ p2 < (3 : Int32)) :
    MetFree l (⟨"com/example/binario/binario/rules/PassengerBag", "remove", "(II)V"⟩ : MethodName) (head1 (Jvm.Cond.code (⟨"com/example/binario/binario/rules/PassengerBag", "remove", "(II)V"⟩ : MethodName) prog_68_method_2_code 3 none :: ws) ({ frames := 0, cells := 0, slots := 0, locals := 0 } : Room)) (fun a U => a = #[(.ref a1), (.int p2), (.int p3)] ∧ Z.Warmed39 U.vm ∧ U.heap = h0) (fun _ _ _ _ _ => True) (fun _ U o U' => ∃ v L, o = .returned v ∧ Q4 Z a1 p2 p3 ca lf D h0 n0 v U'.heap L ∧ FrameEnd U o U' L ({ frames := 0, cells := 0, slots := 0, locals := 0 } : Room).cells ({ frames := 0, cells := 0, slots := 0, locals := 0 } : Room).slots) := by
  refine MetFree.of_bodySF (plainFor_of_name pn_4) hisR ?_
  intro p e s m args below meth c s₁ Bd hml0 hP hK
  obtain ⟨rfl, hZ, hh⟩ := hP
  have hx := Bd.exec
  have hby := Bd.bytes
  have hml : c.maxLocals = 3 := hml0
  have hown : s.vm.findClass "com/example/binario/binario/rules/PassengerBag" = some m.cls := findClass_of_methodNamed Bd.named
  have hnm := (name_of_methodNamed Bd.named Bd.method).1
  have X0 : Stand p l e ({ frames := 0, cells := 0, slots := 0, locals := 0 } : Room) s m #[(.ref a1), (.int p2), (.int p3)] below meth c s₁ [] 0 0 := Stand.of_body Bd
  have e0 : s₁.heap = h0 := by rw [← hh, Bd.state]; rfl
  have N0 := Fr.nil n0
  have pre0 : ∀ t, Steps p.tables e below (s₁.setTop (mkF m 0 #[.val (.ref a1), .val (.int p2), .val (.int p3)] [])) t → Steps p.tables e below (s₁.setTop (entryFrame m #[(.ref a1), (.int p2), (.int p3)] 3)) t := fun t k => castTop (ef_4 m a1 p2 p3) k

  obtain ⟨T4, X4, e4, st4⟩ := getF X0 hx hZ hown (host := "") (Or.inl (ww hw 21 rfl)) Via.refl e0 F_c (g := (mkF m 1 #[.val (.ref a1), .val (.int p2), .val (.int p3)] [(.ref a1)])) rfl rfl (hb hby d4_1)
  obtain ⟨cl_6, Ar_6, S_6, H_6⟩ := id (V_ca)
  have hin6 : ¬ (p2 < 0 ∨ cl_6.slots.size ≤ (p2).toNatClampNeg) := inb_of S_6 hj
  have hat6 := H_6 _ (own_inb hin6)
  obtain ⟨cl_9, Ar_9, S_9, H_9⟩ := id (V_ca)
  have hin9 : ¬ (p2 < 0 ∨ cl_9.slots.size ≤ (p2).toNatClampNeg) := inb_of S_9 hj
  obtain ⟨T5, h5, X5, e5, W5, st5⟩ := stI X4 hx hZ e4 Ar_9 (j := p2) hin9 (g := (mkF m 9 #[.val (.ref a1), .val (.int p2), .val (.int p3)] [(.int ((D (p2).toNatClampNeg) - p3)), (.int p2), (.ref ca)])) rfl rfl (hb hby d4_9)
  have V_ca_5 := own_AI.put Ar_9 S_9 H_9 W5
  have K5 : Keep h0 h5 [ca, a1] := (Keep.refl h0 [ca, a1]).wr W5 (Or.inl (List.mem_of_getElem? (i := 0) rfl))
  have N5 := Fr.snoc X5 N0 g_ca
  obtain ⟨T6, X6, e6, st6⟩ := getF X5 hx hZ hown (host := "") (Or.inl (ww hw 23 rfl)) Via.refl e5 (F_l.other W5 (Or.inl nac)) (g := (mkF m 12 #[.val (.ref a1), .val (.int p2), .val (.int p3)] [(.ref a1), (.ref a1)])) rfl rfl (hb hby d4_12)
  obtain ⟨T7, h7, X7, e7, W7, st7⟩ := putF X6 hx hZ hown (host := "") (Or.inl (ww hw 23 rfl)) Via.refl e6 (F_l.other W5 (Or.inl nac)) (E_a1.wr W5) (Or.inl (ww hw 24 rfl)) (ww hw 4 rfl) (ty := .int) (by decide) rfl rfl (g := (mkF m 17 #[.val (.ref a1), .val (.int p2), .val (.int p3)] [(.int (lf - p3)), (.ref a1)])) rfl rfl (hb hby d4_17)
  have Fw7 := (F_l.other W5 (Or.inl nac)).same W7
  have K7 : Keep h0 h7 [ca, a1] := K5.wr W7 (Or.inl (List.mem_of_getElem? (i := 1) rfl))
  have N7 := Fr.snoc X7 N5 g_a1
  obtain ⟨fs, hr, hrun, hended, hW, hsame⟩ := X7.leave (v := none) (fun _ => rfl)
  refine ⟨_, _, pre0 _ ?_, hrun, hended, _, _, rfl, ?_, ⟨_, rfl⟩, hW, hsame.mono (by decide) (by decide)⟩
  · show Steps _ _ _ (s₁.setTop (mkF m 0 #[.val (.ref a1), .val (.int p2), .val (.int p3)] [])) _
    refine XS.aloadN X0.here hx rfl (hb hby d4_0) rfl rfl ?_
    refine st4 _ ?_
    refine XS.iloadN X4.here hx rfl (hb hby d4_4) rfl ?_
    jvm_step X4.here [X4.here.top, hx, (hb hby d4_5), Value.category]
    refine X4.iaload hx (j := p2) (v := (.int (D (p2).toNatClampNeg))) (by rw [e4]; exact Ar_6.1) (State.isArrayOf_alike hZ.alike Ar_6.2.1) Ar_6.2.2 hin6 hat6 (g := (mkF m 6 #[.val (.ref a1), .val (.int p2), .val (.int p3)] [(.int p2), (.ref ca), (.int p2), (.ref ca)])) rfl rfl (hb hby d4_6) _ ?_
    refine XS.iloadN X4.here hx rfl (hb hby d4_7) rfl ?_
    refine XS.isub X4.here hx rfl (hb hby d4_8) rfl ?_
    refine st5 _ ?_
    refine XS.aloadN X5.here hx rfl (hb hby d4_10) rfl rfl ?_
    refine XS.dup X5.here hx rfl (hb hby d4_11) rfl rfl ?_
    refine st6 _ ?_
    refine XS.iloadN X6.here hx rfl (hb hby d4_15) rfl ?_
    refine XS.isub X6.here hx rfl (hb hby d4_16) rfl ?_
    refine st7 _ ?_
    exact X7.returnOut hx Bd.returns (hb hby d4_20) hr
  · show Q4 Z a1 p2 p3 ca lf D h0 n0 _ T7.heap _
    rw [e7]
    exact ⟨rfl, N7, own_kw K7 (by simp), ((F_c.other W5 (Or.inl nac)).other W7 (Or.inr (slot_ne (Or.inr (ww hw 22 rfl)) (Or.inl (ww hw 24 rfl)) (by decide) (t := (.array .int)) (t' := .int) (by decide) (by decide)))), Fw7, (V_ca_5.other W7 nac.symm)⟩
theorem d13_0 : decode prog_61_method_3_code 0 = .ok (.iload_n 3, 1) := by decide +kernel
theorem d13_1 : decode prog_61_method_3_code 1 = .ok (.bipush 32, 2) := by decide +kernel
theorem d13_3 : decode prog_61_method_3_code 3 = .ok (.if_icmp .gt 42, 3) := by decide +kernel
theorem d13_6 : decode prog_61_method_3_code 6 = .ok (.iconst 0, 1) := by decide +kernel
theorem d13_7 : decode prog_61_method_3_code 7 = .ok (.istore 4, 2) := by decide +kernel
theorem d13_9 : decode prog_61_method_3_code 9 = .ok (.iconst 0, 1) := by decide +kernel
theorem d13_10 : decode prog_61_method_3_code 10 = .ok (.istore 5, 2) := by decide +kernel
theorem d13_12 : decode prog_61_method_3_code 12 = .ok (.iload 5, 2) := by decide +kernel
theorem d13_14 : decode prog_61_method_3_code 14 = .ok (.iload_n 3, 1) := by decide +kernel
theorem d13_15 : decode prog_61_method_3_code 15 = .ok (.if_icmp .ge 27, 3) := by decide +kernel
theorem d13_42 : decode prog_61_method_3_code 42 = .ok (.iload 4, 2) := by decide +kernel
theorem d13_44 : decode prog_61_method_3_code 44 = .ok (.ireturn, 1) := by decide +kernel
theorem pn_13 : plainName "com/example/binario/binario/rules/Hypergeometric" = true := by first | (simp [plainName, overriddenIn]; done) | decide +kernel
theorem ef_13 (m : MethodId) (x0 : Addr) (x1 : Int32) (x2 : Int32) (x3 : Int32) : entryFrame m #[(.ref x0), (.int x1), (.int x2), (.int x3)] 25 = mkF m 0 #[.val (.ref x0), .val (.int x1), .val (.int x2), .val (.int x3), .unset, .unset, .unset, .unset, .unset, .unset, .unset, .unset, .unset, .unset, .unset, .unset, .unset, .unset, .unset, .unset, .unset, .unset, .unset, .unset, .unset] [] := by first | (simp [entryFrame, mkF, argsToLocals, Value.category]; done) | rfl
def Q13 (Z : State) (a1 : Addr) (p2 : Int32) (p3 : Int32) (p4 : Int32) (h0 : Heap) (n0 : Nat) (v : Option Value) (h : Heap) (L : List Loc) : Prop := own_Qc (0 : Int32) h0 n0 v h L
set_option maxRecDepth 65536 in
set_option maxHeartbeats 40000000 in
theorem rm13 (l : Launch) (Z : State) (a0 : Array Value) (hw : ∀ d ∈ tables_1, d.before a0 Z = true) (ws : List Jvm.Cond) (a1 : Addr) (p2 : Int32) (p3 : Int32) (p4 : Int32) (h0 : Heap) (n0 : Nat) (Z0 : n0 ≤ h0.size) (hc3 : ¬ ((32 : Int32) < p4)) (hc15 : ¬ ((0 : Int32) < p4)) :
    MetFree l (⟨"com/example/binario/binario/rules/Hypergeometric", "count", "(Lcom/example/binario/binario/rules/SeededRandom;III)I"⟩ : MethodName) (head1 (Jvm.Cond.code (⟨"com/example/binario/binario/rules/Hypergeometric", "count", "(Lcom/example/binario/binario/rules/SeededRandom;III)I"⟩ : MethodName) prog_61_method_3_code 25 (some .int) :: ws) ({ frames := 0, cells := 0, slots := 0, locals := 0 } : Room)) (fun a U => a = #[(.ref a1), (.int p2), (.int p3), (.int p4)] ∧ Z.Warmed39 U.vm ∧ U.heap = h0) (fun _ _ _ _ _ => True) (fun _ U o U' => ∃ v L, o = .returned v ∧ Q13 Z a1 p2 p3 p4 h0 n0 v U'.heap L ∧ FrameEnd U o U' L ({ frames := 0, cells := 0, slots := 0, locals := 0 } : Room).cells ({ frames := 0, cells := 0, slots := 0, locals := 0 } : Room).slots) := by
  refine MetFree.of_bodySF (plainFor_of_name pn_13) hisR ?_
  intro p e s m args below meth c s₁ Bd hml0 hP hK
  obtain ⟨rfl, hZ, hh⟩ := hP
  have hx := Bd.exec
  have hby := Bd.bytes
  have hml : c.maxLocals = 25 := hml0
  have hown : s.vm.findClass "com/example/binario/binario/rules/Hypergeometric" = some m.cls := findClass_of_methodNamed Bd.named
  have hnm := (name_of_methodNamed Bd.named Bd.method).1
  have X0 : Stand p l e ({ frames := 0, cells := 0, slots := 0, locals := 0 } : Room) s m #[(.ref a1), (.int p2), (.int p3), (.int p4)] below meth c s₁ [] 0 0 := Stand.of_body Bd
  have e0 : s₁.heap = h0 := by rw [← hh, Bd.state]; rfl
  have N0 := Fr.nil n0
  have pre0 : ∀ t, Steps p.tables e below (s₁.setTop (mkF m 0 #[.val (.ref a1), .val (.int p2), .val (.int p3), .val (.int p4), .unset, .unset, .unset, .unset, .unset, .unset, .unset, .unset, .unset, .unset, .unset, .unset, .unset, .unset, .unset, .unset, .unset, .unset, .unset, .unset, .unset] [])) t → Steps p.tables e below (s₁.setTop (entryFrame m #[(.ref a1), (.int p2), (.int p3), (.int p4)] 25)) t := fun t k => castTop (ef_13 m a1 p2 p3 p4) k


  obtain ⟨fs, hr, hrun, hended, hW, hsame⟩ := X0.leave (v := some (.int (0 : Int32))) (fun h => by rw [Bd.returns] at h; cases h)
  refine ⟨_, _, pre0 _ ?_, hrun, hended, _, _, rfl, ?_, ⟨_, rfl⟩, hW, hsame.mono (by decide) (by decide)⟩
  · show Steps _ _ _ (s₁.setTop (mkF m 0 #[.val (.ref a1), .val (.int p2), .val (.int p3), .val (.int p4), .unset, .unset, .unset, .unset, .unset, .unset, .unset, .unset, .unset, .unset, .unset, .unset, .unset, .unset, .unset, .unset, .unset, .unset, .unset, .unset, .unset] [])) _
    refine XS.iloadN X0.here hx rfl (hb hby d13_0) rfl ?_
    refine XS.bipush X0.here hx rfl (hb hby d13_1) ?_
    refine XS.icmpNo X0.here hx rfl (hb hby d13_3) rfl (flt hc3).2.2.1 ?_
    refine XS.iconst X0.here hx rfl (hb hby d13_6) ?_
    refine XS.istore X0.here hx rfl (hb hby d13_7) rfl (l' := #[.val (.ref a1), .val (.int p2), .val (.int p3), .val (.int p4), .val (.int (0 : Int32)), .unset, .unset, .unset, .unset, .unset, .unset, .unset, .unset, .unset, .unset, .unset, .unset, .unset, .unset, .unset, .unset, .unset, .unset, .unset, .unset]) rfl ?_
    refine XS.iconst X0.here hx rfl (hb hby d13_9) ?_
    refine XS.istore X0.here hx rfl (hb hby d13_10) rfl (l' := #[.val (.ref a1), .val (.int p2), .val (.int p3), .val (.int p4), .val (.int (0 : Int32)), .val (.int (0 : Int32)), .unset, .unset, .unset, .unset, .unset, .unset, .unset, .unset, .unset, .unset, .unset, .unset, .unset, .unset, .unset, .unset, .unset, .unset, .unset]) rfl ?_
    refine XS.iload X0.here hx rfl (hb hby d13_12) rfl ?_
    refine XS.iloadN X0.here hx rfl (hb hby d13_14) rfl ?_
    refine XS.icmpYes X0.here hx rfl (pc0 := 15) (pc' := 42) rfl (hb hby d13_15) rfl (flt hc15).2.1 (by decide) (by decide) ?_
    refine XS.iload X0.here hx rfl (hb hby d13_42) rfl ?_
    exact retI X0 hx Bd.returns (hb hby d13_44) hr
  · show Q13 Z a1 p2 p3 p4 h0 n0 _ s₁.heap _
    rw [e0]
    exact ⟨rfl, N0, rfl⟩
theorem d12_0 : decode prog_61_method_2_code 0 = .ok (.iload_n 1, 1) := by decide +kernel
theorem d12_1 : decode prog_61_method_2_code 1 = .ok (.ifCond .lt 21, 3) := by decide +kernel
theorem d12_4 : decode prog_61_method_2_code 4 = .ok (.iload_n 2, 1) := by decide +kernel
theorem d12_5 : decode prog_61_method_2_code 5 = .ok (.ifCond .lt 17, 3) := by decide +kernel
theorem d12_8 : decode prog_61_method_2_code 8 = .ok (.iload_n 2, 1) := by decide +kernel
theorem d12_9 : decode prog_61_method_2_code 9 = .ok (.iload_n 1, 1) := by decide +kernel
theorem d12_10 : decode prog_61_method_2_code 10 = .ok (.if_icmp .gt 12, 3) := by decide +kernel
theorem d12_13 : decode prog_61_method_2_code 13 = .ok (.iload_n 3, 1) := by decide +kernel
theorem d12_14 : decode prog_61_method_2_code 14 = .ok (.ifCond .lt 8, 3) := by decide +kernel
theorem d12_17 : decode prog_61_method_2_code 17 = .ok (.iload_n 3, 1) := by decide +kernel
theorem d12_18 : decode prog_61_method_2_code 18 = .ok (.iload_n 1, 1) := by decide +kernel
theorem d12_19 : decode prog_61_method_2_code 19 = .ok (.if_icmp .le 19, 3) := by decide +kernel
theorem d12_38 : decode prog_61_method_2_code 38 = .ok (.iload_n 2, 1) := by decide +kernel
theorem d12_39 : decode prog_61_method_2_code 39 = .ok (.iload_n 1, 1) := by decide +kernel
theorem d12_40 : decode prog_61_method_2_code 40 = .ok (.iload_n 2, 1) := by decide +kernel
theorem d12_41 : decode prog_61_method_2_code 41 = .ok (.isub, 1) := by decide +kernel
theorem d12_42 : decode prog_61_method_2_code 42 = .ok (.if_icmp .le 7, 3) := by decide +kernel
theorem d12_45 : decode prog_61_method_2_code 45 = .ok (.iconst 1, 1) := by decide +kernel
theorem d12_46 : decode prog_61_method_2_code 46 = .ok (.goto 4, 3) := by decide +kernel
theorem d12_50 : decode prog_61_method_2_code 50 = .ok (.istore 4, 2) := by decide +kernel
theorem d12_52 : decode prog_61_method_2_code 52 = .ok (.iload_n 3, 1) := by decide +kernel
theorem d12_53 : decode prog_61_method_2_code 53 = .ok (.iload_n 1, 1) := by decide +kernel
theorem d12_54 : decode prog_61_method_2_code 54 = .ok (.iload_n 3, 1) := by decide +kernel
theorem d12_55 : decode prog_61_method_2_code 55 = .ok (.isub, 1) := by decide +kernel
theorem d12_56 : decode prog_61_method_2_code 56 = .ok (.if_icmp .le 7, 3) := by decide +kernel
theorem d12_59 : decode prog_61_method_2_code 59 = .ok (.iconst 1, 1) := by decide +kernel
theorem d12_60 : decode prog_61_method_2_code 60 = .ok (.goto 4, 3) := by decide +kernel
theorem d12_64 : decode prog_61_method_2_code 64 = .ok (.istore 5, 2) := by decide +kernel
theorem d12_66 : decode prog_61_method_2_code 66 = .ok (.iload 4, 2) := by decide +kernel
theorem d12_68 : decode prog_61_method_2_code 68 = .ok (.ifCond .eq 9, 3) := by decide +kernel
theorem d12_71 : decode prog_61_method_2_code 71 = .ok (.iload_n 1, 1) := by decide +kernel
theorem d12_72 : decode prog_61_method_2_code 72 = .ok (.iload_n 2, 1) := by decide +kernel
theorem d12_73 : decode prog_61_method_2_code 73 = .ok (.isub, 1) := by decide +kernel
theorem d12_74 : decode prog_61_method_2_code 74 = .ok (.goto 4, 3) := by decide +kernel
theorem d12_78 : decode prog_61_method_2_code 78 = .ok (.istore 6, 2) := by decide +kernel
theorem d12_80 : decode prog_61_method_2_code 80 = .ok (.iload 5, 2) := by decide +kernel
theorem d12_82 : decode prog_61_method_2_code 82 = .ok (.ifCond .eq 9, 3) := by decide +kernel
theorem d12_85 : decode prog_61_method_2_code 85 = .ok (.iload_n 1, 1) := by decide +kernel
theorem d12_86 : decode prog_61_method_2_code 86 = .ok (.iload_n 3, 1) := by decide +kernel
theorem d12_87 : decode prog_61_method_2_code 87 = .ok (.isub, 1) := by decide +kernel
theorem d12_88 : decode prog_61_method_2_code 88 = .ok (.goto 4, 3) := by decide +kernel
theorem d12_92 : decode prog_61_method_2_code 92 = .ok (.istore 7, 2) := by decide +kernel
theorem d12_94 : decode prog_61_method_2_code 94 = .ok (.iload 7, 2) := by decide +kernel
theorem d12_96 : decode prog_61_method_2_code 96 = .ok (.iload 6, 2) := by decide +kernel
theorem d12_98 : decode prog_61_method_2_code 98 = .ok (.if_icmp .gt 15, 3) := by decide +kernel
theorem d12_101 : decode prog_61_method_2_code 101 = .ok (.aload_n 0, 1) := by decide +kernel
theorem d12_102 : decode prog_61_method_2_code 102 = .ok (.iload_n 1, 1) := by decide +kernel
theorem d12_103 : decode prog_61_method_2_code 103 = .ok (.iload 6, 2) := by decide +kernel
theorem d12_105 : decode prog_61_method_2_code 105 = .ok (.iload 7, 2) := by decide +kernel
theorem d12_107 : decode prog_61_method_2_code 107 = .ok (.invokestatic 16, 3) := by decide +kernel
theorem d12_110 : decode prog_61_method_2_code 110 = .ok (.goto 12, 3) := by decide +kernel
theorem d12_122 : decode prog_61_method_2_code 122 = .ok (.istore 8, 2) := by decide +kernel
theorem d12_124 : decode prog_61_method_2_code 124 = .ok (.iload 5, 2) := by decide +kernel
theorem d12_126 : decode prog_61_method_2_code 126 = .ok (.ifCond .eq 11, 3) := by decide +kernel
theorem d12_129 : decode prog_61_method_2_code 129 = .ok (.iload 6, 2) := by decide +kernel
theorem d12_131 : decode prog_61_method_2_code 131 = .ok (.iload 8, 2) := by decide +kernel
theorem d12_133 : decode prog_61_method_2_code 133 = .ok (.isub, 1) := by decide +kernel
theorem d12_134 : decode prog_61_method_2_code 134 = .ok (.goto 5, 3) := by decide +kernel
theorem d12_139 : decode prog_61_method_2_code 139 = .ok (.istore 9, 2) := by decide +kernel
theorem d12_141 : decode prog_61_method_2_code 141 = .ok (.iload 4, 2) := by decide +kernel
theorem d12_143 : decode prog_61_method_2_code 143 = .ok (.ifCond .eq 10, 3) := by decide +kernel
theorem d12_146 : decode prog_61_method_2_code 146 = .ok (.iload_n 3, 1) := by decide +kernel
theorem d12_147 : decode prog_61_method_2_code 147 = .ok (.iload 9, 2) := by decide +kernel
theorem d12_149 : decode prog_61_method_2_code 149 = .ok (.isub, 1) := by decide +kernel
theorem d12_150 : decode prog_61_method_2_code 150 = .ok (.goto 5, 3) := by decide +kernel
theorem d12_155 : decode prog_61_method_2_code 155 = .ok (.ireturn, 1) := by decide +kernel
theorem pn_12 : plainName "com/example/binario/binario/rules/Hypergeometric" = true := by first | (simp [plainName, overriddenIn]; done) | decide +kernel
theorem pd_12_12 : parseMethodDescriptor "(Lcom/example/binario/binario/rules/SeededRandom;III)I" = some ⟨[(.object "com/example/binario/binario/rules/SeededRandom"), .int, .int, .int], some .int⟩ := by decide +kernel
theorem ef_12_A (m : MethodId) (x0 : Addr) (x1 : Int32) (x2 : Int32) (x3 : Int32) : entryFrame m #[(.ref x0), (.int x1), (.int x2), (.int x1)] 10 = mkF m 0 #[.val (.ref x0), .val (.int x1), .val (.int x2), .val (.int x1), .unset, .unset, .unset, .unset, .unset, .unset] [] := by first | (simp [entryFrame, mkF, argsToLocals, Value.category]; done) | rfl
def Q12_A (Z : State) (a1 : Addr) (p2 : Int32) (p3 : Int32) (h0 : Heap) (n0 : Nat) (v : Option Value) (h : Heap) (L : List Loc) : Prop := own_Qc p3 h0 n0 v h L
set_option maxRecDepth 65536 in
set_option maxHeartbeats 40000000 in
theorem rm12_A (l : Launch) (Z : State) (a0 : Array Value) (hw : ∀ d ∈ tables_1, d.before a0 Z = true) (ws : List Jvm.Cond) (a1 : Addr) (p2 : Int32) (p3 : Int32) (h0 : Heap) (n0 : Nat) (Z0 : n0 ≤ h0.size) (hc1 : ¬ (p2 < (0 : Int32))) (hc5 : ¬ (p3 < (0 : Int32))) (hc10 : ¬ (p2 < p3)) (hc14 : ¬ (p2 < (0 : Int32))) (hc19 : ¬ (p2 < p2)) (hc42 : (p2 - p3) < p3) (hc56 : (p2 - p2) < p2) (hc98 : ¬ ((p2 - p3) < (p2 - p2))) :
    MetFree l (⟨"com/example/binario/binario/rules/Hypergeometric", "draw", "(Lcom/example/binario/binario/rules/SeededRandom;III)I"⟩ : MethodName) (head1 (Jvm.Cond.code (⟨"com/example/binario/binario/rules/Hypergeometric", "draw", "(Lcom/example/binario/binario/rules/SeededRandom;III)I"⟩ : MethodName) prog_61_method_2_code 10 (some .int) :: ws) ({ frames := 1, cells := 0, slots := 0, locals := 40 } : Room)) (fun a U => a = #[(.ref a1), (.int p2), (.int p3), (.int p2)] ∧ Z.Warmed39 U.vm ∧ U.heap = h0) (fun _ _ _ _ _ => True) (fun _ U o U' => ∃ v L, o = .returned v ∧ Q12_A Z a1 p2 p3 h0 n0 v U'.heap L ∧ FrameEnd U o U' L ({ frames := 1, cells := 0, slots := 0, locals := 40 } : Room).cells ({ frames := 1, cells := 0, slots := 0, locals := 40 } : Room).slots) := by
  refine MetFree.of_bodySF (plainFor_of_name pn_12) hisR ?_
  intro p e s m args below meth c s₁ Bd hml0 hP hK
  obtain ⟨rfl, hZ, hh⟩ := hP
  have hx := Bd.exec
  have hby := Bd.bytes
  have hml : c.maxLocals = 10 := hml0
  have hown : s.vm.findClass "com/example/binario/binario/rules/Hypergeometric" = some m.cls := findClass_of_methodNamed Bd.named
  have hnm := (name_of_methodNamed Bd.named Bd.method).1
  have X0 : Stand p l e ({ frames := 1, cells := 0, slots := 0, locals := 40 } : Room) s m #[(.ref a1), (.int p2), (.int p3), (.int p2)] below meth c s₁ [] 0 0 := Stand.of_body Bd
  have e0 : s₁.heap = h0 := by rw [← hh, Bd.state]; rfl
  have N0 := Fr.nil n0
  have pre0 : ∀ t, Steps p.tables e below (s₁.setTop (mkF m 0 #[.val (.ref a1), .val (.int p2), .val (.int p3), .val (.int p2), .unset, .unset, .unset, .unset, .unset, .unset] [])) t → Steps p.tables e below (s₁.setTop (entryFrame m #[(.ref a1), (.int p2), (.int p3), (.int p2)] 10)) t := fun t k => castTop (ef_12_A m a1 p2 p3 p2) k

  obtain ⟨_, _, ⟨T4, L4, k4, n4⟩, -, X4, ⟨Lc4, hQ4, l4, y4, z4⟩, st4⟩ := Jvm.LawKit.callS X0 hx (y := (⟨"com/example/binario/binario/rules/Hypergeometric", "count", "(Lcom/example/binario/binario/rules/SeededRandom;III)I"⟩ : MethodName)) hown (mvT hZ (ww hw 77 rfl)) (mvT hZ (ww hw 78 rfl)) (mvT hZ (ww hw 75 rfl)) (mvT hZ (ww hw 79 rfl)) (by decide) (backOf (W := 0) (rm13 l Z a0 hw [] a1 p2 (p2 - p3) (p2 - p2)  h0 n0 Z0 (by rw [own_ss]; decide) (by rw [own_ss]; decide)) hZ (ww hw 79 rfl) (ww hw 75 rfl) (by decide) (by decide)) (g := (mkF m 107 #[.val (.ref a1), .val (.int p2), .val (.int p3), .val (.int p2), .val (.int (1 : Int32)), .val (.int (1 : Int32)), .val (.int (p2 - p3)), .val (.int (p2 - p2)), .unset, .unset] [(.int (p2 - p2)), (.int (p2 - p3)), (.int p2), (.ref a1)])) rfl (by rw [hml]; rfl) (argsL := [(.ref a1), (.int p2), (.int (p2 - p3)), (.int (p2 - p2))]) (rest := []) (lenOf pd_12_12 rfl) rfl (by show 2 * 0 + _ ≤ _; exact Nat.le_of_eq rfl) (hb hby d12_107) (fun _ _ => ⟨rfl, e0, (by decide : 0 + 0 ≤ _), (by decide : 0 + 0 ≤ _)⟩)
  dsimp only [Pt.U, Pt.locs, Pt.cells, Pt.slots] at X4 l4 y4 z4 st4 hQ4
  subst l4 y4 z4
  obtain ⟨rfl, N4q, eh4⟩ := hQ4
  have N4 := Fr.app N0 N4q
  obtain ⟨fs, hr, hrun, hended, hW, hsame⟩ := X4.leave (v := some (.int (p2 - ((p2 - p3) - (0 : Int32))))) (fun h => by rw [Bd.returns] at h; cases h)
  refine ⟨_, _, pre0 _ ?_, hrun, hended, _, _, rfl, ?_, ⟨_, rfl⟩, hW, hsame.mono (by decide) (by decide)⟩
  · show Steps _ _ _ (s₁.setTop (mkF m 0 #[.val (.ref a1), .val (.int p2), .val (.int p3), .val (.int p2), .unset, .unset, .unset, .unset, .unset, .unset] [])) _
    refine XS.iloadN X0.here hx rfl (hb hby d12_0) rfl ?_
    refine XS.ifNo X0.here hx rfl (hb hby d12_1) rfl ((if0 _ _).trans (flt hc1).1) ?_
    refine XS.iloadN X0.here hx rfl (hb hby d12_4) rfl ?_
    refine XS.ifNo X0.here hx rfl (hb hby d12_5) rfl ((if0 _ _).trans (flt hc5).1) ?_
    refine XS.iloadN X0.here hx rfl (hb hby d12_8) rfl ?_
    refine XS.iloadN X0.here hx rfl (hb hby d12_9) rfl ?_
    refine XS.icmpNo X0.here hx rfl (hb hby d12_10) rfl (flt hc10).2.2.1 ?_
    refine XS.iloadN X0.here hx rfl (hb hby d12_13) rfl ?_
    refine XS.ifNo X0.here hx rfl (hb hby d12_14) rfl ((if0 _ _).trans (flt hc14).1) ?_
    refine XS.iloadN X0.here hx rfl (hb hby d12_17) rfl ?_
    refine XS.iloadN X0.here hx rfl (hb hby d12_18) rfl ?_
    refine XS.icmpYes X0.here hx rfl (pc0 := 19) (pc' := 38) rfl (hb hby d12_19) rfl (flt hc19).2.2.2 (by decide) (by decide) ?_
    refine XS.iloadN X0.here hx rfl (hb hby d12_38) rfl ?_
    refine XS.iloadN X0.here hx rfl (hb hby d12_39) rfl ?_
    refine XS.iloadN X0.here hx rfl (hb hby d12_40) rfl ?_
    refine XS.isub X0.here hx rfl (hb hby d12_41) rfl ?_
    refine XS.icmpNo X0.here hx rfl (hb hby d12_42) rfl (tlt hc42).2.2.2 ?_
    refine XS.iconst X0.here hx rfl (hb hby d12_45) ?_
    refine XS.goto X0.here hx rfl (pc0 := 46) (pc' := 50) rfl (hb hby d12_46) (by decide) (by decide) ?_
    refine XS.istore X0.here hx rfl (hb hby d12_50) rfl (l' := #[.val (.ref a1), .val (.int p2), .val (.int p3), .val (.int p2), .val (.int (1 : Int32)), .unset, .unset, .unset, .unset, .unset]) rfl ?_
    refine XS.iloadN X0.here hx rfl (hb hby d12_52) rfl ?_
    refine XS.iloadN X0.here hx rfl (hb hby d12_53) rfl ?_
    refine XS.iloadN X0.here hx rfl (hb hby d12_54) rfl ?_
    refine XS.isub X0.here hx rfl (hb hby d12_55) rfl ?_
    refine XS.icmpNo X0.here hx rfl (hb hby d12_56) rfl (tlt hc56).2.2.2 ?_
    refine XS.iconst X0.here hx rfl (hb hby d12_59) ?_
    refine XS.goto X0.here hx rfl (pc0 := 60) (pc' := 64) rfl (hb hby d12_60) (by decide) (by decide) ?_
    refine XS.istore X0.here hx rfl (hb hby d12_64) rfl (l' := #[.val (.ref a1), .val (.int p2), .val (.int p3), .val (.int p2), .val (.int (1 : Int32)), .val (.int (1 : Int32)), .unset, .unset, .unset, .unset]) rfl ?_
    refine XS.iload X0.here hx rfl (hb hby d12_66) rfl ?_
    refine XS.ifNo X0.here hx rfl (hb hby d12_68) rfl ((if0 _ _).trans (feq (by decide : ¬ ((1 : Int32) = (0 : Int32)))).1) ?_
    refine XS.iloadN X0.here hx rfl (hb hby d12_71) rfl ?_
    refine XS.iloadN X0.here hx rfl (hb hby d12_72) rfl ?_
    refine XS.isub X0.here hx rfl (hb hby d12_73) rfl ?_
    refine XS.goto X0.here hx rfl (pc0 := 74) (pc' := 78) rfl (hb hby d12_74) (by decide) (by decide) ?_
    refine XS.istore X0.here hx rfl (hb hby d12_78) rfl (l' := #[.val (.ref a1), .val (.int p2), .val (.int p3), .val (.int p2), .val (.int (1 : Int32)), .val (.int (1 : Int32)), .val (.int (p2 - p3)), .unset, .unset, .unset]) rfl ?_
    refine XS.iload X0.here hx rfl (hb hby d12_80) rfl ?_
    refine XS.ifNo X0.here hx rfl (hb hby d12_82) rfl ((if0 _ _).trans (feq (by decide : ¬ ((1 : Int32) = (0 : Int32)))).1) ?_
    refine XS.iloadN X0.here hx rfl (hb hby d12_85) rfl ?_
    refine XS.iloadN X0.here hx rfl (hb hby d12_86) rfl ?_
    refine XS.isub X0.here hx rfl (hb hby d12_87) rfl ?_
    refine XS.goto X0.here hx rfl (pc0 := 88) (pc' := 92) rfl (hb hby d12_88) (by decide) (by decide) ?_
    refine XS.istore X0.here hx rfl (hb hby d12_92) rfl (l' := #[.val (.ref a1), .val (.int p2), .val (.int p3), .val (.int p2), .val (.int (1 : Int32)), .val (.int (1 : Int32)), .val (.int (p2 - p3)), .val (.int (p2 - p2)), .unset, .unset]) rfl ?_
    refine XS.iload X0.here hx rfl (hb hby d12_94) rfl ?_
    refine XS.iload X0.here hx rfl (hb hby d12_96) rfl ?_
    refine XS.icmpNo X0.here hx rfl (hb hby d12_98) rfl (flt hc98).2.2.1 ?_
    refine XS.aloadN X0.here hx rfl (hb hby d12_101) rfl rfl ?_
    refine XS.iloadN X0.here hx rfl (hb hby d12_102) rfl ?_
    refine XS.iload X0.here hx rfl (hb hby d12_103) rfl ?_
    refine XS.iload X0.here hx rfl (hb hby d12_105) rfl ?_
    refine st4 _ ?_
    refine XS.goto X4.here hx rfl (pc0 := 110) (pc' := 122) rfl (hb hby d12_110) (by decide) (by decide) ?_
    refine XS.istore X4.here hx rfl (hb hby d12_122) rfl (l' := #[.val (.ref a1), .val (.int p2), .val (.int p3), .val (.int p2), .val (.int (1 : Int32)), .val (.int (1 : Int32)), .val (.int (p2 - p3)), .val (.int (p2 - p2)), .val (.int (0 : Int32)), .unset]) rfl ?_
    refine XS.iload X4.here hx rfl (hb hby d12_124) rfl ?_
    refine XS.ifNo X4.here hx rfl (hb hby d12_126) rfl ((if0 _ _).trans (feq (by decide : ¬ ((1 : Int32) = (0 : Int32)))).1) ?_
    refine XS.iload X4.here hx rfl (hb hby d12_129) rfl ?_
    refine XS.iload X4.here hx rfl (hb hby d12_131) rfl ?_
    refine XS.isub X4.here hx rfl (hb hby d12_133) rfl ?_
    refine XS.goto X4.here hx rfl (pc0 := 134) (pc' := 139) rfl (hb hby d12_134) (by decide) (by decide) ?_
    refine XS.istore X4.here hx rfl (hb hby d12_139) rfl (l' := #[.val (.ref a1), .val (.int p2), .val (.int p3), .val (.int p2), .val (.int (1 : Int32)), .val (.int (1 : Int32)), .val (.int (p2 - p3)), .val (.int (p2 - p2)), .val (.int (0 : Int32)), .val (.int ((p2 - p3) - (0 : Int32)))]) rfl ?_
    refine XS.iload X4.here hx rfl (hb hby d12_141) rfl ?_
    refine XS.ifNo X4.here hx rfl (hb hby d12_143) rfl ((if0 _ _).trans (feq (by decide : ¬ ((1 : Int32) = (0 : Int32)))).1) ?_
    refine XS.iloadN X4.here hx rfl (hb hby d12_146) rfl ?_
    refine XS.iload X4.here hx rfl (hb hby d12_147) rfl ?_
    refine XS.isub X4.here hx rfl (hb hby d12_149) rfl ?_
    refine XS.goto X4.here hx rfl (pc0 := 150) (pc' := 155) rfl (hb hby d12_150) (by decide) (by decide) ?_
    exact retI X4 hx Bd.returns (hb hby d12_155) hr
  · show Q12_A Z a1 p2 p3 h0 n0 _ T4.heap _
    rw [eh4]
    exact ⟨congrArg (fun x => some (Value.int x)) (own_hA p2 p3), N4, rfl⟩
theorem d12_49 : decode prog_61_method_2_code 49 = .ok (.iconst 0, 1) := by decide +kernel
theorem d12_77 : decode prog_61_method_2_code 77 = .ok (.iload_n 2, 1) := by decide +kernel
theorem d12_153 : decode prog_61_method_2_code 153 = .ok (.iload 9, 2) := by decide +kernel
theorem ef_12_B (m : MethodId) (x0 : Addr) (x1 : Int32) (x2 : Int32) (x3 : Int32) : entryFrame m #[(.ref x0), (.int x1), (.int x2), (.int x1)] 10 = mkF m 0 #[.val (.ref x0), .val (.int x1), .val (.int x2), .val (.int x1), .unset, .unset, .unset, .unset, .unset, .unset] [] := by first | (simp [entryFrame, mkF, argsToLocals, Value.category]; done) | rfl
def Q12_B (Z : State) (a1 : Addr) (p2 : Int32) (p3 : Int32) (h0 : Heap) (n0 : Nat) (v : Option Value) (h : Heap) (L : List Loc) : Prop := own_Qc p3 h0 n0 v h L
set_option maxRecDepth 65536 in
set_option maxHeartbeats 40000000 in
theorem rm12_B (l : Launch) (Z : State) (a0 : Array Value) (hw : ∀ d ∈ tables_1, d.before a0 Z = true) (ws : List Jvm.Cond) (a1 : Addr) (p2 : Int32) (p3 : Int32) (h0 : Heap) (n0 : Nat) (Z0 : n0 ≤ h0.size) (hc1 : ¬ (p2 < (0 : Int32))) (hc5 : ¬ (p3 < (0 : Int32))) (hc10 : ¬ (p2 < p3)) (hc14 : ¬ (p2 < (0 : Int32))) (hc19 : ¬ (p2 < p2)) (hc42 : ¬ ((p2 - p3) < p3)) (hc56 : (p2 - p2) < p2) (hc98 : ¬ (p3 < (p2 - p2))) :
    MetFree l (⟨"com/example/binario/binario/rules/Hypergeometric", "draw", "(Lcom/example/binario/binario/rules/SeededRandom;III)I"⟩ : MethodName) (head1 (Jvm.Cond.code (⟨"com/example/binario/binario/rules/Hypergeometric", "draw", "(Lcom/example/binario/binario/rules/SeededRandom;III)I"⟩ : MethodName) prog_61_method_2_code 10 (some .int) :: ws) ({ frames := 1, cells := 0, slots := 0, locals := 40 } : Room)) (fun a U => a = #[(.ref a1), (.int p2), (.int p3), (.int p2)] ∧ Z.Warmed39 U.vm ∧ U.heap = h0) (fun _ _ _ _ _ => True) (fun _ U o U' => ∃ v L, o = .returned v ∧ Q12_B Z a1 p2 p3 h0 n0 v U'.heap L ∧ FrameEnd U o U' L ({ frames := 1, cells := 0, slots := 0, locals := 40 } : Room).cells ({ frames := 1, cells := 0, slots := 0, locals := 40 } : Room).slots) := by
  refine MetFree.of_bodySF (plainFor_of_name pn_12) hisR ?_
  intro p e s m args below meth c s₁ Bd hml0 hP hK
  obtain ⟨rfl, hZ, hh⟩ := hP
  have hx := Bd.exec
  have hby := Bd.bytes
  have hml : c.maxLocals = 10 := hml0
  have hown : s.vm.findClass "com/example/binario/binario/rules/Hypergeometric" = some m.cls := findClass_of_methodNamed Bd.named
  have hnm := (name_of_methodNamed Bd.named Bd.method).1
  have X0 : Stand p l e ({ frames := 1, cells := 0, slots := 0, locals := 40 } : Room) s m #[(.ref a1), (.int p2), (.int p3), (.int p2)] below meth c s₁ [] 0 0 := Stand.of_body Bd
  have e0 : s₁.heap = h0 := by rw [← hh, Bd.state]; rfl
  have N0 := Fr.nil n0
  have pre0 : ∀ t, Steps p.tables e below (s₁.setTop (mkF m 0 #[.val (.ref a1), .val (.int p2), .val (.int p3), .val (.int p2), .unset, .unset, .unset, .unset, .unset, .unset] [])) t → Steps p.tables e below (s₁.setTop (entryFrame m #[(.ref a1), (.int p2), (.int p3), (.int p2)] 10)) t := fun t k => castTop (ef_12_B m a1 p2 p3 p2) k

  obtain ⟨_, _, ⟨T4, L4, k4, n4⟩, -, X4, ⟨Lc4, hQ4, l4, y4, z4⟩, st4⟩ := Jvm.LawKit.callS X0 hx (y := (⟨"com/example/binario/binario/rules/Hypergeometric", "count", "(Lcom/example/binario/binario/rules/SeededRandom;III)I"⟩ : MethodName)) hown (mvT hZ (ww hw 77 rfl)) (mvT hZ (ww hw 78 rfl)) (mvT hZ (ww hw 75 rfl)) (mvT hZ (ww hw 79 rfl)) (by decide) (backOf (W := 0) (rm13 l Z a0 hw [] a1 p2 p3 (p2 - p2)  h0 n0 Z0 (by rw [own_ss]; decide) (by rw [own_ss]; decide)) hZ (ww hw 79 rfl) (ww hw 75 rfl) (by decide) (by decide)) (g := (mkF m 107 #[.val (.ref a1), .val (.int p2), .val (.int p3), .val (.int p2), .val (.int (0 : Int32)), .val (.int (1 : Int32)), .val (.int p3), .val (.int (p2 - p2)), .unset, .unset] [(.int (p2 - p2)), (.int p3), (.int p2), (.ref a1)])) rfl (by rw [hml]; rfl) (argsL := [(.ref a1), (.int p2), (.int p3), (.int (p2 - p2))]) (rest := []) (lenOf pd_12_12 rfl) rfl (by show 2 * 0 + _ ≤ _; exact Nat.le_of_eq rfl) (hb hby d12_107) (fun _ _ => ⟨rfl, e0, (by decide : 0 + 0 ≤ _), (by decide : 0 + 0 ≤ _)⟩)
  dsimp only [Pt.U, Pt.locs, Pt.cells, Pt.slots] at X4 l4 y4 z4 st4 hQ4
  subst l4 y4 z4
  obtain ⟨rfl, N4q, eh4⟩ := hQ4
  have N4 := Fr.app N0 N4q
  obtain ⟨fs, hr, hrun, hended, hW, hsame⟩ := X4.leave (v := some (.int (p3 - (0 : Int32)))) (fun h => by rw [Bd.returns] at h; cases h)
  refine ⟨_, _, pre0 _ ?_, hrun, hended, _, _, rfl, ?_, ⟨_, rfl⟩, hW, hsame.mono (by decide) (by decide)⟩
  · show Steps _ _ _ (s₁.setTop (mkF m 0 #[.val (.ref a1), .val (.int p2), .val (.int p3), .val (.int p2), .unset, .unset, .unset, .unset, .unset, .unset] [])) _
    refine XS.iloadN X0.here hx rfl (hb hby d12_0) rfl ?_
    refine XS.ifNo X0.here hx rfl (hb hby d12_1) rfl ((if0 _ _).trans (flt hc1).1) ?_
    refine XS.iloadN X0.here hx rfl (hb hby d12_4) rfl ?_
    refine XS.ifNo X0.here hx rfl (hb hby d12_5) rfl ((if0 _ _).trans (flt hc5).1) ?_
    refine XS.iloadN X0.here hx rfl (hb hby d12_8) rfl ?_
    refine XS.iloadN X0.here hx rfl (hb hby d12_9) rfl ?_
    refine XS.icmpNo X0.here hx rfl (hb hby d12_10) rfl (flt hc10).2.2.1 ?_
    refine XS.iloadN X0.here hx rfl (hb hby d12_13) rfl ?_
    refine XS.ifNo X0.here hx rfl (hb hby d12_14) rfl ((if0 _ _).trans (flt hc14).1) ?_
    refine XS.iloadN X0.here hx rfl (hb hby d12_17) rfl ?_
    refine XS.iloadN X0.here hx rfl (hb hby d12_18) rfl ?_
    refine XS.icmpYes X0.here hx rfl (pc0 := 19) (pc' := 38) rfl (hb hby d12_19) rfl (flt hc19).2.2.2 (by decide) (by decide) ?_
    refine XS.iloadN X0.here hx rfl (hb hby d12_38) rfl ?_
    refine XS.iloadN X0.here hx rfl (hb hby d12_39) rfl ?_
    refine XS.iloadN X0.here hx rfl (hb hby d12_40) rfl ?_
    refine XS.isub X0.here hx rfl (hb hby d12_41) rfl ?_
    refine XS.icmpYes X0.here hx rfl (pc0 := 42) (pc' := 49) rfl (hb hby d12_42) rfl (flt hc42).2.2.2 (by decide) (by decide) ?_
    refine XS.iconst X0.here hx rfl (hb hby d12_49) ?_
    refine XS.istore X0.here hx rfl (hb hby d12_50) rfl (l' := #[.val (.ref a1), .val (.int p2), .val (.int p3), .val (.int p2), .val (.int (0 : Int32)), .unset, .unset, .unset, .unset, .unset]) rfl ?_
    refine XS.iloadN X0.here hx rfl (hb hby d12_52) rfl ?_
    refine XS.iloadN X0.here hx rfl (hb hby d12_53) rfl ?_
    refine XS.iloadN X0.here hx rfl (hb hby d12_54) rfl ?_
    refine XS.isub X0.here hx rfl (hb hby d12_55) rfl ?_
    refine XS.icmpNo X0.here hx rfl (hb hby d12_56) rfl (tlt hc56).2.2.2 ?_
    refine XS.iconst X0.here hx rfl (hb hby d12_59) ?_
    refine XS.goto X0.here hx rfl (pc0 := 60) (pc' := 64) rfl (hb hby d12_60) (by decide) (by decide) ?_
    refine XS.istore X0.here hx rfl (hb hby d12_64) rfl (l' := #[.val (.ref a1), .val (.int p2), .val (.int p3), .val (.int p2), .val (.int (0 : Int32)), .val (.int (1 : Int32)), .unset, .unset, .unset, .unset]) rfl ?_
    refine XS.iload X0.here hx rfl (hb hby d12_66) rfl ?_
    refine XS.ifYes X0.here hx rfl (pc0 := 68) (pc' := 77) rfl (hb hby d12_68) rfl ((if0 _ _).trans (teq (by decide : (0 : Int32) = (0 : Int32))).1) (by decide) (by decide) ?_
    refine XS.iloadN X0.here hx rfl (hb hby d12_77) rfl ?_
    refine XS.istore X0.here hx rfl (hb hby d12_78) rfl (l' := #[.val (.ref a1), .val (.int p2), .val (.int p3), .val (.int p2), .val (.int (0 : Int32)), .val (.int (1 : Int32)), .val (.int p3), .unset, .unset, .unset]) rfl ?_
    refine XS.iload X0.here hx rfl (hb hby d12_80) rfl ?_
    refine XS.ifNo X0.here hx rfl (hb hby d12_82) rfl ((if0 _ _).trans (feq (by decide : ¬ ((1 : Int32) = (0 : Int32)))).1) ?_
    refine XS.iloadN X0.here hx rfl (hb hby d12_85) rfl ?_
    refine XS.iloadN X0.here hx rfl (hb hby d12_86) rfl ?_
    refine XS.isub X0.here hx rfl (hb hby d12_87) rfl ?_
    refine XS.goto X0.here hx rfl (pc0 := 88) (pc' := 92) rfl (hb hby d12_88) (by decide) (by decide) ?_
    refine XS.istore X0.here hx rfl (hb hby d12_92) rfl (l' := #[.val (.ref a1), .val (.int p2), .val (.int p3), .val (.int p2), .val (.int (0 : Int32)), .val (.int (1 : Int32)), .val (.int p3), .val (.int (p2 - p2)), .unset, .unset]) rfl ?_
    refine XS.iload X0.here hx rfl (hb hby d12_94) rfl ?_
    refine XS.iload X0.here hx rfl (hb hby d12_96) rfl ?_
    refine XS.icmpNo X0.here hx rfl (hb hby d12_98) rfl (flt hc98).2.2.1 ?_
    refine XS.aloadN X0.here hx rfl (hb hby d12_101) rfl rfl ?_
    refine XS.iloadN X0.here hx rfl (hb hby d12_102) rfl ?_
    refine XS.iload X0.here hx rfl (hb hby d12_103) rfl ?_
    refine XS.iload X0.here hx rfl (hb hby d12_105) rfl ?_
    refine st4 _ ?_
    refine XS.goto X4.here hx rfl (pc0 := 110) (pc' := 122) rfl (hb hby d12_110) (by decide) (by decide) ?_
    refine XS.istore X4.here hx rfl (hb hby d12_122) rfl (l' := #[.val (.ref a1), .val (.int p2), .val (.int p3), .val (.int p2), .val (.int (0 : Int32)), .val (.int (1 : Int32)), .val (.int p3), .val (.int (p2 - p2)), .val (.int (0 : Int32)), .unset]) rfl ?_
    refine XS.iload X4.here hx rfl (hb hby d12_124) rfl ?_
    refine XS.ifNo X4.here hx rfl (hb hby d12_126) rfl ((if0 _ _).trans (feq (by decide : ¬ ((1 : Int32) = (0 : Int32)))).1) ?_
    refine XS.iload X4.here hx rfl (hb hby d12_129) rfl ?_
    refine XS.iload X4.here hx rfl (hb hby d12_131) rfl ?_
    refine XS.isub X4.here hx rfl (hb hby d12_133) rfl ?_
    refine XS.goto X4.here hx rfl (pc0 := 134) (pc' := 139) rfl (hb hby d12_134) (by decide) (by decide) ?_
    refine XS.istore X4.here hx rfl (hb hby d12_139) rfl (l' := #[.val (.ref a1), .val (.int p2), .val (.int p3), .val (.int p2), .val (.int (0 : Int32)), .val (.int (1 : Int32)), .val (.int p3), .val (.int (p2 - p2)), .val (.int (0 : Int32)), .val (.int (p3 - (0 : Int32)))]) rfl ?_
    refine XS.iload X4.here hx rfl (hb hby d12_141) rfl ?_
    refine XS.ifYes X4.here hx rfl (pc0 := 143) (pc' := 153) rfl (hb hby d12_143) rfl ((if0 _ _).trans (teq (by decide : (0 : Int32) = (0 : Int32))).1) (by decide) (by decide) ?_
    refine XS.iload X4.here hx rfl (hb hby d12_153) rfl ?_
    exact retI X4 hx Bd.returns (hb hby d12_155) hr
  · show Q12_B Z a1 p2 p3 h0 n0 _ T4.heap _
    rw [eh4]
    exact ⟨congrArg (fun x => some (Value.int x)) (Int32.sub_zero p3), N4, rfl⟩
theorem d12_63 : decode prog_61_method_2_code 63 = .ok (.iconst 0, 1) := by decide +kernel
theorem d12_91 : decode prog_61_method_2_code 91 = .ok (.iload_n 3, 1) := by decide +kernel
theorem d12_137 : decode prog_61_method_2_code 137 = .ok (.iload 8, 2) := by decide +kernel
theorem ef_12_C (m : MethodId) (x0 : Addr) (x1 : Int32) (x2 : Int32) (x3 : Int32) : entryFrame m #[(.ref x0), (.int x1), (.int x2), (.int x1)] 10 = mkF m 0 #[.val (.ref x0), .val (.int x1), .val (.int x2), .val (.int x1), .unset, .unset, .unset, .unset, .unset, .unset] [] := by first | (simp [entryFrame, mkF, argsToLocals, Value.category]; done) | rfl
def Q12_C (Z : State) (a1 : Addr) (p2 : Int32) (p3 : Int32) (h0 : Heap) (n0 : Nat) (v : Option Value) (h : Heap) (L : List Loc) : Prop := own_Qc p3 h0 n0 v h L
set_option maxRecDepth 65536 in
set_option maxHeartbeats 40000000 in
theorem rm12_C (l : Launch) (Z : State) (a0 : Array Value) (hw : ∀ d ∈ tables_1, d.before a0 Z = true) (ws : List Jvm.Cond) (a1 : Addr) (p2 : Int32) (p3 : Int32) (h0 : Heap) (n0 : Nat) (Z0 : n0 ≤ h0.size) (hC : ¬ (0 : Int32) < p2) (hc1 : ¬ (p2 < (0 : Int32))) (hc5 : ¬ (p3 < (0 : Int32))) (hc10 : ¬ (p2 < p3)) (hc14 : ¬ (p2 < (0 : Int32))) (hc19 : ¬ (p2 < p2)) (hc42 : ¬ ((p2 - p3) < p3)) (hc56 : ¬ ((p2 - p2) < p2)) (hc98 : ¬ (p3 < p2)) :
    MetFree l (⟨"com/example/binario/binario/rules/Hypergeometric", "draw", "(Lcom/example/binario/binario/rules/SeededRandom;III)I"⟩ : MethodName) (head1 (Jvm.Cond.code (⟨"com/example/binario/binario/rules/Hypergeometric", "draw", "(Lcom/example/binario/binario/rules/SeededRandom;III)I"⟩ : MethodName) prog_61_method_2_code 10 (some .int) :: ws) ({ frames := 1, cells := 0, slots := 0, locals := 40 } : Room)) (fun a U => a = #[(.ref a1), (.int p2), (.int p3), (.int p2)] ∧ Z.Warmed39 U.vm ∧ U.heap = h0) (fun _ _ _ _ _ => True) (fun _ U o U' => ∃ v L, o = .returned v ∧ Q12_C Z a1 p2 p3 h0 n0 v U'.heap L ∧ FrameEnd U o U' L ({ frames := 1, cells := 0, slots := 0, locals := 40 } : Room).cells ({ frames := 1, cells := 0, slots := 0, locals := 40 } : Room).slots) := by
  refine MetFree.of_bodySF (plainFor_of_name pn_12) hisR ?_
  intro p e s m args below meth c s₁ Bd hml0 hP hK
  obtain ⟨rfl, hZ, hh⟩ := hP
  have hx := Bd.exec
  have hby := Bd.bytes
  have hml : c.maxLocals = 10 := hml0
  have hown : s.vm.findClass "com/example/binario/binario/rules/Hypergeometric" = some m.cls := findClass_of_methodNamed Bd.named
  have hnm := (name_of_methodNamed Bd.named Bd.method).1
  have X0 : Stand p l e ({ frames := 1, cells := 0, slots := 0, locals := 40 } : Room) s m #[(.ref a1), (.int p2), (.int p3), (.int p2)] below meth c s₁ [] 0 0 := Stand.of_body Bd
  have e0 : s₁.heap = h0 := by rw [← hh, Bd.state]; rfl
  have N0 := Fr.nil n0
  have pre0 : ∀ t, Steps p.tables e below (s₁.setTop (mkF m 0 #[.val (.ref a1), .val (.int p2), .val (.int p3), .val (.int p2), .unset, .unset, .unset, .unset, .unset, .unset] [])) t → Steps p.tables e below (s₁.setTop (entryFrame m #[(.ref a1), (.int p2), (.int p3), (.int p2)] 10)) t := fun t k => castTop (ef_12_C m a1 p2 p3 p2) k

  obtain ⟨_, _, ⟨T4, L4, k4, n4⟩, -, X4, ⟨Lc4, hQ4, l4, y4, z4⟩, st4⟩ := Jvm.LawKit.callS X0 hx (y := (⟨"com/example/binario/binario/rules/Hypergeometric", "count", "(Lcom/example/binario/binario/rules/SeededRandom;III)I"⟩ : MethodName)) hown (mvT hZ (ww hw 77 rfl)) (mvT hZ (ww hw 78 rfl)) (mvT hZ (ww hw 75 rfl)) (mvT hZ (ww hw 79 rfl)) (by decide) (backOf (W := 0) (rm13 l Z a0 hw [] a1 p2 p3 p2  h0 n0 Z0 (own_32 hC) (hC)) hZ (ww hw 79 rfl) (ww hw 75 rfl) (by decide) (by decide)) (g := (mkF m 107 #[.val (.ref a1), .val (.int p2), .val (.int p3), .val (.int p2), .val (.int (0 : Int32)), .val (.int (0 : Int32)), .val (.int p3), .val (.int p2), .unset, .unset] [(.int p2), (.int p3), (.int p2), (.ref a1)])) rfl (by rw [hml]; rfl) (argsL := [(.ref a1), (.int p2), (.int p3), (.int p2)]) (rest := []) (lenOf pd_12_12 rfl) rfl (by show 2 * 0 + _ ≤ _; exact Nat.le_of_eq rfl) (hb hby d12_107) (fun _ _ => ⟨rfl, e0, (by decide : 0 + 0 ≤ _), (by decide : 0 + 0 ≤ _)⟩)
  dsimp only [Pt.U, Pt.locs, Pt.cells, Pt.slots] at X4 l4 y4 z4 st4 hQ4
  subst l4 y4 z4
  obtain ⟨rfl, N4q, eh4⟩ := hQ4
  have N4 := Fr.app N0 N4q
  obtain ⟨fs, hr, hrun, hended, hW, hsame⟩ := X4.leave (v := some (.int (0 : Int32))) (fun h => by rw [Bd.returns] at h; cases h)
  refine ⟨_, _, pre0 _ ?_, hrun, hended, _, _, rfl, ?_, ⟨_, rfl⟩, hW, hsame.mono (by decide) (by decide)⟩
  · show Steps _ _ _ (s₁.setTop (mkF m 0 #[.val (.ref a1), .val (.int p2), .val (.int p3), .val (.int p2), .unset, .unset, .unset, .unset, .unset, .unset] [])) _
    refine XS.iloadN X0.here hx rfl (hb hby d12_0) rfl ?_
    refine XS.ifNo X0.here hx rfl (hb hby d12_1) rfl ((if0 _ _).trans (flt hc1).1) ?_
    refine XS.iloadN X0.here hx rfl (hb hby d12_4) rfl ?_
    refine XS.ifNo X0.here hx rfl (hb hby d12_5) rfl ((if0 _ _).trans (flt hc5).1) ?_
    refine XS.iloadN X0.here hx rfl (hb hby d12_8) rfl ?_
    refine XS.iloadN X0.here hx rfl (hb hby d12_9) rfl ?_
    refine XS.icmpNo X0.here hx rfl (hb hby d12_10) rfl (flt hc10).2.2.1 ?_
    refine XS.iloadN X0.here hx rfl (hb hby d12_13) rfl ?_
    refine XS.ifNo X0.here hx rfl (hb hby d12_14) rfl ((if0 _ _).trans (flt hc14).1) ?_
    refine XS.iloadN X0.here hx rfl (hb hby d12_17) rfl ?_
    refine XS.iloadN X0.here hx rfl (hb hby d12_18) rfl ?_
    refine XS.icmpYes X0.here hx rfl (pc0 := 19) (pc' := 38) rfl (hb hby d12_19) rfl (flt hc19).2.2.2 (by decide) (by decide) ?_
    refine XS.iloadN X0.here hx rfl (hb hby d12_38) rfl ?_
    refine XS.iloadN X0.here hx rfl (hb hby d12_39) rfl ?_
    refine XS.iloadN X0.here hx rfl (hb hby d12_40) rfl ?_
    refine XS.isub X0.here hx rfl (hb hby d12_41) rfl ?_
    refine XS.icmpYes X0.here hx rfl (pc0 := 42) (pc' := 49) rfl (hb hby d12_42) rfl (flt hc42).2.2.2 (by decide) (by decide) ?_
    refine XS.iconst X0.here hx rfl (hb hby d12_49) ?_
    refine XS.istore X0.here hx rfl (hb hby d12_50) rfl (l' := #[.val (.ref a1), .val (.int p2), .val (.int p3), .val (.int p2), .val (.int (0 : Int32)), .unset, .unset, .unset, .unset, .unset]) rfl ?_
    refine XS.iloadN X0.here hx rfl (hb hby d12_52) rfl ?_
    refine XS.iloadN X0.here hx rfl (hb hby d12_53) rfl ?_
    refine XS.iloadN X0.here hx rfl (hb hby d12_54) rfl ?_
    refine XS.isub X0.here hx rfl (hb hby d12_55) rfl ?_
    refine XS.icmpYes X0.here hx rfl (pc0 := 56) (pc' := 63) rfl (hb hby d12_56) rfl (flt hc56).2.2.2 (by decide) (by decide) ?_
    refine XS.iconst X0.here hx rfl (hb hby d12_63) ?_
    refine XS.istore X0.here hx rfl (hb hby d12_64) rfl (l' := #[.val (.ref a1), .val (.int p2), .val (.int p3), .val (.int p2), .val (.int (0 : Int32)), .val (.int (0 : Int32)), .unset, .unset, .unset, .unset]) rfl ?_
    refine XS.iload X0.here hx rfl (hb hby d12_66) rfl ?_
    refine XS.ifYes X0.here hx rfl (pc0 := 68) (pc' := 77) rfl (hb hby d12_68) rfl ((if0 _ _).trans (teq (by decide : (0 : Int32) = (0 : Int32))).1) (by decide) (by decide) ?_
    refine XS.iloadN X0.here hx rfl (hb hby d12_77) rfl ?_
    refine XS.istore X0.here hx rfl (hb hby d12_78) rfl (l' := #[.val (.ref a1), .val (.int p2), .val (.int p3), .val (.int p2), .val (.int (0 : Int32)), .val (.int (0 : Int32)), .val (.int p3), .unset, .unset, .unset]) rfl ?_
    refine XS.iload X0.here hx rfl (hb hby d12_80) rfl ?_
    refine XS.ifYes X0.here hx rfl (pc0 := 82) (pc' := 91) rfl (hb hby d12_82) rfl ((if0 _ _).trans (teq (by decide : (0 : Int32) = (0 : Int32))).1) (by decide) (by decide) ?_
    refine XS.iloadN X0.here hx rfl (hb hby d12_91) rfl ?_
    refine XS.istore X0.here hx rfl (hb hby d12_92) rfl (l' := #[.val (.ref a1), .val (.int p2), .val (.int p3), .val (.int p2), .val (.int (0 : Int32)), .val (.int (0 : Int32)), .val (.int p3), .val (.int p2), .unset, .unset]) rfl ?_
    refine XS.iload X0.here hx rfl (hb hby d12_94) rfl ?_
    refine XS.iload X0.here hx rfl (hb hby d12_96) rfl ?_
    refine XS.icmpNo X0.here hx rfl (hb hby d12_98) rfl (flt hc98).2.2.1 ?_
    refine XS.aloadN X0.here hx rfl (hb hby d12_101) rfl rfl ?_
    refine XS.iloadN X0.here hx rfl (hb hby d12_102) rfl ?_
    refine XS.iload X0.here hx rfl (hb hby d12_103) rfl ?_
    refine XS.iload X0.here hx rfl (hb hby d12_105) rfl ?_
    refine st4 _ ?_
    refine XS.goto X4.here hx rfl (pc0 := 110) (pc' := 122) rfl (hb hby d12_110) (by decide) (by decide) ?_
    refine XS.istore X4.here hx rfl (hb hby d12_122) rfl (l' := #[.val (.ref a1), .val (.int p2), .val (.int p3), .val (.int p2), .val (.int (0 : Int32)), .val (.int (0 : Int32)), .val (.int p3), .val (.int p2), .val (.int (0 : Int32)), .unset]) rfl ?_
    refine XS.iload X4.here hx rfl (hb hby d12_124) rfl ?_
    refine XS.ifYes X4.here hx rfl (pc0 := 126) (pc' := 137) rfl (hb hby d12_126) rfl ((if0 _ _).trans (teq (by decide : (0 : Int32) = (0 : Int32))).1) (by decide) (by decide) ?_
    refine XS.iload X4.here hx rfl (hb hby d12_137) rfl ?_
    refine XS.istore X4.here hx rfl (hb hby d12_139) rfl (l' := #[.val (.ref a1), .val (.int p2), .val (.int p3), .val (.int p2), .val (.int (0 : Int32)), .val (.int (0 : Int32)), .val (.int p3), .val (.int p2), .val (.int (0 : Int32)), .val (.int (0 : Int32))]) rfl ?_
    refine XS.iload X4.here hx rfl (hb hby d12_141) rfl ?_
    refine XS.ifYes X4.here hx rfl (pc0 := 143) (pc' := 153) rfl (hb hby d12_143) rfl ((if0 _ _).trans (teq (by decide : (0 : Int32) = (0 : Int32))).1) (by decide) (by decide) ?_
    refine XS.iload X4.here hx rfl (hb hby d12_153) rfl ?_
    exact retI X4 hx Bd.returns (hb hby d12_155) hr
  · show Q12_C Z a1 p2 p3 h0 n0 _ T4.heap _
    rw [eh4]
    exact ⟨congrArg (fun x => some (Value.int x)) (own_z3 hC hc5 hc10).symm, N4, rfl⟩
theorem rm12 (l : Launch) (Z : State) (a0 : Array Value) (hw : ∀ d ∈ tables_1, d.before a0 Z = true) (ws : List Jvm.Cond) (a1 : Addr) (p2 : Int32) (p3 : Int32) (h0 : Heap) (n0 : Nat) (Z0 : n0 ≤ h0.size) (h1 : ¬ p2 < 0) (h2 : ¬ p3 < 0) (h3 : ¬ p2 < p3) :
    MetFree l (⟨"com/example/binario/binario/rules/Hypergeometric", "draw", "(Lcom/example/binario/binario/rules/SeededRandom;III)I"⟩ : MethodName) (head1 (Jvm.Cond.code (⟨"com/example/binario/binario/rules/Hypergeometric", "draw", "(Lcom/example/binario/binario/rules/SeededRandom;III)I"⟩ : MethodName) prog_61_method_2_code 10 (some .int) :: ws) ({ frames := 1, cells := 0, slots := 0, locals := 40 } : Room)) (fun a U => a = #[(.ref a1), (.int p2), (.int p3), (.int p2)] ∧ Z.Warmed39 U.vm ∧ U.heap = h0) (fun _ _ _ _ _ => True) (fun _ U o U' => ∃ v L, o = .returned v ∧ own_Qc p3 h0 n0 v U'.heap L ∧ FrameEnd U o U' L ({ frames := 1, cells := 0, slots := 0, locals := 40 } : Room).cells ({ frames := 1, cells := 0, slots := 0, locals := 40 } : Room).slots) := by
  by_cases c0 : (0 : Int32) < p2
  · have c1 : (p2 - p2) < p2 := by rw [own_ss]; exact c0
    by_cases c2 : (p2 - p3) < p3
    · exact rm12_A l Z a0 hw ws a1 p2 p3 h0 n0 Z0 h1 h2 h3 h1 own_lk c2 c1 (own_kd2 h2 h3)
    · exact rm12_B l Z a0 hw ws a1 p2 p3 h0 n0 Z0 h1 h2 h3 h1 own_lk c2 c1 (own_kd h2)
  · have e := own_z3 c0 h2 h3
    exact rm12_C l Z a0 hw ws a1 p2 p3 h0 n0 Z0 c0 h1 h2 h3 h1 own_lk (by rw [e, Int32.sub_zero]; exact h1) (by rw [own_ss]; exact c0) (by rw [e]; exact c0)
theorem d10_60 : decode prog_76_method_7_code 60 = .ok (.aload_n 0, 1) := by decide +kernel
theorem d10_61 : decode prog_76_method_7_code 61 = .ok (.invokevirtual 37, 3) := by decide +kernel
theorem d10_64 : decode prog_76_method_7_code 64 = .ok (.bipush 32, 2) := by decide +kernel
theorem d10_66 : decode prog_76_method_7_code 66 = .ok (.lushr, 1) := by decide +kernel
theorem d10_67 : decode prog_76_method_7_code 67 = .ok (.iload_n 1, 1) := by decide +kernel
theorem d10_68 : decode prog_76_method_7_code 68 = .ok (.i2l, 1) := by decide +kernel
theorem d10_69 : decode prog_76_method_7_code 69 = .ok (.lmul, 1) := by decide +kernel
theorem d10_70 : decode prog_76_method_7_code 70 = .ok (.lstore_n 2, 1) := by decide +kernel
theorem d10_71 : decode prog_76_method_7_code 71 = .ok (.goto (-22), 3) := by decide +kernel
theorem pd_10_11 : parseMethodDescriptor "()J" = some ⟨[], some .long⟩ := by decide +kernel
set_option maxRecDepth 65536 in
set_option maxHeartbeats 40000000 in
theorem own_r1 {p : Program} {l : Launch} {e : Env} {s : State} {m : MethodId} {args : Array Value} {below : List Frame} {meth : Method} {c : Code} {T0 : State} {locs : List Loc} {Z : State} {a0 : Array Value} {h0 : Heap} {n0 : Nat} (o0 : Addr) (i1 : Int32) (q2 : Int64) (s4 : Slot) (s5 : Slot) (st : Int64)
    (X0 : Stand p l e ({ frames := 2, cells := 0, slots := 0, locals := 40 } : Room) s m args below meth c T0 locs 0 0) (hx : p.tables.exec = Jvm.exec) (hZ : Z.Warmed39 s.vm) (hw : ∀ d ∈ tables_1, d.before a0 Z = true) (hby : c.code = prog_76_method_7_code) (hml : c.maxLocals = 6) (hown : s.vm.findClass "com/example/binario/binario/rules/SeededRandom" = some m.cls) (e0 : T0.heap = h0) (F_s : Fld Z h0 o0 "com/example/binario/binario/rules/SeededRandom" "state" "J" (.long st)) (E_o0 : Exa Z h0 o0 "com/example/binario/binario/rules/SeededRandom") (Z0 : n0 ≤ h0.size) (N0 : Fr n0 locs) (g_o0 : n0 ≤ o0) :
    ∃ (T' : State) (h' : Heap) (locs' : List Loc) , Stand p l e ({ frames := 2, cells := 0, slots := 0, locals := 40 } : Room) s m args below meth c T' locs' 0 0 ∧ T'.heap = h' ∧ Fr n0 locs' ∧ Keep h0 h' [o0] ∧ Fld Z h' o0 "com/example/binario/binario/rules/SeededRandom" "state" "J" (.long (st + own_G)) ∧
      ∀ target, Steps p.tables e below (T'.setTop (mkF m 49 #[.val (.ref o0), .val (.int i1), .val (.long ((((own_mix (st + own_G)).toUInt64 >>> ((32 : Int32) &&& 0x3f).toInt64.toUInt64).toInt64) * (i1.toInt64))), .second, s4, s5] [])) target → Steps p.tables e below (T0.setTop (mkF m 60 #[.val (.ref o0), .val (.int i1), .val (.long q2), .second, s4, s5] [])) target := by
  obtain ⟨cq3, q3, q3'⟩ := E_o0.cell
  obtain ⟨_, _, ⟨T3, L3, k3, n3⟩, -, X3, ⟨Lc3, hQ3, l3, y3, z3⟩, st3⟩ := X0.privateBack hx (y := (⟨"com/example/binario/binario/rules/SeededRandom", "nextLong", "()J"⟩ : MethodName)) hown (mvT hZ (ww hw 67 rfl)) (mvT hZ (ww hw 68 rfl)) (mvT hZ (own_selp (ww hw 65 rfl) rfl (ww hw 69 rfl) (ww hw 68 rfl) (by decide))) (Cond.privateMethod_at (mvP hZ (ww hw 69 rfl) (args := #[]))) (mvT hZ (ww hw 70 rfl)) (by decide) (backOf (W := 0) (rm11 l Z a0 hw [] o0 _ h0 n0 Z0 F_s E_o0 g_o0) hZ (ww hw 70 rfl) (ww hw 36 rfl) (by decide) (by decide)) (g := (mkF m 61 #[.val (.ref o0), .val (.int i1), .val (.long q2), .second, s4, s5] [(.ref o0)])) rfl (by rw [hml]; rfl) (Steps.refl _) (a := o0) (by rw [e0]; exact q3) q3' (argsL := []) (rest := []) (lenOf pd_10_11 rfl) rfl (by show 2 * 0 + _ ≤ _; exact Nat.le_of_eq rfl) (hb hby d10_61) (fun _ _ => ⟨rfl, e0, (by decide : 0 + 0 ≤ _), (by decide : 0 + 0 ≤ _)⟩)
  dsimp only [Pt.U, Pt.locs, Pt.cells, Pt.slots] at X3 l3 y3 z3 st3 hQ3
  subst l3 y3 z3
  obtain ⟨rfl, N3q, Kc3, Fs3⟩ := hQ3
  have N3 := Fr.app N0 N3q
  have K3 : Keep h0 T3.heap [o0] := (Keep.refl h0 [o0]).trans Kc3 (allS (Or.inl (List.mem_of_getElem? (i := 0) rfl)) all0)
  refine ⟨T3, _, _, X3, rfl, N3, Kc3, Fs3, fun target kt => ?_⟩
  refine XS.aloadN X0.here hx rfl (hb hby d10_60) rfl rfl ?_
  refine st3.trans ?_
  refine XS.bipush X3.here hx rfl (hb hby d10_64) ?_
  refine XS.lushr X3.here hx rfl (hb hby d10_66) rfl ?_
  refine XS.iloadN X3.here hx rfl (hb hby d10_67) rfl ?_
  refine XS.i2l X3.here hx rfl (hb hby d10_68) rfl ?_
  refine XS.lmul X3.here hx rfl (hb hby d10_69) rfl ?_
  refine XS.lstoreN X3.here hx rfl (hb hby d10_70) rfl (l' := #[.val (.ref o0), .val (.int i1), .val (.long ((((own_mix (st + own_G)).toUInt64 >>> ((32 : Int32) &&& 0x3f).toInt64.toUInt64).toInt64) * (i1.toInt64))), .second, s4, s5]) rfl ?_
  refine XS.goto X3.here hx rfl (pc0 := 71) (pc' := 49) rfl (hb hby d10_71) (by decide) (by decide) ?_
  exact kt
theorem d10_49 : decode prog_76_method_7_code 49 = .ok (.lload_n 2, 1) := by decide +kernel
theorem d10_50 : decode prog_76_method_7_code 50 = .ok (.ldc2_w 41, 3) := by decide +kernel
theorem d10_53 : decode prog_76_method_7_code 53 = .ok (.land, 1) := by decide +kernel
theorem d10_54 : decode prog_76_method_7_code 54 = .ok (.lload 4, 2) := by decide +kernel
theorem d10_56 : decode prog_76_method_7_code 56 = .ok (.lcmp, 1) := by decide +kernel
theorem d10_57 : decode prog_76_method_7_code 57 = .ok (.ifCond .ge 17, 3) := by decide +kernel
set_option maxHeartbeats 4000000 in
/-- the turns that nextInt throws away: at last one is kept (the state runs through all the longs) -/
theorem own_rej {p : Program} {l : Launch} {e : Env} {s : State} {m : MethodId} {args : Array Value} {below : List Frame} {meth : Method} {c : Code} {T0 : State} {locs : List Loc} {Z : State} {a0 : Array Value} {h : Heap} {n0 : Nat} (a1 : Addr) (p2 : Int32) (rj : Int64) (st : Int64) (hp : ¬ p2 < 1) (hr : rj.toInt < p2.toInt) (ga : n0 ≤ a1)
    (N : Fr n0 locs) (Zs : n0 ≤ h.size) (F : Fld Z h a1 "com/example/binario/binario/rules/SeededRandom" "state" "J" (.long st)) (E : Exa Z h a1 "com/example/binario/binario/rules/SeededRandom")
    (X0 : Stand p l e ({ frames := 2, cells := 0, slots := 0, locals := 40 } : Room) s m args below meth c T0 locs 0 0) (hx : p.tables.exec = Jvm.exec) (hZ : Z.Warmed39 s.vm) (hw : ∀ d ∈ tables_1, d.before a0 Z = true) (hby : c.code = prog_76_method_7_code) (hml : c.maxLocals = 6) (hown : s.vm.findClass "com/example/binario/binario/rules/SeededRandom" = some m.cls) (e0 : T0.heap = h) :
    ∃ (T' : State) (h' : Heap) (L' : List Loc) (st' : Int64), Stand p l e ({ frames := 2, cells := 0, slots := 0, locals := 40 } : Room) s m args below meth c T' L' 0 0 ∧ T'.heap = h' ∧ Fr n0 L' ∧ Keep h T'.heap [a1] ∧ Fld Z T'.heap a1 "com/example/binario/binario/rules/SeededRandom" "state" "J" (.long st') ∧
      ∀ target, Steps p.tables e below (T'.setTop (mkF m 74 #[.val (.ref a1), .val (.int p2), .val (.long (own_pr st' p2)), .second, .val (.long rj), .second] [])) target → Steps p.tables e below (T0.setTop (mkF m 49 #[.val (.ref a1), .val (.int p2), .val (.long (own_pr st p2)), .second, .val (.long rj), .second] [])) target := by
  have out : ∀ (st : Int64) (T0 : State) (locs : List Loc) (h : Heap), ¬ (own_pr st p2 &&& (4294967295 : Int64)) < rj → Fr n0 locs → Fld Z h a1 "com/example/binario/binario/rules/SeededRandom" "state" "J" (.long st) → Stand p l e ({ frames := 2, cells := 0, slots := 0, locals := 40 } : Room) s m args below meth c T0 locs 0 0 → T0.heap = h →
      ∃ (T' : State) (h' : Heap) (L' : List Loc) (st' : Int64), Stand p l e ({ frames := 2, cells := 0, slots := 0, locals := 40 } : Room) s m args below meth c T' L' 0 0 ∧ T'.heap = h' ∧ Fr n0 L' ∧ Keep h T'.heap [a1] ∧ Fld Z T'.heap a1 "com/example/binario/binario/rules/SeededRandom" "state" "J" (.long st') ∧
        ∀ target, Steps p.tables e below (T'.setTop (mkF m 74 #[.val (.ref a1), .val (.int p2), .val (.long (own_pr st' p2)), .second, .val (.long rj), .second] [])) target → Steps p.tables e below (T0.setTop (mkF m 49 #[.val (.ref a1), .val (.int p2), .val (.long (own_pr st p2)), .second, .val (.long rj), .second] [])) target := by
    intro st T0 locs h q N F X0 e0
    have q' : ¬ (lcmpW (own_pr st p2 &&& (4294967295 : Int64)) rj) < (0 : Int32) := fun z => q ((lw_lt _ _).mp z)
    refine ⟨T0, _, locs, st, X0, rfl, N, by rw [e0]; exact Keep.refl _ _, by rw [e0]; exact F, fun target kt => ?_⟩
    refine XS.lloadN X0.here hx rfl (hb hby d10_49) rfl ?_
    refine X0.ldc2Long hx hown (mvT hZ (ww hw 71 rfl)) (g := (mkF m 50 #[.val (.ref a1), .val (.int p2), .val (.long (own_pr st p2)), .second, .val (.long rj), .second] [.long (own_pr st p2)])) rfl (hb hby d10_50) _ ?_
    refine XS.land X0.here hx rfl (hb hby d10_53) rfl ?_
    refine XS.lload X0.here hx rfl (hb hby d10_54) rfl ?_
    refine XS.lcmp X0.here hx rfl (hb hby d10_56) rfl ?_
    refine XS.ifYes X0.here hx rfl (pc0 := 57) (pc' := 74) rfl (hb hby d10_57) rfl ((if0 _ _).trans (flt q').2.1) (by decide) (by decide) ?_
    exact kt
  generalize hk : own_mu st = k
  induction k generalizing st T0 locs h with
  | zero =>
    have ez := own_mu0 hk
    exact out st T0 locs h (by rw [ez]; exact own_acc hp hr) N F X0 e0
  | succ k ih =>
    by_cases q : (own_pr st p2 &&& (4294967295 : Int64)) < rj
    · have q' : (lcmpW (own_pr st p2 &&& (4294967295 : Int64)) rj) < (0 : Int32) := (lw_lt _ _).mpr q
      obtain ⟨T1, h1, L1, X1, e1, N1, K1, F1, st1⟩ := own_r1 a1 p2 (own_pr st p2) (.val (.long rj)) .second st X0 hx hZ hw hby hml hown e0 F E Zs N ga
      obtain ⟨T2, h2, L2, s2, X2, e2, N2, K2, F2, st2⟩ := ih (st + own_G) N1 (Nat.le_trans Zs K1.1) F1 (E.keep K1) X1 e1 (own_muS hk)
      refine ⟨T2, h2, L2, s2, X2, e2, N2, K1.trans K2 (fun x hx => Or.inl hx), F2, fun target kt => ?_⟩
      refine XS.lloadN X0.here hx rfl (hb hby d10_49) rfl ?_
      refine X0.ldc2Long hx hown (mvT hZ (ww hw 71 rfl)) (g := (mkF m 50 #[.val (.ref a1), .val (.int p2), .val (.long (own_pr st p2)), .second, .val (.long rj), .second] [.long (own_pr st p2)])) rfl (hb hby d10_50) _ ?_
      refine XS.land X0.here hx rfl (hb hby d10_53) rfl ?_
      refine XS.lload X0.here hx rfl (hb hby d10_54) rfl ?_
      refine XS.lcmp X0.here hx rfl (hb hby d10_56) rfl ?_
      refine XS.ifNo X0.here hx rfl (hb hby d10_57) rfl ((if0 _ _).trans (tlt q').2.1) ?_
      refine st1 _ ?_
      exact st2 _ kt
    · exact out st T0 locs h q N F X0 e0
theorem d10_0 : decode prog_76_method_7_code 0 = .ok (.iload_n 1, 1) := by decide +kernel
theorem d10_1 : decode prog_76_method_7_code 1 = .ok (.iconst 1, 1) := by decide +kernel
theorem d10_2 : decode prog_76_method_7_code 2 = .ok (.if_icmp .ge 17, 3) := by decide +kernel
theorem d10_19 : decode prog_76_method_7_code 19 = .ok (.aload_n 0, 1) := by decide +kernel
theorem d10_20 : decode prog_76_method_7_code 20 = .ok (.invokevirtual 37, 3) := by decide +kernel
theorem d10_23 : decode prog_76_method_7_code 23 = .ok (.bipush 32, 2) := by decide +kernel
theorem d10_25 : decode prog_76_method_7_code 25 = .ok (.lushr, 1) := by decide +kernel
theorem d10_26 : decode prog_76_method_7_code 26 = .ok (.iload_n 1, 1) := by decide +kernel
theorem d10_27 : decode prog_76_method_7_code 27 = .ok (.i2l, 1) := by decide +kernel
theorem d10_28 : decode prog_76_method_7_code 28 = .ok (.lmul, 1) := by decide +kernel
theorem d10_29 : decode prog_76_method_7_code 29 = .ok (.lstore_n 2, 1) := by decide +kernel
theorem d10_30 : decode prog_76_method_7_code 30 = .ok (.lload_n 2, 1) := by decide +kernel
theorem d10_31 : decode prog_76_method_7_code 31 = .ok (.ldc2_w 41, 3) := by decide +kernel
theorem d10_34 : decode prog_76_method_7_code 34 = .ok (.land, 1) := by decide +kernel
theorem d10_35 : decode prog_76_method_7_code 35 = .ok (.iload_n 1, 1) := by decide +kernel
theorem d10_36 : decode prog_76_method_7_code 36 = .ok (.i2l, 1) := by decide +kernel
theorem d10_37 : decode prog_76_method_7_code 37 = .ok (.lcmp, 1) := by decide +kernel
theorem d10_38 : decode prog_76_method_7_code 38 = .ok (.ifCond .ge 36, 3) := by decide +kernel
theorem d10_74 : decode prog_76_method_7_code 74 = .ok (.lload_n 2, 1) := by decide +kernel
theorem d10_75 : decode prog_76_method_7_code 75 = .ok (.bipush 32, 2) := by decide +kernel
theorem d10_77 : decode prog_76_method_7_code 77 = .ok (.lushr, 1) := by decide +kernel
theorem d10_78 : decode prog_76_method_7_code 78 = .ok (.l2i, 1) := by decide +kernel
theorem d10_79 : decode prog_76_method_7_code 79 = .ok (.ireturn, 1) := by decide +kernel
theorem pn_10 : plainName "com/example/binario/binario/rules/SeededRandom" = true := by first | (simp [plainName, overriddenIn]; done) | decide +kernel
theorem ef_10_0 (m : MethodId) (x0 : Addr) (x1 : Int32) : entryFrame m #[(.ref x0), (.int x1)] 6 = mkF m 0 #[.val (.ref x0), .val (.int x1), .unset, .unset, .unset, .unset] [] := by first | (simp [entryFrame, mkF, argsToLocals, Value.category]; done) | rfl
def Q10_0 (Z : State) (a1 : Addr) (p2 : Int32) (st : Int64) (h0 : Heap) (n0 : Nat) (v : Option Value) (h : Heap) (L : List Loc) : Prop := ∃ (r : Int32) (st' : Int64), v = some (.int r) ∧ Fr n0 L ∧ Keep h0 h [a1] ∧ ¬ r < 0 ∧ r < p2 ∧ Fld Z h a1 "com/example/binario/binario/rules/SeededRandom" "state" "J" (.long st')
set_option maxRecDepth 65536 in
set_option maxHeartbeats 40000000 in
theorem rm10_0 (l : Launch) (Z : State) (a0 : Array Value) (hw : ∀ d ∈ tables_1, d.before a0 Z = true) (ws : List Jvm.Cond) (a1 : Addr) (p2 : Int32) (st : Int64) (h0 : Heap) (n0 : Nat) (Z0 : n0 ≤ h0.size) (F_s : Fld Z h0 a1 "com/example/binario/binario/rules/SeededRandom" "state" "J" (.long st)) (E_a1 : Exa Z h0 a1 "com/example/binario/binario/rules/SeededRandom") (g_a1 : n0 ≤ a1) (hc2 : ¬ (p2 < (1 : Int32))) (hc38 : ¬ ((lcmpW (((((own_mix (st + own_G)).toUInt64 >>> ((32 : Int32) &&& 0x3f).toInt64.toUInt64).toInt64) * (p2.toInt64)) &&& (4294967295 : Int64)) (p2.toInt64)) < (0 : Int32))) :
    MetFree l (⟨"com/example/binario/binario/rules/SeededRandom", "nextInt", "(I)I"⟩ : MethodName) (head1 (Jvm.Cond.code (⟨"com/example/binario/binario/rules/SeededRandom", "nextInt", "(I)I"⟩ : MethodName) prog_76_method_7_code 6 (some .int) :: ws) ({ frames := 2, cells := 0, slots := 0, locals := 40 } : Room)) (fun a U => a = #[(.ref a1), (.int p2)] ∧ Z.Warmed39 U.vm ∧ U.heap = h0) (fun _ _ _ _ _ => True) (fun _ U o U' => ∃ v L, o = .returned v ∧ Q10_0 Z a1 p2 st h0 n0 v U'.heap L ∧ FrameEnd U o U' L ({ frames := 2, cells := 0, slots := 0, locals := 40 } : Room).cells ({ frames := 2, cells := 0, slots := 0, locals := 40 } : Room).slots) := by
  refine MetFree.of_bodySF (plainFor_of_name pn_10) hisR ?_
  intro p e s m args below meth c s₁ Bd hml0 hP hK
  obtain ⟨rfl, hZ, hh⟩ := hP
  have hx := Bd.exec
  have hby := Bd.bytes
  have hml : c.maxLocals = 6 := hml0
  have hown : s.vm.findClass "com/example/binario/binario/rules/SeededRandom" = some m.cls := findClass_of_methodNamed Bd.named
  have hnm := (name_of_methodNamed Bd.named Bd.method).1
  have X0 : Stand p l e ({ frames := 2, cells := 0, slots := 0, locals := 40 } : Room) s m #[(.ref a1), (.int p2)] below meth c s₁ [] 0 0 := Stand.of_body Bd
  have e0 : s₁.heap = h0 := by rw [← hh, Bd.state]; rfl
  have N0 := Fr.nil n0
  have pre0 : ∀ t, Steps p.tables e below (s₁.setTop (mkF m 0 #[.val (.ref a1), .val (.int p2), .unset, .unset, .unset, .unset] [])) t → Steps p.tables e below (s₁.setTop (entryFrame m #[(.ref a1), (.int p2)] 6)) t := fun t k => castTop (ef_10_0 m a1 p2) k

  obtain ⟨cq3, q3, q3'⟩ := E_a1.cell
  obtain ⟨_, _, ⟨T3, L3, k3, n3⟩, -, X3, ⟨Lc3, hQ3, l3, y3, z3⟩, st3⟩ := X0.privateBack hx (y := (⟨"com/example/binario/binario/rules/SeededRandom", "nextLong", "()J"⟩ : MethodName)) hown (mvT hZ (ww hw 67 rfl)) (mvT hZ (ww hw 68 rfl)) (mvT hZ (own_selp (ww hw 65 rfl) rfl (ww hw 69 rfl) (ww hw 68 rfl) (by decide))) (Cond.privateMethod_at (mvP hZ (ww hw 69 rfl) (args := #[]))) (mvT hZ (ww hw 70 rfl)) (by decide) (backOf (W := 0) (rm11 l Z a0 hw [] a1 _ h0 n0 Z0 F_s E_a1 g_a1) hZ (ww hw 70 rfl) (ww hw 36 rfl) (by decide) (by decide)) (g := (mkF m 20 #[.val (.ref a1), .val (.int p2), .unset, .unset, .unset, .unset] [(.ref a1)])) rfl (by rw [hml]; rfl) (Steps.refl _) (a := a1) (by rw [e0]; exact q3) q3' (argsL := []) (rest := []) (lenOf pd_10_11 rfl) rfl (by show 2 * 0 + _ ≤ _; exact Nat.le_of_eq rfl) (hb hby d10_20) (fun _ _ => ⟨rfl, e0, (by decide : 0 + 0 ≤ _), (by decide : 0 + 0 ≤ _)⟩)
  dsimp only [Pt.U, Pt.locs, Pt.cells, Pt.slots] at X3 l3 y3 z3 st3 hQ3
  subst l3 y3 z3
  obtain ⟨rfl, N3q, Kc3, Fs3⟩ := hQ3
  have N3 := Fr.app N0 N3q
  have K3 : Keep h0 T3.heap [a1] := (Keep.refl h0 [a1]).trans Kc3 (allS (Or.inl (List.mem_of_getElem? (i := 0) rfl)) all0)
  obtain ⟨fs, hr, hrun, hended, hW, hsame⟩ := X3.leave (v := some (.int (((((((own_mix (st + own_G)).toUInt64 >>> ((32 : Int32) &&& 0x3f).toInt64.toUInt64).toInt64) * (p2.toInt64)).toUInt64 >>> ((32 : Int32) &&& 0x3f).toInt64.toUInt64).toInt64).toInt32))) (fun h => by rw [Bd.returns] at h; cases h)
  refine ⟨_, _, pre0 _ ?_, hrun, hended, _, _, rfl, ?_, ⟨_, rfl⟩, hW, hsame.mono (by decide) (by decide)⟩
  · show Steps _ _ _ (s₁.setTop (mkF m 0 #[.val (.ref a1), .val (.int p2), .unset, .unset, .unset, .unset] [])) _
    refine XS.iloadN X0.here hx rfl (hb hby d10_0) rfl ?_
    refine XS.iconst X0.here hx rfl (hb hby d10_1) ?_
    refine XS.icmpYes X0.here hx rfl (pc0 := 2) (pc' := 19) rfl (hb hby d10_2) rfl (flt hc2).2.1 (by decide) (by decide) ?_
    refine XS.aloadN X0.here hx rfl (hb hby d10_19) rfl rfl ?_
    refine st3.trans ?_
    refine XS.bipush X3.here hx rfl (hb hby d10_23) ?_
    refine XS.lushr X3.here hx rfl (hb hby d10_25) rfl ?_
    refine XS.iloadN X3.here hx rfl (hb hby d10_26) rfl ?_
    refine XS.i2l X3.here hx rfl (hb hby d10_27) rfl ?_
    refine XS.lmul X3.here hx rfl (hb hby d10_28) rfl ?_
    refine XS.lstoreN X3.here hx rfl (hb hby d10_29) rfl (l' := #[.val (.ref a1), .val (.int p2), .val (.long ((((own_mix (st + own_G)).toUInt64 >>> ((32 : Int32) &&& 0x3f).toInt64.toUInt64).toInt64) * (p2.toInt64))), .second, .unset, .unset]) rfl ?_
    refine XS.lloadN X3.here hx rfl (hb hby d10_30) rfl ?_
    refine X3.ldc2Long hx hown (mvT hZ (ww hw 71 rfl)) (g := (mkF m 31 #[.val (.ref a1), .val (.int p2), .val (.long ((((own_mix (st + own_G)).toUInt64 >>> ((32 : Int32) &&& 0x3f).toInt64.toUInt64).toInt64) * (p2.toInt64))), .second, .unset, .unset] [(.long ((((own_mix (st + own_G)).toUInt64 >>> ((32 : Int32) &&& 0x3f).toInt64.toUInt64).toInt64) * (p2.toInt64)))])) rfl (hb hby d10_31) _ ?_
    refine XS.land X3.here hx rfl (hb hby d10_34) rfl ?_
    refine XS.iloadN X3.here hx rfl (hb hby d10_35) rfl ?_
    refine XS.i2l X3.here hx rfl (hb hby d10_36) rfl ?_
    refine XS.lcmp X3.here hx rfl (hb hby d10_37) rfl ?_
    refine XS.ifYes X3.here hx rfl (pc0 := 38) (pc' := 74) rfl (hb hby d10_38) rfl ((if0 _ _).trans (flt hc38).2.1) (by decide) (by decide) ?_
    refine XS.lloadN X3.here hx rfl (hb hby d10_74) rfl ?_
    refine XS.bipush X3.here hx rfl (hb hby d10_75) ?_
    refine XS.lushr X3.here hx rfl (hb hby d10_77) rfl ?_
    refine XS.l2i X3.here hx rfl (hb hby d10_78) rfl ?_
    exact retI X3 hx Bd.returns (hb hby d10_79) hr
  · show Q10_0 Z a1 p2 st h0 n0 _ T3.heap _
    exact ⟨_, _, rfl, N3, K3, (own_rng (st + own_G) hc2).1, (own_rng (st + own_G) hc2).2, Fs3⟩
theorem d10_41 : decode prog_76_method_7_code 41 = .ok (.ldc2_w 43, 3) := by decide +kernel
theorem d10_44 : decode prog_76_method_7_code 44 = .ok (.iload_n 1, 1) := by decide +kernel
theorem d10_45 : decode prog_76_method_7_code 45 = .ok (.i2l, 1) := by decide +kernel
theorem d10_46 : decode prog_76_method_7_code 46 = .ok (.lrem, 1) := by decide +kernel
theorem d10_47 : decode prog_76_method_7_code 47 = .ok (.lstore 4, 2) := by decide +kernel
theorem ef_10_1 (m : MethodId) (x0 : Addr) (x1 : Int32) : entryFrame m #[(.ref x0), (.int x1)] 6 = mkF m 0 #[.val (.ref x0), .val (.int x1), .unset, .unset, .unset, .unset] [] := by first | (simp [entryFrame, mkF, argsToLocals, Value.category]; done) | rfl
def Q10_1 (Z : State) (a1 : Addr) (p2 : Int32) (st : Int64) (h0 : Heap) (n0 : Nat) (v : Option Value) (h : Heap) (L : List Loc) : Prop := ∃ (r : Int32) (st' : Int64), v = some (.int r) ∧ Fr n0 L ∧ Keep h0 h [a1] ∧ ¬ r < 0 ∧ r < p2 ∧ Fld Z h a1 "com/example/binario/binario/rules/SeededRandom" "state" "J" (.long st')
set_option maxRecDepth 65536 in
set_option maxHeartbeats 40000000 in
theorem rm10_1 (l : Launch) (Z : State) (a0 : Array Value) (hw : ∀ d ∈ tables_1, d.before a0 Z = true) (ws : List Jvm.Cond) (a1 : Addr) (p2 : Int32) (st : Int64) (h0 : Heap) (n0 : Nat) (Z0 : n0 ≤ h0.size) (F_s : Fld Z h0 a1 "com/example/binario/binario/rules/SeededRandom" "state" "J" (.long st)) (E_a1 : Exa Z h0 a1 "com/example/binario/binario/rules/SeededRandom") (g_a1 : n0 ≤ a1) (hc2 : ¬ (p2 < (1 : Int32))) (hc38 : (lcmpW (((((own_mix (st + own_G)).toUInt64 >>> ((32 : Int32) &&& 0x3f).toInt64.toUInt64).toInt64) * (p2.toInt64)) &&& (4294967295 : Int64)) (p2.toInt64)) < (0 : Int32)) (hnz46 : ¬ ((p2.toInt64) = (0 : Int64))) :
    MetFree l (⟨"com/example/binario/binario/rules/SeededRandom", "nextInt", "(I)I"⟩ : MethodName) (head1 (Jvm.Cond.code (⟨"com/example/binario/binario/rules/SeededRandom", "nextInt", "(I)I"⟩ : MethodName) prog_76_method_7_code 6 (some .int) :: ws) ({ frames := 2, cells := 0, slots := 0, locals := 40 } : Room)) (fun a U => a = #[(.ref a1), (.int p2)] ∧ Z.Warmed39 U.vm ∧ U.heap = h0) (fun _ _ _ _ _ => True) (fun _ U o U' => ∃ v L, o = .returned v ∧ Q10_1 Z a1 p2 st h0 n0 v U'.heap L ∧ FrameEnd U o U' L ({ frames := 2, cells := 0, slots := 0, locals := 40 } : Room).cells ({ frames := 2, cells := 0, slots := 0, locals := 40 } : Room).slots) := by
  refine MetFree.of_bodySF (plainFor_of_name pn_10) hisR ?_
  intro p e s m args below meth c s₁ Bd hml0 hP hK
  obtain ⟨rfl, hZ, hh⟩ := hP
  have hx := Bd.exec
  have hby := Bd.bytes
  have hml : c.maxLocals = 6 := hml0
  have hown : s.vm.findClass "com/example/binario/binario/rules/SeededRandom" = some m.cls := findClass_of_methodNamed Bd.named
  have hnm := (name_of_methodNamed Bd.named Bd.method).1
  have X0 : Stand p l e ({ frames := 2, cells := 0, slots := 0, locals := 40 } : Room) s m #[(.ref a1), (.int p2)] below meth c s₁ [] 0 0 := Stand.of_body Bd
  have e0 : s₁.heap = h0 := by rw [← hh, Bd.state]; rfl
  have N0 := Fr.nil n0
  have pre0 : ∀ t, Steps p.tables e below (s₁.setTop (mkF m 0 #[.val (.ref a1), .val (.int p2), .unset, .unset, .unset, .unset] [])) t → Steps p.tables e below (s₁.setTop (entryFrame m #[(.ref a1), (.int p2)] 6)) t := fun t k => castTop (ef_10_1 m a1 p2) k

  obtain ⟨cq3, q3, q3'⟩ := E_a1.cell
  obtain ⟨_, _, ⟨T3, L3, k3, n3⟩, -, X3, ⟨Lc3, hQ3, l3, y3, z3⟩, st3⟩ := X0.privateBack hx (y := (⟨"com/example/binario/binario/rules/SeededRandom", "nextLong", "()J"⟩ : MethodName)) hown (mvT hZ (ww hw 67 rfl)) (mvT hZ (ww hw 68 rfl)) (mvT hZ (own_selp (ww hw 65 rfl) rfl (ww hw 69 rfl) (ww hw 68 rfl) (by decide))) (Cond.privateMethod_at (mvP hZ (ww hw 69 rfl) (args := #[]))) (mvT hZ (ww hw 70 rfl)) (by decide) (backOf (W := 0) (rm11 l Z a0 hw [] a1 _ h0 n0 Z0 F_s E_a1 g_a1) hZ (ww hw 70 rfl) (ww hw 36 rfl) (by decide) (by decide)) (g := (mkF m 20 #[.val (.ref a1), .val (.int p2), .unset, .unset, .unset, .unset] [(.ref a1)])) rfl (by rw [hml]; rfl) (Steps.refl _) (a := a1) (by rw [e0]; exact q3) q3' (argsL := []) (rest := []) (lenOf pd_10_11 rfl) rfl (by show 2 * 0 + _ ≤ _; exact Nat.le_of_eq rfl) (hb hby d10_20) (fun _ _ => ⟨rfl, e0, (by decide : 0 + 0 ≤ _), (by decide : 0 + 0 ≤ _)⟩)
  dsimp only [Pt.U, Pt.locs, Pt.cells, Pt.slots] at X3 l3 y3 z3 st3 hQ3
  subst l3 y3 z3
  obtain ⟨rfl, N3q, Kc3, Fs3⟩ := hQ3
  have N3 := Fr.app N0 N3q
  have K3 : Keep h0 T3.heap [a1] := (Keep.refl h0 [a1]).trans Kc3 (allS (Or.inl (List.mem_of_getElem? (i := 0) rfl)) all0)
  obtain ⟨T4, h4, L4, s4, X4, ej4, N4, Kc4, Fs4, st4⟩ := own_rej (n0 := n0) a1 p2 ((4294967296 : Int64) - (((4294967296 : Int64) / (p2.toInt64)) * (p2.toInt64))) (st + own_G) hc2 (own_rjb hc2).1 g_a1 N3 (Nat.le_trans Z0 Kc3.1) Fs3 (E_a1.keep Kc3) X3 hx hZ hw hby hml hown rfl
  have K4 : Keep h0 T4.heap [a1] := K3.trans Kc4 (allS (Or.inl (List.mem_of_getElem? (i := 0) rfl)) all0)
  obtain ⟨fs, hr, hrun, hended, hW, hsame⟩ := X4.leave (v := some (.int ((((own_pr s4 p2).toUInt64 >>> ((32 : Int32) &&& 0x3f).toInt64.toUInt64).toInt64).toInt32))) (fun h => by rw [Bd.returns] at h; cases h)
  refine ⟨_, _, pre0 _ ?_, hrun, hended, _, _, rfl, ?_, ⟨_, rfl⟩, hW, hsame.mono (by decide) (by decide)⟩
  · show Steps _ _ _ (s₁.setTop (mkF m 0 #[.val (.ref a1), .val (.int p2), .unset, .unset, .unset, .unset] [])) _
    refine XS.iloadN X0.here hx rfl (hb hby d10_0) rfl ?_
    refine XS.iconst X0.here hx rfl (hb hby d10_1) ?_
    refine XS.icmpYes X0.here hx rfl (pc0 := 2) (pc' := 19) rfl (hb hby d10_2) rfl (flt hc2).2.1 (by decide) (by decide) ?_
    refine XS.aloadN X0.here hx rfl (hb hby d10_19) rfl rfl ?_
    refine st3.trans ?_
    refine XS.bipush X3.here hx rfl (hb hby d10_23) ?_
    refine XS.lushr X3.here hx rfl (hb hby d10_25) rfl ?_
    refine XS.iloadN X3.here hx rfl (hb hby d10_26) rfl ?_
    refine XS.i2l X3.here hx rfl (hb hby d10_27) rfl ?_
    refine XS.lmul X3.here hx rfl (hb hby d10_28) rfl ?_
    refine XS.lstoreN X3.here hx rfl (hb hby d10_29) rfl (l' := #[.val (.ref a1), .val (.int p2), .val (.long ((((own_mix (st + own_G)).toUInt64 >>> ((32 : Int32) &&& 0x3f).toInt64.toUInt64).toInt64) * (p2.toInt64))), .second, .unset, .unset]) rfl ?_
    refine XS.lloadN X3.here hx rfl (hb hby d10_30) rfl ?_
    refine X3.ldc2Long hx hown (mvT hZ (ww hw 71 rfl)) (g := (mkF m 31 #[.val (.ref a1), .val (.int p2), .val (.long ((((own_mix (st + own_G)).toUInt64 >>> ((32 : Int32) &&& 0x3f).toInt64.toUInt64).toInt64) * (p2.toInt64))), .second, .unset, .unset] [(.long ((((own_mix (st + own_G)).toUInt64 >>> ((32 : Int32) &&& 0x3f).toInt64.toUInt64).toInt64) * (p2.toInt64)))])) rfl (hb hby d10_31) _ ?_
    refine XS.land X3.here hx rfl (hb hby d10_34) rfl ?_
    refine XS.iloadN X3.here hx rfl (hb hby d10_35) rfl ?_
    refine XS.i2l X3.here hx rfl (hb hby d10_36) rfl ?_
    refine XS.lcmp X3.here hx rfl (hb hby d10_37) rfl ?_
    refine XS.ifNo X3.here hx rfl (hb hby d10_38) rfl ((if0 _ _).trans (tlt hc38).2.1) ?_
    refine X3.ldc2Long hx hown (mvT hZ (ww hw 80 rfl)) (g := (mkF m 41 #[.val (.ref a1), .val (.int p2), .val (.long ((((own_mix (st + own_G)).toUInt64 >>> ((32 : Int32) &&& 0x3f).toInt64.toUInt64).toInt64) * (p2.toInt64))), .second, .unset, .unset] [])) rfl (hb hby d10_41) _ ?_
    refine XS.iloadN X3.here hx rfl (hb hby d10_44) rfl ?_
    refine XS.i2l X3.here hx rfl (hb hby d10_45) rfl ?_
    refine Jvm.Free.XT.lrem X3.here hx rfl (hb hby d10_46) rfl hnz46 ?_
    refine XS.lstore X3.here hx rfl (hb hby d10_47) rfl (l' := #[.val (.ref a1), .val (.int p2), .val (.long ((((own_mix (st + own_G)).toUInt64 >>> ((32 : Int32) &&& 0x3f).toInt64.toUInt64).toInt64) * (p2.toInt64))), .second, .val (.long ((4294967296 : Int64) - (((4294967296 : Int64) / (p2.toInt64)) * (p2.toInt64)))), .second]) rfl ?_
    refine st4 _ ?_
    refine XS.lloadN X4.here hx rfl (hb hby d10_74) rfl ?_
    refine XS.bipush X4.here hx rfl (hb hby d10_75) ?_
    refine XS.lushr X4.here hx rfl (hb hby d10_77) rfl ?_
    refine XS.l2i X4.here hx rfl (hb hby d10_78) rfl ?_
    exact retI X4 hx Bd.returns (hb hby d10_79) hr
  · show Q10_1 Z a1 p2 st h0 n0 _ T4.heap _
    exact ⟨_, _, rfl, N4, K4, (own_rng s4 hc2).1, (own_rng s4 hc2).2, Fs4⟩
theorem rm10 (l : Launch) (Z : State) (a0 : Array Value) (hw : ∀ d ∈ tables_1, d.before a0 Z = true) (ws : List Jvm.Cond) (a1 : Addr) (p2 : Int32) (st : Int64) (h0 : Heap) (n0 : Nat) (Z0 : n0 ≤ h0.size) (F_s : Fld Z h0 a1 "com/example/binario/binario/rules/SeededRandom" "state" "J" (.long st)) (E_a1 : Exa Z h0 a1 "com/example/binario/binario/rules/SeededRandom") (g_a1 : n0 ≤ a1) (hp : ¬ p2 < 1) :
    MetFree l (⟨"com/example/binario/binario/rules/SeededRandom", "nextInt", "(I)I"⟩ : MethodName) (head1 (Jvm.Cond.code (⟨"com/example/binario/binario/rules/SeededRandom", "nextInt", "(I)I"⟩ : MethodName) prog_76_method_7_code 6 (some .int) :: ws) ({ frames := 2, cells := 0, slots := 0, locals := 40 } : Room)) (fun a U => a = #[(.ref a1), (.int p2)] ∧ Z.Warmed39 U.vm ∧ U.heap = h0) (fun _ _ _ _ _ => True) (fun _ U o U' => ∃ v L, o = .returned v ∧ Q10_0 Z a1 p2 st h0 n0 v U'.heap L ∧ FrameEnd U o U' L ({ frames := 2, cells := 0, slots := 0, locals := 40 } : Room).cells ({ frames := 2, cells := 0, slots := 0, locals := 40 } : Room).slots) := by
  by_cases c : (lcmpW ((own_pr (st + own_G) p2) &&& (4294967295 : Int64)) (p2.toInt64)) < (0 : Int32)
  · exact rm10_1 l Z a0 hw ws a1 p2 st h0 n0 Z0 F_s E_a1 g_a1 hp c (own_rjb hp).2
  · exact rm10_0 l Z a0 hw ws a1 p2 st h0 n0 Z0 F_s E_a1 g_a1 hp c
theorem d8_113 : decode prog_68_method_3_code 113 = .ok (.aload_n 3, 1) := by decide +kernel
theorem d8_114 : decode prog_68_method_3_code 114 = .ok (.aload_n 0, 1) := by decide +kernel
theorem d8_115 : decode prog_68_method_3_code 115 = .ok (.dup, 1) := by decide +kernel
theorem d8_116 : decode prog_68_method_3_code 116 = .ok (.getfield 18, 3) := by decide +kernel
theorem d8_119 : decode prog_68_method_3_code 119 = .ok (.dup_x1, 1) := by decide +kernel
theorem d8_120 : decode prog_68_method_3_code 120 = .ok (.iconst 1, 1) := by decide +kernel
theorem d8_121 : decode prog_68_method_3_code 121 = .ok (.isub, 1) := by decide +kernel
theorem d8_122 : decode prog_68_method_3_code 122 = .ok (.putfield 18, 3) := by decide +kernel
theorem d8_125 : decode prog_68_method_3_code 125 = .ok (.invokevirtual 40, 3) := by decide +kernel
theorem d8_128 : decode prog_68_method_3_code 128 = .ok (.istore 5, 2) := by decide +kernel
theorem pd_8_10 : parseMethodDescriptor "(I)I" = some ⟨[.int], some .int⟩ := by decide +kernel
theorem os8_128_own_dA {z0 : Value} {s1 : Slot} {s2 : Slot} {z3 : Value} {s4 : Slot} {s5 : Slot} {s6 : Slot} {s7 : Slot} {v : Int32} (h : One s5) : storeLocals #[.val z0, s1, s2, .val z3, s4, s5, s6, s7] 5 (.int v) = some #[.val z0, s1, s2, .val z3, s4, .val (.int v), s6, s7] := by
  rcases h with rfl | ⟨w, rfl, hw⟩
  · rfl
  · cases w <;> first | rfl | (simp [Value.category] at hw)
set_option maxRecDepth 65536 in
set_option maxHeartbeats 40000000 in
theorem own_dA {p : Program} {l : Launch} {e : Env} {s : State} {m : MethodId} {args : Array Value} {below : List Frame} {meth : Method} {c : Code} {T0 : State} {locs : List Loc} {Z : State} {a0 : Array Value} {h0 : Heap} {n0 : Nat} (o0 : Addr) (s1 : Slot) (s2 : Slot) (o3 : Addr) (s4 : Slot) (s5 : Slot) (s6 : Slot) (s7 : Slot) (lf : Int32) (ca : Addr) (st : Int64)
    (X0 : Stand p l e ({ frames := 3, cells := 0, slots := 0, locals := 100 } : Room) s m args below meth c T0 locs 0 0) (hx : p.tables.exec = Jvm.exec) (hZ : Z.Warmed39 s.vm) (hw : ∀ d ∈ tables_1, d.before a0 Z = true) (hby : c.code = prog_68_method_3_code) (hml : c.maxLocals = 8) (hown : s.vm.findClass "com/example/binario/binario/rules/PassengerBag" = some m.cls) (e0 : T0.heap = h0) (E_o0 : Exa Z h0 o0 "com/example/binario/binario/rules/PassengerBag") (F_l : Fld Z h0 o0 "com/example/binario/binario/rules/PassengerBag" "left" "I" (.int lf)) (F_c : Fld Z h0 o0 "com/example/binario/binario/rules/PassengerBag" "counts" "[I" (.ref ca)) (E_o3 : Exa Z h0 o3 "com/example/binario/binario/rules/SeededRandom") (F_s : Fld Z h0 o3 "com/example/binario/binario/rules/SeededRandom" "state" "J" (.long st)) (hlf : ¬ lf < 1) (n03 : o0 ≠ o3) (g_o0 : n0 ≤ o0) (hs5 : One s5) (Z0 : n0 ≤ h0.size) (N0 : Fr n0 locs) (g_o3 : n0 ≤ o3) :
    ∃ (T' : State) (h' : Heap) (locs' : List Loc) (r : Int32) (st' : Int64), Stand p l e ({ frames := 3, cells := 0, slots := 0, locals := 100 } : Room) s m args below meth c T' locs' 0 0 ∧ T'.heap = h' ∧ Fr n0 locs' ∧ Keep h0 h' [o0, o3] ∧ ¬ r < 0 ∧ r < lf ∧ Fld Z h' o0 "com/example/binario/binario/rules/PassengerBag" "left" "I" (.int (lf - (1 : Int32))) ∧ Fld Z h' o0 "com/example/binario/binario/rules/PassengerBag" "counts" "[I" (.ref ca) ∧ Fld Z h' o3 "com/example/binario/binario/rules/SeededRandom" "state" "J" (.long st') ∧
      ∀ target, Steps p.tables e below (T'.setTop (mkF m 130 #[.val (.ref o0), s1, s2, .val (.ref o3), s4, .val (.int r), s6, s7] [])) target → Steps p.tables e below (T0.setTop (mkF m 113 #[.val (.ref o0), s1, s2, .val (.ref o3), s4, s5, s6, s7] [])) target := by
  obtain ⟨T5, X5, e5, st5⟩ := getF X0 hx hZ hown (host := "") (Or.inl (ww hw 23 rfl)) Via.refl e0 F_l (g := (mkF m 116 #[.val (.ref o0), s1, s2, .val (.ref o3), s4, s5, s6, s7] [(.ref o0), (.ref o0), (.ref o3)])) rfl rfl (hb hby d8_116)
  obtain ⟨T6, h6, X6, e6, W6, st6⟩ := putF X5 hx hZ hown (host := "") (Or.inl (ww hw 23 rfl)) Via.refl e5 F_l E_o0 (Or.inl (ww hw 24 rfl)) (ww hw 4 rfl) (ty := .int) (by decide) rfl rfl (g := (mkF m 122 #[.val (.ref o0), s1, s2, .val (.ref o3), s4, s5, s6, s7] [(.int (lf - (1 : Int32))), (.ref o0), (.int lf), (.ref o3)])) rfl rfl (hb hby d8_122)
  have Fw6 := F_l.same W6
  have K6 : Keep h0 h6 [o0, o3] := (Keep.refl h0 [o0, o3]).wr W6 (Or.inl (List.mem_of_getElem? (i := 0) rfl))
  have N6 := Fr.snoc X6 N0 g_o0
  obtain ⟨cq7, kq7, q7a, q7b, q7c⟩ := isOf hZ e6 (E_o3.wr W6)
  obtain ⟨_, _, ⟨T7, L7, k7, n7⟩, -, X7, ⟨Lc7, hQ7, l7, y7, z7⟩, st7⟩ := X6.virtualBack hx (y := (⟨"com/example/binario/binario/rules/SeededRandom", "nextInt", "(I)I"⟩ : MethodName)) (z := (⟨"com/example/binario/binario/rules/SeededRandom", "nextInt", "(I)I"⟩ : MethodName)) hown (mvT hZ (ww hw 62 rfl)) (mvT hZ (ww hw 63 rfl)) (notFace_of_selects (args := #[]) (mvT hZ (ww hw 65 rfl))) (mvT hZ (ww hw 65 rfl)) (mvT hZ (ww hw 64 rfl)) (by decide) (backOf (W := 0) (rm10 l Z a0 hw [] o3 lf _ h6 n0 (Nat.le_trans Z0 (Keep.of_wr W6).1) (F_s.other W6 (Or.inl n03.symm)) (E_o3.wr W6) g_o3 hlf) hZ (ww hw 66 rfl) (ww hw 36 rfl) (by decide) (by decide)) q7a q7c (g := (mkF m 125 #[.val (.ref o0), s1, s2, .val (.ref o3), s4, s5, s6, s7] [(.int lf), (.ref o3)])) rfl (by rw [hml]; rfl) (Steps.refl _) (argsL := [(.int lf)]) (rest := []) (lenOf pd_8_10 rfl) rfl (by show 2 * 0 + _ ≤ _; exact Nat.le_of_eq rfl) (hb hby d8_125) (fun _ _ => ⟨rfl, e6, (by decide : 0 + 0 ≤ _), (by decide : 0 + 0 ≤ _)⟩)
  dsimp only [Pt.U, Pt.locs, Pt.cells, Pt.slots] at X7 l7 y7 z7 st7 hQ7
  subst l7 y7 z7
  obtain ⟨r7, sv7, rfl, N7q, Kc7, ra7, rb7, Fs7⟩ := hQ7
  have N7 := Fr.app N6 N7q
  have K7 : Keep h0 T7.heap [o0, o3] := K6.trans Kc7 (allS (Or.inl (List.mem_of_getElem? (i := 1) rfl)) all0)
  refine ⟨T7, _, _, _, _, X7, rfl, N7, own_kw K7 (by simp), ra7, rb7, (Fw6.keep Kc7 (ninS n03 nin0)), ((F_c.other W6 (Or.inr (slot_ne (Or.inr (ww hw 22 rfl)) (Or.inl (ww hw 24 rfl)) (by decide) (t := (.array .int)) (t' := .int) (by decide) (by decide)))).keep Kc7 (ninS n03 nin0)), Fs7, fun target kt => ?_⟩
  refine XS.aloadN X0.here hx rfl (hb hby d8_113) rfl rfl ?_
  refine XS.aloadN X0.here hx rfl (hb hby d8_114) rfl rfl ?_
  refine XS.dup X0.here hx rfl (hb hby d8_115) rfl rfl ?_
  refine st5 _ ?_
  refine XS.dupX1 X5.here hx rfl (hb hby d8_119) rfl rfl rfl ?_
  refine XS.iconst X5.here hx rfl (hb hby d8_120) ?_
  refine XS.isub X5.here hx rfl (hb hby d8_121) rfl ?_
  refine st6 _ ?_
  refine st7.trans ?_
  refine XS.istore X7.here hx rfl (hb hby d8_128) rfl (l' := #[.val (.ref o0), s1, s2, .val (.ref o3), s4, .val (.int r7), s6, s7]) (os8_128_own_dA hs5) ?_
  exact kt
theorem d8_130 : decode prog_68_method_3_code 130 = .ok (.iconst 0, 1) := by decide +kernel
theorem d8_131 : decode prog_68_method_3_code 131 = .ok (.istore 6, 2) := by decide +kernel
theorem d8_133 : decode prog_68_method_3_code 133 = .ok (.iload 5, 2) := by decide +kernel
theorem d8_135 : decode prog_68_method_3_code 135 = .ok (.aload_n 0, 1) := by decide +kernel
theorem d8_136 : decode prog_68_method_3_code 136 = .ok (.getfield 13, 3) := by decide +kernel
theorem d8_139 : decode prog_68_method_3_code 139 = .ok (.iload 6, 2) := by decide +kernel
theorem d8_141 : decode prog_68_method_3_code 141 = .ok (.iaload, 1) := by decide +kernel
theorem d8_142 : decode prog_68_method_3_code 142 = .ok (.if_icmp .lt 21, 3) := by decide +kernel
theorem d8_163 : decode prog_68_method_3_code 163 = .ok (.aload_n 0, 1) := by decide +kernel
theorem d8_164 : decode prog_68_method_3_code 164 = .ok (.getfield 13, 3) := by decide +kernel
theorem d8_167 : decode prog_68_method_3_code 167 = .ok (.iload 6, 2) := by decide +kernel
theorem d8_169 : decode prog_68_method_3_code 169 = .ok (.dup2, 1) := by decide +kernel
theorem d8_170 : decode prog_68_method_3_code 170 = .ok (.iaload, 1) := by decide +kernel
theorem d8_171 : decode prog_68_method_3_code 171 = .ok (.iconst 1, 1) := by decide +kernel
theorem d8_172 : decode prog_68_method_3_code 172 = .ok (.isub, 1) := by decide +kernel
theorem d8_173 : decode prog_68_method_3_code 173 = .ok (.iastore, 1) := by decide +kernel
theorem d8_174 : decode prog_68_method_3_code 174 = .ok (.aload_n 2, 1) := by decide +kernel
theorem d8_175 : decode prog_68_method_3_code 175 = .ok (.iload 6, 2) := by decide +kernel
theorem d8_177 : decode prog_68_method_3_code 177 = .ok (.dup2, 1) := by decide +kernel
theorem d8_178 : decode prog_68_method_3_code 178 = .ok (.iaload, 1) := by decide +kernel
theorem d8_179 : decode prog_68_method_3_code 179 = .ok (.iconst 1, 1) := by decide +kernel
theorem d8_180 : decode prog_68_method_3_code 180 = .ok (.iadd, 1) := by decide +kernel
theorem d8_181 : decode prog_68_method_3_code 181 = .ok (.iastore, 1) := by decide +kernel
theorem d8_182 : decode prog_68_method_3_code 182 = .ok (.iinc 4 (-1), 3) := by decide +kernel
theorem d8_185 : decode prog_68_method_3_code 185 = .ok (.goto (-77), 3) := by decide +kernel
theorem os8_131_own_dB0 {z0 : Value} {s1 : Slot} {z2 : Value} {s3 : Slot} {z4 : Value} {z5 : Value} {s6 : Slot} {s7 : Slot} {v : Int32} (h : One s6) : storeLocals #[.val z0, s1, .val z2, s3, .val z4, .val z5, s6, s7] 6 (.int v) = some #[.val z0, s1, .val z2, s3, .val z4, .val z5, .val (.int v), s7] := by
  rcases h with rfl | ⟨w, rfl, hw⟩
  · rfl
  · cases w <;> first | rfl | (simp [Value.category] at hw)
set_option maxRecDepth 65536 in
set_option maxHeartbeats 40000000 in
theorem own_dB0 {p : Program} {l : Launch} {e : Env} {s : State} {m : MethodId} {args : Array Value} {below : List Frame} {meth : Method} {c : Code} {T0 : State} {locs : List Loc} {Z : State} {a0 : Array Value} {h0 : Heap} {n0 : Nat} (o0 : Addr) (s1 : Slot) (o2 : Addr) (s3 : Slot) (i4 : Int32) (i5 : Int32) (s6 : Slot) (s7 : Slot) (ca : Addr) (D : Nat → Int32) (Rf : Nat → Int32)
    (X0 : Stand p l e ({ frames := 3, cells := 0, slots := 0, locals := 100 } : Room) s m args below meth c T0 locs 0 0) (hx : p.tables.exec = Jvm.exec) (hZ : Z.Warmed39 s.vm) (hw : ∀ d ∈ tables_1, d.before a0 Z = true) (hby : c.code = prog_68_method_3_code) (hml : c.maxLocals = 8) (hown : s.vm.findClass "com/example/binario/binario/rules/PassengerBag" = some m.cls) (e0 : T0.heap = h0) (F_c : Fld Z h0 o0 "com/example/binario/binario/rules/PassengerBag" "counts" "[I" (.ref ca)) (V_ca : own_AI Z h0 ca (3 : Int32) D) (V_o2 : own_AI Z h0 o2 (3 : Int32) Rf) (hs6 : One s6) (g_ca : n0 ≤ ca) (g_o2 : n0 ≤ o2) (hc142 : i5 < (D ((0 : Int32)).toNatClampNeg)) (Z0 : n0 ≤ h0.size) (N0 : Fr n0 locs) (n0c : o0 ≠ ca) (n2c : o2 ≠ ca) :
    ∃ (T' : State) (h' : Heap) (locs' : List Loc) , Stand p l e ({ frames := 3, cells := 0, slots := 0, locals := 100 } : Room) s m args below meth c T' locs' 0 0 ∧ T'.heap = h' ∧ Fr n0 locs' ∧ Keep h0 h' [ca, o2] ∧ own_AI Z h' ca (3 : Int32) (own_upd D 0 (D 0 - 1)) ∧ own_AI Z h' o2 (3 : Int32) (own_upd Rf 0 (Rf 0 + 1)) ∧
      ∀ target, Steps p.tables e below (T'.setTop (mkF m 108 #[.val (.ref o0), s1, .val (.ref o2), s3, .val (.int (i4 + (-1 : Int32))), .val (.int i5), .val (.int (0 : Int32)), s7] [])) target → Steps p.tables e below (T0.setTop (mkF m 130 #[.val (.ref o0), s1, .val (.ref o2), s3, .val (.int i4), .val (.int i5), s6, s7] [])) target := by
  obtain ⟨T5, X5, e5, st5⟩ := getF X0 hx hZ hown (host := "") (Or.inl (ww hw 21 rfl)) Via.refl e0 F_c (g := (mkF m 136 #[.val (.ref o0), s1, .val (.ref o2), s3, .val (.int i4), .val (.int i5), .val (.int (0 : Int32)), s7] [(.ref o0), (.int i5)])) rfl rfl (hb hby d8_136)
  obtain ⟨cl_141, Ar_141, S_141, H_141⟩ := id (V_ca)
  have hin141 : ¬ ((0 : Int32) < 0 ∨ cl_141.slots.size ≤ ((0 : Int32)).toNatClampNeg) := inb_of S_141 ⟨by decide, by decide⟩
  have hat141 := H_141 _ (own_inb hin141)
  obtain ⟨T6, X6, e6, st6⟩ := getF X5 hx hZ hown (host := "") (Or.inl (ww hw 21 rfl)) Via.refl e5 F_c (g := (mkF m 164 #[.val (.ref o0), s1, .val (.ref o2), s3, .val (.int i4), .val (.int i5), .val (.int (0 : Int32)), s7] [(.ref o0)])) rfl rfl (hb hby d8_164)
  obtain ⟨cl_170, Ar_170, S_170, H_170⟩ := id (V_ca)
  have hin170 : ¬ ((0 : Int32) < 0 ∨ cl_170.slots.size ≤ ((0 : Int32)).toNatClampNeg) := inb_of S_170 ⟨by decide, by decide⟩
  have hat170 := H_170 _ (own_inb hin170)
  obtain ⟨cl_173, Ar_173, S_173, H_173⟩ := id (V_ca)
  have hin173 : ¬ ((0 : Int32) < 0 ∨ cl_173.slots.size ≤ ((0 : Int32)).toNatClampNeg) := inb_of S_173 ⟨by decide, by decide⟩
  obtain ⟨T7, h7, X7, e7, W7, st7⟩ := stI X6 hx hZ e6 Ar_173 (j := (0 : Int32)) hin173 (g := (mkF m 173 #[.val (.ref o0), s1, .val (.ref o2), s3, .val (.int i4), .val (.int i5), .val (.int (0 : Int32)), s7] [(.int ((D ((0 : Int32)).toNatClampNeg) - (1 : Int32))), (.int (0 : Int32)), (.ref ca)])) rfl rfl (hb hby d8_173)
  have V_ca_7 := own_AI.put Ar_173 S_173 H_173 W7
  have K7 : Keep h0 h7 [ca, o2] := (Keep.refl h0 [ca, o2]).wr W7 (Or.inl (List.mem_of_getElem? (i := 0) rfl))
  have N7 := Fr.snoc X7 N0 g_ca
  obtain ⟨cl_178, Ar_178, S_178, H_178⟩ := id ((V_o2.other W7 n2c))
  have hin178 : ¬ ((0 : Int32) < 0 ∨ cl_178.slots.size ≤ ((0 : Int32)).toNatClampNeg) := inb_of S_178 ⟨by decide, by decide⟩
  have hat178 := H_178 _ (own_inb hin178)
  obtain ⟨cl_181, Ar_181, S_181, H_181⟩ := id ((V_o2.other W7 n2c))
  have hin181 : ¬ ((0 : Int32) < 0 ∨ cl_181.slots.size ≤ ((0 : Int32)).toNatClampNeg) := inb_of S_181 ⟨by decide, by decide⟩
  obtain ⟨T8, h8, X8, e8, W8, st8⟩ := stI X7 hx hZ e7 Ar_181 (j := (0 : Int32)) hin181 (g := (mkF m 181 #[.val (.ref o0), s1, .val (.ref o2), s3, .val (.int i4), .val (.int i5), .val (.int (0 : Int32)), s7] [(.int ((Rf ((0 : Int32)).toNatClampNeg) + (1 : Int32))), (.int (0 : Int32)), (.ref o2)])) rfl rfl (hb hby d8_181)
  have V_o2_8 := own_AI.put Ar_181 S_181 H_181 W8
  have K8 : Keep h0 h8 [ca, o2] := K7.wr W8 (Or.inl (List.mem_of_getElem? (i := 1) rfl))
  have N8 := Fr.snoc X8 N7 g_o2
  refine ⟨T8, _, _, X8, e8, N8, own_kw K8 (by simp), (V_ca_7.other W8 n2c.symm), V_o2_8, fun target kt => ?_⟩
  refine XS.iconst X0.here hx rfl (hb hby d8_130) ?_
  refine XS.istore X0.here hx rfl (hb hby d8_131) rfl (l' := #[.val (.ref o0), s1, .val (.ref o2), s3, .val (.int i4), .val (.int i5), .val (.int (0 : Int32)), s7]) (os8_131_own_dB0 hs6) ?_
  refine XS.iload X0.here hx rfl (hb hby d8_133) rfl ?_
  refine XS.aloadN X0.here hx rfl (hb hby d8_135) rfl rfl ?_
  refine st5 _ ?_
  refine XS.iload X5.here hx rfl (hb hby d8_139) rfl ?_
  refine X5.iaload hx (j := (0 : Int32)) (v := (.int (D ((0 : Int32)).toNatClampNeg))) (by rw [e5]; exact Ar_141.1) (State.isArrayOf_alike hZ.alike Ar_141.2.1) Ar_141.2.2 hin141 hat141 (g := (mkF m 141 #[.val (.ref o0), s1, .val (.ref o2), s3, .val (.int i4), .val (.int i5), .val (.int (0 : Int32)), s7] [(.int (0 : Int32)), (.ref ca), (.int i5)])) rfl rfl (hb hby d8_141) _ ?_
  refine XS.icmpYes X5.here hx rfl (pc0 := 142) (pc' := 163) rfl (hb hby d8_142) rfl (tlt hc142).1 (by decide) (by decide) ?_
  refine XS.aloadN X5.here hx rfl (hb hby d8_163) rfl rfl ?_
  refine st6 _ ?_
  refine XS.iload X6.here hx rfl (hb hby d8_167) rfl ?_
  jvm_step X6.here [X6.here.top, hx, (hb hby d8_169), Value.category]
  refine X6.iaload hx (j := (0 : Int32)) (v := (.int (D ((0 : Int32)).toNatClampNeg))) (by rw [e6]; exact Ar_170.1) (State.isArrayOf_alike hZ.alike Ar_170.2.1) Ar_170.2.2 hin170 hat170 (g := (mkF m 170 #[.val (.ref o0), s1, .val (.ref o2), s3, .val (.int i4), .val (.int i5), .val (.int (0 : Int32)), s7] [(.int (0 : Int32)), (.ref ca), (.int (0 : Int32)), (.ref ca)])) rfl rfl (hb hby d8_170) _ ?_
  refine XS.iconst X6.here hx rfl (hb hby d8_171) ?_
  refine XS.isub X6.here hx rfl (hb hby d8_172) rfl ?_
  refine st7 _ ?_
  refine XS.aloadN X7.here hx rfl (hb hby d8_174) rfl rfl ?_
  refine XS.iload X7.here hx rfl (hb hby d8_175) rfl ?_
  jvm_step X7.here [X7.here.top, hx, (hb hby d8_177), Value.category]
  refine X7.iaload hx (j := (0 : Int32)) (v := (.int (Rf ((0 : Int32)).toNatClampNeg))) (by rw [e7]; exact Ar_178.1) (State.isArrayOf_alike hZ.alike Ar_178.2.1) Ar_178.2.2 hin178 hat178 (g := (mkF m 178 #[.val (.ref o0), s1, .val (.ref o2), s3, .val (.int i4), .val (.int i5), .val (.int (0 : Int32)), s7] [(.int (0 : Int32)), (.ref o2), (.int (0 : Int32)), (.ref o2)])) rfl rfl (hb hby d8_178) _ ?_
  refine XS.iconst X7.here hx rfl (hb hby d8_179) ?_
  refine XS.iadd X7.here hx rfl (hb hby d8_180) rfl ?_
  refine st8 _ ?_
  refine XS.iinc X8.here hx rfl (hb hby d8_182) rfl (l' := #[.val (.ref o0), s1, .val (.ref o2), s3, .val (.int (i4 + (-1 : Int32))), .val (.int i5), .val (.int (0 : Int32)), s7]) rfl ?_
  refine XS.goto X8.here hx rfl (pc0 := 185) (pc' := 108) rfl (hb hby d8_185) (by decide) (by decide) ?_
  exact kt
theorem d8_145 : decode prog_68_method_3_code 145 = .ok (.iload 5, 2) := by decide +kernel
theorem d8_147 : decode prog_68_method_3_code 147 = .ok (.aload_n 0, 1) := by decide +kernel
theorem d8_148 : decode prog_68_method_3_code 148 = .ok (.getfield 13, 3) := by decide +kernel
theorem d8_151 : decode prog_68_method_3_code 151 = .ok (.iload 6, 2) := by decide +kernel
theorem d8_153 : decode prog_68_method_3_code 153 = .ok (.iinc 6 1, 3) := by decide +kernel
theorem d8_156 : decode prog_68_method_3_code 156 = .ok (.iaload, 1) := by decide +kernel
theorem d8_157 : decode prog_68_method_3_code 157 = .ok (.isub, 1) := by decide +kernel
theorem d8_158 : decode prog_68_method_3_code 158 = .ok (.istore 5, 2) := by decide +kernel
theorem d8_160 : decode prog_68_method_3_code 160 = .ok (.goto (-27), 3) := by decide +kernel
theorem os8_131_own_dB1 {z0 : Value} {s1 : Slot} {z2 : Value} {s3 : Slot} {z4 : Value} {z5 : Value} {s6 : Slot} {s7 : Slot} {v : Int32} (h : One s6) : storeLocals #[.val z0, s1, .val z2, s3, .val z4, .val z5, s6, s7] 6 (.int v) = some #[.val z0, s1, .val z2, s3, .val z4, .val z5, .val (.int v), s7] := by
  rcases h with rfl | ⟨w, rfl, hw⟩
  · rfl
  · cases w <;> first | rfl | (simp [Value.category] at hw)
set_option maxRecDepth 65536 in
set_option maxHeartbeats 40000000 in
theorem own_dB1 {p : Program} {l : Launch} {e : Env} {s : State} {m : MethodId} {args : Array Value} {below : List Frame} {meth : Method} {c : Code} {T0 : State} {locs : List Loc} {Z : State} {a0 : Array Value} {h0 : Heap} {n0 : Nat} (o0 : Addr) (s1 : Slot) (o2 : Addr) (s3 : Slot) (i4 : Int32) (i5 : Int32) (s6 : Slot) (s7 : Slot) (ca : Addr) (D : Nat → Int32) (Rf : Nat → Int32)
    (X0 : Stand p l e ({ frames := 3, cells := 0, slots := 0, locals := 100 } : Room) s m args below meth c T0 locs 0 0) (hx : p.tables.exec = Jvm.exec) (hZ : Z.Warmed39 s.vm) (hw : ∀ d ∈ tables_1, d.before a0 Z = true) (hby : c.code = prog_68_method_3_code) (hml : c.maxLocals = 8) (hown : s.vm.findClass "com/example/binario/binario/rules/PassengerBag" = some m.cls) (e0 : T0.heap = h0) (F_c : Fld Z h0 o0 "com/example/binario/binario/rules/PassengerBag" "counts" "[I" (.ref ca)) (V_ca : own_AI Z h0 ca (3 : Int32) D) (V_o2 : own_AI Z h0 o2 (3 : Int32) Rf) (hs6 : One s6) (g_ca : n0 ≤ ca) (g_o2 : n0 ≤ o2) (hc142 : ¬ (i5 < (D ((0 : Int32)).toNatClampNeg))) (hc142_1 : (i5 - (D ((0 : Int32)).toNatClampNeg)) < (D (((0 : Int32) + (1 : Int32))).toNatClampNeg)) (Z0 : n0 ≤ h0.size) (N0 : Fr n0 locs) (n0c : o0 ≠ ca) (n2c : o2 ≠ ca) :
    ∃ (T' : State) (h' : Heap) (locs' : List Loc) , Stand p l e ({ frames := 3, cells := 0, slots := 0, locals := 100 } : Room) s m args below meth c T' locs' 0 0 ∧ T'.heap = h' ∧ Fr n0 locs' ∧ Keep h0 h' [ca, o2] ∧ own_AI Z h' ca (3 : Int32) (own_upd D 1 (D 1 - 1)) ∧ own_AI Z h' o2 (3 : Int32) (own_upd Rf 1 (Rf 1 + 1)) ∧
      ∀ target, Steps p.tables e below (T'.setTop (mkF m 108 #[.val (.ref o0), s1, .val (.ref o2), s3, .val (.int (i4 + (-1 : Int32))), .val (.int (i5 - (D ((0 : Int32)).toNatClampNeg))), .val (.int ((0 : Int32) + (1 : Int32))), s7] [])) target → Steps p.tables e below (T0.setTop (mkF m 130 #[.val (.ref o0), s1, .val (.ref o2), s3, .val (.int i4), .val (.int i5), s6, s7] [])) target := by
  obtain ⟨T5, X5, e5, st5⟩ := getF X0 hx hZ hown (host := "") (Or.inl (ww hw 21 rfl)) Via.refl e0 F_c (g := (mkF m 136 #[.val (.ref o0), s1, .val (.ref o2), s3, .val (.int i4), .val (.int i5), .val (.int (0 : Int32)), s7] [(.ref o0), (.int i5)])) rfl rfl (hb hby d8_136)
  obtain ⟨cl_141, Ar_141, S_141, H_141⟩ := id (V_ca)
  have hin141 : ¬ ((0 : Int32) < 0 ∨ cl_141.slots.size ≤ ((0 : Int32)).toNatClampNeg) := inb_of S_141 ⟨by decide, by decide⟩
  have hat141 := H_141 _ (own_inb hin141)
  obtain ⟨T6, X6, e6, st6⟩ := getF X5 hx hZ hown (host := "") (Or.inl (ww hw 21 rfl)) Via.refl e5 F_c (g := (mkF m 148 #[.val (.ref o0), s1, .val (.ref o2), s3, .val (.int i4), .val (.int i5), .val (.int (0 : Int32)), s7] [(.ref o0), (.int i5)])) rfl rfl (hb hby d8_148)
  obtain ⟨cl_156, Ar_156, S_156, H_156⟩ := id (V_ca)
  have hin156 : ¬ ((0 : Int32) < 0 ∨ cl_156.slots.size ≤ ((0 : Int32)).toNatClampNeg) := inb_of S_156 ⟨by decide, by decide⟩
  have hat156 := H_156 _ (own_inb hin156)
  obtain ⟨T7, X7, e7, st7⟩ := getF X6 hx hZ hown (host := "") (Or.inl (ww hw 21 rfl)) Via.refl e6 F_c (g := (mkF m 136 #[.val (.ref o0), s1, .val (.ref o2), s3, .val (.int i4), .val (.int (i5 - (D ((0 : Int32)).toNatClampNeg))), .val (.int ((0 : Int32) + (1 : Int32))), s7] [(.ref o0), (.int (i5 - (D ((0 : Int32)).toNatClampNeg)))])) rfl rfl (hb hby d8_136)
  obtain ⟨cl_141_1, Ar_141_1, S_141_1, H_141_1⟩ := id (V_ca)
  have hin141_1 : ¬ (((0 : Int32) + (1 : Int32)) < 0 ∨ cl_141_1.slots.size ≤ (((0 : Int32) + (1 : Int32))).toNatClampNeg) := inb_of S_141_1 ⟨by decide, by decide⟩
  have hat141_1 := H_141_1 _ (own_inb hin141_1)
  obtain ⟨T8, X8, e8, st8⟩ := getF X7 hx hZ hown (host := "") (Or.inl (ww hw 21 rfl)) Via.refl e7 F_c (g := (mkF m 164 #[.val (.ref o0), s1, .val (.ref o2), s3, .val (.int i4), .val (.int (i5 - (D ((0 : Int32)).toNatClampNeg))), .val (.int ((0 : Int32) + (1 : Int32))), s7] [(.ref o0)])) rfl rfl (hb hby d8_164)
  obtain ⟨cl_170, Ar_170, S_170, H_170⟩ := id (V_ca)
  have hin170 : ¬ (((0 : Int32) + (1 : Int32)) < 0 ∨ cl_170.slots.size ≤ (((0 : Int32) + (1 : Int32))).toNatClampNeg) := inb_of S_170 ⟨by decide, by decide⟩
  have hat170 := H_170 _ (own_inb hin170)
  obtain ⟨cl_173, Ar_173, S_173, H_173⟩ := id (V_ca)
  have hin173 : ¬ (((0 : Int32) + (1 : Int32)) < 0 ∨ cl_173.slots.size ≤ (((0 : Int32) + (1 : Int32))).toNatClampNeg) := inb_of S_173 ⟨by decide, by decide⟩
  obtain ⟨T9, h9, X9, e9, W9, st9⟩ := stI X8 hx hZ e8 Ar_173 (j := ((0 : Int32) + (1 : Int32))) hin173 (g := (mkF m 173 #[.val (.ref o0), s1, .val (.ref o2), s3, .val (.int i4), .val (.int (i5 - (D ((0 : Int32)).toNatClampNeg))), .val (.int ((0 : Int32) + (1 : Int32))), s7] [(.int ((D (((0 : Int32) + (1 : Int32))).toNatClampNeg) - (1 : Int32))), (.int ((0 : Int32) + (1 : Int32))), (.ref ca)])) rfl rfl (hb hby d8_173)
  have V_ca_9 := own_AI.put Ar_173 S_173 H_173 W9
  have K9 : Keep h0 h9 [ca, o2] := (Keep.refl h0 [ca, o2]).wr W9 (Or.inl (List.mem_of_getElem? (i := 0) rfl))
  have N9 := Fr.snoc X9 N0 g_ca
  obtain ⟨cl_178, Ar_178, S_178, H_178⟩ := id ((V_o2.other W9 n2c))
  have hin178 : ¬ (((0 : Int32) + (1 : Int32)) < 0 ∨ cl_178.slots.size ≤ (((0 : Int32) + (1 : Int32))).toNatClampNeg) := inb_of S_178 ⟨by decide, by decide⟩
  have hat178 := H_178 _ (own_inb hin178)
  obtain ⟨cl_181, Ar_181, S_181, H_181⟩ := id ((V_o2.other W9 n2c))
  have hin181 : ¬ (((0 : Int32) + (1 : Int32)) < 0 ∨ cl_181.slots.size ≤ (((0 : Int32) + (1 : Int32))).toNatClampNeg) := inb_of S_181 ⟨by decide, by decide⟩
  obtain ⟨T10, h10, X10, e10, W10, st10⟩ := stI X9 hx hZ e9 Ar_181 (j := ((0 : Int32) + (1 : Int32))) hin181 (g := (mkF m 181 #[.val (.ref o0), s1, .val (.ref o2), s3, .val (.int i4), .val (.int (i5 - (D ((0 : Int32)).toNatClampNeg))), .val (.int ((0 : Int32) + (1 : Int32))), s7] [(.int ((Rf (((0 : Int32) + (1 : Int32))).toNatClampNeg) + (1 : Int32))), (.int ((0 : Int32) + (1 : Int32))), (.ref o2)])) rfl rfl (hb hby d8_181)
  have V_o2_10 := own_AI.put Ar_181 S_181 H_181 W10
  have K10 : Keep h0 h10 [ca, o2] := K9.wr W10 (Or.inl (List.mem_of_getElem? (i := 1) rfl))
  have N10 := Fr.snoc X10 N9 g_o2
  refine ⟨T10, _, _, X10, e10, N10, own_kw K10 (by simp), (V_ca_9.other W10 n2c.symm), V_o2_10, fun target kt => ?_⟩
  refine XS.iconst X0.here hx rfl (hb hby d8_130) ?_
  refine XS.istore X0.here hx rfl (hb hby d8_131) rfl (l' := #[.val (.ref o0), s1, .val (.ref o2), s3, .val (.int i4), .val (.int i5), .val (.int (0 : Int32)), s7]) (os8_131_own_dB1 hs6) ?_
  refine XS.iload X0.here hx rfl (hb hby d8_133) rfl ?_
  refine XS.aloadN X0.here hx rfl (hb hby d8_135) rfl rfl ?_
  refine st5 _ ?_
  refine XS.iload X5.here hx rfl (hb hby d8_139) rfl ?_
  refine X5.iaload hx (j := (0 : Int32)) (v := (.int (D ((0 : Int32)).toNatClampNeg))) (by rw [e5]; exact Ar_141.1) (State.isArrayOf_alike hZ.alike Ar_141.2.1) Ar_141.2.2 hin141 hat141 (g := (mkF m 141 #[.val (.ref o0), s1, .val (.ref o2), s3, .val (.int i4), .val (.int i5), .val (.int (0 : Int32)), s7] [(.int (0 : Int32)), (.ref ca), (.int i5)])) rfl rfl (hb hby d8_141) _ ?_
  refine XS.icmpNo X5.here hx rfl (hb hby d8_142) rfl (flt hc142).1 ?_
  refine XS.iload X5.here hx rfl (hb hby d8_145) rfl ?_
  refine XS.aloadN X5.here hx rfl (hb hby d8_147) rfl rfl ?_
  refine st6 _ ?_
  refine XS.iload X6.here hx rfl (hb hby d8_151) rfl ?_
  refine XS.iinc X6.here hx rfl (hb hby d8_153) rfl (l' := #[.val (.ref o0), s1, .val (.ref o2), s3, .val (.int i4), .val (.int i5), .val (.int ((0 : Int32) + (1 : Int32))), s7]) rfl ?_
  refine X6.iaload hx (j := (0 : Int32)) (v := (.int (D ((0 : Int32)).toNatClampNeg))) (by rw [e6]; exact Ar_156.1) (State.isArrayOf_alike hZ.alike Ar_156.2.1) Ar_156.2.2 hin156 hat156 (g := (mkF m 156 #[.val (.ref o0), s1, .val (.ref o2), s3, .val (.int i4), .val (.int i5), .val (.int ((0 : Int32) + (1 : Int32))), s7] [(.int (0 : Int32)), (.ref ca), (.int i5)])) rfl rfl (hb hby d8_156) _ ?_
  refine XS.isub X6.here hx rfl (hb hby d8_157) rfl ?_
  refine XS.istore X6.here hx rfl (hb hby d8_158) rfl (l' := #[.val (.ref o0), s1, .val (.ref o2), s3, .val (.int i4), .val (.int (i5 - (D ((0 : Int32)).toNatClampNeg))), .val (.int ((0 : Int32) + (1 : Int32))), s7]) rfl ?_
  refine XS.goto X6.here hx rfl (pc0 := 160) (pc' := 133) rfl (hb hby d8_160) (by decide) (by decide) ?_
  refine XS.iload X6.here hx rfl (hb hby d8_133) rfl ?_
  refine XS.aloadN X6.here hx rfl (hb hby d8_135) rfl rfl ?_
  refine st7 _ ?_
  refine XS.iload X7.here hx rfl (hb hby d8_139) rfl ?_
  refine X7.iaload hx (j := ((0 : Int32) + (1 : Int32))) (v := (.int (D (((0 : Int32) + (1 : Int32))).toNatClampNeg))) (by rw [e7]; exact Ar_141_1.1) (State.isArrayOf_alike hZ.alike Ar_141_1.2.1) Ar_141_1.2.2 hin141_1 hat141_1 (g := (mkF m 141 #[.val (.ref o0), s1, .val (.ref o2), s3, .val (.int i4), .val (.int (i5 - (D ((0 : Int32)).toNatClampNeg))), .val (.int ((0 : Int32) + (1 : Int32))), s7] [(.int ((0 : Int32) + (1 : Int32))), (.ref ca), (.int (i5 - (D ((0 : Int32)).toNatClampNeg)))])) rfl rfl (hb hby d8_141) _ ?_
  refine XS.icmpYes X7.here hx rfl (pc0 := 142) (pc' := 163) rfl (hb hby d8_142) rfl (tlt hc142_1).1 (by decide) (by decide) ?_
  refine XS.aloadN X7.here hx rfl (hb hby d8_163) rfl rfl ?_
  refine st8 _ ?_
  refine XS.iload X8.here hx rfl (hb hby d8_167) rfl ?_
  jvm_step X8.here [X8.here.top, hx, (hb hby d8_169), Value.category]
  refine X8.iaload hx (j := ((0 : Int32) + (1 : Int32))) (v := (.int (D (((0 : Int32) + (1 : Int32))).toNatClampNeg))) (by rw [e8]; exact Ar_170.1) (State.isArrayOf_alike hZ.alike Ar_170.2.1) Ar_170.2.2 hin170 hat170 (g := (mkF m 170 #[.val (.ref o0), s1, .val (.ref o2), s3, .val (.int i4), .val (.int (i5 - (D ((0 : Int32)).toNatClampNeg))), .val (.int ((0 : Int32) + (1 : Int32))), s7] [(.int ((0 : Int32) + (1 : Int32))), (.ref ca), (.int ((0 : Int32) + (1 : Int32))), (.ref ca)])) rfl rfl (hb hby d8_170) _ ?_
  refine XS.iconst X8.here hx rfl (hb hby d8_171) ?_
  refine XS.isub X8.here hx rfl (hb hby d8_172) rfl ?_
  refine st9 _ ?_
  refine XS.aloadN X9.here hx rfl (hb hby d8_174) rfl rfl ?_
  refine XS.iload X9.here hx rfl (hb hby d8_175) rfl ?_
  jvm_step X9.here [X9.here.top, hx, (hb hby d8_177), Value.category]
  refine X9.iaload hx (j := ((0 : Int32) + (1 : Int32))) (v := (.int (Rf (((0 : Int32) + (1 : Int32))).toNatClampNeg))) (by rw [e9]; exact Ar_178.1) (State.isArrayOf_alike hZ.alike Ar_178.2.1) Ar_178.2.2 hin178 hat178 (g := (mkF m 178 #[.val (.ref o0), s1, .val (.ref o2), s3, .val (.int i4), .val (.int (i5 - (D ((0 : Int32)).toNatClampNeg))), .val (.int ((0 : Int32) + (1 : Int32))), s7] [(.int ((0 : Int32) + (1 : Int32))), (.ref o2), (.int ((0 : Int32) + (1 : Int32))), (.ref o2)])) rfl rfl (hb hby d8_178) _ ?_
  refine XS.iconst X9.here hx rfl (hb hby d8_179) ?_
  refine XS.iadd X9.here hx rfl (hb hby d8_180) rfl ?_
  refine st10 _ ?_
  refine XS.iinc X10.here hx rfl (hb hby d8_182) rfl (l' := #[.val (.ref o0), s1, .val (.ref o2), s3, .val (.int (i4 + (-1 : Int32))), .val (.int (i5 - (D ((0 : Int32)).toNatClampNeg))), .val (.int ((0 : Int32) + (1 : Int32))), s7]) rfl ?_
  refine XS.goto X10.here hx rfl (pc0 := 185) (pc' := 108) rfl (hb hby d8_185) (by decide) (by decide) ?_
  exact kt
theorem os8_131_own_dB2 {z0 : Value} {s1 : Slot} {z2 : Value} {s3 : Slot} {z4 : Value} {z5 : Value} {s6 : Slot} {s7 : Slot} {v : Int32} (h : One s6) : storeLocals #[.val z0, s1, .val z2, s3, .val z4, .val z5, s6, s7] 6 (.int v) = some #[.val z0, s1, .val z2, s3, .val z4, .val z5, .val (.int v), s7] := by
  rcases h with rfl | ⟨w, rfl, hw⟩
  · rfl
  · cases w <;> first | rfl | (simp [Value.category] at hw)
set_option maxRecDepth 65536 in
set_option maxHeartbeats 40000000 in
theorem own_dB2 {p : Program} {l : Launch} {e : Env} {s : State} {m : MethodId} {args : Array Value} {below : List Frame} {meth : Method} {c : Code} {T0 : State} {locs : List Loc} {Z : State} {a0 : Array Value} {h0 : Heap} {n0 : Nat} (o0 : Addr) (s1 : Slot) (o2 : Addr) (s3 : Slot) (i4 : Int32) (i5 : Int32) (s6 : Slot) (s7 : Slot) (ca : Addr) (D : Nat → Int32) (Rf : Nat → Int32)
    (X0 : Stand p l e ({ frames := 3, cells := 0, slots := 0, locals := 100 } : Room) s m args below meth c T0 locs 0 0) (hx : p.tables.exec = Jvm.exec) (hZ : Z.Warmed39 s.vm) (hw : ∀ d ∈ tables_1, d.before a0 Z = true) (hby : c.code = prog_68_method_3_code) (hml : c.maxLocals = 8) (hown : s.vm.findClass "com/example/binario/binario/rules/PassengerBag" = some m.cls) (e0 : T0.heap = h0) (F_c : Fld Z h0 o0 "com/example/binario/binario/rules/PassengerBag" "counts" "[I" (.ref ca)) (V_ca : own_AI Z h0 ca (3 : Int32) D) (V_o2 : own_AI Z h0 o2 (3 : Int32) Rf) (hs6 : One s6) (g_ca : n0 ≤ ca) (g_o2 : n0 ≤ o2) (hc142 : ¬ (i5 < (D ((0 : Int32)).toNatClampNeg))) (hc142_1 : ¬ ((i5 - (D ((0 : Int32)).toNatClampNeg)) < (D (((0 : Int32) + (1 : Int32))).toNatClampNeg))) (hc142_2 : ((i5 - (D ((0 : Int32)).toNatClampNeg)) - (D (((0 : Int32) + (1 : Int32))).toNatClampNeg)) < (D ((((0 : Int32) + (1 : Int32)) + (1 : Int32))).toNatClampNeg)) (Z0 : n0 ≤ h0.size) (N0 : Fr n0 locs) (n0c : o0 ≠ ca) (n2c : o2 ≠ ca) :
    ∃ (T' : State) (h' : Heap) (locs' : List Loc) , Stand p l e ({ frames := 3, cells := 0, slots := 0, locals := 100 } : Room) s m args below meth c T' locs' 0 0 ∧ T'.heap = h' ∧ Fr n0 locs' ∧ Keep h0 h' [ca, o2] ∧ own_AI Z h' ca (3 : Int32) (own_upd D 2 (D 2 - 1)) ∧ own_AI Z h' o2 (3 : Int32) (own_upd Rf 2 (Rf 2 + 1)) ∧
      ∀ target, Steps p.tables e below (T'.setTop (mkF m 108 #[.val (.ref o0), s1, .val (.ref o2), s3, .val (.int (i4 + (-1 : Int32))), .val (.int ((i5 - (D ((0 : Int32)).toNatClampNeg)) - (D (((0 : Int32) + (1 : Int32))).toNatClampNeg))), .val (.int (((0 : Int32) + (1 : Int32)) + (1 : Int32))), s7] [])) target → Steps p.tables e below (T0.setTop (mkF m 130 #[.val (.ref o0), s1, .val (.ref o2), s3, .val (.int i4), .val (.int i5), s6, s7] [])) target := by
  obtain ⟨T5, X5, e5, st5⟩ := getF X0 hx hZ hown (host := "") (Or.inl (ww hw 21 rfl)) Via.refl e0 F_c (g := (mkF m 136 #[.val (.ref o0), s1, .val (.ref o2), s3, .val (.int i4), .val (.int i5), .val (.int (0 : Int32)), s7] [(.ref o0), (.int i5)])) rfl rfl (hb hby d8_136)
  obtain ⟨cl_141, Ar_141, S_141, H_141⟩ := id (V_ca)
  have hin141 : ¬ ((0 : Int32) < 0 ∨ cl_141.slots.size ≤ ((0 : Int32)).toNatClampNeg) := inb_of S_141 ⟨by decide, by decide⟩
  have hat141 := H_141 _ (own_inb hin141)
  obtain ⟨T6, X6, e6, st6⟩ := getF X5 hx hZ hown (host := "") (Or.inl (ww hw 21 rfl)) Via.refl e5 F_c (g := (mkF m 148 #[.val (.ref o0), s1, .val (.ref o2), s3, .val (.int i4), .val (.int i5), .val (.int (0 : Int32)), s7] [(.ref o0), (.int i5)])) rfl rfl (hb hby d8_148)
  obtain ⟨cl_156, Ar_156, S_156, H_156⟩ := id (V_ca)
  have hin156 : ¬ ((0 : Int32) < 0 ∨ cl_156.slots.size ≤ ((0 : Int32)).toNatClampNeg) := inb_of S_156 ⟨by decide, by decide⟩
  have hat156 := H_156 _ (own_inb hin156)
  obtain ⟨T7, X7, e7, st7⟩ := getF X6 hx hZ hown (host := "") (Or.inl (ww hw 21 rfl)) Via.refl e6 F_c (g := (mkF m 136 #[.val (.ref o0), s1, .val (.ref o2), s3, .val (.int i4), .val (.int (i5 - (D ((0 : Int32)).toNatClampNeg))), .val (.int ((0 : Int32) + (1 : Int32))), s7] [(.ref o0), (.int (i5 - (D ((0 : Int32)).toNatClampNeg)))])) rfl rfl (hb hby d8_136)
  obtain ⟨cl_141_1, Ar_141_1, S_141_1, H_141_1⟩ := id (V_ca)
  have hin141_1 : ¬ (((0 : Int32) + (1 : Int32)) < 0 ∨ cl_141_1.slots.size ≤ (((0 : Int32) + (1 : Int32))).toNatClampNeg) := inb_of S_141_1 ⟨by decide, by decide⟩
  have hat141_1 := H_141_1 _ (own_inb hin141_1)
  obtain ⟨T8, X8, e8, st8⟩ := getF X7 hx hZ hown (host := "") (Or.inl (ww hw 21 rfl)) Via.refl e7 F_c (g := (mkF m 148 #[.val (.ref o0), s1, .val (.ref o2), s3, .val (.int i4), .val (.int (i5 - (D ((0 : Int32)).toNatClampNeg))), .val (.int ((0 : Int32) + (1 : Int32))), s7] [(.ref o0), (.int (i5 - (D ((0 : Int32)).toNatClampNeg)))])) rfl rfl (hb hby d8_148)
  obtain ⟨cl_156_1, Ar_156_1, S_156_1, H_156_1⟩ := id (V_ca)
  have hin156_1 : ¬ (((0 : Int32) + (1 : Int32)) < 0 ∨ cl_156_1.slots.size ≤ (((0 : Int32) + (1 : Int32))).toNatClampNeg) := inb_of S_156_1 ⟨by decide, by decide⟩
  have hat156_1 := H_156_1 _ (own_inb hin156_1)
  obtain ⟨T9, X9, e9, st9⟩ := getF X8 hx hZ hown (host := "") (Or.inl (ww hw 21 rfl)) Via.refl e8 F_c (g := (mkF m 136 #[.val (.ref o0), s1, .val (.ref o2), s3, .val (.int i4), .val (.int ((i5 - (D ((0 : Int32)).toNatClampNeg)) - (D (((0 : Int32) + (1 : Int32))).toNatClampNeg))), .val (.int (((0 : Int32) + (1 : Int32)) + (1 : Int32))), s7] [(.ref o0), (.int ((i5 - (D ((0 : Int32)).toNatClampNeg)) - (D (((0 : Int32) + (1 : Int32))).toNatClampNeg)))])) rfl rfl (hb hby d8_136)
  obtain ⟨cl_141_2, Ar_141_2, S_141_2, H_141_2⟩ := id (V_ca)
  have hin141_2 : ¬ ((((0 : Int32) + (1 : Int32)) + (1 : Int32)) < 0 ∨ cl_141_2.slots.size ≤ ((((0 : Int32) + (1 : Int32)) + (1 : Int32))).toNatClampNeg) := inb_of S_141_2 ⟨by decide, by decide⟩
  have hat141_2 := H_141_2 _ (own_inb hin141_2)
  obtain ⟨T10, X10, e10, st10⟩ := getF X9 hx hZ hown (host := "") (Or.inl (ww hw 21 rfl)) Via.refl e9 F_c (g := (mkF m 164 #[.val (.ref o0), s1, .val (.ref o2), s3, .val (.int i4), .val (.int ((i5 - (D ((0 : Int32)).toNatClampNeg)) - (D (((0 : Int32) + (1 : Int32))).toNatClampNeg))), .val (.int (((0 : Int32) + (1 : Int32)) + (1 : Int32))), s7] [(.ref o0)])) rfl rfl (hb hby d8_164)
  obtain ⟨cl_170, Ar_170, S_170, H_170⟩ := id (V_ca)
  have hin170 : ¬ ((((0 : Int32) + (1 : Int32)) + (1 : Int32)) < 0 ∨ cl_170.slots.size ≤ ((((0 : Int32) + (1 : Int32)) + (1 : Int32))).toNatClampNeg) := inb_of S_170 ⟨by decide, by decide⟩
  have hat170 := H_170 _ (own_inb hin170)
  obtain ⟨cl_173, Ar_173, S_173, H_173⟩ := id (V_ca)
  have hin173 : ¬ ((((0 : Int32) + (1 : Int32)) + (1 : Int32)) < 0 ∨ cl_173.slots.size ≤ ((((0 : Int32) + (1 : Int32)) + (1 : Int32))).toNatClampNeg) := inb_of S_173 ⟨by decide, by decide⟩
  obtain ⟨T11, h11, X11, e11, W11, st11⟩ := stI X10 hx hZ e10 Ar_173 (j := (((0 : Int32) + (1 : Int32)) + (1 : Int32))) hin173 (g := (mkF m 173 #[.val (.ref o0), s1, .val (.ref o2), s3, .val (.int i4), .val (.int ((i5 - (D ((0 : Int32)).toNatClampNeg)) - (D (((0 : Int32) + (1 : Int32))).toNatClampNeg))), .val (.int (((0 : Int32) + (1 : Int32)) + (1 : Int32))), s7] [(.int ((D ((((0 : Int32) + (1 : Int32)) + (1 : Int32))).toNatClampNeg) - (1 : Int32))), (.int (((0 : Int32) + (1 : Int32)) + (1 : Int32))), (.ref ca)])) rfl rfl (hb hby d8_173)
  have V_ca_11 := own_AI.put Ar_173 S_173 H_173 W11
  have K11 : Keep h0 h11 [ca, o2] := (Keep.refl h0 [ca, o2]).wr W11 (Or.inl (List.mem_of_getElem? (i := 0) rfl))
  have N11 := Fr.snoc X11 N0 g_ca
  obtain ⟨cl_178, Ar_178, S_178, H_178⟩ := id ((V_o2.other W11 n2c))
  have hin178 : ¬ ((((0 : Int32) + (1 : Int32)) + (1 : Int32)) < 0 ∨ cl_178.slots.size ≤ ((((0 : Int32) + (1 : Int32)) + (1 : Int32))).toNatClampNeg) := inb_of S_178 ⟨by decide, by decide⟩
  have hat178 := H_178 _ (own_inb hin178)
  obtain ⟨cl_181, Ar_181, S_181, H_181⟩ := id ((V_o2.other W11 n2c))
  have hin181 : ¬ ((((0 : Int32) + (1 : Int32)) + (1 : Int32)) < 0 ∨ cl_181.slots.size ≤ ((((0 : Int32) + (1 : Int32)) + (1 : Int32))).toNatClampNeg) := inb_of S_181 ⟨by decide, by decide⟩
  obtain ⟨T12, h12, X12, e12, W12, st12⟩ := stI X11 hx hZ e11 Ar_181 (j := (((0 : Int32) + (1 : Int32)) + (1 : Int32))) hin181 (g := (mkF m 181 #[.val (.ref o0), s1, .val (.ref o2), s3, .val (.int i4), .val (.int ((i5 - (D ((0 : Int32)).toNatClampNeg)) - (D (((0 : Int32) + (1 : Int32))).toNatClampNeg))), .val (.int (((0 : Int32) + (1 : Int32)) + (1 : Int32))), s7] [(.int ((Rf ((((0 : Int32) + (1 : Int32)) + (1 : Int32))).toNatClampNeg) + (1 : Int32))), (.int (((0 : Int32) + (1 : Int32)) + (1 : Int32))), (.ref o2)])) rfl rfl (hb hby d8_181)
  have V_o2_12 := own_AI.put Ar_181 S_181 H_181 W12
  have K12 : Keep h0 h12 [ca, o2] := K11.wr W12 (Or.inl (List.mem_of_getElem? (i := 1) rfl))
  have N12 := Fr.snoc X12 N11 g_o2
  refine ⟨T12, _, _, X12, e12, N12, own_kw K12 (by simp), (V_ca_11.other W12 n2c.symm), V_o2_12, fun target kt => ?_⟩
  refine XS.iconst X0.here hx rfl (hb hby d8_130) ?_
  refine XS.istore X0.here hx rfl (hb hby d8_131) rfl (l' := #[.val (.ref o0), s1, .val (.ref o2), s3, .val (.int i4), .val (.int i5), .val (.int (0 : Int32)), s7]) (os8_131_own_dB2 hs6) ?_
  refine XS.iload X0.here hx rfl (hb hby d8_133) rfl ?_
  refine XS.aloadN X0.here hx rfl (hb hby d8_135) rfl rfl ?_
  refine st5 _ ?_
  refine XS.iload X5.here hx rfl (hb hby d8_139) rfl ?_
  refine X5.iaload hx (j := (0 : Int32)) (v := (.int (D ((0 : Int32)).toNatClampNeg))) (by rw [e5]; exact Ar_141.1) (State.isArrayOf_alike hZ.alike Ar_141.2.1) Ar_141.2.2 hin141 hat141 (g := (mkF m 141 #[.val (.ref o0), s1, .val (.ref o2), s3, .val (.int i4), .val (.int i5), .val (.int (0 : Int32)), s7] [(.int (0 : Int32)), (.ref ca), (.int i5)])) rfl rfl (hb hby d8_141) _ ?_
  refine XS.icmpNo X5.here hx rfl (hb hby d8_142) rfl (flt hc142).1 ?_
  refine XS.iload X5.here hx rfl (hb hby d8_145) rfl ?_
  refine XS.aloadN X5.here hx rfl (hb hby d8_147) rfl rfl ?_
  refine st6 _ ?_
  refine XS.iload X6.here hx rfl (hb hby d8_151) rfl ?_
  refine XS.iinc X6.here hx rfl (hb hby d8_153) rfl (l' := #[.val (.ref o0), s1, .val (.ref o2), s3, .val (.int i4), .val (.int i5), .val (.int ((0 : Int32) + (1 : Int32))), s7]) rfl ?_
  refine X6.iaload hx (j := (0 : Int32)) (v := (.int (D ((0 : Int32)).toNatClampNeg))) (by rw [e6]; exact Ar_156.1) (State.isArrayOf_alike hZ.alike Ar_156.2.1) Ar_156.2.2 hin156 hat156 (g := (mkF m 156 #[.val (.ref o0), s1, .val (.ref o2), s3, .val (.int i4), .val (.int i5), .val (.int ((0 : Int32) + (1 : Int32))), s7] [(.int (0 : Int32)), (.ref ca), (.int i5)])) rfl rfl (hb hby d8_156) _ ?_
  refine XS.isub X6.here hx rfl (hb hby d8_157) rfl ?_
  refine XS.istore X6.here hx rfl (hb hby d8_158) rfl (l' := #[.val (.ref o0), s1, .val (.ref o2), s3, .val (.int i4), .val (.int (i5 - (D ((0 : Int32)).toNatClampNeg))), .val (.int ((0 : Int32) + (1 : Int32))), s7]) rfl ?_
  refine XS.goto X6.here hx rfl (pc0 := 160) (pc' := 133) rfl (hb hby d8_160) (by decide) (by decide) ?_
  refine XS.iload X6.here hx rfl (hb hby d8_133) rfl ?_
  refine XS.aloadN X6.here hx rfl (hb hby d8_135) rfl rfl ?_
  refine st7 _ ?_
  refine XS.iload X7.here hx rfl (hb hby d8_139) rfl ?_
  refine X7.iaload hx (j := ((0 : Int32) + (1 : Int32))) (v := (.int (D (((0 : Int32) + (1 : Int32))).toNatClampNeg))) (by rw [e7]; exact Ar_141_1.1) (State.isArrayOf_alike hZ.alike Ar_141_1.2.1) Ar_141_1.2.2 hin141_1 hat141_1 (g := (mkF m 141 #[.val (.ref o0), s1, .val (.ref o2), s3, .val (.int i4), .val (.int (i5 - (D ((0 : Int32)).toNatClampNeg))), .val (.int ((0 : Int32) + (1 : Int32))), s7] [(.int ((0 : Int32) + (1 : Int32))), (.ref ca), (.int (i5 - (D ((0 : Int32)).toNatClampNeg)))])) rfl rfl (hb hby d8_141) _ ?_
  refine XS.icmpNo X7.here hx rfl (hb hby d8_142) rfl (flt hc142_1).1 ?_
  refine XS.iload X7.here hx rfl (hb hby d8_145) rfl ?_
  refine XS.aloadN X7.here hx rfl (hb hby d8_147) rfl rfl ?_
  refine st8 _ ?_
  refine XS.iload X8.here hx rfl (hb hby d8_151) rfl ?_
  refine XS.iinc X8.here hx rfl (hb hby d8_153) rfl (l' := #[.val (.ref o0), s1, .val (.ref o2), s3, .val (.int i4), .val (.int (i5 - (D ((0 : Int32)).toNatClampNeg))), .val (.int (((0 : Int32) + (1 : Int32)) + (1 : Int32))), s7]) rfl ?_
  refine X8.iaload hx (j := ((0 : Int32) + (1 : Int32))) (v := (.int (D (((0 : Int32) + (1 : Int32))).toNatClampNeg))) (by rw [e8]; exact Ar_156_1.1) (State.isArrayOf_alike hZ.alike Ar_156_1.2.1) Ar_156_1.2.2 hin156_1 hat156_1 (g := (mkF m 156 #[.val (.ref o0), s1, .val (.ref o2), s3, .val (.int i4), .val (.int (i5 - (D ((0 : Int32)).toNatClampNeg))), .val (.int (((0 : Int32) + (1 : Int32)) + (1 : Int32))), s7] [(.int ((0 : Int32) + (1 : Int32))), (.ref ca), (.int (i5 - (D ((0 : Int32)).toNatClampNeg)))])) rfl rfl (hb hby d8_156) _ ?_
  refine XS.isub X8.here hx rfl (hb hby d8_157) rfl ?_
  refine XS.istore X8.here hx rfl (hb hby d8_158) rfl (l' := #[.val (.ref o0), s1, .val (.ref o2), s3, .val (.int i4), .val (.int ((i5 - (D ((0 : Int32)).toNatClampNeg)) - (D (((0 : Int32) + (1 : Int32))).toNatClampNeg))), .val (.int (((0 : Int32) + (1 : Int32)) + (1 : Int32))), s7]) rfl ?_
  refine XS.goto X8.here hx rfl (pc0 := 160) (pc' := 133) rfl (hb hby d8_160) (by decide) (by decide) ?_
  refine XS.iload X8.here hx rfl (hb hby d8_133) rfl ?_
  refine XS.aloadN X8.here hx rfl (hb hby d8_135) rfl rfl ?_
  refine st9 _ ?_
  refine XS.iload X9.here hx rfl (hb hby d8_139) rfl ?_
  refine X9.iaload hx (j := (((0 : Int32) + (1 : Int32)) + (1 : Int32))) (v := (.int (D ((((0 : Int32) + (1 : Int32)) + (1 : Int32))).toNatClampNeg))) (by rw [e9]; exact Ar_141_2.1) (State.isArrayOf_alike hZ.alike Ar_141_2.2.1) Ar_141_2.2.2 hin141_2 hat141_2 (g := (mkF m 141 #[.val (.ref o0), s1, .val (.ref o2), s3, .val (.int i4), .val (.int ((i5 - (D ((0 : Int32)).toNatClampNeg)) - (D (((0 : Int32) + (1 : Int32))).toNatClampNeg))), .val (.int (((0 : Int32) + (1 : Int32)) + (1 : Int32))), s7] [(.int (((0 : Int32) + (1 : Int32)) + (1 : Int32))), (.ref ca), (.int ((i5 - (D ((0 : Int32)).toNatClampNeg)) - (D (((0 : Int32) + (1 : Int32))).toNatClampNeg)))])) rfl rfl (hb hby d8_141) _ ?_
  refine XS.icmpYes X9.here hx rfl (pc0 := 142) (pc' := 163) rfl (hb hby d8_142) rfl (tlt hc142_2).1 (by decide) (by decide) ?_
  refine XS.aloadN X9.here hx rfl (hb hby d8_163) rfl rfl ?_
  refine st10 _ ?_
  refine XS.iload X10.here hx rfl (hb hby d8_167) rfl ?_
  jvm_step X10.here [X10.here.top, hx, (hb hby d8_169), Value.category]
  refine X10.iaload hx (j := (((0 : Int32) + (1 : Int32)) + (1 : Int32))) (v := (.int (D ((((0 : Int32) + (1 : Int32)) + (1 : Int32))).toNatClampNeg))) (by rw [e10]; exact Ar_170.1) (State.isArrayOf_alike hZ.alike Ar_170.2.1) Ar_170.2.2 hin170 hat170 (g := (mkF m 170 #[.val (.ref o0), s1, .val (.ref o2), s3, .val (.int i4), .val (.int ((i5 - (D ((0 : Int32)).toNatClampNeg)) - (D (((0 : Int32) + (1 : Int32))).toNatClampNeg))), .val (.int (((0 : Int32) + (1 : Int32)) + (1 : Int32))), s7] [(.int (((0 : Int32) + (1 : Int32)) + (1 : Int32))), (.ref ca), (.int (((0 : Int32) + (1 : Int32)) + (1 : Int32))), (.ref ca)])) rfl rfl (hb hby d8_170) _ ?_
  refine XS.iconst X10.here hx rfl (hb hby d8_171) ?_
  refine XS.isub X10.here hx rfl (hb hby d8_172) rfl ?_
  refine st11 _ ?_
  refine XS.aloadN X11.here hx rfl (hb hby d8_174) rfl rfl ?_
  refine XS.iload X11.here hx rfl (hb hby d8_175) rfl ?_
  jvm_step X11.here [X11.here.top, hx, (hb hby d8_177), Value.category]
  refine X11.iaload hx (j := (((0 : Int32) + (1 : Int32)) + (1 : Int32))) (v := (.int (Rf ((((0 : Int32) + (1 : Int32)) + (1 : Int32))).toNatClampNeg))) (by rw [e11]; exact Ar_178.1) (State.isArrayOf_alike hZ.alike Ar_178.2.1) Ar_178.2.2 hin178 hat178 (g := (mkF m 178 #[.val (.ref o0), s1, .val (.ref o2), s3, .val (.int i4), .val (.int ((i5 - (D ((0 : Int32)).toNatClampNeg)) - (D (((0 : Int32) + (1 : Int32))).toNatClampNeg))), .val (.int (((0 : Int32) + (1 : Int32)) + (1 : Int32))), s7] [(.int (((0 : Int32) + (1 : Int32)) + (1 : Int32))), (.ref o2), (.int (((0 : Int32) + (1 : Int32)) + (1 : Int32))), (.ref o2)])) rfl rfl (hb hby d8_178) _ ?_
  refine XS.iconst X11.here hx rfl (hb hby d8_179) ?_
  refine XS.iadd X11.here hx rfl (hb hby d8_180) rfl ?_
  refine st12 _ ?_
  refine XS.iinc X12.here hx rfl (hb hby d8_182) rfl (l' := #[.val (.ref o0), s1, .val (.ref o2), s3, .val (.int (i4 + (-1 : Int32))), .val (.int ((i5 - (D ((0 : Int32)).toNatClampNeg)) - (D (((0 : Int32) + (1 : Int32))).toNatClampNeg))), .val (.int (((0 : Int32) + (1 : Int32)) + (1 : Int32))), s7]) rfl ?_
  refine XS.goto X12.here hx rfl (pc0 := 185) (pc' := 108) rfl (hb hby d8_185) (by decide) (by decide) ?_
  exact kt
theorem d8_108 : decode prog_68_method_3_code 108 = .ok (.iload 4, 2) := by decide +kernel
theorem d8_110 : decode prog_68_method_3_code 110 = .ok (.ifCond .le 78, 3) := by decide +kernel
theorem own_n2 {x a b : Addr} (h1 : x ≠ a) (h2 : x ≠ b) : x ∉ [a, b] := by
  intro m
  simp only [List.mem_cons, List.not_mem_nil, or_false] at m
  rcases m with m | m
  · exact h1 m
  · exact h2 m
set_option maxHeartbeats 4000000 in
/-- the draws one at a time, all that are left -/
theorem own_dr {p : Program} {l : Launch} {e : Env} {s : State} {m : MethodId} {args : Array Value} {below : List Frame} {meth : Method} {c : Code} {T0 : State} {locs : List Loc} {Z : State} {a0 : Array Value} {h : Heap} {n0 : Nat} (o0 : Addr) (s1 : Slot) (o2 o3 ca : Addr) (s7 : Slot) (E0 : Nat → Int32) (okE : own_ok3 E0) (g_o0 : n0 ≤ o0) (g_o2 : n0 ≤ o2) (g_o3 : n0 ≤ o3) (g_ca : n0 ≤ ca) (n02 : o0 ≠ o2) (n03 : o0 ≠ o3) (n0c : o0 ≠ ca) (n23 : o2 ≠ o3) (n2c : o2 ≠ ca) (n3c : o3 ≠ ca)
    (i4 : Int32) (s5 s6 : Slot) (st : Int64) (D Rf : Nat → Int32) (o5 : One s5) (o6 : One s6) (N : Fr n0 locs) (Zs : n0 ≤ h.size) (Ea : Exa Z h o0 "com/example/binario/binario/rules/PassengerBag") (Fc : Fld Z h o0 "com/example/binario/binario/rules/PassengerBag" "counts" "[I" (.ref ca)) (Fl : Fld Z h o0 "com/example/binario/binario/rules/PassengerBag" "left" "I" (.int i4)) (Es : Exa Z h o3 "com/example/binario/binario/rules/SeededRandom") (Fs : Fld Z h o3 "com/example/binario/binario/rules/SeededRandom" "state" "J" (.long st))
    (Vc : own_AI Z h ca (3 : Int32) D) (Vr : own_AI Z h o2 (3 : Int32) Rf) (ok : own_ok3 D) (hs : i4.toInt = (D 0).toInt + (D 1).toInt + (D 2).toInt) (hE : ∀ i, i < 3 → (Rf i).toInt + (D i).toInt = (E0 i).toInt)
    (X0 : Stand p l e ({ frames := 3, cells := 0, slots := 0, locals := 100 } : Room) s m args below meth c T0 locs 0 0) (hx : p.tables.exec = Jvm.exec) (hZ : Z.Warmed39 s.vm) (hw : ∀ d ∈ tables_1, d.before a0 Z = true) (hby : c.code = prog_68_method_3_code) (hml : c.maxLocals = 8) (hown : s.vm.findClass "com/example/binario/binario/rules/PassengerBag" = some m.cls) (e0 : T0.heap = h) :
    ∃ (T' : State) (h' : Heap) (locs' : List Loc) (t4 t5 t6 : Slot), Stand p l e ({ frames := 3, cells := 0, slots := 0, locals := 100 } : Room) s m args below meth c T' locs' 0 0 ∧ T'.heap = h' ∧ Fr n0 locs' ∧ Keep h T'.heap [o0, o3, ca, o2] ∧ own_AI Z T'.heap o2 (3 : Int32) E0 ∧
      ∀ target, Steps p.tables e below (T'.setTop (mkF m 188 #[.val (.ref o0), s1, .val (.ref o2), .val (.ref o3), t4, t5, t6, s7] [])) target → Steps p.tables e below (T0.setTop (mkF m 108 #[.val (.ref o0), s1, .val (.ref o2), .val (.ref o3), .val (.int i4), s5, s6, s7] [])) target := by
  have z0 : (0 : Int32).toInt = 0 := rfl
  have z1 : (1 : Int32).toInt = 1 := rfl
  obtain ⟨k, hk⟩ : ∃ k : Nat, i4.toInt = k := by
    obtain ⟨a, b, c', -⟩ := ok
    exact Int.eq_ofNat_of_zero_le (by omega)
  induction k generalizing i4 s5 s6 st D Rf T0 locs h with
  | zero =>
    obtain ⟨a, b, c', -⟩ := ok
    have q : ¬ (0 : Int32) < i4 := by rw [Int32.lt_iff_toInt_lt]; omega
    refine ⟨T0, _, locs, .val (.int i4), s5, s6, X0, rfl, N, by rw [e0]; exact Keep.refl _ _, by rw [e0]; exact own_AI.cong Vr (own_c3 (Int32.toInt_inj.mp (by have := hE 0 (by decide); omega)) (Int32.toInt_inj.mp (by have := hE 1 (by decide); omega)) (Int32.toInt_inj.mp (by have := hE 2 (by decide); omega))), fun target kt => ?_⟩
    refine XS.iload X0.here hx rfl (hb hby d8_108) rfl ?_
    refine XS.ifYes X0.here hx rfl (pc0 := 110) (pc' := 188) rfl (hb hby d8_110) rfl ((if0 _ _).trans (flt q).2.2.2) (by decide) (by decide) ?_
    exact kt
  | succ k ih =>
    have q : (0 : Int32) < i4 := by rw [Int32.lt_iff_toInt_lt]; omega
    have q1 : ¬ i4 < 1 := by rw [Int32.lt_iff_toInt_lt]; omega
    obtain ⟨T1, h1, L1, r, st1, X1, e1, N1, K1, r0, rl, Fl1, Fc1, Fs1, stA⟩ := own_dA o0 s1 (.val (.ref o2)) o3 (.val (.int i4)) s5 s6 s7 i4 ca st X0 hx hZ hw hby hml hown e0 Ea Fl Fc Es Fs q1 n03 (hs5 := o5) (g_o0 := g_o0) (Z0 := Zs) (N0 := N) (g_o3 := g_o3)
    have Ea1 := Ea.keep K1
    have Es1 := Es.keep K1
    have Vc1 := Vc.keep K1 (own_n2 n0c.symm n3c.symm)
    have Vr1 := Vr.keep K1 (own_n2 n02.symm n23)
    have Z1 := Nat.le_trans Zs K1.1
    rw [Int32.lt_iff_toInt_lt] at r0 rl
    have go : ∀ (j : Nat) (T2 : State) (h2 : Heap) (L2 : List Loc) (d5 d6 : Int32), j < 3 → 1 ≤ (D j).toInt → Stand p l e ({ frames := 3, cells := 0, slots := 0, locals := 100 } : Room) s m args below meth c T2 L2 0 0 → T2.heap = h2 → Fr n0 L2 → Keep h1 h2 [ca, o2] → own_AI Z h2 ca (3 : Int32) (own_upd D j (D j - 1)) → own_AI Z h2 o2 (3 : Int32) (own_upd Rf j (Rf j + 1)) →
        (∀ target, Steps p.tables e below (T2.setTop (mkF m 108 #[.val (.ref o0), s1, .val (.ref o2), .val (.ref o3), .val (.int (i4 + (-1 : Int32))), .val (.int d5), .val (.int d6), s7] [])) target → Steps p.tables e below (T1.setTop (mkF m 130 #[.val (.ref o0), s1, .val (.ref o2), .val (.ref o3), .val (.int i4), .val (.int r), s6, s7] [])) target) →
        ∃ (T' : State) (h' : Heap) (locs' : List Loc) (t4 t5 t6 : Slot), Stand p l e ({ frames := 3, cells := 0, slots := 0, locals := 100 } : Room) s m args below meth c T' locs' 0 0 ∧ T'.heap = h' ∧ Fr n0 locs' ∧ Keep h T'.heap [o0, o3, ca, o2] ∧ own_AI Z T'.heap o2 (3 : Int32) E0 ∧
          ∀ target, Steps p.tables e below (T'.setTop (mkF m 188 #[.val (.ref o0), s1, .val (.ref o2), .val (.ref o3), t4, t5, t6, s7] [])) target → Steps p.tables e below (T0.setTop (mkF m 108 #[.val (.ref o0), s1, .val (.ref o2), .val (.ref o3), .val (.int i4), s5, s6, s7] [])) target := by
      intro j T2 h2 L2 d5 d6 hj hd X2 e2 N2 K2 V2 W2 stB
      obtain ⟨okN, sumN, hEN⟩ := own_step (E0 := E0) j hj ok okE hd hE
      have ei : (i4 - (1 : Int32)).toInt = i4.toInt - 1 := by rw [own_sui (by rw [z1]; decide) (by omega), z1]
      have em : i4 + (-1 : Int32) = i4 - (1 : Int32) := by rw [Int32.sub_eq_add_neg]
      obtain ⟨T3, h3, L3, t4, t5, t6, X3, e3, N3, K3, V3, st3⟩ := ih (i4 - (1 : Int32)) (.val (.int d5)) (.val (.int d6)) st1 (own_upd D j (D j - 1)) (own_upd Rf j (Rf j + 1)) (One.val rfl) (One.val rfl) N2 (Nat.le_trans Z1 K2.1) (Ea1.keep K2) (Fc1.keep K2 (own_n2 n0c n02)) (Fl1.keep K2 (own_n2 n0c n02)) (Es1.keep K2) (Fs1.keep K2 (own_n2 n3c n23.symm)) V2 W2 okN (by omega) hEN X2 e2 (by omega)
      rw [em] at stB
      refine ⟨T3, h3, L3, t4, t5, t6, X3, e3, N3, ((own_kw K1 (by simp)).trans (own_kw K2 (by simp)) (fun x hx => Or.inl hx)).trans K3 (fun x hx => Or.inl hx), V3, fun target kt => ?_⟩
      refine XS.iload X0.here hx rfl (hb hby d8_108) rfl ?_
      refine XS.ifNo X0.here hx rfl (hb hby d8_110) rfl ((if0 _ _).trans (tlt q).2.2.2) ?_
      refine stA _ ?_
      refine stB _ ?_
      exact st3 _ kt
    obtain ⟨a, b, c', d⟩ := id ok
    by_cases c0 : r < D 0
    · obtain ⟨T2, h2, L2, X2, e2, N2, K2, V2, W2, stB⟩ := own_dB0 o0 s1 o2 (.val (.ref o3)) i4 r s6 s7 ca D Rf X1 hx hZ hw hby hml hown e1 Fc1 Vc1 Vr1 (hs6 := o6) (g_ca := g_ca) (g_o2 := g_o2) (hc142 := c0) (Z0 := Z1) (N0 := N1) (n0c := n0c) (n2c := n2c)
      rw [Int32.lt_iff_toInt_lt] at c0
      exact go 0 T2 h2 L2 _ _ (by decide) (by omega) X2 e2 N2 K2 V2 W2 stB
    · have c0' := c0
      rw [Int32.lt_iff_toInt_lt] at c0'
      have e10 : (r - D 0).toInt = r.toInt - (D 0).toInt := own_sui a (by omega)
      by_cases c1 : (r - D 0) < D 1
      · obtain ⟨T2, h2, L2, X2, e2, N2, K2, V2, W2, stB⟩ := own_dB1 o0 s1 o2 (.val (.ref o3)) i4 r s6 s7 ca D Rf X1 hx hZ hw hby hml hown e1 Fc1 Vc1 Vr1 (hs6 := o6) (g_ca := g_ca) (g_o2 := g_o2) (hc142 := c0) (hc142_1 := c1) (Z0 := Z1) (N0 := N1) (n0c := n0c) (n2c := n2c)
        rw [Int32.lt_iff_toInt_lt] at c1
        exact go 1 T2 h2 L2 _ _ (by decide) (by omega) X2 e2 N2 K2 V2 W2 stB
      · have c1' := c1
        rw [Int32.lt_iff_toInt_lt] at c1'
        have e11 : (r - D 0 - D 1).toInt = r.toInt - (D 0).toInt - (D 1).toInt := by rw [own_sui b (by omega), e10]
        have c2 : (r - D 0 - D 1) < D 2 := by rw [Int32.lt_iff_toInt_lt]; omega
        obtain ⟨T2, h2, L2, X2, e2, N2, K2, V2, W2, stB⟩ := own_dB2 o0 s1 o2 (.val (.ref o3)) i4 r s6 s7 ca D Rf X1 hx hZ hw hby hml hown e1 Fc1 Vc1 Vr1 (hs6 := o6) (g_ca := g_ca) (g_o2 := g_o2) (hc142 := c0) (hc142_1 := c1) (hc142_2 := c2) (Z0 := Z1) (N0 := N1) (n0c := n0c) (n2c := n2c)
        exact go 2 T2 h2 L2 _ _ (by decide) (by omega) X2 e2 N2 K2 V2 W2 stB
theorem d8_0 : decode prog_68_method_3_code 0 = .ok (.iload_n 1, 1) := by decide +kernel
theorem d8_1 : decode prog_68_method_3_code 1 = .ok (.sipush 128, 3) := by decide +kernel
theorem d8_4 : decode prog_68_method_3_code 4 = .ok (.if_icmp .le 96, 3) := by decide +kernel
theorem d8_7 : decode prog_68_method_3_code 7 = .ok (.aload_n 0, 1) := by decide +kernel
theorem d8_8 : decode prog_68_method_3_code 8 = .ok (.getfield 18, 3) := by decide +kernel
theorem d8_11 : decode prog_68_method_3_code 11 = .ok (.istore 4, 2) := by decide +kernel
theorem d8_13 : decode prog_68_method_3_code 13 = .ok (.iload_n 1, 1) := by decide +kernel
theorem d8_14 : decode prog_68_method_3_code 14 = .ok (.istore 5, 2) := by decide +kernel
theorem d8_16 : decode prog_68_method_3_code 16 = .ok (.iconst 0, 1) := by decide +kernel
theorem d8_17 : decode prog_68_method_3_code 17 = .ok (.istore 6, 2) := by decide +kernel
theorem d8_19 : decode prog_68_method_3_code 19 = .ok (.iload 6, 2) := by decide +kernel
theorem d8_21 : decode prog_68_method_3_code 21 = .ok (.aload_n 0, 1) := by decide +kernel
theorem d8_22 : decode prog_68_method_3_code 22 = .ok (.getfield 13, 3) := by decide +kernel
theorem d8_25 : decode prog_68_method_3_code 25 = .ok (.arraylength, 1) := by decide +kernel
theorem d8_26 : decode prog_68_method_3_code 26 = .ok (.if_icmp .ge 63, 3) := by decide +kernel
theorem d8_29 : decode prog_68_method_3_code 29 = .ok (.aload_n 3, 1) := by decide +kernel
theorem d8_30 : decode prog_68_method_3_code 30 = .ok (.iload 4, 2) := by decide +kernel
theorem d8_32 : decode prog_68_method_3_code 32 = .ok (.aload_n 0, 1) := by decide +kernel
theorem d8_33 : decode prog_68_method_3_code 33 = .ok (.getfield 13, 3) := by decide +kernel
theorem d8_36 : decode prog_68_method_3_code 36 = .ok (.iload 6, 2) := by decide +kernel
theorem d8_38 : decode prog_68_method_3_code 38 = .ok (.iaload, 1) := by decide +kernel
theorem d8_39 : decode prog_68_method_3_code 39 = .ok (.iload 5, 2) := by decide +kernel
theorem d8_41 : decode prog_68_method_3_code 41 = .ok (.invokestatic 28, 3) := by decide +kernel
theorem d8_44 : decode prog_68_method_3_code 44 = .ok (.istore 7, 2) := by decide +kernel
theorem d8_46 : decode prog_68_method_3_code 46 = .ok (.iload 4, 2) := by decide +kernel
theorem d8_48 : decode prog_68_method_3_code 48 = .ok (.aload_n 0, 1) := by decide +kernel
theorem d8_49 : decode prog_68_method_3_code 49 = .ok (.getfield 13, 3) := by decide +kernel
theorem d8_52 : decode prog_68_method_3_code 52 = .ok (.iload 6, 2) := by decide +kernel
theorem d8_54 : decode prog_68_method_3_code 54 = .ok (.iaload, 1) := by decide +kernel
theorem d8_55 : decode prog_68_method_3_code 55 = .ok (.isub, 1) := by decide +kernel
theorem d8_56 : decode prog_68_method_3_code 56 = .ok (.istore 4, 2) := by decide +kernel
theorem d8_58 : decode prog_68_method_3_code 58 = .ok (.aload_n 0, 1) := by decide +kernel
theorem d8_59 : decode prog_68_method_3_code 59 = .ok (.getfield 13, 3) := by decide +kernel
theorem d8_62 : decode prog_68_method_3_code 62 = .ok (.iload 6, 2) := by decide +kernel
theorem d8_64 : decode prog_68_method_3_code 64 = .ok (.dup2, 1) := by decide +kernel
theorem d8_65 : decode prog_68_method_3_code 65 = .ok (.iaload, 1) := by decide +kernel
theorem d8_66 : decode prog_68_method_3_code 66 = .ok (.iload 7, 2) := by decide +kernel
theorem d8_68 : decode prog_68_method_3_code 68 = .ok (.isub, 1) := by decide +kernel
theorem d8_69 : decode prog_68_method_3_code 69 = .ok (.iastore, 1) := by decide +kernel
theorem d8_70 : decode prog_68_method_3_code 70 = .ok (.aload_n 2, 1) := by decide +kernel
theorem d8_71 : decode prog_68_method_3_code 71 = .ok (.iload 6, 2) := by decide +kernel
theorem d8_73 : decode prog_68_method_3_code 73 = .ok (.iload 7, 2) := by decide +kernel
theorem d8_75 : decode prog_68_method_3_code 75 = .ok (.iastore, 1) := by decide +kernel
theorem d8_76 : decode prog_68_method_3_code 76 = .ok (.iload 5, 2) := by decide +kernel
theorem d8_78 : decode prog_68_method_3_code 78 = .ok (.iload 7, 2) := by decide +kernel
theorem d8_80 : decode prog_68_method_3_code 80 = .ok (.isub, 1) := by decide +kernel
theorem d8_81 : decode prog_68_method_3_code 81 = .ok (.istore 5, 2) := by decide +kernel
theorem d8_83 : decode prog_68_method_3_code 83 = .ok (.iinc 6 1, 3) := by decide +kernel
theorem d8_86 : decode prog_68_method_3_code 86 = .ok (.goto (-67), 3) := by decide +kernel
theorem d8_89 : decode prog_68_method_3_code 89 = .ok (.aload_n 0, 1) := by decide +kernel
theorem d8_90 : decode prog_68_method_3_code 90 = .ok (.dup, 1) := by decide +kernel
theorem d8_91 : decode prog_68_method_3_code 91 = .ok (.getfield 18, 3) := by decide +kernel
theorem d8_94 : decode prog_68_method_3_code 94 = .ok (.iload_n 1, 1) := by decide +kernel
theorem d8_95 : decode prog_68_method_3_code 95 = .ok (.isub, 1) := by decide +kernel
theorem d8_96 : decode prog_68_method_3_code 96 = .ok (.putfield 18, 3) := by decide +kernel
theorem d8_99 : decode prog_68_method_3_code 99 = .ok (.return_, 1) := by decide +kernel
theorem pn_8 : plainName "com/example/binario/binario/rules/PassengerBag" = true := by first | (simp [plainName, overriddenIn]; done) | decide +kernel
theorem pd_8_12 : parseMethodDescriptor "(Lcom/example/binario/binario/rules/SeededRandom;III)I" = some ⟨[(.object "com/example/binario/binario/rules/SeededRandom"), .int, .int, .int], some .int⟩ := by decide +kernel
theorem ef_8_0 (m : MethodId) (x0 : Addr) (x1 : Int32) (x2 : Addr) (x3 : Addr) : entryFrame m #[(.ref x0), (.int x1), (.ref x2), (.ref x3)] 8 = mkF m 0 #[.val (.ref x0), .val (.int x1), .val (.ref x2), .val (.ref x3), .unset, .unset, .unset, .unset] [] := by first | (simp [entryFrame, mkF, argsToLocals, Value.category]; done) | rfl
def Q8_0 (Z : State) (a1 : Addr) (p2 : Int32) (a3 : Addr) (a4 : Addr) (ca : Addr) (st : Int64) (D : Nat → Int32) (Rf : Nat → Int32) (h0 : Heap) (n0 : Nat) (v : Option Value) (h : Heap) (L : List Loc) : Prop := v = none ∧ Fr n0 L ∧ Keep h0 h [a1, ca, a3, a4] ∧ own_AI Z h a3 (3 : Int32) D
set_option maxRecDepth 65536 in
set_option maxHeartbeats 40000000 in
theorem rm8_0 (l : Launch) (Z : State) (a0 : Array Value) (hw : ∀ d ∈ tables_1, d.before a0 Z = true) (ws : List Jvm.Cond) (a1 : Addr) (p2 : Int32) (a3 : Addr) (a4 : Addr) (ca : Addr) (st : Int64) (D : Nat → Int32) (Rf : Nat → Int32) (h0 : Heap) (n0 : Nat) (Z0 : n0 ≤ h0.size) (E_a1 : Exa Z h0 a1 "com/example/binario/binario/rules/PassengerBag") (F_c : Fld Z h0 a1 "com/example/binario/binario/rules/PassengerBag" "counts" "[I" (.ref ca)) (F_l : Fld Z h0 a1 "com/example/binario/binario/rules/PassengerBag" "left" "I" (.int p2)) (V_ca : own_AI Z h0 ca (3 : Int32) D) (V_a3 : own_AI Z h0 a3 (3 : Int32) Rf) (E_a4 : Exa Z h0 a4 "com/example/binario/binario/rules/SeededRandom") (F_s : Fld Z h0 a4 "com/example/binario/binario/rules/SeededRandom" "state" "J" (.long st)) (ok : own_ok3 D) (hs : p2.toInt = (D 0).toInt + (D 1).toInt + (D 2).toInt) (g_a1 : n0 ≤ a1) (g_ca : n0 ≤ ca) (g_a3 : n0 ≤ a3) (g_a4 : n0 ≤ a4) (n13 : a1 ≠ a3) (n14 : a1 ≠ a4) (n1c : a1 ≠ ca) (n34 : a3 ≠ a4) (n3c : a3 ≠ ca) (n4c : a4 ≠ ca) (hc4 : (128 : Int32) < p2) :
    MetFree l (⟨"com/example/binario/binario/rules/PassengerBag", "draw", "(I[ILcom/example/binario/binario/rules/SeededRandom;)V"⟩ : MethodName) (head1 (Jvm.Cond.code (⟨"com/example/binario/binario/rules/PassengerBag", "draw", "(I[ILcom/example/binario/binario/rules/SeededRandom;)V"⟩ : MethodName) prog_68_method_3_code 8 none :: ws) ({ frames := 3, cells := 0, slots := 0, locals := 100 } : Room)) (fun a U => a = #[(.ref a1), (.int p2), (.ref a3), (.ref a4)] ∧ Z.Warmed39 U.vm ∧ U.heap = h0) (fun _ _ _ _ _ => True) (fun _ U o U' => ∃ v L, o = .returned v ∧ Q8_0 Z a1 p2 a3 a4 ca st D Rf h0 n0 v U'.heap L ∧ FrameEnd U o U' L ({ frames := 3, cells := 0, slots := 0, locals := 100 } : Room).cells ({ frames := 3, cells := 0, slots := 0, locals := 100 } : Room).slots) := by
  refine MetFree.of_bodySF (plainFor_of_name pn_8) hisR ?_
  intro p e s m args below meth c s₁ Bd hml0 hP hK
  obtain ⟨rfl, hZ, hh⟩ := hP
  have hx := Bd.exec
  have hby := Bd.bytes
  have hml : c.maxLocals = 8 := hml0
  have hown : s.vm.findClass "com/example/binario/binario/rules/PassengerBag" = some m.cls := findClass_of_methodNamed Bd.named
  have hnm := (name_of_methodNamed Bd.named Bd.method).1
  have X0 : Stand p l e ({ frames := 3, cells := 0, slots := 0, locals := 100 } : Room) s m #[(.ref a1), (.int p2), (.ref a3), (.ref a4)] below meth c s₁ [] 0 0 := Stand.of_body Bd
  have e0 : s₁.heap = h0 := by rw [← hh, Bd.state]; rfl
  have N0 := Fr.nil n0
  have pre0 : ∀ t, Steps p.tables e below (s₁.setTop (mkF m 0 #[.val (.ref a1), .val (.int p2), .val (.ref a3), .val (.ref a4), .unset, .unset, .unset, .unset] [])) t → Steps p.tables e below (s₁.setTop (entryFrame m #[(.ref a1), (.int p2), (.ref a3), (.ref a4)] 8)) t := fun t k => castTop (ef_8_0 m a1 p2 a3 a4) k
  obtain ⟨⟨x0, y0, z0⟩, ⟨x1, y1, z1⟩, x2, y2, z2⟩ := own_h3 ok hs
  obtain ⟨T5, X5, e5, st5⟩ := getF X0 hx hZ hown (host := "") (Or.inl (ww hw 23 rfl)) Via.refl e0 F_l (g := (mkF m 8 #[.val (.ref a1), .val (.int p2), .val (.ref a3), .val (.ref a4), .unset, .unset, .unset, .unset] [(.ref a1)])) rfl rfl (hb hby d8_8)
  obtain ⟨T6, X6, e6, st6⟩ := getF X5 hx hZ hown (host := "") (Or.inl (ww hw 21 rfl)) Via.refl e5 F_c (g := (mkF m 22 #[.val (.ref a1), .val (.int p2), .val (.ref a3), .val (.ref a4), .val (.int p2), .val (.int p2), .val (.int (0 : Int32)), .unset] [(.ref a1), (.int (0 : Int32))])) rfl rfl (hb hby d8_22)
  obtain ⟨cl_ca_25, Ar_ca_25, S_ca_25, -⟩ := id (V_ca)
  obtain ⟨T7, X7, e7, st7⟩ := getF X6 hx hZ hown (host := "") (Or.inl (ww hw 21 rfl)) Via.refl e6 F_c (g := (mkF m 33 #[.val (.ref a1), .val (.int p2), .val (.ref a3), .val (.ref a4), .val (.int p2), .val (.int p2), .val (.int (0 : Int32)), .unset] [(.ref a1), (.int p2), (.ref a4)])) rfl rfl (hb hby d8_33)
  obtain ⟨cl_38, Ar_38, S_38, H_38⟩ := id (V_ca)
  have hin38 : ¬ ((0 : Int32) < 0 ∨ cl_38.slots.size ≤ ((0 : Int32)).toNatClampNeg) := inb_of S_38 ⟨by decide, by decide⟩
  have hat38 := H_38 _ (own_inb hin38)
  obtain ⟨_, _, ⟨T8, L8, k8, n8⟩, -, X8, ⟨Lc8, hQ8, l8, y8, z8⟩, st8⟩ := Jvm.LawKit.callS X7 hx (y := (⟨"com/example/binario/binario/rules/Hypergeometric", "draw", "(Lcom/example/binario/binario/rules/SeededRandom;III)I"⟩ : MethodName)) hown (mvT hZ (ww hw 73 rfl)) (mvT hZ (ww hw 74 rfl)) (mvT hZ (ww hw 75 rfl)) (mvT hZ (ww hw 76 rfl)) (by decide) (backOf (W := 0) (rm12 l Z a0 hw [] a4 p2 (D ((0 : Int32)).toNatClampNeg)  h0 n0 Z0 x0 y0 z0) hZ (ww hw 76 rfl) (ww hw 75 rfl) (by decide) (by decide)) (g := (mkF m 41 #[.val (.ref a1), .val (.int p2), .val (.ref a3), .val (.ref a4), .val (.int p2), .val (.int p2), .val (.int (0 : Int32)), .unset] [(.int p2), (.int (D ((0 : Int32)).toNatClampNeg)), (.int p2), (.ref a4)])) rfl (by rw [hml]; rfl) (argsL := [(.ref a4), (.int p2), (.int (D ((0 : Int32)).toNatClampNeg)), (.int p2)]) (rest := []) (lenOf pd_8_12 rfl) rfl (by show 2 * 0 + _ ≤ _; exact Nat.le_of_eq rfl) (hb hby d8_41) (fun _ _ => ⟨rfl, e7, (by decide : 0 + 0 ≤ _), (by decide : 0 + 0 ≤ _)⟩)
  dsimp only [Pt.U, Pt.locs, Pt.cells, Pt.slots] at X8 l8 y8 z8 st8 hQ8
  subst l8 y8 z8
  obtain ⟨rfl, N8q, eh8⟩ := hQ8
  have N8 := Fr.app N0 N8q
  obtain ⟨T9, X9, e9, st9⟩ := getF X8 hx hZ hown (host := "") (Or.inl (ww hw 21 rfl)) Via.refl eh8 F_c (g := (mkF m 49 #[.val (.ref a1), .val (.int p2), .val (.ref a3), .val (.ref a4), .val (.int p2), .val (.int p2), .val (.int (0 : Int32)), .val (.int (D ((0 : Int32)).toNatClampNeg))] [(.ref a1), (.int p2)])) rfl rfl (hb hby d8_49)
  obtain ⟨cl_54, Ar_54, S_54, H_54⟩ := id (V_ca)
  have hin54 : ¬ ((0 : Int32) < 0 ∨ cl_54.slots.size ≤ ((0 : Int32)).toNatClampNeg) := inb_of S_54 ⟨by decide, by decide⟩
  have hat54 := H_54 _ (own_inb hin54)
  obtain ⟨T10, X10, e10, st10⟩ := getF X9 hx hZ hown (host := "") (Or.inl (ww hw 21 rfl)) Via.refl e9 F_c (g := (mkF m 59 #[.val (.ref a1), .val (.int p2), .val (.ref a3), .val (.ref a4), .val (.int (p2 - (D ((0 : Int32)).toNatClampNeg))), .val (.int p2), .val (.int (0 : Int32)), .val (.int (D ((0 : Int32)).toNatClampNeg))] [(.ref a1)])) rfl rfl (hb hby d8_59)
  obtain ⟨cl_65, Ar_65, S_65, H_65⟩ := id (V_ca)
  have hin65 : ¬ ((0 : Int32) < 0 ∨ cl_65.slots.size ≤ ((0 : Int32)).toNatClampNeg) := inb_of S_65 ⟨by decide, by decide⟩
  have hat65 := H_65 _ (own_inb hin65)
  obtain ⟨cl_69, Ar_69, S_69, H_69⟩ := id (V_ca)
  have hin69 : ¬ ((0 : Int32) < 0 ∨ cl_69.slots.size ≤ ((0 : Int32)).toNatClampNeg) := inb_of S_69 ⟨by decide, by decide⟩
  obtain ⟨T11, h11, X11, e11, W11, st11⟩ := stI X10 hx hZ e10 Ar_69 (j := (0 : Int32)) hin69 (g := (mkF m 69 #[.val (.ref a1), .val (.int p2), .val (.ref a3), .val (.ref a4), .val (.int (p2 - (D ((0 : Int32)).toNatClampNeg))), .val (.int p2), .val (.int (0 : Int32)), .val (.int (D ((0 : Int32)).toNatClampNeg))] [(.int ((D ((0 : Int32)).toNatClampNeg) - (D ((0 : Int32)).toNatClampNeg))), (.int (0 : Int32)), (.ref ca)])) rfl rfl (hb hby d8_69)
  have V_ca_11 := own_AI.put Ar_69 S_69 H_69 W11
  have K11 : Keep h0 h11 [ca, a3, a1] := (Keep.refl h0 [ca, a3, a1]).wr W11 (Or.inl (List.mem_of_getElem? (i := 0) rfl))
  have N11 := Fr.snoc X11 N8 g_ca
  obtain ⟨cl_75, Ar_75, S_75, H_75⟩ := id ((V_a3.other W11 n3c))
  have hin75 : ¬ ((0 : Int32) < 0 ∨ cl_75.slots.size ≤ ((0 : Int32)).toNatClampNeg) := inb_of S_75 ⟨by decide, by decide⟩
  obtain ⟨T12, h12, X12, e12, W12, st12⟩ := stI X11 hx hZ e11 Ar_75 (j := (0 : Int32)) hin75 (g := (mkF m 75 #[.val (.ref a1), .val (.int p2), .val (.ref a3), .val (.ref a4), .val (.int (p2 - (D ((0 : Int32)).toNatClampNeg))), .val (.int p2), .val (.int (0 : Int32)), .val (.int (D ((0 : Int32)).toNatClampNeg))] [(.int (D ((0 : Int32)).toNatClampNeg)), (.int (0 : Int32)), (.ref a3)])) rfl rfl (hb hby d8_75)
  have V_a3_12 := own_AI.put Ar_75 S_75 H_75 W12
  have K12 : Keep h0 h12 [ca, a3, a1] := K11.wr W12 (Or.inl (List.mem_of_getElem? (i := 1) rfl))
  have N12 := Fr.snoc X12 N11 g_a3
  obtain ⟨T13, X13, e13, st13⟩ := getF X12 hx hZ hown (host := "") (Or.inl (ww hw 21 rfl)) Via.refl e12 ((F_c.other W11 (Or.inl n1c)).other W12 (Or.inl n13)) (g := (mkF m 22 #[.val (.ref a1), .val (.int p2), .val (.ref a3), .val (.ref a4), .val (.int (p2 - (D ((0 : Int32)).toNatClampNeg))), .val (.int (p2 - (D ((0 : Int32)).toNatClampNeg))), .val (.int ((0 : Int32) + (1 : Int32))), .val (.int (D ((0 : Int32)).toNatClampNeg))] [(.ref a1), (.int ((0 : Int32) + (1 : Int32)))])) rfl rfl (hb hby d8_22)
  obtain ⟨cl_ca_25_1, Ar_ca_25_1, S_ca_25_1, -⟩ := id ((V_ca_11.other W12 n3c.symm))
  obtain ⟨T14, X14, e14, st14⟩ := getF X13 hx hZ hown (host := "") (Or.inl (ww hw 21 rfl)) Via.refl e13 ((F_c.other W11 (Or.inl n1c)).other W12 (Or.inl n13)) (g := (mkF m 33 #[.val (.ref a1), .val (.int p2), .val (.ref a3), .val (.ref a4), .val (.int (p2 - (D ((0 : Int32)).toNatClampNeg))), .val (.int (p2 - (D ((0 : Int32)).toNatClampNeg))), .val (.int ((0 : Int32) + (1 : Int32))), .val (.int (D ((0 : Int32)).toNatClampNeg))] [(.ref a1), (.int (p2 - (D ((0 : Int32)).toNatClampNeg))), (.ref a4)])) rfl rfl (hb hby d8_33)
  obtain ⟨cl_38_1, Ar_38_1, S_38_1, H_38_1⟩ := id ((V_ca_11.other W12 n3c.symm))
  have hin38_1 : ¬ (((0 : Int32) + (1 : Int32)) < 0 ∨ cl_38_1.slots.size ≤ (((0 : Int32) + (1 : Int32))).toNatClampNeg) := inb_of S_38_1 ⟨by decide, by decide⟩
  have hat38_1 := H_38_1 _ (own_inb hin38_1)
  obtain ⟨_, _, ⟨T15, L15, k15, n15⟩, -, X15, ⟨Lc15, hQ15, l15, y15, z15⟩, st15⟩ := Jvm.LawKit.callS X14 hx (y := (⟨"com/example/binario/binario/rules/Hypergeometric", "draw", "(Lcom/example/binario/binario/rules/SeededRandom;III)I"⟩ : MethodName)) hown (mvT hZ (ww hw 73 rfl)) (mvT hZ (ww hw 74 rfl)) (mvT hZ (ww hw 75 rfl)) (mvT hZ (ww hw 76 rfl)) (by decide) (backOf (W := 0) (rm12 l Z a0 hw [] a4 (p2 - (D ((0 : Int32)).toNatClampNeg)) ((own_upd D ((0 : Int32)).toNatClampNeg ((D ((0 : Int32)).toNatClampNeg) - (D ((0 : Int32)).toNatClampNeg))) (((0 : Int32) + (1 : Int32))).toNatClampNeg)  h12 n0 (Nat.le_trans (Nat.le_trans Z0 (Keep.of_wr W11).1) (Keep.of_wr W12).1) x1 y1 z1) hZ (ww hw 76 rfl) (ww hw 75 rfl) (by decide) (by decide)) (g := (mkF m 41 #[.val (.ref a1), .val (.int p2), .val (.ref a3), .val (.ref a4), .val (.int (p2 - (D ((0 : Int32)).toNatClampNeg))), .val (.int (p2 - (D ((0 : Int32)).toNatClampNeg))), .val (.int ((0 : Int32) + (1 : Int32))), .val (.int (D ((0 : Int32)).toNatClampNeg))] [(.int (p2 - (D ((0 : Int32)).toNatClampNeg))), (.int ((own_upd D ((0 : Int32)).toNatClampNeg ((D ((0 : Int32)).toNatClampNeg) - (D ((0 : Int32)).toNatClampNeg))) (((0 : Int32) + (1 : Int32))).toNatClampNeg)), (.int (p2 - (D ((0 : Int32)).toNatClampNeg))), (.ref a4)])) rfl (by rw [hml]; rfl) (argsL := [(.ref a4), (.int (p2 - (D ((0 : Int32)).toNatClampNeg))), (.int ((own_upd D ((0 : Int32)).toNatClampNeg ((D ((0 : Int32)).toNatClampNeg) - (D ((0 : Int32)).toNatClampNeg))) (((0 : Int32) + (1 : Int32))).toNatClampNeg)), (.int (p2 - (D ((0 : Int32)).toNatClampNeg)))]) (rest := []) (lenOf pd_8_12 rfl) rfl (by show 2 * 0 + _ ≤ _; exact Nat.le_of_eq rfl) (hb hby d8_41) (fun _ _ => ⟨rfl, e14, (by decide : 0 + 0 ≤ _), (by decide : 0 + 0 ≤ _)⟩)
  dsimp only [Pt.U, Pt.locs, Pt.cells, Pt.slots] at X15 l15 y15 z15 st15 hQ15
  subst l15 y15 z15
  obtain ⟨rfl, N15q, eh15⟩ := hQ15
  have N15 := Fr.app N12 N15q
  obtain ⟨T16, X16, e16, st16⟩ := getF X15 hx hZ hown (host := "") (Or.inl (ww hw 21 rfl)) Via.refl eh15 ((F_c.other W11 (Or.inl n1c)).other W12 (Or.inl n13)) (g := (mkF m 49 #[.val (.ref a1), .val (.int p2), .val (.ref a3), .val (.ref a4), .val (.int (p2 - (D ((0 : Int32)).toNatClampNeg))), .val (.int (p2 - (D ((0 : Int32)).toNatClampNeg))), .val (.int ((0 : Int32) + (1 : Int32))), .val (.int ((own_upd D ((0 : Int32)).toNatClampNeg ((D ((0 : Int32)).toNatClampNeg) - (D ((0 : Int32)).toNatClampNeg))) (((0 : Int32) + (1 : Int32))).toNatClampNeg))] [(.ref a1), (.int (p2 - (D ((0 : Int32)).toNatClampNeg)))])) rfl rfl (hb hby d8_49)
  obtain ⟨cl_54_1, Ar_54_1, S_54_1, H_54_1⟩ := id ((V_ca_11.other W12 n3c.symm))
  have hin54_1 : ¬ (((0 : Int32) + (1 : Int32)) < 0 ∨ cl_54_1.slots.size ≤ (((0 : Int32) + (1 : Int32))).toNatClampNeg) := inb_of S_54_1 ⟨by decide, by decide⟩
  have hat54_1 := H_54_1 _ (own_inb hin54_1)
  obtain ⟨T17, X17, e17, st17⟩ := getF X16 hx hZ hown (host := "") (Or.inl (ww hw 21 rfl)) Via.refl e16 ((F_c.other W11 (Or.inl n1c)).other W12 (Or.inl n13)) (g := (mkF m 59 #[.val (.ref a1), .val (.int p2), .val (.ref a3), .val (.ref a4), .val (.int ((p2 - (D ((0 : Int32)).toNatClampNeg)) - ((own_upd D ((0 : Int32)).toNatClampNeg ((D ((0 : Int32)).toNatClampNeg) - (D ((0 : Int32)).toNatClampNeg))) (((0 : Int32) + (1 : Int32))).toNatClampNeg))), .val (.int (p2 - (D ((0 : Int32)).toNatClampNeg))), .val (.int ((0 : Int32) + (1 : Int32))), .val (.int ((own_upd D ((0 : Int32)).toNatClampNeg ((D ((0 : Int32)).toNatClampNeg) - (D ((0 : Int32)).toNatClampNeg))) (((0 : Int32) + (1 : Int32))).toNatClampNeg))] [(.ref a1)])) rfl rfl (hb hby d8_59)
  obtain ⟨cl_65_1, Ar_65_1, S_65_1, H_65_1⟩ := id ((V_ca_11.other W12 n3c.symm))
  have hin65_1 : ¬ (((0 : Int32) + (1 : Int32)) < 0 ∨ cl_65_1.slots.size ≤ (((0 : Int32) + (1 : Int32))).toNatClampNeg) := inb_of S_65_1 ⟨by decide, by decide⟩
  have hat65_1 := H_65_1 _ (own_inb hin65_1)
  obtain ⟨cl_69_1, Ar_69_1, S_69_1, H_69_1⟩ := id ((V_ca_11.other W12 n3c.symm))
  have hin69_1 : ¬ (((0 : Int32) + (1 : Int32)) < 0 ∨ cl_69_1.slots.size ≤ (((0 : Int32) + (1 : Int32))).toNatClampNeg) := inb_of S_69_1 ⟨by decide, by decide⟩
  obtain ⟨T18, h18, X18, e18, W18, st18⟩ := stI X17 hx hZ e17 Ar_69_1 (j := ((0 : Int32) + (1 : Int32))) hin69_1 (g := (mkF m 69 #[.val (.ref a1), .val (.int p2), .val (.ref a3), .val (.ref a4), .val (.int ((p2 - (D ((0 : Int32)).toNatClampNeg)) - ((own_upd D ((0 : Int32)).toNatClampNeg ((D ((0 : Int32)).toNatClampNeg) - (D ((0 : Int32)).toNatClampNeg))) (((0 : Int32) + (1 : Int32))).toNatClampNeg))), .val (.int (p2 - (D ((0 : Int32)).toNatClampNeg))), .val (.int ((0 : Int32) + (1 : Int32))), .val (.int ((own_upd D ((0 : Int32)).toNatClampNeg ((D ((0 : Int32)).toNatClampNeg) - (D ((0 : Int32)).toNatClampNeg))) (((0 : Int32) + (1 : Int32))).toNatClampNeg))] [(.int (((own_upd D ((0 : Int32)).toNatClampNeg ((D ((0 : Int32)).toNatClampNeg) - (D ((0 : Int32)).toNatClampNeg))) (((0 : Int32) + (1 : Int32))).toNatClampNeg) - ((own_upd D ((0 : Int32)).toNatClampNeg ((D ((0 : Int32)).toNatClampNeg) - (D ((0 : Int32)).toNatClampNeg))) (((0 : Int32) + (1 : Int32))).toNatClampNeg))), (.int ((0 : Int32) + (1 : Int32))), (.ref ca)])) rfl rfl (hb hby d8_69)
  have V_ca_18 := own_AI.put Ar_69_1 S_69_1 H_69_1 W18
  have K18 : Keep h0 h18 [ca, a3, a1] := K12.wr W18 (Or.inl (List.mem_of_getElem? (i := 0) rfl))
  have N18 := Fr.snoc X18 N15 g_ca
  obtain ⟨cl_75_1, Ar_75_1, S_75_1, H_75_1⟩ := id ((V_a3_12.other W18 n3c))
  have hin75_1 : ¬ (((0 : Int32) + (1 : Int32)) < 0 ∨ cl_75_1.slots.size ≤ (((0 : Int32) + (1 : Int32))).toNatClampNeg) := inb_of S_75_1 ⟨by decide, by decide⟩
  obtain ⟨T19, h19, X19, e19, W19, st19⟩ := stI X18 hx hZ e18 Ar_75_1 (j := ((0 : Int32) + (1 : Int32))) hin75_1 (g := (mkF m 75 #[.val (.ref a1), .val (.int p2), .val (.ref a3), .val (.ref a4), .val (.int ((p2 - (D ((0 : Int32)).toNatClampNeg)) - ((own_upd D ((0 : Int32)).toNatClampNeg ((D ((0 : Int32)).toNatClampNeg) - (D ((0 : Int32)).toNatClampNeg))) (((0 : Int32) + (1 : Int32))).toNatClampNeg))), .val (.int (p2 - (D ((0 : Int32)).toNatClampNeg))), .val (.int ((0 : Int32) + (1 : Int32))), .val (.int ((own_upd D ((0 : Int32)).toNatClampNeg ((D ((0 : Int32)).toNatClampNeg) - (D ((0 : Int32)).toNatClampNeg))) (((0 : Int32) + (1 : Int32))).toNatClampNeg))] [(.int ((own_upd D ((0 : Int32)).toNatClampNeg ((D ((0 : Int32)).toNatClampNeg) - (D ((0 : Int32)).toNatClampNeg))) (((0 : Int32) + (1 : Int32))).toNatClampNeg)), (.int ((0 : Int32) + (1 : Int32))), (.ref a3)])) rfl rfl (hb hby d8_75)
  have V_a3_19 := own_AI.put Ar_75_1 S_75_1 H_75_1 W19
  have K19 : Keep h0 h19 [ca, a3, a1] := K18.wr W19 (Or.inl (List.mem_of_getElem? (i := 1) rfl))
  have N19 := Fr.snoc X19 N18 g_a3
  obtain ⟨T20, X20, e20, st20⟩ := getF X19 hx hZ hown (host := "") (Or.inl (ww hw 21 rfl)) Via.refl e19 ((((F_c.other W11 (Or.inl n1c)).other W12 (Or.inl n13)).other W18 (Or.inl n1c)).other W19 (Or.inl n13)) (g := (mkF m 22 #[.val (.ref a1), .val (.int p2), .val (.ref a3), .val (.ref a4), .val (.int ((p2 - (D ((0 : Int32)).toNatClampNeg)) - ((own_upd D ((0 : Int32)).toNatClampNeg ((D ((0 : Int32)).toNatClampNeg) - (D ((0 : Int32)).toNatClampNeg))) (((0 : Int32) + (1 : Int32))).toNatClampNeg))), .val (.int ((p2 - (D ((0 : Int32)).toNatClampNeg)) - ((own_upd D ((0 : Int32)).toNatClampNeg ((D ((0 : Int32)).toNatClampNeg) - (D ((0 : Int32)).toNatClampNeg))) (((0 : Int32) + (1 : Int32))).toNatClampNeg))), .val (.int (((0 : Int32) + (1 : Int32)) + (1 : Int32))), .val (.int ((own_upd D ((0 : Int32)).toNatClampNeg ((D ((0 : Int32)).toNatClampNeg) - (D ((0 : Int32)).toNatClampNeg))) (((0 : Int32) + (1 : Int32))).toNatClampNeg))] [(.ref a1), (.int (((0 : Int32) + (1 : Int32)) + (1 : Int32)))])) rfl rfl (hb hby d8_22)
  obtain ⟨cl_ca_25_2, Ar_ca_25_2, S_ca_25_2, -⟩ := id ((V_ca_18.other W19 n3c.symm))
  obtain ⟨T21, X21, e21, st21⟩ := getF X20 hx hZ hown (host := "") (Or.inl (ww hw 21 rfl)) Via.refl e20 ((((F_c.other W11 (Or.inl n1c)).other W12 (Or.inl n13)).other W18 (Or.inl n1c)).other W19 (Or.inl n13)) (g := (mkF m 33 #[.val (.ref a1), .val (.int p2), .val (.ref a3), .val (.ref a4), .val (.int ((p2 - (D ((0 : Int32)).toNatClampNeg)) - ((own_upd D ((0 : Int32)).toNatClampNeg ((D ((0 : Int32)).toNatClampNeg) - (D ((0 : Int32)).toNatClampNeg))) (((0 : Int32) + (1 : Int32))).toNatClampNeg))), .val (.int ((p2 - (D ((0 : Int32)).toNatClampNeg)) - ((own_upd D ((0 : Int32)).toNatClampNeg ((D ((0 : Int32)).toNatClampNeg) - (D ((0 : Int32)).toNatClampNeg))) (((0 : Int32) + (1 : Int32))).toNatClampNeg))), .val (.int (((0 : Int32) + (1 : Int32)) + (1 : Int32))), .val (.int ((own_upd D ((0 : Int32)).toNatClampNeg ((D ((0 : Int32)).toNatClampNeg) - (D ((0 : Int32)).toNatClampNeg))) (((0 : Int32) + (1 : Int32))).toNatClampNeg))] [(.ref a1), (.int ((p2 - (D ((0 : Int32)).toNatClampNeg)) - ((own_upd D ((0 : Int32)).toNatClampNeg ((D ((0 : Int32)).toNatClampNeg) - (D ((0 : Int32)).toNatClampNeg))) (((0 : Int32) + (1 : Int32))).toNatClampNeg))), (.ref a4)])) rfl rfl (hb hby d8_33)
  obtain ⟨cl_38_2, Ar_38_2, S_38_2, H_38_2⟩ := id ((V_ca_18.other W19 n3c.symm))
  have hin38_2 : ¬ ((((0 : Int32) + (1 : Int32)) + (1 : Int32)) < 0 ∨ cl_38_2.slots.size ≤ ((((0 : Int32) + (1 : Int32)) + (1 : Int32))).toNatClampNeg) := inb_of S_38_2 ⟨by decide, by decide⟩
  have hat38_2 := H_38_2 _ (own_inb hin38_2)
  obtain ⟨_, _, ⟨T22, L22, k22, n22⟩, -, X22, ⟨Lc22, hQ22, l22, y22, z22⟩, st22⟩ := Jvm.LawKit.callS X21 hx (y := (⟨"com/example/binario/binario/rules/Hypergeometric", "draw", "(Lcom/example/binario/binario/rules/SeededRandom;III)I"⟩ : MethodName)) hown (mvT hZ (ww hw 73 rfl)) (mvT hZ (ww hw 74 rfl)) (mvT hZ (ww hw 75 rfl)) (mvT hZ (ww hw 76 rfl)) (by decide) (backOf (W := 0) (rm12 l Z a0 hw [] a4 ((p2 - (D ((0 : Int32)).toNatClampNeg)) - ((own_upd D ((0 : Int32)).toNatClampNeg ((D ((0 : Int32)).toNatClampNeg) - (D ((0 : Int32)).toNatClampNeg))) (((0 : Int32) + (1 : Int32))).toNatClampNeg)) ((own_upd (own_upd D ((0 : Int32)).toNatClampNeg ((D ((0 : Int32)).toNatClampNeg) - (D ((0 : Int32)).toNatClampNeg))) (((0 : Int32) + (1 : Int32))).toNatClampNeg (((own_upd D ((0 : Int32)).toNatClampNeg ((D ((0 : Int32)).toNatClampNeg) - (D ((0 : Int32)).toNatClampNeg))) (((0 : Int32) + (1 : Int32))).toNatClampNeg) - ((own_upd D ((0 : Int32)).toNatClampNeg ((D ((0 : Int32)).toNatClampNeg) - (D ((0 : Int32)).toNatClampNeg))) (((0 : Int32) + (1 : Int32))).toNatClampNeg))) ((((0 : Int32) + (1 : Int32)) + (1 : Int32))).toNatClampNeg)  h19 n0 (Nat.le_trans (Nat.le_trans (Nat.le_trans (Nat.le_trans Z0 (Keep.of_wr W11).1) (Keep.of_wr W12).1) (Keep.of_wr W18).1) (Keep.of_wr W19).1) x2 y2 z2) hZ (ww hw 76 rfl) (ww hw 75 rfl) (by decide) (by decide)) (g := (mkF m 41 #[.val (.ref a1), .val (.int p2), .val (.ref a3), .val (.ref a4), .val (.int ((p2 - (D ((0 : Int32)).toNatClampNeg)) - ((own_upd D ((0 : Int32)).toNatClampNeg ((D ((0 : Int32)).toNatClampNeg) - (D ((0 : Int32)).toNatClampNeg))) (((0 : Int32) + (1 : Int32))).toNatClampNeg))), .val (.int ((p2 - (D ((0 : Int32)).toNatClampNeg)) - ((own_upd D ((0 : Int32)).toNatClampNeg ((D ((0 : Int32)).toNatClampNeg) - (D ((0 : Int32)).toNatClampNeg))) (((0 : Int32) + (1 : Int32))).toNatClampNeg))), .val (.int (((0 : Int32) + (1 : Int32)) + (1 : Int32))), .val (.int ((own_upd D ((0 : Int32)).toNatClampNeg ((D ((0 : Int32)).toNatClampNeg) - (D ((0 : Int32)).toNatClampNeg))) (((0 : Int32) + (1 : Int32))).toNatClampNeg))] [(.int ((p2 - (D ((0 : Int32)).toNatClampNeg)) - ((own_upd D ((0 : Int32)).toNatClampNeg ((D ((0 : Int32)).toNatClampNeg) - (D ((0 : Int32)).toNatClampNeg))) (((0 : Int32) + (1 : Int32))).toNatClampNeg))), (.int ((own_upd (own_upd D ((0 : Int32)).toNatClampNeg ((D ((0 : Int32)).toNatClampNeg) - (D ((0 : Int32)).toNatClampNeg))) (((0 : Int32) + (1 : Int32))).toNatClampNeg (((own_upd D ((0 : Int32)).toNatClampNeg ((D ((0 : Int32)).toNatClampNeg) - (D ((0 : Int32)).toNatClampNeg))) (((0 : Int32) + (1 : Int32))).toNatClampNeg) - ((own_upd D ((0 : Int32)).toNatClampNeg ((D ((0 : Int32)).toNatClampNeg) - (D ((0 : Int32)).toNatClampNeg))) (((0 : Int32) + (1 : Int32))).toNatClampNeg))) ((((0 : Int32) + (1 : Int32)) + (1 : Int32))).toNatClampNeg)), (.int ((p2 - (D ((0 : Int32)).toNatClampNeg)) - ((own_upd D ((0 : Int32)).toNatClampNeg ((D ((0 : Int32)).toNatClampNeg) - (D ((0 : Int32)).toNatClampNeg))) (((0 : Int32) + (1 : Int32))).toNatClampNeg))), (.ref a4)])) rfl (by rw [hml]; rfl) (argsL := [(.ref a4), (.int ((p2 - (D ((0 : Int32)).toNatClampNeg)) - ((own_upd D ((0 : Int32)).toNatClampNeg ((D ((0 : Int32)).toNatClampNeg) - (D ((0 : Int32)).toNatClampNeg))) (((0 : Int32) + (1 : Int32))).toNatClampNeg))), (.int ((own_upd (own_upd D ((0 : Int32)).toNatClampNeg ((D ((0 : Int32)).toNatClampNeg) - (D ((0 : Int32)).toNatClampNeg))) (((0 : Int32) + (1 : Int32))).toNatClampNeg (((own_upd D ((0 : Int32)).toNatClampNeg ((D ((0 : Int32)).toNatClampNeg) - (D ((0 : Int32)).toNatClampNeg))) (((0 : Int32) + (1 : Int32))).toNatClampNeg) - ((own_upd D ((0 : Int32)).toNatClampNeg ((D ((0 : Int32)).toNatClampNeg) - (D ((0 : Int32)).toNatClampNeg))) (((0 : Int32) + (1 : Int32))).toNatClampNeg))) ((((0 : Int32) + (1 : Int32)) + (1 : Int32))).toNatClampNeg)), (.int ((p2 - (D ((0 : Int32)).toNatClampNeg)) - ((own_upd D ((0 : Int32)).toNatClampNeg ((D ((0 : Int32)).toNatClampNeg) - (D ((0 : Int32)).toNatClampNeg))) (((0 : Int32) + (1 : Int32))).toNatClampNeg)))]) (rest := []) (lenOf pd_8_12 rfl) rfl (by show 2 * 0 + _ ≤ _; exact Nat.le_of_eq rfl) (hb hby d8_41) (fun _ _ => ⟨rfl, e21, (by decide : 0 + 0 ≤ _), (by decide : 0 + 0 ≤ _)⟩)
  dsimp only [Pt.U, Pt.locs, Pt.cells, Pt.slots] at X22 l22 y22 z22 st22 hQ22
  subst l22 y22 z22
  obtain ⟨rfl, N22q, eh22⟩ := hQ22
  have N22 := Fr.app N19 N22q
  obtain ⟨T23, X23, e23, st23⟩ := getF X22 hx hZ hown (host := "") (Or.inl (ww hw 21 rfl)) Via.refl eh22 ((((F_c.other W11 (Or.inl n1c)).other W12 (Or.inl n13)).other W18 (Or.inl n1c)).other W19 (Or.inl n13)) (g := (mkF m 49 #[.val (.ref a1), .val (.int p2), .val (.ref a3), .val (.ref a4), .val (.int ((p2 - (D ((0 : Int32)).toNatClampNeg)) - ((own_upd D ((0 : Int32)).toNatClampNeg ((D ((0 : Int32)).toNatClampNeg) - (D ((0 : Int32)).toNatClampNeg))) (((0 : Int32) + (1 : Int32))).toNatClampNeg))), .val (.int ((p2 - (D ((0 : Int32)).toNatClampNeg)) - ((own_upd D ((0 : Int32)).toNatClampNeg ((D ((0 : Int32)).toNatClampNeg) - (D ((0 : Int32)).toNatClampNeg))) (((0 : Int32) + (1 : Int32))).toNatClampNeg))), .val (.int (((0 : Int32) + (1 : Int32)) + (1 : Int32))), .val (.int ((own_upd (own_upd D ((0 : Int32)).toNatClampNeg ((D ((0 : Int32)).toNatClampNeg) - (D ((0 : Int32)).toNatClampNeg))) (((0 : Int32) + (1 : Int32))).toNatClampNeg (((own_upd D ((0 : Int32)).toNatClampNeg ((D ((0 : Int32)).toNatClampNeg) - (D ((0 : Int32)).toNatClampNeg))) (((0 : Int32) + (1 : Int32))).toNatClampNeg) - ((own_upd D ((0 : Int32)).toNatClampNeg ((D ((0 : Int32)).toNatClampNeg) - (D ((0 : Int32)).toNatClampNeg))) (((0 : Int32) + (1 : Int32))).toNatClampNeg))) ((((0 : Int32) + (1 : Int32)) + (1 : Int32))).toNatClampNeg))] [(.ref a1), (.int ((p2 - (D ((0 : Int32)).toNatClampNeg)) - ((own_upd D ((0 : Int32)).toNatClampNeg ((D ((0 : Int32)).toNatClampNeg) - (D ((0 : Int32)).toNatClampNeg))) (((0 : Int32) + (1 : Int32))).toNatClampNeg)))])) rfl rfl (hb hby d8_49)
  obtain ⟨cl_54_2, Ar_54_2, S_54_2, H_54_2⟩ := id ((V_ca_18.other W19 n3c.symm))
  have hin54_2 : ¬ ((((0 : Int32) + (1 : Int32)) + (1 : Int32)) < 0 ∨ cl_54_2.slots.size ≤ ((((0 : Int32) + (1 : Int32)) + (1 : Int32))).toNatClampNeg) := inb_of S_54_2 ⟨by decide, by decide⟩
  have hat54_2 := H_54_2 _ (own_inb hin54_2)
  obtain ⟨T24, X24, e24, st24⟩ := getF X23 hx hZ hown (host := "") (Or.inl (ww hw 21 rfl)) Via.refl e23 ((((F_c.other W11 (Or.inl n1c)).other W12 (Or.inl n13)).other W18 (Or.inl n1c)).other W19 (Or.inl n13)) (g := (mkF m 59 #[.val (.ref a1), .val (.int p2), .val (.ref a3), .val (.ref a4), .val (.int (((p2 - (D ((0 : Int32)).toNatClampNeg)) - ((own_upd D ((0 : Int32)).toNatClampNeg ((D ((0 : Int32)).toNatClampNeg) - (D ((0 : Int32)).toNatClampNeg))) (((0 : Int32) + (1 : Int32))).toNatClampNeg)) - ((own_upd (own_upd D ((0 : Int32)).toNatClampNeg ((D ((0 : Int32)).toNatClampNeg) - (D ((0 : Int32)).toNatClampNeg))) (((0 : Int32) + (1 : Int32))).toNatClampNeg (((own_upd D ((0 : Int32)).toNatClampNeg ((D ((0 : Int32)).toNatClampNeg) - (D ((0 : Int32)).toNatClampNeg))) (((0 : Int32) + (1 : Int32))).toNatClampNeg) - ((own_upd D ((0 : Int32)).toNatClampNeg ((D ((0 : Int32)).toNatClampNeg) - (D ((0 : Int32)).toNatClampNeg))) (((0 : Int32) + (1 : Int32))).toNatClampNeg))) ((((0 : Int32) + (1 : Int32)) + (1 : Int32))).toNatClampNeg))), .val (.int ((p2 - (D ((0 : Int32)).toNatClampNeg)) - ((own_upd D ((0 : Int32)).toNatClampNeg ((D ((0 : Int32)).toNatClampNeg) - (D ((0 : Int32)).toNatClampNeg))) (((0 : Int32) + (1 : Int32))).toNatClampNeg))), .val (.int (((0 : Int32) + (1 : Int32)) + (1 : Int32))), .val (.int ((own_upd (own_upd D ((0 : Int32)).toNatClampNeg ((D ((0 : Int32)).toNatClampNeg) - (D ((0 : Int32)).toNatClampNeg))) (((0 : Int32) + (1 : Int32))).toNatClampNeg (((own_upd D ((0 : Int32)).toNatClampNeg ((D ((0 : Int32)).toNatClampNeg) - (D ((0 : Int32)).toNatClampNeg))) (((0 : Int32) + (1 : Int32))).toNatClampNeg) - ((own_upd D ((0 : Int32)).toNatClampNeg ((D ((0 : Int32)).toNatClampNeg) - (D ((0 : Int32)).toNatClampNeg))) (((0 : Int32) + (1 : Int32))).toNatClampNeg))) ((((0 : Int32) + (1 : Int32)) + (1 : Int32))).toNatClampNeg))] [(.ref a1)])) rfl rfl (hb hby d8_59)
  obtain ⟨cl_65_2, Ar_65_2, S_65_2, H_65_2⟩ := id ((V_ca_18.other W19 n3c.symm))
  have hin65_2 : ¬ ((((0 : Int32) + (1 : Int32)) + (1 : Int32)) < 0 ∨ cl_65_2.slots.size ≤ ((((0 : Int32) + (1 : Int32)) + (1 : Int32))).toNatClampNeg) := inb_of S_65_2 ⟨by decide, by decide⟩
  have hat65_2 := H_65_2 _ (own_inb hin65_2)
  obtain ⟨cl_69_2, Ar_69_2, S_69_2, H_69_2⟩ := id ((V_ca_18.other W19 n3c.symm))
  have hin69_2 : ¬ ((((0 : Int32) + (1 : Int32)) + (1 : Int32)) < 0 ∨ cl_69_2.slots.size ≤ ((((0 : Int32) + (1 : Int32)) + (1 : Int32))).toNatClampNeg) := inb_of S_69_2 ⟨by decide, by decide⟩
  obtain ⟨T25, h25, X25, e25, W25, st25⟩ := stI X24 hx hZ e24 Ar_69_2 (j := (((0 : Int32) + (1 : Int32)) + (1 : Int32))) hin69_2 (g := (mkF m 69 #[.val (.ref a1), .val (.int p2), .val (.ref a3), .val (.ref a4), .val (.int (((p2 - (D ((0 : Int32)).toNatClampNeg)) - ((own_upd D ((0 : Int32)).toNatClampNeg ((D ((0 : Int32)).toNatClampNeg) - (D ((0 : Int32)).toNatClampNeg))) (((0 : Int32) + (1 : Int32))).toNatClampNeg)) - ((own_upd (own_upd D ((0 : Int32)).toNatClampNeg ((D ((0 : Int32)).toNatClampNeg) - (D ((0 : Int32)).toNatClampNeg))) (((0 : Int32) + (1 : Int32))).toNatClampNeg (((own_upd D ((0 : Int32)).toNatClampNeg ((D ((0 : Int32)).toNatClampNeg) - (D ((0 : Int32)).toNatClampNeg))) (((0 : Int32) + (1 : Int32))).toNatClampNeg) - ((own_upd D ((0 : Int32)).toNatClampNeg ((D ((0 : Int32)).toNatClampNeg) - (D ((0 : Int32)).toNatClampNeg))) (((0 : Int32) + (1 : Int32))).toNatClampNeg))) ((((0 : Int32) + (1 : Int32)) + (1 : Int32))).toNatClampNeg))), .val (.int ((p2 - (D ((0 : Int32)).toNatClampNeg)) - ((own_upd D ((0 : Int32)).toNatClampNeg ((D ((0 : Int32)).toNatClampNeg) - (D ((0 : Int32)).toNatClampNeg))) (((0 : Int32) + (1 : Int32))).toNatClampNeg))), .val (.int (((0 : Int32) + (1 : Int32)) + (1 : Int32))), .val (.int ((own_upd (own_upd D ((0 : Int32)).toNatClampNeg ((D ((0 : Int32)).toNatClampNeg) - (D ((0 : Int32)).toNatClampNeg))) (((0 : Int32) + (1 : Int32))).toNatClampNeg (((own_upd D ((0 : Int32)).toNatClampNeg ((D ((0 : Int32)).toNatClampNeg) - (D ((0 : Int32)).toNatClampNeg))) (((0 : Int32) + (1 : Int32))).toNatClampNeg) - ((own_upd D ((0 : Int32)).toNatClampNeg ((D ((0 : Int32)).toNatClampNeg) - (D ((0 : Int32)).toNatClampNeg))) (((0 : Int32) + (1 : Int32))).toNatClampNeg))) ((((0 : Int32) + (1 : Int32)) + (1 : Int32))).toNatClampNeg))] [(.int (((own_upd (own_upd D ((0 : Int32)).toNatClampNeg ((D ((0 : Int32)).toNatClampNeg) - (D ((0 : Int32)).toNatClampNeg))) (((0 : Int32) + (1 : Int32))).toNatClampNeg (((own_upd D ((0 : Int32)).toNatClampNeg ((D ((0 : Int32)).toNatClampNeg) - (D ((0 : Int32)).toNatClampNeg))) (((0 : Int32) + (1 : Int32))).toNatClampNeg) - ((own_upd D ((0 : Int32)).toNatClampNeg ((D ((0 : Int32)).toNatClampNeg) - (D ((0 : Int32)).toNatClampNeg))) (((0 : Int32) + (1 : Int32))).toNatClampNeg))) ((((0 : Int32) + (1 : Int32)) + (1 : Int32))).toNatClampNeg) - ((own_upd (own_upd D ((0 : Int32)).toNatClampNeg ((D ((0 : Int32)).toNatClampNeg) - (D ((0 : Int32)).toNatClampNeg))) (((0 : Int32) + (1 : Int32))).toNatClampNeg (((own_upd D ((0 : Int32)).toNatClampNeg ((D ((0 : Int32)).toNatClampNeg) - (D ((0 : Int32)).toNatClampNeg))) (((0 : Int32) + (1 : Int32))).toNatClampNeg) - ((own_upd D ((0 : Int32)).toNatClampNeg ((D ((0 : Int32)).toNatClampNeg) - (D ((0 : Int32)).toNatClampNeg))) (((0 : Int32) + (1 : Int32))).toNatClampNeg))) ((((0 : Int32) + (1 : Int32)) + (1 : Int32))).toNatClampNeg))), (.int (((0 : Int32) + (1 : Int32)) + (1 : Int32))), (.ref ca)])) rfl rfl (hb hby d8_69)
  have V_ca_25 := own_AI.put Ar_69_2 S_69_2 H_69_2 W25
  have K25 : Keep h0 h25 [ca, a3, a1] := K19.wr W25 (Or.inl (List.mem_of_getElem? (i := 0) rfl))
  have N25 := Fr.snoc X25 N22 g_ca
  obtain ⟨cl_75_2, Ar_75_2, S_75_2, H_75_2⟩ := id ((V_a3_19.other W25 n3c))
  have hin75_2 : ¬ ((((0 : Int32) + (1 : Int32)) + (1 : Int32)) < 0 ∨ cl_75_2.slots.size ≤ ((((0 : Int32) + (1 : Int32)) + (1 : Int32))).toNatClampNeg) := inb_of S_75_2 ⟨by decide, by decide⟩
  obtain ⟨T26, h26, X26, e26, W26, st26⟩ := stI X25 hx hZ e25 Ar_75_2 (j := (((0 : Int32) + (1 : Int32)) + (1 : Int32))) hin75_2 (g := (mkF m 75 #[.val (.ref a1), .val (.int p2), .val (.ref a3), .val (.ref a4), .val (.int (((p2 - (D ((0 : Int32)).toNatClampNeg)) - ((own_upd D ((0 : Int32)).toNatClampNeg ((D ((0 : Int32)).toNatClampNeg) - (D ((0 : Int32)).toNatClampNeg))) (((0 : Int32) + (1 : Int32))).toNatClampNeg)) - ((own_upd (own_upd D ((0 : Int32)).toNatClampNeg ((D ((0 : Int32)).toNatClampNeg) - (D ((0 : Int32)).toNatClampNeg))) (((0 : Int32) + (1 : Int32))).toNatClampNeg (((own_upd D ((0 : Int32)).toNatClampNeg ((D ((0 : Int32)).toNatClampNeg) - (D ((0 : Int32)).toNatClampNeg))) (((0 : Int32) + (1 : Int32))).toNatClampNeg) - ((own_upd D ((0 : Int32)).toNatClampNeg ((D ((0 : Int32)).toNatClampNeg) - (D ((0 : Int32)).toNatClampNeg))) (((0 : Int32) + (1 : Int32))).toNatClampNeg))) ((((0 : Int32) + (1 : Int32)) + (1 : Int32))).toNatClampNeg))), .val (.int ((p2 - (D ((0 : Int32)).toNatClampNeg)) - ((own_upd D ((0 : Int32)).toNatClampNeg ((D ((0 : Int32)).toNatClampNeg) - (D ((0 : Int32)).toNatClampNeg))) (((0 : Int32) + (1 : Int32))).toNatClampNeg))), .val (.int (((0 : Int32) + (1 : Int32)) + (1 : Int32))), .val (.int ((own_upd (own_upd D ((0 : Int32)).toNatClampNeg ((D ((0 : Int32)).toNatClampNeg) - (D ((0 : Int32)).toNatClampNeg))) (((0 : Int32) + (1 : Int32))).toNatClampNeg (((own_upd D ((0 : Int32)).toNatClampNeg ((D ((0 : Int32)).toNatClampNeg) - (D ((0 : Int32)).toNatClampNeg))) (((0 : Int32) + (1 : Int32))).toNatClampNeg) - ((own_upd D ((0 : Int32)).toNatClampNeg ((D ((0 : Int32)).toNatClampNeg) - (D ((0 : Int32)).toNatClampNeg))) (((0 : Int32) + (1 : Int32))).toNatClampNeg))) ((((0 : Int32) + (1 : Int32)) + (1 : Int32))).toNatClampNeg))] [(.int ((own_upd (own_upd D ((0 : Int32)).toNatClampNeg ((D ((0 : Int32)).toNatClampNeg) - (D ((0 : Int32)).toNatClampNeg))) (((0 : Int32) + (1 : Int32))).toNatClampNeg (((own_upd D ((0 : Int32)).toNatClampNeg ((D ((0 : Int32)).toNatClampNeg) - (D ((0 : Int32)).toNatClampNeg))) (((0 : Int32) + (1 : Int32))).toNatClampNeg) - ((own_upd D ((0 : Int32)).toNatClampNeg ((D ((0 : Int32)).toNatClampNeg) - (D ((0 : Int32)).toNatClampNeg))) (((0 : Int32) + (1 : Int32))).toNatClampNeg))) ((((0 : Int32) + (1 : Int32)) + (1 : Int32))).toNatClampNeg)), (.int (((0 : Int32) + (1 : Int32)) + (1 : Int32))), (.ref a3)])) rfl rfl (hb hby d8_75)
  have V_a3_26 := own_AI.put Ar_75_2 S_75_2 H_75_2 W26
  have K26 : Keep h0 h26 [ca, a3, a1] := K25.wr W26 (Or.inl (List.mem_of_getElem? (i := 1) rfl))
  have N26 := Fr.snoc X26 N25 g_a3
  obtain ⟨T27, X27, e27, st27⟩ := getF X26 hx hZ hown (host := "") (Or.inl (ww hw 21 rfl)) Via.refl e26 ((((((F_c.other W11 (Or.inl n1c)).other W12 (Or.inl n13)).other W18 (Or.inl n1c)).other W19 (Or.inl n13)).other W25 (Or.inl n1c)).other W26 (Or.inl n13)) (g := (mkF m 22 #[.val (.ref a1), .val (.int p2), .val (.ref a3), .val (.ref a4), .val (.int (((p2 - (D ((0 : Int32)).toNatClampNeg)) - ((own_upd D ((0 : Int32)).toNatClampNeg ((D ((0 : Int32)).toNatClampNeg) - (D ((0 : Int32)).toNatClampNeg))) (((0 : Int32) + (1 : Int32))).toNatClampNeg)) - ((own_upd (own_upd D ((0 : Int32)).toNatClampNeg ((D ((0 : Int32)).toNatClampNeg) - (D ((0 : Int32)).toNatClampNeg))) (((0 : Int32) + (1 : Int32))).toNatClampNeg (((own_upd D ((0 : Int32)).toNatClampNeg ((D ((0 : Int32)).toNatClampNeg) - (D ((0 : Int32)).toNatClampNeg))) (((0 : Int32) + (1 : Int32))).toNatClampNeg) - ((own_upd D ((0 : Int32)).toNatClampNeg ((D ((0 : Int32)).toNatClampNeg) - (D ((0 : Int32)).toNatClampNeg))) (((0 : Int32) + (1 : Int32))).toNatClampNeg))) ((((0 : Int32) + (1 : Int32)) + (1 : Int32))).toNatClampNeg))), .val (.int (((p2 - (D ((0 : Int32)).toNatClampNeg)) - ((own_upd D ((0 : Int32)).toNatClampNeg ((D ((0 : Int32)).toNatClampNeg) - (D ((0 : Int32)).toNatClampNeg))) (((0 : Int32) + (1 : Int32))).toNatClampNeg)) - ((own_upd (own_upd D ((0 : Int32)).toNatClampNeg ((D ((0 : Int32)).toNatClampNeg) - (D ((0 : Int32)).toNatClampNeg))) (((0 : Int32) + (1 : Int32))).toNatClampNeg (((own_upd D ((0 : Int32)).toNatClampNeg ((D ((0 : Int32)).toNatClampNeg) - (D ((0 : Int32)).toNatClampNeg))) (((0 : Int32) + (1 : Int32))).toNatClampNeg) - ((own_upd D ((0 : Int32)).toNatClampNeg ((D ((0 : Int32)).toNatClampNeg) - (D ((0 : Int32)).toNatClampNeg))) (((0 : Int32) + (1 : Int32))).toNatClampNeg))) ((((0 : Int32) + (1 : Int32)) + (1 : Int32))).toNatClampNeg))), .val (.int ((((0 : Int32) + (1 : Int32)) + (1 : Int32)) + (1 : Int32))), .val (.int ((own_upd (own_upd D ((0 : Int32)).toNatClampNeg ((D ((0 : Int32)).toNatClampNeg) - (D ((0 : Int32)).toNatClampNeg))) (((0 : Int32) + (1 : Int32))).toNatClampNeg (((own_upd D ((0 : Int32)).toNatClampNeg ((D ((0 : Int32)).toNatClampNeg) - (D ((0 : Int32)).toNatClampNeg))) (((0 : Int32) + (1 : Int32))).toNatClampNeg) - ((own_upd D ((0 : Int32)).toNatClampNeg ((D ((0 : Int32)).toNatClampNeg) - (D ((0 : Int32)).toNatClampNeg))) (((0 : Int32) + (1 : Int32))).toNatClampNeg))) ((((0 : Int32) + (1 : Int32)) + (1 : Int32))).toNatClampNeg))] [(.ref a1), (.int ((((0 : Int32) + (1 : Int32)) + (1 : Int32)) + (1 : Int32)))])) rfl rfl (hb hby d8_22)
  obtain ⟨cl_ca_25_3, Ar_ca_25_3, S_ca_25_3, -⟩ := id ((V_ca_25.other W26 n3c.symm))
  obtain ⟨T28, X28, e28, st28⟩ := getF X27 hx hZ hown (host := "") (Or.inl (ww hw 23 rfl)) Via.refl e27 ((((((F_l.other W11 (Or.inl n1c)).other W12 (Or.inl n13)).other W18 (Or.inl n1c)).other W19 (Or.inl n13)).other W25 (Or.inl n1c)).other W26 (Or.inl n13)) (g := (mkF m 91 #[.val (.ref a1), .val (.int p2), .val (.ref a3), .val (.ref a4), .val (.int (((p2 - (D ((0 : Int32)).toNatClampNeg)) - ((own_upd D ((0 : Int32)).toNatClampNeg ((D ((0 : Int32)).toNatClampNeg) - (D ((0 : Int32)).toNatClampNeg))) (((0 : Int32) + (1 : Int32))).toNatClampNeg)) - ((own_upd (own_upd D ((0 : Int32)).toNatClampNeg ((D ((0 : Int32)).toNatClampNeg) - (D ((0 : Int32)).toNatClampNeg))) (((0 : Int32) + (1 : Int32))).toNatClampNeg (((own_upd D ((0 : Int32)).toNatClampNeg ((D ((0 : Int32)).toNatClampNeg) - (D ((0 : Int32)).toNatClampNeg))) (((0 : Int32) + (1 : Int32))).toNatClampNeg) - ((own_upd D ((0 : Int32)).toNatClampNeg ((D ((0 : Int32)).toNatClampNeg) - (D ((0 : Int32)).toNatClampNeg))) (((0 : Int32) + (1 : Int32))).toNatClampNeg))) ((((0 : Int32) + (1 : Int32)) + (1 : Int32))).toNatClampNeg))), .val (.int (((p2 - (D ((0 : Int32)).toNatClampNeg)) - ((own_upd D ((0 : Int32)).toNatClampNeg ((D ((0 : Int32)).toNatClampNeg) - (D ((0 : Int32)).toNatClampNeg))) (((0 : Int32) + (1 : Int32))).toNatClampNeg)) - ((own_upd (own_upd D ((0 : Int32)).toNatClampNeg ((D ((0 : Int32)).toNatClampNeg) - (D ((0 : Int32)).toNatClampNeg))) (((0 : Int32) + (1 : Int32))).toNatClampNeg (((own_upd D ((0 : Int32)).toNatClampNeg ((D ((0 : Int32)).toNatClampNeg) - (D ((0 : Int32)).toNatClampNeg))) (((0 : Int32) + (1 : Int32))).toNatClampNeg) - ((own_upd D ((0 : Int32)).toNatClampNeg ((D ((0 : Int32)).toNatClampNeg) - (D ((0 : Int32)).toNatClampNeg))) (((0 : Int32) + (1 : Int32))).toNatClampNeg))) ((((0 : Int32) + (1 : Int32)) + (1 : Int32))).toNatClampNeg))), .val (.int ((((0 : Int32) + (1 : Int32)) + (1 : Int32)) + (1 : Int32))), .val (.int ((own_upd (own_upd D ((0 : Int32)).toNatClampNeg ((D ((0 : Int32)).toNatClampNeg) - (D ((0 : Int32)).toNatClampNeg))) (((0 : Int32) + (1 : Int32))).toNatClampNeg (((own_upd D ((0 : Int32)).toNatClampNeg ((D ((0 : Int32)).toNatClampNeg) - (D ((0 : Int32)).toNatClampNeg))) (((0 : Int32) + (1 : Int32))).toNatClampNeg) - ((own_upd D ((0 : Int32)).toNatClampNeg ((D ((0 : Int32)).toNatClampNeg) - (D ((0 : Int32)).toNatClampNeg))) (((0 : Int32) + (1 : Int32))).toNatClampNeg))) ((((0 : Int32) + (1 : Int32)) + (1 : Int32))).toNatClampNeg))] [(.ref a1), (.ref a1)])) rfl rfl (hb hby d8_91)
  obtain ⟨T29, h29, X29, e29, W29, st29⟩ := putF X28 hx hZ hown (host := "") (Or.inl (ww hw 23 rfl)) Via.refl e28 ((((((F_l.other W11 (Or.inl n1c)).other W12 (Or.inl n13)).other W18 (Or.inl n1c)).other W19 (Or.inl n13)).other W25 (Or.inl n1c)).other W26 (Or.inl n13)) ((((((E_a1.wr W11).wr W12).wr W18).wr W19).wr W25).wr W26) (Or.inl (ww hw 24 rfl)) (ww hw 4 rfl) (ty := .int) (by decide) rfl rfl (g := (mkF m 96 #[.val (.ref a1), .val (.int p2), .val (.ref a3), .val (.ref a4), .val (.int (((p2 - (D ((0 : Int32)).toNatClampNeg)) - ((own_upd D ((0 : Int32)).toNatClampNeg ((D ((0 : Int32)).toNatClampNeg) - (D ((0 : Int32)).toNatClampNeg))) (((0 : Int32) + (1 : Int32))).toNatClampNeg)) - ((own_upd (own_upd D ((0 : Int32)).toNatClampNeg ((D ((0 : Int32)).toNatClampNeg) - (D ((0 : Int32)).toNatClampNeg))) (((0 : Int32) + (1 : Int32))).toNatClampNeg (((own_upd D ((0 : Int32)).toNatClampNeg ((D ((0 : Int32)).toNatClampNeg) - (D ((0 : Int32)).toNatClampNeg))) (((0 : Int32) + (1 : Int32))).toNatClampNeg) - ((own_upd D ((0 : Int32)).toNatClampNeg ((D ((0 : Int32)).toNatClampNeg) - (D ((0 : Int32)).toNatClampNeg))) (((0 : Int32) + (1 : Int32))).toNatClampNeg))) ((((0 : Int32) + (1 : Int32)) + (1 : Int32))).toNatClampNeg))), .val (.int (((p2 - (D ((0 : Int32)).toNatClampNeg)) - ((own_upd D ((0 : Int32)).toNatClampNeg ((D ((0 : Int32)).toNatClampNeg) - (D ((0 : Int32)).toNatClampNeg))) (((0 : Int32) + (1 : Int32))).toNatClampNeg)) - ((own_upd (own_upd D ((0 : Int32)).toNatClampNeg ((D ((0 : Int32)).toNatClampNeg) - (D ((0 : Int32)).toNatClampNeg))) (((0 : Int32) + (1 : Int32))).toNatClampNeg (((own_upd D ((0 : Int32)).toNatClampNeg ((D ((0 : Int32)).toNatClampNeg) - (D ((0 : Int32)).toNatClampNeg))) (((0 : Int32) + (1 : Int32))).toNatClampNeg) - ((own_upd D ((0 : Int32)).toNatClampNeg ((D ((0 : Int32)).toNatClampNeg) - (D ((0 : Int32)).toNatClampNeg))) (((0 : Int32) + (1 : Int32))).toNatClampNeg))) ((((0 : Int32) + (1 : Int32)) + (1 : Int32))).toNatClampNeg))), .val (.int ((((0 : Int32) + (1 : Int32)) + (1 : Int32)) + (1 : Int32))), .val (.int ((own_upd (own_upd D ((0 : Int32)).toNatClampNeg ((D ((0 : Int32)).toNatClampNeg) - (D ((0 : Int32)).toNatClampNeg))) (((0 : Int32) + (1 : Int32))).toNatClampNeg (((own_upd D ((0 : Int32)).toNatClampNeg ((D ((0 : Int32)).toNatClampNeg) - (D ((0 : Int32)).toNatClampNeg))) (((0 : Int32) + (1 : Int32))).toNatClampNeg) - ((own_upd D ((0 : Int32)).toNatClampNeg ((D ((0 : Int32)).toNatClampNeg) - (D ((0 : Int32)).toNatClampNeg))) (((0 : Int32) + (1 : Int32))).toNatClampNeg))) ((((0 : Int32) + (1 : Int32)) + (1 : Int32))).toNatClampNeg))] [(.int (p2 - p2)), (.ref a1)])) rfl rfl (hb hby d8_96)
  have Fw29 := ((((((F_l.other W11 (Or.inl n1c)).other W12 (Or.inl n13)).other W18 (Or.inl n1c)).other W19 (Or.inl n13)).other W25 (Or.inl n1c)).other W26 (Or.inl n13)).same W29
  have K29 : Keep h0 h29 [ca, a3, a1] := K26.wr W29 (Or.inl (List.mem_of_getElem? (i := 2) rfl))
  have N29 := Fr.snoc X29 N26 g_a1
  obtain ⟨fs, hr, hrun, hended, hW, hsame⟩ := X29.leave (v := none) (fun _ => rfl)
  refine ⟨_, _, pre0 _ ?_, hrun, hended, _, _, rfl, ?_, ⟨_, rfl⟩, hW, hsame.mono (by decide) (by decide)⟩
  · show Steps _ _ _ (s₁.setTop (mkF m 0 #[.val (.ref a1), .val (.int p2), .val (.ref a3), .val (.ref a4), .unset, .unset, .unset, .unset] [])) _
    refine XS.iloadN X0.here hx rfl (hb hby d8_0) rfl ?_
    refine XS.sipush X0.here hx rfl (hb hby d8_1) ?_
    refine XS.icmpNo X0.here hx rfl (hb hby d8_4) rfl (tlt hc4).2.2.2 ?_
    refine XS.aloadN X0.here hx rfl (hb hby d8_7) rfl rfl ?_
    refine st5 _ ?_
    refine XS.istore X5.here hx rfl (hb hby d8_11) rfl (l' := #[.val (.ref a1), .val (.int p2), .val (.ref a3), .val (.ref a4), .val (.int p2), .unset, .unset, .unset]) rfl ?_
    refine XS.iloadN X5.here hx rfl (hb hby d8_13) rfl ?_
    refine XS.istore X5.here hx rfl (hb hby d8_14) rfl (l' := #[.val (.ref a1), .val (.int p2), .val (.ref a3), .val (.ref a4), .val (.int p2), .val (.int p2), .unset, .unset]) rfl ?_
    refine XS.iconst X5.here hx rfl (hb hby d8_16) ?_
    refine XS.istore X5.here hx rfl (hb hby d8_17) rfl (l' := #[.val (.ref a1), .val (.int p2), .val (.ref a3), .val (.ref a4), .val (.int p2), .val (.int p2), .val (.int (0 : Int32)), .unset]) rfl ?_
    refine XS.iload X5.here hx rfl (hb hby d8_19) rfl ?_
    refine XS.aloadN X5.here hx rfl (hb hby d8_21) rfl rfl ?_
    refine st6 _ ?_
    refine X6.arraylength hx (by rw [e6]; exact Ar_ca_25.1) (State.isArrayOf_alike hZ.alike Ar_ca_25.2.1) (g := (mkF m 25 #[.val (.ref a1), .val (.int p2), .val (.ref a3), .val (.ref a4), .val (.int p2), .val (.int p2), .val (.int (0 : Int32)), .unset] [(.ref ca), (.int (0 : Int32))])) rfl rfl (hb hby d8_25) _ ?_
    rw [len_of S_ca_25 (by decide)]
    refine XS.icmpNo X6.here hx rfl (hb hby d8_26) rfl (tlt (by decide : (0 : Int32) < (3 : Int32))).2.1 ?_
    refine XS.aloadN X6.here hx rfl (hb hby d8_29) rfl rfl ?_
    refine XS.iload X6.here hx rfl (hb hby d8_30) rfl ?_
    refine XS.aloadN X6.here hx rfl (hb hby d8_32) rfl rfl ?_
    refine st7 _ ?_
    refine XS.iload X7.here hx rfl (hb hby d8_36) rfl ?_
    refine X7.iaload hx (j := (0 : Int32)) (v := (.int (D ((0 : Int32)).toNatClampNeg))) (by rw [e7]; exact Ar_38.1) (State.isArrayOf_alike hZ.alike Ar_38.2.1) Ar_38.2.2 hin38 hat38 (g := (mkF m 38 #[.val (.ref a1), .val (.int p2), .val (.ref a3), .val (.ref a4), .val (.int p2), .val (.int p2), .val (.int (0 : Int32)), .unset] [(.int (0 : Int32)), (.ref ca), (.int p2), (.ref a4)])) rfl rfl (hb hby d8_38) _ ?_
    refine XS.iload X7.here hx rfl (hb hby d8_39) rfl ?_
    refine st8 _ ?_
    refine XS.istore X8.here hx rfl (hb hby d8_44) rfl (l' := #[.val (.ref a1), .val (.int p2), .val (.ref a3), .val (.ref a4), .val (.int p2), .val (.int p2), .val (.int (0 : Int32)), .val (.int (D ((0 : Int32)).toNatClampNeg))]) rfl ?_
    refine XS.iload X8.here hx rfl (hb hby d8_46) rfl ?_
    refine XS.aloadN X8.here hx rfl (hb hby d8_48) rfl rfl ?_
    refine st9 _ ?_
    refine XS.iload X9.here hx rfl (hb hby d8_52) rfl ?_
    refine X9.iaload hx (j := (0 : Int32)) (v := (.int (D ((0 : Int32)).toNatClampNeg))) (by rw [e9]; exact Ar_54.1) (State.isArrayOf_alike hZ.alike Ar_54.2.1) Ar_54.2.2 hin54 hat54 (g := (mkF m 54 #[.val (.ref a1), .val (.int p2), .val (.ref a3), .val (.ref a4), .val (.int p2), .val (.int p2), .val (.int (0 : Int32)), .val (.int (D ((0 : Int32)).toNatClampNeg))] [(.int (0 : Int32)), (.ref ca), (.int p2)])) rfl rfl (hb hby d8_54) _ ?_
    refine XS.isub X9.here hx rfl (hb hby d8_55) rfl ?_
    refine XS.istore X9.here hx rfl (hb hby d8_56) rfl (l' := #[.val (.ref a1), .val (.int p2), .val (.ref a3), .val (.ref a4), .val (.int (p2 - (D ((0 : Int32)).toNatClampNeg))), .val (.int p2), .val (.int (0 : Int32)), .val (.int (D ((0 : Int32)).toNatClampNeg))]) rfl ?_
    refine XS.aloadN X9.here hx rfl (hb hby d8_58) rfl rfl ?_
    refine st10 _ ?_
    refine XS.iload X10.here hx rfl (hb hby d8_62) rfl ?_
    jvm_step X10.here [X10.here.top, hx, (hb hby d8_64), Value.category]
    refine X10.iaload hx (j := (0 : Int32)) (v := (.int (D ((0 : Int32)).toNatClampNeg))) (by rw [e10]; exact Ar_65.1) (State.isArrayOf_alike hZ.alike Ar_65.2.1) Ar_65.2.2 hin65 hat65 (g := (mkF m 65 #[.val (.ref a1), .val (.int p2), .val (.ref a3), .val (.ref a4), .val (.int (p2 - (D ((0 : Int32)).toNatClampNeg))), .val (.int p2), .val (.int (0 : Int32)), .val (.int (D ((0 : Int32)).toNatClampNeg))] [(.int (0 : Int32)), (.ref ca), (.int (0 : Int32)), (.ref ca)])) rfl rfl (hb hby d8_65) _ ?_
    refine XS.iload X10.here hx rfl (hb hby d8_66) rfl ?_
    refine XS.isub X10.here hx rfl (hb hby d8_68) rfl ?_
    refine st11 _ ?_
    refine XS.aloadN X11.here hx rfl (hb hby d8_70) rfl rfl ?_
    refine XS.iload X11.here hx rfl (hb hby d8_71) rfl ?_
    refine XS.iload X11.here hx rfl (hb hby d8_73) rfl ?_
    refine st12 _ ?_
    refine XS.iload X12.here hx rfl (hb hby d8_76) rfl ?_
    refine XS.iload X12.here hx rfl (hb hby d8_78) rfl ?_
    refine XS.isub X12.here hx rfl (hb hby d8_80) rfl ?_
    refine XS.istore X12.here hx rfl (hb hby d8_81) rfl (l' := #[.val (.ref a1), .val (.int p2), .val (.ref a3), .val (.ref a4), .val (.int (p2 - (D ((0 : Int32)).toNatClampNeg))), .val (.int (p2 - (D ((0 : Int32)).toNatClampNeg))), .val (.int (0 : Int32)), .val (.int (D ((0 : Int32)).toNatClampNeg))]) rfl ?_
    refine XS.iinc X12.here hx rfl (hb hby d8_83) rfl (l' := #[.val (.ref a1), .val (.int p2), .val (.ref a3), .val (.ref a4), .val (.int (p2 - (D ((0 : Int32)).toNatClampNeg))), .val (.int (p2 - (D ((0 : Int32)).toNatClampNeg))), .val (.int ((0 : Int32) + (1 : Int32))), .val (.int (D ((0 : Int32)).toNatClampNeg))]) rfl ?_
    refine XS.goto X12.here hx rfl (pc0 := 86) (pc' := 19) rfl (hb hby d8_86) (by decide) (by decide) ?_
    refine XS.iload X12.here hx rfl (hb hby d8_19) rfl ?_
    refine XS.aloadN X12.here hx rfl (hb hby d8_21) rfl rfl ?_
    refine st13 _ ?_
    refine X13.arraylength hx (by rw [e13]; exact Ar_ca_25_1.1) (State.isArrayOf_alike hZ.alike Ar_ca_25_1.2.1) (g := (mkF m 25 #[.val (.ref a1), .val (.int p2), .val (.ref a3), .val (.ref a4), .val (.int (p2 - (D ((0 : Int32)).toNatClampNeg))), .val (.int (p2 - (D ((0 : Int32)).toNatClampNeg))), .val (.int ((0 : Int32) + (1 : Int32))), .val (.int (D ((0 : Int32)).toNatClampNeg))] [(.ref ca), (.int ((0 : Int32) + (1 : Int32)))])) rfl rfl (hb hby d8_25) _ ?_
    rw [len_of S_ca_25_1 (by decide)]
    refine XS.icmpNo X13.here hx rfl (hb hby d8_26) rfl (tlt (by decide : ((0 : Int32) + (1 : Int32)) < (3 : Int32))).2.1 ?_
    refine XS.aloadN X13.here hx rfl (hb hby d8_29) rfl rfl ?_
    refine XS.iload X13.here hx rfl (hb hby d8_30) rfl ?_
    refine XS.aloadN X13.here hx rfl (hb hby d8_32) rfl rfl ?_
    refine st14 _ ?_
    refine XS.iload X14.here hx rfl (hb hby d8_36) rfl ?_
    refine X14.iaload hx (j := ((0 : Int32) + (1 : Int32))) (v := (.int ((own_upd D ((0 : Int32)).toNatClampNeg ((D ((0 : Int32)).toNatClampNeg) - (D ((0 : Int32)).toNatClampNeg))) (((0 : Int32) + (1 : Int32))).toNatClampNeg))) (by rw [e14]; exact Ar_38_1.1) (State.isArrayOf_alike hZ.alike Ar_38_1.2.1) Ar_38_1.2.2 hin38_1 hat38_1 (g := (mkF m 38 #[.val (.ref a1), .val (.int p2), .val (.ref a3), .val (.ref a4), .val (.int (p2 - (D ((0 : Int32)).toNatClampNeg))), .val (.int (p2 - (D ((0 : Int32)).toNatClampNeg))), .val (.int ((0 : Int32) + (1 : Int32))), .val (.int (D ((0 : Int32)).toNatClampNeg))] [(.int ((0 : Int32) + (1 : Int32))), (.ref ca), (.int (p2 - (D ((0 : Int32)).toNatClampNeg))), (.ref a4)])) rfl rfl (hb hby d8_38) _ ?_
    refine XS.iload X14.here hx rfl (hb hby d8_39) rfl ?_
    refine st15 _ ?_
    refine XS.istore X15.here hx rfl (hb hby d8_44) rfl (l' := #[.val (.ref a1), .val (.int p2), .val (.ref a3), .val (.ref a4), .val (.int (p2 - (D ((0 : Int32)).toNatClampNeg))), .val (.int (p2 - (D ((0 : Int32)).toNatClampNeg))), .val (.int ((0 : Int32) + (1 : Int32))), .val (.int ((own_upd D ((0 : Int32)).toNatClampNeg ((D ((0 : Int32)).toNatClampNeg) - (D ((0 : Int32)).toNatClampNeg))) (((0 : Int32) + (1 : Int32))).toNatClampNeg))]) rfl ?_
    refine XS.iload X15.here hx rfl (hb hby d8_46) rfl ?_
    refine XS.aloadN X15.here hx rfl (hb hby d8_48) rfl rfl ?_
    refine st16 _ ?_
    refine XS.iload X16.here hx rfl (hb hby d8_52) rfl ?_
    refine X16.iaload hx (j := ((0 : Int32) + (1 : Int32))) (v := (.int ((own_upd D ((0 : Int32)).toNatClampNeg ((D ((0 : Int32)).toNatClampNeg) - (D ((0 : Int32)).toNatClampNeg))) (((0 : Int32) + (1 : Int32))).toNatClampNeg))) (by rw [e16]; exact Ar_54_1.1) (State.isArrayOf_alike hZ.alike Ar_54_1.2.1) Ar_54_1.2.2 hin54_1 hat54_1 (g := (mkF m 54 #[.val (.ref a1), .val (.int p2), .val (.ref a3), .val (.ref a4), .val (.int (p2 - (D ((0 : Int32)).toNatClampNeg))), .val (.int (p2 - (D ((0 : Int32)).toNatClampNeg))), .val (.int ((0 : Int32) + (1 : Int32))), .val (.int ((own_upd D ((0 : Int32)).toNatClampNeg ((D ((0 : Int32)).toNatClampNeg) - (D ((0 : Int32)).toNatClampNeg))) (((0 : Int32) + (1 : Int32))).toNatClampNeg))] [(.int ((0 : Int32) + (1 : Int32))), (.ref ca), (.int (p2 - (D ((0 : Int32)).toNatClampNeg)))])) rfl rfl (hb hby d8_54) _ ?_
    refine XS.isub X16.here hx rfl (hb hby d8_55) rfl ?_
    refine XS.istore X16.here hx rfl (hb hby d8_56) rfl (l' := #[.val (.ref a1), .val (.int p2), .val (.ref a3), .val (.ref a4), .val (.int ((p2 - (D ((0 : Int32)).toNatClampNeg)) - ((own_upd D ((0 : Int32)).toNatClampNeg ((D ((0 : Int32)).toNatClampNeg) - (D ((0 : Int32)).toNatClampNeg))) (((0 : Int32) + (1 : Int32))).toNatClampNeg))), .val (.int (p2 - (D ((0 : Int32)).toNatClampNeg))), .val (.int ((0 : Int32) + (1 : Int32))), .val (.int ((own_upd D ((0 : Int32)).toNatClampNeg ((D ((0 : Int32)).toNatClampNeg) - (D ((0 : Int32)).toNatClampNeg))) (((0 : Int32) + (1 : Int32))).toNatClampNeg))]) rfl ?_
    refine XS.aloadN X16.here hx rfl (hb hby d8_58) rfl rfl ?_
    refine st17 _ ?_
    refine XS.iload X17.here hx rfl (hb hby d8_62) rfl ?_
    jvm_step X17.here [X17.here.top, hx, (hb hby d8_64), Value.category]
    refine X17.iaload hx (j := ((0 : Int32) + (1 : Int32))) (v := (.int ((own_upd D ((0 : Int32)).toNatClampNeg ((D ((0 : Int32)).toNatClampNeg) - (D ((0 : Int32)).toNatClampNeg))) (((0 : Int32) + (1 : Int32))).toNatClampNeg))) (by rw [e17]; exact Ar_65_1.1) (State.isArrayOf_alike hZ.alike Ar_65_1.2.1) Ar_65_1.2.2 hin65_1 hat65_1 (g := (mkF m 65 #[.val (.ref a1), .val (.int p2), .val (.ref a3), .val (.ref a4), .val (.int ((p2 - (D ((0 : Int32)).toNatClampNeg)) - ((own_upd D ((0 : Int32)).toNatClampNeg ((D ((0 : Int32)).toNatClampNeg) - (D ((0 : Int32)).toNatClampNeg))) (((0 : Int32) + (1 : Int32))).toNatClampNeg))), .val (.int (p2 - (D ((0 : Int32)).toNatClampNeg))), .val (.int ((0 : Int32) + (1 : Int32))), .val (.int ((own_upd D ((0 : Int32)).toNatClampNeg ((D ((0 : Int32)).toNatClampNeg) - (D ((0 : Int32)).toNatClampNeg))) (((0 : Int32) + (1 : Int32))).toNatClampNeg))] [(.int ((0 : Int32) + (1 : Int32))), (.ref ca), (.int ((0 : Int32) + (1 : Int32))), (.ref ca)])) rfl rfl (hb hby d8_65) _ ?_
    refine XS.iload X17.here hx rfl (hb hby d8_66) rfl ?_
    refine XS.isub X17.here hx rfl (hb hby d8_68) rfl ?_
    refine st18 _ ?_
    refine XS.aloadN X18.here hx rfl (hb hby d8_70) rfl rfl ?_
    refine XS.iload X18.here hx rfl (hb hby d8_71) rfl ?_
    refine XS.iload X18.here hx rfl (hb hby d8_73) rfl ?_
    refine st19 _ ?_
    refine XS.iload X19.here hx rfl (hb hby d8_76) rfl ?_
    refine XS.iload X19.here hx rfl (hb hby d8_78) rfl ?_
    refine XS.isub X19.here hx rfl (hb hby d8_80) rfl ?_
    refine XS.istore X19.here hx rfl (hb hby d8_81) rfl (l' := #[.val (.ref a1), .val (.int p2), .val (.ref a3), .val (.ref a4), .val (.int ((p2 - (D ((0 : Int32)).toNatClampNeg)) - ((own_upd D ((0 : Int32)).toNatClampNeg ((D ((0 : Int32)).toNatClampNeg) - (D ((0 : Int32)).toNatClampNeg))) (((0 : Int32) + (1 : Int32))).toNatClampNeg))), .val (.int ((p2 - (D ((0 : Int32)).toNatClampNeg)) - ((own_upd D ((0 : Int32)).toNatClampNeg ((D ((0 : Int32)).toNatClampNeg) - (D ((0 : Int32)).toNatClampNeg))) (((0 : Int32) + (1 : Int32))).toNatClampNeg))), .val (.int ((0 : Int32) + (1 : Int32))), .val (.int ((own_upd D ((0 : Int32)).toNatClampNeg ((D ((0 : Int32)).toNatClampNeg) - (D ((0 : Int32)).toNatClampNeg))) (((0 : Int32) + (1 : Int32))).toNatClampNeg))]) rfl ?_
    refine XS.iinc X19.here hx rfl (hb hby d8_83) rfl (l' := #[.val (.ref a1), .val (.int p2), .val (.ref a3), .val (.ref a4), .val (.int ((p2 - (D ((0 : Int32)).toNatClampNeg)) - ((own_upd D ((0 : Int32)).toNatClampNeg ((D ((0 : Int32)).toNatClampNeg) - (D ((0 : Int32)).toNatClampNeg))) (((0 : Int32) + (1 : Int32))).toNatClampNeg))), .val (.int ((p2 - (D ((0 : Int32)).toNatClampNeg)) - ((own_upd D ((0 : Int32)).toNatClampNeg ((D ((0 : Int32)).toNatClampNeg) - (D ((0 : Int32)).toNatClampNeg))) (((0 : Int32) + (1 : Int32))).toNatClampNeg))), .val (.int (((0 : Int32) + (1 : Int32)) + (1 : Int32))), .val (.int ((own_upd D ((0 : Int32)).toNatClampNeg ((D ((0 : Int32)).toNatClampNeg) - (D ((0 : Int32)).toNatClampNeg))) (((0 : Int32) + (1 : Int32))).toNatClampNeg))]) rfl ?_
    refine XS.goto X19.here hx rfl (pc0 := 86) (pc' := 19) rfl (hb hby d8_86) (by decide) (by decide) ?_
    refine XS.iload X19.here hx rfl (hb hby d8_19) rfl ?_
    refine XS.aloadN X19.here hx rfl (hb hby d8_21) rfl rfl ?_
    refine st20 _ ?_
    refine X20.arraylength hx (by rw [e20]; exact Ar_ca_25_2.1) (State.isArrayOf_alike hZ.alike Ar_ca_25_2.2.1) (g := (mkF m 25 #[.val (.ref a1), .val (.int p2), .val (.ref a3), .val (.ref a4), .val (.int ((p2 - (D ((0 : Int32)).toNatClampNeg)) - ((own_upd D ((0 : Int32)).toNatClampNeg ((D ((0 : Int32)).toNatClampNeg) - (D ((0 : Int32)).toNatClampNeg))) (((0 : Int32) + (1 : Int32))).toNatClampNeg))), .val (.int ((p2 - (D ((0 : Int32)).toNatClampNeg)) - ((own_upd D ((0 : Int32)).toNatClampNeg ((D ((0 : Int32)).toNatClampNeg) - (D ((0 : Int32)).toNatClampNeg))) (((0 : Int32) + (1 : Int32))).toNatClampNeg))), .val (.int (((0 : Int32) + (1 : Int32)) + (1 : Int32))), .val (.int ((own_upd D ((0 : Int32)).toNatClampNeg ((D ((0 : Int32)).toNatClampNeg) - (D ((0 : Int32)).toNatClampNeg))) (((0 : Int32) + (1 : Int32))).toNatClampNeg))] [(.ref ca), (.int (((0 : Int32) + (1 : Int32)) + (1 : Int32)))])) rfl rfl (hb hby d8_25) _ ?_
    rw [len_of S_ca_25_2 (by decide)]
    refine XS.icmpNo X20.here hx rfl (hb hby d8_26) rfl (tlt (by decide : (((0 : Int32) + (1 : Int32)) + (1 : Int32)) < (3 : Int32))).2.1 ?_
    refine XS.aloadN X20.here hx rfl (hb hby d8_29) rfl rfl ?_
    refine XS.iload X20.here hx rfl (hb hby d8_30) rfl ?_
    refine XS.aloadN X20.here hx rfl (hb hby d8_32) rfl rfl ?_
    refine st21 _ ?_
    refine XS.iload X21.here hx rfl (hb hby d8_36) rfl ?_
    refine X21.iaload hx (j := (((0 : Int32) + (1 : Int32)) + (1 : Int32))) (v := (.int ((own_upd (own_upd D ((0 : Int32)).toNatClampNeg ((D ((0 : Int32)).toNatClampNeg) - (D ((0 : Int32)).toNatClampNeg))) (((0 : Int32) + (1 : Int32))).toNatClampNeg (((own_upd D ((0 : Int32)).toNatClampNeg ((D ((0 : Int32)).toNatClampNeg) - (D ((0 : Int32)).toNatClampNeg))) (((0 : Int32) + (1 : Int32))).toNatClampNeg) - ((own_upd D ((0 : Int32)).toNatClampNeg ((D ((0 : Int32)).toNatClampNeg) - (D ((0 : Int32)).toNatClampNeg))) (((0 : Int32) + (1 : Int32))).toNatClampNeg))) ((((0 : Int32) + (1 : Int32)) + (1 : Int32))).toNatClampNeg))) (by rw [e21]; exact Ar_38_2.1) (State.isArrayOf_alike hZ.alike Ar_38_2.2.1) Ar_38_2.2.2 hin38_2 hat38_2 (g := (mkF m 38 #[.val (.ref a1), .val (.int p2), .val (.ref a3), .val (.ref a4), .val (.int ((p2 - (D ((0 : Int32)).toNatClampNeg)) - ((own_upd D ((0 : Int32)).toNatClampNeg ((D ((0 : Int32)).toNatClampNeg) - (D ((0 : Int32)).toNatClampNeg))) (((0 : Int32) + (1 : Int32))).toNatClampNeg))), .val (.int ((p2 - (D ((0 : Int32)).toNatClampNeg)) - ((own_upd D ((0 : Int32)).toNatClampNeg ((D ((0 : Int32)).toNatClampNeg) - (D ((0 : Int32)).toNatClampNeg))) (((0 : Int32) + (1 : Int32))).toNatClampNeg))), .val (.int (((0 : Int32) + (1 : Int32)) + (1 : Int32))), .val (.int ((own_upd D ((0 : Int32)).toNatClampNeg ((D ((0 : Int32)).toNatClampNeg) - (D ((0 : Int32)).toNatClampNeg))) (((0 : Int32) + (1 : Int32))).toNatClampNeg))] [(.int (((0 : Int32) + (1 : Int32)) + (1 : Int32))), (.ref ca), (.int ((p2 - (D ((0 : Int32)).toNatClampNeg)) - ((own_upd D ((0 : Int32)).toNatClampNeg ((D ((0 : Int32)).toNatClampNeg) - (D ((0 : Int32)).toNatClampNeg))) (((0 : Int32) + (1 : Int32))).toNatClampNeg))), (.ref a4)])) rfl rfl (hb hby d8_38) _ ?_
    refine XS.iload X21.here hx rfl (hb hby d8_39) rfl ?_
    refine st22 _ ?_
    refine XS.istore X22.here hx rfl (hb hby d8_44) rfl (l' := #[.val (.ref a1), .val (.int p2), .val (.ref a3), .val (.ref a4), .val (.int ((p2 - (D ((0 : Int32)).toNatClampNeg)) - ((own_upd D ((0 : Int32)).toNatClampNeg ((D ((0 : Int32)).toNatClampNeg) - (D ((0 : Int32)).toNatClampNeg))) (((0 : Int32) + (1 : Int32))).toNatClampNeg))), .val (.int ((p2 - (D ((0 : Int32)).toNatClampNeg)) - ((own_upd D ((0 : Int32)).toNatClampNeg ((D ((0 : Int32)).toNatClampNeg) - (D ((0 : Int32)).toNatClampNeg))) (((0 : Int32) + (1 : Int32))).toNatClampNeg))), .val (.int (((0 : Int32) + (1 : Int32)) + (1 : Int32))), .val (.int ((own_upd (own_upd D ((0 : Int32)).toNatClampNeg ((D ((0 : Int32)).toNatClampNeg) - (D ((0 : Int32)).toNatClampNeg))) (((0 : Int32) + (1 : Int32))).toNatClampNeg (((own_upd D ((0 : Int32)).toNatClampNeg ((D ((0 : Int32)).toNatClampNeg) - (D ((0 : Int32)).toNatClampNeg))) (((0 : Int32) + (1 : Int32))).toNatClampNeg) - ((own_upd D ((0 : Int32)).toNatClampNeg ((D ((0 : Int32)).toNatClampNeg) - (D ((0 : Int32)).toNatClampNeg))) (((0 : Int32) + (1 : Int32))).toNatClampNeg))) ((((0 : Int32) + (1 : Int32)) + (1 : Int32))).toNatClampNeg))]) rfl ?_
    refine XS.iload X22.here hx rfl (hb hby d8_46) rfl ?_
    refine XS.aloadN X22.here hx rfl (hb hby d8_48) rfl rfl ?_
    refine st23 _ ?_
    refine XS.iload X23.here hx rfl (hb hby d8_52) rfl ?_
    refine X23.iaload hx (j := (((0 : Int32) + (1 : Int32)) + (1 : Int32))) (v := (.int ((own_upd (own_upd D ((0 : Int32)).toNatClampNeg ((D ((0 : Int32)).toNatClampNeg) - (D ((0 : Int32)).toNatClampNeg))) (((0 : Int32) + (1 : Int32))).toNatClampNeg (((own_upd D ((0 : Int32)).toNatClampNeg ((D ((0 : Int32)).toNatClampNeg) - (D ((0 : Int32)).toNatClampNeg))) (((0 : Int32) + (1 : Int32))).toNatClampNeg) - ((own_upd D ((0 : Int32)).toNatClampNeg ((D ((0 : Int32)).toNatClampNeg) - (D ((0 : Int32)).toNatClampNeg))) (((0 : Int32) + (1 : Int32))).toNatClampNeg))) ((((0 : Int32) + (1 : Int32)) + (1 : Int32))).toNatClampNeg))) (by rw [e23]; exact Ar_54_2.1) (State.isArrayOf_alike hZ.alike Ar_54_2.2.1) Ar_54_2.2.2 hin54_2 hat54_2 (g := (mkF m 54 #[.val (.ref a1), .val (.int p2), .val (.ref a3), .val (.ref a4), .val (.int ((p2 - (D ((0 : Int32)).toNatClampNeg)) - ((own_upd D ((0 : Int32)).toNatClampNeg ((D ((0 : Int32)).toNatClampNeg) - (D ((0 : Int32)).toNatClampNeg))) (((0 : Int32) + (1 : Int32))).toNatClampNeg))), .val (.int ((p2 - (D ((0 : Int32)).toNatClampNeg)) - ((own_upd D ((0 : Int32)).toNatClampNeg ((D ((0 : Int32)).toNatClampNeg) - (D ((0 : Int32)).toNatClampNeg))) (((0 : Int32) + (1 : Int32))).toNatClampNeg))), .val (.int (((0 : Int32) + (1 : Int32)) + (1 : Int32))), .val (.int ((own_upd (own_upd D ((0 : Int32)).toNatClampNeg ((D ((0 : Int32)).toNatClampNeg) - (D ((0 : Int32)).toNatClampNeg))) (((0 : Int32) + (1 : Int32))).toNatClampNeg (((own_upd D ((0 : Int32)).toNatClampNeg ((D ((0 : Int32)).toNatClampNeg) - (D ((0 : Int32)).toNatClampNeg))) (((0 : Int32) + (1 : Int32))).toNatClampNeg) - ((own_upd D ((0 : Int32)).toNatClampNeg ((D ((0 : Int32)).toNatClampNeg) - (D ((0 : Int32)).toNatClampNeg))) (((0 : Int32) + (1 : Int32))).toNatClampNeg))) ((((0 : Int32) + (1 : Int32)) + (1 : Int32))).toNatClampNeg))] [(.int (((0 : Int32) + (1 : Int32)) + (1 : Int32))), (.ref ca), (.int ((p2 - (D ((0 : Int32)).toNatClampNeg)) - ((own_upd D ((0 : Int32)).toNatClampNeg ((D ((0 : Int32)).toNatClampNeg) - (D ((0 : Int32)).toNatClampNeg))) (((0 : Int32) + (1 : Int32))).toNatClampNeg)))])) rfl rfl (hb hby d8_54) _ ?_
    refine XS.isub X23.here hx rfl (hb hby d8_55) rfl ?_
    refine XS.istore X23.here hx rfl (hb hby d8_56) rfl (l' := #[.val (.ref a1), .val (.int p2), .val (.ref a3), .val (.ref a4), .val (.int (((p2 - (D ((0 : Int32)).toNatClampNeg)) - ((own_upd D ((0 : Int32)).toNatClampNeg ((D ((0 : Int32)).toNatClampNeg) - (D ((0 : Int32)).toNatClampNeg))) (((0 : Int32) + (1 : Int32))).toNatClampNeg)) - ((own_upd (own_upd D ((0 : Int32)).toNatClampNeg ((D ((0 : Int32)).toNatClampNeg) - (D ((0 : Int32)).toNatClampNeg))) (((0 : Int32) + (1 : Int32))).toNatClampNeg (((own_upd D ((0 : Int32)).toNatClampNeg ((D ((0 : Int32)).toNatClampNeg) - (D ((0 : Int32)).toNatClampNeg))) (((0 : Int32) + (1 : Int32))).toNatClampNeg) - ((own_upd D ((0 : Int32)).toNatClampNeg ((D ((0 : Int32)).toNatClampNeg) - (D ((0 : Int32)).toNatClampNeg))) (((0 : Int32) + (1 : Int32))).toNatClampNeg))) ((((0 : Int32) + (1 : Int32)) + (1 : Int32))).toNatClampNeg))), .val (.int ((p2 - (D ((0 : Int32)).toNatClampNeg)) - ((own_upd D ((0 : Int32)).toNatClampNeg ((D ((0 : Int32)).toNatClampNeg) - (D ((0 : Int32)).toNatClampNeg))) (((0 : Int32) + (1 : Int32))).toNatClampNeg))), .val (.int (((0 : Int32) + (1 : Int32)) + (1 : Int32))), .val (.int ((own_upd (own_upd D ((0 : Int32)).toNatClampNeg ((D ((0 : Int32)).toNatClampNeg) - (D ((0 : Int32)).toNatClampNeg))) (((0 : Int32) + (1 : Int32))).toNatClampNeg (((own_upd D ((0 : Int32)).toNatClampNeg ((D ((0 : Int32)).toNatClampNeg) - (D ((0 : Int32)).toNatClampNeg))) (((0 : Int32) + (1 : Int32))).toNatClampNeg) - ((own_upd D ((0 : Int32)).toNatClampNeg ((D ((0 : Int32)).toNatClampNeg) - (D ((0 : Int32)).toNatClampNeg))) (((0 : Int32) + (1 : Int32))).toNatClampNeg))) ((((0 : Int32) + (1 : Int32)) + (1 : Int32))).toNatClampNeg))]) rfl ?_
    refine XS.aloadN X23.here hx rfl (hb hby d8_58) rfl rfl ?_
    refine st24 _ ?_
    refine XS.iload X24.here hx rfl (hb hby d8_62) rfl ?_
    jvm_step X24.here [X24.here.top, hx, (hb hby d8_64), Value.category]
    refine X24.iaload hx (j := (((0 : Int32) + (1 : Int32)) + (1 : Int32))) (v := (.int ((own_upd (own_upd D ((0 : Int32)).toNatClampNeg ((D ((0 : Int32)).toNatClampNeg) - (D ((0 : Int32)).toNatClampNeg))) (((0 : Int32) + (1 : Int32))).toNatClampNeg (((own_upd D ((0 : Int32)).toNatClampNeg ((D ((0 : Int32)).toNatClampNeg) - (D ((0 : Int32)).toNatClampNeg))) (((0 : Int32) + (1 : Int32))).toNatClampNeg) - ((own_upd D ((0 : Int32)).toNatClampNeg ((D ((0 : Int32)).toNatClampNeg) - (D ((0 : Int32)).toNatClampNeg))) (((0 : Int32) + (1 : Int32))).toNatClampNeg))) ((((0 : Int32) + (1 : Int32)) + (1 : Int32))).toNatClampNeg))) (by rw [e24]; exact Ar_65_2.1) (State.isArrayOf_alike hZ.alike Ar_65_2.2.1) Ar_65_2.2.2 hin65_2 hat65_2 (g := (mkF m 65 #[.val (.ref a1), .val (.int p2), .val (.ref a3), .val (.ref a4), .val (.int (((p2 - (D ((0 : Int32)).toNatClampNeg)) - ((own_upd D ((0 : Int32)).toNatClampNeg ((D ((0 : Int32)).toNatClampNeg) - (D ((0 : Int32)).toNatClampNeg))) (((0 : Int32) + (1 : Int32))).toNatClampNeg)) - ((own_upd (own_upd D ((0 : Int32)).toNatClampNeg ((D ((0 : Int32)).toNatClampNeg) - (D ((0 : Int32)).toNatClampNeg))) (((0 : Int32) + (1 : Int32))).toNatClampNeg (((own_upd D ((0 : Int32)).toNatClampNeg ((D ((0 : Int32)).toNatClampNeg) - (D ((0 : Int32)).toNatClampNeg))) (((0 : Int32) + (1 : Int32))).toNatClampNeg) - ((own_upd D ((0 : Int32)).toNatClampNeg ((D ((0 : Int32)).toNatClampNeg) - (D ((0 : Int32)).toNatClampNeg))) (((0 : Int32) + (1 : Int32))).toNatClampNeg))) ((((0 : Int32) + (1 : Int32)) + (1 : Int32))).toNatClampNeg))), .val (.int ((p2 - (D ((0 : Int32)).toNatClampNeg)) - ((own_upd D ((0 : Int32)).toNatClampNeg ((D ((0 : Int32)).toNatClampNeg) - (D ((0 : Int32)).toNatClampNeg))) (((0 : Int32) + (1 : Int32))).toNatClampNeg))), .val (.int (((0 : Int32) + (1 : Int32)) + (1 : Int32))), .val (.int ((own_upd (own_upd D ((0 : Int32)).toNatClampNeg ((D ((0 : Int32)).toNatClampNeg) - (D ((0 : Int32)).toNatClampNeg))) (((0 : Int32) + (1 : Int32))).toNatClampNeg (((own_upd D ((0 : Int32)).toNatClampNeg ((D ((0 : Int32)).toNatClampNeg) - (D ((0 : Int32)).toNatClampNeg))) (((0 : Int32) + (1 : Int32))).toNatClampNeg) - ((own_upd D ((0 : Int32)).toNatClampNeg ((D ((0 : Int32)).toNatClampNeg) - (D ((0 : Int32)).toNatClampNeg))) (((0 : Int32) + (1 : Int32))).toNatClampNeg))) ((((0 : Int32) + (1 : Int32)) + (1 : Int32))).toNatClampNeg))] [(.int (((0 : Int32) + (1 : Int32)) + (1 : Int32))), (.ref ca), (.int (((0 : Int32) + (1 : Int32)) + (1 : Int32))), (.ref ca)])) rfl rfl (hb hby d8_65) _ ?_
    refine XS.iload X24.here hx rfl (hb hby d8_66) rfl ?_
    refine XS.isub X24.here hx rfl (hb hby d8_68) rfl ?_
    refine st25 _ ?_
    refine XS.aloadN X25.here hx rfl (hb hby d8_70) rfl rfl ?_
    refine XS.iload X25.here hx rfl (hb hby d8_71) rfl ?_
    refine XS.iload X25.here hx rfl (hb hby d8_73) rfl ?_
    refine st26 _ ?_
    refine XS.iload X26.here hx rfl (hb hby d8_76) rfl ?_
    refine XS.iload X26.here hx rfl (hb hby d8_78) rfl ?_
    refine XS.isub X26.here hx rfl (hb hby d8_80) rfl ?_
    refine XS.istore X26.here hx rfl (hb hby d8_81) rfl (l' := #[.val (.ref a1), .val (.int p2), .val (.ref a3), .val (.ref a4), .val (.int (((p2 - (D ((0 : Int32)).toNatClampNeg)) - ((own_upd D ((0 : Int32)).toNatClampNeg ((D ((0 : Int32)).toNatClampNeg) - (D ((0 : Int32)).toNatClampNeg))) (((0 : Int32) + (1 : Int32))).toNatClampNeg)) - ((own_upd (own_upd D ((0 : Int32)).toNatClampNeg ((D ((0 : Int32)).toNatClampNeg) - (D ((0 : Int32)).toNatClampNeg))) (((0 : Int32) + (1 : Int32))).toNatClampNeg (((own_upd D ((0 : Int32)).toNatClampNeg ((D ((0 : Int32)).toNatClampNeg) - (D ((0 : Int32)).toNatClampNeg))) (((0 : Int32) + (1 : Int32))).toNatClampNeg) - ((own_upd D ((0 : Int32)).toNatClampNeg ((D ((0 : Int32)).toNatClampNeg) - (D ((0 : Int32)).toNatClampNeg))) (((0 : Int32) + (1 : Int32))).toNatClampNeg))) ((((0 : Int32) + (1 : Int32)) + (1 : Int32))).toNatClampNeg))), .val (.int (((p2 - (D ((0 : Int32)).toNatClampNeg)) - ((own_upd D ((0 : Int32)).toNatClampNeg ((D ((0 : Int32)).toNatClampNeg) - (D ((0 : Int32)).toNatClampNeg))) (((0 : Int32) + (1 : Int32))).toNatClampNeg)) - ((own_upd (own_upd D ((0 : Int32)).toNatClampNeg ((D ((0 : Int32)).toNatClampNeg) - (D ((0 : Int32)).toNatClampNeg))) (((0 : Int32) + (1 : Int32))).toNatClampNeg (((own_upd D ((0 : Int32)).toNatClampNeg ((D ((0 : Int32)).toNatClampNeg) - (D ((0 : Int32)).toNatClampNeg))) (((0 : Int32) + (1 : Int32))).toNatClampNeg) - ((own_upd D ((0 : Int32)).toNatClampNeg ((D ((0 : Int32)).toNatClampNeg) - (D ((0 : Int32)).toNatClampNeg))) (((0 : Int32) + (1 : Int32))).toNatClampNeg))) ((((0 : Int32) + (1 : Int32)) + (1 : Int32))).toNatClampNeg))), .val (.int (((0 : Int32) + (1 : Int32)) + (1 : Int32))), .val (.int ((own_upd (own_upd D ((0 : Int32)).toNatClampNeg ((D ((0 : Int32)).toNatClampNeg) - (D ((0 : Int32)).toNatClampNeg))) (((0 : Int32) + (1 : Int32))).toNatClampNeg (((own_upd D ((0 : Int32)).toNatClampNeg ((D ((0 : Int32)).toNatClampNeg) - (D ((0 : Int32)).toNatClampNeg))) (((0 : Int32) + (1 : Int32))).toNatClampNeg) - ((own_upd D ((0 : Int32)).toNatClampNeg ((D ((0 : Int32)).toNatClampNeg) - (D ((0 : Int32)).toNatClampNeg))) (((0 : Int32) + (1 : Int32))).toNatClampNeg))) ((((0 : Int32) + (1 : Int32)) + (1 : Int32))).toNatClampNeg))]) rfl ?_
    refine XS.iinc X26.here hx rfl (hb hby d8_83) rfl (l' := #[.val (.ref a1), .val (.int p2), .val (.ref a3), .val (.ref a4), .val (.int (((p2 - (D ((0 : Int32)).toNatClampNeg)) - ((own_upd D ((0 : Int32)).toNatClampNeg ((D ((0 : Int32)).toNatClampNeg) - (D ((0 : Int32)).toNatClampNeg))) (((0 : Int32) + (1 : Int32))).toNatClampNeg)) - ((own_upd (own_upd D ((0 : Int32)).toNatClampNeg ((D ((0 : Int32)).toNatClampNeg) - (D ((0 : Int32)).toNatClampNeg))) (((0 : Int32) + (1 : Int32))).toNatClampNeg (((own_upd D ((0 : Int32)).toNatClampNeg ((D ((0 : Int32)).toNatClampNeg) - (D ((0 : Int32)).toNatClampNeg))) (((0 : Int32) + (1 : Int32))).toNatClampNeg) - ((own_upd D ((0 : Int32)).toNatClampNeg ((D ((0 : Int32)).toNatClampNeg) - (D ((0 : Int32)).toNatClampNeg))) (((0 : Int32) + (1 : Int32))).toNatClampNeg))) ((((0 : Int32) + (1 : Int32)) + (1 : Int32))).toNatClampNeg))), .val (.int (((p2 - (D ((0 : Int32)).toNatClampNeg)) - ((own_upd D ((0 : Int32)).toNatClampNeg ((D ((0 : Int32)).toNatClampNeg) - (D ((0 : Int32)).toNatClampNeg))) (((0 : Int32) + (1 : Int32))).toNatClampNeg)) - ((own_upd (own_upd D ((0 : Int32)).toNatClampNeg ((D ((0 : Int32)).toNatClampNeg) - (D ((0 : Int32)).toNatClampNeg))) (((0 : Int32) + (1 : Int32))).toNatClampNeg (((own_upd D ((0 : Int32)).toNatClampNeg ((D ((0 : Int32)).toNatClampNeg) - (D ((0 : Int32)).toNatClampNeg))) (((0 : Int32) + (1 : Int32))).toNatClampNeg) - ((own_upd D ((0 : Int32)).toNatClampNeg ((D ((0 : Int32)).toNatClampNeg) - (D ((0 : Int32)).toNatClampNeg))) (((0 : Int32) + (1 : Int32))).toNatClampNeg))) ((((0 : Int32) + (1 : Int32)) + (1 : Int32))).toNatClampNeg))), .val (.int ((((0 : Int32) + (1 : Int32)) + (1 : Int32)) + (1 : Int32))), .val (.int ((own_upd (own_upd D ((0 : Int32)).toNatClampNeg ((D ((0 : Int32)).toNatClampNeg) - (D ((0 : Int32)).toNatClampNeg))) (((0 : Int32) + (1 : Int32))).toNatClampNeg (((own_upd D ((0 : Int32)).toNatClampNeg ((D ((0 : Int32)).toNatClampNeg) - (D ((0 : Int32)).toNatClampNeg))) (((0 : Int32) + (1 : Int32))).toNatClampNeg) - ((own_upd D ((0 : Int32)).toNatClampNeg ((D ((0 : Int32)).toNatClampNeg) - (D ((0 : Int32)).toNatClampNeg))) (((0 : Int32) + (1 : Int32))).toNatClampNeg))) ((((0 : Int32) + (1 : Int32)) + (1 : Int32))).toNatClampNeg))]) rfl ?_
    refine XS.goto X26.here hx rfl (pc0 := 86) (pc' := 19) rfl (hb hby d8_86) (by decide) (by decide) ?_
    refine XS.iload X26.here hx rfl (hb hby d8_19) rfl ?_
    refine XS.aloadN X26.here hx rfl (hb hby d8_21) rfl rfl ?_
    refine st27 _ ?_
    refine X27.arraylength hx (by rw [e27]; exact Ar_ca_25_3.1) (State.isArrayOf_alike hZ.alike Ar_ca_25_3.2.1) (g := (mkF m 25 #[.val (.ref a1), .val (.int p2), .val (.ref a3), .val (.ref a4), .val (.int (((p2 - (D ((0 : Int32)).toNatClampNeg)) - ((own_upd D ((0 : Int32)).toNatClampNeg ((D ((0 : Int32)).toNatClampNeg) - (D ((0 : Int32)).toNatClampNeg))) (((0 : Int32) + (1 : Int32))).toNatClampNeg)) - ((own_upd (own_upd D ((0 : Int32)).toNatClampNeg ((D ((0 : Int32)).toNatClampNeg) - (D ((0 : Int32)).toNatClampNeg))) (((0 : Int32) + (1 : Int32))).toNatClampNeg (((own_upd D ((0 : Int32)).toNatClampNeg ((D ((0 : Int32)).toNatClampNeg) - (D ((0 : Int32)).toNatClampNeg))) (((0 : Int32) + (1 : Int32))).toNatClampNeg) - ((own_upd D ((0 : Int32)).toNatClampNeg ((D ((0 : Int32)).toNatClampNeg) - (D ((0 : Int32)).toNatClampNeg))) (((0 : Int32) + (1 : Int32))).toNatClampNeg))) ((((0 : Int32) + (1 : Int32)) + (1 : Int32))).toNatClampNeg))), .val (.int (((p2 - (D ((0 : Int32)).toNatClampNeg)) - ((own_upd D ((0 : Int32)).toNatClampNeg ((D ((0 : Int32)).toNatClampNeg) - (D ((0 : Int32)).toNatClampNeg))) (((0 : Int32) + (1 : Int32))).toNatClampNeg)) - ((own_upd (own_upd D ((0 : Int32)).toNatClampNeg ((D ((0 : Int32)).toNatClampNeg) - (D ((0 : Int32)).toNatClampNeg))) (((0 : Int32) + (1 : Int32))).toNatClampNeg (((own_upd D ((0 : Int32)).toNatClampNeg ((D ((0 : Int32)).toNatClampNeg) - (D ((0 : Int32)).toNatClampNeg))) (((0 : Int32) + (1 : Int32))).toNatClampNeg) - ((own_upd D ((0 : Int32)).toNatClampNeg ((D ((0 : Int32)).toNatClampNeg) - (D ((0 : Int32)).toNatClampNeg))) (((0 : Int32) + (1 : Int32))).toNatClampNeg))) ((((0 : Int32) + (1 : Int32)) + (1 : Int32))).toNatClampNeg))), .val (.int ((((0 : Int32) + (1 : Int32)) + (1 : Int32)) + (1 : Int32))), .val (.int ((own_upd (own_upd D ((0 : Int32)).toNatClampNeg ((D ((0 : Int32)).toNatClampNeg) - (D ((0 : Int32)).toNatClampNeg))) (((0 : Int32) + (1 : Int32))).toNatClampNeg (((own_upd D ((0 : Int32)).toNatClampNeg ((D ((0 : Int32)).toNatClampNeg) - (D ((0 : Int32)).toNatClampNeg))) (((0 : Int32) + (1 : Int32))).toNatClampNeg) - ((own_upd D ((0 : Int32)).toNatClampNeg ((D ((0 : Int32)).toNatClampNeg) - (D ((0 : Int32)).toNatClampNeg))) (((0 : Int32) + (1 : Int32))).toNatClampNeg))) ((((0 : Int32) + (1 : Int32)) + (1 : Int32))).toNatClampNeg))] [(.ref ca), (.int ((((0 : Int32) + (1 : Int32)) + (1 : Int32)) + (1 : Int32)))])) rfl rfl (hb hby d8_25) _ ?_
    rw [len_of S_ca_25_3 (by decide)]
    refine XS.icmpYes X27.here hx rfl (pc0 := 26) (pc' := 89) rfl (hb hby d8_26) rfl (flt (by decide : ¬ (((((0 : Int32) + (1 : Int32)) + (1 : Int32)) + (1 : Int32)) < (3 : Int32)))).2.1 (by decide) (by decide) ?_
    refine XS.aloadN X27.here hx rfl (hb hby d8_89) rfl rfl ?_
    refine XS.dup X27.here hx rfl (hb hby d8_90) rfl rfl ?_
    refine st28 _ ?_
    refine XS.iloadN X28.here hx rfl (hb hby d8_94) rfl ?_
    refine XS.isub X28.here hx rfl (hb hby d8_95) rfl ?_
    refine st29 _ ?_
    exact X29.returnOut hx Bd.returns (hb hby d8_99) hr
  · show Q8_0 Z a1 p2 a3 a4 ca st D Rf h0 n0 _ T29.heap _
    rw [e29]
    exact ⟨rfl, N29, own_kw K29 (by simp), own_AI.cong (V_a3_26.other W29 n13.symm) (own_c3 rfl rfl rfl)⟩
theorem d8_100 : decode prog_68_method_3_code 100 = .ok (.aload_n 2, 1) := by decide +kernel
theorem d8_101 : decode prog_68_method_3_code 101 = .ok (.iconst 0, 1) := by decide +kernel
theorem d8_102 : decode prog_68_method_3_code 102 = .ok (.invokestatic 34, 3) := by decide +kernel
theorem d8_105 : decode prog_68_method_3_code 105 = .ok (.iload_n 1, 1) := by decide +kernel
theorem d8_106 : decode prog_68_method_3_code 106 = .ok (.istore 4, 2) := by decide +kernel
theorem d8_188 : decode prog_68_method_3_code 188 = .ok (.return_, 1) := by decide +kernel
theorem pd_8_9 : parseMethodDescriptor "([II)V" = some ⟨[(.array .int), .int], none⟩ := by decide +kernel
theorem ef_8_1 (m : MethodId) (x0 : Addr) (x1 : Int32) (x2 : Addr) (x3 : Addr) : entryFrame m #[(.ref x0), (.int x1), (.ref x2), (.ref x3)] 8 = mkF m 0 #[.val (.ref x0), .val (.int x1), .val (.ref x2), .val (.ref x3), .unset, .unset, .unset, .unset] [] := by first | (simp [entryFrame, mkF, argsToLocals, Value.category]; done) | rfl
def Q8_1 (Z : State) (a1 : Addr) (p2 : Int32) (a3 : Addr) (a4 : Addr) (ca : Addr) (st : Int64) (D : Nat → Int32) (Rf : Nat → Int32) (h0 : Heap) (n0 : Nat) (v : Option Value) (h : Heap) (L : List Loc) : Prop := v = none ∧ Fr n0 L ∧ Keep h0 h [a1, ca, a3, a4] ∧ own_AI Z h a3 (3 : Int32) D
set_option maxRecDepth 65536 in
set_option maxHeartbeats 40000000 in
theorem rm8_1 (l : Launch) (Z : State) (a0 : Array Value) (hw : ∀ d ∈ tables_1, d.before a0 Z = true) (ws : List Jvm.Cond) (a1 : Addr) (p2 : Int32) (a3 : Addr) (a4 : Addr) (ca : Addr) (st : Int64) (D : Nat → Int32) (Rf : Nat → Int32) (h0 : Heap) (n0 : Nat) (Z0 : n0 ≤ h0.size) (E_a1 : Exa Z h0 a1 "com/example/binario/binario/rules/PassengerBag") (F_c : Fld Z h0 a1 "com/example/binario/binario/rules/PassengerBag" "counts" "[I" (.ref ca)) (F_l : Fld Z h0 a1 "com/example/binario/binario/rules/PassengerBag" "left" "I" (.int p2)) (V_ca : own_AI Z h0 ca (3 : Int32) D) (V_a3 : own_AI Z h0 a3 (3 : Int32) Rf) (E_a4 : Exa Z h0 a4 "com/example/binario/binario/rules/SeededRandom") (F_s : Fld Z h0 a4 "com/example/binario/binario/rules/SeededRandom" "state" "J" (.long st)) (ok : own_ok3 D) (hs : p2.toInt = (D 0).toInt + (D 1).toInt + (D 2).toInt) (g_a1 : n0 ≤ a1) (g_ca : n0 ≤ ca) (g_a3 : n0 ≤ a3) (g_a4 : n0 ≤ a4) (n13 : a1 ≠ a3) (n14 : a1 ≠ a4) (n1c : a1 ≠ ca) (n34 : a3 ≠ a4) (n3c : a3 ≠ ca) (n4c : a4 ≠ ca) (hc4 : ¬ ((128 : Int32) < p2)) :
    MetFree l (⟨"com/example/binario/binario/rules/PassengerBag", "draw", "(I[ILcom/example/binario/binario/rules/SeededRandom;)V"⟩ : MethodName) (head1 (Jvm.Cond.code (⟨"com/example/binario/binario/rules/PassengerBag", "draw", "(I[ILcom/example/binario/binario/rules/SeededRandom;)V"⟩ : MethodName) prog_68_method_3_code 8 none :: ws) ({ frames := 3, cells := 0, slots := 0, locals := 100 } : Room)) (fun a U => a = #[(.ref a1), (.int p2), (.ref a3), (.ref a4)] ∧ Z.Warmed39 U.vm ∧ U.heap = h0) (fun _ _ _ _ _ => True) (fun _ U o U' => ∃ v L, o = .returned v ∧ Q8_1 Z a1 p2 a3 a4 ca st D Rf h0 n0 v U'.heap L ∧ FrameEnd U o U' L ({ frames := 3, cells := 0, slots := 0, locals := 100 } : Room).cells ({ frames := 3, cells := 0, slots := 0, locals := 100 } : Room).slots) := by
  refine MetFree.of_bodySF (plainFor_of_name pn_8) hisR ?_
  intro p e s m args below meth c s₁ Bd hml0 hP hK
  obtain ⟨rfl, hZ, hh⟩ := hP
  have hx := Bd.exec
  have hby := Bd.bytes
  have hml : c.maxLocals = 8 := hml0
  have hown : s.vm.findClass "com/example/binario/binario/rules/PassengerBag" = some m.cls := findClass_of_methodNamed Bd.named
  have hnm := (name_of_methodNamed Bd.named Bd.method).1
  have X0 : Stand p l e ({ frames := 3, cells := 0, slots := 0, locals := 100 } : Room) s m #[(.ref a1), (.int p2), (.ref a3), (.ref a4)] below meth c s₁ [] 0 0 := Stand.of_body Bd
  have e0 : s₁.heap = h0 := by rw [← hh, Bd.state]; rfl
  have N0 := Fr.nil n0
  have pre0 : ∀ t, Steps p.tables e below (s₁.setTop (mkF m 0 #[.val (.ref a1), .val (.int p2), .val (.ref a3), .val (.ref a4), .unset, .unset, .unset, .unset] [])) t → Steps p.tables e below (s₁.setTop (entryFrame m #[(.ref a1), (.int p2), (.ref a3), (.ref a4)] 8)) t := fun t k => castTop (ef_8_1 m a1 p2 a3 a4) k

  obtain ⟨_, _, ⟨T5, L5, k5, n5⟩, -, X5, ⟨Lc5, hQ5, l5, y5, z5⟩, st5⟩ := Jvm.LawKit.callS X0 hx (y := (⟨"java/util/Arrays", "fill", "([II)V"⟩ : MethodName)) hown (mvT hZ (ww hw 58 rfl)) (mvT hZ (ww hw 59 rfl)) (mvT hZ (ww hw 60 rfl)) (mvT hZ (ww hw 61 rfl)) (by decide) (backOf (W := 0) (rm9 l Z a0 hw [] a3 (0 : Int32) _ h0 n0 Z0 V_a3 g_a3) hZ (ww hw 61 rfl) (ww hw 60 rfl) (by decide) (by decide)) (g := (mkF m 102 #[.val (.ref a1), .val (.int p2), .val (.ref a3), .val (.ref a4), .unset, .unset, .unset, .unset] [(.int (0 : Int32)), (.ref a3)])) rfl (by rw [hml]; rfl) (argsL := [(.ref a3), (.int (0 : Int32))]) (rest := []) (lenOf pd_8_9 rfl) rfl (by show 2 * 0 + _ ≤ _; exact Nat.le_of_eq rfl) (hb hby d8_102) (fun _ _ => ⟨rfl, e0, (by decide : 0 + 0 ≤ _), (by decide : 0 + 0 ≤ _)⟩)
  dsimp only [Pt.U, Pt.locs, Pt.cells, Pt.slots] at X5 l5 y5 z5 st5 hQ5
  subst l5 y5 z5
  obtain ⟨rfl, N5q, Kc5, Vf5⟩ := hQ5
  have N5 := Fr.app N0 N5q
  have K5 : Keep h0 T5.heap [a3, ca, a4, a1] := (Keep.refl h0 [a3, ca, a4, a1]).trans Kc5 (allS (Or.inl (List.mem_of_getElem? (i := 0) rfl)) all0)
  obtain ⟨T6, h6, L6, t4_6, t5_6, t6_6, X6, ej6, N6, Kc6, Vj6, st6⟩ := own_dr (n0 := n0) a1 (.val (.int p2)) a3 a4 ca (.unset) D ok g_a1 g_a3 g_a4 g_ca n13 n14 n1c n34 n3c n4c p2 (.unset) (.unset) st D (fun _ => (0 : Int32)) (by first | exact One.u | exact One.val rfl) (by first | exact One.u | exact One.val rfl) N5 (Nat.le_trans Z0 Kc5.1) (E_a1.keep Kc5) (F_c.keep Kc5 (ninS n13 nin0)) (F_l.keep Kc5 (ninS n13 nin0)) (E_a4.keep Kc5) (F_s.keep Kc5 (ninS n34.symm nin0)) (V_ca.keep Kc5 (ninS n3c.symm nin0)) Vf5 ok hs (fun i _ => Int.zero_add _) X5 hx hZ hw hby hml hown rfl
  have K6 : Keep h0 T6.heap [a3, ca, a4, a1] := K5.trans Kc6 (allS (Or.inl (List.mem_of_getElem? (i := 3) rfl)) (allS (Or.inl (List.mem_of_getElem? (i := 2) rfl)) (allS (Or.inl (List.mem_of_getElem? (i := 1) rfl)) (allS (Or.inl (List.mem_of_getElem? (i := 0) rfl)) all0))))
  obtain ⟨fs, hr, hrun, hended, hW, hsame⟩ := X6.leave (v := none) (fun _ => rfl)
  refine ⟨_, _, pre0 _ ?_, hrun, hended, _, _, rfl, ?_, ⟨_, rfl⟩, hW, hsame.mono (by decide) (by decide)⟩
  · show Steps _ _ _ (s₁.setTop (mkF m 0 #[.val (.ref a1), .val (.int p2), .val (.ref a3), .val (.ref a4), .unset, .unset, .unset, .unset] [])) _
    refine XS.iloadN X0.here hx rfl (hb hby d8_0) rfl ?_
    refine XS.sipush X0.here hx rfl (hb hby d8_1) ?_
    refine XS.icmpYes X0.here hx rfl (pc0 := 4) (pc' := 100) rfl (hb hby d8_4) rfl (flt hc4).2.2.2 (by decide) (by decide) ?_
    refine XS.aloadN X0.here hx rfl (hb hby d8_100) rfl rfl ?_
    refine XS.iconst X0.here hx rfl (hb hby d8_101) ?_
    refine st5 _ ?_
    refine XS.iloadN X5.here hx rfl (hb hby d8_105) rfl ?_
    refine XS.istore X5.here hx rfl (hb hby d8_106) rfl (l' := #[.val (.ref a1), .val (.int p2), .val (.ref a3), .val (.ref a4), .val (.int p2), .unset, .unset, .unset]) rfl ?_
    refine st6 _ ?_
    exact X6.returnOut hx Bd.returns (hb hby d8_188) hr
  · show Q8_1 Z a1 p2 a3 a4 ca st D Rf h0 n0 _ T6.heap _
    exact ⟨rfl, N6, own_kw K6 (by simp), Vj6⟩
theorem rm8 (l : Launch) (Z : State) (a0 : Array Value) (hw : ∀ d ∈ tables_1, d.before a0 Z = true) (ws : List Jvm.Cond) (a1 : Addr) (p2 : Int32) (a3 : Addr) (a4 : Addr) (ca : Addr) (st : Int64) (D : Nat → Int32) (Rf : Nat → Int32) (h0 : Heap) (n0 : Nat) (Z0 : n0 ≤ h0.size) (E_a1 : Exa Z h0 a1 "com/example/binario/binario/rules/PassengerBag") (F_c : Fld Z h0 a1 "com/example/binario/binario/rules/PassengerBag" "counts" "[I" (.ref ca)) (F_l : Fld Z h0 a1 "com/example/binario/binario/rules/PassengerBag" "left" "I" (.int p2)) (V_ca : own_AI Z h0 ca (3 : Int32) D) (V_a3 : own_AI Z h0 a3 (3 : Int32) Rf) (E_a4 : Exa Z h0 a4 "com/example/binario/binario/rules/SeededRandom") (F_s : Fld Z h0 a4 "com/example/binario/binario/rules/SeededRandom" "state" "J" (.long st)) (ok : own_ok3 D) (hs : p2.toInt = (D 0).toInt + (D 1).toInt + (D 2).toInt) (g_a1 : n0 ≤ a1) (g_ca : n0 ≤ ca) (g_a3 : n0 ≤ a3) (g_a4 : n0 ≤ a4) (n13 : a1 ≠ a3) (n14 : a1 ≠ a4) (n1c : a1 ≠ ca) (n34 : a3 ≠ a4) (n3c : a3 ≠ ca) (n4c : a4 ≠ ca) :
    MetFree l (⟨"com/example/binario/binario/rules/PassengerBag", "draw", "(I[ILcom/example/binario/binario/rules/SeededRandom;)V"⟩ : MethodName) (head1 (Jvm.Cond.code (⟨"com/example/binario/binario/rules/PassengerBag", "draw", "(I[ILcom/example/binario/binario/rules/SeededRandom;)V"⟩ : MethodName) prog_68_method_3_code 8 none :: ws) ({ frames := 3, cells := 0, slots := 0, locals := 100 } : Room)) (fun a U => a = #[(.ref a1), (.int p2), (.ref a3), (.ref a4)] ∧ Z.Warmed39 U.vm ∧ U.heap = h0) (fun _ _ _ _ _ => True) (fun _ U o U' => ∃ v L, o = .returned v ∧ Q8_0 Z a1 p2 a3 a4 ca st D Rf h0 n0 v U'.heap L ∧ FrameEnd U o U' L ({ frames := 3, cells := 0, slots := 0, locals := 100 } : Room).cells ({ frames := 3, cells := 0, slots := 0, locals := 100 } : Room).slots) := by
  by_cases c : (128 : Int32) < p2
  · exact rm8_0 l Z a0 hw ws a1 p2 a3 a4 ca st D Rf h0 n0 Z0 E_a1 F_c F_l V_ca V_a3 E_a4 F_s ok hs g_a1 g_ca g_a3 g_a4 n13 n14 n1c n34 n3c n4c c
  · exact rm8_1 l Z a0 hw ws a1 p2 a3 a4 ca st D Rf h0 n0 Z0 E_a1 F_c F_l V_ca V_a3 E_a4 F_s ok hs g_a1 g_ca g_a3 g_a4 n13 n14 n1c n34 n3c n4c c
/-- the three counts of the law, and those that are left of them -/
def own_D (p1 p2 p3 m : Int32) : Nat → Int32 := own_upd (own_upd (own_upd (fun _ => (0 : Int32)) ((0 : Int32)).toNatClampNeg (p1 &&& m)) ((1 : Int32)).toNatClampNeg (p2 &&& m)) ((2 : Int32)).toNatClampNeg (p3 &&& m)
def own_sl (p4 : Int32) : Int32 := (((p4.toUInt32 >>> ((1 : Int32) &&& 31).toUInt32).toInt32) &&& (1073741823 : Int32)) % (3 : Int32)
def own_cn (D : Nat → Int32) (p4 p5 : Int32) : Int32 := (p5 &&& (2147483647 : Int32)) % (D (own_sl p4).toNatClampNeg + (1 : Int32))
def own_E (p1 p2 p3 m p4 p5 : Int32) : Nat → Int32 := own_upd (own_D p1 p2 p3 m) (own_sl p4).toNatClampNeg ((own_D p1 p2 p3 m) (own_sl p4).toNatClampNeg - own_cn (own_D p1 p2 p3 m) p4 p5)
theorem own_slb (p4 : Int32) : (¬ own_sl p4 < 0 ∧ own_sl p4 < (3 : Int32)) ∧ (own_sl p4).toNatClampNeg < 3 := by
  have z : (0 : Int32).toInt = 0 := rfl
  have t : (3 : Int32).toInt = 3 := rfl
  unfold own_sl
  have e := c_mask ((p4.toUInt32 >>> ((1 : Int32) &&& 31).toUInt32).toInt32) 1073741823 30 (by decide) (by decide)
  have k : ((2 ^ 30 : Nat) : Int) = 1073741824 := rfl
  rw [k] at e
  generalize ((p4.toUInt32 >>> ((1 : Int32) &&& 31).toUInt32).toInt32 &&& (1073741823 : Int32)) = x at e ⊢
  have r : (x % (3 : Int32)).toInt = x.toInt.tmod 3 := by rw [Int32.toInt_mod, t]
  have b1 : 0 ≤ x.toInt.tmod 3 := Int.tmod_nonneg _ (by omega)
  have b2 : x.toInt.tmod 3 < 3 := Int.tmod_lt_of_pos _ (by decide)
  refine ⟨⟨?_, ?_⟩, ?_⟩
  · rw [Int32.lt_iff_toInt_lt, r, z]
    omega
  · rw [Int32.lt_iff_toInt_lt, r, t]
    omega
  · show (x % (3 : Int32)).toInt.toNat < 3
    rw [r]
    omega
theorem own_m63 (p : Int32) : 0 ≤ (p &&& (63 : Int32)).toInt ∧ (p &&& (63 : Int32)).toInt < 536870912 := by
  have e := c_mask p 63 6 (by decide) (by decide)
  have k : ((2 ^ 6 : Nat) : Int) = 64 := rfl
  rw [k] at e
  omega
theorem own_m29 (p : Int32) : 0 ≤ (p &&& (536870911 : Int32)).toInt ∧ (p &&& (536870911 : Int32)).toInt < 536870912 := by
  have e := c_mask p 536870911 29 (by decide) (by decide)
  have k : ((2 ^ 29 : Nat) : Int) = 536870912 := rfl
  rw [k] at e
  omega
theorem own_okD {p1 p2 p3 m : Int32} (h : ∀ p : Int32, 0 ≤ (p &&& m).toInt ∧ (p &&& m).toInt < 536870912) : own_ok3 (own_D p1 p2 p3 m) := by
  have a := h p1
  have b := h p2
  have c := h p3
  have e0 : own_D p1 p2 p3 m 0 = p1 &&& m := rfl
  have e1 : own_D p1 p2 p3 m 1 = p2 &&& m := rfl
  have e2 : own_D p1 p2 p3 m 2 = p3 &&& m := rfl
  unfold own_ok3
  rw [e0, e1, e2]
  omega
theorem own_bd {D : Nat → Int32} (ok : own_ok3 D) {j : Nat} (hj : j < 3) : 0 ≤ (D j).toInt ∧ (D j).toInt < 2147483648 := by
  obtain ⟨a, b, c, d⟩ := ok
  match j, hj with
  | 0, _ => omega
  | 1, _ => omega
  | 2, _ => omega
theorem own_bd2 {p1 p2 p3 m : Int32} (h : ∀ p : Int32, 0 ≤ (p &&& m).toInt ∧ (p &&& m).toInt < 536870912) {j : Nat} (hj : j < 3) : 0 ≤ (own_D p1 p2 p3 m j).toInt ∧ (own_D p1 p2 p3 m j).toInt < 536870912 := by
  match j, hj with
  | 0, _ => exact h p1
  | 1, _ => exact h p2
  | 2, _ => exact h p3
theorem own_cnb {D : Nat → Int32} {p4 p5 : Int32} (h : 0 ≤ (D (own_sl p4).toNatClampNeg).toInt ∧ (D (own_sl p4).toNatClampNeg).toInt < 536870912) : ¬ (D (own_sl p4).toNatClampNeg + (1 : Int32)) = 0 ∧ 0 ≤ (own_cn D p4 p5).toInt ∧ (own_cn D p4 p5).toInt ≤ (D (own_sl p4).toNatClampNeg).toInt := by
  have o : (1 : Int32).toInt = 1 := rfl
  have z : (0 : Int32).toInt = 0 := rfl
  have e : (D (own_sl p4).toNatClampNeg + (1 : Int32)).toInt = (D (own_sl p4).toNatClampNeg).toInt + 1 := by rw [own_adi (by omega) (by rw [o]; decide) (by rw [o]; omega), o]
  have k := c_mask p5 2147483647 31 (by decide) (by decide)
  have k31 : ((2 ^ 31 : Nat) : Int) = 2147483648 := rfl
  rw [k31] at k
  refine ⟨fun q => ?_, ?_⟩
  · have := congrArg Int32.toInt q
    omega
  · unfold own_cn
    rw [Int32.toInt_mod, e]
    have b1 : 0 ≤ ((p5 &&& (2147483647 : Int32)).toInt).tmod ((D (own_sl p4).toNatClampNeg).toInt + 1) := Int.tmod_nonneg _ (by omega)
    have b2 : ((p5 &&& (2147483647 : Int32)).toInt).tmod ((D (own_sl p4).toNatClampNeg).toInt + 1) < (D (own_sl p4).toNatClampNeg).toInt + 1 := Int.tmod_lt_of_pos _ (by omega)
    omega
theorem own_rem {D : Nat → Int32} (j : Nat) (hj : j < 3) (ok : own_ok3 D) {x : Int32} (h0 : 0 ≤ x.toInt) (h1 : x.toInt ≤ (D j).toInt) :
    own_ok3 (own_upd D j (D j - x)) ∧ ((own_upd D j (D j - x)) 0 + (own_upd D j (D j - x)) 1 + (own_upd D j (D j - x)) 2).toInt = ((own_upd D j (D j - x)) 0).toInt + ((own_upd D j (D j - x)) 1).toInt + ((own_upd D j (D j - x)) 2).toInt ∧
      ((((0 : Int32) + D 0) + D 1) + D 2) - x = (own_upd D j (D j - x)) 0 + (own_upd D j (D j - x)) 1 + (own_upd D j (D j - x)) 2 := by
  obtain ⟨-, -, -, es⟩ := own_a3 ok
  have e1 : (D j - x).toInt = (D j).toInt - x.toInt := own_sui h0 h1
  have key : ∀ (E : Nat → Int32), own_ok3 E → (E 0).toInt + (E 1).toInt + (E 2).toInt = (D 0).toInt + (D 1).toInt + (D 2).toInt - x.toInt → own_ok3 E ∧ (E 0 + E 1 + E 2).toInt = (E 0).toInt + (E 1).toInt + (E 2).toInt ∧ ((((0 : Int32) + D 0) + D 1) + D 2) - x = E 0 + E 1 + E 2 := by
    intro E oE hE
    obtain ⟨a, b, c, d⟩ := id oE
    have s1 : (E 0 + E 1).toInt = (E 0).toInt + (E 1).toInt := own_adi a b (by omega)
    have s2 : (E 0 + E 1 + E 2).toInt = (E 0).toInt + (E 1).toInt + (E 2).toInt := by rw [own_adi (by omega) c (by omega), s1]
    refine ⟨oE, s2, Int32.toInt_inj.mp ?_⟩
    rw [s2, own_sui h0 (by omega), es]
    omega
  obtain ⟨a, b, c, d⟩ := ok
  match j, hj, h1, e1 with
  | 0, _, h1, e1 =>
    have u0 : own_upd D 0 (D 0 - x) 0 = D 0 - x := rfl
    have u1 : own_upd D 0 (D 0 - x) 1 = D 1 := rfl
    have u2 : own_upd D 0 (D 0 - x) 2 = D 2 := rfl
    exact key _ ⟨by rw [u0]; omega, by rw [u1]; omega, by rw [u2]; omega, by rw [u0, u1, u2]; omega⟩ (by rw [u0, u1, u2]; omega)
  | 1, _, h1, e1 =>
    have u0 : own_upd D 1 (D 1 - x) 0 = D 0 := rfl
    have u1 : own_upd D 1 (D 1 - x) 1 = D 1 - x := rfl
    have u2 : own_upd D 1 (D 1 - x) 2 = D 2 := rfl
    exact key _ ⟨by rw [u0]; omega, by rw [u1]; omega, by rw [u2]; omega, by rw [u0, u1, u2]; omega⟩ (by rw [u0, u1, u2]; omega)
  | 2, _, h1, e1 =>
    have u0 : own_upd D 2 (D 2 - x) 0 = D 0 := rfl
    have u1 : own_upd D 2 (D 2 - x) 1 = D 1 := rfl
    have u2 : own_upd D 2 (D 2 - x) 2 = D 2 - x := rfl
    exact key _ ⟨by rw [u0]; omega, by rw [u1]; omega, by rw [u2]; omega, by rw [u0, u1, u2]; omega⟩ (by rw [u0, u1, u2]; omega)
theorem own_eqF {Z : State} {h : Heap} {a : Addr} {C n d : String} {x y : Int32} (F : Fld Z h a C n d (.int x)) (e : x = y) : Fld Z h a C n d (.int y) := e ▸ F
theorem pn_0 : plainName "com/example/binario/binario/rules/PassengerBagRemovePinLaw" = true := by first | (simp [plainName, overriddenIn]; done) | decide +kernel
theorem pd_0_0 : parseMethodDescriptor "([I)V" = some ⟨[(.array .int)], none⟩ := by decide +kernel
theorem pd_0_4 : parseMethodDescriptor "(II)V" = some ⟨[.int, .int], none⟩ := by decide +kernel
theorem pd_0_5 : parseMethodDescriptor "(J)Lcom/example/binario/binario/rules/SeededRandom;" = some ⟨[.long], some (.object "com/example/binario/binario/rules/SeededRandom")⟩ := by decide +kernel
theorem pd_0_8 : parseMethodDescriptor "(I[ILcom/example/binario/binario/rules/SeededRandom;)V" = some ⟨[.int, (.array .int), (.object "com/example/binario/binario/rules/SeededRandom")], none⟩ := by decide +kernel
theorem ef_0 (m : MethodId) (x0 : Int32) (x1 : Int32) (x2 : Int32) (x3 : Int32) (x4 : Int32) (x5 : Int64) : entryFrame m #[(.int x0), (.int x1), (.int x2), (.int x3), (.int x4), (.long x5)] maxLocals = mkF m 0 #[.val (.int x0), .val (.int x1), .val (.int x2), .val (.int x3), .val (.int x4), .val (.long x5), .second, .unset, .unset, .unset, .unset, .unset, .unset, .unset, .unset, .unset, .unset] [] := by first | (simp [entryFrame, mkF, argsToLocals, Value.category, maxLocals]; done) | rfl
def Q0 (Z : State) (p1 : Int32) (p2 : Int32) (p3 : Int32) (p4 : Int32) (p5 : Int32) (q6 : Int64) (h0 : Heap) (n0 : Nat) (v : Option Value) (h : Heap) (L : List Loc) : Prop := v = some (.int (1 : Int32)) ∧ Fr n0 L
set_option maxRecDepth 65536 in
set_option maxHeartbeats 40000000 in
theorem rm0_0 (l : Launch) (Z : State) (a0 : Array Value) (hw : ∀ d ∈ tables_1, d.before a0 Z = true) (ws : List Jvm.Cond) (p1 : Int32) (p2 : Int32) (p3 : Int32) (p4 : Int32) (p5 : Int32) (q6 : Int64) (h0 : Heap) (n0 : Nat) (Z0 : n0 ≤ h0.size) (hc3 : ¬ ((p4 &&& (1 : Int32)) = (0 : Int32))) (hnz82 : ¬ ((((own_D p1 p2 p3 (63 : Int32)) (((((p4.toUInt32 >>> ((1 : Int32) &&& 31).toUInt32).toInt32) &&& (1073741823 : Int32)) % (3 : Int32))).toNatClampNeg) + (1 : Int32)) = (0 : Int32))) :
    MetFree l x (head1 (Jvm.Cond.code x code maxLocals ret :: ws) room_1) (fun a U => a = #[(.int p1), (.int p2), (.int p3), (.int p4), (.int p5), (.long q6)] ∧ Z.Warmed39 U.vm ∧ U.heap = h0) (fun _ _ _ _ _ => True) (fun _ U o U' => ∃ v L, o = .returned v ∧ Q0 Z p1 p2 p3 p4 p5 q6 h0 n0 v U'.heap L ∧ FrameEnd U o U' L room_1.cells room_1.slots) := by
  refine MetFree.of_bodySF (plainFor_of_name pn_0) hisR ?_
  intro p e s m args below meth c s₁ Bd hml0 hP hK
  obtain ⟨rfl, hZ, hh⟩ := hP
  have hx := Bd.exec
  have hby := Bd.bytes
  have hml : c.maxLocals = 17 := hml0
  have hown : s.vm.findClass "com/example/binario/binario/rules/PassengerBagRemovePinLaw" = some m.cls := findClass_of_methodNamed Bd.named
  have hnm := (name_of_methodNamed Bd.named Bd.method).1
  have X0 : Stand p l e room_1 s m #[(.int p1), (.int p2), (.int p3), (.int p4), (.int p5), (.long q6)] below meth c s₁ [] 0 0 := Stand.of_body Bd
  have e0 : s₁.heap = h0 := by rw [← hh, Bd.state]; rfl
  have N0 := Fr.nil n0
  have pre0 : ∀ t, Steps p.tables e below (s₁.setTop (mkF m 0 #[.val (.int p1), .val (.int p2), .val (.int p3), .val (.int p4), .val (.int p5), .val (.long q6), .second, .unset, .unset, .unset, .unset, .unset, .unset, .unset, .unset, .unset, .unset] [])) t → Steps p.tables e below (s₁.setTop (entryFrame m #[(.int p1), (.int p2), (.int p3), (.int p4), (.int p5), (.long q6)] maxLocals)) t := fun t k => castTop (ef_0 m p1 p2 p3 p4 p5 q6) k
  have okD : own_ok3 (own_D p1 p2 p3 (63 : Int32)) := own_okD own_m63
  obtain ⟨hslot, hsl3⟩ := own_slb p4
  obtain ⟨hnz, hc0, hc1⟩ := own_cnb (p5 := p5) (own_bd2 (p1 := p1) (p2 := p2) (p3 := p3) own_m63 hsl3)
  obtain ⟨okE, hsE, heq⟩ := own_rem _ hsl3 okD hc0 hc1
  obtain ⟨T7, h7, k7, X7, e7, E7, A7, Ex7, st7⟩ := newPE X0 hx hZ (ww hw 0 rfl) e0 (g := (mkF m 28 #[.val (.int p1), .val (.int p2), .val (.int p3), .val (.int p4), .val (.int p5), .val (.long q6), .second, .val (.int (1 : Int32)), .val (.int (63 : Int32)), .unset, .unset, .unset, .unset, .unset, .unset, .unset, .unset] [(.int (3 : Int32))])) rfl (hb hby at_28) rfl (by decide) (cap := 3) (by decide) (by decide) (by decide) (by decide) (ad := "[I") rfl
  obtain ⟨b7, g7⟩ : ∃ z, z = h0.size := ⟨_, rfl⟩
  rw [← g7] at A7 Ex7 st7
  have V_b7 := own_AI.of (Arv.new A7 (by decide))
  have E_b7 := Ex7
  have g_b7 : n0 ≤ b7 := Nat.le_trans Z0 (Nat.le_of_eq g7.symm)
  have sz_b7 : h0.size ≤ b7 := (Nat.le_trans (Keep.refl h0 []).1 (Nat.le_of_eq g7.symm))
  have K7 : Keep h0 h7 [] := (Keep.refl h0 []).ext E7
  obtain ⟨cl_39, Ar_39, S_39, H_39⟩ := id (V_b7)
  have hin39 : ¬ ((0 : Int32) < 0 ∨ cl_39.slots.size ≤ ((0 : Int32)).toNatClampNeg) := inb_of S_39 ⟨by decide, by decide⟩
  obtain ⟨T8, h8, X8, e8, W8, st8⟩ := stI X7 hx hZ e7 Ar_39 (j := (0 : Int32)) hin39 (g := (mkF m 39 #[.val (.int p1), .val (.int p2), .val (.int p3), .val (.int p4), .val (.int p5), .val (.long q6), .second, .val (.int (1 : Int32)), .val (.int (63 : Int32)), .val (.ref b7), .unset, .unset, .unset, .unset, .unset, .unset, .unset] [(.int (p1 &&& (63 : Int32))), (.int (0 : Int32)), (.ref b7)])) rfl rfl (hb hby at_39)
  have V_b7_8 := own_AI.put Ar_39 S_39 H_39 W8
  have K8 : Keep h0 h8 [] := K7.wr W8 (Or.inr sz_b7)
  have N8 := Fr.snoc X8 N0 g_b7
  obtain ⟨cl_47, Ar_47, S_47, H_47⟩ := id (V_b7_8)
  have hin47 : ¬ ((1 : Int32) < 0 ∨ cl_47.slots.size ≤ ((1 : Int32)).toNatClampNeg) := inb_of S_47 ⟨by decide, by decide⟩
  obtain ⟨T9, h9, X9, e9, W9, st9⟩ := stI X8 hx hZ e8 Ar_47 (j := (1 : Int32)) hin47 (g := (mkF m 47 #[.val (.int p1), .val (.int p2), .val (.int p3), .val (.int p4), .val (.int p5), .val (.long q6), .second, .val (.int (1 : Int32)), .val (.int (63 : Int32)), .val (.ref b7), .unset, .unset, .unset, .unset, .unset, .unset, .unset] [(.int (p2 &&& (63 : Int32))), (.int (1 : Int32)), (.ref b7)])) rfl rfl (hb hby at_47)
  have V_b7_9 := own_AI.put Ar_47 S_47 H_47 W9
  have K9 : Keep h0 h9 [] := K8.wr W9 (Or.inr sz_b7)
  have N9 := Fr.snoc X9 N8 g_b7
  obtain ⟨cl_55, Ar_55, S_55, H_55⟩ := id (V_b7_9)
  have hin55 : ¬ ((2 : Int32) < 0 ∨ cl_55.slots.size ≤ ((2 : Int32)).toNatClampNeg) := inb_of S_55 ⟨by decide, by decide⟩
  obtain ⟨T10, h10, X10, e10, W10, st10⟩ := stI X9 hx hZ e9 Ar_55 (j := (2 : Int32)) hin55 (g := (mkF m 55 #[.val (.int p1), .val (.int p2), .val (.int p3), .val (.int p4), .val (.int p5), .val (.long q6), .second, .val (.int (1 : Int32)), .val (.int (63 : Int32)), .val (.ref b7), .unset, .unset, .unset, .unset, .unset, .unset, .unset] [(.int (p3 &&& (63 : Int32))), (.int (2 : Int32)), (.ref b7)])) rfl rfl (hb hby at_55)
  have V_b7_10 := own_AI.put Ar_55 S_55 H_55 W10
  have V_b7_10 : own_AI Z h10 b7 (3 : Int32) (own_D p1 p2 p3 (63 : Int32)) := V_b7_10
  have K10 : Keep h0 h10 [] := K9.wr W10 (Or.inr sz_b7)
  have N10 := Fr.snoc X10 N9 g_b7
  obtain ⟨cl_70, Ar_70, S_70, H_70⟩ := id (V_b7_10)
  have hin70 : ¬ (((((p4.toUInt32 >>> ((1 : Int32) &&& 31).toUInt32).toInt32) &&& (1073741823 : Int32)) % (3 : Int32)) < 0 ∨ cl_70.slots.size ≤ (((((p4.toUInt32 >>> ((1 : Int32) &&& 31).toUInt32).toInt32) &&& (1073741823 : Int32)) % (3 : Int32))).toNatClampNeg) := inb_of S_70 hslot
  have hat70 := H_70 _ (own_inb hin70)
  obtain ⟨T11, h11, k11, X11, e11, E11, A11, Ex11, st11⟩ := newPE X10 hx hZ (ww hw 0 rfl) e10 (g := (mkF m 86 #[.val (.int p1), .val (.int p2), .val (.int p3), .val (.int p4), .val (.int p5), .val (.long q6), .second, .val (.int (1 : Int32)), .val (.int (63 : Int32)), .val (.ref b7), .val (.int ((((p4.toUInt32 >>> ((1 : Int32) &&& 31).toUInt32).toInt32) &&& (1073741823 : Int32)) % (3 : Int32))), .val (.int ((own_D p1 p2 p3 (63 : Int32)) (((((p4.toUInt32 >>> ((1 : Int32) &&& 31).toUInt32).toInt32) &&& (1073741823 : Int32)) % (3 : Int32))).toNatClampNeg)), .val (.int ((p5 &&& (2147483647 : Int32)) % (((own_D p1 p2 p3 (63 : Int32)) (((((p4.toUInt32 >>> ((1 : Int32) &&& 31).toUInt32).toInt32) &&& (1073741823 : Int32)) % (3 : Int32))).toNatClampNeg) + (1 : Int32)))), .unset, .unset, .unset, .unset] [(.int (3 : Int32))])) rfl (hb hby at_86) rfl (by decide) (cap := 3) (by decide) (by decide) (by decide) (by decide) (ad := "[I") rfl
  obtain ⟨b11, g11⟩ : ∃ z, z = h10.size := ⟨_, rfl⟩
  rw [← g11] at A11 Ex11 st11
  have V_b11 := own_AI.of (Arv.new A11 (by decide))
  have E_b11 := Ex11
  have g_b11 : n0 ≤ b11 := Nat.le_trans (Nat.le_trans (Nat.le_trans (Nat.le_trans (Nat.le_trans Z0 E7.1) (Keep.of_wr W8).1) (Keep.of_wr W9).1) (Keep.of_wr W10).1) (Nat.le_of_eq g11.symm)
  have sz_b11 : h0.size ≤ b11 := (Nat.le_trans K10.1 (Nat.le_of_eq g11.symm))
  have K11 : Keep h0 h11 [] := K10.ext E11
  obtain ⟨cl_96, Ar_96, S_96, H_96⟩ := id ((V_b7_10.ext E11))
  have hin96 : ¬ ((0 : Int32) < 0 ∨ cl_96.slots.size ≤ ((0 : Int32)).toNatClampNeg) := inb_of S_96 ⟨by decide, by decide⟩
  have hat96 := H_96 _ (own_inb hin96)
  obtain ⟨cl_97, Ar_97, S_97, H_97⟩ := id (V_b11)
  have hin97 : ¬ ((0 : Int32) < 0 ∨ cl_97.slots.size ≤ ((0 : Int32)).toNatClampNeg) := inb_of S_97 ⟨by decide, by decide⟩
  obtain ⟨T12, h12, X12, e12, W12, st12⟩ := stI X11 hx hZ e11 Ar_97 (j := (0 : Int32)) hin97 (g := (mkF m 97 #[.val (.int p1), .val (.int p2), .val (.int p3), .val (.int p4), .val (.int p5), .val (.long q6), .second, .val (.int (1 : Int32)), .val (.int (63 : Int32)), .val (.ref b7), .val (.int ((((p4.toUInt32 >>> ((1 : Int32) &&& 31).toUInt32).toInt32) &&& (1073741823 : Int32)) % (3 : Int32))), .val (.int ((own_D p1 p2 p3 (63 : Int32)) (((((p4.toUInt32 >>> ((1 : Int32) &&& 31).toUInt32).toInt32) &&& (1073741823 : Int32)) % (3 : Int32))).toNatClampNeg)), .val (.int ((p5 &&& (2147483647 : Int32)) % (((own_D p1 p2 p3 (63 : Int32)) (((((p4.toUInt32 >>> ((1 : Int32) &&& 31).toUInt32).toInt32) &&& (1073741823 : Int32)) % (3 : Int32))).toNatClampNeg) + (1 : Int32)))), .val (.ref b11), .unset, .unset, .unset] [(.int ((own_D p1 p2 p3 (63 : Int32)) ((0 : Int32)).toNatClampNeg)), (.int (0 : Int32)), (.ref b11)])) rfl rfl (hb hby at_97)
  have V_b11_12 := own_AI.put Ar_97 S_97 H_97 W12
  have K12 : Keep h0 h12 [] := K11.wr W12 (Or.inr sz_b11)
  have N12 := Fr.snoc X12 N10 g_b11
  obtain ⟨cl_104, Ar_104, S_104, H_104⟩ := id (((V_b7_10.ext E11).other W12 (Nat.ne_of_lt (Nat.lt_of_lt_of_le V_b7_10.lt (Nat.le_of_eq g11.symm)))))
  have hin104 : ¬ ((1 : Int32) < 0 ∨ cl_104.slots.size ≤ ((1 : Int32)).toNatClampNeg) := inb_of S_104 ⟨by decide, by decide⟩
  have hat104 := H_104 _ (own_inb hin104)
  obtain ⟨cl_105, Ar_105, S_105, H_105⟩ := id (V_b11_12)
  have hin105 : ¬ ((1 : Int32) < 0 ∨ cl_105.slots.size ≤ ((1 : Int32)).toNatClampNeg) := inb_of S_105 ⟨by decide, by decide⟩
  obtain ⟨T13, h13, X13, e13, W13, st13⟩ := stI X12 hx hZ e12 Ar_105 (j := (1 : Int32)) hin105 (g := (mkF m 105 #[.val (.int p1), .val (.int p2), .val (.int p3), .val (.int p4), .val (.int p5), .val (.long q6), .second, .val (.int (1 : Int32)), .val (.int (63 : Int32)), .val (.ref b7), .val (.int ((((p4.toUInt32 >>> ((1 : Int32) &&& 31).toUInt32).toInt32) &&& (1073741823 : Int32)) % (3 : Int32))), .val (.int ((own_D p1 p2 p3 (63 : Int32)) (((((p4.toUInt32 >>> ((1 : Int32) &&& 31).toUInt32).toInt32) &&& (1073741823 : Int32)) % (3 : Int32))).toNatClampNeg)), .val (.int ((p5 &&& (2147483647 : Int32)) % (((own_D p1 p2 p3 (63 : Int32)) (((((p4.toUInt32 >>> ((1 : Int32) &&& 31).toUInt32).toInt32) &&& (1073741823 : Int32)) % (3 : Int32))).toNatClampNeg) + (1 : Int32)))), .val (.ref b11), .unset, .unset, .unset] [(.int ((own_D p1 p2 p3 (63 : Int32)) ((1 : Int32)).toNatClampNeg)), (.int (1 : Int32)), (.ref b11)])) rfl rfl (hb hby at_105)
  have V_b11_13 := own_AI.put Ar_105 S_105 H_105 W13
  have K13 : Keep h0 h13 [] := K12.wr W13 (Or.inr sz_b11)
  have N13 := Fr.snoc X13 N12 g_b11
  obtain ⟨cl_112, Ar_112, S_112, H_112⟩ := id ((((V_b7_10.ext E11).other W12 (Nat.ne_of_lt (Nat.lt_of_lt_of_le V_b7_10.lt (Nat.le_of_eq g11.symm)))).other W13 (Nat.ne_of_lt (Nat.lt_of_lt_of_le V_b7_10.lt (Nat.le_of_eq g11.symm)))))
  have hin112 : ¬ ((2 : Int32) < 0 ∨ cl_112.slots.size ≤ ((2 : Int32)).toNatClampNeg) := inb_of S_112 ⟨by decide, by decide⟩
  have hat112 := H_112 _ (own_inb hin112)
  obtain ⟨cl_113, Ar_113, S_113, H_113⟩ := id (V_b11_13)
  have hin113 : ¬ ((2 : Int32) < 0 ∨ cl_113.slots.size ≤ ((2 : Int32)).toNatClampNeg) := inb_of S_113 ⟨by decide, by decide⟩
  obtain ⟨T14, h14, X14, e14, W14, st14⟩ := stI X13 hx hZ e13 Ar_113 (j := (2 : Int32)) hin113 (g := (mkF m 113 #[.val (.int p1), .val (.int p2), .val (.int p3), .val (.int p4), .val (.int p5), .val (.long q6), .second, .val (.int (1 : Int32)), .val (.int (63 : Int32)), .val (.ref b7), .val (.int ((((p4.toUInt32 >>> ((1 : Int32) &&& 31).toUInt32).toInt32) &&& (1073741823 : Int32)) % (3 : Int32))), .val (.int ((own_D p1 p2 p3 (63 : Int32)) (((((p4.toUInt32 >>> ((1 : Int32) &&& 31).toUInt32).toInt32) &&& (1073741823 : Int32)) % (3 : Int32))).toNatClampNeg)), .val (.int ((p5 &&& (2147483647 : Int32)) % (((own_D p1 p2 p3 (63 : Int32)) (((((p4.toUInt32 >>> ((1 : Int32) &&& 31).toUInt32).toInt32) &&& (1073741823 : Int32)) % (3 : Int32))).toNatClampNeg) + (1 : Int32)))), .val (.ref b11), .unset, .unset, .unset] [(.int ((own_D p1 p2 p3 (63 : Int32)) ((2 : Int32)).toNatClampNeg)), (.int (2 : Int32)), (.ref b11)])) rfl rfl (hb hby at_113)
  have V_b11_14 := own_AI.put Ar_113 S_113 H_113 W14
  have V_b11_14 : own_AI Z h14 b11 (3 : Int32) (own_D p1 p2 p3 (63 : Int32)) := own_AI.cong V_b11_14 (own_c3 rfl rfl rfl)
  have K14 : Keep h0 h14 [] := K13.wr W14 (Or.inr sz_b11)
  have N14 := Fr.snoc X14 N13 g_b11
  obtain ⟨cl_123, Ar_123, S_123, H_123⟩ := id (V_b11_14)
  have hin123 : ¬ (((((p4.toUInt32 >>> ((1 : Int32) &&& 31).toUInt32).toInt32) &&& (1073741823 : Int32)) % (3 : Int32)) < 0 ∨ cl_123.slots.size ≤ (((((p4.toUInt32 >>> ((1 : Int32) &&& 31).toUInt32).toInt32) &&& (1073741823 : Int32)) % (3 : Int32))).toNatClampNeg) := inb_of S_123 hslot
  obtain ⟨T15, h15, X15, e15, W15, st15⟩ := stI X14 hx hZ e14 Ar_123 (j := ((((p4.toUInt32 >>> ((1 : Int32) &&& 31).toUInt32).toInt32) &&& (1073741823 : Int32)) % (3 : Int32))) hin123 (g := (mkF m 123 #[.val (.int p1), .val (.int p2), .val (.int p3), .val (.int p4), .val (.int p5), .val (.long q6), .second, .val (.int (1 : Int32)), .val (.int (63 : Int32)), .val (.ref b7), .val (.int ((((p4.toUInt32 >>> ((1 : Int32) &&& 31).toUInt32).toInt32) &&& (1073741823 : Int32)) % (3 : Int32))), .val (.int ((own_D p1 p2 p3 (63 : Int32)) (((((p4.toUInt32 >>> ((1 : Int32) &&& 31).toUInt32).toInt32) &&& (1073741823 : Int32)) % (3 : Int32))).toNatClampNeg)), .val (.int ((p5 &&& (2147483647 : Int32)) % (((own_D p1 p2 p3 (63 : Int32)) (((((p4.toUInt32 >>> ((1 : Int32) &&& 31).toUInt32).toInt32) &&& (1073741823 : Int32)) % (3 : Int32))).toNatClampNeg) + (1 : Int32)))), .val (.ref b11), .unset, .unset, .unset] [(.int (((own_D p1 p2 p3 (63 : Int32)) (((((p4.toUInt32 >>> ((1 : Int32) &&& 31).toUInt32).toInt32) &&& (1073741823 : Int32)) % (3 : Int32))).toNatClampNeg) - ((p5 &&& (2147483647 : Int32)) % (((own_D p1 p2 p3 (63 : Int32)) (((((p4.toUInt32 >>> ((1 : Int32) &&& 31).toUInt32).toInt32) &&& (1073741823 : Int32)) % (3 : Int32))).toNatClampNeg) + (1 : Int32))))), (.int ((((p4.toUInt32 >>> ((1 : Int32) &&& 31).toUInt32).toInt32) &&& (1073741823 : Int32)) % (3 : Int32))), (.ref b11)])) rfl rfl (hb hby at_123)
  have V_b11_15 := own_AI.put Ar_123 S_123 H_123 W15
  have V_b11_15 : own_AI Z h15 b11 (3 : Int32) (own_E p1 p2 p3 (63 : Int32) p4 p5) := V_b11_15
  have K15 : Keep h0 h15 [] := K14.wr W15 (Or.inr sz_b11)
  have N15 := Fr.snoc X15 N14 g_b11
  obtain ⟨cl_127, Ar_127, S_127, H_127⟩ := id (V_b11_15)
  have hin127 : ¬ ((0 : Int32) < 0 ∨ cl_127.slots.size ≤ ((0 : Int32)).toNatClampNeg) := inb_of S_127 ⟨by decide, by decide⟩
  have hat127 := H_127 _ (own_inb hin127)
  obtain ⟨cl_131, Ar_131, S_131, H_131⟩ := id (V_b11_15)
  have hin131 : ¬ ((1 : Int32) < 0 ∨ cl_131.slots.size ≤ ((1 : Int32)).toNatClampNeg) := inb_of S_131 ⟨by decide, by decide⟩
  have hat131 := H_131 _ (own_inb hin131)
  obtain ⟨cl_136, Ar_136, S_136, H_136⟩ := id (V_b11_15)
  have hin136 : ¬ ((2 : Int32) < 0 ∨ cl_136.slots.size ≤ ((2 : Int32)).toNatClampNeg) := inb_of S_136 ⟨by decide, by decide⟩
  have hat136 := H_136 _ (own_inb hin136)
  obtain ⟨T16, h16, X16, e16, E16, A16, D16, -, st16⟩ := newO X15 hx hZ hown (ww hw 3 rfl) (ww hw 4 rfl) (ww hw 5 rfl) e15 (g := (mkF m 140 #[.val (.int p1), .val (.int p2), .val (.int p3), .val (.int p4), .val (.int p5), .val (.long q6), .second, .val (.int (1 : Int32)), .val (.int (63 : Int32)), .val (.ref b7), .val (.int ((((p4.toUInt32 >>> ((1 : Int32) &&& 31).toUInt32).toInt32) &&& (1073741823 : Int32)) % (3 : Int32))), .val (.int ((own_D p1 p2 p3 (63 : Int32)) (((((p4.toUInt32 >>> ((1 : Int32) &&& 31).toUInt32).toInt32) &&& (1073741823 : Int32)) % (3 : Int32))).toNatClampNeg)), .val (.int ((p5 &&& (2147483647 : Int32)) % (((own_D p1 p2 p3 (63 : Int32)) (((((p4.toUInt32 >>> ((1 : Int32) &&& 31).toUInt32).toInt32) &&& (1073741823 : Int32)) % (3 : Int32))).toNatClampNeg) + (1 : Int32)))), .val (.ref b11), .val (.int ((((own_E p1 p2 p3 (63 : Int32) p4 p5) ((0 : Int32)).toNatClampNeg) + ((own_E p1 p2 p3 (63 : Int32) p4 p5) ((1 : Int32)).toNatClampNeg)) + ((own_E p1 p2 p3 (63 : Int32) p4 p5) ((2 : Int32)).toNatClampNeg))), .unset, .unset] [])) rfl (hb hby at_140) (by decide) (by decide)
  obtain ⟨b16, g16⟩ : ∃ z, z = h15.size := ⟨_, rfl⟩
  rw [← g16] at A16 D16 st16
  have F_counts_b16 : Fld Z h16 b16 "com/example/binario/binario/rules/PassengerBag" "counts" "[I" .null := D16 (Or.inr (ww hw 22 rfl)) (ty := (.array .int)) (by decide)
  have F_left_b16 : Fld Z h16 b16 "com/example/binario/binario/rules/PassengerBag" "left" "I" (.int (0 : Int32)) := D16 (Or.inl (ww hw 24 rfl)) (ty := .int) (by decide)
  have E_b16 := A16
  have g_b16 : n0 ≤ b16 := Nat.le_trans (Nat.le_trans (Nat.le_trans (Nat.le_trans (Nat.le_trans (Nat.le_trans (Nat.le_trans (Nat.le_trans (Nat.le_trans (Nat.le_trans Z0 E7.1) (Keep.of_wr W8).1) (Keep.of_wr W9).1) (Keep.of_wr W10).1) E11.1) (Keep.of_wr W12).1) (Keep.of_wr W13).1) (Keep.of_wr W14).1) (Keep.of_wr W15).1) (Nat.le_of_eq g16.symm)
  have sz_b16 : h0.size ≤ b16 := (Nat.le_trans K15.1 (Nat.le_of_eq g16.symm))
  have K16 : Keep h0 h16 [] := K15.ext E16
  obtain ⟨_, _, ⟨T17, L17, k17, n17⟩, -, X17, ⟨Lc17, hQ17, l17, y17, z17⟩, st17⟩ := X16.specialBack hx (y := (⟨"com/example/binario/binario/rules/PassengerBag", "<init>", "([I)V"⟩ : MethodName)) rfl hown (mvT hZ (ww hw 6 rfl)) (mvT hZ (ww hw 7 rfl)) (mvT hZ (ww hw 8 rfl)) (by decide) (backOf (W := 1) (rm1 l Z a0 hw [] b16 b7 (own_D p1 p2 p3 (63 : Int32)) _ h16 n0 (Nat.le_trans (Nat.le_trans (Nat.le_trans (Nat.le_trans (Nat.le_trans (Nat.le_trans (Nat.le_trans (Nat.le_trans (Nat.le_trans (Nat.le_trans Z0 E7.1) (Keep.of_wr W8).1) (Keep.of_wr W9).1) (Keep.of_wr W10).1) E11.1) (Keep.of_wr W12).1) (Keep.of_wr W13).1) (Keep.of_wr W14).1) (Keep.of_wr W15).1) E16.1) E_b16 F_counts_b16 F_left_b16 (((((((((E_b7.wr W8).wr W9).wr W10).ext E11).wr W12).wr W13).wr W14).wr W15).ext E16) ((((((V_b7_10.ext E11).other W12 (Nat.ne_of_lt (Nat.lt_of_lt_of_le V_b7_10.lt (Nat.le_of_eq g11.symm)))).other W13 (Nat.ne_of_lt (Nat.lt_of_lt_of_le V_b7_10.lt (Nat.le_of_eq g11.symm)))).other W14 (Nat.ne_of_lt (Nat.lt_of_lt_of_le V_b7_10.lt (Nat.le_of_eq g11.symm)))).other W15 (Nat.ne_of_lt (Nat.lt_of_lt_of_le V_b7_10.lt (Nat.le_of_eq g11.symm)))).ext E16) g_b16 (Ne.symm (Nat.ne_of_lt (Nat.lt_of_lt_of_le (((((V_b7_10.ext E11).other W12 (Nat.ne_of_lt (Nat.lt_of_lt_of_le V_b7_10.lt (Nat.le_of_eq g11.symm)))).other W13 (Nat.ne_of_lt (Nat.lt_of_lt_of_le V_b7_10.lt (Nat.le_of_eq g11.symm)))).other W14 (Nat.ne_of_lt (Nat.lt_of_lt_of_le V_b7_10.lt (Nat.le_of_eq g11.symm)))).other W15 (Nat.ne_of_lt (Nat.lt_of_lt_of_le V_b7_10.lt (Nat.le_of_eq g11.symm)))).lt (Nat.le_of_eq g16.symm)))) okD) hZ (ww hw 8 rfl) (ww hw 5 rfl) (by decide) (by decide)) (g := (mkF m 146 #[.val (.int p1), .val (.int p2), .val (.int p3), .val (.int p4), .val (.int p5), .val (.long q6), .second, .val (.int (1 : Int32)), .val (.int (63 : Int32)), .val (.ref b7), .val (.int ((((p4.toUInt32 >>> ((1 : Int32) &&& 31).toUInt32).toInt32) &&& (1073741823 : Int32)) % (3 : Int32))), .val (.int ((own_D p1 p2 p3 (63 : Int32)) (((((p4.toUInt32 >>> ((1 : Int32) &&& 31).toUInt32).toInt32) &&& (1073741823 : Int32)) % (3 : Int32))).toNatClampNeg)), .val (.int ((p5 &&& (2147483647 : Int32)) % (((own_D p1 p2 p3 (63 : Int32)) (((((p4.toUInt32 >>> ((1 : Int32) &&& 31).toUInt32).toInt32) &&& (1073741823 : Int32)) % (3 : Int32))).toNatClampNeg) + (1 : Int32)))), .val (.ref b11), .val (.int ((((own_E p1 p2 p3 (63 : Int32) p4 p5) ((0 : Int32)).toNatClampNeg) + ((own_E p1 p2 p3 (63 : Int32) p4 p5) ((1 : Int32)).toNatClampNeg)) + ((own_E p1 p2 p3 (63 : Int32) p4 p5) ((2 : Int32)).toNatClampNeg))), .unset, .unset] [(.ref b7), (.ref b16), (.ref b16)])) rfl (by rw [hml]; rfl) (Steps.refl _) (a := b16) (argsL := [(.ref b7)]) (rest := [(.ref b16)]) (lenOf pd_0_0 rfl) rfl (by show 2 * 0 + _ ≤ _; exact Nat.le_of_eq rfl) (hb hby at_146) (fun _ _ => ⟨rfl, e16, (by decide : 3 + 1 ≤ _), (by decide : 8 + 3 ≤ _)⟩)
  dsimp only [Pt.U, Pt.locs, Pt.cells, Pt.slots] at X17 l17 y17 z17 st17 hQ17
  subst l17 y17 z17
  obtain ⟨ca17, rfl, N17q, Kc17, hc17, Fc17, Fl17, Vc17⟩ := hQ17
  have N17 := Fr.app N15 N17q
  have g_ca17 : n0 ≤ ca17 := Nat.le_trans (Nat.le_trans (Nat.le_trans (Nat.le_trans (Nat.le_trans (Nat.le_trans (Nat.le_trans (Nat.le_trans (Nat.le_trans (Nat.le_trans (Nat.le_trans Z0 E7.1) (Keep.of_wr W8).1) (Keep.of_wr W9).1) (Keep.of_wr W10).1) E11.1) (Keep.of_wr W12).1) (Keep.of_wr W13).1) (Keep.of_wr W14).1) (Keep.of_wr W15).1) E16.1) hc17
  have sz_ca17 : h0.size ≤ ca17 := Nat.le_trans K16.1 hc17
  have K17 : Keep h0 T17.heap [] := K16.trans Kc17 (allS (Or.inr sz_b16) all0)
  obtain ⟨cq18, kq18, q18a, q18b, q18c⟩ := isOf hZ rfl (E_b16.keep Kc17)
  obtain ⟨_, _, ⟨T18, L18, k18, n18⟩, -, X18, ⟨Lc18, hQ18, l18, y18, z18⟩, st18⟩ := X17.virtualBack hx (y := (⟨"com/example/binario/binario/rules/PassengerBag", "remove", "(II)V"⟩ : MethodName)) (z := (⟨"com/example/binario/binario/rules/PassengerBag", "remove", "(II)V"⟩ : MethodName)) hown (mvT hZ (ww hw 29 rfl)) (mvT hZ (ww hw 30 rfl)) (notFace_of_selects (args := #[]) (mvT hZ (ww hw 32 rfl))) (mvT hZ (ww hw 32 rfl)) (mvT hZ (ww hw 31 rfl)) (by decide) (backOf (W := 0) (rm4 l Z a0 hw [] b16 ((((p4.toUInt32 >>> ((1 : Int32) &&& 31).toUInt32).toInt32) &&& (1073741823 : Int32)) % (3 : Int32)) ((p5 &&& (2147483647 : Int32)) % (((own_D p1 p2 p3 (63 : Int32)) (((((p4.toUInt32 >>> ((1 : Int32) &&& 31).toUInt32).toInt32) &&& (1073741823 : Int32)) % (3 : Int32))).toNatClampNeg) + (1 : Int32))) ca17 _ (own_D p1 p2 p3 (63 : Int32)) T17.heap n0 (Nat.le_trans (Nat.le_trans (Nat.le_trans (Nat.le_trans (Nat.le_trans (Nat.le_trans (Nat.le_trans (Nat.le_trans (Nat.le_trans (Nat.le_trans (Nat.le_trans Z0 E7.1) (Keep.of_wr W8).1) (Keep.of_wr W9).1) (Keep.of_wr W10).1) E11.1) (Keep.of_wr W12).1) (Keep.of_wr W13).1) (Keep.of_wr W14).1) (Keep.of_wr W15).1) E16.1) Kc17.1) (E_b16.keep Kc17) Fc17 Fl17 Vc17 g_b16 g_ca17 (Nat.ne_of_lt (Nat.lt_of_lt_of_le E_b16.lt hc17)) hslot) hZ (ww hw 33 rfl) (ww hw 5 rfl) (by decide) (by decide)) q18a q18c (g := (mkF m 157 #[.val (.int p1), .val (.int p2), .val (.int p3), .val (.int p4), .val (.int p5), .val (.long q6), .second, .val (.int (1 : Int32)), .val (.int (63 : Int32)), .val (.ref b7), .val (.int ((((p4.toUInt32 >>> ((1 : Int32) &&& 31).toUInt32).toInt32) &&& (1073741823 : Int32)) % (3 : Int32))), .val (.int ((own_D p1 p2 p3 (63 : Int32)) (((((p4.toUInt32 >>> ((1 : Int32) &&& 31).toUInt32).toInt32) &&& (1073741823 : Int32)) % (3 : Int32))).toNatClampNeg)), .val (.int ((p5 &&& (2147483647 : Int32)) % (((own_D p1 p2 p3 (63 : Int32)) (((((p4.toUInt32 >>> ((1 : Int32) &&& 31).toUInt32).toInt32) &&& (1073741823 : Int32)) % (3 : Int32))).toNatClampNeg) + (1 : Int32)))), .val (.ref b11), .val (.int ((((own_E p1 p2 p3 (63 : Int32) p4 p5) ((0 : Int32)).toNatClampNeg) + ((own_E p1 p2 p3 (63 : Int32) p4 p5) ((1 : Int32)).toNatClampNeg)) + ((own_E p1 p2 p3 (63 : Int32) p4 p5) ((2 : Int32)).toNatClampNeg))), .val (.ref b16), .unset] [(.int ((p5 &&& (2147483647 : Int32)) % (((own_D p1 p2 p3 (63 : Int32)) (((((p4.toUInt32 >>> ((1 : Int32) &&& 31).toUInt32).toInt32) &&& (1073741823 : Int32)) % (3 : Int32))).toNatClampNeg) + (1 : Int32)))), (.int ((((p4.toUInt32 >>> ((1 : Int32) &&& 31).toUInt32).toInt32) &&& (1073741823 : Int32)) % (3 : Int32))), (.ref b16)])) rfl (by rw [hml]; rfl) (Steps.refl _) (argsL := [(.int ((((p4.toUInt32 >>> ((1 : Int32) &&& 31).toUInt32).toInt32) &&& (1073741823 : Int32)) % (3 : Int32))), (.int ((p5 &&& (2147483647 : Int32)) % (((own_D p1 p2 p3 (63 : Int32)) (((((p4.toUInt32 >>> ((1 : Int32) &&& 31).toUInt32).toInt32) &&& (1073741823 : Int32)) % (3 : Int32))).toNatClampNeg) + (1 : Int32))))]) (rest := []) (lenOf pd_0_4 rfl) rfl (by show 2 * 0 + _ ≤ _; exact Nat.le_of_eq rfl) (hb hby at_157) (fun _ _ => ⟨rfl, rfl, (by decide : 4 + 0 ≤ _), (by decide : 11 + 0 ≤ _)⟩)
  dsimp only [Pt.U, Pt.locs, Pt.cells, Pt.slots] at X18 l18 y18 z18 st18 hQ18
  subst l18 y18 z18
  obtain ⟨rfl, N18q, Kc18, Fc18, Fl18, Vc18⟩ := hQ18
  have N18 := Fr.app N17 N18q
  have K18 : Keep h0 T18.heap [] := K17.trans Kc18 (allS (Or.inr sz_b16) (allS (Or.inr sz_ca17) all0))
  obtain ⟨T19, h19, k19, X19, e19, E19, A19, Ex19, st19⟩ := newPE X18 hx hZ (ww hw 0 rfl) rfl (g := (mkF m 161 #[.val (.int p1), .val (.int p2), .val (.int p3), .val (.int p4), .val (.int p5), .val (.long q6), .second, .val (.int (1 : Int32)), .val (.int (63 : Int32)), .val (.ref b7), .val (.int ((((p4.toUInt32 >>> ((1 : Int32) &&& 31).toUInt32).toInt32) &&& (1073741823 : Int32)) % (3 : Int32))), .val (.int ((own_D p1 p2 p3 (63 : Int32)) (((((p4.toUInt32 >>> ((1 : Int32) &&& 31).toUInt32).toInt32) &&& (1073741823 : Int32)) % (3 : Int32))).toNatClampNeg)), .val (.int ((p5 &&& (2147483647 : Int32)) % (((own_D p1 p2 p3 (63 : Int32)) (((((p4.toUInt32 >>> ((1 : Int32) &&& 31).toUInt32).toInt32) &&& (1073741823 : Int32)) % (3 : Int32))).toNatClampNeg) + (1 : Int32)))), .val (.ref b11), .val (.int ((((own_E p1 p2 p3 (63 : Int32) p4 p5) ((0 : Int32)).toNatClampNeg) + ((own_E p1 p2 p3 (63 : Int32) p4 p5) ((1 : Int32)).toNatClampNeg)) + ((own_E p1 p2 p3 (63 : Int32) p4 p5) ((2 : Int32)).toNatClampNeg))), .val (.ref b16), .unset] [(.int (3 : Int32))])) rfl (hb hby at_161) rfl (by decide) (cap := 3) (by decide) (by decide) (by decide) (by decide) (ad := "[I") rfl
  obtain ⟨b19, g19⟩ : ∃ z, z = T18.heap.size := ⟨_, rfl⟩
  rw [← g19] at A19 Ex19 st19
  have V_b19 := own_AI.of (Arv.new A19 (by decide))
  have E_b19 := Ex19
  have g_b19 : n0 ≤ b19 := Nat.le_trans (Nat.le_trans (Nat.le_trans (Nat.le_trans (Nat.le_trans (Nat.le_trans (Nat.le_trans (Nat.le_trans (Nat.le_trans (Nat.le_trans (Nat.le_trans (Nat.le_trans (Nat.le_trans Z0 E7.1) (Keep.of_wr W8).1) (Keep.of_wr W9).1) (Keep.of_wr W10).1) E11.1) (Keep.of_wr W12).1) (Keep.of_wr W13).1) (Keep.of_wr W14).1) (Keep.of_wr W15).1) E16.1) Kc17.1) Kc18.1) (Nat.le_of_eq g19.symm)
  have sz_b19 : h0.size ≤ b19 := (Nat.le_trans K18.1 (Nat.le_of_eq g19.symm))
  have K19 : Keep h0 h19 [] := K18.ext E19
  obtain ⟨_, _, ⟨T20, L20, k20, n20⟩, -, X20, ⟨Lc20, hQ20, l20, y20, z20⟩, st20⟩ := Jvm.LawKit.callS X19 hx (y := (⟨"com/example/binario/binario/rules/SeededRandom", "passengerDraws", "(J)Lcom/example/binario/binario/rules/SeededRandom;"⟩ : MethodName)) hown (mvT hZ (ww hw 34 rfl)) (mvT hZ (ww hw 35 rfl)) (mvT hZ (ww hw 36 rfl)) (mvT hZ (ww hw 37 rfl)) (by decide) (backOf (W := 3) (rm5 l Z a0 hw [] q6  h19 n0 (Nat.le_trans (Nat.le_trans (Nat.le_trans (Nat.le_trans (Nat.le_trans (Nat.le_trans (Nat.le_trans (Nat.le_trans (Nat.le_trans (Nat.le_trans (Nat.le_trans (Nat.le_trans (Nat.le_trans Z0 E7.1) (Keep.of_wr W8).1) (Keep.of_wr W9).1) (Keep.of_wr W10).1) E11.1) (Keep.of_wr W12).1) (Keep.of_wr W13).1) (Keep.of_wr W14).1) (Keep.of_wr W15).1) E16.1) Kc17.1) Kc18.1) E19.1)) hZ (ww hw 37 rfl) (ww hw 36 rfl) (by decide) (by decide)) (g := (mkF m 173 #[.val (.int p1), .val (.int p2), .val (.int p3), .val (.int p4), .val (.int p5), .val (.long q6), .second, .val (.int (1 : Int32)), .val (.int (63 : Int32)), .val (.ref b7), .val (.int ((((p4.toUInt32 >>> ((1 : Int32) &&& 31).toUInt32).toInt32) &&& (1073741823 : Int32)) % (3 : Int32))), .val (.int ((own_D p1 p2 p3 (63 : Int32)) (((((p4.toUInt32 >>> ((1 : Int32) &&& 31).toUInt32).toInt32) &&& (1073741823 : Int32)) % (3 : Int32))).toNatClampNeg)), .val (.int ((p5 &&& (2147483647 : Int32)) % (((own_D p1 p2 p3 (63 : Int32)) (((((p4.toUInt32 >>> ((1 : Int32) &&& 31).toUInt32).toInt32) &&& (1073741823 : Int32)) % (3 : Int32))).toNatClampNeg) + (1 : Int32)))), .val (.ref b11), .val (.int ((((own_E p1 p2 p3 (63 : Int32) p4 p5) ((0 : Int32)).toNatClampNeg) + ((own_E p1 p2 p3 (63 : Int32) p4 p5) ((1 : Int32)).toNatClampNeg)) + ((own_E p1 p2 p3 (63 : Int32) p4 p5) ((2 : Int32)).toNatClampNeg))), .val (.ref b16), .val (.ref b19)] [(.long q6), (.ref b19), (.int ((((own_E p1 p2 p3 (63 : Int32) p4 p5) ((0 : Int32)).toNatClampNeg) + ((own_E p1 p2 p3 (63 : Int32) p4 p5) ((1 : Int32)).toNatClampNeg)) + ((own_E p1 p2 p3 (63 : Int32) p4 p5) ((2 : Int32)).toNatClampNeg))), (.ref b16)])) rfl (by rw [hml]; rfl) (argsL := [(.long q6)]) (rest := [(.ref b19), (.int ((((own_E p1 p2 p3 (63 : Int32) p4 p5) ((0 : Int32)).toNatClampNeg) + ((own_E p1 p2 p3 (63 : Int32) p4 p5) ((1 : Int32)).toNatClampNeg)) + ((own_E p1 p2 p3 (63 : Int32) p4 p5) ((2 : Int32)).toNatClampNeg))), (.ref b16)]) (lenOf pd_0_5 rfl) rfl (by show 2 * 0 + _ ≤ _; exact Nat.le_of_eq rfl) (hb hby at_173) (fun _ _ => ⟨rfl, e19, (by decide : 5 + 1 ≤ _), (by decide : 14 + 1 ≤ _)⟩)
  dsimp only [Pt.U, Pt.locs, Pt.cells, Pt.slots] at X20 l20 y20 z20 st20 hQ20
  subst l20 y20 z20
  obtain ⟨sr20, sv20, rfl, N20q, Kc20, hs20, Es20, Fs20⟩ := hQ20
  have N20 := Fr.app N18 N20q
  have g_sr20 : n0 ≤ sr20 := Nat.le_trans (Nat.le_trans (Nat.le_trans (Nat.le_trans (Nat.le_trans (Nat.le_trans (Nat.le_trans (Nat.le_trans (Nat.le_trans (Nat.le_trans (Nat.le_trans (Nat.le_trans (Nat.le_trans (Nat.le_trans Z0 E7.1) (Keep.of_wr W8).1) (Keep.of_wr W9).1) (Keep.of_wr W10).1) E11.1) (Keep.of_wr W12).1) (Keep.of_wr W13).1) (Keep.of_wr W14).1) (Keep.of_wr W15).1) E16.1) Kc17.1) Kc18.1) E19.1) hs20
  have sz_sr20 : h0.size ≤ sr20 := Nat.le_trans K19.1 hs20
  have K20 : Keep h0 T20.heap [] := K19.trans Kc20 all0
  obtain ⟨cq21, kq21, q21a, q21b, q21c⟩ := isOf hZ rfl ((((E_b16.keep Kc17).keep Kc18).ext E19).keep Kc20)
  obtain ⟨_, _, ⟨T21, L21, k21, n21⟩, -, X21, ⟨Lc21, hQ21, l21, y21, z21⟩, st21⟩ := X20.virtualBack hx (y := (⟨"com/example/binario/binario/rules/PassengerBag", "draw", "(I[ILcom/example/binario/binario/rules/SeededRandom;)V"⟩ : MethodName)) (z := (⟨"com/example/binario/binario/rules/PassengerBag", "draw", "(I[ILcom/example/binario/binario/rules/SeededRandom;)V"⟩ : MethodName)) hown (mvT hZ (ww hw 53 rfl)) (mvT hZ (ww hw 54 rfl)) (notFace_of_selects (args := #[]) (mvT hZ (ww hw 56 rfl))) (mvT hZ (ww hw 56 rfl)) (mvT hZ (ww hw 55 rfl)) (by decide) (backOf (W := 0) (rm8 l Z a0 hw [] b16 ((((own_E p1 p2 p3 (63 : Int32) p4 p5) ((0 : Int32)).toNatClampNeg) + ((own_E p1 p2 p3 (63 : Int32) p4 p5) ((1 : Int32)).toNatClampNeg)) + ((own_E p1 p2 p3 (63 : Int32) p4 p5) ((2 : Int32)).toNatClampNeg)) b19 sr20 ca17 _ (own_E p1 p2 p3 (63 : Int32) p4 p5) _ T20.heap n0 (Nat.le_trans (Nat.le_trans (Nat.le_trans (Nat.le_trans (Nat.le_trans (Nat.le_trans (Nat.le_trans (Nat.le_trans (Nat.le_trans (Nat.le_trans (Nat.le_trans (Nat.le_trans (Nat.le_trans (Nat.le_trans Z0 E7.1) (Keep.of_wr W8).1) (Keep.of_wr W9).1) (Keep.of_wr W10).1) E11.1) (Keep.of_wr W12).1) (Keep.of_wr W13).1) (Keep.of_wr W14).1) (Keep.of_wr W15).1) E16.1) Kc17.1) Kc18.1) E19.1) Kc20.1) ((((E_b16.keep Kc17).keep Kc18).ext E19).keep Kc20) ((Fc18.ext E19).keep Kc20 nin0) (own_eqF ((Fl18.ext E19).keep Kc20 nin0) heq) ((Vc18.ext E19).keep Kc20 nin0) (V_b19.keep Kc20 nin0) Es20 Fs20 okE hsE g_b16 g_ca17 g_b19 g_sr20 (Nat.ne_of_lt (Nat.lt_of_lt_of_le ((E_b16.keep Kc17).keep Kc18).lt (Nat.le_of_eq g19.symm))) (Nat.ne_of_lt (Nat.lt_of_lt_of_le (((E_b16.keep Kc17).keep Kc18).ext E19).lt hs20)) (Nat.ne_of_lt (Nat.lt_of_lt_of_le E_b16.lt hc17)) (Nat.ne_of_lt (Nat.lt_of_lt_of_le V_b19.lt hs20)) (Ne.symm (Nat.ne_of_lt (Nat.lt_of_lt_of_le Vc18.lt (Nat.le_of_eq g19.symm)))) (Ne.symm (Nat.ne_of_lt (Nat.lt_of_lt_of_le (Vc18.ext E19).lt hs20)))) hZ (ww hw 57 rfl) (ww hw 5 rfl) (by decide) (by decide)) q21a q21c (g := (mkF m 176 #[.val (.int p1), .val (.int p2), .val (.int p3), .val (.int p4), .val (.int p5), .val (.long q6), .second, .val (.int (1 : Int32)), .val (.int (63 : Int32)), .val (.ref b7), .val (.int ((((p4.toUInt32 >>> ((1 : Int32) &&& 31).toUInt32).toInt32) &&& (1073741823 : Int32)) % (3 : Int32))), .val (.int ((own_D p1 p2 p3 (63 : Int32)) (((((p4.toUInt32 >>> ((1 : Int32) &&& 31).toUInt32).toInt32) &&& (1073741823 : Int32)) % (3 : Int32))).toNatClampNeg)), .val (.int ((p5 &&& (2147483647 : Int32)) % (((own_D p1 p2 p3 (63 : Int32)) (((((p4.toUInt32 >>> ((1 : Int32) &&& 31).toUInt32).toInt32) &&& (1073741823 : Int32)) % (3 : Int32))).toNatClampNeg) + (1 : Int32)))), .val (.ref b11), .val (.int ((((own_E p1 p2 p3 (63 : Int32) p4 p5) ((0 : Int32)).toNatClampNeg) + ((own_E p1 p2 p3 (63 : Int32) p4 p5) ((1 : Int32)).toNatClampNeg)) + ((own_E p1 p2 p3 (63 : Int32) p4 p5) ((2 : Int32)).toNatClampNeg))), .val (.ref b16), .val (.ref b19)] [(.ref sr20), (.ref b19), (.int ((((own_E p1 p2 p3 (63 : Int32) p4 p5) ((0 : Int32)).toNatClampNeg) + ((own_E p1 p2 p3 (63 : Int32) p4 p5) ((1 : Int32)).toNatClampNeg)) + ((own_E p1 p2 p3 (63 : Int32) p4 p5) ((2 : Int32)).toNatClampNeg))), (.ref b16)])) rfl (by rw [hml]; rfl) (Steps.refl _) (argsL := [(.int ((((own_E p1 p2 p3 (63 : Int32) p4 p5) ((0 : Int32)).toNatClampNeg) + ((own_E p1 p2 p3 (63 : Int32) p4 p5) ((1 : Int32)).toNatClampNeg)) + ((own_E p1 p2 p3 (63 : Int32) p4 p5) ((2 : Int32)).toNatClampNeg))), (.ref b19), (.ref sr20)]) (rest := []) (lenOf pd_0_8 rfl) rfl (by show 2 * 0 + _ ≤ _; exact Nat.le_of_eq rfl) (hb hby at_176) (fun _ _ => ⟨rfl, rfl, (by decide : 6 + 0 ≤ _), (by decide : 15 + 0 ≤ _)⟩)
  dsimp only [Pt.U, Pt.locs, Pt.cells, Pt.slots] at X21 l21 y21 z21 st21 hQ21
  subst l21 y21 z21
  obtain ⟨rfl, N21q, Kc21, Vr21⟩ := hQ21
  have N21 := Fr.app N20 N21q
  have K21 : Keep h0 T21.heap [] := K20.trans Kc21 (allS (Or.inr sz_b16) (allS (Or.inr sz_ca17) (allS (Or.inr sz_b19) (allS (Or.inr sz_sr20) all0))))
  obtain ⟨cl_182, Ar_182, S_182, H_182⟩ := id (Vr21)
  have hin182 : ¬ ((0 : Int32) < 0 ∨ cl_182.slots.size ≤ ((0 : Int32)).toNatClampNeg) := inb_of S_182 ⟨by decide, by decide⟩
  have hat182 := H_182 _ (own_inb hin182)
  obtain ⟨cl_186, Ar_186, S_186, H_186⟩ := id (((((((V_b11_15.ext E16).keep Kc17 (ninS (Nat.ne_of_lt (Nat.lt_of_lt_of_le V_b11_15.lt (Nat.le_of_eq g16.symm))) nin0)).keep Kc18 (ninS (Nat.ne_of_lt (Nat.lt_of_lt_of_le V_b11_15.lt (Nat.le_of_eq g16.symm))) (ninS (Nat.ne_of_lt (Nat.lt_of_lt_of_le (V_b11_15.ext E16).lt hc17)) nin0))).ext E19).keep Kc20 nin0).keep Kc21 (ninS (Nat.ne_of_lt (Nat.lt_of_lt_of_le V_b11_15.lt (Nat.le_of_eq g16.symm))) (ninS (Nat.ne_of_lt (Nat.lt_of_lt_of_le (V_b11_15.ext E16).lt hc17)) (ninS (Nat.ne_of_lt (Nat.lt_of_lt_of_le (((V_b11_15.ext E16).keep Kc17 (ninS (Nat.ne_of_lt (Nat.lt_of_lt_of_le V_b11_15.lt (Nat.le_of_eq g16.symm))) nin0)).keep Kc18 (ninS (Nat.ne_of_lt (Nat.lt_of_lt_of_le V_b11_15.lt (Nat.le_of_eq g16.symm))) (ninS (Nat.ne_of_lt (Nat.lt_of_lt_of_le (V_b11_15.ext E16).lt hc17)) nin0))).lt (Nat.le_of_eq g19.symm))) (ninS (Nat.ne_of_lt (Nat.lt_of_lt_of_le ((((V_b11_15.ext E16).keep Kc17 (ninS (Nat.ne_of_lt (Nat.lt_of_lt_of_le V_b11_15.lt (Nat.le_of_eq g16.symm))) nin0)).keep Kc18 (ninS (Nat.ne_of_lt (Nat.lt_of_lt_of_le V_b11_15.lt (Nat.le_of_eq g16.symm))) (ninS (Nat.ne_of_lt (Nat.lt_of_lt_of_le (V_b11_15.ext E16).lt hc17)) nin0))).ext E19).lt hs20)) nin0))))))
  have hin186 : ¬ ((0 : Int32) < 0 ∨ cl_186.slots.size ≤ ((0 : Int32)).toNatClampNeg) := inb_of S_186 ⟨by decide, by decide⟩
  have hat186 := H_186 _ (own_inb hin186)
  obtain ⟨cl_193, Ar_193, S_193, H_193⟩ := id (Vr21)
  have hin193 : ¬ ((1 : Int32) < 0 ∨ cl_193.slots.size ≤ ((1 : Int32)).toNatClampNeg) := inb_of S_193 ⟨by decide, by decide⟩
  have hat193 := H_193 _ (own_inb hin193)
  obtain ⟨cl_197, Ar_197, S_197, H_197⟩ := id (((((((V_b11_15.ext E16).keep Kc17 (ninS (Nat.ne_of_lt (Nat.lt_of_lt_of_le V_b11_15.lt (Nat.le_of_eq g16.symm))) nin0)).keep Kc18 (ninS (Nat.ne_of_lt (Nat.lt_of_lt_of_le V_b11_15.lt (Nat.le_of_eq g16.symm))) (ninS (Nat.ne_of_lt (Nat.lt_of_lt_of_le (V_b11_15.ext E16).lt hc17)) nin0))).ext E19).keep Kc20 nin0).keep Kc21 (ninS (Nat.ne_of_lt (Nat.lt_of_lt_of_le V_b11_15.lt (Nat.le_of_eq g16.symm))) (ninS (Nat.ne_of_lt (Nat.lt_of_lt_of_le (V_b11_15.ext E16).lt hc17)) (ninS (Nat.ne_of_lt (Nat.lt_of_lt_of_le (((V_b11_15.ext E16).keep Kc17 (ninS (Nat.ne_of_lt (Nat.lt_of_lt_of_le V_b11_15.lt (Nat.le_of_eq g16.symm))) nin0)).keep Kc18 (ninS (Nat.ne_of_lt (Nat.lt_of_lt_of_le V_b11_15.lt (Nat.le_of_eq g16.symm))) (ninS (Nat.ne_of_lt (Nat.lt_of_lt_of_le (V_b11_15.ext E16).lt hc17)) nin0))).lt (Nat.le_of_eq g19.symm))) (ninS (Nat.ne_of_lt (Nat.lt_of_lt_of_le ((((V_b11_15.ext E16).keep Kc17 (ninS (Nat.ne_of_lt (Nat.lt_of_lt_of_le V_b11_15.lt (Nat.le_of_eq g16.symm))) nin0)).keep Kc18 (ninS (Nat.ne_of_lt (Nat.lt_of_lt_of_le V_b11_15.lt (Nat.le_of_eq g16.symm))) (ninS (Nat.ne_of_lt (Nat.lt_of_lt_of_le (V_b11_15.ext E16).lt hc17)) nin0))).ext E19).lt hs20)) nin0))))))
  have hin197 : ¬ ((1 : Int32) < 0 ∨ cl_197.slots.size ≤ ((1 : Int32)).toNatClampNeg) := inb_of S_197 ⟨by decide, by decide⟩
  have hat197 := H_197 _ (own_inb hin197)
  obtain ⟨cl_204, Ar_204, S_204, H_204⟩ := id (Vr21)
  have hin204 : ¬ ((2 : Int32) < 0 ∨ cl_204.slots.size ≤ ((2 : Int32)).toNatClampNeg) := inb_of S_204 ⟨by decide, by decide⟩
  have hat204 := H_204 _ (own_inb hin204)
  obtain ⟨cl_208, Ar_208, S_208, H_208⟩ := id (((((((V_b11_15.ext E16).keep Kc17 (ninS (Nat.ne_of_lt (Nat.lt_of_lt_of_le V_b11_15.lt (Nat.le_of_eq g16.symm))) nin0)).keep Kc18 (ninS (Nat.ne_of_lt (Nat.lt_of_lt_of_le V_b11_15.lt (Nat.le_of_eq g16.symm))) (ninS (Nat.ne_of_lt (Nat.lt_of_lt_of_le (V_b11_15.ext E16).lt hc17)) nin0))).ext E19).keep Kc20 nin0).keep Kc21 (ninS (Nat.ne_of_lt (Nat.lt_of_lt_of_le V_b11_15.lt (Nat.le_of_eq g16.symm))) (ninS (Nat.ne_of_lt (Nat.lt_of_lt_of_le (V_b11_15.ext E16).lt hc17)) (ninS (Nat.ne_of_lt (Nat.lt_of_lt_of_le (((V_b11_15.ext E16).keep Kc17 (ninS (Nat.ne_of_lt (Nat.lt_of_lt_of_le V_b11_15.lt (Nat.le_of_eq g16.symm))) nin0)).keep Kc18 (ninS (Nat.ne_of_lt (Nat.lt_of_lt_of_le V_b11_15.lt (Nat.le_of_eq g16.symm))) (ninS (Nat.ne_of_lt (Nat.lt_of_lt_of_le (V_b11_15.ext E16).lt hc17)) nin0))).lt (Nat.le_of_eq g19.symm))) (ninS (Nat.ne_of_lt (Nat.lt_of_lt_of_le ((((V_b11_15.ext E16).keep Kc17 (ninS (Nat.ne_of_lt (Nat.lt_of_lt_of_le V_b11_15.lt (Nat.le_of_eq g16.symm))) nin0)).keep Kc18 (ninS (Nat.ne_of_lt (Nat.lt_of_lt_of_le V_b11_15.lt (Nat.le_of_eq g16.symm))) (ninS (Nat.ne_of_lt (Nat.lt_of_lt_of_le (V_b11_15.ext E16).lt hc17)) nin0))).ext E19).lt hs20)) nin0))))))
  have hin208 : ¬ ((2 : Int32) < 0 ∨ cl_208.slots.size ≤ ((2 : Int32)).toNatClampNeg) := inb_of S_208 ⟨by decide, by decide⟩
  have hat208 := H_208 _ (own_inb hin208)
  obtain ⟨fs, hr, hrun, hended, hW, hsame⟩ := X21.leave (v := some (.int (1 : Int32))) (fun h => by rw [Bd.returns] at h; cases h)
  refine ⟨_, _, pre0 _ ?_, hrun, hended, _, _, rfl, ?_, ⟨_, rfl⟩, hW, hsame.mono (by decide) (by decide)⟩
  · show Steps _ _ _ (s₁.setTop (mkF m 0 #[.val (.int p1), .val (.int p2), .val (.int p3), .val (.int p4), .val (.int p5), .val (.long q6), .second, .unset, .unset, .unset, .unset, .unset, .unset, .unset, .unset, .unset, .unset] [])) _
    refine XS.iloadN X0.here hx rfl (hb hby at_0) rfl ?_
    refine XS.iconst X0.here hx rfl (hb hby at_1) ?_
    refine XS.iand X0.here hx rfl (hb hby at_2) rfl ?_
    refine XS.ifNo X0.here hx rfl (hb hby at_3) rfl ((if0 _ _).trans (feq hc3).1) ?_
    refine XS.iconst X0.here hx rfl (hb hby at_6) ?_
    refine XS.goto X0.here hx rfl (pc0 := 7) (pc' := 11) rfl (hb hby at_7) (by decide) (by decide) ?_
    refine XS.istore X0.here hx rfl (hb hby at_11) rfl (l' := #[.val (.int p1), .val (.int p2), .val (.int p3), .val (.int p4), .val (.int p5), .val (.long q6), .second, .val (.int (1 : Int32)), .unset, .unset, .unset, .unset, .unset, .unset, .unset, .unset, .unset]) rfl ?_
    refine XS.iload X0.here hx rfl (hb hby at_13) rfl ?_
    refine XS.ifNo X0.here hx rfl (hb hby at_15) rfl ((if0 _ _).trans (feq (by decide : ¬ ((1 : Int32) = (0 : Int32)))).1) ?_
    refine XS.bipush X0.here hx rfl (hb hby at_18) ?_
    refine XS.goto X0.here hx rfl (pc0 := 20) (pc' := 25) rfl (hb hby at_20) (by decide) (by decide) ?_
    refine XS.istore X0.here hx rfl (hb hby at_25) rfl (l' := #[.val (.int p1), .val (.int p2), .val (.int p3), .val (.int p4), .val (.int p5), .val (.long q6), .second, .val (.int (1 : Int32)), .val (.int (63 : Int32)), .unset, .unset, .unset, .unset, .unset, .unset, .unset, .unset]) rfl ?_
    refine XS.iconst X0.here hx rfl (hb hby at_27) ?_
    refine st7 _ ?_
    refine XS.astore X7.here hx rfl (hb hby at_30) rfl rfl (l' := #[.val (.int p1), .val (.int p2), .val (.int p3), .val (.int p4), .val (.int p5), .val (.long q6), .second, .val (.int (1 : Int32)), .val (.int (63 : Int32)), .val (.ref b7), .unset, .unset, .unset, .unset, .unset, .unset, .unset]) rfl ?_
    refine XS.aload X7.here hx rfl (hb hby at_32) rfl rfl ?_
    refine XS.iconst X7.here hx rfl (hb hby at_34) ?_
    refine XS.iloadN X7.here hx rfl (hb hby at_35) rfl ?_
    refine XS.iload X7.here hx rfl (hb hby at_36) rfl ?_
    refine XS.iand X7.here hx rfl (hb hby at_38) rfl ?_
    refine st8 _ ?_
    refine XS.aload X8.here hx rfl (hb hby at_40) rfl rfl ?_
    refine XS.iconst X8.here hx rfl (hb hby at_42) ?_
    refine XS.iloadN X8.here hx rfl (hb hby at_43) rfl ?_
    refine XS.iload X8.here hx rfl (hb hby at_44) rfl ?_
    refine XS.iand X8.here hx rfl (hb hby at_46) rfl ?_
    refine st9 _ ?_
    refine XS.aload X9.here hx rfl (hb hby at_48) rfl rfl ?_
    refine XS.iconst X9.here hx rfl (hb hby at_50) ?_
    refine XS.iloadN X9.here hx rfl (hb hby at_51) rfl ?_
    refine XS.iload X9.here hx rfl (hb hby at_52) rfl ?_
    refine XS.iand X9.here hx rfl (hb hby at_54) rfl ?_
    refine st10 _ ?_
    refine XS.iloadN X10.here hx rfl (hb hby at_56) rfl ?_
    refine XS.iconst X10.here hx rfl (hb hby at_57) ?_
    refine XS.iushr X10.here hx rfl (hb hby at_58) rfl ?_
    refine X10.ldcInt hx hown (mvT hZ (ww hw 1 rfl)) (g := (mkF m 59 #[.val (.int p1), .val (.int p2), .val (.int p3), .val (.int p4), .val (.int p5), .val (.long q6), .second, .val (.int (1 : Int32)), .val (.int (63 : Int32)), .val (.ref b7), .unset, .unset, .unset, .unset, .unset, .unset, .unset] [(.int ((p4.toUInt32 >>> ((1 : Int32) &&& 31).toUInt32).toInt32))])) rfl (hb hby at_59) _ ?_
    refine XS.iand X10.here hx rfl (hb hby at_61) rfl ?_
    refine XS.iconst X10.here hx rfl (hb hby at_62) ?_
    refine iremM (g := (mkF m 63 #[.val (.int p1), .val (.int p2), .val (.int p3), .val (.int p4), .val (.int p5), .val (.long q6), .second, .val (.int (1 : Int32)), .val (.int (63 : Int32)), .val (.ref b7), .unset, .unset, .unset, .unset, .unset, .unset, .unset] [(.int (3 : Int32)), (.int (((p4.toUInt32 >>> ((1 : Int32) &&& 31).toUInt32).toInt32) &&& (1073741823 : Int32)))])) X10 hx rfl (hb hby at_63) rfl (by decide) ?_
    refine XS.istore X10.here hx rfl (hb hby at_64) rfl (l' := #[.val (.int p1), .val (.int p2), .val (.int p3), .val (.int p4), .val (.int p5), .val (.long q6), .second, .val (.int (1 : Int32)), .val (.int (63 : Int32)), .val (.ref b7), .val (.int ((((p4.toUInt32 >>> ((1 : Int32) &&& 31).toUInt32).toInt32) &&& (1073741823 : Int32)) % (3 : Int32))), .unset, .unset, .unset, .unset, .unset, .unset]) rfl ?_
    refine XS.aload X10.here hx rfl (hb hby at_66) rfl rfl ?_
    refine XS.iload X10.here hx rfl (hb hby at_68) rfl ?_
    refine X10.iaload hx (j := ((((p4.toUInt32 >>> ((1 : Int32) &&& 31).toUInt32).toInt32) &&& (1073741823 : Int32)) % (3 : Int32))) (v := (.int ((own_D p1 p2 p3 (63 : Int32)) (((((p4.toUInt32 >>> ((1 : Int32) &&& 31).toUInt32).toInt32) &&& (1073741823 : Int32)) % (3 : Int32))).toNatClampNeg))) (by rw [e10]; exact Ar_70.1) (State.isArrayOf_alike hZ.alike Ar_70.2.1) Ar_70.2.2 hin70 hat70 (g := (mkF m 70 #[.val (.int p1), .val (.int p2), .val (.int p3), .val (.int p4), .val (.int p5), .val (.long q6), .second, .val (.int (1 : Int32)), .val (.int (63 : Int32)), .val (.ref b7), .val (.int ((((p4.toUInt32 >>> ((1 : Int32) &&& 31).toUInt32).toInt32) &&& (1073741823 : Int32)) % (3 : Int32))), .unset, .unset, .unset, .unset, .unset, .unset] [(.int ((((p4.toUInt32 >>> ((1 : Int32) &&& 31).toUInt32).toInt32) &&& (1073741823 : Int32)) % (3 : Int32))), (.ref b7)])) rfl rfl (hb hby at_70) _ ?_
    refine XS.istore X10.here hx rfl (hb hby at_71) rfl (l' := #[.val (.int p1), .val (.int p2), .val (.int p3), .val (.int p4), .val (.int p5), .val (.long q6), .second, .val (.int (1 : Int32)), .val (.int (63 : Int32)), .val (.ref b7), .val (.int ((((p4.toUInt32 >>> ((1 : Int32) &&& 31).toUInt32).toInt32) &&& (1073741823 : Int32)) % (3 : Int32))), .val (.int ((own_D p1 p2 p3 (63 : Int32)) (((((p4.toUInt32 >>> ((1 : Int32) &&& 31).toUInt32).toInt32) &&& (1073741823 : Int32)) % (3 : Int32))).toNatClampNeg)), .unset, .unset, .unset, .unset, .unset]) rfl ?_
    refine XS.iload X10.here hx rfl (hb hby at_73) rfl ?_
    refine X10.ldcInt hx hown (mvT hZ (ww hw 2 rfl)) (g := (mkF m 75 #[.val (.int p1), .val (.int p2), .val (.int p3), .val (.int p4), .val (.int p5), .val (.long q6), .second, .val (.int (1 : Int32)), .val (.int (63 : Int32)), .val (.ref b7), .val (.int ((((p4.toUInt32 >>> ((1 : Int32) &&& 31).toUInt32).toInt32) &&& (1073741823 : Int32)) % (3 : Int32))), .val (.int ((own_D p1 p2 p3 (63 : Int32)) (((((p4.toUInt32 >>> ((1 : Int32) &&& 31).toUInt32).toInt32) &&& (1073741823 : Int32)) % (3 : Int32))).toNatClampNeg)), .unset, .unset, .unset, .unset, .unset] [(.int p5)])) rfl (hb hby at_75) _ ?_
    refine XS.iand X10.here hx rfl (hb hby at_77) rfl ?_
    refine XS.iload X10.here hx rfl (hb hby at_78) rfl ?_
    refine XS.iconst X10.here hx rfl (hb hby at_80) ?_
    refine XS.iadd X10.here hx rfl (hb hby at_81) rfl ?_
    refine iremM (g := (mkF m 82 #[.val (.int p1), .val (.int p2), .val (.int p3), .val (.int p4), .val (.int p5), .val (.long q6), .second, .val (.int (1 : Int32)), .val (.int (63 : Int32)), .val (.ref b7), .val (.int ((((p4.toUInt32 >>> ((1 : Int32) &&& 31).toUInt32).toInt32) &&& (1073741823 : Int32)) % (3 : Int32))), .val (.int ((own_D p1 p2 p3 (63 : Int32)) (((((p4.toUInt32 >>> ((1 : Int32) &&& 31).toUInt32).toInt32) &&& (1073741823 : Int32)) % (3 : Int32))).toNatClampNeg)), .unset, .unset, .unset, .unset, .unset] [(.int (((own_D p1 p2 p3 (63 : Int32)) (((((p4.toUInt32 >>> ((1 : Int32) &&& 31).toUInt32).toInt32) &&& (1073741823 : Int32)) % (3 : Int32))).toNatClampNeg) + (1 : Int32))), (.int (p5 &&& (2147483647 : Int32)))])) X10 hx rfl (hb hby at_82) rfl hnz82 ?_
    refine XS.istore X10.here hx rfl (hb hby at_83) rfl (l' := #[.val (.int p1), .val (.int p2), .val (.int p3), .val (.int p4), .val (.int p5), .val (.long q6), .second, .val (.int (1 : Int32)), .val (.int (63 : Int32)), .val (.ref b7), .val (.int ((((p4.toUInt32 >>> ((1 : Int32) &&& 31).toUInt32).toInt32) &&& (1073741823 : Int32)) % (3 : Int32))), .val (.int ((own_D p1 p2 p3 (63 : Int32)) (((((p4.toUInt32 >>> ((1 : Int32) &&& 31).toUInt32).toInt32) &&& (1073741823 : Int32)) % (3 : Int32))).toNatClampNeg)), .val (.int ((p5 &&& (2147483647 : Int32)) % (((own_D p1 p2 p3 (63 : Int32)) (((((p4.toUInt32 >>> ((1 : Int32) &&& 31).toUInt32).toInt32) &&& (1073741823 : Int32)) % (3 : Int32))).toNatClampNeg) + (1 : Int32)))), .unset, .unset, .unset, .unset]) rfl ?_
    refine XS.iconst X10.here hx rfl (hb hby at_85) ?_
    refine st11 _ ?_
    refine XS.astore X11.here hx rfl (hb hby at_88) rfl rfl (l' := #[.val (.int p1), .val (.int p2), .val (.int p3), .val (.int p4), .val (.int p5), .val (.long q6), .second, .val (.int (1 : Int32)), .val (.int (63 : Int32)), .val (.ref b7), .val (.int ((((p4.toUInt32 >>> ((1 : Int32) &&& 31).toUInt32).toInt32) &&& (1073741823 : Int32)) % (3 : Int32))), .val (.int ((own_D p1 p2 p3 (63 : Int32)) (((((p4.toUInt32 >>> ((1 : Int32) &&& 31).toUInt32).toInt32) &&& (1073741823 : Int32)) % (3 : Int32))).toNatClampNeg)), .val (.int ((p5 &&& (2147483647 : Int32)) % (((own_D p1 p2 p3 (63 : Int32)) (((((p4.toUInt32 >>> ((1 : Int32) &&& 31).toUInt32).toInt32) &&& (1073741823 : Int32)) % (3 : Int32))).toNatClampNeg) + (1 : Int32)))), .val (.ref b11), .unset, .unset, .unset]) rfl ?_
    refine XS.aload X11.here hx rfl (hb hby at_90) rfl rfl ?_
    refine XS.iconst X11.here hx rfl (hb hby at_92) ?_
    refine XS.aload X11.here hx rfl (hb hby at_93) rfl rfl ?_
    refine XS.iconst X11.here hx rfl (hb hby at_95) ?_
    refine X11.iaload hx (j := (0 : Int32)) (v := (.int ((own_D p1 p2 p3 (63 : Int32)) ((0 : Int32)).toNatClampNeg))) (by rw [e11]; exact Ar_96.1) (State.isArrayOf_alike hZ.alike Ar_96.2.1) Ar_96.2.2 hin96 hat96 (g := (mkF m 96 #[.val (.int p1), .val (.int p2), .val (.int p3), .val (.int p4), .val (.int p5), .val (.long q6), .second, .val (.int (1 : Int32)), .val (.int (63 : Int32)), .val (.ref b7), .val (.int ((((p4.toUInt32 >>> ((1 : Int32) &&& 31).toUInt32).toInt32) &&& (1073741823 : Int32)) % (3 : Int32))), .val (.int ((own_D p1 p2 p3 (63 : Int32)) (((((p4.toUInt32 >>> ((1 : Int32) &&& 31).toUInt32).toInt32) &&& (1073741823 : Int32)) % (3 : Int32))).toNatClampNeg)), .val (.int ((p5 &&& (2147483647 : Int32)) % (((own_D p1 p2 p3 (63 : Int32)) (((((p4.toUInt32 >>> ((1 : Int32) &&& 31).toUInt32).toInt32) &&& (1073741823 : Int32)) % (3 : Int32))).toNatClampNeg) + (1 : Int32)))), .val (.ref b11), .unset, .unset, .unset] [(.int (0 : Int32)), (.ref b7), (.int (0 : Int32)), (.ref b11)])) rfl rfl (hb hby at_96) _ ?_
    refine st12 _ ?_
    refine XS.aload X12.here hx rfl (hb hby at_98) rfl rfl ?_
    refine XS.iconst X12.here hx rfl (hb hby at_100) ?_
    refine XS.aload X12.here hx rfl (hb hby at_101) rfl rfl ?_
    refine XS.iconst X12.here hx rfl (hb hby at_103) ?_
    refine X12.iaload hx (j := (1 : Int32)) (v := (.int ((own_D p1 p2 p3 (63 : Int32)) ((1 : Int32)).toNatClampNeg))) (by rw [e12]; exact Ar_104.1) (State.isArrayOf_alike hZ.alike Ar_104.2.1) Ar_104.2.2 hin104 hat104 (g := (mkF m 104 #[.val (.int p1), .val (.int p2), .val (.int p3), .val (.int p4), .val (.int p5), .val (.long q6), .second, .val (.int (1 : Int32)), .val (.int (63 : Int32)), .val (.ref b7), .val (.int ((((p4.toUInt32 >>> ((1 : Int32) &&& 31).toUInt32).toInt32) &&& (1073741823 : Int32)) % (3 : Int32))), .val (.int ((own_D p1 p2 p3 (63 : Int32)) (((((p4.toUInt32 >>> ((1 : Int32) &&& 31).toUInt32).toInt32) &&& (1073741823 : Int32)) % (3 : Int32))).toNatClampNeg)), .val (.int ((p5 &&& (2147483647 : Int32)) % (((own_D p1 p2 p3 (63 : Int32)) (((((p4.toUInt32 >>> ((1 : Int32) &&& 31).toUInt32).toInt32) &&& (1073741823 : Int32)) % (3 : Int32))).toNatClampNeg) + (1 : Int32)))), .val (.ref b11), .unset, .unset, .unset] [(.int (1 : Int32)), (.ref b7), (.int (1 : Int32)), (.ref b11)])) rfl rfl (hb hby at_104) _ ?_
    refine st13 _ ?_
    refine XS.aload X13.here hx rfl (hb hby at_106) rfl rfl ?_
    refine XS.iconst X13.here hx rfl (hb hby at_108) ?_
    refine XS.aload X13.here hx rfl (hb hby at_109) rfl rfl ?_
    refine XS.iconst X13.here hx rfl (hb hby at_111) ?_
    refine X13.iaload hx (j := (2 : Int32)) (v := (.int ((own_D p1 p2 p3 (63 : Int32)) ((2 : Int32)).toNatClampNeg))) (by rw [e13]; exact Ar_112.1) (State.isArrayOf_alike hZ.alike Ar_112.2.1) Ar_112.2.2 hin112 hat112 (g := (mkF m 112 #[.val (.int p1), .val (.int p2), .val (.int p3), .val (.int p4), .val (.int p5), .val (.long q6), .second, .val (.int (1 : Int32)), .val (.int (63 : Int32)), .val (.ref b7), .val (.int ((((p4.toUInt32 >>> ((1 : Int32) &&& 31).toUInt32).toInt32) &&& (1073741823 : Int32)) % (3 : Int32))), .val (.int ((own_D p1 p2 p3 (63 : Int32)) (((((p4.toUInt32 >>> ((1 : Int32) &&& 31).toUInt32).toInt32) &&& (1073741823 : Int32)) % (3 : Int32))).toNatClampNeg)), .val (.int ((p5 &&& (2147483647 : Int32)) % (((own_D p1 p2 p3 (63 : Int32)) (((((p4.toUInt32 >>> ((1 : Int32) &&& 31).toUInt32).toInt32) &&& (1073741823 : Int32)) % (3 : Int32))).toNatClampNeg) + (1 : Int32)))), .val (.ref b11), .unset, .unset, .unset] [(.int (2 : Int32)), (.ref b7), (.int (2 : Int32)), (.ref b11)])) rfl rfl (hb hby at_112) _ ?_
    refine st14 _ ?_
    refine XS.aload X14.here hx rfl (hb hby at_114) rfl rfl ?_
    refine XS.iload X14.here hx rfl (hb hby at_116) rfl ?_
    refine XS.iload X14.here hx rfl (hb hby at_118) rfl ?_
    refine XS.iload X14.here hx rfl (hb hby at_120) rfl ?_
    refine XS.isub X14.here hx rfl (hb hby at_122) rfl ?_
    refine st15 _ ?_
    refine XS.aload X15.here hx rfl (hb hby at_124) rfl rfl ?_
    refine XS.iconst X15.here hx rfl (hb hby at_126) ?_
    refine X15.iaload hx (j := (0 : Int32)) (v := (.int ((own_E p1 p2 p3 (63 : Int32) p4 p5) ((0 : Int32)).toNatClampNeg))) (by rw [e15]; exact Ar_127.1) (State.isArrayOf_alike hZ.alike Ar_127.2.1) Ar_127.2.2 hin127 hat127 (g := (mkF m 127 #[.val (.int p1), .val (.int p2), .val (.int p3), .val (.int p4), .val (.int p5), .val (.long q6), .second, .val (.int (1 : Int32)), .val (.int (63 : Int32)), .val (.ref b7), .val (.int ((((p4.toUInt32 >>> ((1 : Int32) &&& 31).toUInt32).toInt32) &&& (1073741823 : Int32)) % (3 : Int32))), .val (.int ((own_D p1 p2 p3 (63 : Int32)) (((((p4.toUInt32 >>> ((1 : Int32) &&& 31).toUInt32).toInt32) &&& (1073741823 : Int32)) % (3 : Int32))).toNatClampNeg)), .val (.int ((p5 &&& (2147483647 : Int32)) % (((own_D p1 p2 p3 (63 : Int32)) (((((p4.toUInt32 >>> ((1 : Int32) &&& 31).toUInt32).toInt32) &&& (1073741823 : Int32)) % (3 : Int32))).toNatClampNeg) + (1 : Int32)))), .val (.ref b11), .unset, .unset, .unset] [(.int (0 : Int32)), (.ref b11)])) rfl rfl (hb hby at_127) _ ?_
    refine XS.aload X15.here hx rfl (hb hby at_128) rfl rfl ?_
    refine XS.iconst X15.here hx rfl (hb hby at_130) ?_
    refine X15.iaload hx (j := (1 : Int32)) (v := (.int ((own_E p1 p2 p3 (63 : Int32) p4 p5) ((1 : Int32)).toNatClampNeg))) (by rw [e15]; exact Ar_131.1) (State.isArrayOf_alike hZ.alike Ar_131.2.1) Ar_131.2.2 hin131 hat131 (g := (mkF m 131 #[.val (.int p1), .val (.int p2), .val (.int p3), .val (.int p4), .val (.int p5), .val (.long q6), .second, .val (.int (1 : Int32)), .val (.int (63 : Int32)), .val (.ref b7), .val (.int ((((p4.toUInt32 >>> ((1 : Int32) &&& 31).toUInt32).toInt32) &&& (1073741823 : Int32)) % (3 : Int32))), .val (.int ((own_D p1 p2 p3 (63 : Int32)) (((((p4.toUInt32 >>> ((1 : Int32) &&& 31).toUInt32).toInt32) &&& (1073741823 : Int32)) % (3 : Int32))).toNatClampNeg)), .val (.int ((p5 &&& (2147483647 : Int32)) % (((own_D p1 p2 p3 (63 : Int32)) (((((p4.toUInt32 >>> ((1 : Int32) &&& 31).toUInt32).toInt32) &&& (1073741823 : Int32)) % (3 : Int32))).toNatClampNeg) + (1 : Int32)))), .val (.ref b11), .unset, .unset, .unset] [(.int (1 : Int32)), (.ref b11), (.int ((own_E p1 p2 p3 (63 : Int32) p4 p5) ((0 : Int32)).toNatClampNeg))])) rfl rfl (hb hby at_131) _ ?_
    refine XS.iadd X15.here hx rfl (hb hby at_132) rfl ?_
    refine XS.aload X15.here hx rfl (hb hby at_133) rfl rfl ?_
    refine XS.iconst X15.here hx rfl (hb hby at_135) ?_
    refine X15.iaload hx (j := (2 : Int32)) (v := (.int ((own_E p1 p2 p3 (63 : Int32) p4 p5) ((2 : Int32)).toNatClampNeg))) (by rw [e15]; exact Ar_136.1) (State.isArrayOf_alike hZ.alike Ar_136.2.1) Ar_136.2.2 hin136 hat136 (g := (mkF m 136 #[.val (.int p1), .val (.int p2), .val (.int p3), .val (.int p4), .val (.int p5), .val (.long q6), .second, .val (.int (1 : Int32)), .val (.int (63 : Int32)), .val (.ref b7), .val (.int ((((p4.toUInt32 >>> ((1 : Int32) &&& 31).toUInt32).toInt32) &&& (1073741823 : Int32)) % (3 : Int32))), .val (.int ((own_D p1 p2 p3 (63 : Int32)) (((((p4.toUInt32 >>> ((1 : Int32) &&& 31).toUInt32).toInt32) &&& (1073741823 : Int32)) % (3 : Int32))).toNatClampNeg)), .val (.int ((p5 &&& (2147483647 : Int32)) % (((own_D p1 p2 p3 (63 : Int32)) (((((p4.toUInt32 >>> ((1 : Int32) &&& 31).toUInt32).toInt32) &&& (1073741823 : Int32)) % (3 : Int32))).toNatClampNeg) + (1 : Int32)))), .val (.ref b11), .unset, .unset, .unset] [(.int (2 : Int32)), (.ref b11), (.int (((own_E p1 p2 p3 (63 : Int32) p4 p5) ((0 : Int32)).toNatClampNeg) + ((own_E p1 p2 p3 (63 : Int32) p4 p5) ((1 : Int32)).toNatClampNeg)))])) rfl rfl (hb hby at_136) _ ?_
    refine XS.iadd X15.here hx rfl (hb hby at_137) rfl ?_
    refine XS.istore X15.here hx rfl (hb hby at_138) rfl (l' := #[.val (.int p1), .val (.int p2), .val (.int p3), .val (.int p4), .val (.int p5), .val (.long q6), .second, .val (.int (1 : Int32)), .val (.int (63 : Int32)), .val (.ref b7), .val (.int ((((p4.toUInt32 >>> ((1 : Int32) &&& 31).toUInt32).toInt32) &&& (1073741823 : Int32)) % (3 : Int32))), .val (.int ((own_D p1 p2 p3 (63 : Int32)) (((((p4.toUInt32 >>> ((1 : Int32) &&& 31).toUInt32).toInt32) &&& (1073741823 : Int32)) % (3 : Int32))).toNatClampNeg)), .val (.int ((p5 &&& (2147483647 : Int32)) % (((own_D p1 p2 p3 (63 : Int32)) (((((p4.toUInt32 >>> ((1 : Int32) &&& 31).toUInt32).toInt32) &&& (1073741823 : Int32)) % (3 : Int32))).toNatClampNeg) + (1 : Int32)))), .val (.ref b11), .val (.int ((((own_E p1 p2 p3 (63 : Int32) p4 p5) ((0 : Int32)).toNatClampNeg) + ((own_E p1 p2 p3 (63 : Int32) p4 p5) ((1 : Int32)).toNatClampNeg)) + ((own_E p1 p2 p3 (63 : Int32) p4 p5) ((2 : Int32)).toNatClampNeg))), .unset, .unset]) rfl ?_
    refine st16 _ ?_
    refine XS.dup X16.here hx rfl (hb hby at_143) rfl rfl ?_
    refine XS.aload X16.here hx rfl (hb hby at_144) rfl rfl ?_
    refine st17.trans ?_
    refine XS.astore X17.here hx rfl (hb hby at_149) rfl rfl (l' := #[.val (.int p1), .val (.int p2), .val (.int p3), .val (.int p4), .val (.int p5), .val (.long q6), .second, .val (.int (1 : Int32)), .val (.int (63 : Int32)), .val (.ref b7), .val (.int ((((p4.toUInt32 >>> ((1 : Int32) &&& 31).toUInt32).toInt32) &&& (1073741823 : Int32)) % (3 : Int32))), .val (.int ((own_D p1 p2 p3 (63 : Int32)) (((((p4.toUInt32 >>> ((1 : Int32) &&& 31).toUInt32).toInt32) &&& (1073741823 : Int32)) % (3 : Int32))).toNatClampNeg)), .val (.int ((p5 &&& (2147483647 : Int32)) % (((own_D p1 p2 p3 (63 : Int32)) (((((p4.toUInt32 >>> ((1 : Int32) &&& 31).toUInt32).toInt32) &&& (1073741823 : Int32)) % (3 : Int32))).toNatClampNeg) + (1 : Int32)))), .val (.ref b11), .val (.int ((((own_E p1 p2 p3 (63 : Int32) p4 p5) ((0 : Int32)).toNatClampNeg) + ((own_E p1 p2 p3 (63 : Int32) p4 p5) ((1 : Int32)).toNatClampNeg)) + ((own_E p1 p2 p3 (63 : Int32) p4 p5) ((2 : Int32)).toNatClampNeg))), .val (.ref b16), .unset]) rfl ?_
    refine XS.aload X17.here hx rfl (hb hby at_151) rfl rfl ?_
    refine XS.iload X17.here hx rfl (hb hby at_153) rfl ?_
    refine XS.iload X17.here hx rfl (hb hby at_155) rfl ?_
    refine st18.trans ?_
    refine XS.iconst X18.here hx rfl (hb hby at_160) ?_
    refine st19 _ ?_
    refine XS.astore X19.here hx rfl (hb hby at_163) rfl rfl (l' := #[.val (.int p1), .val (.int p2), .val (.int p3), .val (.int p4), .val (.int p5), .val (.long q6), .second, .val (.int (1 : Int32)), .val (.int (63 : Int32)), .val (.ref b7), .val (.int ((((p4.toUInt32 >>> ((1 : Int32) &&& 31).toUInt32).toInt32) &&& (1073741823 : Int32)) % (3 : Int32))), .val (.int ((own_D p1 p2 p3 (63 : Int32)) (((((p4.toUInt32 >>> ((1 : Int32) &&& 31).toUInt32).toInt32) &&& (1073741823 : Int32)) % (3 : Int32))).toNatClampNeg)), .val (.int ((p5 &&& (2147483647 : Int32)) % (((own_D p1 p2 p3 (63 : Int32)) (((((p4.toUInt32 >>> ((1 : Int32) &&& 31).toUInt32).toInt32) &&& (1073741823 : Int32)) % (3 : Int32))).toNatClampNeg) + (1 : Int32)))), .val (.ref b11), .val (.int ((((own_E p1 p2 p3 (63 : Int32) p4 p5) ((0 : Int32)).toNatClampNeg) + ((own_E p1 p2 p3 (63 : Int32) p4 p5) ((1 : Int32)).toNatClampNeg)) + ((own_E p1 p2 p3 (63 : Int32) p4 p5) ((2 : Int32)).toNatClampNeg))), .val (.ref b16), .val (.ref b19)]) rfl ?_
    refine XS.aload X19.here hx rfl (hb hby at_165) rfl rfl ?_
    refine XS.iload X19.here hx rfl (hb hby at_167) rfl ?_
    refine XS.aload X19.here hx rfl (hb hby at_169) rfl rfl ?_
    refine XS.lload X19.here hx rfl (hb hby at_171) rfl ?_
    refine st20 _ ?_
    refine st21.trans ?_
    refine XS.aload X21.here hx rfl (hb hby at_179) rfl rfl ?_
    refine XS.iconst X21.here hx rfl (hb hby at_181) ?_
    refine X21.iaload hx (j := (0 : Int32)) (v := (.int ((own_E p1 p2 p3 (63 : Int32) p4 p5) ((0 : Int32)).toNatClampNeg))) (by exact Ar_182.1) (State.isArrayOf_alike hZ.alike Ar_182.2.1) Ar_182.2.2 hin182 hat182 (g := (mkF m 182 #[.val (.int p1), .val (.int p2), .val (.int p3), .val (.int p4), .val (.int p5), .val (.long q6), .second, .val (.int (1 : Int32)), .val (.int (63 : Int32)), .val (.ref b7), .val (.int ((((p4.toUInt32 >>> ((1 : Int32) &&& 31).toUInt32).toInt32) &&& (1073741823 : Int32)) % (3 : Int32))), .val (.int ((own_D p1 p2 p3 (63 : Int32)) (((((p4.toUInt32 >>> ((1 : Int32) &&& 31).toUInt32).toInt32) &&& (1073741823 : Int32)) % (3 : Int32))).toNatClampNeg)), .val (.int ((p5 &&& (2147483647 : Int32)) % (((own_D p1 p2 p3 (63 : Int32)) (((((p4.toUInt32 >>> ((1 : Int32) &&& 31).toUInt32).toInt32) &&& (1073741823 : Int32)) % (3 : Int32))).toNatClampNeg) + (1 : Int32)))), .val (.ref b11), .val (.int ((((own_E p1 p2 p3 (63 : Int32) p4 p5) ((0 : Int32)).toNatClampNeg) + ((own_E p1 p2 p3 (63 : Int32) p4 p5) ((1 : Int32)).toNatClampNeg)) + ((own_E p1 p2 p3 (63 : Int32) p4 p5) ((2 : Int32)).toNatClampNeg))), .val (.ref b16), .val (.ref b19)] [(.int (0 : Int32)), (.ref b19)])) rfl rfl (hb hby at_182) _ ?_
    refine XS.aload X21.here hx rfl (hb hby at_183) rfl rfl ?_
    refine XS.iconst X21.here hx rfl (hb hby at_185) ?_
    refine X21.iaload hx (j := (0 : Int32)) (v := (.int ((own_E p1 p2 p3 (63 : Int32) p4 p5) ((0 : Int32)).toNatClampNeg))) (by exact Ar_186.1) (State.isArrayOf_alike hZ.alike Ar_186.2.1) Ar_186.2.2 hin186 hat186 (g := (mkF m 186 #[.val (.int p1), .val (.int p2), .val (.int p3), .val (.int p4), .val (.int p5), .val (.long q6), .second, .val (.int (1 : Int32)), .val (.int (63 : Int32)), .val (.ref b7), .val (.int ((((p4.toUInt32 >>> ((1 : Int32) &&& 31).toUInt32).toInt32) &&& (1073741823 : Int32)) % (3 : Int32))), .val (.int ((own_D p1 p2 p3 (63 : Int32)) (((((p4.toUInt32 >>> ((1 : Int32) &&& 31).toUInt32).toInt32) &&& (1073741823 : Int32)) % (3 : Int32))).toNatClampNeg)), .val (.int ((p5 &&& (2147483647 : Int32)) % (((own_D p1 p2 p3 (63 : Int32)) (((((p4.toUInt32 >>> ((1 : Int32) &&& 31).toUInt32).toInt32) &&& (1073741823 : Int32)) % (3 : Int32))).toNatClampNeg) + (1 : Int32)))), .val (.ref b11), .val (.int ((((own_E p1 p2 p3 (63 : Int32) p4 p5) ((0 : Int32)).toNatClampNeg) + ((own_E p1 p2 p3 (63 : Int32) p4 p5) ((1 : Int32)).toNatClampNeg)) + ((own_E p1 p2 p3 (63 : Int32) p4 p5) ((2 : Int32)).toNatClampNeg))), .val (.ref b16), .val (.ref b19)] [(.int (0 : Int32)), (.ref b11), (.int ((own_E p1 p2 p3 (63 : Int32) p4 p5) ((0 : Int32)).toNatClampNeg))])) rfl rfl (hb hby at_186) _ ?_
    refine XS.icmpNo X21.here hx rfl (hb hby at_187) rfl (teq (rfl : ((own_E p1 p2 p3 (63 : Int32) p4 p5) ((0 : Int32)).toNatClampNeg) = ((own_E p1 p2 p3 (63 : Int32) p4 p5) ((0 : Int32)).toNatClampNeg))).2 ?_
    refine XS.aload X21.here hx rfl (hb hby at_190) rfl rfl ?_
    refine XS.iconst X21.here hx rfl (hb hby at_192) ?_
    refine X21.iaload hx (j := (1 : Int32)) (v := (.int ((own_E p1 p2 p3 (63 : Int32) p4 p5) ((1 : Int32)).toNatClampNeg))) (by exact Ar_193.1) (State.isArrayOf_alike hZ.alike Ar_193.2.1) Ar_193.2.2 hin193 hat193 (g := (mkF m 193 #[.val (.int p1), .val (.int p2), .val (.int p3), .val (.int p4), .val (.int p5), .val (.long q6), .second, .val (.int (1 : Int32)), .val (.int (63 : Int32)), .val (.ref b7), .val (.int ((((p4.toUInt32 >>> ((1 : Int32) &&& 31).toUInt32).toInt32) &&& (1073741823 : Int32)) % (3 : Int32))), .val (.int ((own_D p1 p2 p3 (63 : Int32)) (((((p4.toUInt32 >>> ((1 : Int32) &&& 31).toUInt32).toInt32) &&& (1073741823 : Int32)) % (3 : Int32))).toNatClampNeg)), .val (.int ((p5 &&& (2147483647 : Int32)) % (((own_D p1 p2 p3 (63 : Int32)) (((((p4.toUInt32 >>> ((1 : Int32) &&& 31).toUInt32).toInt32) &&& (1073741823 : Int32)) % (3 : Int32))).toNatClampNeg) + (1 : Int32)))), .val (.ref b11), .val (.int ((((own_E p1 p2 p3 (63 : Int32) p4 p5) ((0 : Int32)).toNatClampNeg) + ((own_E p1 p2 p3 (63 : Int32) p4 p5) ((1 : Int32)).toNatClampNeg)) + ((own_E p1 p2 p3 (63 : Int32) p4 p5) ((2 : Int32)).toNatClampNeg))), .val (.ref b16), .val (.ref b19)] [(.int (1 : Int32)), (.ref b19)])) rfl rfl (hb hby at_193) _ ?_
    refine XS.aload X21.here hx rfl (hb hby at_194) rfl rfl ?_
    refine XS.iconst X21.here hx rfl (hb hby at_196) ?_
    refine X21.iaload hx (j := (1 : Int32)) (v := (.int ((own_E p1 p2 p3 (63 : Int32) p4 p5) ((1 : Int32)).toNatClampNeg))) (by exact Ar_197.1) (State.isArrayOf_alike hZ.alike Ar_197.2.1) Ar_197.2.2 hin197 hat197 (g := (mkF m 197 #[.val (.int p1), .val (.int p2), .val (.int p3), .val (.int p4), .val (.int p5), .val (.long q6), .second, .val (.int (1 : Int32)), .val (.int (63 : Int32)), .val (.ref b7), .val (.int ((((p4.toUInt32 >>> ((1 : Int32) &&& 31).toUInt32).toInt32) &&& (1073741823 : Int32)) % (3 : Int32))), .val (.int ((own_D p1 p2 p3 (63 : Int32)) (((((p4.toUInt32 >>> ((1 : Int32) &&& 31).toUInt32).toInt32) &&& (1073741823 : Int32)) % (3 : Int32))).toNatClampNeg)), .val (.int ((p5 &&& (2147483647 : Int32)) % (((own_D p1 p2 p3 (63 : Int32)) (((((p4.toUInt32 >>> ((1 : Int32) &&& 31).toUInt32).toInt32) &&& (1073741823 : Int32)) % (3 : Int32))).toNatClampNeg) + (1 : Int32)))), .val (.ref b11), .val (.int ((((own_E p1 p2 p3 (63 : Int32) p4 p5) ((0 : Int32)).toNatClampNeg) + ((own_E p1 p2 p3 (63 : Int32) p4 p5) ((1 : Int32)).toNatClampNeg)) + ((own_E p1 p2 p3 (63 : Int32) p4 p5) ((2 : Int32)).toNatClampNeg))), .val (.ref b16), .val (.ref b19)] [(.int (1 : Int32)), (.ref b11), (.int ((own_E p1 p2 p3 (63 : Int32) p4 p5) ((1 : Int32)).toNatClampNeg))])) rfl rfl (hb hby at_197) _ ?_
    refine XS.icmpNo X21.here hx rfl (hb hby at_198) rfl (teq (rfl : ((own_E p1 p2 p3 (63 : Int32) p4 p5) ((1 : Int32)).toNatClampNeg) = ((own_E p1 p2 p3 (63 : Int32) p4 p5) ((1 : Int32)).toNatClampNeg))).2 ?_
    refine XS.aload X21.here hx rfl (hb hby at_201) rfl rfl ?_
    refine XS.iconst X21.here hx rfl (hb hby at_203) ?_
    refine X21.iaload hx (j := (2 : Int32)) (v := (.int ((own_E p1 p2 p3 (63 : Int32) p4 p5) ((2 : Int32)).toNatClampNeg))) (by exact Ar_204.1) (State.isArrayOf_alike hZ.alike Ar_204.2.1) Ar_204.2.2 hin204 hat204 (g := (mkF m 204 #[.val (.int p1), .val (.int p2), .val (.int p3), .val (.int p4), .val (.int p5), .val (.long q6), .second, .val (.int (1 : Int32)), .val (.int (63 : Int32)), .val (.ref b7), .val (.int ((((p4.toUInt32 >>> ((1 : Int32) &&& 31).toUInt32).toInt32) &&& (1073741823 : Int32)) % (3 : Int32))), .val (.int ((own_D p1 p2 p3 (63 : Int32)) (((((p4.toUInt32 >>> ((1 : Int32) &&& 31).toUInt32).toInt32) &&& (1073741823 : Int32)) % (3 : Int32))).toNatClampNeg)), .val (.int ((p5 &&& (2147483647 : Int32)) % (((own_D p1 p2 p3 (63 : Int32)) (((((p4.toUInt32 >>> ((1 : Int32) &&& 31).toUInt32).toInt32) &&& (1073741823 : Int32)) % (3 : Int32))).toNatClampNeg) + (1 : Int32)))), .val (.ref b11), .val (.int ((((own_E p1 p2 p3 (63 : Int32) p4 p5) ((0 : Int32)).toNatClampNeg) + ((own_E p1 p2 p3 (63 : Int32) p4 p5) ((1 : Int32)).toNatClampNeg)) + ((own_E p1 p2 p3 (63 : Int32) p4 p5) ((2 : Int32)).toNatClampNeg))), .val (.ref b16), .val (.ref b19)] [(.int (2 : Int32)), (.ref b19)])) rfl rfl (hb hby at_204) _ ?_
    refine XS.aload X21.here hx rfl (hb hby at_205) rfl rfl ?_
    refine XS.iconst X21.here hx rfl (hb hby at_207) ?_
    refine X21.iaload hx (j := (2 : Int32)) (v := (.int ((own_E p1 p2 p3 (63 : Int32) p4 p5) ((2 : Int32)).toNatClampNeg))) (by exact Ar_208.1) (State.isArrayOf_alike hZ.alike Ar_208.2.1) Ar_208.2.2 hin208 hat208 (g := (mkF m 208 #[.val (.int p1), .val (.int p2), .val (.int p3), .val (.int p4), .val (.int p5), .val (.long q6), .second, .val (.int (1 : Int32)), .val (.int (63 : Int32)), .val (.ref b7), .val (.int ((((p4.toUInt32 >>> ((1 : Int32) &&& 31).toUInt32).toInt32) &&& (1073741823 : Int32)) % (3 : Int32))), .val (.int ((own_D p1 p2 p3 (63 : Int32)) (((((p4.toUInt32 >>> ((1 : Int32) &&& 31).toUInt32).toInt32) &&& (1073741823 : Int32)) % (3 : Int32))).toNatClampNeg)), .val (.int ((p5 &&& (2147483647 : Int32)) % (((own_D p1 p2 p3 (63 : Int32)) (((((p4.toUInt32 >>> ((1 : Int32) &&& 31).toUInt32).toInt32) &&& (1073741823 : Int32)) % (3 : Int32))).toNatClampNeg) + (1 : Int32)))), .val (.ref b11), .val (.int ((((own_E p1 p2 p3 (63 : Int32) p4 p5) ((0 : Int32)).toNatClampNeg) + ((own_E p1 p2 p3 (63 : Int32) p4 p5) ((1 : Int32)).toNatClampNeg)) + ((own_E p1 p2 p3 (63 : Int32) p4 p5) ((2 : Int32)).toNatClampNeg))), .val (.ref b16), .val (.ref b19)] [(.int (2 : Int32)), (.ref b11), (.int ((own_E p1 p2 p3 (63 : Int32) p4 p5) ((2 : Int32)).toNatClampNeg))])) rfl rfl (hb hby at_208) _ ?_
    refine XS.icmpNo X21.here hx rfl (hb hby at_209) rfl (teq (rfl : ((own_E p1 p2 p3 (63 : Int32) p4 p5) ((2 : Int32)).toNatClampNeg) = ((own_E p1 p2 p3 (63 : Int32) p4 p5) ((2 : Int32)).toNatClampNeg))).2 ?_
    refine XS.iconst X21.here hx rfl (hb hby at_212) ?_
    refine XS.goto X21.here hx rfl (pc0 := 213) (pc' := 217) rfl (hb hby at_213) (by decide) (by decide) ?_
    exact retN X21 hx (t := .boolean) Bd.returns (by simp) (hb hby at_217) hr
  · show Q0 Z p1 p2 p3 p4 p5 q6 h0 n0 _ T21.heap _
    exact ⟨rfl, N21⟩
set_option maxRecDepth 65536 in
set_option maxHeartbeats 40000000 in
theorem rm0_1 (l : Launch) (Z : State) (a0 : Array Value) (hw : ∀ d ∈ tables_1, d.before a0 Z = true) (ws : List Jvm.Cond) (p1 : Int32) (p2 : Int32) (p3 : Int32) (p4 : Int32) (p5 : Int32) (q6 : Int64) (h0 : Heap) (n0 : Nat) (Z0 : n0 ≤ h0.size) (hc3 : (p4 &&& (1 : Int32)) = (0 : Int32)) (hnz82 : ¬ ((((own_D p1 p2 p3 (536870911 : Int32)) (((((p4.toUInt32 >>> ((1 : Int32) &&& 31).toUInt32).toInt32) &&& (1073741823 : Int32)) % (3 : Int32))).toNatClampNeg) + (1 : Int32)) = (0 : Int32))) :
    MetFree l x (head1 (Jvm.Cond.code x code maxLocals ret :: ws) room_1) (fun a U => a = #[(.int p1), (.int p2), (.int p3), (.int p4), (.int p5), (.long q6)] ∧ Z.Warmed39 U.vm ∧ U.heap = h0) (fun _ _ _ _ _ => True) (fun _ U o U' => ∃ v L, o = .returned v ∧ Q0 Z p1 p2 p3 p4 p5 q6 h0 n0 v U'.heap L ∧ FrameEnd U o U' L room_1.cells room_1.slots) := by
  refine MetFree.of_bodySF (plainFor_of_name pn_0) hisR ?_
  intro p e s m args below meth c s₁ Bd hml0 hP hK
  obtain ⟨rfl, hZ, hh⟩ := hP
  have hx := Bd.exec
  have hby := Bd.bytes
  have hml : c.maxLocals = 17 := hml0
  have hown : s.vm.findClass "com/example/binario/binario/rules/PassengerBagRemovePinLaw" = some m.cls := findClass_of_methodNamed Bd.named
  have hnm := (name_of_methodNamed Bd.named Bd.method).1
  have X0 : Stand p l e room_1 s m #[(.int p1), (.int p2), (.int p3), (.int p4), (.int p5), (.long q6)] below meth c s₁ [] 0 0 := Stand.of_body Bd
  have e0 : s₁.heap = h0 := by rw [← hh, Bd.state]; rfl
  have N0 := Fr.nil n0
  have pre0 : ∀ t, Steps p.tables e below (s₁.setTop (mkF m 0 #[.val (.int p1), .val (.int p2), .val (.int p3), .val (.int p4), .val (.int p5), .val (.long q6), .second, .unset, .unset, .unset, .unset, .unset, .unset, .unset, .unset, .unset, .unset] [])) t → Steps p.tables e below (s₁.setTop (entryFrame m #[(.int p1), (.int p2), (.int p3), (.int p4), (.int p5), (.long q6)] maxLocals)) t := fun t k => castTop (ef_0 m p1 p2 p3 p4 p5 q6) k
  have okD : own_ok3 (own_D p1 p2 p3 (536870911 : Int32)) := own_okD own_m29
  obtain ⟨hslot, hsl3⟩ := own_slb p4
  obtain ⟨hnz, hc0, hc1⟩ := own_cnb (p5 := p5) (own_bd2 (p1 := p1) (p2 := p2) (p3 := p3) own_m29 hsl3)
  obtain ⟨okE, hsE, heq⟩ := own_rem _ hsl3 okD hc0 hc1
  obtain ⟨T7, h7, k7, X7, e7, E7, A7, Ex7, st7⟩ := newPE X0 hx hZ (ww hw 0 rfl) e0 (g := (mkF m 28 #[.val (.int p1), .val (.int p2), .val (.int p3), .val (.int p4), .val (.int p5), .val (.long q6), .second, .val (.int (0 : Int32)), .val (.int (536870911 : Int32)), .unset, .unset, .unset, .unset, .unset, .unset, .unset, .unset] [(.int (3 : Int32))])) rfl (hb hby at_28) rfl (by decide) (cap := 3) (by decide) (by decide) (by decide) (by decide) (ad := "[I") rfl
  obtain ⟨b7, g7⟩ : ∃ z, z = h0.size := ⟨_, rfl⟩
  rw [← g7] at A7 Ex7 st7
  have V_b7 := own_AI.of (Arv.new A7 (by decide))
  have E_b7 := Ex7
  have g_b7 : n0 ≤ b7 := Nat.le_trans Z0 (Nat.le_of_eq g7.symm)
  have sz_b7 : h0.size ≤ b7 := (Nat.le_trans (Keep.refl h0 []).1 (Nat.le_of_eq g7.symm))
  have K7 : Keep h0 h7 [] := (Keep.refl h0 []).ext E7
  obtain ⟨cl_39, Ar_39, S_39, H_39⟩ := id (V_b7)
  have hin39 : ¬ ((0 : Int32) < 0 ∨ cl_39.slots.size ≤ ((0 : Int32)).toNatClampNeg) := inb_of S_39 ⟨by decide, by decide⟩
  obtain ⟨T8, h8, X8, e8, W8, st8⟩ := stI X7 hx hZ e7 Ar_39 (j := (0 : Int32)) hin39 (g := (mkF m 39 #[.val (.int p1), .val (.int p2), .val (.int p3), .val (.int p4), .val (.int p5), .val (.long q6), .second, .val (.int (0 : Int32)), .val (.int (536870911 : Int32)), .val (.ref b7), .unset, .unset, .unset, .unset, .unset, .unset, .unset] [(.int (p1 &&& (536870911 : Int32))), (.int (0 : Int32)), (.ref b7)])) rfl rfl (hb hby at_39)
  have V_b7_8 := own_AI.put Ar_39 S_39 H_39 W8
  have K8 : Keep h0 h8 [] := K7.wr W8 (Or.inr sz_b7)
  have N8 := Fr.snoc X8 N0 g_b7
  obtain ⟨cl_47, Ar_47, S_47, H_47⟩ := id (V_b7_8)
  have hin47 : ¬ ((1 : Int32) < 0 ∨ cl_47.slots.size ≤ ((1 : Int32)).toNatClampNeg) := inb_of S_47 ⟨by decide, by decide⟩
  obtain ⟨T9, h9, X9, e9, W9, st9⟩ := stI X8 hx hZ e8 Ar_47 (j := (1 : Int32)) hin47 (g := (mkF m 47 #[.val (.int p1), .val (.int p2), .val (.int p3), .val (.int p4), .val (.int p5), .val (.long q6), .second, .val (.int (0 : Int32)), .val (.int (536870911 : Int32)), .val (.ref b7), .unset, .unset, .unset, .unset, .unset, .unset, .unset] [(.int (p2 &&& (536870911 : Int32))), (.int (1 : Int32)), (.ref b7)])) rfl rfl (hb hby at_47)
  have V_b7_9 := own_AI.put Ar_47 S_47 H_47 W9
  have K9 : Keep h0 h9 [] := K8.wr W9 (Or.inr sz_b7)
  have N9 := Fr.snoc X9 N8 g_b7
  obtain ⟨cl_55, Ar_55, S_55, H_55⟩ := id (V_b7_9)
  have hin55 : ¬ ((2 : Int32) < 0 ∨ cl_55.slots.size ≤ ((2 : Int32)).toNatClampNeg) := inb_of S_55 ⟨by decide, by decide⟩
  obtain ⟨T10, h10, X10, e10, W10, st10⟩ := stI X9 hx hZ e9 Ar_55 (j := (2 : Int32)) hin55 (g := (mkF m 55 #[.val (.int p1), .val (.int p2), .val (.int p3), .val (.int p4), .val (.int p5), .val (.long q6), .second, .val (.int (0 : Int32)), .val (.int (536870911 : Int32)), .val (.ref b7), .unset, .unset, .unset, .unset, .unset, .unset, .unset] [(.int (p3 &&& (536870911 : Int32))), (.int (2 : Int32)), (.ref b7)])) rfl rfl (hb hby at_55)
  have V_b7_10 := own_AI.put Ar_55 S_55 H_55 W10
  have V_b7_10 : own_AI Z h10 b7 (3 : Int32) (own_D p1 p2 p3 (536870911 : Int32)) := V_b7_10
  have K10 : Keep h0 h10 [] := K9.wr W10 (Or.inr sz_b7)
  have N10 := Fr.snoc X10 N9 g_b7
  obtain ⟨cl_70, Ar_70, S_70, H_70⟩ := id (V_b7_10)
  have hin70 : ¬ (((((p4.toUInt32 >>> ((1 : Int32) &&& 31).toUInt32).toInt32) &&& (1073741823 : Int32)) % (3 : Int32)) < 0 ∨ cl_70.slots.size ≤ (((((p4.toUInt32 >>> ((1 : Int32) &&& 31).toUInt32).toInt32) &&& (1073741823 : Int32)) % (3 : Int32))).toNatClampNeg) := inb_of S_70 hslot
  have hat70 := H_70 _ (own_inb hin70)
  obtain ⟨T11, h11, k11, X11, e11, E11, A11, Ex11, st11⟩ := newPE X10 hx hZ (ww hw 0 rfl) e10 (g := (mkF m 86 #[.val (.int p1), .val (.int p2), .val (.int p3), .val (.int p4), .val (.int p5), .val (.long q6), .second, .val (.int (0 : Int32)), .val (.int (536870911 : Int32)), .val (.ref b7), .val (.int ((((p4.toUInt32 >>> ((1 : Int32) &&& 31).toUInt32).toInt32) &&& (1073741823 : Int32)) % (3 : Int32))), .val (.int ((own_D p1 p2 p3 (536870911 : Int32)) (((((p4.toUInt32 >>> ((1 : Int32) &&& 31).toUInt32).toInt32) &&& (1073741823 : Int32)) % (3 : Int32))).toNatClampNeg)), .val (.int ((p5 &&& (2147483647 : Int32)) % (((own_D p1 p2 p3 (536870911 : Int32)) (((((p4.toUInt32 >>> ((1 : Int32) &&& 31).toUInt32).toInt32) &&& (1073741823 : Int32)) % (3 : Int32))).toNatClampNeg) + (1 : Int32)))), .unset, .unset, .unset, .unset] [(.int (3 : Int32))])) rfl (hb hby at_86) rfl (by decide) (cap := 3) (by decide) (by decide) (by decide) (by decide) (ad := "[I") rfl
  obtain ⟨b11, g11⟩ : ∃ z, z = h10.size := ⟨_, rfl⟩
  rw [← g11] at A11 Ex11 st11
  have V_b11 := own_AI.of (Arv.new A11 (by decide))
  have E_b11 := Ex11
  have g_b11 : n0 ≤ b11 := Nat.le_trans (Nat.le_trans (Nat.le_trans (Nat.le_trans (Nat.le_trans Z0 E7.1) (Keep.of_wr W8).1) (Keep.of_wr W9).1) (Keep.of_wr W10).1) (Nat.le_of_eq g11.symm)
  have sz_b11 : h0.size ≤ b11 := (Nat.le_trans K10.1 (Nat.le_of_eq g11.symm))
  have K11 : Keep h0 h11 [] := K10.ext E11
  obtain ⟨cl_96, Ar_96, S_96, H_96⟩ := id ((V_b7_10.ext E11))
  have hin96 : ¬ ((0 : Int32) < 0 ∨ cl_96.slots.size ≤ ((0 : Int32)).toNatClampNeg) := inb_of S_96 ⟨by decide, by decide⟩
  have hat96 := H_96 _ (own_inb hin96)
  obtain ⟨cl_97, Ar_97, S_97, H_97⟩ := id (V_b11)
  have hin97 : ¬ ((0 : Int32) < 0 ∨ cl_97.slots.size ≤ ((0 : Int32)).toNatClampNeg) := inb_of S_97 ⟨by decide, by decide⟩
  obtain ⟨T12, h12, X12, e12, W12, st12⟩ := stI X11 hx hZ e11 Ar_97 (j := (0 : Int32)) hin97 (g := (mkF m 97 #[.val (.int p1), .val (.int p2), .val (.int p3), .val (.int p4), .val (.int p5), .val (.long q6), .second, .val (.int (0 : Int32)), .val (.int (536870911 : Int32)), .val (.ref b7), .val (.int ((((p4.toUInt32 >>> ((1 : Int32) &&& 31).toUInt32).toInt32) &&& (1073741823 : Int32)) % (3 : Int32))), .val (.int ((own_D p1 p2 p3 (536870911 : Int32)) (((((p4.toUInt32 >>> ((1 : Int32) &&& 31).toUInt32).toInt32) &&& (1073741823 : Int32)) % (3 : Int32))).toNatClampNeg)), .val (.int ((p5 &&& (2147483647 : Int32)) % (((own_D p1 p2 p3 (536870911 : Int32)) (((((p4.toUInt32 >>> ((1 : Int32) &&& 31).toUInt32).toInt32) &&& (1073741823 : Int32)) % (3 : Int32))).toNatClampNeg) + (1 : Int32)))), .val (.ref b11), .unset, .unset, .unset] [(.int ((own_D p1 p2 p3 (536870911 : Int32)) ((0 : Int32)).toNatClampNeg)), (.int (0 : Int32)), (.ref b11)])) rfl rfl (hb hby at_97)
  have V_b11_12 := own_AI.put Ar_97 S_97 H_97 W12
  have K12 : Keep h0 h12 [] := K11.wr W12 (Or.inr sz_b11)
  have N12 := Fr.snoc X12 N10 g_b11
  obtain ⟨cl_104, Ar_104, S_104, H_104⟩ := id (((V_b7_10.ext E11).other W12 (Nat.ne_of_lt (Nat.lt_of_lt_of_le V_b7_10.lt (Nat.le_of_eq g11.symm)))))
  have hin104 : ¬ ((1 : Int32) < 0 ∨ cl_104.slots.size ≤ ((1 : Int32)).toNatClampNeg) := inb_of S_104 ⟨by decide, by decide⟩
  have hat104 := H_104 _ (own_inb hin104)
  obtain ⟨cl_105, Ar_105, S_105, H_105⟩ := id (V_b11_12)
  have hin105 : ¬ ((1 : Int32) < 0 ∨ cl_105.slots.size ≤ ((1 : Int32)).toNatClampNeg) := inb_of S_105 ⟨by decide, by decide⟩
  obtain ⟨T13, h13, X13, e13, W13, st13⟩ := stI X12 hx hZ e12 Ar_105 (j := (1 : Int32)) hin105 (g := (mkF m 105 #[.val (.int p1), .val (.int p2), .val (.int p3), .val (.int p4), .val (.int p5), .val (.long q6), .second, .val (.int (0 : Int32)), .val (.int (536870911 : Int32)), .val (.ref b7), .val (.int ((((p4.toUInt32 >>> ((1 : Int32) &&& 31).toUInt32).toInt32) &&& (1073741823 : Int32)) % (3 : Int32))), .val (.int ((own_D p1 p2 p3 (536870911 : Int32)) (((((p4.toUInt32 >>> ((1 : Int32) &&& 31).toUInt32).toInt32) &&& (1073741823 : Int32)) % (3 : Int32))).toNatClampNeg)), .val (.int ((p5 &&& (2147483647 : Int32)) % (((own_D p1 p2 p3 (536870911 : Int32)) (((((p4.toUInt32 >>> ((1 : Int32) &&& 31).toUInt32).toInt32) &&& (1073741823 : Int32)) % (3 : Int32))).toNatClampNeg) + (1 : Int32)))), .val (.ref b11), .unset, .unset, .unset] [(.int ((own_D p1 p2 p3 (536870911 : Int32)) ((1 : Int32)).toNatClampNeg)), (.int (1 : Int32)), (.ref b11)])) rfl rfl (hb hby at_105)
  have V_b11_13 := own_AI.put Ar_105 S_105 H_105 W13
  have K13 : Keep h0 h13 [] := K12.wr W13 (Or.inr sz_b11)
  have N13 := Fr.snoc X13 N12 g_b11
  obtain ⟨cl_112, Ar_112, S_112, H_112⟩ := id ((((V_b7_10.ext E11).other W12 (Nat.ne_of_lt (Nat.lt_of_lt_of_le V_b7_10.lt (Nat.le_of_eq g11.symm)))).other W13 (Nat.ne_of_lt (Nat.lt_of_lt_of_le V_b7_10.lt (Nat.le_of_eq g11.symm)))))
  have hin112 : ¬ ((2 : Int32) < 0 ∨ cl_112.slots.size ≤ ((2 : Int32)).toNatClampNeg) := inb_of S_112 ⟨by decide, by decide⟩
  have hat112 := H_112 _ (own_inb hin112)
  obtain ⟨cl_113, Ar_113, S_113, H_113⟩ := id (V_b11_13)
  have hin113 : ¬ ((2 : Int32) < 0 ∨ cl_113.slots.size ≤ ((2 : Int32)).toNatClampNeg) := inb_of S_113 ⟨by decide, by decide⟩
  obtain ⟨T14, h14, X14, e14, W14, st14⟩ := stI X13 hx hZ e13 Ar_113 (j := (2 : Int32)) hin113 (g := (mkF m 113 #[.val (.int p1), .val (.int p2), .val (.int p3), .val (.int p4), .val (.int p5), .val (.long q6), .second, .val (.int (0 : Int32)), .val (.int (536870911 : Int32)), .val (.ref b7), .val (.int ((((p4.toUInt32 >>> ((1 : Int32) &&& 31).toUInt32).toInt32) &&& (1073741823 : Int32)) % (3 : Int32))), .val (.int ((own_D p1 p2 p3 (536870911 : Int32)) (((((p4.toUInt32 >>> ((1 : Int32) &&& 31).toUInt32).toInt32) &&& (1073741823 : Int32)) % (3 : Int32))).toNatClampNeg)), .val (.int ((p5 &&& (2147483647 : Int32)) % (((own_D p1 p2 p3 (536870911 : Int32)) (((((p4.toUInt32 >>> ((1 : Int32) &&& 31).toUInt32).toInt32) &&& (1073741823 : Int32)) % (3 : Int32))).toNatClampNeg) + (1 : Int32)))), .val (.ref b11), .unset, .unset, .unset] [(.int ((own_D p1 p2 p3 (536870911 : Int32)) ((2 : Int32)).toNatClampNeg)), (.int (2 : Int32)), (.ref b11)])) rfl rfl (hb hby at_113)
  have V_b11_14 := own_AI.put Ar_113 S_113 H_113 W14
  have V_b11_14 : own_AI Z h14 b11 (3 : Int32) (own_D p1 p2 p3 (536870911 : Int32)) := own_AI.cong V_b11_14 (own_c3 rfl rfl rfl)
  have K14 : Keep h0 h14 [] := K13.wr W14 (Or.inr sz_b11)
  have N14 := Fr.snoc X14 N13 g_b11
  obtain ⟨cl_123, Ar_123, S_123, H_123⟩ := id (V_b11_14)
  have hin123 : ¬ (((((p4.toUInt32 >>> ((1 : Int32) &&& 31).toUInt32).toInt32) &&& (1073741823 : Int32)) % (3 : Int32)) < 0 ∨ cl_123.slots.size ≤ (((((p4.toUInt32 >>> ((1 : Int32) &&& 31).toUInt32).toInt32) &&& (1073741823 : Int32)) % (3 : Int32))).toNatClampNeg) := inb_of S_123 hslot
  obtain ⟨T15, h15, X15, e15, W15, st15⟩ := stI X14 hx hZ e14 Ar_123 (j := ((((p4.toUInt32 >>> ((1 : Int32) &&& 31).toUInt32).toInt32) &&& (1073741823 : Int32)) % (3 : Int32))) hin123 (g := (mkF m 123 #[.val (.int p1), .val (.int p2), .val (.int p3), .val (.int p4), .val (.int p5), .val (.long q6), .second, .val (.int (0 : Int32)), .val (.int (536870911 : Int32)), .val (.ref b7), .val (.int ((((p4.toUInt32 >>> ((1 : Int32) &&& 31).toUInt32).toInt32) &&& (1073741823 : Int32)) % (3 : Int32))), .val (.int ((own_D p1 p2 p3 (536870911 : Int32)) (((((p4.toUInt32 >>> ((1 : Int32) &&& 31).toUInt32).toInt32) &&& (1073741823 : Int32)) % (3 : Int32))).toNatClampNeg)), .val (.int ((p5 &&& (2147483647 : Int32)) % (((own_D p1 p2 p3 (536870911 : Int32)) (((((p4.toUInt32 >>> ((1 : Int32) &&& 31).toUInt32).toInt32) &&& (1073741823 : Int32)) % (3 : Int32))).toNatClampNeg) + (1 : Int32)))), .val (.ref b11), .unset, .unset, .unset] [(.int (((own_D p1 p2 p3 (536870911 : Int32)) (((((p4.toUInt32 >>> ((1 : Int32) &&& 31).toUInt32).toInt32) &&& (1073741823 : Int32)) % (3 : Int32))).toNatClampNeg) - ((p5 &&& (2147483647 : Int32)) % (((own_D p1 p2 p3 (536870911 : Int32)) (((((p4.toUInt32 >>> ((1 : Int32) &&& 31).toUInt32).toInt32) &&& (1073741823 : Int32)) % (3 : Int32))).toNatClampNeg) + (1 : Int32))))), (.int ((((p4.toUInt32 >>> ((1 : Int32) &&& 31).toUInt32).toInt32) &&& (1073741823 : Int32)) % (3 : Int32))), (.ref b11)])) rfl rfl (hb hby at_123)
  have V_b11_15 := own_AI.put Ar_123 S_123 H_123 W15
  have V_b11_15 : own_AI Z h15 b11 (3 : Int32) (own_E p1 p2 p3 (536870911 : Int32) p4 p5) := V_b11_15
  have K15 : Keep h0 h15 [] := K14.wr W15 (Or.inr sz_b11)
  have N15 := Fr.snoc X15 N14 g_b11
  obtain ⟨cl_127, Ar_127, S_127, H_127⟩ := id (V_b11_15)
  have hin127 : ¬ ((0 : Int32) < 0 ∨ cl_127.slots.size ≤ ((0 : Int32)).toNatClampNeg) := inb_of S_127 ⟨by decide, by decide⟩
  have hat127 := H_127 _ (own_inb hin127)
  obtain ⟨cl_131, Ar_131, S_131, H_131⟩ := id (V_b11_15)
  have hin131 : ¬ ((1 : Int32) < 0 ∨ cl_131.slots.size ≤ ((1 : Int32)).toNatClampNeg) := inb_of S_131 ⟨by decide, by decide⟩
  have hat131 := H_131 _ (own_inb hin131)
  obtain ⟨cl_136, Ar_136, S_136, H_136⟩ := id (V_b11_15)
  have hin136 : ¬ ((2 : Int32) < 0 ∨ cl_136.slots.size ≤ ((2 : Int32)).toNatClampNeg) := inb_of S_136 ⟨by decide, by decide⟩
  have hat136 := H_136 _ (own_inb hin136)
  obtain ⟨T16, h16, X16, e16, E16, A16, D16, -, st16⟩ := newO X15 hx hZ hown (ww hw 3 rfl) (ww hw 4 rfl) (ww hw 5 rfl) e15 (g := (mkF m 140 #[.val (.int p1), .val (.int p2), .val (.int p3), .val (.int p4), .val (.int p5), .val (.long q6), .second, .val (.int (0 : Int32)), .val (.int (536870911 : Int32)), .val (.ref b7), .val (.int ((((p4.toUInt32 >>> ((1 : Int32) &&& 31).toUInt32).toInt32) &&& (1073741823 : Int32)) % (3 : Int32))), .val (.int ((own_D p1 p2 p3 (536870911 : Int32)) (((((p4.toUInt32 >>> ((1 : Int32) &&& 31).toUInt32).toInt32) &&& (1073741823 : Int32)) % (3 : Int32))).toNatClampNeg)), .val (.int ((p5 &&& (2147483647 : Int32)) % (((own_D p1 p2 p3 (536870911 : Int32)) (((((p4.toUInt32 >>> ((1 : Int32) &&& 31).toUInt32).toInt32) &&& (1073741823 : Int32)) % (3 : Int32))).toNatClampNeg) + (1 : Int32)))), .val (.ref b11), .val (.int ((((own_E p1 p2 p3 (536870911 : Int32) p4 p5) ((0 : Int32)).toNatClampNeg) + ((own_E p1 p2 p3 (536870911 : Int32) p4 p5) ((1 : Int32)).toNatClampNeg)) + ((own_E p1 p2 p3 (536870911 : Int32) p4 p5) ((2 : Int32)).toNatClampNeg))), .unset, .unset] [])) rfl (hb hby at_140) (by decide) (by decide)
  obtain ⟨b16, g16⟩ : ∃ z, z = h15.size := ⟨_, rfl⟩
  rw [← g16] at A16 D16 st16
  have F_counts_b16 : Fld Z h16 b16 "com/example/binario/binario/rules/PassengerBag" "counts" "[I" .null := D16 (Or.inr (ww hw 22 rfl)) (ty := (.array .int)) (by decide)
  have F_left_b16 : Fld Z h16 b16 "com/example/binario/binario/rules/PassengerBag" "left" "I" (.int (0 : Int32)) := D16 (Or.inl (ww hw 24 rfl)) (ty := .int) (by decide)
  have E_b16 := A16
  have g_b16 : n0 ≤ b16 := Nat.le_trans (Nat.le_trans (Nat.le_trans (Nat.le_trans (Nat.le_trans (Nat.le_trans (Nat.le_trans (Nat.le_trans (Nat.le_trans (Nat.le_trans Z0 E7.1) (Keep.of_wr W8).1) (Keep.of_wr W9).1) (Keep.of_wr W10).1) E11.1) (Keep.of_wr W12).1) (Keep.of_wr W13).1) (Keep.of_wr W14).1) (Keep.of_wr W15).1) (Nat.le_of_eq g16.symm)
  have sz_b16 : h0.size ≤ b16 := (Nat.le_trans K15.1 (Nat.le_of_eq g16.symm))
  have K16 : Keep h0 h16 [] := K15.ext E16
  obtain ⟨_, _, ⟨T17, L17, k17, n17⟩, -, X17, ⟨Lc17, hQ17, l17, y17, z17⟩, st17⟩ := X16.specialBack hx (y := (⟨"com/example/binario/binario/rules/PassengerBag", "<init>", "([I)V"⟩ : MethodName)) rfl hown (mvT hZ (ww hw 6 rfl)) (mvT hZ (ww hw 7 rfl)) (mvT hZ (ww hw 8 rfl)) (by decide) (backOf (W := 1) (rm1 l Z a0 hw [] b16 b7 (own_D p1 p2 p3 (536870911 : Int32)) _ h16 n0 (Nat.le_trans (Nat.le_trans (Nat.le_trans (Nat.le_trans (Nat.le_trans (Nat.le_trans (Nat.le_trans (Nat.le_trans (Nat.le_trans (Nat.le_trans Z0 E7.1) (Keep.of_wr W8).1) (Keep.of_wr W9).1) (Keep.of_wr W10).1) E11.1) (Keep.of_wr W12).1) (Keep.of_wr W13).1) (Keep.of_wr W14).1) (Keep.of_wr W15).1) E16.1) E_b16 F_counts_b16 F_left_b16 (((((((((E_b7.wr W8).wr W9).wr W10).ext E11).wr W12).wr W13).wr W14).wr W15).ext E16) ((((((V_b7_10.ext E11).other W12 (Nat.ne_of_lt (Nat.lt_of_lt_of_le V_b7_10.lt (Nat.le_of_eq g11.symm)))).other W13 (Nat.ne_of_lt (Nat.lt_of_lt_of_le V_b7_10.lt (Nat.le_of_eq g11.symm)))).other W14 (Nat.ne_of_lt (Nat.lt_of_lt_of_le V_b7_10.lt (Nat.le_of_eq g11.symm)))).other W15 (Nat.ne_of_lt (Nat.lt_of_lt_of_le V_b7_10.lt (Nat.le_of_eq g11.symm)))).ext E16) g_b16 (Ne.symm (Nat.ne_of_lt (Nat.lt_of_lt_of_le (((((V_b7_10.ext E11).other W12 (Nat.ne_of_lt (Nat.lt_of_lt_of_le V_b7_10.lt (Nat.le_of_eq g11.symm)))).other W13 (Nat.ne_of_lt (Nat.lt_of_lt_of_le V_b7_10.lt (Nat.le_of_eq g11.symm)))).other W14 (Nat.ne_of_lt (Nat.lt_of_lt_of_le V_b7_10.lt (Nat.le_of_eq g11.symm)))).other W15 (Nat.ne_of_lt (Nat.lt_of_lt_of_le V_b7_10.lt (Nat.le_of_eq g11.symm)))).lt (Nat.le_of_eq g16.symm)))) okD) hZ (ww hw 8 rfl) (ww hw 5 rfl) (by decide) (by decide)) (g := (mkF m 146 #[.val (.int p1), .val (.int p2), .val (.int p3), .val (.int p4), .val (.int p5), .val (.long q6), .second, .val (.int (0 : Int32)), .val (.int (536870911 : Int32)), .val (.ref b7), .val (.int ((((p4.toUInt32 >>> ((1 : Int32) &&& 31).toUInt32).toInt32) &&& (1073741823 : Int32)) % (3 : Int32))), .val (.int ((own_D p1 p2 p3 (536870911 : Int32)) (((((p4.toUInt32 >>> ((1 : Int32) &&& 31).toUInt32).toInt32) &&& (1073741823 : Int32)) % (3 : Int32))).toNatClampNeg)), .val (.int ((p5 &&& (2147483647 : Int32)) % (((own_D p1 p2 p3 (536870911 : Int32)) (((((p4.toUInt32 >>> ((1 : Int32) &&& 31).toUInt32).toInt32) &&& (1073741823 : Int32)) % (3 : Int32))).toNatClampNeg) + (1 : Int32)))), .val (.ref b11), .val (.int ((((own_E p1 p2 p3 (536870911 : Int32) p4 p5) ((0 : Int32)).toNatClampNeg) + ((own_E p1 p2 p3 (536870911 : Int32) p4 p5) ((1 : Int32)).toNatClampNeg)) + ((own_E p1 p2 p3 (536870911 : Int32) p4 p5) ((2 : Int32)).toNatClampNeg))), .unset, .unset] [(.ref b7), (.ref b16), (.ref b16)])) rfl (by rw [hml]; rfl) (Steps.refl _) (a := b16) (argsL := [(.ref b7)]) (rest := [(.ref b16)]) (lenOf pd_0_0 rfl) rfl (by show 2 * 0 + _ ≤ _; exact Nat.le_of_eq rfl) (hb hby at_146) (fun _ _ => ⟨rfl, e16, (by decide : 3 + 1 ≤ _), (by decide : 8 + 3 ≤ _)⟩)
  dsimp only [Pt.U, Pt.locs, Pt.cells, Pt.slots] at X17 l17 y17 z17 st17 hQ17
  subst l17 y17 z17
  obtain ⟨ca17, rfl, N17q, Kc17, hc17, Fc17, Fl17, Vc17⟩ := hQ17
  have N17 := Fr.app N15 N17q
  have g_ca17 : n0 ≤ ca17 := Nat.le_trans (Nat.le_trans (Nat.le_trans (Nat.le_trans (Nat.le_trans (Nat.le_trans (Nat.le_trans (Nat.le_trans (Nat.le_trans (Nat.le_trans (Nat.le_trans Z0 E7.1) (Keep.of_wr W8).1) (Keep.of_wr W9).1) (Keep.of_wr W10).1) E11.1) (Keep.of_wr W12).1) (Keep.of_wr W13).1) (Keep.of_wr W14).1) (Keep.of_wr W15).1) E16.1) hc17
  have sz_ca17 : h0.size ≤ ca17 := Nat.le_trans K16.1 hc17
  have K17 : Keep h0 T17.heap [] := K16.trans Kc17 (allS (Or.inr sz_b16) all0)
  obtain ⟨cq18, kq18, q18a, q18b, q18c⟩ := isOf hZ rfl (E_b16.keep Kc17)
  obtain ⟨_, _, ⟨T18, L18, k18, n18⟩, -, X18, ⟨Lc18, hQ18, l18, y18, z18⟩, st18⟩ := X17.virtualBack hx (y := (⟨"com/example/binario/binario/rules/PassengerBag", "remove", "(II)V"⟩ : MethodName)) (z := (⟨"com/example/binario/binario/rules/PassengerBag", "remove", "(II)V"⟩ : MethodName)) hown (mvT hZ (ww hw 29 rfl)) (mvT hZ (ww hw 30 rfl)) (notFace_of_selects (args := #[]) (mvT hZ (ww hw 32 rfl))) (mvT hZ (ww hw 32 rfl)) (mvT hZ (ww hw 31 rfl)) (by decide) (backOf (W := 0) (rm4 l Z a0 hw [] b16 ((((p4.toUInt32 >>> ((1 : Int32) &&& 31).toUInt32).toInt32) &&& (1073741823 : Int32)) % (3 : Int32)) ((p5 &&& (2147483647 : Int32)) % (((own_D p1 p2 p3 (536870911 : Int32)) (((((p4.toUInt32 >>> ((1 : Int32) &&& 31).toUInt32).toInt32) &&& (1073741823 : Int32)) % (3 : Int32))).toNatClampNeg) + (1 : Int32))) ca17 _ (own_D p1 p2 p3 (536870911 : Int32)) T17.heap n0 (Nat.le_trans (Nat.le_trans (Nat.le_trans (Nat.le_trans (Nat.le_trans (Nat.le_trans (Nat.le_trans (Nat.le_trans (Nat.le_trans (Nat.le_trans (Nat.le_trans Z0 E7.1) (Keep.of_wr W8).1) (Keep.of_wr W9).1) (Keep.of_wr W10).1) E11.1) (Keep.of_wr W12).1) (Keep.of_wr W13).1) (Keep.of_wr W14).1) (Keep.of_wr W15).1) E16.1) Kc17.1) (E_b16.keep Kc17) Fc17 Fl17 Vc17 g_b16 g_ca17 (Nat.ne_of_lt (Nat.lt_of_lt_of_le E_b16.lt hc17)) hslot) hZ (ww hw 33 rfl) (ww hw 5 rfl) (by decide) (by decide)) q18a q18c (g := (mkF m 157 #[.val (.int p1), .val (.int p2), .val (.int p3), .val (.int p4), .val (.int p5), .val (.long q6), .second, .val (.int (0 : Int32)), .val (.int (536870911 : Int32)), .val (.ref b7), .val (.int ((((p4.toUInt32 >>> ((1 : Int32) &&& 31).toUInt32).toInt32) &&& (1073741823 : Int32)) % (3 : Int32))), .val (.int ((own_D p1 p2 p3 (536870911 : Int32)) (((((p4.toUInt32 >>> ((1 : Int32) &&& 31).toUInt32).toInt32) &&& (1073741823 : Int32)) % (3 : Int32))).toNatClampNeg)), .val (.int ((p5 &&& (2147483647 : Int32)) % (((own_D p1 p2 p3 (536870911 : Int32)) (((((p4.toUInt32 >>> ((1 : Int32) &&& 31).toUInt32).toInt32) &&& (1073741823 : Int32)) % (3 : Int32))).toNatClampNeg) + (1 : Int32)))), .val (.ref b11), .val (.int ((((own_E p1 p2 p3 (536870911 : Int32) p4 p5) ((0 : Int32)).toNatClampNeg) + ((own_E p1 p2 p3 (536870911 : Int32) p4 p5) ((1 : Int32)).toNatClampNeg)) + ((own_E p1 p2 p3 (536870911 : Int32) p4 p5) ((2 : Int32)).toNatClampNeg))), .val (.ref b16), .unset] [(.int ((p5 &&& (2147483647 : Int32)) % (((own_D p1 p2 p3 (536870911 : Int32)) (((((p4.toUInt32 >>> ((1 : Int32) &&& 31).toUInt32).toInt32) &&& (1073741823 : Int32)) % (3 : Int32))).toNatClampNeg) + (1 : Int32)))), (.int ((((p4.toUInt32 >>> ((1 : Int32) &&& 31).toUInt32).toInt32) &&& (1073741823 : Int32)) % (3 : Int32))), (.ref b16)])) rfl (by rw [hml]; rfl) (Steps.refl _) (argsL := [(.int ((((p4.toUInt32 >>> ((1 : Int32) &&& 31).toUInt32).toInt32) &&& (1073741823 : Int32)) % (3 : Int32))), (.int ((p5 &&& (2147483647 : Int32)) % (((own_D p1 p2 p3 (536870911 : Int32)) (((((p4.toUInt32 >>> ((1 : Int32) &&& 31).toUInt32).toInt32) &&& (1073741823 : Int32)) % (3 : Int32))).toNatClampNeg) + (1 : Int32))))]) (rest := []) (lenOf pd_0_4 rfl) rfl (by show 2 * 0 + _ ≤ _; exact Nat.le_of_eq rfl) (hb hby at_157) (fun _ _ => ⟨rfl, rfl, (by decide : 4 + 0 ≤ _), (by decide : 11 + 0 ≤ _)⟩)
  dsimp only [Pt.U, Pt.locs, Pt.cells, Pt.slots] at X18 l18 y18 z18 st18 hQ18
  subst l18 y18 z18
  obtain ⟨rfl, N18q, Kc18, Fc18, Fl18, Vc18⟩ := hQ18
  have N18 := Fr.app N17 N18q
  have K18 : Keep h0 T18.heap [] := K17.trans Kc18 (allS (Or.inr sz_b16) (allS (Or.inr sz_ca17) all0))
  obtain ⟨T19, h19, k19, X19, e19, E19, A19, Ex19, st19⟩ := newPE X18 hx hZ (ww hw 0 rfl) rfl (g := (mkF m 161 #[.val (.int p1), .val (.int p2), .val (.int p3), .val (.int p4), .val (.int p5), .val (.long q6), .second, .val (.int (0 : Int32)), .val (.int (536870911 : Int32)), .val (.ref b7), .val (.int ((((p4.toUInt32 >>> ((1 : Int32) &&& 31).toUInt32).toInt32) &&& (1073741823 : Int32)) % (3 : Int32))), .val (.int ((own_D p1 p2 p3 (536870911 : Int32)) (((((p4.toUInt32 >>> ((1 : Int32) &&& 31).toUInt32).toInt32) &&& (1073741823 : Int32)) % (3 : Int32))).toNatClampNeg)), .val (.int ((p5 &&& (2147483647 : Int32)) % (((own_D p1 p2 p3 (536870911 : Int32)) (((((p4.toUInt32 >>> ((1 : Int32) &&& 31).toUInt32).toInt32) &&& (1073741823 : Int32)) % (3 : Int32))).toNatClampNeg) + (1 : Int32)))), .val (.ref b11), .val (.int ((((own_E p1 p2 p3 (536870911 : Int32) p4 p5) ((0 : Int32)).toNatClampNeg) + ((own_E p1 p2 p3 (536870911 : Int32) p4 p5) ((1 : Int32)).toNatClampNeg)) + ((own_E p1 p2 p3 (536870911 : Int32) p4 p5) ((2 : Int32)).toNatClampNeg))), .val (.ref b16), .unset] [(.int (3 : Int32))])) rfl (hb hby at_161) rfl (by decide) (cap := 3) (by decide) (by decide) (by decide) (by decide) (ad := "[I") rfl
  obtain ⟨b19, g19⟩ : ∃ z, z = T18.heap.size := ⟨_, rfl⟩
  rw [← g19] at A19 Ex19 st19
  have V_b19 := own_AI.of (Arv.new A19 (by decide))
  have E_b19 := Ex19
  have g_b19 : n0 ≤ b19 := Nat.le_trans (Nat.le_trans (Nat.le_trans (Nat.le_trans (Nat.le_trans (Nat.le_trans (Nat.le_trans (Nat.le_trans (Nat.le_trans (Nat.le_trans (Nat.le_trans (Nat.le_trans (Nat.le_trans Z0 E7.1) (Keep.of_wr W8).1) (Keep.of_wr W9).1) (Keep.of_wr W10).1) E11.1) (Keep.of_wr W12).1) (Keep.of_wr W13).1) (Keep.of_wr W14).1) (Keep.of_wr W15).1) E16.1) Kc17.1) Kc18.1) (Nat.le_of_eq g19.symm)
  have sz_b19 : h0.size ≤ b19 := (Nat.le_trans K18.1 (Nat.le_of_eq g19.symm))
  have K19 : Keep h0 h19 [] := K18.ext E19
  obtain ⟨_, _, ⟨T20, L20, k20, n20⟩, -, X20, ⟨Lc20, hQ20, l20, y20, z20⟩, st20⟩ := Jvm.LawKit.callS X19 hx (y := (⟨"com/example/binario/binario/rules/SeededRandom", "passengerDraws", "(J)Lcom/example/binario/binario/rules/SeededRandom;"⟩ : MethodName)) hown (mvT hZ (ww hw 34 rfl)) (mvT hZ (ww hw 35 rfl)) (mvT hZ (ww hw 36 rfl)) (mvT hZ (ww hw 37 rfl)) (by decide) (backOf (W := 3) (rm5 l Z a0 hw [] q6  h19 n0 (Nat.le_trans (Nat.le_trans (Nat.le_trans (Nat.le_trans (Nat.le_trans (Nat.le_trans (Nat.le_trans (Nat.le_trans (Nat.le_trans (Nat.le_trans (Nat.le_trans (Nat.le_trans (Nat.le_trans Z0 E7.1) (Keep.of_wr W8).1) (Keep.of_wr W9).1) (Keep.of_wr W10).1) E11.1) (Keep.of_wr W12).1) (Keep.of_wr W13).1) (Keep.of_wr W14).1) (Keep.of_wr W15).1) E16.1) Kc17.1) Kc18.1) E19.1)) hZ (ww hw 37 rfl) (ww hw 36 rfl) (by decide) (by decide)) (g := (mkF m 173 #[.val (.int p1), .val (.int p2), .val (.int p3), .val (.int p4), .val (.int p5), .val (.long q6), .second, .val (.int (0 : Int32)), .val (.int (536870911 : Int32)), .val (.ref b7), .val (.int ((((p4.toUInt32 >>> ((1 : Int32) &&& 31).toUInt32).toInt32) &&& (1073741823 : Int32)) % (3 : Int32))), .val (.int ((own_D p1 p2 p3 (536870911 : Int32)) (((((p4.toUInt32 >>> ((1 : Int32) &&& 31).toUInt32).toInt32) &&& (1073741823 : Int32)) % (3 : Int32))).toNatClampNeg)), .val (.int ((p5 &&& (2147483647 : Int32)) % (((own_D p1 p2 p3 (536870911 : Int32)) (((((p4.toUInt32 >>> ((1 : Int32) &&& 31).toUInt32).toInt32) &&& (1073741823 : Int32)) % (3 : Int32))).toNatClampNeg) + (1 : Int32)))), .val (.ref b11), .val (.int ((((own_E p1 p2 p3 (536870911 : Int32) p4 p5) ((0 : Int32)).toNatClampNeg) + ((own_E p1 p2 p3 (536870911 : Int32) p4 p5) ((1 : Int32)).toNatClampNeg)) + ((own_E p1 p2 p3 (536870911 : Int32) p4 p5) ((2 : Int32)).toNatClampNeg))), .val (.ref b16), .val (.ref b19)] [(.long q6), (.ref b19), (.int ((((own_E p1 p2 p3 (536870911 : Int32) p4 p5) ((0 : Int32)).toNatClampNeg) + ((own_E p1 p2 p3 (536870911 : Int32) p4 p5) ((1 : Int32)).toNatClampNeg)) + ((own_E p1 p2 p3 (536870911 : Int32) p4 p5) ((2 : Int32)).toNatClampNeg))), (.ref b16)])) rfl (by rw [hml]; rfl) (argsL := [(.long q6)]) (rest := [(.ref b19), (.int ((((own_E p1 p2 p3 (536870911 : Int32) p4 p5) ((0 : Int32)).toNatClampNeg) + ((own_E p1 p2 p3 (536870911 : Int32) p4 p5) ((1 : Int32)).toNatClampNeg)) + ((own_E p1 p2 p3 (536870911 : Int32) p4 p5) ((2 : Int32)).toNatClampNeg))), (.ref b16)]) (lenOf pd_0_5 rfl) rfl (by show 2 * 0 + _ ≤ _; exact Nat.le_of_eq rfl) (hb hby at_173) (fun _ _ => ⟨rfl, e19, (by decide : 5 + 1 ≤ _), (by decide : 14 + 1 ≤ _)⟩)
  dsimp only [Pt.U, Pt.locs, Pt.cells, Pt.slots] at X20 l20 y20 z20 st20 hQ20
  subst l20 y20 z20
  obtain ⟨sr20, sv20, rfl, N20q, Kc20, hs20, Es20, Fs20⟩ := hQ20
  have N20 := Fr.app N18 N20q
  have g_sr20 : n0 ≤ sr20 := Nat.le_trans (Nat.le_trans (Nat.le_trans (Nat.le_trans (Nat.le_trans (Nat.le_trans (Nat.le_trans (Nat.le_trans (Nat.le_trans (Nat.le_trans (Nat.le_trans (Nat.le_trans (Nat.le_trans (Nat.le_trans Z0 E7.1) (Keep.of_wr W8).1) (Keep.of_wr W9).1) (Keep.of_wr W10).1) E11.1) (Keep.of_wr W12).1) (Keep.of_wr W13).1) (Keep.of_wr W14).1) (Keep.of_wr W15).1) E16.1) Kc17.1) Kc18.1) E19.1) hs20
  have sz_sr20 : h0.size ≤ sr20 := Nat.le_trans K19.1 hs20
  have K20 : Keep h0 T20.heap [] := K19.trans Kc20 all0
  obtain ⟨cq21, kq21, q21a, q21b, q21c⟩ := isOf hZ rfl ((((E_b16.keep Kc17).keep Kc18).ext E19).keep Kc20)
  obtain ⟨_, _, ⟨T21, L21, k21, n21⟩, -, X21, ⟨Lc21, hQ21, l21, y21, z21⟩, st21⟩ := X20.virtualBack hx (y := (⟨"com/example/binario/binario/rules/PassengerBag", "draw", "(I[ILcom/example/binario/binario/rules/SeededRandom;)V"⟩ : MethodName)) (z := (⟨"com/example/binario/binario/rules/PassengerBag", "draw", "(I[ILcom/example/binario/binario/rules/SeededRandom;)V"⟩ : MethodName)) hown (mvT hZ (ww hw 53 rfl)) (mvT hZ (ww hw 54 rfl)) (notFace_of_selects (args := #[]) (mvT hZ (ww hw 56 rfl))) (mvT hZ (ww hw 56 rfl)) (mvT hZ (ww hw 55 rfl)) (by decide) (backOf (W := 0) (rm8 l Z a0 hw [] b16 ((((own_E p1 p2 p3 (536870911 : Int32) p4 p5) ((0 : Int32)).toNatClampNeg) + ((own_E p1 p2 p3 (536870911 : Int32) p4 p5) ((1 : Int32)).toNatClampNeg)) + ((own_E p1 p2 p3 (536870911 : Int32) p4 p5) ((2 : Int32)).toNatClampNeg)) b19 sr20 ca17 _ (own_E p1 p2 p3 (536870911 : Int32) p4 p5) _ T20.heap n0 (Nat.le_trans (Nat.le_trans (Nat.le_trans (Nat.le_trans (Nat.le_trans (Nat.le_trans (Nat.le_trans (Nat.le_trans (Nat.le_trans (Nat.le_trans (Nat.le_trans (Nat.le_trans (Nat.le_trans (Nat.le_trans Z0 E7.1) (Keep.of_wr W8).1) (Keep.of_wr W9).1) (Keep.of_wr W10).1) E11.1) (Keep.of_wr W12).1) (Keep.of_wr W13).1) (Keep.of_wr W14).1) (Keep.of_wr W15).1) E16.1) Kc17.1) Kc18.1) E19.1) Kc20.1) ((((E_b16.keep Kc17).keep Kc18).ext E19).keep Kc20) ((Fc18.ext E19).keep Kc20 nin0) (own_eqF ((Fl18.ext E19).keep Kc20 nin0) heq) ((Vc18.ext E19).keep Kc20 nin0) (V_b19.keep Kc20 nin0) Es20 Fs20 okE hsE g_b16 g_ca17 g_b19 g_sr20 (Nat.ne_of_lt (Nat.lt_of_lt_of_le ((E_b16.keep Kc17).keep Kc18).lt (Nat.le_of_eq g19.symm))) (Nat.ne_of_lt (Nat.lt_of_lt_of_le (((E_b16.keep Kc17).keep Kc18).ext E19).lt hs20)) (Nat.ne_of_lt (Nat.lt_of_lt_of_le E_b16.lt hc17)) (Nat.ne_of_lt (Nat.lt_of_lt_of_le V_b19.lt hs20)) (Ne.symm (Nat.ne_of_lt (Nat.lt_of_lt_of_le Vc18.lt (Nat.le_of_eq g19.symm)))) (Ne.symm (Nat.ne_of_lt (Nat.lt_of_lt_of_le (Vc18.ext E19).lt hs20)))) hZ (ww hw 57 rfl) (ww hw 5 rfl) (by decide) (by decide)) q21a q21c (g := (mkF m 176 #[.val (.int p1), .val (.int p2), .val (.int p3), .val (.int p4), .val (.int p5), .val (.long q6), .second, .val (.int (0 : Int32)), .val (.int (536870911 : Int32)), .val (.ref b7), .val (.int ((((p4.toUInt32 >>> ((1 : Int32) &&& 31).toUInt32).toInt32) &&& (1073741823 : Int32)) % (3 : Int32))), .val (.int ((own_D p1 p2 p3 (536870911 : Int32)) (((((p4.toUInt32 >>> ((1 : Int32) &&& 31).toUInt32).toInt32) &&& (1073741823 : Int32)) % (3 : Int32))).toNatClampNeg)), .val (.int ((p5 &&& (2147483647 : Int32)) % (((own_D p1 p2 p3 (536870911 : Int32)) (((((p4.toUInt32 >>> ((1 : Int32) &&& 31).toUInt32).toInt32) &&& (1073741823 : Int32)) % (3 : Int32))).toNatClampNeg) + (1 : Int32)))), .val (.ref b11), .val (.int ((((own_E p1 p2 p3 (536870911 : Int32) p4 p5) ((0 : Int32)).toNatClampNeg) + ((own_E p1 p2 p3 (536870911 : Int32) p4 p5) ((1 : Int32)).toNatClampNeg)) + ((own_E p1 p2 p3 (536870911 : Int32) p4 p5) ((2 : Int32)).toNatClampNeg))), .val (.ref b16), .val (.ref b19)] [(.ref sr20), (.ref b19), (.int ((((own_E p1 p2 p3 (536870911 : Int32) p4 p5) ((0 : Int32)).toNatClampNeg) + ((own_E p1 p2 p3 (536870911 : Int32) p4 p5) ((1 : Int32)).toNatClampNeg)) + ((own_E p1 p2 p3 (536870911 : Int32) p4 p5) ((2 : Int32)).toNatClampNeg))), (.ref b16)])) rfl (by rw [hml]; rfl) (Steps.refl _) (argsL := [(.int ((((own_E p1 p2 p3 (536870911 : Int32) p4 p5) ((0 : Int32)).toNatClampNeg) + ((own_E p1 p2 p3 (536870911 : Int32) p4 p5) ((1 : Int32)).toNatClampNeg)) + ((own_E p1 p2 p3 (536870911 : Int32) p4 p5) ((2 : Int32)).toNatClampNeg))), (.ref b19), (.ref sr20)]) (rest := []) (lenOf pd_0_8 rfl) rfl (by show 2 * 0 + _ ≤ _; exact Nat.le_of_eq rfl) (hb hby at_176) (fun _ _ => ⟨rfl, rfl, (by decide : 6 + 0 ≤ _), (by decide : 15 + 0 ≤ _)⟩)
  dsimp only [Pt.U, Pt.locs, Pt.cells, Pt.slots] at X21 l21 y21 z21 st21 hQ21
  subst l21 y21 z21
  obtain ⟨rfl, N21q, Kc21, Vr21⟩ := hQ21
  have N21 := Fr.app N20 N21q
  have K21 : Keep h0 T21.heap [] := K20.trans Kc21 (allS (Or.inr sz_b16) (allS (Or.inr sz_ca17) (allS (Or.inr sz_b19) (allS (Or.inr sz_sr20) all0))))
  obtain ⟨cl_182, Ar_182, S_182, H_182⟩ := id (Vr21)
  have hin182 : ¬ ((0 : Int32) < 0 ∨ cl_182.slots.size ≤ ((0 : Int32)).toNatClampNeg) := inb_of S_182 ⟨by decide, by decide⟩
  have hat182 := H_182 _ (own_inb hin182)
  obtain ⟨cl_186, Ar_186, S_186, H_186⟩ := id (((((((V_b11_15.ext E16).keep Kc17 (ninS (Nat.ne_of_lt (Nat.lt_of_lt_of_le V_b11_15.lt (Nat.le_of_eq g16.symm))) nin0)).keep Kc18 (ninS (Nat.ne_of_lt (Nat.lt_of_lt_of_le V_b11_15.lt (Nat.le_of_eq g16.symm))) (ninS (Nat.ne_of_lt (Nat.lt_of_lt_of_le (V_b11_15.ext E16).lt hc17)) nin0))).ext E19).keep Kc20 nin0).keep Kc21 (ninS (Nat.ne_of_lt (Nat.lt_of_lt_of_le V_b11_15.lt (Nat.le_of_eq g16.symm))) (ninS (Nat.ne_of_lt (Nat.lt_of_lt_of_le (V_b11_15.ext E16).lt hc17)) (ninS (Nat.ne_of_lt (Nat.lt_of_lt_of_le (((V_b11_15.ext E16).keep Kc17 (ninS (Nat.ne_of_lt (Nat.lt_of_lt_of_le V_b11_15.lt (Nat.le_of_eq g16.symm))) nin0)).keep Kc18 (ninS (Nat.ne_of_lt (Nat.lt_of_lt_of_le V_b11_15.lt (Nat.le_of_eq g16.symm))) (ninS (Nat.ne_of_lt (Nat.lt_of_lt_of_le (V_b11_15.ext E16).lt hc17)) nin0))).lt (Nat.le_of_eq g19.symm))) (ninS (Nat.ne_of_lt (Nat.lt_of_lt_of_le ((((V_b11_15.ext E16).keep Kc17 (ninS (Nat.ne_of_lt (Nat.lt_of_lt_of_le V_b11_15.lt (Nat.le_of_eq g16.symm))) nin0)).keep Kc18 (ninS (Nat.ne_of_lt (Nat.lt_of_lt_of_le V_b11_15.lt (Nat.le_of_eq g16.symm))) (ninS (Nat.ne_of_lt (Nat.lt_of_lt_of_le (V_b11_15.ext E16).lt hc17)) nin0))).ext E19).lt hs20)) nin0))))))
  have hin186 : ¬ ((0 : Int32) < 0 ∨ cl_186.slots.size ≤ ((0 : Int32)).toNatClampNeg) := inb_of S_186 ⟨by decide, by decide⟩
  have hat186 := H_186 _ (own_inb hin186)
  obtain ⟨cl_193, Ar_193, S_193, H_193⟩ := id (Vr21)
  have hin193 : ¬ ((1 : Int32) < 0 ∨ cl_193.slots.size ≤ ((1 : Int32)).toNatClampNeg) := inb_of S_193 ⟨by decide, by decide⟩
  have hat193 := H_193 _ (own_inb hin193)
  obtain ⟨cl_197, Ar_197, S_197, H_197⟩ := id (((((((V_b11_15.ext E16).keep Kc17 (ninS (Nat.ne_of_lt (Nat.lt_of_lt_of_le V_b11_15.lt (Nat.le_of_eq g16.symm))) nin0)).keep Kc18 (ninS (Nat.ne_of_lt (Nat.lt_of_lt_of_le V_b11_15.lt (Nat.le_of_eq g16.symm))) (ninS (Nat.ne_of_lt (Nat.lt_of_lt_of_le (V_b11_15.ext E16).lt hc17)) nin0))).ext E19).keep Kc20 nin0).keep Kc21 (ninS (Nat.ne_of_lt (Nat.lt_of_lt_of_le V_b11_15.lt (Nat.le_of_eq g16.symm))) (ninS (Nat.ne_of_lt (Nat.lt_of_lt_of_le (V_b11_15.ext E16).lt hc17)) (ninS (Nat.ne_of_lt (Nat.lt_of_lt_of_le (((V_b11_15.ext E16).keep Kc17 (ninS (Nat.ne_of_lt (Nat.lt_of_lt_of_le V_b11_15.lt (Nat.le_of_eq g16.symm))) nin0)).keep Kc18 (ninS (Nat.ne_of_lt (Nat.lt_of_lt_of_le V_b11_15.lt (Nat.le_of_eq g16.symm))) (ninS (Nat.ne_of_lt (Nat.lt_of_lt_of_le (V_b11_15.ext E16).lt hc17)) nin0))).lt (Nat.le_of_eq g19.symm))) (ninS (Nat.ne_of_lt (Nat.lt_of_lt_of_le ((((V_b11_15.ext E16).keep Kc17 (ninS (Nat.ne_of_lt (Nat.lt_of_lt_of_le V_b11_15.lt (Nat.le_of_eq g16.symm))) nin0)).keep Kc18 (ninS (Nat.ne_of_lt (Nat.lt_of_lt_of_le V_b11_15.lt (Nat.le_of_eq g16.symm))) (ninS (Nat.ne_of_lt (Nat.lt_of_lt_of_le (V_b11_15.ext E16).lt hc17)) nin0))).ext E19).lt hs20)) nin0))))))
  have hin197 : ¬ ((1 : Int32) < 0 ∨ cl_197.slots.size ≤ ((1 : Int32)).toNatClampNeg) := inb_of S_197 ⟨by decide, by decide⟩
  have hat197 := H_197 _ (own_inb hin197)
  obtain ⟨cl_204, Ar_204, S_204, H_204⟩ := id (Vr21)
  have hin204 : ¬ ((2 : Int32) < 0 ∨ cl_204.slots.size ≤ ((2 : Int32)).toNatClampNeg) := inb_of S_204 ⟨by decide, by decide⟩
  have hat204 := H_204 _ (own_inb hin204)
  obtain ⟨cl_208, Ar_208, S_208, H_208⟩ := id (((((((V_b11_15.ext E16).keep Kc17 (ninS (Nat.ne_of_lt (Nat.lt_of_lt_of_le V_b11_15.lt (Nat.le_of_eq g16.symm))) nin0)).keep Kc18 (ninS (Nat.ne_of_lt (Nat.lt_of_lt_of_le V_b11_15.lt (Nat.le_of_eq g16.symm))) (ninS (Nat.ne_of_lt (Nat.lt_of_lt_of_le (V_b11_15.ext E16).lt hc17)) nin0))).ext E19).keep Kc20 nin0).keep Kc21 (ninS (Nat.ne_of_lt (Nat.lt_of_lt_of_le V_b11_15.lt (Nat.le_of_eq g16.symm))) (ninS (Nat.ne_of_lt (Nat.lt_of_lt_of_le (V_b11_15.ext E16).lt hc17)) (ninS (Nat.ne_of_lt (Nat.lt_of_lt_of_le (((V_b11_15.ext E16).keep Kc17 (ninS (Nat.ne_of_lt (Nat.lt_of_lt_of_le V_b11_15.lt (Nat.le_of_eq g16.symm))) nin0)).keep Kc18 (ninS (Nat.ne_of_lt (Nat.lt_of_lt_of_le V_b11_15.lt (Nat.le_of_eq g16.symm))) (ninS (Nat.ne_of_lt (Nat.lt_of_lt_of_le (V_b11_15.ext E16).lt hc17)) nin0))).lt (Nat.le_of_eq g19.symm))) (ninS (Nat.ne_of_lt (Nat.lt_of_lt_of_le ((((V_b11_15.ext E16).keep Kc17 (ninS (Nat.ne_of_lt (Nat.lt_of_lt_of_le V_b11_15.lt (Nat.le_of_eq g16.symm))) nin0)).keep Kc18 (ninS (Nat.ne_of_lt (Nat.lt_of_lt_of_le V_b11_15.lt (Nat.le_of_eq g16.symm))) (ninS (Nat.ne_of_lt (Nat.lt_of_lt_of_le (V_b11_15.ext E16).lt hc17)) nin0))).ext E19).lt hs20)) nin0))))))
  have hin208 : ¬ ((2 : Int32) < 0 ∨ cl_208.slots.size ≤ ((2 : Int32)).toNatClampNeg) := inb_of S_208 ⟨by decide, by decide⟩
  have hat208 := H_208 _ (own_inb hin208)
  obtain ⟨fs, hr, hrun, hended, hW, hsame⟩ := X21.leave (v := some (.int (1 : Int32))) (fun h => by rw [Bd.returns] at h; cases h)
  refine ⟨_, _, pre0 _ ?_, hrun, hended, _, _, rfl, ?_, ⟨_, rfl⟩, hW, hsame.mono (by decide) (by decide)⟩
  · show Steps _ _ _ (s₁.setTop (mkF m 0 #[.val (.int p1), .val (.int p2), .val (.int p3), .val (.int p4), .val (.int p5), .val (.long q6), .second, .unset, .unset, .unset, .unset, .unset, .unset, .unset, .unset, .unset, .unset] [])) _
    refine XS.iloadN X0.here hx rfl (hb hby at_0) rfl ?_
    refine XS.iconst X0.here hx rfl (hb hby at_1) ?_
    refine XS.iand X0.here hx rfl (hb hby at_2) rfl ?_
    refine XS.ifYes X0.here hx rfl (pc0 := 3) (pc' := 10) rfl (hb hby at_3) rfl ((if0 _ _).trans (teq hc3).1) (by decide) (by decide) ?_
    refine XS.iconst X0.here hx rfl (hb hby at_10) ?_
    refine XS.istore X0.here hx rfl (hb hby at_11) rfl (l' := #[.val (.int p1), .val (.int p2), .val (.int p3), .val (.int p4), .val (.int p5), .val (.long q6), .second, .val (.int (0 : Int32)), .unset, .unset, .unset, .unset, .unset, .unset, .unset, .unset, .unset]) rfl ?_
    refine XS.iload X0.here hx rfl (hb hby at_13) rfl ?_
    refine XS.ifYes X0.here hx rfl (pc0 := 15) (pc' := 23) rfl (hb hby at_15) rfl ((if0 _ _).trans (teq (by decide : (0 : Int32) = (0 : Int32))).1) (by decide) (by decide) ?_
    refine X0.ldcInt hx hown (mvT hZ (ww hw 72 rfl)) (g := (mkF m 23 #[.val (.int p1), .val (.int p2), .val (.int p3), .val (.int p4), .val (.int p5), .val (.long q6), .second, .val (.int (0 : Int32)), .unset, .unset, .unset, .unset, .unset, .unset, .unset, .unset, .unset] [])) rfl (hb hby at_23) _ ?_
    refine XS.istore X0.here hx rfl (hb hby at_25) rfl (l' := #[.val (.int p1), .val (.int p2), .val (.int p3), .val (.int p4), .val (.int p5), .val (.long q6), .second, .val (.int (0 : Int32)), .val (.int (536870911 : Int32)), .unset, .unset, .unset, .unset, .unset, .unset, .unset, .unset]) rfl ?_
    refine XS.iconst X0.here hx rfl (hb hby at_27) ?_
    refine st7 _ ?_
    refine XS.astore X7.here hx rfl (hb hby at_30) rfl rfl (l' := #[.val (.int p1), .val (.int p2), .val (.int p3), .val (.int p4), .val (.int p5), .val (.long q6), .second, .val (.int (0 : Int32)), .val (.int (536870911 : Int32)), .val (.ref b7), .unset, .unset, .unset, .unset, .unset, .unset, .unset]) rfl ?_
    refine XS.aload X7.here hx rfl (hb hby at_32) rfl rfl ?_
    refine XS.iconst X7.here hx rfl (hb hby at_34) ?_
    refine XS.iloadN X7.here hx rfl (hb hby at_35) rfl ?_
    refine XS.iload X7.here hx rfl (hb hby at_36) rfl ?_
    refine XS.iand X7.here hx rfl (hb hby at_38) rfl ?_
    refine st8 _ ?_
    refine XS.aload X8.here hx rfl (hb hby at_40) rfl rfl ?_
    refine XS.iconst X8.here hx rfl (hb hby at_42) ?_
    refine XS.iloadN X8.here hx rfl (hb hby at_43) rfl ?_
    refine XS.iload X8.here hx rfl (hb hby at_44) rfl ?_
    refine XS.iand X8.here hx rfl (hb hby at_46) rfl ?_
    refine st9 _ ?_
    refine XS.aload X9.here hx rfl (hb hby at_48) rfl rfl ?_
    refine XS.iconst X9.here hx rfl (hb hby at_50) ?_
    refine XS.iloadN X9.here hx rfl (hb hby at_51) rfl ?_
    refine XS.iload X9.here hx rfl (hb hby at_52) rfl ?_
    refine XS.iand X9.here hx rfl (hb hby at_54) rfl ?_
    refine st10 _ ?_
    refine XS.iloadN X10.here hx rfl (hb hby at_56) rfl ?_
    refine XS.iconst X10.here hx rfl (hb hby at_57) ?_
    refine XS.iushr X10.here hx rfl (hb hby at_58) rfl ?_
    refine X10.ldcInt hx hown (mvT hZ (ww hw 1 rfl)) (g := (mkF m 59 #[.val (.int p1), .val (.int p2), .val (.int p3), .val (.int p4), .val (.int p5), .val (.long q6), .second, .val (.int (0 : Int32)), .val (.int (536870911 : Int32)), .val (.ref b7), .unset, .unset, .unset, .unset, .unset, .unset, .unset] [(.int ((p4.toUInt32 >>> ((1 : Int32) &&& 31).toUInt32).toInt32))])) rfl (hb hby at_59) _ ?_
    refine XS.iand X10.here hx rfl (hb hby at_61) rfl ?_
    refine XS.iconst X10.here hx rfl (hb hby at_62) ?_
    refine iremM (g := (mkF m 63 #[.val (.int p1), .val (.int p2), .val (.int p3), .val (.int p4), .val (.int p5), .val (.long q6), .second, .val (.int (0 : Int32)), .val (.int (536870911 : Int32)), .val (.ref b7), .unset, .unset, .unset, .unset, .unset, .unset, .unset] [(.int (3 : Int32)), (.int (((p4.toUInt32 >>> ((1 : Int32) &&& 31).toUInt32).toInt32) &&& (1073741823 : Int32)))])) X10 hx rfl (hb hby at_63) rfl (by decide) ?_
    refine XS.istore X10.here hx rfl (hb hby at_64) rfl (l' := #[.val (.int p1), .val (.int p2), .val (.int p3), .val (.int p4), .val (.int p5), .val (.long q6), .second, .val (.int (0 : Int32)), .val (.int (536870911 : Int32)), .val (.ref b7), .val (.int ((((p4.toUInt32 >>> ((1 : Int32) &&& 31).toUInt32).toInt32) &&& (1073741823 : Int32)) % (3 : Int32))), .unset, .unset, .unset, .unset, .unset, .unset]) rfl ?_
    refine XS.aload X10.here hx rfl (hb hby at_66) rfl rfl ?_
    refine XS.iload X10.here hx rfl (hb hby at_68) rfl ?_
    refine X10.iaload hx (j := ((((p4.toUInt32 >>> ((1 : Int32) &&& 31).toUInt32).toInt32) &&& (1073741823 : Int32)) % (3 : Int32))) (v := (.int ((own_D p1 p2 p3 (536870911 : Int32)) (((((p4.toUInt32 >>> ((1 : Int32) &&& 31).toUInt32).toInt32) &&& (1073741823 : Int32)) % (3 : Int32))).toNatClampNeg))) (by rw [e10]; exact Ar_70.1) (State.isArrayOf_alike hZ.alike Ar_70.2.1) Ar_70.2.2 hin70 hat70 (g := (mkF m 70 #[.val (.int p1), .val (.int p2), .val (.int p3), .val (.int p4), .val (.int p5), .val (.long q6), .second, .val (.int (0 : Int32)), .val (.int (536870911 : Int32)), .val (.ref b7), .val (.int ((((p4.toUInt32 >>> ((1 : Int32) &&& 31).toUInt32).toInt32) &&& (1073741823 : Int32)) % (3 : Int32))), .unset, .unset, .unset, .unset, .unset, .unset] [(.int ((((p4.toUInt32 >>> ((1 : Int32) &&& 31).toUInt32).toInt32) &&& (1073741823 : Int32)) % (3 : Int32))), (.ref b7)])) rfl rfl (hb hby at_70) _ ?_
    refine XS.istore X10.here hx rfl (hb hby at_71) rfl (l' := #[.val (.int p1), .val (.int p2), .val (.int p3), .val (.int p4), .val (.int p5), .val (.long q6), .second, .val (.int (0 : Int32)), .val (.int (536870911 : Int32)), .val (.ref b7), .val (.int ((((p4.toUInt32 >>> ((1 : Int32) &&& 31).toUInt32).toInt32) &&& (1073741823 : Int32)) % (3 : Int32))), .val (.int ((own_D p1 p2 p3 (536870911 : Int32)) (((((p4.toUInt32 >>> ((1 : Int32) &&& 31).toUInt32).toInt32) &&& (1073741823 : Int32)) % (3 : Int32))).toNatClampNeg)), .unset, .unset, .unset, .unset, .unset]) rfl ?_
    refine XS.iload X10.here hx rfl (hb hby at_73) rfl ?_
    refine X10.ldcInt hx hown (mvT hZ (ww hw 2 rfl)) (g := (mkF m 75 #[.val (.int p1), .val (.int p2), .val (.int p3), .val (.int p4), .val (.int p5), .val (.long q6), .second, .val (.int (0 : Int32)), .val (.int (536870911 : Int32)), .val (.ref b7), .val (.int ((((p4.toUInt32 >>> ((1 : Int32) &&& 31).toUInt32).toInt32) &&& (1073741823 : Int32)) % (3 : Int32))), .val (.int ((own_D p1 p2 p3 (536870911 : Int32)) (((((p4.toUInt32 >>> ((1 : Int32) &&& 31).toUInt32).toInt32) &&& (1073741823 : Int32)) % (3 : Int32))).toNatClampNeg)), .unset, .unset, .unset, .unset, .unset] [(.int p5)])) rfl (hb hby at_75) _ ?_
    refine XS.iand X10.here hx rfl (hb hby at_77) rfl ?_
    refine XS.iload X10.here hx rfl (hb hby at_78) rfl ?_
    refine XS.iconst X10.here hx rfl (hb hby at_80) ?_
    refine XS.iadd X10.here hx rfl (hb hby at_81) rfl ?_
    refine iremM (g := (mkF m 82 #[.val (.int p1), .val (.int p2), .val (.int p3), .val (.int p4), .val (.int p5), .val (.long q6), .second, .val (.int (0 : Int32)), .val (.int (536870911 : Int32)), .val (.ref b7), .val (.int ((((p4.toUInt32 >>> ((1 : Int32) &&& 31).toUInt32).toInt32) &&& (1073741823 : Int32)) % (3 : Int32))), .val (.int ((own_D p1 p2 p3 (536870911 : Int32)) (((((p4.toUInt32 >>> ((1 : Int32) &&& 31).toUInt32).toInt32) &&& (1073741823 : Int32)) % (3 : Int32))).toNatClampNeg)), .unset, .unset, .unset, .unset, .unset] [(.int (((own_D p1 p2 p3 (536870911 : Int32)) (((((p4.toUInt32 >>> ((1 : Int32) &&& 31).toUInt32).toInt32) &&& (1073741823 : Int32)) % (3 : Int32))).toNatClampNeg) + (1 : Int32))), (.int (p5 &&& (2147483647 : Int32)))])) X10 hx rfl (hb hby at_82) rfl hnz82 ?_
    refine XS.istore X10.here hx rfl (hb hby at_83) rfl (l' := #[.val (.int p1), .val (.int p2), .val (.int p3), .val (.int p4), .val (.int p5), .val (.long q6), .second, .val (.int (0 : Int32)), .val (.int (536870911 : Int32)), .val (.ref b7), .val (.int ((((p4.toUInt32 >>> ((1 : Int32) &&& 31).toUInt32).toInt32) &&& (1073741823 : Int32)) % (3 : Int32))), .val (.int ((own_D p1 p2 p3 (536870911 : Int32)) (((((p4.toUInt32 >>> ((1 : Int32) &&& 31).toUInt32).toInt32) &&& (1073741823 : Int32)) % (3 : Int32))).toNatClampNeg)), .val (.int ((p5 &&& (2147483647 : Int32)) % (((own_D p1 p2 p3 (536870911 : Int32)) (((((p4.toUInt32 >>> ((1 : Int32) &&& 31).toUInt32).toInt32) &&& (1073741823 : Int32)) % (3 : Int32))).toNatClampNeg) + (1 : Int32)))), .unset, .unset, .unset, .unset]) rfl ?_
    refine XS.iconst X10.here hx rfl (hb hby at_85) ?_
    refine st11 _ ?_
    refine XS.astore X11.here hx rfl (hb hby at_88) rfl rfl (l' := #[.val (.int p1), .val (.int p2), .val (.int p3), .val (.int p4), .val (.int p5), .val (.long q6), .second, .val (.int (0 : Int32)), .val (.int (536870911 : Int32)), .val (.ref b7), .val (.int ((((p4.toUInt32 >>> ((1 : Int32) &&& 31).toUInt32).toInt32) &&& (1073741823 : Int32)) % (3 : Int32))), .val (.int ((own_D p1 p2 p3 (536870911 : Int32)) (((((p4.toUInt32 >>> ((1 : Int32) &&& 31).toUInt32).toInt32) &&& (1073741823 : Int32)) % (3 : Int32))).toNatClampNeg)), .val (.int ((p5 &&& (2147483647 : Int32)) % (((own_D p1 p2 p3 (536870911 : Int32)) (((((p4.toUInt32 >>> ((1 : Int32) &&& 31).toUInt32).toInt32) &&& (1073741823 : Int32)) % (3 : Int32))).toNatClampNeg) + (1 : Int32)))), .val (.ref b11), .unset, .unset, .unset]) rfl ?_
    refine XS.aload X11.here hx rfl (hb hby at_90) rfl rfl ?_
    refine XS.iconst X11.here hx rfl (hb hby at_92) ?_
    refine XS.aload X11.here hx rfl (hb hby at_93) rfl rfl ?_
    refine XS.iconst X11.here hx rfl (hb hby at_95) ?_
    refine X11.iaload hx (j := (0 : Int32)) (v := (.int ((own_D p1 p2 p3 (536870911 : Int32)) ((0 : Int32)).toNatClampNeg))) (by rw [e11]; exact Ar_96.1) (State.isArrayOf_alike hZ.alike Ar_96.2.1) Ar_96.2.2 hin96 hat96 (g := (mkF m 96 #[.val (.int p1), .val (.int p2), .val (.int p3), .val (.int p4), .val (.int p5), .val (.long q6), .second, .val (.int (0 : Int32)), .val (.int (536870911 : Int32)), .val (.ref b7), .val (.int ((((p4.toUInt32 >>> ((1 : Int32) &&& 31).toUInt32).toInt32) &&& (1073741823 : Int32)) % (3 : Int32))), .val (.int ((own_D p1 p2 p3 (536870911 : Int32)) (((((p4.toUInt32 >>> ((1 : Int32) &&& 31).toUInt32).toInt32) &&& (1073741823 : Int32)) % (3 : Int32))).toNatClampNeg)), .val (.int ((p5 &&& (2147483647 : Int32)) % (((own_D p1 p2 p3 (536870911 : Int32)) (((((p4.toUInt32 >>> ((1 : Int32) &&& 31).toUInt32).toInt32) &&& (1073741823 : Int32)) % (3 : Int32))).toNatClampNeg) + (1 : Int32)))), .val (.ref b11), .unset, .unset, .unset] [(.int (0 : Int32)), (.ref b7), (.int (0 : Int32)), (.ref b11)])) rfl rfl (hb hby at_96) _ ?_
    refine st12 _ ?_
    refine XS.aload X12.here hx rfl (hb hby at_98) rfl rfl ?_
    refine XS.iconst X12.here hx rfl (hb hby at_100) ?_
    refine XS.aload X12.here hx rfl (hb hby at_101) rfl rfl ?_
    refine XS.iconst X12.here hx rfl (hb hby at_103) ?_
    refine X12.iaload hx (j := (1 : Int32)) (v := (.int ((own_D p1 p2 p3 (536870911 : Int32)) ((1 : Int32)).toNatClampNeg))) (by rw [e12]; exact Ar_104.1) (State.isArrayOf_alike hZ.alike Ar_104.2.1) Ar_104.2.2 hin104 hat104 (g := (mkF m 104 #[.val (.int p1), .val (.int p2), .val (.int p3), .val (.int p4), .val (.int p5), .val (.long q6), .second, .val (.int (0 : Int32)), .val (.int (536870911 : Int32)), .val (.ref b7), .val (.int ((((p4.toUInt32 >>> ((1 : Int32) &&& 31).toUInt32).toInt32) &&& (1073741823 : Int32)) % (3 : Int32))), .val (.int ((own_D p1 p2 p3 (536870911 : Int32)) (((((p4.toUInt32 >>> ((1 : Int32) &&& 31).toUInt32).toInt32) &&& (1073741823 : Int32)) % (3 : Int32))).toNatClampNeg)), .val (.int ((p5 &&& (2147483647 : Int32)) % (((own_D p1 p2 p3 (536870911 : Int32)) (((((p4.toUInt32 >>> ((1 : Int32) &&& 31).toUInt32).toInt32) &&& (1073741823 : Int32)) % (3 : Int32))).toNatClampNeg) + (1 : Int32)))), .val (.ref b11), .unset, .unset, .unset] [(.int (1 : Int32)), (.ref b7), (.int (1 : Int32)), (.ref b11)])) rfl rfl (hb hby at_104) _ ?_
    refine st13 _ ?_
    refine XS.aload X13.here hx rfl (hb hby at_106) rfl rfl ?_
    refine XS.iconst X13.here hx rfl (hb hby at_108) ?_
    refine XS.aload X13.here hx rfl (hb hby at_109) rfl rfl ?_
    refine XS.iconst X13.here hx rfl (hb hby at_111) ?_
    refine X13.iaload hx (j := (2 : Int32)) (v := (.int ((own_D p1 p2 p3 (536870911 : Int32)) ((2 : Int32)).toNatClampNeg))) (by rw [e13]; exact Ar_112.1) (State.isArrayOf_alike hZ.alike Ar_112.2.1) Ar_112.2.2 hin112 hat112 (g := (mkF m 112 #[.val (.int p1), .val (.int p2), .val (.int p3), .val (.int p4), .val (.int p5), .val (.long q6), .second, .val (.int (0 : Int32)), .val (.int (536870911 : Int32)), .val (.ref b7), .val (.int ((((p4.toUInt32 >>> ((1 : Int32) &&& 31).toUInt32).toInt32) &&& (1073741823 : Int32)) % (3 : Int32))), .val (.int ((own_D p1 p2 p3 (536870911 : Int32)) (((((p4.toUInt32 >>> ((1 : Int32) &&& 31).toUInt32).toInt32) &&& (1073741823 : Int32)) % (3 : Int32))).toNatClampNeg)), .val (.int ((p5 &&& (2147483647 : Int32)) % (((own_D p1 p2 p3 (536870911 : Int32)) (((((p4.toUInt32 >>> ((1 : Int32) &&& 31).toUInt32).toInt32) &&& (1073741823 : Int32)) % (3 : Int32))).toNatClampNeg) + (1 : Int32)))), .val (.ref b11), .unset, .unset, .unset] [(.int (2 : Int32)), (.ref b7), (.int (2 : Int32)), (.ref b11)])) rfl rfl (hb hby at_112) _ ?_
    refine st14 _ ?_
    refine XS.aload X14.here hx rfl (hb hby at_114) rfl rfl ?_
    refine XS.iload X14.here hx rfl (hb hby at_116) rfl ?_
    refine XS.iload X14.here hx rfl (hb hby at_118) rfl ?_
    refine XS.iload X14.here hx rfl (hb hby at_120) rfl ?_
    refine XS.isub X14.here hx rfl (hb hby at_122) rfl ?_
    refine st15 _ ?_
    refine XS.aload X15.here hx rfl (hb hby at_124) rfl rfl ?_
    refine XS.iconst X15.here hx rfl (hb hby at_126) ?_
    refine X15.iaload hx (j := (0 : Int32)) (v := (.int ((own_E p1 p2 p3 (536870911 : Int32) p4 p5) ((0 : Int32)).toNatClampNeg))) (by rw [e15]; exact Ar_127.1) (State.isArrayOf_alike hZ.alike Ar_127.2.1) Ar_127.2.2 hin127 hat127 (g := (mkF m 127 #[.val (.int p1), .val (.int p2), .val (.int p3), .val (.int p4), .val (.int p5), .val (.long q6), .second, .val (.int (0 : Int32)), .val (.int (536870911 : Int32)), .val (.ref b7), .val (.int ((((p4.toUInt32 >>> ((1 : Int32) &&& 31).toUInt32).toInt32) &&& (1073741823 : Int32)) % (3 : Int32))), .val (.int ((own_D p1 p2 p3 (536870911 : Int32)) (((((p4.toUInt32 >>> ((1 : Int32) &&& 31).toUInt32).toInt32) &&& (1073741823 : Int32)) % (3 : Int32))).toNatClampNeg)), .val (.int ((p5 &&& (2147483647 : Int32)) % (((own_D p1 p2 p3 (536870911 : Int32)) (((((p4.toUInt32 >>> ((1 : Int32) &&& 31).toUInt32).toInt32) &&& (1073741823 : Int32)) % (3 : Int32))).toNatClampNeg) + (1 : Int32)))), .val (.ref b11), .unset, .unset, .unset] [(.int (0 : Int32)), (.ref b11)])) rfl rfl (hb hby at_127) _ ?_
    refine XS.aload X15.here hx rfl (hb hby at_128) rfl rfl ?_
    refine XS.iconst X15.here hx rfl (hb hby at_130) ?_
    refine X15.iaload hx (j := (1 : Int32)) (v := (.int ((own_E p1 p2 p3 (536870911 : Int32) p4 p5) ((1 : Int32)).toNatClampNeg))) (by rw [e15]; exact Ar_131.1) (State.isArrayOf_alike hZ.alike Ar_131.2.1) Ar_131.2.2 hin131 hat131 (g := (mkF m 131 #[.val (.int p1), .val (.int p2), .val (.int p3), .val (.int p4), .val (.int p5), .val (.long q6), .second, .val (.int (0 : Int32)), .val (.int (536870911 : Int32)), .val (.ref b7), .val (.int ((((p4.toUInt32 >>> ((1 : Int32) &&& 31).toUInt32).toInt32) &&& (1073741823 : Int32)) % (3 : Int32))), .val (.int ((own_D p1 p2 p3 (536870911 : Int32)) (((((p4.toUInt32 >>> ((1 : Int32) &&& 31).toUInt32).toInt32) &&& (1073741823 : Int32)) % (3 : Int32))).toNatClampNeg)), .val (.int ((p5 &&& (2147483647 : Int32)) % (((own_D p1 p2 p3 (536870911 : Int32)) (((((p4.toUInt32 >>> ((1 : Int32) &&& 31).toUInt32).toInt32) &&& (1073741823 : Int32)) % (3 : Int32))).toNatClampNeg) + (1 : Int32)))), .val (.ref b11), .unset, .unset, .unset] [(.int (1 : Int32)), (.ref b11), (.int ((own_E p1 p2 p3 (536870911 : Int32) p4 p5) ((0 : Int32)).toNatClampNeg))])) rfl rfl (hb hby at_131) _ ?_
    refine XS.iadd X15.here hx rfl (hb hby at_132) rfl ?_
    refine XS.aload X15.here hx rfl (hb hby at_133) rfl rfl ?_
    refine XS.iconst X15.here hx rfl (hb hby at_135) ?_
    refine X15.iaload hx (j := (2 : Int32)) (v := (.int ((own_E p1 p2 p3 (536870911 : Int32) p4 p5) ((2 : Int32)).toNatClampNeg))) (by rw [e15]; exact Ar_136.1) (State.isArrayOf_alike hZ.alike Ar_136.2.1) Ar_136.2.2 hin136 hat136 (g := (mkF m 136 #[.val (.int p1), .val (.int p2), .val (.int p3), .val (.int p4), .val (.int p5), .val (.long q6), .second, .val (.int (0 : Int32)), .val (.int (536870911 : Int32)), .val (.ref b7), .val (.int ((((p4.toUInt32 >>> ((1 : Int32) &&& 31).toUInt32).toInt32) &&& (1073741823 : Int32)) % (3 : Int32))), .val (.int ((own_D p1 p2 p3 (536870911 : Int32)) (((((p4.toUInt32 >>> ((1 : Int32) &&& 31).toUInt32).toInt32) &&& (1073741823 : Int32)) % (3 : Int32))).toNatClampNeg)), .val (.int ((p5 &&& (2147483647 : Int32)) % (((own_D p1 p2 p3 (536870911 : Int32)) (((((p4.toUInt32 >>> ((1 : Int32) &&& 31).toUInt32).toInt32) &&& (1073741823 : Int32)) % (3 : Int32))).toNatClampNeg) + (1 : Int32)))), .val (.ref b11), .unset, .unset, .unset] [(.int (2 : Int32)), (.ref b11), (.int (((own_E p1 p2 p3 (536870911 : Int32) p4 p5) ((0 : Int32)).toNatClampNeg) + ((own_E p1 p2 p3 (536870911 : Int32) p4 p5) ((1 : Int32)).toNatClampNeg)))])) rfl rfl (hb hby at_136) _ ?_
    refine XS.iadd X15.here hx rfl (hb hby at_137) rfl ?_
    refine XS.istore X15.here hx rfl (hb hby at_138) rfl (l' := #[.val (.int p1), .val (.int p2), .val (.int p3), .val (.int p4), .val (.int p5), .val (.long q6), .second, .val (.int (0 : Int32)), .val (.int (536870911 : Int32)), .val (.ref b7), .val (.int ((((p4.toUInt32 >>> ((1 : Int32) &&& 31).toUInt32).toInt32) &&& (1073741823 : Int32)) % (3 : Int32))), .val (.int ((own_D p1 p2 p3 (536870911 : Int32)) (((((p4.toUInt32 >>> ((1 : Int32) &&& 31).toUInt32).toInt32) &&& (1073741823 : Int32)) % (3 : Int32))).toNatClampNeg)), .val (.int ((p5 &&& (2147483647 : Int32)) % (((own_D p1 p2 p3 (536870911 : Int32)) (((((p4.toUInt32 >>> ((1 : Int32) &&& 31).toUInt32).toInt32) &&& (1073741823 : Int32)) % (3 : Int32))).toNatClampNeg) + (1 : Int32)))), .val (.ref b11), .val (.int ((((own_E p1 p2 p3 (536870911 : Int32) p4 p5) ((0 : Int32)).toNatClampNeg) + ((own_E p1 p2 p3 (536870911 : Int32) p4 p5) ((1 : Int32)).toNatClampNeg)) + ((own_E p1 p2 p3 (536870911 : Int32) p4 p5) ((2 : Int32)).toNatClampNeg))), .unset, .unset]) rfl ?_
    refine st16 _ ?_
    refine XS.dup X16.here hx rfl (hb hby at_143) rfl rfl ?_
    refine XS.aload X16.here hx rfl (hb hby at_144) rfl rfl ?_
    refine st17.trans ?_
    refine XS.astore X17.here hx rfl (hb hby at_149) rfl rfl (l' := #[.val (.int p1), .val (.int p2), .val (.int p3), .val (.int p4), .val (.int p5), .val (.long q6), .second, .val (.int (0 : Int32)), .val (.int (536870911 : Int32)), .val (.ref b7), .val (.int ((((p4.toUInt32 >>> ((1 : Int32) &&& 31).toUInt32).toInt32) &&& (1073741823 : Int32)) % (3 : Int32))), .val (.int ((own_D p1 p2 p3 (536870911 : Int32)) (((((p4.toUInt32 >>> ((1 : Int32) &&& 31).toUInt32).toInt32) &&& (1073741823 : Int32)) % (3 : Int32))).toNatClampNeg)), .val (.int ((p5 &&& (2147483647 : Int32)) % (((own_D p1 p2 p3 (536870911 : Int32)) (((((p4.toUInt32 >>> ((1 : Int32) &&& 31).toUInt32).toInt32) &&& (1073741823 : Int32)) % (3 : Int32))).toNatClampNeg) + (1 : Int32)))), .val (.ref b11), .val (.int ((((own_E p1 p2 p3 (536870911 : Int32) p4 p5) ((0 : Int32)).toNatClampNeg) + ((own_E p1 p2 p3 (536870911 : Int32) p4 p5) ((1 : Int32)).toNatClampNeg)) + ((own_E p1 p2 p3 (536870911 : Int32) p4 p5) ((2 : Int32)).toNatClampNeg))), .val (.ref b16), .unset]) rfl ?_
    refine XS.aload X17.here hx rfl (hb hby at_151) rfl rfl ?_
    refine XS.iload X17.here hx rfl (hb hby at_153) rfl ?_
    refine XS.iload X17.here hx rfl (hb hby at_155) rfl ?_
    refine st18.trans ?_
    refine XS.iconst X18.here hx rfl (hb hby at_160) ?_
    refine st19 _ ?_
    refine XS.astore X19.here hx rfl (hb hby at_163) rfl rfl (l' := #[.val (.int p1), .val (.int p2), .val (.int p3), .val (.int p4), .val (.int p5), .val (.long q6), .second, .val (.int (0 : Int32)), .val (.int (536870911 : Int32)), .val (.ref b7), .val (.int ((((p4.toUInt32 >>> ((1 : Int32) &&& 31).toUInt32).toInt32) &&& (1073741823 : Int32)) % (3 : Int32))), .val (.int ((own_D p1 p2 p3 (536870911 : Int32)) (((((p4.toUInt32 >>> ((1 : Int32) &&& 31).toUInt32).toInt32) &&& (1073741823 : Int32)) % (3 : Int32))).toNatClampNeg)), .val (.int ((p5 &&& (2147483647 : Int32)) % (((own_D p1 p2 p3 (536870911 : Int32)) (((((p4.toUInt32 >>> ((1 : Int32) &&& 31).toUInt32).toInt32) &&& (1073741823 : Int32)) % (3 : Int32))).toNatClampNeg) + (1 : Int32)))), .val (.ref b11), .val (.int ((((own_E p1 p2 p3 (536870911 : Int32) p4 p5) ((0 : Int32)).toNatClampNeg) + ((own_E p1 p2 p3 (536870911 : Int32) p4 p5) ((1 : Int32)).toNatClampNeg)) + ((own_E p1 p2 p3 (536870911 : Int32) p4 p5) ((2 : Int32)).toNatClampNeg))), .val (.ref b16), .val (.ref b19)]) rfl ?_
    refine XS.aload X19.here hx rfl (hb hby at_165) rfl rfl ?_
    refine XS.iload X19.here hx rfl (hb hby at_167) rfl ?_
    refine XS.aload X19.here hx rfl (hb hby at_169) rfl rfl ?_
    refine XS.lload X19.here hx rfl (hb hby at_171) rfl ?_
    refine st20 _ ?_
    refine st21.trans ?_
    refine XS.aload X21.here hx rfl (hb hby at_179) rfl rfl ?_
    refine XS.iconst X21.here hx rfl (hb hby at_181) ?_
    refine X21.iaload hx (j := (0 : Int32)) (v := (.int ((own_E p1 p2 p3 (536870911 : Int32) p4 p5) ((0 : Int32)).toNatClampNeg))) (by exact Ar_182.1) (State.isArrayOf_alike hZ.alike Ar_182.2.1) Ar_182.2.2 hin182 hat182 (g := (mkF m 182 #[.val (.int p1), .val (.int p2), .val (.int p3), .val (.int p4), .val (.int p5), .val (.long q6), .second, .val (.int (0 : Int32)), .val (.int (536870911 : Int32)), .val (.ref b7), .val (.int ((((p4.toUInt32 >>> ((1 : Int32) &&& 31).toUInt32).toInt32) &&& (1073741823 : Int32)) % (3 : Int32))), .val (.int ((own_D p1 p2 p3 (536870911 : Int32)) (((((p4.toUInt32 >>> ((1 : Int32) &&& 31).toUInt32).toInt32) &&& (1073741823 : Int32)) % (3 : Int32))).toNatClampNeg)), .val (.int ((p5 &&& (2147483647 : Int32)) % (((own_D p1 p2 p3 (536870911 : Int32)) (((((p4.toUInt32 >>> ((1 : Int32) &&& 31).toUInt32).toInt32) &&& (1073741823 : Int32)) % (3 : Int32))).toNatClampNeg) + (1 : Int32)))), .val (.ref b11), .val (.int ((((own_E p1 p2 p3 (536870911 : Int32) p4 p5) ((0 : Int32)).toNatClampNeg) + ((own_E p1 p2 p3 (536870911 : Int32) p4 p5) ((1 : Int32)).toNatClampNeg)) + ((own_E p1 p2 p3 (536870911 : Int32) p4 p5) ((2 : Int32)).toNatClampNeg))), .val (.ref b16), .val (.ref b19)] [(.int (0 : Int32)), (.ref b19)])) rfl rfl (hb hby at_182) _ ?_
    refine XS.aload X21.here hx rfl (hb hby at_183) rfl rfl ?_
    refine XS.iconst X21.here hx rfl (hb hby at_185) ?_
    refine X21.iaload hx (j := (0 : Int32)) (v := (.int ((own_E p1 p2 p3 (536870911 : Int32) p4 p5) ((0 : Int32)).toNatClampNeg))) (by exact Ar_186.1) (State.isArrayOf_alike hZ.alike Ar_186.2.1) Ar_186.2.2 hin186 hat186 (g := (mkF m 186 #[.val (.int p1), .val (.int p2), .val (.int p3), .val (.int p4), .val (.int p5), .val (.long q6), .second, .val (.int (0 : Int32)), .val (.int (536870911 : Int32)), .val (.ref b7), .val (.int ((((p4.toUInt32 >>> ((1 : Int32) &&& 31).toUInt32).toInt32) &&& (1073741823 : Int32)) % (3 : Int32))), .val (.int ((own_D p1 p2 p3 (536870911 : Int32)) (((((p4.toUInt32 >>> ((1 : Int32) &&& 31).toUInt32).toInt32) &&& (1073741823 : Int32)) % (3 : Int32))).toNatClampNeg)), .val (.int ((p5 &&& (2147483647 : Int32)) % (((own_D p1 p2 p3 (536870911 : Int32)) (((((p4.toUInt32 >>> ((1 : Int32) &&& 31).toUInt32).toInt32) &&& (1073741823 : Int32)) % (3 : Int32))).toNatClampNeg) + (1 : Int32)))), .val (.ref b11), .val (.int ((((own_E p1 p2 p3 (536870911 : Int32) p4 p5) ((0 : Int32)).toNatClampNeg) + ((own_E p1 p2 p3 (536870911 : Int32) p4 p5) ((1 : Int32)).toNatClampNeg)) + ((own_E p1 p2 p3 (536870911 : Int32) p4 p5) ((2 : Int32)).toNatClampNeg))), .val (.ref b16), .val (.ref b19)] [(.int (0 : Int32)), (.ref b11), (.int ((own_E p1 p2 p3 (536870911 : Int32) p4 p5) ((0 : Int32)).toNatClampNeg))])) rfl rfl (hb hby at_186) _ ?_
    refine XS.icmpNo X21.here hx rfl (hb hby at_187) rfl (teq (rfl : ((own_E p1 p2 p3 (536870911 : Int32) p4 p5) ((0 : Int32)).toNatClampNeg) = ((own_E p1 p2 p3 (536870911 : Int32) p4 p5) ((0 : Int32)).toNatClampNeg))).2 ?_
    refine XS.aload X21.here hx rfl (hb hby at_190) rfl rfl ?_
    refine XS.iconst X21.here hx rfl (hb hby at_192) ?_
    refine X21.iaload hx (j := (1 : Int32)) (v := (.int ((own_E p1 p2 p3 (536870911 : Int32) p4 p5) ((1 : Int32)).toNatClampNeg))) (by exact Ar_193.1) (State.isArrayOf_alike hZ.alike Ar_193.2.1) Ar_193.2.2 hin193 hat193 (g := (mkF m 193 #[.val (.int p1), .val (.int p2), .val (.int p3), .val (.int p4), .val (.int p5), .val (.long q6), .second, .val (.int (0 : Int32)), .val (.int (536870911 : Int32)), .val (.ref b7), .val (.int ((((p4.toUInt32 >>> ((1 : Int32) &&& 31).toUInt32).toInt32) &&& (1073741823 : Int32)) % (3 : Int32))), .val (.int ((own_D p1 p2 p3 (536870911 : Int32)) (((((p4.toUInt32 >>> ((1 : Int32) &&& 31).toUInt32).toInt32) &&& (1073741823 : Int32)) % (3 : Int32))).toNatClampNeg)), .val (.int ((p5 &&& (2147483647 : Int32)) % (((own_D p1 p2 p3 (536870911 : Int32)) (((((p4.toUInt32 >>> ((1 : Int32) &&& 31).toUInt32).toInt32) &&& (1073741823 : Int32)) % (3 : Int32))).toNatClampNeg) + (1 : Int32)))), .val (.ref b11), .val (.int ((((own_E p1 p2 p3 (536870911 : Int32) p4 p5) ((0 : Int32)).toNatClampNeg) + ((own_E p1 p2 p3 (536870911 : Int32) p4 p5) ((1 : Int32)).toNatClampNeg)) + ((own_E p1 p2 p3 (536870911 : Int32) p4 p5) ((2 : Int32)).toNatClampNeg))), .val (.ref b16), .val (.ref b19)] [(.int (1 : Int32)), (.ref b19)])) rfl rfl (hb hby at_193) _ ?_
    refine XS.aload X21.here hx rfl (hb hby at_194) rfl rfl ?_
    refine XS.iconst X21.here hx rfl (hb hby at_196) ?_
    refine X21.iaload hx (j := (1 : Int32)) (v := (.int ((own_E p1 p2 p3 (536870911 : Int32) p4 p5) ((1 : Int32)).toNatClampNeg))) (by exact Ar_197.1) (State.isArrayOf_alike hZ.alike Ar_197.2.1) Ar_197.2.2 hin197 hat197 (g := (mkF m 197 #[.val (.int p1), .val (.int p2), .val (.int p3), .val (.int p4), .val (.int p5), .val (.long q6), .second, .val (.int (0 : Int32)), .val (.int (536870911 : Int32)), .val (.ref b7), .val (.int ((((p4.toUInt32 >>> ((1 : Int32) &&& 31).toUInt32).toInt32) &&& (1073741823 : Int32)) % (3 : Int32))), .val (.int ((own_D p1 p2 p3 (536870911 : Int32)) (((((p4.toUInt32 >>> ((1 : Int32) &&& 31).toUInt32).toInt32) &&& (1073741823 : Int32)) % (3 : Int32))).toNatClampNeg)), .val (.int ((p5 &&& (2147483647 : Int32)) % (((own_D p1 p2 p3 (536870911 : Int32)) (((((p4.toUInt32 >>> ((1 : Int32) &&& 31).toUInt32).toInt32) &&& (1073741823 : Int32)) % (3 : Int32))).toNatClampNeg) + (1 : Int32)))), .val (.ref b11), .val (.int ((((own_E p1 p2 p3 (536870911 : Int32) p4 p5) ((0 : Int32)).toNatClampNeg) + ((own_E p1 p2 p3 (536870911 : Int32) p4 p5) ((1 : Int32)).toNatClampNeg)) + ((own_E p1 p2 p3 (536870911 : Int32) p4 p5) ((2 : Int32)).toNatClampNeg))), .val (.ref b16), .val (.ref b19)] [(.int (1 : Int32)), (.ref b11), (.int ((own_E p1 p2 p3 (536870911 : Int32) p4 p5) ((1 : Int32)).toNatClampNeg))])) rfl rfl (hb hby at_197) _ ?_
    refine XS.icmpNo X21.here hx rfl (hb hby at_198) rfl (teq (rfl : ((own_E p1 p2 p3 (536870911 : Int32) p4 p5) ((1 : Int32)).toNatClampNeg) = ((own_E p1 p2 p3 (536870911 : Int32) p4 p5) ((1 : Int32)).toNatClampNeg))).2 ?_
    refine XS.aload X21.here hx rfl (hb hby at_201) rfl rfl ?_
    refine XS.iconst X21.here hx rfl (hb hby at_203) ?_
    refine X21.iaload hx (j := (2 : Int32)) (v := (.int ((own_E p1 p2 p3 (536870911 : Int32) p4 p5) ((2 : Int32)).toNatClampNeg))) (by exact Ar_204.1) (State.isArrayOf_alike hZ.alike Ar_204.2.1) Ar_204.2.2 hin204 hat204 (g := (mkF m 204 #[.val (.int p1), .val (.int p2), .val (.int p3), .val (.int p4), .val (.int p5), .val (.long q6), .second, .val (.int (0 : Int32)), .val (.int (536870911 : Int32)), .val (.ref b7), .val (.int ((((p4.toUInt32 >>> ((1 : Int32) &&& 31).toUInt32).toInt32) &&& (1073741823 : Int32)) % (3 : Int32))), .val (.int ((own_D p1 p2 p3 (536870911 : Int32)) (((((p4.toUInt32 >>> ((1 : Int32) &&& 31).toUInt32).toInt32) &&& (1073741823 : Int32)) % (3 : Int32))).toNatClampNeg)), .val (.int ((p5 &&& (2147483647 : Int32)) % (((own_D p1 p2 p3 (536870911 : Int32)) (((((p4.toUInt32 >>> ((1 : Int32) &&& 31).toUInt32).toInt32) &&& (1073741823 : Int32)) % (3 : Int32))).toNatClampNeg) + (1 : Int32)))), .val (.ref b11), .val (.int ((((own_E p1 p2 p3 (536870911 : Int32) p4 p5) ((0 : Int32)).toNatClampNeg) + ((own_E p1 p2 p3 (536870911 : Int32) p4 p5) ((1 : Int32)).toNatClampNeg)) + ((own_E p1 p2 p3 (536870911 : Int32) p4 p5) ((2 : Int32)).toNatClampNeg))), .val (.ref b16), .val (.ref b19)] [(.int (2 : Int32)), (.ref b19)])) rfl rfl (hb hby at_204) _ ?_
    refine XS.aload X21.here hx rfl (hb hby at_205) rfl rfl ?_
    refine XS.iconst X21.here hx rfl (hb hby at_207) ?_
    refine X21.iaload hx (j := (2 : Int32)) (v := (.int ((own_E p1 p2 p3 (536870911 : Int32) p4 p5) ((2 : Int32)).toNatClampNeg))) (by exact Ar_208.1) (State.isArrayOf_alike hZ.alike Ar_208.2.1) Ar_208.2.2 hin208 hat208 (g := (mkF m 208 #[.val (.int p1), .val (.int p2), .val (.int p3), .val (.int p4), .val (.int p5), .val (.long q6), .second, .val (.int (0 : Int32)), .val (.int (536870911 : Int32)), .val (.ref b7), .val (.int ((((p4.toUInt32 >>> ((1 : Int32) &&& 31).toUInt32).toInt32) &&& (1073741823 : Int32)) % (3 : Int32))), .val (.int ((own_D p1 p2 p3 (536870911 : Int32)) (((((p4.toUInt32 >>> ((1 : Int32) &&& 31).toUInt32).toInt32) &&& (1073741823 : Int32)) % (3 : Int32))).toNatClampNeg)), .val (.int ((p5 &&& (2147483647 : Int32)) % (((own_D p1 p2 p3 (536870911 : Int32)) (((((p4.toUInt32 >>> ((1 : Int32) &&& 31).toUInt32).toInt32) &&& (1073741823 : Int32)) % (3 : Int32))).toNatClampNeg) + (1 : Int32)))), .val (.ref b11), .val (.int ((((own_E p1 p2 p3 (536870911 : Int32) p4 p5) ((0 : Int32)).toNatClampNeg) + ((own_E p1 p2 p3 (536870911 : Int32) p4 p5) ((1 : Int32)).toNatClampNeg)) + ((own_E p1 p2 p3 (536870911 : Int32) p4 p5) ((2 : Int32)).toNatClampNeg))), .val (.ref b16), .val (.ref b19)] [(.int (2 : Int32)), (.ref b11), (.int ((own_E p1 p2 p3 (536870911 : Int32) p4 p5) ((2 : Int32)).toNatClampNeg))])) rfl rfl (hb hby at_208) _ ?_
    refine XS.icmpNo X21.here hx rfl (hb hby at_209) rfl (teq (rfl : ((own_E p1 p2 p3 (536870911 : Int32) p4 p5) ((2 : Int32)).toNatClampNeg) = ((own_E p1 p2 p3 (536870911 : Int32) p4 p5) ((2 : Int32)).toNatClampNeg))).2 ?_
    refine XS.iconst X21.here hx rfl (hb hby at_212) ?_
    refine XS.goto X21.here hx rfl (pc0 := 213) (pc' := 217) rfl (hb hby at_213) (by decide) (by decide) ?_
    exact retN X21 hx (t := .boolean) Bd.returns (by simp) (hb hby at_217) hr
  · show Q0 Z p1 p2 p3 p4 p5 q6 h0 n0 _ T21.heap _
    exact ⟨rfl, N21⟩
theorem rm0 (l : Launch) (Z : State) (a0 : Array Value) (hw : ∀ d ∈ tables_1, d.before a0 Z = true) (ws : List Jvm.Cond) (p1 : Int32) (p2 : Int32) (p3 : Int32) (p4 : Int32) (p5 : Int32) (q6 : Int64) (h0 : Heap) (n0 : Nat) (Z0 : n0 ≤ h0.size) :
    MetFree l x (head1 (Jvm.Cond.code x code maxLocals ret :: ws) room_1) (fun a U => a = #[(.int p1), (.int p2), (.int p3), (.int p4), (.int p5), (.long q6)] ∧ Z.Warmed39 U.vm ∧ U.heap = h0) (fun _ _ _ _ _ => True) (fun _ U o U' => ∃ v L, o = .returned v ∧ Q0 Z p1 p2 p3 p4 p5 q6 h0 n0 v U'.heap L ∧ FrameEnd U o U' L room_1.cells room_1.slots) := by
  by_cases c : (p4 &&& (1 : Int32)) = 0
  · exact rm0_1 l Z a0 hw ws p1 p2 p3 p4 p5 q6 h0 n0 Z0 c (own_cnb (p5 := p5) (own_bd2 (p1 := p1) (p2 := p2) (p3 := p3) own_m29 (own_slb p4).2)).1
  · exact rm0_0 l Z a0 hw ws p1 p2 p3 p4 p5 q6 h0 n0 Z0 c (own_cnb (p5 := p5) (own_bd2 (p1 := p1) (p2 := p2) (p3 := p3) own_m63 (own_slb p4).2)).1
set_option maxRecDepth 65536 in
set_option maxHeartbeats 40000000 in
theorem comes_1 {Post : Tables → Env → Array Value → State → Outcome → State → Prop} (hpost : ∀ tb e args s v u, (limb_1_1.after args s (.returned v) u = true ∧ limb_1_2.after args s (.returned v) u = true ∧ True) → FrameEnd s (.returned v) u (Jvm.fieldLocs frame_1_writes args s ++ Jvm.arrayLocs frame_1_arrays args s ++ Jvm.staticLocs frame_1_statics s) 24 128 → Post tb e args s (.returned v) u) :
    ArmFor flags0 classFile x code maxLocals ret World_1 tables_1 room_1 Calls_1 rest_1 Pre_1 Post := by
  intro l hfl _ _ p e ha hc hk s m args below hf hA hF happ hP
  obtain ⟨hcalls, hrest, hpre⟩ := hP
  obtain ⟨-, -, -, hnamed, -, -, -, hat⟩ := (Spec.applies_iff hf).mp happ
  obtain ⟨hg, hn⟩ := and_e (Cond.before_iff.mp (show (Jvm.Cond.and given_1 narrow_1).before args s = true from hpre))
  obtain ⟨g22, g23⟩ := and_e hg
  obtain ⟨g24, g25⟩ := and_e g23
  obtain ⟨g26, g27⟩ := and_e g25
  obtain ⟨g28, g29⟩ := and_e g27
  obtain ⟨g30, g31⟩ := and_e g29
  obtain ⟨g32, g33⟩ := and_e g31
  obtain ⟨w0, w1, w2, w3, w4, w5, rfl⟩ : ∃ w0 w1 w2 w3 w4 w5 : Value, args = #[w0, w1, w2, w3, w4, w5] := by
    have hs : args.size = 6 := by simpa [Cond.value, given_1] using g22
    obtain ⟨L⟩ := args
    match L, hs with
    | [w0, w1, w2, w3, w4, w5], _ => exact ⟨w0, w1, w2, w3, w4, w5, rfl⟩
  have hw := fun d (hd : d ∈ tables_1) => atoms_spec (ws := Jvm.Cond.code x code maxLocals ret :: tables_1) hat d (List.mem_cons_of_mem _ hd)
  have hfit : Fit s := fun {y c} hc i hi => by
    obtain ⟨ha, rfl⟩ := Array.getElem?_eq_some_iff.mp hc
    have q := List.all_eq_true.mp ((Array.all_eq_true_iff_forall_mem.mp hF) _ (Array.getElem_mem ha)) i (List.mem_range.mpr hi)
    simpa [Array.getElem?_eq_getElem hi] using q
  obtain ⟨i0, ei0⟩ := is_v g24
  obtain rfl : w0 = (.int i0) := Option.some.inj ei0
  obtain ⟨i1, ei1⟩ := is_v g26
  obtain rfl : w1 = (.int i1) := Option.some.inj ei1
  obtain ⟨i2, ei2⟩ := is_v g28
  obtain rfl : w2 = (.int i2) := Option.some.inj ei2
  obtain ⟨i3, ei3⟩ := is_v g30
  obtain rfl : w3 = (.int i3) := Option.some.inj ei3
  obtain ⟨i4, ei4⟩ := is_v g32
  obtain rfl : w4 = (.int i4) := Option.some.inj ei4
  obtain ⟨i5, ei5⟩ := isL_v g33
  obtain rfl : w5 = (.long i5) := Option.some.inj ei5
  obtain ⟨n, o, h1, h2, h3, _, L, rfl, ⟨rfl, N⟩, hq⟩ := rm0 l s _ hw tables_1 i0 i1 i2 i3 i4 i5 s.heap s.heap.size (Nat.le_refl _) p e ha hc hk s m _ below hf ((Spec.applies_iff_loose hf).mp happ).1 ⟨rfl, State.Warmed39.refl s, rfl⟩ trivial
  refine ⟨n, _, h1, h2, h3, hpost _ _ _ _ _ _ ⟨Cond.after_iff.mpr rfl, Cond.after_iff.mpr (eq_i res_at (Term.int_eval (1)) rfl), trivial⟩ ⟨hq.1, hq.2.1, (hq.2.2.sift fun y hy => Or.inr (N y hy)).mono (by decide) (by decide)⟩⟩
theorem main_1_1 : Claimed_1_1 := comes_1 fun _ _ _ _ _ _ h hF => ⟨h.1, hF⟩
theorem main_1_2 : Claimed_1_2 := comes_1 fun _ _ _ _ _ _ h hF => ⟨h.2.1, hF⟩
end Jvm.Pilot.@@N@@
namespace Jvm.Pilot.@@N@@
open Jvm Jvm.ClassFile Sem Op Lib Jvm.Free Jvm.Stand Jvm.Pilot.@@N@@.Jvm.D
/-! MADE BY PROGRAM (witnessworld.py) out of the Statement's table words and the real class files: 13 classes; the members and pool entries that the words name. The judged class is class 1, her method 1. -/
namespace start1
open Jvm.ClassFile
def u (s : String) : CpInfo := .utf8 (stringToUtf16 s)
/-- a pool by its gaps: so many unusable entries, then the entry; so many at the end -/
def gap : Nat → List CpInfo → List CpInfo
  | 0, r => r
  | n + 1, r => .unusable :: gap n r
def poolList (es : List (Nat × CpInfo)) (last : Nat) : List CpInfo := es.foldr (fun e r => gap e.1 (e.2 :: r)) (gap last [])
def pool (es : List (Nat × CpInfo)) (last : Nat) : Array CpInfo := ⟨poolList es last⟩
def fileOf (pool : Array CpInfo) (this : Nat) (attrs : Array Attribute := #[]) (ms : Array MethodInfo := #[]) (fl : Nat := 33) (sup : Nat := 0) (ifs : Array Nat := #[]) (fds : Array FieldInfo := #[]) : ClassFile where
  minorVersion := 0
  majorVersion := 65
  constantPool := pool
  accessFlags := fl
  thisClass := this
  superClass := sup
  interfaces := ifs
  fields := fds
  methods := ms
  attributes := attrs
def plain (name : String) (sup : Option ClassId) : Class where
  name := name
  kind := .ordinary
  loader := none
  accessFlags := 33
  super := sup
  interfaces := #[]
  cf := none
  fields := #[]
  methods := #[]
  instanceTypes := #[]
  staticTypes := #[]
  resolved := #[]
  callSites := []
  init := .initialized
  statics := none
  mirror := none

def pool0 : Array CpInfo := pool [(5, u "<init>"), (0, u "()V"), (1, .class_ 10), (1, u "java/lang/Object"), (85, u "clone"), (0, u "()Ljava/lang/Object;")] 26

def k0c0 : Code := { maxStack := 0, maxLocals := 1, code := object_method_1_code, exceptionTable := #[], attributes := #[] }
def k0m0 : Method := { name := "<init>", desc := "()V", sig := { parameters := [], returnType := none }, accessFlags := 1, code := some k0c0 }
def k0m1 : Method := { name := "clone", desc := "()Ljava/lang/Object;", sig := { parameters := [], returnType := some (.object "java/lang/Object") }, accessFlags := 260, code := none }
/-- java/lang/Object -/
def k0 : Class := { plain "java/lang/Object" none with
  accessFlags := 33
  interfaces := #[]
  cf := some (fileOf pool0 8 #[] #[{ accessFlags := 1, nameIndex := 5, descriptorIndex := 6, attributes := #[] }, { accessFlags := 260, nameIndex := 96, descriptorIndex := 97, attributes := #[] }] 33 0 #[] #[])
  fields := #[]
  methods := #[k0m0, k0m1]
  instanceTypes := #[]
  staticTypes := #[]
  resolved := Array.replicate 124 none
  statics := none }

def pool1 : Array CpInfo := pool [(2, .class_ 4), (1, u "java/lang/Object"), (0, u "<init>"), (0, u "()V"), (0, .integer 536870911), (0, .integer 1073741823), (0, .integer 2147483647), (0, .class_ 11), (0, u "com/example/binario/binario/rules/PassengerBag"), (0, .methodref 10 13), (0, .nameAndType 5 14), (0, u "([I)V"), (0, .methodref 10 16), (0, .nameAndType 17 18), (0, u "remove"), (0, u "(II)V"), (0, .methodref 20 21), (0, .class_ 22), (0, .nameAndType 23 24), (0, u "com/example/binario/binario/rules/SeededRandom"), (0, u "passengerDraws"), (0, u "(J)Lcom/example/binario/binario/rules/SeededRandom;"), (0, .methodref 10 26), (0, .nameAndType 27 28), (0, u "draw"), (0, u "(I[ILcom/example/binario/binario/rules/SeededRandom;)V"), (0, .class_ 30), (0, u "com/example/binario/binario/rules/PassengerBagRemovePinLaw"), (2, u "law"), (0, u "(IIIIIJ)Z")] 5

def k1m0 : Method := { name := "<init>", desc := "()V", sig := { parameters := [], returnType := none }, accessFlags := 1, code := none }
def k1c1 : Code := { maxStack := 5, maxLocals := 17, code := code, exceptionTable := #[], attributes := #[] }
def k1m1 : Method := { name := "law", desc := "(IIIIIJ)Z", sig := { parameters := [.int, .int, .int, .int, .int, .long], returnType := some .boolean }, accessFlags := 9, code := some k1c1 }
/-- com/example/binario/binario/rules/PassengerBagRemovePinLaw -/
def k1 : Class := { plain "com/example/binario/binario/rules/PassengerBagRemovePinLaw" (some 0) with
  accessFlags := 49
  interfaces := #[]
  cf := some (fileOf pool1 29 #[] #[{ accessFlags := 1, nameIndex := 5, descriptorIndex := 6, attributes := #[] }, { accessFlags := 9, nameIndex := 33, descriptorIndex := 34, attributes := #[] }] 49 2 #[] #[])
  fields := #[]
  methods := #[k1m0, k1m1]
  instanceTypes := #[]
  staticTypes := #[]
  resolved := Array.replicate 40 none
  statics := none }

def pool2 : Array CpInfo := pool [(1, .methodref 2 3), (0, .class_ 4), (0, .nameAndType 5 6), (0, u "java/lang/Object"), (0, u "<init>"), (0, u "()V"), (0, .methodref 8 9), (0, .class_ 10), (0, .nameAndType 11 12), (0, u "[I"), (0, u "clone"), (0, u "()Ljava/lang/Object;"), (0, .fieldref 14 15), (0, .class_ 16), (0, .nameAndType 17 10), (0, u "com/example/binario/binario/rules/PassengerBag"), (0, u "counts"), (0, .fieldref 14 19), (0, .nameAndType 20 21), (0, u "left"), (0, u "I"), (0, .methodref 23 24), (0, .class_ 25), (0, .nameAndType 26 27), (0, u "java/lang/Math"), (0, u "addExact"), (0, u "(II)I"), (0, .methodref 29 30), (0, .class_ 31), (0, .nameAndType 32 33), (0, u "com/example/binario/binario/rules/Hypergeometric"), (0, u "draw"), (0, u "(Lcom/example/binario/binario/rules/SeededRandom;III)I"), (0, .methodref 35 36), (0, .class_ 37), (0, .nameAndType 38 39), (0, u "java/util/Arrays"), (0, u "fill"), (0, u "([II)V"), (0, .methodref 41 42), (0, .class_ 43), (0, .nameAndType 44 45), (0, u "com/example/binario/binario/rules/SeededRandom"), (0, u "nextInt"), (0, u "(I)I"), (0, u "DRAWN_ONE_AT_A_TIME"), (2, u "([I)V"), (3, u "remove"), (0, u "(II)V"), (0, u "(I[ILcom/example/binario/binario/rules/SeededRandom;)V")] 2

def k2c0 : Code := { maxStack := 3, maxLocals := 6, code := prog_68_method_1_code, exceptionTable := #[], attributes := #[] }
def k2m0 : Method := { name := "<init>", desc := "([I)V", sig := { parameters := [(.array .int)], returnType := none }, accessFlags := 0, code := some k2c0 }
def k2c1 : Code := { maxStack := 4, maxLocals := 3, code := prog_68_method_2_code, exceptionTable := #[], attributes := #[] }
def k2m1 : Method := { name := "remove", desc := "(II)V", sig := { parameters := [.int, .int], returnType := none }, accessFlags := 0, code := some k2c1 }
def k2c2 : Code := { maxStack := 5, maxLocals := 8, code := prog_68_method_3_code, exceptionTable := #[], attributes := #[] }
def k2m2 : Method := { name := "draw", desc := "(I[ILcom/example/binario/binario/rules/SeededRandom;)V", sig := { parameters := [.int, (.array .int), (.object "com/example/binario/binario/rules/SeededRandom")], returnType := none }, accessFlags := 0, code := some k2c2 }
/-- com/example/binario/binario/rules/PassengerBag -/
def k2 : Class := { plain "com/example/binario/binario/rules/PassengerBag" (some 0) with
  accessFlags := 48
  interfaces := #[]
  cf := some (fileOf pool2 14 #[] #[{ accessFlags := 0, nameIndex := 5, descriptorIndex := 49, attributes := #[] }, { accessFlags := 0, nameIndex := 53, descriptorIndex := 54, attributes := #[] }, { accessFlags := 0, nameIndex := 32, descriptorIndex := 55, attributes := #[] }] 48 2 #[] #[{ accessFlags := 24, nameIndex := 46, descriptorIndex := 21, attributes := #[] }, { accessFlags := 18, nameIndex := 17, descriptorIndex := 10, attributes := #[] }, { accessFlags := 2, nameIndex := 20, descriptorIndex := 21, attributes := #[] }])
  fields := #[{ name := "DRAWN_ONE_AT_A_TIME", type := .int, accessFlags := 24, slot := 0, constantValue := 0 }, { name := "counts", type := (.array .int), accessFlags := 18, slot := 0, constantValue := 0 }, { name := "left", type := .int, accessFlags := 2, slot := 1, constantValue := 0 }]
  methods := #[k2m0, k2m1, k2m2]
  instanceTypes := #[(.array .int), .int]
  staticTypes := #[.int]
  resolved := Array.replicate 58 none
  statics := none }

def pool3 : Array CpInfo := pool [(1, .class_ 2), (0, u "java/lang/Cloneable"), (0, .class_ 4), (0, u "java/lang/Object")] 2

/-- java/lang/Cloneable -/
def k3 : Class := { plain "java/lang/Cloneable" (some 0) with
  accessFlags := 1537
  interfaces := #[]
  cf := some (fileOf pool3 1 #[] #[] 1537 3 #[] #[])
  fields := #[]
  methods := #[]
  instanceTypes := #[]
  staticTypes := #[]
  resolved := Array.replicate 7 none
  statics := none }

def pool4 : Array CpInfo := pool [(1, .class_ 2), (0, u "java/lang/Math"), (1, .class_ 6), (1, u "java/lang/Object"), (0, u "<init>"), (0, u "()V"), (89, .class_ 100), (1, u "java/lang/Math$RandomNumberGeneratorHolder"), (71, u "negativeZeroFloatBits"), (0, u "J"), (2, u "negativeZeroDoubleBits"), (68, u "$assertionsDisabled"), (0, u "Z"), (88, u "(II)I"), (2, u "twoToTheDoubleScaleDown"), (0, u "D"), (4, u "twoToTheDoubleScaleUp"), (9, u "E"), (3, u "PI"), (2, u "TAU"), (2, u "DEGREES_TO_RADIANS"), (0, u "RADIANS_TO_DEGREES"), (27, u "addExact")] 66

def k4m0 : Method := { name := "<init>", desc := "()V", sig := { parameters := [], returnType := none }, accessFlags := 2, code := none }
def k4c1 : Code := { maxStack := 3, maxLocals := 3, code := jdk_29_method_24_code, exceptionTable := #[], attributes := #[] }
def k4m1 : Method := { name := "addExact", desc := "(II)I", sig := { parameters := [.int, .int], returnType := some .int }, accessFlags := 9, code := some k4c1 }
/-- java/lang/Math -/
def k4 : Class := { plain "java/lang/Math" (some 0) with
  accessFlags := 49
  interfaces := #[]
  cf := some (fileOf pool4 1 #[.nestMembers #[98]] #[{ accessFlags := 2, nameIndex := 7, descriptorIndex := 8, attributes := #[] }, { accessFlags := 9, nameIndex := 393, descriptorIndex := 335, attributes := #[] }] 49 4 #[] #[{ accessFlags := 25, nameIndex := 354, descriptorIndex := 339, attributes := #[] }, { accessFlags := 25, nameIndex := 358, descriptorIndex := 339, attributes := #[] }, { accessFlags := 25, nameIndex := 361, descriptorIndex := 339, attributes := #[] }, { accessFlags := 26, nameIndex := 364, descriptorIndex := 339, attributes := #[] }, { accessFlags := 26, nameIndex := 365, descriptorIndex := 339, attributes := #[] }, { accessFlags := 26, nameIndex := 172, descriptorIndex := 173, attributes := #[] }, { accessFlags := 26, nameIndex := 176, descriptorIndex := 173, attributes := #[] }, { accessFlags := 8, nameIndex := 344, descriptorIndex := 339, attributes := #[] }, { accessFlags := 8, nameIndex := 338, descriptorIndex := 339, attributes := #[] }, { accessFlags := 4120, nameIndex := 245, descriptorIndex := 246, attributes := #[] }])
  fields := #[{ name := "E", type := .double, accessFlags := 25, slot := 0, constantValue := 0 }, { name := "PI", type := .double, accessFlags := 25, slot := 1, constantValue := 0 }, { name := "TAU", type := .double, accessFlags := 25, slot := 2, constantValue := 0 }, { name := "DEGREES_TO_RADIANS", type := .double, accessFlags := 26, slot := 3, constantValue := 0 }, { name := "RADIANS_TO_DEGREES", type := .double, accessFlags := 26, slot := 4, constantValue := 0 }, { name := "negativeZeroFloatBits", type := .long, accessFlags := 26, slot := 5, constantValue := 0 }, { name := "negativeZeroDoubleBits", type := .long, accessFlags := 26, slot := 6, constantValue := 0 }, { name := "twoToTheDoubleScaleUp", type := .double, accessFlags := 8, slot := 7, constantValue := 0 }, { name := "twoToTheDoubleScaleDown", type := .double, accessFlags := 8, slot := 8, constantValue := 0 }, { name := "$assertionsDisabled", type := .boolean, accessFlags := 4120, slot := 9, constantValue := 0 }]
  methods := #[k4m0, k4m1]
  instanceTypes := #[]
  staticTypes := #[.double, .double, .double, .double, .double, .long, .long, .double, .double, .boolean]
  resolved := Array.replicate 460 none
  statics := none }

def pool5 : Array CpInfo := pool [(1, .methodref 2 3), (0, .class_ 4), (0, .nameAndType 5 6), (0, u "java/lang/Object"), (0, u "<init>"), (0, u "()V"), (0, .class_ 8), (0, u "com/example/binario/binario/rules/SeededRandom"), (0, .long 11400714819323198485), (1, .methodref 7 12), (0, .nameAndType 13 14), (0, u "mix"), (0, u "(J)J"), (0, .fieldref 7 16), (0, .nameAndType 17 18), (0, u "state"), (0, u "J"), (0, .methodref 7 20), (0, .nameAndType 5 21), (0, u "(JJ)V"), (2, .long 4), (12, .methodref 7 38), (0, .nameAndType 39 40), (0, u "nextLong"), (0, u "()J"), (0, .long 4294967295), (1, .long 4294967296), (5, u "nextInt"), (0, u "(I)I"), (0, .long 13787848793156543929), (1, .long 10723151780598845931), (1, u "GOLDEN_GAMMA"), (1, u "SHUFFLES"), (2, u "CHOICES"), (0, u "TICKET_SHUFFLES"), (0, u "PASSENGER_DRAWS"), (3, u "(J)Lcom/example/binario/binario/rules/SeededRandom;"), (1, u "passengerDraws")] 23

def k5c0 : Code := { maxStack := 5, maxLocals := 5, code := prog_76_method_1_code, exceptionTable := #[], attributes := #[] }
def k5m0 : Method := { name := "<init>", desc := "(JJ)V", sig := { parameters := [.long, .long], returnType := none }, accessFlags := 2, code := some k5c0 }
def k5c1 : Code := { maxStack := 6, maxLocals := 2, code := prog_76_method_4_code, exceptionTable := #[], attributes := #[] }
def k5m1 : Method := { name := "passengerDraws", desc := "(J)Lcom/example/binario/binario/rules/SeededRandom;", sig := { parameters := [.long], returnType := some (.object "com/example/binario/binario/rules/SeededRandom") }, accessFlags := 9, code := some k5c1 }
def k5c2 : Code := { maxStack := 5, maxLocals := 1, code := prog_76_method_6_code, exceptionTable := #[], attributes := #[] }
def k5m2 : Method := { name := "nextLong", desc := "()J", sig := { parameters := [], returnType := some .long }, accessFlags := 2, code := some k5c2 }
def k5c3 : Code := { maxStack := 4, maxLocals := 6, code := prog_76_method_7_code, exceptionTable := #[], attributes := #[] }
def k5m3 : Method := { name := "nextInt", desc := "(I)I", sig := { parameters := [.int], returnType := some .int }, accessFlags := 1, code := some k5c3 }
def k5c4 : Code := { maxStack := 5, maxLocals := 2, code := prog_76_method_10_code, exceptionTable := #[], attributes := #[] }
def k5m4 : Method := { name := "mix", desc := "(J)J", sig := { parameters := [.long], returnType := some .long }, accessFlags := 10, code := some k5c4 }
/-- com/example/binario/binario/rules/SeededRandom -/
def k5 : Class := { plain "com/example/binario/binario/rules/SeededRandom" (some 0) with
  accessFlags := 49
  interfaces := #[]
  cf := some (fileOf pool5 7 #[] #[{ accessFlags := 2, nameIndex := 5, descriptorIndex := 21, attributes := #[] }, { accessFlags := 9, nameIndex := 68, descriptorIndex := 66, attributes := #[] }, { accessFlags := 2, nameIndex := 39, descriptorIndex := 40, attributes := #[] }, { accessFlags := 1, nameIndex := 49, descriptorIndex := 50, attributes := #[] }, { accessFlags := 10, nameIndex := 13, descriptorIndex := 14, attributes := #[] }] 49 2 #[] #[{ accessFlags := 26, nameIndex := 55, descriptorIndex := 18, attributes := #[] }, { accessFlags := 26, nameIndex := 57, descriptorIndex := 18, attributes := #[] }, { accessFlags := 26, nameIndex := 60, descriptorIndex := 18, attributes := #[] }, { accessFlags := 26, nameIndex := 61, descriptorIndex := 18, attributes := #[] }, { accessFlags := 26, nameIndex := 62, descriptorIndex := 18, attributes := #[] }, { accessFlags := 2, nameIndex := 17, descriptorIndex := 18, attributes := #[] }])
  fields := #[{ name := "GOLDEN_GAMMA", type := .long, accessFlags := 26, slot := 0, constantValue := 0 }, { name := "SHUFFLES", type := .long, accessFlags := 26, slot := 1, constantValue := 0 }, { name := "CHOICES", type := .long, accessFlags := 26, slot := 2, constantValue := 0 }, { name := "TICKET_SHUFFLES", type := .long, accessFlags := 26, slot := 3, constantValue := 0 }, { name := "PASSENGER_DRAWS", type := .long, accessFlags := 26, slot := 4, constantValue := 0 }, { name := "state", type := .long, accessFlags := 2, slot := 0, constantValue := 0 }]
  methods := #[k5m0, k5m1, k5m2, k5m3, k5m4]
  instanceTypes := #[.long]
  staticTypes := #[.long, .long, .long, .long, .long]
  resolved := Array.replicate 92 none
  statics := none }

def pool6 : Array CpInfo := pool [(2, .class_ 4), (1, u "java/lang/Object"), (0, u "<init>"), (0, u "()V"), (7, .class_ 16), (1, u "java/util/Arrays"), (57, .class_ 76), (1, u "java/util/Arrays$NaturalOrder"), (36, .class_ 115), (1, u "java/util/Arrays$LegacyMergeSort"), (1, u "Z"), (257, .class_ 376), (0, u "java/util/Arrays$ArrayList"), (68, u "$assertionsDisabled"), (269, u "MIN_ARRAY_SORT_GRAN"), (0, u "I"), (2, u "INSERTIONSORT_THRESHOLD"), (120, u "fill"), (4, u "([II)V"), (129, .class_ 976), (0, u "java/util/Arrays$ArrayItr")] 52

def k6m0 : Method := { name := "<init>", desc := "()V", sig := { parameters := [], returnType := none }, accessFlags := 2, code := none }
def k6c1 : Code := { maxStack := 3, maxLocals := 4, code := jdk_65_method_103_code, exceptionTable := #[], attributes := #[] }
def k6m1 : Method := { name := "fill", desc := "([II)V", sig := { parameters := [(.array .int), .int], returnType := none }, accessFlags := 9, code := some k6c1 }
/-- java/util/Arrays -/
def k6 : Class := { plain "java/util/Arrays" (some 0) with
  accessFlags := 49
  interfaces := #[]
  cf := some (fileOf pool6 14 #[.nestMembers #[975, 375, 113, 74]] #[{ accessFlags := 2, nameIndex := 5, descriptorIndex := 6, attributes := #[] }, { accessFlags := 9, nameIndex := 840, descriptorIndex := 845, attributes := #[] }] 49 2 #[] #[{ accessFlags := 26, nameIndex := 715, descriptorIndex := 716, attributes := #[] }, { accessFlags := 26, nameIndex := 719, descriptorIndex := 716, attributes := #[] }, { accessFlags := 4120, nameIndex := 445, descriptorIndex := 117, attributes := #[] }])
  fields := #[{ name := "MIN_ARRAY_SORT_GRAN", type := .int, accessFlags := 26, slot := 0, constantValue := 0 }, { name := "INSERTIONSORT_THRESHOLD", type := .int, accessFlags := 26, slot := 1, constantValue := 0 }, { name := "$assertionsDisabled", type := .boolean, accessFlags := 4120, slot := 2, constantValue := 0 }]
  methods := #[k6m0, k6m1]
  instanceTypes := #[]
  staticTypes := #[.int, .int, .boolean]
  resolved := Array.replicate 1029 none
  statics := none }

def pool7 : Array CpInfo := pool [(2, .class_ 4), (1, u "java/lang/Object"), (0, u "<init>"), (0, u "()V"), (9, .methodref 17 18), (0, .class_ 19), (0, .nameAndType 20 21), (0, u "com/example/binario/binario/rules/Hypergeometric"), (0, u "count"), (0, u "(Lcom/example/binario/binario/rules/SeededRandom;III)I"), (0, .methodref 23 24), (0, .class_ 25), (0, .nameAndType 26 27), (0, u "com/example/binario/binario/rules/SeededRandom"), (0, u "nextInt"), (0, u "(I)I"), (0, .double 4602678819172646912), (3, u "SPAN_PER_DEVIATION"), (0, u "D"), (8, u "SPAN_AT_LEAST"), (0, .long 2), (9, .double 4611686018427387904), (12, u "LOG_FACTORIALS"), (0, u "[D"), (8, u "LOG_ROOT_TWO_PI"), (22, u "ONE_AT_A_TIME"), (0, u "I"), (2, u "TABLED"), (3, u "draw")] 19

def k7m0 : Method := { name := "<init>", desc := "()V", sig := { parameters := [], returnType := none }, accessFlags := 2, code := none }
def k7c1 : Code := { maxStack := 5, maxLocals := 10, code := prog_61_method_2_code, exceptionTable := #[], attributes := #[] }
def k7m1 : Method := { name := "draw", desc := "(Lcom/example/binario/binario/rules/SeededRandom;III)I", sig := { parameters := [(.object "com/example/binario/binario/rules/SeededRandom"), .int, .int, .int], returnType := some .int }, accessFlags := 8, code := some k7c1 }
def k7c2 : Code := { maxStack := 8, maxLocals := 25, code := prog_61_method_3_code, exceptionTable := #[], attributes := #[] }
def k7m2 : Method := { name := "count", desc := "(Lcom/example/binario/binario/rules/SeededRandom;III)I", sig := { parameters := [(.object "com/example/binario/binario/rules/SeededRandom"), .int, .int, .int], returnType := some .int }, accessFlags := 10, code := some k7c2 }
/-- com/example/binario/binario/rules/Hypergeometric -/
def k7 : Class := { plain "com/example/binario/binario/rules/Hypergeometric" (some 0) with
  accessFlags := 48
  interfaces := #[]
  cf := some (fileOf pool7 17 #[] #[{ accessFlags := 2, nameIndex := 5, descriptorIndex := 6, attributes := #[] }, { accessFlags := 8, nameIndex := 107, descriptorIndex := 21, attributes := #[] }, { accessFlags := 10, nameIndex := 20, descriptorIndex := 21, attributes := #[] }] 48 2 #[] #[{ accessFlags := 24, nameIndex := 99, descriptorIndex := 100, attributes := #[] }, { accessFlags := 26, nameIndex := 32, descriptorIndex := 33, attributes := #[] }, { accessFlags := 26, nameIndex := 42, descriptorIndex := 33, attributes := #[] }, { accessFlags := 26, nameIndex := 103, descriptorIndex := 100, attributes := #[] }, { accessFlags := 26, nameIndex := 66, descriptorIndex := 67, attributes := #[] }, { accessFlags := 26, nameIndex := 76, descriptorIndex := 33, attributes := #[] }])
  fields := #[{ name := "ONE_AT_A_TIME", type := .int, accessFlags := 24, slot := 0, constantValue := 0 }, { name := "SPAN_PER_DEVIATION", type := .double, accessFlags := 26, slot := 1, constantValue := 0 }, { name := "SPAN_AT_LEAST", type := .double, accessFlags := 26, slot := 2, constantValue := 0 }, { name := "TABLED", type := .int, accessFlags := 26, slot := 3, constantValue := 0 }, { name := "LOG_FACTORIALS", type := (.array .double), accessFlags := 26, slot := 4, constantValue := 0 }, { name := "LOG_ROOT_TWO_PI", type := .double, accessFlags := 26, slot := 5, constantValue := 0 }]
  methods := #[k7m0, k7m1, k7m2]
  instanceTypes := #[]
  staticTypes := #[.int, .double, .double, .int, (.array .double), .double]
  resolved := Array.replicate 127 none
  statics := none }

def pool8 : Array CpInfo := pool [(1, u "java/io/Serializable"), (0, .class_ 1), (0, u "java/lang/Object"), (0, .class_ 3)] 3

/-- java/io/Serializable -/
def k8 : Class := { plain "java/io/Serializable" (some 0) with
  accessFlags := 1537
  interfaces := #[]
  cf := some (fileOf pool8 2 #[] #[] 1537 4 #[] #[])
  fields := #[]
  methods := #[]
  instanceTypes := #[]
  staticTypes := #[]
  resolved := Array.replicate 8 none
  statics := none }

/-- the primitive byte -/
def k9 : Class := { plain "byte" none with kind := .primitive 'B', accessFlags := 0x411 }
/-- [B -/
def k10 : Class := { plain "[B" (some 0) with kind := .array 9 .byte, interfaces := #[3, 8], accessFlags := 1041 }

/-- the primitive int -/
def k11 : Class := { plain "int" none with kind := .primitive 'I', accessFlags := 0x411 }
/-- [I -/
def k12 : Class := { plain "[I" (some 0) with kind := .array 11 .int, interfaces := #[3, 8], accessFlags := 1041 }

def heap : Heap := #[]
def classes : Array Class := #[k0, k1, k2, k3, k4, k5, k6, k7, k8, k9, k10, k11, k12]
def interned : List (Array UInt16 × Addr) := []
def slotsUsed : Nat := 0
def theMethod : MethodId := ⟨1, 1⟩
def args0 : Array Value := #[.int 5, .int 6, .int 7, .int 8, .int 9, .long 10]
def aboutOver (below : List Frame) : State where
  vm := { classes := classes, interned := interned.toArray }
  heap := heap
  slotsUsed := slotsUsed
  threads := #[{ frames := .invoking theMethod args0 :: below }]
def below0 : List Frame := [.native { method := ⟨0, 0⟩, args := #[] }]
def about1 : State := aboutOver below0
def p0 : Program := .bare "" "" ""
def e0 : Env := launch0.env 0 0 0
theorem w_frames : about1.frames = Frame.invoking theMethod args0 :: below0 := rfl
set_option maxRecDepth 65536 in
theorem w_args : argsFit about1.vm theMethod args0 = true := by decide +kernel
set_option maxRecDepth 65536 in
theorem w_heap : heapFits about1 = true := by decide +kernel
set_option maxRecDepth 65536 in
theorem w_runnable : about1.curStatus? = some .runnable := by decide +kernel
set_option maxRecDepth 65536 in
theorem w_alone : about1.alone = true := by decide +kernel
set_option maxRecDepth 65536 in
theorem w_named : about1.methodNamed? x = some theMethod := by decide +kernel
set_option maxRecDepth 65536 in
theorem w_hears : about1.hears theMethod below0 = true := by decide +kernel
set_option maxRecDepth 65536 in
theorem w_ripe : about1.ripe theMethod args0 below0 = true := by decide +kernel
theorem w_running : about1.status = .running := rfl
set_option maxRecDepth 65536 in
theorem w_room : about1.hasRoom e0.platform room_1 = true :=
  launch0.hasRoom_least _ room_1 (by decide +kernel) (by decide +kernel) (by decide +kernel) (by decide +kernel) (by decide +kernel) (by decide +kernel)
theorem allAtoms_all (ts : List Jvm.Cond) (a : Array Jvm.Value) (st : Jvm.State) : (allAtoms ts).before a st = ts.all (fun c => c.before a st) := by
  induction ts with
  | nil => rfl
  | cons c t ih =>
    show (Jvm.Cond.and c (allAtoms t)).before a st = _
    rw [Jvm.Cond.before_and, ih, List.all_cons]
def words1 : List Jvm.Cond := Jvm.Cond.code x code maxLocals ret :: tables_1
/-- a 'code' word, met by the world's own term for the bytes: nothing is compared byte by byte -/
theorem code_word {y : MethodName} {bytes : ByteArray} {mx : Nat} {rt : Option FieldType} {a : Array Value} {s : State} {m : MethodId} {meth : Method} {c : Code} (h1 : s.methodNamed? y = some m) (h2 : s.vm.method? m = some meth) (h3 : meth.code = some c) (h4 : c.code = bytes)
    (h5 : (c.maxLocals == mx && c.exceptionTable.isEmpty && decide (c.maxStack ≤ mostOperands) && decide (meth.sig.returnType = rt) && !meth.locks && decide (parseMethodDescriptor y.desc = some meth.sig)) = true) : (Jvm.Cond.code y bytes mx rt).before a s = true := by
  simp only [Bool.and_eq_true, beq_iff_eq, Bool.not_eq_true', decide_eq_true_eq] at h5
  obtain ⟨⟨⟨⟨⟨g1, g2⟩, g3⟩, g4⟩, g5⟩, g6⟩ := h5
  simp [Cond.before, Cond.holds, Cond.value, h1, h2, h3, h4, g1, g2, g3, g4, g5, g6]
def isCode : Jvm.Cond → Bool
  | .code _ _ _ _ => true
  | _ => false
theorem all_split {L : List Jvm.Cond} {P : Jvm.Cond → Bool} (h1 : L.all (fun c => isCode c || P c) = true) (h2 : ∀ c ∈ L.filter isCode, P c = true) : L.all P = true := by
  refine List.all_eq_true.mpr fun c hc => ?_
  have h := List.all_eq_true.mp h1 c hc
  rcases Bool.eq_false_or_eq_true (isCode c) with hi | hi
  · exact h2 c (List.mem_filter.mpr ⟨hc, hi⟩)
  · simpa [hi] using h
set_option maxRecDepth 65536 in
theorem w_c0 : (Jvm.Cond.code x code maxLocals ret).before args0 about1 = true := code_word (m := ⟨1, 1⟩) (meth := k1m1) (c := k1c1) (by decide +kernel) rfl rfl rfl (by decide +kernel)
set_option maxRecDepth 65536 in
theorem w_c1 : (Jvm.Cond.code ({ cls := "com/example/binario/binario/rules/PassengerBag", name := "<init>", desc := "([I)V" } : Jvm.MethodName) prog_68_method_1_code (6 : Nat) (Option.none : Option Jvm.ClassFile.FieldType)).before args0 about1 = true := code_word (m := ⟨2, 0⟩) (meth := k2m0) (c := k2c0) (by decide +kernel) rfl rfl rfl (by decide +kernel)
set_option maxRecDepth 65536 in
theorem w_c2 : (Jvm.Cond.code ({ cls := "java/lang/Object", name := "<init>", desc := "()V" } : Jvm.MethodName) object_method_1_code (1 : Nat) (Option.none : Option Jvm.ClassFile.FieldType)).before args0 about1 = true := code_word (m := ⟨0, 0⟩) (meth := k0m0) (c := k0c0) (by decide +kernel) rfl rfl rfl (by decide +kernel)
set_option maxRecDepth 65536 in
theorem w_c3 : (Jvm.Cond.code ({ cls := "java/lang/Math", name := "addExact", desc := "(II)I" } : Jvm.MethodName) jdk_29_method_24_code (3 : Nat) (Option.some Jvm.ClassFile.FieldType.int)).before args0 about1 = true := code_word (m := ⟨4, 1⟩) (meth := k4m1) (c := k4c1) (by decide +kernel) rfl rfl rfl (by decide +kernel)
set_option maxRecDepth 65536 in
theorem w_c4 : (Jvm.Cond.code ({ cls := "com/example/binario/binario/rules/PassengerBag", name := "remove", desc := "(II)V" } : Jvm.MethodName) prog_68_method_2_code (3 : Nat) (Option.none : Option Jvm.ClassFile.FieldType)).before args0 about1 = true := code_word (m := ⟨2, 1⟩) (meth := k2m1) (c := k2c1) (by decide +kernel) rfl rfl rfl (by decide +kernel)
set_option maxRecDepth 65536 in
theorem w_c5 : (Jvm.Cond.code ({ cls := "com/example/binario/binario/rules/SeededRandom", name := "passengerDraws", desc := "(J)Lcom/example/binario/binario/rules/SeededRandom;" } : Jvm.MethodName) prog_76_method_4_code (2 : Nat) (Option.some (Jvm.ClassFile.FieldType.object "com/example/binario/binario/rules/SeededRandom"))).before args0 about1 = true := code_word (m := ⟨5, 1⟩) (meth := k5m1) (c := k5c1) (by decide +kernel) rfl rfl rfl (by decide +kernel)
set_option maxRecDepth 65536 in
theorem w_c6 : (Jvm.Cond.code ({ cls := "com/example/binario/binario/rules/SeededRandom", name := "<init>", desc := "(JJ)V" } : Jvm.MethodName) prog_76_method_1_code (5 : Nat) (Option.none : Option Jvm.ClassFile.FieldType)).before args0 about1 = true := code_word (m := ⟨5, 0⟩) (meth := k5m0) (c := k5c0) (by decide +kernel) rfl rfl rfl (by decide +kernel)
set_option maxRecDepth 65536 in
theorem w_c7 : (Jvm.Cond.code ({ cls := "com/example/binario/binario/rules/SeededRandom", name := "mix", desc := "(J)J" } : Jvm.MethodName) prog_76_method_10_code (2 : Nat) (Option.some Jvm.ClassFile.FieldType.long)).before args0 about1 = true := code_word (m := ⟨5, 4⟩) (meth := k5m4) (c := k5c4) (by decide +kernel) rfl rfl rfl (by decide +kernel)
set_option maxRecDepth 65536 in
theorem w_c8 : (Jvm.Cond.code ({ cls := "com/example/binario/binario/rules/PassengerBag", name := "draw", desc := "(I[ILcom/example/binario/binario/rules/SeededRandom;)V" } : Jvm.MethodName) prog_68_method_3_code (8 : Nat) (Option.none : Option Jvm.ClassFile.FieldType)).before args0 about1 = true := code_word (m := ⟨2, 2⟩) (meth := k2m2) (c := k2c2) (by decide +kernel) rfl rfl rfl (by decide +kernel)
set_option maxRecDepth 65536 in
theorem w_c9 : (Jvm.Cond.code ({ cls := "java/util/Arrays", name := "fill", desc := "([II)V" } : Jvm.MethodName) jdk_65_method_103_code (4 : Nat) (Option.none : Option Jvm.ClassFile.FieldType)).before args0 about1 = true := code_word (m := ⟨6, 1⟩) (meth := k6m1) (c := k6c1) (by decide +kernel) rfl rfl rfl (by decide +kernel)
set_option maxRecDepth 65536 in
theorem w_c10 : (Jvm.Cond.code ({ cls := "com/example/binario/binario/rules/SeededRandom", name := "nextInt", desc := "(I)I" } : Jvm.MethodName) prog_76_method_7_code (6 : Nat) (Option.some Jvm.ClassFile.FieldType.int)).before args0 about1 = true := code_word (m := ⟨5, 3⟩) (meth := k5m3) (c := k5c3) (by decide +kernel) rfl rfl rfl (by decide +kernel)
set_option maxRecDepth 65536 in
theorem w_c11 : (Jvm.Cond.code ({ cls := "com/example/binario/binario/rules/SeededRandom", name := "nextLong", desc := "()J" } : Jvm.MethodName) prog_76_method_6_code (1 : Nat) (Option.some Jvm.ClassFile.FieldType.long)).before args0 about1 = true := code_word (m := ⟨5, 2⟩) (meth := k5m2) (c := k5c2) (by decide +kernel) rfl rfl rfl (by decide +kernel)
set_option maxRecDepth 65536 in
theorem w_c12 : (Jvm.Cond.code ({ cls := "com/example/binario/binario/rules/Hypergeometric", name := "draw", desc := "(Lcom/example/binario/binario/rules/SeededRandom;III)I" } : Jvm.MethodName) prog_61_method_2_code (10 : Nat) (Option.some Jvm.ClassFile.FieldType.int)).before args0 about1 = true := code_word (m := ⟨7, 1⟩) (meth := k7m1) (c := k7c1) (by decide +kernel) rfl rfl rfl (by decide +kernel)
set_option maxRecDepth 65536 in
theorem w_c13 : (Jvm.Cond.code ({ cls := "com/example/binario/binario/rules/Hypergeometric", name := "count", desc := "(Lcom/example/binario/binario/rules/SeededRandom;III)I" } : Jvm.MethodName) prog_61_method_3_code (25 : Nat) (Option.some Jvm.ClassFile.FieldType.int)).before args0 about1 = true := code_word (m := ⟨7, 2⟩) (meth := k7m2) (c := k7c2) (by decide +kernel) rfl rfl rfl (by decide +kernel)
def codes1 : List Jvm.Cond := [Jvm.Cond.code x code maxLocals ret, Jvm.Cond.code ({ cls := "com/example/binario/binario/rules/PassengerBag", name := "<init>", desc := "([I)V" } : Jvm.MethodName) prog_68_method_1_code (6 : Nat) (Option.none : Option Jvm.ClassFile.FieldType), Jvm.Cond.code ({ cls := "java/lang/Object", name := "<init>", desc := "()V" } : Jvm.MethodName) object_method_1_code (1 : Nat) (Option.none : Option Jvm.ClassFile.FieldType), Jvm.Cond.code ({ cls := "java/lang/Math", name := "addExact", desc := "(II)I" } : Jvm.MethodName) jdk_29_method_24_code (3 : Nat) (Option.some Jvm.ClassFile.FieldType.int), Jvm.Cond.code ({ cls := "com/example/binario/binario/rules/PassengerBag", name := "remove", desc := "(II)V" } : Jvm.MethodName) prog_68_method_2_code (3 : Nat) (Option.none : Option Jvm.ClassFile.FieldType), Jvm.Cond.code ({ cls := "com/example/binario/binario/rules/SeededRandom", name := "passengerDraws", desc := "(J)Lcom/example/binario/binario/rules/SeededRandom;" } : Jvm.MethodName) prog_76_method_4_code (2 : Nat) (Option.some (Jvm.ClassFile.FieldType.object "com/example/binario/binario/rules/SeededRandom")), Jvm.Cond.code ({ cls := "com/example/binario/binario/rules/SeededRandom", name := "<init>", desc := "(JJ)V" } : Jvm.MethodName) prog_76_method_1_code (5 : Nat) (Option.none : Option Jvm.ClassFile.FieldType), Jvm.Cond.code ({ cls := "com/example/binario/binario/rules/SeededRandom", name := "mix", desc := "(J)J" } : Jvm.MethodName) prog_76_method_10_code (2 : Nat) (Option.some Jvm.ClassFile.FieldType.long), Jvm.Cond.code ({ cls := "com/example/binario/binario/rules/PassengerBag", name := "draw", desc := "(I[ILcom/example/binario/binario/rules/SeededRandom;)V" } : Jvm.MethodName) prog_68_method_3_code (8 : Nat) (Option.none : Option Jvm.ClassFile.FieldType), Jvm.Cond.code ({ cls := "java/util/Arrays", name := "fill", desc := "([II)V" } : Jvm.MethodName) jdk_65_method_103_code (4 : Nat) (Option.none : Option Jvm.ClassFile.FieldType), Jvm.Cond.code ({ cls := "com/example/binario/binario/rules/SeededRandom", name := "nextInt", desc := "(I)I" } : Jvm.MethodName) prog_76_method_7_code (6 : Nat) (Option.some Jvm.ClassFile.FieldType.int), Jvm.Cond.code ({ cls := "com/example/binario/binario/rules/SeededRandom", name := "nextLong", desc := "()J" } : Jvm.MethodName) prog_76_method_6_code (1 : Nat) (Option.some Jvm.ClassFile.FieldType.long), Jvm.Cond.code ({ cls := "com/example/binario/binario/rules/Hypergeometric", name := "draw", desc := "(Lcom/example/binario/binario/rules/SeededRandom;III)I" } : Jvm.MethodName) prog_61_method_2_code (10 : Nat) (Option.some Jvm.ClassFile.FieldType.int), Jvm.Cond.code ({ cls := "com/example/binario/binario/rules/Hypergeometric", name := "count", desc := "(Lcom/example/binario/binario/rules/SeededRandom;III)I" } : Jvm.MethodName) prog_61_method_3_code (25 : Nat) (Option.some Jvm.ClassFile.FieldType.int)]
set_option maxRecDepth 65536 in
theorem codes_eq : words1.filter isCode = codes1 := rfl
theorem w_codes : ∀ c ∈ words1.filter isCode, c.before args0 about1 = true := by
  rw [codes_eq]
  intro c hc
  simp only [codes1, List.mem_cons, List.not_mem_nil, or_false] at hc
  rcases hc with rfl | rfl | rfl | rfl | rfl | rfl | rfl | rfl | rfl | rfl | rfl | rfl | rfl | rfl
  · exact w_c0
  · exact w_c1
  · exact w_c2
  · exact w_c3
  · exact w_c4
  · exact w_c5
  · exact w_c6
  · exact w_c7
  · exact w_c8
  · exact w_c9
  · exact w_c10
  · exact w_c11
  · exact w_c12
  · exact w_c13
set_option maxRecDepth 65536 in
theorem w_t1 : (words1.take 24).all (fun c => isCode c || c.before args0 about1) = true := by decide +kernel
set_option maxRecDepth 65536 in
theorem w_t2 : ((words1.drop 24).take 24).all (fun c => isCode c || c.before args0 about1) = true := by decide +kernel
set_option maxRecDepth 65536 in
theorem w_t3 : (((words1.drop 24).drop 24).take 24).all (fun c => isCode c || c.before args0 about1) = true := by decide +kernel
set_option maxRecDepth 65536 in
theorem w_t4 : (((words1.drop 24).drop 24).drop 24).all (fun c => isCode c || c.before args0 about1) = true := by decide +kernel
theorem w_tables : (allAtoms (Jvm.Cond.code x code maxLocals ret :: tables_1)).before args0 about1 = true := by
  rw [allAtoms_all]
  show words1.all (fun c => c.before args0 about1) = true
  refine all_split ?_ w_codes
  rw [← List.take_append_drop 24 words1, List.all_append, w_t1, ← List.take_append_drop 24 (words1.drop 24), List.all_append, w_t2, ← List.take_append_drop 24 ((words1.drop 24).drop 24), List.all_append, w_t3, w_t4]
  rfl
set_option maxRecDepth 65536 in
theorem w_case : (Jvm.Cond.and given_1 narrow_1).before args0 about1 = true := by decide +kernel
theorem w_applies : (headSpec (Jvm.Cond.code x code maxLocals ret :: tables_1) room_1).applies x e0.platform about1 = true :=
  (Spec.applies_iff w_frames).mpr ⟨w_running, w_runnable, w_alone, w_named, w_hears, w_ripe, w_room, w_tables⟩
theorem atStart : AtStart classFile x code maxLocals ret World_1 tables_1 room_1 Calls_1 rest_1 Pre_1 launch0 p0 e0 about1 theMethod args0 below0 :=
  ⟨lists_1, trivial, launch0.admits_env _ _ _, launch0.least_env, fairChoices_fair.cas, fairChoices_fair.clock, w_frames, w_args, w_heap, w_applies, trivial, trivial, w_case⟩
end start1
theorem witness_1 : WitnessClaimed_1 := ⟨start1.p0, start1.e0, start1.about1, start1.theMethod, start1.args0, start1.below0, start1.atStart⟩
end Jvm.Pilot.@@N@@
