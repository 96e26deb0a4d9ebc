import JvmDerived
import JvmDerived.Pilot.@@N@@Statement
import JvmDerived.Pilot.@@N@@Code
set_option linter.unusedVariables false
set_option linter.unusedSimpArgs false
@@BLOCK:NumsL.lean.txt@@
namespace Jvm.RoadKit
open Sem ClassFile Op Lib Jvm.Stand Jvm.Free Jvm.LawKit
section New
variable {p : Program} {l : Launch} {e : Env} {R : Room} {s : State} {m : MethodId} {args : Array Value} {below : List Frame} {meth : Method} {c : Code} {T : State} {locs : List Loc} {cells slots : Nat}
theorem retI (X : Stand p l e R s m args below meth c T locs cells slots) (hx : p.tables.exec = Jvm.exec) {pc : Nat} {Ls : Array Slot} {z : Int32} {rest : List Value} (hret : meth.sig.returnType = some .int) (hd : decode c.code pc = .ok (.ireturn, 1)) {fs : List Frame}
    (hl : ∀ (f : JFrame) (acts : List Action), f.method = m → f.locked = none → f.entered = [] → (doReturn e (T.setTop f) acts (some (.int z))).1 = T.setFrames fs) : Steps p.tables e below (T.setTop (mkF m pc Ls (.int z :: rest))) (T.setFrames fs) := by
  have hm' : T.vm.method? m = some meth := X.method'
  have hn : narrow .int (.int z) = .int z := rfl
  jvm_step X.here [X.here.top, hx, hd, hm', hret, hn]
  first | (intro acts; rw [hl _ acts rfl rfl rfl]) | rw [hl _ _ rfl rfl rfl]
  exact Steps.refl _
end New
end Jvm.RoadKit
namespace Jvm.Pilot.@@N@@
open Jvm Jvm.ClassFile Sem Op Lib Jvm.Free Jvm.Stand Jvm.LawKit Jvm.RoadKit Bundle Jvm.Pilot.@@N@@.Jvm.D
abbrev sH : String := "com/example/calpurnia/calpurnia/ranking/BestDocuments$Heap"
abbrev sT : String := "com/example/calpurnia/calpurnia/ranking/BestDocuments$Ties"
abbrev sB : String := "com/example/calpurnia/calpurnia/ranking/BestDocuments"
theorem ww {Z : State} {a0 : Array Value} (hw : ∀ d ∈ tables_1, d.before a0 Z = true) (i : Nat) {d : Jvm.Cond} (h : tables_1[i]? = some d) : d.before a0 Z = true := hw _ (List.mem_of_getElem? h)
theorem own_nst {Z : State} {h : Heap} {x : Addr} {C : String} (E : Exa Z h x C) : ∀ cl : Cell, h[x]? = some cl → cl.vm.isStatics = false := by
  intro cl hc
  obtain ⟨c1, k, h1, h2, h3, h4, h5⟩ := E
  cases h1.symm.trans hc
  exact h4
theorem own_stak {Z : State} {h h' : Heap} {ws : List Addr} {C n d : String} {w : Value} (F : Sta Z h C n d w) (K : Keep h h' ws) (q : ∀ x ∈ ws, ∀ cl : Cell, h[x]? = some cl → cl.vm.isStatics = false) : Sta Z h' C n d w := by
  obtain ⟨cf, i, k, f, st, cell, h1, h2, h3, h4, h5, h6, h7⟩ := F
  refine ⟨cf, i, k, f, st, cell, h1, h2, h3, h4, K.2.1 st cell h5 (fun hm => ?_), h6, h7⟩
  rw [q st hm cell h5] at h6
  cases h6
theorem own_getR {p : Program} {l : Launch} {e : Env} {R : Room} {s : State} {m : MethodId} {args : Array Value} {below : List Frame} {meth : Method} {c : Code} {T : State} {locs : List Loc} {cells slots : Nat} {Z : State} {a0 : Array Value} {h : Heap}
    (X : Stand p l e R s m args below meth c T locs cells slots) (hx : p.tables.exec = Jvm.exec) (hZ : Z.Warmed39 s.vm) {own O n d : String} {index : Nat} (hown : s.vm.findClass own = some m.cls) (w : (Cond.fieldRef own index O n d).before a0 Z = true)
    (eT : T.heap = h) {a : Addr} {v : Value} (F : Fld Z h a O n d v) {g : JFrame} (hg : g.method = m) {rest : List Value} (hs : g.stack = .ref a :: rest) (hd : decode c.code g.pc = .ok (.getfield index, 3)) :
    ∃ T', Stand p l e R s m args below meth c T' locs cells slots ∧ T'.heap = h ∧ ∀ target, Steps p.tables e below (T'.setTop { g with pc := g.pc + 3, stack := v :: rest }) target → Steps p.tables e below (T.setTop g) target := by
  obtain ⟨cell, cf, k, i, f, h1, h2, h3, h4, -, -, h7⟩ := F
  have hT : Z.Warmed39 T.vm := wtrans hZ X.warmed
  have w' := Cond.fieldRef_warmed39 hT w
  obtain ⟨c2, k2, i2, f2, e1, e2⟩ := Cond.fieldRef_spec (s := Z.setVm T.vm) (cur := m.cls) ((X.warmed.alike.findClass _ _).trans hown) w'
  obtain ⟨k', hi, -⟩ := State.fieldFound?_setVm (s := Z) hT.alike h2
  have q := hi.symm.trans e1
  cases q
  exact ⟨T, X, eT, fun target kt => (X.getfieldR hx hg e2 h3 hs (by rw [eT]; exact h1) h4 h7 hd (Steps.refl _)).trans kt⟩
/-- an int[] of n places that hold D -/
def own_AI (Z : State) (h : Heap) (a : Addr) (n : Int32) (D : Nat → Int32) : Prop := ∃ cl : Cell, Arr Z h a cl .int ∧ cl.slots.size = n.toNatClampNeg ∧ ∀ i, i < cl.slots.size → cl.slots[i]? = some (.int (D i))
/-- a double[] of n places that hold D, none of them NaN -/
def own_AD (Z : State) (h : Heap) (a : Addr) (n : Int32) (D : Nat → UInt64) : Prop := ∃ cl : Cell, Arr Z h a cl .double ∧ cl.slots.size = n.toNatClampNeg ∧ ∀ i, i < cl.slots.size → cl.slots[i]? = some (.double (D i)) ∧ Jvm.Free.Fl.NoNaN64 (D i)
def own_upd {A : Type} (D : Nat → A) (j : Nat) (x : A) : Nat → A := fun i => if j = i then x else D i
section OwnA
variable {Z : State} {h h' : Heap} {a b : Addr} {n : Int32} {ws : List Addr} {D : Nat → Int32} {S0 : Nat → UInt64}
theorem own_AI.ext (F : own_AI Z h a n D) (E : Ext h h') : own_AI Z h' a n D := by
  obtain ⟨cl, A, S, H⟩ := F
  exact ⟨cl, A.ext E, S, H⟩
theorem own_AD.ext (F : own_AD Z h a n S0) (E : Ext h h') : own_AD Z h' a n S0 := by
  obtain ⟨cl, A, S, H⟩ := F
  exact ⟨cl, A.ext E, S, H⟩
theorem own_AI.keep (F : own_AI Z h a n D) (K : Keep h h' ws) (q : a ∉ ws) : own_AI Z h' a n D := by
  obtain ⟨cl, A, S, H⟩ := F
  exact ⟨cl, ⟨K.2.1 a cl A.1 q, A.2⟩, S, H⟩
theorem own_AD.keep (F : own_AD Z h a n S0) (K : Keep h h' ws) (q : a ∉ ws) : own_AD Z h' a n S0 := by
  obtain ⟨cl, A, S, H⟩ := F
  exact ⟨cl, ⟨K.2.1 a cl A.1 q, A.2⟩, S, H⟩
theorem own_AI.other {sl : Nat} {v : Value} (F : own_AI Z h a n D) (W : Wr h h' b sl v) (q : a ≠ b) : own_AI Z h' a n D := by
  obtain ⟨cl, A, S, H⟩ := F
  exact ⟨cl, A.other W q, S, H⟩
theorem own_AD.other {sl : Nat} {v : Value} (F : own_AD Z h a n S0) (W : Wr h h' b sl v) (q : a ≠ b) : own_AD Z h' a n S0 := by
  obtain ⟨cl, A, S, H⟩ := F
  exact ⟨cl, A.other W q, S, H⟩
theorem own_AI.put {j : Int32} {x : Int32} {cl : Cell} (A : Arr Z h a cl .int) (S : cl.slots.size = n.toNatClampNeg) (H : ∀ i, i < cl.slots.size → cl.slots[i]? = some (.int (D i))) (W : Wr h h' a j.toNatClampNeg (.int x)) : own_AI Z h' a n (own_upd D j.toNatClampNeg x) := by
  refine ⟨_, A.same W, by rw [sz_set]; exact S, fun i hi => ?_⟩
  rw [sz_set] at hi
  by_cases q : j.toNatClampNeg = i
  · subst q
    simp [Cell.setSlot, hi, own_upd]
  · simp only [Cell.setSlot]
    rw [Array.getElem?_setIfInBounds_ne q]
    simp only [own_upd, if_neg q]
    exact H i hi
theorem own_AD.put {j : Int32} {x : UInt64} {cl : Cell} (A : Arr Z h a cl .double) (S : cl.slots.size = n.toNatClampNeg) (H : ∀ i, i < cl.slots.size → cl.slots[i]? = some (.double (S0 i)) ∧ Jvm.Free.Fl.NoNaN64 (S0 i)) (nx : Jvm.Free.Fl.NoNaN64 x) (W : Wr h h' a j.toNatClampNeg (.double x)) : own_AD Z h' a n (own_upd S0 j.toNatClampNeg x) := by
  refine ⟨_, A.same W, by rw [sz_set]; exact S, fun i hi => ?_⟩
  rw [sz_set] at hi
  by_cases q : j.toNatClampNeg = i
  · subst q
    exact ⟨by simp [Cell.setSlot, hi, own_upd], by simp only [own_upd, if_pos]; exact nx⟩
  · simp only [Cell.setSlot]
    rw [Array.getElem?_setIfInBounds_ne q]
    simp only [own_upd, if_neg q]
    exact H i hi
theorem own_AI.of {k : ClassId} {d : Int32} (F : Arv Z h a k .int n [] (.int d)) : own_AI Z h a n (fun _ => d) := by
  obtain ⟨cl, A, -, S, N, H, -⟩ := F
  exact ⟨cl, A, S, fun i hi => H i hi⟩
theorem own_AD.of {k : ClassId} {d : UInt64} (F : Arv Z h a k .double n [] (.double d)) (nx : Jvm.Free.Fl.NoNaN64 d) : own_AD Z h a n (fun _ => d) := by
  obtain ⟨cl, A, -, S, N, H, -⟩ := F
  exact ⟨cl, A, S, fun i hi => ⟨H i hi, nx⟩⟩
theorem own_AI.lt (F : own_AI Z h a n D) : a < h.size := by
  obtain ⟨cl, A, -⟩ := F
  exact (Array.getElem?_eq_some_iff.mp A.1).1
theorem own_AD.lt (F : own_AD Z h a n S0) : a < h.size := by
  obtain ⟨cl, A, -⟩ := F
  exact (Array.getElem?_eq_some_iff.mp A.1).1
theorem own_inb {cl : Cell} {j : Int32} (q : ¬ (j < 0 ∨ cl.slots.size ≤ j.toNatClampNeg)) : j.toNatClampNeg < cl.slots.size := Nat.lt_of_not_le fun y => q (Or.inr y)
end OwnA
theorem own_raw {p : Program} {l : Launch} {e : Env} {R : Room} {s : State} {m : MethodId} {args : Array Value} {below : List Frame} {meth : Method} {c : Code} {T : State} {locs : List Loc} {cells slots : Nat} {h : Heap}
    (X : Stand p l e R s m args below meth c T locs cells slots) (hx : p.tables.exec = Jvm.exec) {own : String} {index : Nat} (hown : s.vm.findClass own = some m.cls)
    (hlink : (Cond.methodLink own index doubleToRawLongBitsName).before args s = true) (hnat : (Cond.native doubleToRawLongBitsName).before args s = true) (hstat : (Cond.static doubleToRawLongBitsName).before args s = true) (hinit : (Cond.initialized "java/lang/Double").before args s = true) (eT : T.heap = h)
    {g : JFrame} (hg : g.method = m) (hsize : g.locals.size = c.maxLocals) {rest : List Value} {b : UInt64} (hstack : g.stack = .double b :: rest) (hdg : decode c.code g.pc = .ok (.invokestatic index, 3))
    (hframes : 1 ≤ R.frames) (hlocals : 2 * g.monitorRoom + (rest.map fun v => v.category).sum + (nativeFrameWords "java/lang/Double" "doubleToRawLongBits" 2 + 11) ≤ R.locals) :
    ∃ T', Stand p l e R s m args below meth c T' locs cells slots ∧ T'.heap = h ∧ ∀ target, Steps p.tables e below (T'.setTop { g with pc := g.pc + 3, stack := .long b.toInt64 :: rest }) target → Steps p.tables e below (T.setTop g) target := by
  obtain ⟨vm', X', st⟩ := X.doubleToRawLongBits hx hown hlink hnat hstat hinit hg hsize hstack hdg hframes hlocals
  exact ⟨_, X', eT, st⟩
theorem own_selp {Z : State} {a0 : Array Value} {C : String} {y z : MethodName} (hz : (Cond.selects C z z).before a0 Z = true) (e : z.cls = y.cls) (hp : (Cond.privateMethod y).before a0 Z = true) (hi : (Cond.instanceMethod y).before a0 Z = true)
    (hy : y.cls ≠ "java/lang/invoke/MethodHandle" ∧ y.cls ≠ "java/lang/invoke/VarHandle") : (Cond.selects y.cls y y).before a0 Z = true := by
  obtain ⟨c2, r2, m2, q1, q2, q3, q4, kP, hkP, hkPi⟩ := Cond.selects_spec hz
  have hc := findClass_of_methodNamed q3
  rw [e] at hc
  exact selects_self_of_private hc hkP hkPi (Cond.privateMethod_at hp) hi hy
theorem own_retD {p : Program} {l : Launch} {e : Env} {R : Room} {s : State} {m : MethodId} {args : Array Value} {below : List Frame} {meth : Method} {c : Code} {T : State} {locs : List Loc} {cells slots : Nat}
    (X : Stand p l e R s m args below meth c T locs cells slots) (hx : p.tables.exec = Jvm.exec) {pc : Nat} {Ls : Array Slot} {z : UInt64} {rest : List Value} (hret : meth.sig.returnType = some .double) (hd : decode c.code pc = .ok (.dreturn, 1)) {fs : List Frame}
    (hr : ∀ (f : JFrame) (acts : List Action), f.method = m → f.locked = none → f.entered = [] → (doReturn e (T.setTop f) acts (some (.double z))).1 = T.setFrames fs) : Steps p.tables e below (T.setTop (mkF m pc Ls (.double z :: rest))) (T.setFrames fs) := by
  jvm_step X.here [X.here.top, hx, hd, X.method', hret, narrow]
  first | (intro acts; rw [hr _ acts rfl rfl rfl]) | rw [hr _ _ rfl rfl rfl]
  exact Steps.refl _
def own_Qc (c : Int32) (h0 : Heap) (n0 : Nat) (v : Option Value) (h : Heap) (L : List Loc) : Prop := v = some (.int c) ∧ Fr n0 L ∧ h = h0
def own_Qi (h0 : Heap) (n0 : Nat) (v : Option Value) (h : Heap) (L : List Loc) : Prop := ∃ r : Int32, v = some (.int r) ∧ Fr n0 L ∧ h = h0
def own_Qd (h0 : Heap) (n0 : Nat) (v : Option Value) (h : Heap) (L : List Loc) : Prop := ∃ r : UInt64, v = some (.double r) ∧ Jvm.Free.Fl.NoNaN64 r ∧ Fr n0 L ∧ h = h0
theorem d21_0 : decode jdk_117_method_6_code 0 = .ok (.dload_n 0, 1) := by decide +kernel
theorem d21_1 : decode jdk_117_method_6_code 1 = .ok (.dload_n 0, 1) := by decide +kernel
theorem d21_2 : decode jdk_117_method_6_code 2 = .ok (.dcmp .l, 1) := by decide +kernel
theorem d21_3 : decode jdk_117_method_6_code 3 = .ok (.ifCond .eq 7, 3) := by decide +kernel
theorem d21_10 : decode jdk_117_method_6_code 10 = .ok (.iconst 0, 1) := by decide +kernel
theorem d21_11 : decode jdk_117_method_6_code 11 = .ok (.ireturn, 1) := by decide +kernel
theorem pn_21 : plainName "java/lang/Double" = true := by first | (simp [plainName, overriddenIn]; done) | decide +kernel
theorem ef_21 (m : MethodId) (x0 : UInt64) : entryFrame m #[(.double x0)] 2 = mkF m 0 #[.val (.double x0), .second] [] := by first | (simp [entryFrame, mkF, argsToLocals, Value.category]; done) | rfl
def Q21 (Z : State) (y1 : UInt64) (h0 : Heap) (n0 : Nat) (v : Option Value) (h : Heap) (L : List Loc) : Prop := v = some (.int (0 : Int32)) ∧ Fr n0 L ∧ h = h0
set_option maxRecDepth 65536 in
set_option maxHeartbeats 40000000 in
theorem rm21 (l : Launch) (Z : State) (a0 : Array Value) (hw : ∀ d ∈ tables_1, d.before a0 Z = true) (ws : List Jvm.Cond) (y1 : UInt64) (h0 : Heap) (n0 : Nat) (Z0 : n0 ≤ h0.size) (hc3 : (cmpValue (FP.dcmp y1 y1) .l) = (0 : Int32)) :
    MetFree l (⟨"java/lang/Double", "isNaN", "(D)Z"⟩ : MethodName) (head1 (Jvm.Cond.code (⟨"java/lang/Double", "isNaN", "(D)Z"⟩ : MethodName) jdk_117_method_6_code 2 (some .boolean) :: ws) ({ frames := 0, cells := 0, slots := 0, locals := 0 } : Room)) (fun a U => a = #[(.double y1)] ∧ Z.Warmed39 U.vm ∧ U.heap = h0) (fun _ _ _ _ _ => True) (fun _ U o U' => ∃ v L, o = .returned v ∧ Q21 Z y1 h0 n0 v U'.heap L ∧ FrameEnd U o U' L ({ frames := 0, cells := 0, slots := 0, locals := 0 } : Room).cells ({ frames := 0, cells := 0, slots := 0, locals := 0 } : Room).slots) := by
  refine MetFree.of_bodySF (plainFor_of_name pn_21) hisR ?_
  intro p e s m args below meth c s₁ Bd hml0 hP hK
  obtain ⟨rfl, hZ, hh⟩ := hP
  have hx := Bd.exec
  have hby := Bd.bytes
  have hml : c.maxLocals = 2 := hml0
  have hown : s.vm.findClass "java/lang/Double" = some m.cls := findClass_of_methodNamed Bd.named
  have hnm := (name_of_methodNamed Bd.named Bd.method).1
  have X0 : Stand p l e ({ frames := 0, cells := 0, slots := 0, locals := 0 } : Room) s m #[(.double y1)] below meth c s₁ [] 0 0 := Stand.of_body Bd
  have e0 : s₁.heap = h0 := by rw [← hh, Bd.state]; rfl
  have N0 := Fr.nil n0
  have pre0 : ∀ t, Steps p.tables e below (s₁.setTop (mkF m 0 #[.val (.double y1), .second] [])) t → Steps p.tables e below (s₁.setTop (entryFrame m #[(.double y1)] 2)) t := fun t k => castTop (ef_21 m y1) k


  obtain ⟨fs, hr, hrun, hended, hW, hsame⟩ := X0.leave (v := some (.int (0 : Int32))) (fun h => by rw [Bd.returns] at h; cases h)
  refine ⟨_, _, pre0 _ ?_, hrun, hended, _, _, rfl, ?_, ⟨_, rfl⟩, hW, hsame.mono (by decide) (by decide)⟩
  · show Steps _ _ _ (s₁.setTop (mkF m 0 #[.val (.double y1), .second] [])) _
    refine XS.dloadN X0.here hx rfl (hb hby d21_0) rfl ?_
    refine XS.dloadN X0.here hx rfl (hb hby d21_1) rfl ?_
    refine XS.dcmpS X0.here hx rfl (hb hby d21_2) rfl rfl ?_
    refine XS.ifYes X0.here hx rfl (pc0 := 3) (pc' := 10) rfl (hb hby d21_3) rfl ((if0 _ _).trans (teq hc3).1) (by decide) (by decide) ?_
    refine XS.iconst X0.here hx rfl (hb hby d21_10) ?_
    exact retN X0 hx (t := .boolean) Bd.returns (by simp) (hb hby d21_11) hr
  · show Q21 Z y1 h0 n0 _ s₁.heap _
    rw [e0]
    exact ⟨rfl, N0, rfl⟩
theorem d20_0 : decode jdk_117_method_23_code 0 = .ok (.dload_n 0, 1) := by decide +kernel
theorem d20_1 : decode jdk_117_method_23_code 1 = .ok (.invokestatic 122, 3) := by decide +kernel
theorem d20_4 : decode jdk_117_method_23_code 4 = .ok (.ifCond .ne 8, 3) := by decide +kernel
theorem d20_7 : decode jdk_117_method_23_code 7 = .ok (.dload_n 0, 1) := by decide +kernel
theorem d20_8 : decode jdk_117_method_23_code 8 = .ok (.invokestatic 134, 3) := by decide +kernel
theorem d20_11 : decode jdk_117_method_23_code 11 = .ok (.lreturn, 1) := by decide +kernel
theorem pn_20 : plainName "java/lang/Double" = true := by first | (simp [plainName, overriddenIn]; done) | decide +kernel
theorem pd_20_13 : parseMethodDescriptor "(D)Z" = some ⟨[.double], some .boolean⟩ := by decide +kernel
theorem ef_20 (m : MethodId) (x0 : UInt64) : entryFrame m #[(.double x0)] 2 = mkF m 0 #[.val (.double x0), .second] [] := by first | (simp [entryFrame, mkF, argsToLocals, Value.category]; done) | rfl
def Q20 (Z : State) (y1 : UInt64) (h0 : Heap) (n0 : Nat) (v : Option Value) (h : Heap) (L : List Loc) : Prop := v = some (.long (y1).toInt64) ∧ Fr n0 L ∧ h = h0
set_option maxRecDepth 65536 in
set_option maxHeartbeats 40000000 in
theorem rm20 (l : Launch) (Z : State) (a0 : Array Value) (hw : ∀ d ∈ tables_1, d.before a0 Z = true) (ws : List Jvm.Cond) (y1 : UInt64) (h0 : Heap) (n0 : Nat) (Z0 : n0 ≤ h0.size) (nn_y1 : Jvm.Free.Fl.NoNaN64 y1) :
    MetFree l (⟨"java/lang/Double", "doubleToLongBits", "(D)J"⟩ : MethodName) (head1 (Jvm.Cond.code (⟨"java/lang/Double", "doubleToLongBits", "(D)J"⟩ : MethodName) jdk_117_method_23_code 2 (some .long) :: ws) ({ frames := 1, cells := 0, slots := 0, locals := 40 } : Room)) (fun a U => a = #[(.double y1)] ∧ Z.Warmed39 U.vm ∧ U.heap = h0) (fun _ _ _ _ _ => True) (fun _ U o U' => ∃ v L, o = .returned v ∧ Q20 Z y1 h0 n0 v U'.heap L ∧ FrameEnd U o U' L ({ frames := 1, cells := 0, slots := 0, locals := 40 } : Room).cells ({ frames := 1, cells := 0, slots := 0, locals := 40 } : Room).slots) := by
  refine MetFree.of_bodySF (plainFor_of_name pn_20) hisR ?_
  intro p e s m args below meth c s₁ Bd hml0 hP hK
  obtain ⟨rfl, hZ, hh⟩ := hP
  have hx := Bd.exec
  have hby := Bd.bytes
  have hml : c.maxLocals = 2 := hml0
  have hown : s.vm.findClass "java/lang/Double" = some m.cls := findClass_of_methodNamed Bd.named
  have hnm := (name_of_methodNamed Bd.named Bd.method).1
  have X0 : Stand p l e ({ frames := 1, cells := 0, slots := 0, locals := 40 } : Room) s m #[(.double y1)] below meth c s₁ [] 0 0 := Stand.of_body Bd
  have e0 : s₁.heap = h0 := by rw [← hh, Bd.state]; rfl
  have N0 := Fr.nil n0
  have pre0 : ∀ t, Steps p.tables e below (s₁.setTop (mkF m 0 #[.val (.double y1), .second] [])) t → Steps p.tables e below (s₁.setTop (entryFrame m #[(.double y1)] 2)) t := fun t k => castTop (ef_20 m y1) k

  obtain ⟨_, _, ⟨T2, L2, k2, n2⟩, -, X2, ⟨Lc2, hQ2, l2, y2, z2⟩, st2⟩ := Jvm.LawKit.callS X0 hx (y := (⟨"java/lang/Double", "isNaN", "(D)Z"⟩ : MethodName)) hown (mvT hZ (ww hw 128 rfl)) (mvT hZ (ww hw 129 rfl)) (mvT hZ (ww hw 94 rfl)) (mvT hZ (ww hw 130 rfl)) (by decide) (backOf (W := 0) (rm21 l Z a0 hw [] y1  h0 n0 Z0 (dcmpV_self nn_y1 .l)) hZ (ww hw 130 rfl) (ww hw 94 rfl) (by decide) (by decide)) (g := (mkF m 1 #[.val (.double y1), .second] [(.double y1)])) rfl (by rw [hml]; rfl) (argsL := [(.double y1)]) (rest := []) (lenOf pd_20_13 rfl) rfl (by show 2 * 0 + _ ≤ _; exact Nat.le_of_eq rfl) (hb hby d20_1) (fun _ _ => ⟨rfl, e0, (by decide : 0 + 0 ≤ _), (by decide : 0 + 0 ≤ _)⟩)
  dsimp only [Pt.U, Pt.locs, Pt.cells, Pt.slots] at X2 l2 y2 z2 st2 hQ2
  subst l2 y2 z2
  obtain ⟨rfl, N2q, eh2⟩ := hQ2
  have N2 := Fr.app N0 N2q
  obtain ⟨T3, X3, e3, st3⟩ := own_raw X2 hx hown (mvT hZ (ww hw 131 rfl)) (mvT hZ (ww hw 133 rfl)) (mvT hZ (ww hw 132 rfl)) (mvT hZ (ww hw 94 rfl)) eh2 (g := (mkF m 8 #[.val (.double y1), .second] [(.double y1)])) rfl (by rw [hml]; rfl) (rest := []) (b := y1) rfl (hb hby d20_8) (by decide) (by show 2 * 0 + _ ≤ _; decide)
  obtain ⟨fs, hr, hrun, hended, hW, hsame⟩ := X3.leave (v := some (.long (y1).toInt64)) (fun h => by rw [Bd.returns] at h; cases h)
  refine ⟨_, _, pre0 _ ?_, hrun, hended, _, _, rfl, ?_, ⟨_, rfl⟩, hW, hsame.mono (by decide) (by decide)⟩
  · show Steps _ _ _ (s₁.setTop (mkF m 0 #[.val (.double y1), .second] [])) _
    refine XS.dloadN X0.here hx rfl (hb hby d20_0) rfl ?_
    refine st2 _ ?_
    refine XS.ifNo X2.here hx rfl (hb hby d20_4) rfl ((if0 _ _).trans (teq (by decide : (0 : Int32) = (0 : Int32))).2) ?_
    refine XS.dloadN X2.here hx rfl (hb hby d20_7) rfl ?_
    refine st3 _ ?_
    jvm_step X3.here [X3.here.top, hx, (hb hby d20_11), X3.method', Bd.returns, narrow]
    first | (intro acts; rw [hr _ acts rfl rfl rfl]) | rw [hr _ _ rfl rfl rfl]
    exact Steps.refl _
  · show Q20 Z y1 h0 n0 _ T3.heap _
    rw [e3]
    exact ⟨rfl, N2, rfl⟩
theorem d13_0 : decode jdk_117_method_27_code 0 = .ok (.dload_n 0, 1) := by decide +kernel
theorem d13_1 : decode jdk_117_method_27_code 1 = .ok (.dload_n 2, 1) := by decide +kernel
theorem d13_2 : decode jdk_117_method_27_code 2 = .ok (.dcmp .g, 1) := by decide +kernel
theorem d13_3 : decode jdk_117_method_27_code 3 = .ok (.ifCond .ge 5, 3) := by decide +kernel
theorem d13_6 : decode jdk_117_method_27_code 6 = .ok (.iconst (-1), 1) := by decide +kernel
theorem d13_7 : decode jdk_117_method_27_code 7 = .ok (.ireturn, 1) := by decide +kernel
theorem pn_13 : plainName "java/lang/Double" = true := by first | (simp [plainName, overriddenIn]; done) | decide +kernel
theorem ef_13_0 (m : MethodId) (x0 : UInt64) (x1 : UInt64) : entryFrame m #[(.double x0), (.double x1)] 8 = mkF m 0 #[.val (.double x0), .second, .val (.double x1), .second, .unset, .unset, .unset, .unset] [] := by first | (simp [entryFrame, mkF, argsToLocals, Value.category]; done) | rfl
def Q13_0 (Z : State) (y1 : UInt64) (y2 : UInt64) (h0 : Heap) (n0 : Nat) (v : Option Value) (h : Heap) (L : List Loc) : Prop := own_Qc (-1 : Int32) h0 n0 v h L
set_option maxRecDepth 65536 in
set_option maxHeartbeats 40000000 in
theorem rm13_0 (l : Launch) (Z : State) (a0 : Array Value) (hw : ∀ d ∈ tables_1, d.before a0 Z = true) (ws : List Jvm.Cond) (y1 : UInt64) (y2 : UInt64) (h0 : Heap) (n0 : Nat) (Z0 : n0 ≤ h0.size) (nn_y1 : Jvm.Free.Fl.NoNaN64 y1) (nn_y2 : Jvm.Free.Fl.NoNaN64 y2) (hc3 : (cmpValue (FP.dcmp y1 y2) .g) < (0 : Int32)) :
    MetFree l (⟨"java/lang/Double", "compare", "(DD)I"⟩ : MethodName) (head1 (Jvm.Cond.code (⟨"java/lang/Double", "compare", "(DD)I"⟩ : MethodName) jdk_117_method_27_code 8 (some .int) :: ws) ({ frames := 2, cells := 0, slots := 0, locals := 60 } : Room)) (fun a U => a = #[(.double y1), (.double y2)] ∧ Z.Warmed39 U.vm ∧ U.heap = h0) (fun _ _ _ _ _ => True) (fun _ U o U' => ∃ v L, o = .returned v ∧ Q13_0 Z y1 y2 h0 n0 v U'.heap L ∧ FrameEnd U o U' L ({ frames := 2, cells := 0, slots := 0, locals := 60 } : Room).cells ({ frames := 2, cells := 0, slots := 0, locals := 60 } : Room).slots) := by
  refine MetFree.of_bodySF (plainFor_of_name pn_13) hisR ?_
  intro p e s m args below meth c s₁ Bd hml0 hP hK
  obtain ⟨rfl, hZ, hh⟩ := hP
  have hx := Bd.exec
  have hby := Bd.bytes
  have hml : c.maxLocals = 8 := hml0
  have hown : s.vm.findClass "java/lang/Double" = some m.cls := findClass_of_methodNamed Bd.named
  have hnm := (name_of_methodNamed Bd.named Bd.method).1
  have X0 : Stand p l e ({ frames := 2, cells := 0, slots := 0, locals := 60 } : Room) s m #[(.double y1), (.double y2)] below meth c s₁ [] 0 0 := Stand.of_body Bd
  have e0 : s₁.heap = h0 := by rw [← hh, Bd.state]; rfl
  have N0 := Fr.nil n0
  have pre0 : ∀ t, Steps p.tables e below (s₁.setTop (mkF m 0 #[.val (.double y1), .second, .val (.double y2), .second, .unset, .unset, .unset, .unset] [])) t → Steps p.tables e below (s₁.setTop (entryFrame m #[(.double y1), (.double y2)] 8)) t := fun t k => castTop (ef_13_0 m y1 y2) k


  obtain ⟨fs, hr, hrun, hended, hW, hsame⟩ := X0.leave (v := some (.int (-1 : Int32))) (fun h => by rw [Bd.returns] at h; cases h)
  refine ⟨_, _, pre0 _ ?_, hrun, hended, _, _, rfl, ?_, ⟨_, rfl⟩, hW, hsame.mono (by decide) (by decide)⟩
  · show Steps _ _ _ (s₁.setTop (mkF m 0 #[.val (.double y1), .second, .val (.double y2), .second, .unset, .unset, .unset, .unset] [])) _
    refine XS.dloadN X0.here hx rfl (hb hby d13_0) rfl ?_
    refine XS.dloadN X0.here hx rfl (hb hby d13_1) rfl ?_
    refine XS.dcmpS X0.here hx rfl (hb hby d13_2) rfl rfl ?_
    refine XS.ifNo X0.here hx rfl (hb hby d13_3) rfl ((if0 _ _).trans (tlt hc3).2.1) ?_
    refine XS.iconst X0.here hx rfl (hb hby d13_6) ?_
    exact retI X0 hx Bd.returns (hb hby d13_7) hr
  · show Q13_0 Z y1 y2 h0 n0 _ s₁.heap _
    rw [e0]
    exact ⟨rfl, N0, rfl⟩
theorem d13_8 : decode jdk_117_method_27_code 8 = .ok (.dload_n 0, 1) := by decide +kernel
theorem d13_9 : decode jdk_117_method_27_code 9 = .ok (.dload_n 2, 1) := by decide +kernel
theorem d13_10 : decode jdk_117_method_27_code 10 = .ok (.dcmp .l, 1) := by decide +kernel
theorem d13_11 : decode jdk_117_method_27_code 11 = .ok (.ifCond .le 5, 3) := by decide +kernel
theorem d13_14 : decode jdk_117_method_27_code 14 = .ok (.iconst 1, 1) := by decide +kernel
theorem d13_15 : decode jdk_117_method_27_code 15 = .ok (.ireturn, 1) := by decide +kernel
theorem ef_13_1 (m : MethodId) (x0 : UInt64) (x1 : UInt64) : entryFrame m #[(.double x0), (.double x1)] 8 = mkF m 0 #[.val (.double x0), .second, .val (.double x1), .second, .unset, .unset, .unset, .unset] [] := by first | (simp [entryFrame, mkF, argsToLocals, Value.category]; done) | rfl
def Q13_1 (Z : State) (y1 : UInt64) (y2 : UInt64) (h0 : Heap) (n0 : Nat) (v : Option Value) (h : Heap) (L : List Loc) : Prop := own_Qc (1 : Int32) h0 n0 v h L
set_option maxRecDepth 65536 in
set_option maxHeartbeats 40000000 in
theorem rm13_1 (l : Launch) (Z : State) (a0 : Array Value) (hw : ∀ d ∈ tables_1, d.before a0 Z = true) (ws : List Jvm.Cond) (y1 : UInt64) (y2 : UInt64) (h0 : Heap) (n0 : Nat) (Z0 : n0 ≤ h0.size) (nn_y1 : Jvm.Free.Fl.NoNaN64 y1) (nn_y2 : Jvm.Free.Fl.NoNaN64 y2) (hc3 : ¬ ((cmpValue (FP.dcmp y1 y2) .g) < (0 : Int32))) (hc11 : (0 : Int32) < (cmpValue (FP.dcmp y1 y2) .l)) :
    MetFree l (⟨"java/lang/Double", "compare", "(DD)I"⟩ : MethodName) (head1 (Jvm.Cond.code (⟨"java/lang/Double", "compare", "(DD)I"⟩ : MethodName) jdk_117_method_27_code 8 (some .int) :: ws) ({ frames := 2, cells := 0, slots := 0, locals := 60 } : Room)) (fun a U => a = #[(.double y1), (.double y2)] ∧ Z.Warmed39 U.vm ∧ U.heap = h0) (fun _ _ _ _ _ => True) (fun _ U o U' => ∃ v L, o = .returned v ∧ Q13_1 Z y1 y2 h0 n0 v U'.heap L ∧ FrameEnd U o U' L ({ frames := 2, cells := 0, slots := 0, locals := 60 } : Room).cells ({ frames := 2, cells := 0, slots := 0, locals := 60 } : Room).slots) := by
  refine MetFree.of_bodySF (plainFor_of_name pn_13) hisR ?_
  intro p e s m args below meth c s₁ Bd hml0 hP hK
  obtain ⟨rfl, hZ, hh⟩ := hP
  have hx := Bd.exec
  have hby := Bd.bytes
  have hml : c.maxLocals = 8 := hml0
  have hown : s.vm.findClass "java/lang/Double" = some m.cls := findClass_of_methodNamed Bd.named
  have hnm := (name_of_methodNamed Bd.named Bd.method).1
  have X0 : Stand p l e ({ frames := 2, cells := 0, slots := 0, locals := 60 } : Room) s m #[(.double y1), (.double y2)] below meth c s₁ [] 0 0 := Stand.of_body Bd
  have e0 : s₁.heap = h0 := by rw [← hh, Bd.state]; rfl
  have N0 := Fr.nil n0
  have pre0 : ∀ t, Steps p.tables e below (s₁.setTop (mkF m 0 #[.val (.double y1), .second, .val (.double y2), .second, .unset, .unset, .unset, .unset] [])) t → Steps p.tables e below (s₁.setTop (entryFrame m #[(.double y1), (.double y2)] 8)) t := fun t k => castTop (ef_13_1 m y1 y2) k


  obtain ⟨fs, hr, hrun, hended, hW, hsame⟩ := X0.leave (v := some (.int (1 : Int32))) (fun h => by rw [Bd.returns] at h; cases h)
  refine ⟨_, _, pre0 _ ?_, hrun, hended, _, _, rfl, ?_, ⟨_, rfl⟩, hW, hsame.mono (by decide) (by decide)⟩
  · show Steps _ _ _ (s₁.setTop (mkF m 0 #[.val (.double y1), .second, .val (.double y2), .second, .unset, .unset, .unset, .unset] [])) _
    refine XS.dloadN X0.here hx rfl (hb hby d13_0) rfl ?_
    refine XS.dloadN X0.here hx rfl (hb hby d13_1) rfl ?_
    refine XS.dcmpS X0.here hx rfl (hb hby d13_2) rfl rfl ?_
    refine XS.ifYes X0.here hx rfl (pc0 := 3) (pc' := 8) rfl (hb hby d13_3) rfl ((if0 _ _).trans (flt hc3).2.1) (by decide) (by decide) ?_
    refine XS.dloadN X0.here hx rfl (hb hby d13_8) rfl ?_
    refine XS.dloadN X0.here hx rfl (hb hby d13_9) rfl ?_
    refine XS.dcmpS X0.here hx rfl (hb hby d13_10) rfl rfl ?_
    refine XS.ifNo X0.here hx rfl (hb hby d13_11) rfl ((if0 _ _).trans (tlt hc11).2.2.2) ?_
    refine XS.iconst X0.here hx rfl (hb hby d13_14) ?_
    exact retI X0 hx Bd.returns (hb hby d13_15) hr
  · show Q13_1 Z y1 y2 h0 n0 _ s₁.heap _
    rw [e0]
    exact ⟨rfl, N0, rfl⟩
theorem d13_16 : decode jdk_117_method_27_code 16 = .ok (.dload_n 0, 1) := by decide +kernel
theorem d13_17 : decode jdk_117_method_27_code 17 = .ok (.invokestatic 46, 3) := by decide +kernel
theorem d13_20 : decode jdk_117_method_27_code 20 = .ok (.lstore 4, 2) := by decide +kernel
theorem d13_22 : decode jdk_117_method_27_code 22 = .ok (.dload_n 2, 1) := by decide +kernel
theorem d13_23 : decode jdk_117_method_27_code 23 = .ok (.invokestatic 46, 3) := by decide +kernel
theorem d13_26 : decode jdk_117_method_27_code 26 = .ok (.lstore 6, 2) := by decide +kernel
theorem d13_28 : decode jdk_117_method_27_code 28 = .ok (.lload 4, 2) := by decide +kernel
theorem d13_30 : decode jdk_117_method_27_code 30 = .ok (.lload 6, 2) := by decide +kernel
theorem d13_32 : decode jdk_117_method_27_code 32 = .ok (.lcmp, 1) := by decide +kernel
theorem d13_33 : decode jdk_117_method_27_code 33 = .ok (.ifCond .ne 7, 3) := by decide +kernel
theorem d13_36 : decode jdk_117_method_27_code 36 = .ok (.iconst 0, 1) := by decide +kernel
theorem d13_37 : decode jdk_117_method_27_code 37 = .ok (.goto 16, 3) := by decide +kernel
theorem d13_53 : decode jdk_117_method_27_code 53 = .ok (.ireturn, 1) := by decide +kernel
theorem pd_13_16 : parseMethodDescriptor "(D)J" = some ⟨[.double], some .long⟩ := by decide +kernel
theorem ef_13_2 (m : MethodId) (x0 : UInt64) (x1 : UInt64) : entryFrame m #[(.double x0), (.double x1)] 8 = mkF m 0 #[.val (.double x0), .second, .val (.double x1), .second, .unset, .unset, .unset, .unset] [] := by first | (simp [entryFrame, mkF, argsToLocals, Value.category]; done) | rfl
def Q13_2 (Z : State) (y1 : UInt64) (y2 : UInt64) (h0 : Heap) (n0 : Nat) (v : Option Value) (h : Heap) (L : List Loc) : Prop := own_Qc (0 : Int32) h0 n0 v h L
set_option maxRecDepth 65536 in
set_option maxHeartbeats 40000000 in
theorem rm13_2 (l : Launch) (Z : State) (a0 : Array Value) (hw : ∀ d ∈ tables_1, d.before a0 Z = true) (ws : List Jvm.Cond) (y1 : UInt64) (y2 : UInt64) (h0 : Heap) (n0 : Nat) (Z0 : n0 ≤ h0.size) (nn_y1 : Jvm.Free.Fl.NoNaN64 y1) (nn_y2 : Jvm.Free.Fl.NoNaN64 y2) (hc3 : ¬ ((cmpValue (FP.dcmp y1 y2) .g) < (0 : Int32))) (hc11 : ¬ ((0 : Int32) < (cmpValue (FP.dcmp y1 y2) .l))) (hc33 : (lcmpW (y1).toInt64 (y2).toInt64) = (0 : Int32)) :
    MetFree l (⟨"java/lang/Double", "compare", "(DD)I"⟩ : MethodName) (head1 (Jvm.Cond.code (⟨"java/lang/Double", "compare", "(DD)I"⟩ : MethodName) jdk_117_method_27_code 8 (some .int) :: ws) ({ frames := 2, cells := 0, slots := 0, locals := 60 } : Room)) (fun a U => a = #[(.double y1), (.double y2)] ∧ Z.Warmed39 U.vm ∧ U.heap = h0) (fun _ _ _ _ _ => True) (fun _ U o U' => ∃ v L, o = .returned v ∧ Q13_2 Z y1 y2 h0 n0 v U'.heap L ∧ FrameEnd U o U' L ({ frames := 2, cells := 0, slots := 0, locals := 60 } : Room).cells ({ frames := 2, cells := 0, slots := 0, locals := 60 } : Room).slots) := by
  refine MetFree.of_bodySF (plainFor_of_name pn_13) hisR ?_
  intro p e s m args below meth c s₁ Bd hml0 hP hK
  obtain ⟨rfl, hZ, hh⟩ := hP
  have hx := Bd.exec
  have hby := Bd.bytes
  have hml : c.maxLocals = 8 := hml0
  have hown : s.vm.findClass "java/lang/Double" = some m.cls := findClass_of_methodNamed Bd.named
  have hnm := (name_of_methodNamed Bd.named Bd.method).1
  have X0 : Stand p l e ({ frames := 2, cells := 0, slots := 0, locals := 60 } : Room) s m #[(.double y1), (.double y2)] below meth c s₁ [] 0 0 := Stand.of_body Bd
  have e0 : s₁.heap = h0 := by rw [← hh, Bd.state]; rfl
  have N0 := Fr.nil n0
  have pre0 : ∀ t, Steps p.tables e below (s₁.setTop (mkF m 0 #[.val (.double y1), .second, .val (.double y2), .second, .unset, .unset, .unset, .unset] [])) t → Steps p.tables e below (s₁.setTop (entryFrame m #[(.double y1), (.double y2)] 8)) t := fun t k => castTop (ef_13_2 m y1 y2) k

  obtain ⟨_, _, ⟨T3, L3, k3, n3⟩, -, X3, ⟨Lc3, hQ3, l3, y3, z3⟩, st3⟩ := Jvm.LawKit.callS X0 hx (y := (⟨"java/lang/Double", "doubleToLongBits", "(D)J"⟩ : MethodName)) hown (mvT hZ (ww hw 125 rfl)) (mvT hZ (ww hw 126 rfl)) (mvT hZ (ww hw 94 rfl)) (mvT hZ (ww hw 127 rfl)) (by decide) (backOf (W := 0) (rm20 l Z a0 hw [] y1  h0 n0 Z0 nn_y1) hZ (ww hw 127 rfl) (ww hw 94 rfl) (by decide) (by decide)) (g := (mkF m 17 #[.val (.double y1), .second, .val (.double y2), .second, .unset, .unset, .unset, .unset] [(.double y1)])) rfl (by rw [hml]; rfl) (argsL := [(.double y1)]) (rest := []) (lenOf pd_13_16 rfl) rfl (by show 2 * 0 + _ ≤ _; exact Nat.le_of_eq rfl) (hb hby d13_17) (fun _ _ => ⟨rfl, e0, (by decide : 0 + 0 ≤ _), (by decide : 0 + 0 ≤ _)⟩)
  dsimp only [Pt.U, Pt.locs, Pt.cells, Pt.slots] at X3 l3 y3 z3 st3 hQ3
  subst l3 y3 z3
  obtain ⟨rfl, N3q, eh3⟩ := hQ3
  have N3 := Fr.app N0 N3q
  obtain ⟨_, _, ⟨T4, L4, k4, n4⟩, -, X4, ⟨Lc4, hQ4, l4, y4, z4⟩, st4⟩ := Jvm.LawKit.callS X3 hx (y := (⟨"java/lang/Double", "doubleToLongBits", "(D)J"⟩ : MethodName)) hown (mvT hZ (ww hw 125 rfl)) (mvT hZ (ww hw 126 rfl)) (mvT hZ (ww hw 94 rfl)) (mvT hZ (ww hw 127 rfl)) (by decide) (backOf (W := 0) (rm20 l Z a0 hw [] y2  h0 n0 Z0 nn_y2) hZ (ww hw 127 rfl) (ww hw 94 rfl) (by decide) (by decide)) (g := (mkF m 23 #[.val (.double y1), .second, .val (.double y2), .second, .val (.long (y1).toInt64), .second, .unset, .unset] [(.double y2)])) rfl (by rw [hml]; rfl) (argsL := [(.double y2)]) (rest := []) (lenOf pd_13_16 rfl) rfl (by show 2 * 0 + _ ≤ _; exact Nat.le_of_eq rfl) (hb hby d13_23) (fun _ _ => ⟨rfl, eh3, (by decide : 0 + 0 ≤ _), (by decide : 0 + 0 ≤ _)⟩)
  dsimp only [Pt.U, Pt.locs, Pt.cells, Pt.slots] at X4 l4 y4 z4 st4 hQ4
  subst l4 y4 z4
  obtain ⟨rfl, N4q, eh4⟩ := hQ4
  have N4 := Fr.app N3 N4q
  obtain ⟨fs, hr, hrun, hended, hW, hsame⟩ := X4.leave (v := some (.int (0 : Int32))) (fun h => by rw [Bd.returns] at h; cases h)
  refine ⟨_, _, pre0 _ ?_, hrun, hended, _, _, rfl, ?_, ⟨_, rfl⟩, hW, hsame.mono (by decide) (by decide)⟩
  · show Steps _ _ _ (s₁.setTop (mkF m 0 #[.val (.double y1), .second, .val (.double y2), .second, .unset, .unset, .unset, .unset] [])) _
    refine XS.dloadN X0.here hx rfl (hb hby d13_0) rfl ?_
    refine XS.dloadN X0.here hx rfl (hb hby d13_1) rfl ?_
    refine XS.dcmpS X0.here hx rfl (hb hby d13_2) rfl rfl ?_
    refine XS.ifYes X0.here hx rfl (pc0 := 3) (pc' := 8) rfl (hb hby d13_3) rfl ((if0 _ _).trans (flt hc3).2.1) (by decide) (by decide) ?_
    refine XS.dloadN X0.here hx rfl (hb hby d13_8) rfl ?_
    refine XS.dloadN X0.here hx rfl (hb hby d13_9) rfl ?_
    refine XS.dcmpS X0.here hx rfl (hb hby d13_10) rfl rfl ?_
    refine XS.ifYes X0.here hx rfl (pc0 := 11) (pc' := 16) rfl (hb hby d13_11) rfl ((if0 _ _).trans (flt hc11).2.2.2) (by decide) (by decide) ?_
    refine XS.dloadN X0.here hx rfl (hb hby d13_16) rfl ?_
    refine st3 _ ?_
    refine XS.lstore X3.here hx rfl (hb hby d13_20) rfl (l' := #[.val (.double y1), .second, .val (.double y2), .second, .val (.long (y1).toInt64), .second, .unset, .unset]) rfl ?_
    refine XS.dloadN X3.here hx rfl (hb hby d13_22) rfl ?_
    refine st4 _ ?_
    refine XS.lstore X4.here hx rfl (hb hby d13_26) rfl (l' := #[.val (.double y1), .second, .val (.double y2), .second, .val (.long (y1).toInt64), .second, .val (.long (y2).toInt64), .second]) rfl ?_
    refine XS.lload X4.here hx rfl (hb hby d13_28) rfl ?_
    refine XS.lload X4.here hx rfl (hb hby d13_30) rfl ?_
    refine XS.lcmp X4.here hx rfl (hb hby d13_32) rfl ?_
    refine XS.ifNo X4.here hx rfl (hb hby d13_33) rfl ((if0 _ _).trans (teq hc33).2) ?_
    refine XS.iconst X4.here hx rfl (hb hby d13_36) ?_
    refine XS.goto X4.here hx rfl (pc0 := 37) (pc' := 53) rfl (hb hby d13_37) (by decide) (by decide) ?_
    exact retI X4 hx Bd.returns (hb hby d13_53) hr
  · show Q13_2 Z y1 y2 h0 n0 _ T4.heap _
    rw [eh4]
    exact ⟨rfl, N4, rfl⟩
theorem d13_40 : decode jdk_117_method_27_code 40 = .ok (.lload 4, 2) := by decide +kernel
theorem d13_42 : decode jdk_117_method_27_code 42 = .ok (.lload 6, 2) := by decide +kernel
theorem d13_44 : decode jdk_117_method_27_code 44 = .ok (.lcmp, 1) := by decide +kernel
theorem d13_45 : decode jdk_117_method_27_code 45 = .ok (.ifCond .ge 7, 3) := by decide +kernel
theorem d13_48 : decode jdk_117_method_27_code 48 = .ok (.iconst (-1), 1) := by decide +kernel
theorem d13_49 : decode jdk_117_method_27_code 49 = .ok (.goto 4, 3) := by decide +kernel
theorem ef_13_3 (m : MethodId) (x0 : UInt64) (x1 : UInt64) : entryFrame m #[(.double x0), (.double x1)] 8 = mkF m 0 #[.val (.double x0), .second, .val (.double x1), .second, .unset, .unset, .unset, .unset] [] := by first | (simp [entryFrame, mkF, argsToLocals, Value.category]; done) | rfl
def Q13_3 (Z : State) (y1 : UInt64) (y2 : UInt64) (h0 : Heap) (n0 : Nat) (v : Option Value) (h : Heap) (L : List Loc) : Prop := own_Qc (-1 : Int32) h0 n0 v h L
set_option maxRecDepth 65536 in
set_option maxHeartbeats 40000000 in
theorem rm13_3 (l : Launch) (Z : State) (a0 : Array Value) (hw : ∀ d ∈ tables_1, d.before a0 Z = true) (ws : List Jvm.Cond) (y1 : UInt64) (y2 : UInt64) (h0 : Heap) (n0 : Nat) (Z0 : n0 ≤ h0.size) (nn_y1 : Jvm.Free.Fl.NoNaN64 y1) (nn_y2 : Jvm.Free.Fl.NoNaN64 y2) (hc3 : ¬ ((cmpValue (FP.dcmp y1 y2) .g) < (0 : Int32))) (hc11 : ¬ ((0 : Int32) < (cmpValue (FP.dcmp y1 y2) .l))) (hc33 : ¬ ((lcmpW (y1).toInt64 (y2).toInt64) = (0 : Int32))) (hc45 : (lcmpW (y1).toInt64 (y2).toInt64) < (0 : Int32)) :
    MetFree l (⟨"java/lang/Double", "compare", "(DD)I"⟩ : MethodName) (head1 (Jvm.Cond.code (⟨"java/lang/Double", "compare", "(DD)I"⟩ : MethodName) jdk_117_method_27_code 8 (some .int) :: ws) ({ frames := 2, cells := 0, slots := 0, locals := 60 } : Room)) (fun a U => a = #[(.double y1), (.double y2)] ∧ Z.Warmed39 U.vm ∧ U.heap = h0) (fun _ _ _ _ _ => True) (fun _ U o U' => ∃ v L, o = .returned v ∧ Q13_3 Z y1 y2 h0 n0 v U'.heap L ∧ FrameEnd U o U' L ({ frames := 2, cells := 0, slots := 0, locals := 60 } : Room).cells ({ frames := 2, cells := 0, slots := 0, locals := 60 } : Room).slots) := by
  refine MetFree.of_bodySF (plainFor_of_name pn_13) hisR ?_
  intro p e s m args below meth c s₁ Bd hml0 hP hK
  obtain ⟨rfl, hZ, hh⟩ := hP
  have hx := Bd.exec
  have hby := Bd.bytes
  have hml : c.maxLocals = 8 := hml0
  have hown : s.vm.findClass "java/lang/Double" = some m.cls := findClass_of_methodNamed Bd.named
  have hnm := (name_of_methodNamed Bd.named Bd.method).1
  have X0 : Stand p l e ({ frames := 2, cells := 0, slots := 0, locals := 60 } : Room) s m #[(.double y1), (.double y2)] below meth c s₁ [] 0 0 := Stand.of_body Bd
  have e0 : s₁.heap = h0 := by rw [← hh, Bd.state]; rfl
  have N0 := Fr.nil n0
  have pre0 : ∀ t, Steps p.tables e below (s₁.setTop (mkF m 0 #[.val (.double y1), .second, .val (.double y2), .second, .unset, .unset, .unset, .unset] [])) t → Steps p.tables e below (s₁.setTop (entryFrame m #[(.double y1), (.double y2)] 8)) t := fun t k => castTop (ef_13_3 m y1 y2) k

  obtain ⟨_, _, ⟨T3, L3, k3, n3⟩, -, X3, ⟨Lc3, hQ3, l3, y3, z3⟩, st3⟩ := Jvm.LawKit.callS X0 hx (y := (⟨"java/lang/Double", "doubleToLongBits", "(D)J"⟩ : MethodName)) hown (mvT hZ (ww hw 125 rfl)) (mvT hZ (ww hw 126 rfl)) (mvT hZ (ww hw 94 rfl)) (mvT hZ (ww hw 127 rfl)) (by decide) (backOf (W := 0) (rm20 l Z a0 hw [] y1  h0 n0 Z0 nn_y1) hZ (ww hw 127 rfl) (ww hw 94 rfl) (by decide) (by decide)) (g := (mkF m 17 #[.val (.double y1), .second, .val (.double y2), .second, .unset, .unset, .unset, .unset] [(.double y1)])) rfl (by rw [hml]; rfl) (argsL := [(.double y1)]) (rest := []) (lenOf pd_13_16 rfl) rfl (by show 2 * 0 + _ ≤ _; exact Nat.le_of_eq rfl) (hb hby d13_17) (fun _ _ => ⟨rfl, e0, (by decide : 0 + 0 ≤ _), (by decide : 0 + 0 ≤ _)⟩)
  dsimp only [Pt.U, Pt.locs, Pt.cells, Pt.slots] at X3 l3 y3 z3 st3 hQ3
  subst l3 y3 z3
  obtain ⟨rfl, N3q, eh3⟩ := hQ3
  have N3 := Fr.app N0 N3q
  obtain ⟨_, _, ⟨T4, L4, k4, n4⟩, -, X4, ⟨Lc4, hQ4, l4, y4, z4⟩, st4⟩ := Jvm.LawKit.callS X3 hx (y := (⟨"java/lang/Double", "doubleToLongBits", "(D)J"⟩ : MethodName)) hown (mvT hZ (ww hw 125 rfl)) (mvT hZ (ww hw 126 rfl)) (mvT hZ (ww hw 94 rfl)) (mvT hZ (ww hw 127 rfl)) (by decide) (backOf (W := 0) (rm20 l Z a0 hw [] y2  h0 n0 Z0 nn_y2) hZ (ww hw 127 rfl) (ww hw 94 rfl) (by decide) (by decide)) (g := (mkF m 23 #[.val (.double y1), .second, .val (.double y2), .second, .val (.long (y1).toInt64), .second, .unset, .unset] [(.double y2)])) rfl (by rw [hml]; rfl) (argsL := [(.double y2)]) (rest := []) (lenOf pd_13_16 rfl) rfl (by show 2 * 0 + _ ≤ _; exact Nat.le_of_eq rfl) (hb hby d13_23) (fun _ _ => ⟨rfl, eh3, (by decide : 0 + 0 ≤ _), (by decide : 0 + 0 ≤ _)⟩)
  dsimp only [Pt.U, Pt.locs, Pt.cells, Pt.slots] at X4 l4 y4 z4 st4 hQ4
  subst l4 y4 z4
  obtain ⟨rfl, N4q, eh4⟩ := hQ4
  have N4 := Fr.app N3 N4q
  obtain ⟨fs, hr, hrun, hended, hW, hsame⟩ := X4.leave (v := some (.int (-1 : Int32))) (fun h => by rw [Bd.returns] at h; cases h)
  refine ⟨_, _, pre0 _ ?_, hrun, hended, _, _, rfl, ?_, ⟨_, rfl⟩, hW, hsame.mono (by decide) (by decide)⟩
  · show Steps _ _ _ (s₁.setTop (mkF m 0 #[.val (.double y1), .second, .val (.double y2), .second, .unset, .unset, .unset, .unset] [])) _
    refine XS.dloadN X0.here hx rfl (hb hby d13_0) rfl ?_
    refine XS.dloadN X0.here hx rfl (hb hby d13_1) rfl ?_
    refine XS.dcmpS X0.here hx rfl (hb hby d13_2) rfl rfl ?_
    refine XS.ifYes X0.here hx rfl (pc0 := 3) (pc' := 8) rfl (hb hby d13_3) rfl ((if0 _ _).trans (flt hc3).2.1) (by decide) (by decide) ?_
    refine XS.dloadN X0.here hx rfl (hb hby d13_8) rfl ?_
    refine XS.dloadN X0.here hx rfl (hb hby d13_9) rfl ?_
    refine XS.dcmpS X0.here hx rfl (hb hby d13_10) rfl rfl ?_
    refine XS.ifYes X0.here hx rfl (pc0 := 11) (pc' := 16) rfl (hb hby d13_11) rfl ((if0 _ _).trans (flt hc11).2.2.2) (by decide) (by decide) ?_
    refine XS.dloadN X0.here hx rfl (hb hby d13_16) rfl ?_
    refine st3 _ ?_
    refine XS.lstore X3.here hx rfl (hb hby d13_20) rfl (l' := #[.val (.double y1), .second, .val (.double y2), .second, .val (.long (y1).toInt64), .second, .unset, .unset]) rfl ?_
    refine XS.dloadN X3.here hx rfl (hb hby d13_22) rfl ?_
    refine st4 _ ?_
    refine XS.lstore X4.here hx rfl (hb hby d13_26) rfl (l' := #[.val (.double y1), .second, .val (.double y2), .second, .val (.long (y1).toInt64), .second, .val (.long (y2).toInt64), .second]) rfl ?_
    refine XS.lload X4.here hx rfl (hb hby d13_28) rfl ?_
    refine XS.lload X4.here hx rfl (hb hby d13_30) rfl ?_
    refine XS.lcmp X4.here hx rfl (hb hby d13_32) rfl ?_
    refine XS.ifYes X4.here hx rfl (pc0 := 33) (pc' := 40) rfl (hb hby d13_33) rfl ((if0 _ _).trans (feq hc33).2) (by decide) (by decide) ?_
    refine XS.lload X4.here hx rfl (hb hby d13_40) rfl ?_
    refine XS.lload X4.here hx rfl (hb hby d13_42) rfl ?_
    refine XS.lcmp X4.here hx rfl (hb hby d13_44) rfl ?_
    refine XS.ifNo X4.here hx rfl (hb hby d13_45) rfl ((if0 _ _).trans (tlt hc45).2.1) ?_
    refine XS.iconst X4.here hx rfl (hb hby d13_48) ?_
    refine XS.goto X4.here hx rfl (pc0 := 49) (pc' := 53) rfl (hb hby d13_49) (by decide) (by decide) ?_
    exact retI X4 hx Bd.returns (hb hby d13_53) hr
  · show Q13_3 Z y1 y2 h0 n0 _ T4.heap _
    rw [eh4]
    exact ⟨rfl, N4, rfl⟩
theorem d13_52 : decode jdk_117_method_27_code 52 = .ok (.iconst 1, 1) := by decide +kernel
theorem ef_13_4 (m : MethodId) (x0 : UInt64) (x1 : UInt64) : entryFrame m #[(.double x0), (.double x1)] 8 = mkF m 0 #[.val (.double x0), .second, .val (.double x1), .second, .unset, .unset, .unset, .unset] [] := by first | (simp [entryFrame, mkF, argsToLocals, Value.category]; done) | rfl
def Q13_4 (Z : State) (y1 : UInt64) (y2 : UInt64) (h0 : Heap) (n0 : Nat) (v : Option Value) (h : Heap) (L : List Loc) : Prop := own_Qc (1 : Int32) h0 n0 v h L
set_option maxRecDepth 65536 in
set_option maxHeartbeats 40000000 in
theorem rm13_4 (l : Launch) (Z : State) (a0 : Array Value) (hw : ∀ d ∈ tables_1, d.before a0 Z = true) (ws : List Jvm.Cond) (y1 : UInt64) (y2 : UInt64) (h0 : Heap) (n0 : Nat) (Z0 : n0 ≤ h0.size) (nn_y1 : Jvm.Free.Fl.NoNaN64 y1) (nn_y2 : Jvm.Free.Fl.NoNaN64 y2) (hc3 : ¬ ((cmpValue (FP.dcmp y1 y2) .g) < (0 : Int32))) (hc11 : ¬ ((0 : Int32) < (cmpValue (FP.dcmp y1 y2) .l))) (hc33 : ¬ ((lcmpW (y1).toInt64 (y2).toInt64) = (0 : Int32))) (hc45 : ¬ ((lcmpW (y1).toInt64 (y2).toInt64) < (0 : Int32))) :
    MetFree l (⟨"java/lang/Double", "compare", "(DD)I"⟩ : MethodName) (head1 (Jvm.Cond.code (⟨"java/lang/Double", "compare", "(DD)I"⟩ : MethodName) jdk_117_method_27_code 8 (some .int) :: ws) ({ frames := 2, cells := 0, slots := 0, locals := 60 } : Room)) (fun a U => a = #[(.double y1), (.double y2)] ∧ Z.Warmed39 U.vm ∧ U.heap = h0) (fun _ _ _ _ _ => True) (fun _ U o U' => ∃ v L, o = .returned v ∧ Q13_4 Z y1 y2 h0 n0 v U'.heap L ∧ FrameEnd U o U' L ({ frames := 2, cells := 0, slots := 0, locals := 60 } : Room).cells ({ frames := 2, cells := 0, slots := 0, locals := 60 } : Room).slots) := by
  refine MetFree.of_bodySF (plainFor_of_name pn_13) hisR ?_
  intro p e s m args below meth c s₁ Bd hml0 hP hK
  obtain ⟨rfl, hZ, hh⟩ := hP
  have hx := Bd.exec
  have hby := Bd.bytes
  have hml : c.maxLocals = 8 := hml0
  have hown : s.vm.findClass "java/lang/Double" = some m.cls := findClass_of_methodNamed Bd.named
  have hnm := (name_of_methodNamed Bd.named Bd.method).1
  have X0 : Stand p l e ({ frames := 2, cells := 0, slots := 0, locals := 60 } : Room) s m #[(.double y1), (.double y2)] below meth c s₁ [] 0 0 := Stand.of_body Bd
  have e0 : s₁.heap = h0 := by rw [← hh, Bd.state]; rfl
  have N0 := Fr.nil n0
  have pre0 : ∀ t, Steps p.tables e below (s₁.setTop (mkF m 0 #[.val (.double y1), .second, .val (.double y2), .second, .unset, .unset, .unset, .unset] [])) t → Steps p.tables e below (s₁.setTop (entryFrame m #[(.double y1), (.double y2)] 8)) t := fun t k => castTop (ef_13_4 m y1 y2) k

  obtain ⟨_, _, ⟨T3, L3, k3, n3⟩, -, X3, ⟨Lc3, hQ3, l3, y3, z3⟩, st3⟩ := Jvm.LawKit.callS X0 hx (y := (⟨"java/lang/Double", "doubleToLongBits", "(D)J"⟩ : MethodName)) hown (mvT hZ (ww hw 125 rfl)) (mvT hZ (ww hw 126 rfl)) (mvT hZ (ww hw 94 rfl)) (mvT hZ (ww hw 127 rfl)) (by decide) (backOf (W := 0) (rm20 l Z a0 hw [] y1  h0 n0 Z0 nn_y1) hZ (ww hw 127 rfl) (ww hw 94 rfl) (by decide) (by decide)) (g := (mkF m 17 #[.val (.double y1), .second, .val (.double y2), .second, .unset, .unset, .unset, .unset] [(.double y1)])) rfl (by rw [hml]; rfl) (argsL := [(.double y1)]) (rest := []) (lenOf pd_13_16 rfl) rfl (by show 2 * 0 + _ ≤ _; exact Nat.le_of_eq rfl) (hb hby d13_17) (fun _ _ => ⟨rfl, e0, (by decide : 0 + 0 ≤ _), (by decide : 0 + 0 ≤ _)⟩)
  dsimp only [Pt.U, Pt.locs, Pt.cells, Pt.slots] at X3 l3 y3 z3 st3 hQ3
  subst l3 y3 z3
  obtain ⟨rfl, N3q, eh3⟩ := hQ3
  have N3 := Fr.app N0 N3q
  obtain ⟨_, _, ⟨T4, L4, k4, n4⟩, -, X4, ⟨Lc4, hQ4, l4, y4, z4⟩, st4⟩ := Jvm.LawKit.callS X3 hx (y := (⟨"java/lang/Double", "doubleToLongBits", "(D)J"⟩ : MethodName)) hown (mvT hZ (ww hw 125 rfl)) (mvT hZ (ww hw 126 rfl)) (mvT hZ (ww hw 94 rfl)) (mvT hZ (ww hw 127 rfl)) (by decide) (backOf (W := 0) (rm20 l Z a0 hw [] y2  h0 n0 Z0 nn_y2) hZ (ww hw 127 rfl) (ww hw 94 rfl) (by decide) (by decide)) (g := (mkF m 23 #[.val (.double y1), .second, .val (.double y2), .second, .val (.long (y1).toInt64), .second, .unset, .unset] [(.double y2)])) rfl (by rw [hml]; rfl) (argsL := [(.double y2)]) (rest := []) (lenOf pd_13_16 rfl) rfl (by show 2 * 0 + _ ≤ _; exact Nat.le_of_eq rfl) (hb hby d13_23) (fun _ _ => ⟨rfl, eh3, (by decide : 0 + 0 ≤ _), (by decide : 0 + 0 ≤ _)⟩)
  dsimp only [Pt.U, Pt.locs, Pt.cells, Pt.slots] at X4 l4 y4 z4 st4 hQ4
  subst l4 y4 z4
  obtain ⟨rfl, N4q, eh4⟩ := hQ4
  have N4 := Fr.app N3 N4q
  obtain ⟨fs, hr, hrun, hended, hW, hsame⟩ := X4.leave (v := some (.int (1 : Int32))) (fun h => by rw [Bd.returns] at h; cases h)
  refine ⟨_, _, pre0 _ ?_, hrun, hended, _, _, rfl, ?_, ⟨_, rfl⟩, hW, hsame.mono (by decide) (by decide)⟩
  · show Steps _ _ _ (s₁.setTop (mkF m 0 #[.val (.double y1), .second, .val (.double y2), .second, .unset, .unset, .unset, .unset] [])) _
    refine XS.dloadN X0.here hx rfl (hb hby d13_0) rfl ?_
    refine XS.dloadN X0.here hx rfl (hb hby d13_1) rfl ?_
    refine XS.dcmpS X0.here hx rfl (hb hby d13_2) rfl rfl ?_
    refine XS.ifYes X0.here hx rfl (pc0 := 3) (pc' := 8) rfl (hb hby d13_3) rfl ((if0 _ _).trans (flt hc3).2.1) (by decide) (by decide) ?_
    refine XS.dloadN X0.here hx rfl (hb hby d13_8) rfl ?_
    refine XS.dloadN X0.here hx rfl (hb hby d13_9) rfl ?_
    refine XS.dcmpS X0.here hx rfl (hb hby d13_10) rfl rfl ?_
    refine XS.ifYes X0.here hx rfl (pc0 := 11) (pc' := 16) rfl (hb hby d13_11) rfl ((if0 _ _).trans (flt hc11).2.2.2) (by decide) (by decide) ?_
    refine XS.dloadN X0.here hx rfl (hb hby d13_16) rfl ?_
    refine st3 _ ?_
    refine XS.lstore X3.here hx rfl (hb hby d13_20) rfl (l' := #[.val (.double y1), .second, .val (.double y2), .second, .val (.long (y1).toInt64), .second, .unset, .unset]) rfl ?_
    refine XS.dloadN X3.here hx rfl (hb hby d13_22) rfl ?_
    refine st4 _ ?_
    refine XS.lstore X4.here hx rfl (hb hby d13_26) rfl (l' := #[.val (.double y1), .second, .val (.double y2), .second, .val (.long (y1).toInt64), .second, .val (.long (y2).toInt64), .second]) rfl ?_
    refine XS.lload X4.here hx rfl (hb hby d13_28) rfl ?_
    refine XS.lload X4.here hx rfl (hb hby d13_30) rfl ?_
    refine XS.lcmp X4.here hx rfl (hb hby d13_32) rfl ?_
    refine XS.ifYes X4.here hx rfl (pc0 := 33) (pc' := 40) rfl (hb hby d13_33) rfl ((if0 _ _).trans (feq hc33).2) (by decide) (by decide) ?_
    refine XS.lload X4.here hx rfl (hb hby d13_40) rfl ?_
    refine XS.lload X4.here hx rfl (hb hby d13_42) rfl ?_
    refine XS.lcmp X4.here hx rfl (hb hby d13_44) rfl ?_
    refine XS.ifYes X4.here hx rfl (pc0 := 45) (pc' := 52) rfl (hb hby d13_45) rfl ((if0 _ _).trans (flt hc45).2.1) (by decide) (by decide) ?_
    refine XS.iconst X4.here hx rfl (hb hby d13_52) ?_
    exact retI X4 hx Bd.returns (hb hby d13_53) hr
  · show Q13_4 Z y1 y2 h0 n0 _ T4.heap _
    rw [eh4]
    exact ⟨rfl, N4, rfl⟩
def own_cmp (y1 y2 : UInt64) : Int32 := if (cmpValue (FP.dcmp y1 y2) .g) < 0 then -1 else if (0 : Int32) < (cmpValue (FP.dcmp y1 y2) .l) then 1 else if (lcmpW (y1).toInt64 (y2).toInt64) = 0 then 0 else if (lcmpW (y1).toInt64 (y2).toInt64) < 0 then -1 else 1
theorem rm13 (l : Launch) (Z : State) (a0 : Array Value) (hw : ∀ d ∈ tables_1, d.before a0 Z = true) (ws : List Jvm.Cond) (y1 : UInt64) (y2 : UInt64) (h0 : Heap) (n0 : Nat) (Z0 : n0 ≤ h0.size) (nn_y1 : Jvm.Free.Fl.NoNaN64 y1) (nn_y2 : Jvm.Free.Fl.NoNaN64 y2) :
    MetFree l (⟨"java/lang/Double", "compare", "(DD)I"⟩ : MethodName) (head1 (Jvm.Cond.code (⟨"java/lang/Double", "compare", "(DD)I"⟩ : MethodName) jdk_117_method_27_code 8 (some .int) :: ws) ({ frames := 2, cells := 0, slots := 0, locals := 60 } : Room)) (fun a U => a = #[(.double y1), (.double y2)] ∧ Z.Warmed39 U.vm ∧ U.heap = h0) (fun _ _ _ _ _ => True) (fun _ U o U' => ∃ v L, o = .returned v ∧ own_Qc (own_cmp y1 y2) h0 n0 v U'.heap L ∧ FrameEnd U o U' L ({ frames := 2, cells := 0, slots := 0, locals := 60 } : Room).cells ({ frames := 2, cells := 0, slots := 0, locals := 60 } : Room).slots) := by
  unfold own_cmp
  split
  · exact rm13_0 l Z a0 hw ws y1 y2 h0 n0 Z0 nn_y1 nn_y2 (by assumption)
  split
  · exact rm13_1 l Z a0 hw ws y1 y2 h0 n0 Z0 nn_y1 nn_y2 (by assumption) (by assumption)
  split
  · exact rm13_2 l Z a0 hw ws y1 y2 h0 n0 Z0 nn_y1 nn_y2 (by assumption) (by assumption) (by assumption)
  split
  · exact rm13_3 l Z a0 hw ws y1 y2 h0 n0 Z0 nn_y1 nn_y2 (by assumption) (by assumption) (by assumption) (by assumption)
  · exact rm13_4 l Z a0 hw ws y1 y2 h0 n0 Z0 nn_y1 nn_y2 (by assumption) (by assumption) (by assumption) (by assumption)
theorem d12_0 : decode prog_188_method_14_code 0 = .ok (.dload_n 1, 1) := by decide +kernel
theorem d12_1 : decode prog_188_method_14_code 1 = .ok (.dload 4, 2) := by decide +kernel
theorem d12_3 : decode prog_188_method_14_code 3 = .ok (.invokestatic 77, 3) := by decide +kernel
theorem d12_6 : decode prog_188_method_14_code 6 = .ok (.istore 6, 2) := by decide +kernel
theorem d12_8 : decode prog_188_method_14_code 8 = .ok (.iload 6, 2) := by decide +kernel
theorem d12_10 : decode prog_188_method_14_code 10 = .ok (.ifCond .lt 13, 3) := by decide +kernel
theorem d12_23 : decode prog_188_method_14_code 23 = .ok (.iconst 1, 1) := by decide +kernel
theorem d12_24 : decode prog_188_method_14_code 24 = .ok (.goto 4, 3) := by decide +kernel
theorem d12_28 : decode prog_188_method_14_code 28 = .ok (.ireturn, 1) := by decide +kernel
theorem pn_12 : plainName sH = true := by first | (simp [plainName, overriddenIn]; done) | decide +kernel
theorem pd_12_10 : parseMethodDescriptor "(DD)I" = some ⟨[.double, .double], some .int⟩ := by decide +kernel
theorem ef_12_0 (m : MethodId) (x0 : Int32) (x1 : UInt64) (x2 : Int32) (x3 : UInt64) : entryFrame m #[(.int x0), (.double x1), (.int x2), (.double x3)] 7 = mkF m 0 #[.val (.int x0), .val (.double x1), .second, .val (.int x2), .val (.double x3), .second, .unset] [] := by first | (simp [entryFrame, mkF, argsToLocals, Value.category]; done) | rfl
def Q12_0 (Z : State) (p1 : Int32) (y2 : UInt64) (p3 : Int32) (y4 : UInt64) (h0 : Heap) (n0 : Nat) (v : Option Value) (h : Heap) (L : List Loc) : Prop := own_Qc (1 : Int32) h0 n0 v h L
set_option maxRecDepth 65536 in
set_option maxHeartbeats 40000000 in
theorem rm12_0 (l : Launch) (Z : State) (a0 : Array Value) (hw : ∀ d ∈ tables_1, d.before a0 Z = true) (ws : List Jvm.Cond) (p1 : Int32) (y2 : UInt64) (p3 : Int32) (y4 : UInt64) (h0 : Heap) (n0 : Nat) (Z0 : n0 ≤ h0.size) (nn_y2 : Jvm.Free.Fl.NoNaN64 y2) (nn_y4 : Jvm.Free.Fl.NoNaN64 y4) (hc10 : (own_cmp y2 y4) < (0 : Int32)) :
    MetFree l (⟨sH, "ranksBelow", "(IDID)Z"⟩ : MethodName) (head1 (Jvm.Cond.code (⟨sH, "ranksBelow", "(IDID)Z"⟩ : MethodName) prog_188_method_14_code 7 (some .boolean) :: ws) ({ frames := 3, cells := 0, slots := 0, locals := 85 } : Room)) (fun a U => a = #[(.int p1), (.double y2), (.int p3), (.double y4)] ∧ Z.Warmed39 U.vm ∧ U.heap = h0) (fun _ _ _ _ _ => True) (fun _ U o U' => ∃ v L, o = .returned v ∧ Q12_0 Z p1 y2 p3 y4 h0 n0 v U'.heap L ∧ FrameEnd U o U' L ({ frames := 3, cells := 0, slots := 0, locals := 85 } : Room).cells ({ frames := 3, cells := 0, slots := 0, locals := 85 } : Room).slots) := by
  refine MetFree.of_bodySF (plainFor_of_name pn_12) hisR ?_
  intro p e s m args below meth c s₁ Bd hml0 hP hK
  obtain ⟨rfl, hZ, hh⟩ := hP
  have hx := Bd.exec
  have hby := Bd.bytes
  have hml : c.maxLocals = 7 := hml0
  have hown : s.vm.findClass sH = some m.cls := findClass_of_methodNamed Bd.named
  have hnm := (name_of_methodNamed Bd.named Bd.method).1
  have X0 : Stand p l e ({ frames := 3, cells := 0, slots := 0, locals := 85 } : Room) s m #[(.int p1), (.double y2), (.int p3), (.double y4)] below meth c s₁ [] 0 0 := Stand.of_body Bd
  have e0 : s₁.heap = h0 := by rw [← hh, Bd.state]; rfl
  have N0 := Fr.nil n0
  have pre0 : ∀ t, Steps p.tables e below (s₁.setTop (mkF m 0 #[.val (.int p1), .val (.double y2), .second, .val (.int p3), .val (.double y4), .second, .unset] [])) t → Steps p.tables e below (s₁.setTop (entryFrame m #[(.int p1), (.double y2), (.int p3), (.double y4)] 7)) t := fun t k => castTop (ef_12_0 m p1 y2 p3 y4) k

  obtain ⟨_, _, ⟨T5, L5, k5, n5⟩, -, X5, ⟨Lc5, hQ5, l5, y5, z5⟩, st5⟩ := Jvm.LawKit.callS X0 hx (y := (⟨"java/lang/Double", "compare", "(DD)I"⟩ : MethodName)) hown (mvT hZ (ww hw 92 rfl)) (mvT hZ (ww hw 93 rfl)) (mvT hZ (ww hw 94 rfl)) (mvT hZ (ww hw 95 rfl)) (by decide) (backOf (W := 0) (rm13 l Z a0 hw [] y2 y4  h0 n0 Z0 nn_y2 nn_y4) hZ (ww hw 95 rfl) (ww hw 94 rfl) (by decide) (by decide)) (g := (mkF m 3 #[.val (.int p1), .val (.double y2), .second, .val (.int p3), .val (.double y4), .second, .unset] [(.double y4), (.double y2)])) rfl (by rw [hml]; rfl) (argsL := [(.double y2), (.double y4)]) (rest := []) (lenOf pd_12_10 rfl) rfl (by show 2 * 0 + _ ≤ _; exact Nat.le_of_eq rfl) (hb hby d12_3) (fun _ _ => ⟨rfl, e0, (by decide : 0 + 0 ≤ _), (by decide : 0 + 0 ≤ _)⟩)
  dsimp only [Pt.U, Pt.locs, Pt.cells, Pt.slots] at X5 l5 y5 z5 st5 hQ5
  subst l5 y5 z5
  obtain ⟨rfl, N5q, eh5⟩ := hQ5
  have N5 := Fr.app N0 N5q
  obtain ⟨fs, hr, hrun, hended, hW, hsame⟩ := X5.leave (v := some (.int (1 : Int32))) (fun h => by rw [Bd.returns] at h; cases h)
  refine ⟨_, _, pre0 _ ?_, hrun, hended, _, _, rfl, ?_, ⟨_, rfl⟩, hW, hsame.mono (by decide) (by decide)⟩
  · show Steps _ _ _ (s₁.setTop (mkF m 0 #[.val (.int p1), .val (.double y2), .second, .val (.int p3), .val (.double y4), .second, .unset] [])) _
    refine XS.dloadN X0.here hx rfl (hb hby d12_0) rfl ?_
    refine XS.dload X0.here hx rfl (hb hby d12_1) rfl ?_
    refine st5 _ ?_
    refine XS.istore X5.here hx rfl (hb hby d12_6) rfl (l' := #[.val (.int p1), .val (.double y2), .second, .val (.int p3), .val (.double y4), .second, .val (.int (own_cmp y2 y4))]) rfl ?_
    refine XS.iload X5.here hx rfl (hb hby d12_8) rfl ?_
    refine XS.ifYes X5.here hx rfl (pc0 := 10) (pc' := 23) rfl (hb hby d12_10) rfl ((if0 _ _).trans (tlt hc10).1) (by decide) (by decide) ?_
    refine XS.iconst X5.here hx rfl (hb hby d12_23) ?_
    refine XS.goto X5.here hx rfl (pc0 := 24) (pc' := 28) rfl (hb hby d12_24) (by decide) (by decide) ?_
    exact retN X5 hx (t := .boolean) Bd.returns (by simp) (hb hby d12_28) hr
  · show Q12_0 Z p1 y2 p3 y4 h0 n0 _ T5.heap _
    rw [eh5]
    exact ⟨rfl, N5, rfl⟩
theorem d12_13 : decode prog_188_method_14_code 13 = .ok (.iload 6, 2) := by decide +kernel
theorem d12_15 : decode prog_188_method_14_code 15 = .ok (.ifCond .ne 12, 3) := by decide +kernel
theorem d12_27 : decode prog_188_method_14_code 27 = .ok (.iconst 0, 1) := by decide +kernel
theorem ef_12_1 (m : MethodId) (x0 : Int32) (x1 : UInt64) (x2 : Int32) (x3 : UInt64) : entryFrame m #[(.int x0), (.double x1), (.int x2), (.double x3)] 7 = mkF m 0 #[.val (.int x0), .val (.double x1), .second, .val (.int x2), .val (.double x3), .second, .unset] [] := by first | (simp [entryFrame, mkF, argsToLocals, Value.category]; done) | rfl
def Q12_1 (Z : State) (p1 : Int32) (y2 : UInt64) (p3 : Int32) (y4 : UInt64) (h0 : Heap) (n0 : Nat) (v : Option Value) (h : Heap) (L : List Loc) : Prop := own_Qc (0 : Int32) h0 n0 v h L
set_option maxRecDepth 65536 in
set_option maxHeartbeats 40000000 in
theorem rm12_1 (l : Launch) (Z : State) (a0 : Array Value) (hw : ∀ d ∈ tables_1, d.before a0 Z = true) (ws : List Jvm.Cond) (p1 : Int32) (y2 : UInt64) (p3 : Int32) (y4 : UInt64) (h0 : Heap) (n0 : Nat) (Z0 : n0 ≤ h0.size) (nn_y2 : Jvm.Free.Fl.NoNaN64 y2) (nn_y4 : Jvm.Free.Fl.NoNaN64 y4) (hc10 : ¬ ((own_cmp y2 y4) < (0 : Int32))) (hc15 : ¬ ((own_cmp y2 y4) = (0 : Int32))) :
    MetFree l (⟨sH, "ranksBelow", "(IDID)Z"⟩ : MethodName) (head1 (Jvm.Cond.code (⟨sH, "ranksBelow", "(IDID)Z"⟩ : MethodName) prog_188_method_14_code 7 (some .boolean) :: ws) ({ frames := 3, cells := 0, slots := 0, locals := 85 } : Room)) (fun a U => a = #[(.int p1), (.double y2), (.int p3), (.double y4)] ∧ Z.Warmed39 U.vm ∧ U.heap = h0) (fun _ _ _ _ _ => True) (fun _ U o U' => ∃ v L, o = .returned v ∧ Q12_1 Z p1 y2 p3 y4 h0 n0 v U'.heap L ∧ FrameEnd U o U' L ({ frames := 3, cells := 0, slots := 0, locals := 85 } : Room).cells ({ frames := 3, cells := 0, slots := 0, locals := 85 } : Room).slots) := by
  refine MetFree.of_bodySF (plainFor_of_name pn_12) hisR ?_
  intro p e s m args below meth c s₁ Bd hml0 hP hK
  obtain ⟨rfl, hZ, hh⟩ := hP
  have hx := Bd.exec
  have hby := Bd.bytes
  have hml : c.maxLocals = 7 := hml0
  have hown : s.vm.findClass sH = some m.cls := findClass_of_methodNamed Bd.named
  have hnm := (name_of_methodNamed Bd.named Bd.method).1
  have X0 : Stand p l e ({ frames := 3, cells := 0, slots := 0, locals := 85 } : Room) s m #[(.int p1), (.double y2), (.int p3), (.double y4)] below meth c s₁ [] 0 0 := Stand.of_body Bd
  have e0 : s₁.heap = h0 := by rw [← hh, Bd.state]; rfl
  have N0 := Fr.nil n0
  have pre0 : ∀ t, Steps p.tables e below (s₁.setTop (mkF m 0 #[.val (.int p1), .val (.double y2), .second, .val (.int p3), .val (.double y4), .second, .unset] [])) t → Steps p.tables e below (s₁.setTop (entryFrame m #[(.int p1), (.double y2), (.int p3), (.double y4)] 7)) t := fun t k => castTop (ef_12_1 m p1 y2 p3 y4) k

  obtain ⟨_, _, ⟨T5, L5, k5, n5⟩, -, X5, ⟨Lc5, hQ5, l5, y5, z5⟩, st5⟩ := Jvm.LawKit.callS X0 hx (y := (⟨"java/lang/Double", "compare", "(DD)I"⟩ : MethodName)) hown (mvT hZ (ww hw 92 rfl)) (mvT hZ (ww hw 93 rfl)) (mvT hZ (ww hw 94 rfl)) (mvT hZ (ww hw 95 rfl)) (by decide) (backOf (W := 0) (rm13 l Z a0 hw [] y2 y4  h0 n0 Z0 nn_y2 nn_y4) hZ (ww hw 95 rfl) (ww hw 94 rfl) (by decide) (by decide)) (g := (mkF m 3 #[.val (.int p1), .val (.double y2), .second, .val (.int p3), .val (.double y4), .second, .unset] [(.double y4), (.double y2)])) rfl (by rw [hml]; rfl) (argsL := [(.double y2), (.double y4)]) (rest := []) (lenOf pd_12_10 rfl) rfl (by show 2 * 0 + _ ≤ _; exact Nat.le_of_eq rfl) (hb hby d12_3) (fun _ _ => ⟨rfl, e0, (by decide : 0 + 0 ≤ _), (by decide : 0 + 0 ≤ _)⟩)
  dsimp only [Pt.U, Pt.locs, Pt.cells, Pt.slots] at X5 l5 y5 z5 st5 hQ5
  subst l5 y5 z5
  obtain ⟨rfl, N5q, eh5⟩ := hQ5
  have N5 := Fr.app N0 N5q
  obtain ⟨fs, hr, hrun, hended, hW, hsame⟩ := X5.leave (v := some (.int (0 : Int32))) (fun h => by rw [Bd.returns] at h; cases h)
  refine ⟨_, _, pre0 _ ?_, hrun, hended, _, _, rfl, ?_, ⟨_, rfl⟩, hW, hsame.mono (by decide) (by decide)⟩
  · show Steps _ _ _ (s₁.setTop (mkF m 0 #[.val (.int p1), .val (.double y2), .second, .val (.int p3), .val (.double y4), .second, .unset] [])) _
    refine XS.dloadN X0.here hx rfl (hb hby d12_0) rfl ?_
    refine XS.dload X0.here hx rfl (hb hby d12_1) rfl ?_
    refine st5 _ ?_
    refine XS.istore X5.here hx rfl (hb hby d12_6) rfl (l' := #[.val (.int p1), .val (.double y2), .second, .val (.int p3), .val (.double y4), .second, .val (.int (own_cmp y2 y4))]) rfl ?_
    refine XS.iload X5.here hx rfl (hb hby d12_8) rfl ?_
    refine XS.ifNo X5.here hx rfl (hb hby d12_10) rfl ((if0 _ _).trans (flt hc10).1) ?_
    refine XS.iload X5.here hx rfl (hb hby d12_13) rfl ?_
    refine XS.ifYes X5.here hx rfl (pc0 := 15) (pc' := 27) rfl (hb hby d12_15) rfl ((if0 _ _).trans (feq hc15).2) (by decide) (by decide) ?_
    refine XS.iconst X5.here hx rfl (hb hby d12_27) ?_
    exact retN X5 hx (t := .boolean) Bd.returns (by simp) (hb hby d12_28) hr
  · show Q12_1 Z p1 y2 p3 y4 h0 n0 _ T5.heap _
    rw [eh5]
    exact ⟨rfl, N5, rfl⟩
theorem d12_18 : decode prog_188_method_14_code 18 = .ok (.iload_n 0, 1) := by decide +kernel
theorem d12_19 : decode prog_188_method_14_code 19 = .ok (.iload_n 3, 1) := by decide +kernel
theorem d12_20 : decode prog_188_method_14_code 20 = .ok (.if_icmp .le 7, 3) := by decide +kernel
theorem ef_12_2 (m : MethodId) (x0 : Int32) (x1 : UInt64) (x2 : Int32) (x3 : UInt64) : entryFrame m #[(.int x0), (.double x1), (.int x2), (.double x3)] 7 = mkF m 0 #[.val (.int x0), .val (.double x1), .second, .val (.int x2), .val (.double x3), .second, .unset] [] := by first | (simp [entryFrame, mkF, argsToLocals, Value.category]; done) | rfl
def Q12_2 (Z : State) (p1 : Int32) (y2 : UInt64) (p3 : Int32) (y4 : UInt64) (h0 : Heap) (n0 : Nat) (v : Option Value) (h : Heap) (L : List Loc) : Prop := own_Qc (1 : Int32) h0 n0 v h L
set_option maxRecDepth 65536 in
set_option maxHeartbeats 40000000 in
theorem rm12_2 (l : Launch) (Z : State) (a0 : Array Value) (hw : ∀ d ∈ tables_1, d.before a0 Z = true) (ws : List Jvm.Cond) (p1 : Int32) (y2 : UInt64) (p3 : Int32) (y4 : UInt64) (h0 : Heap) (n0 : Nat) (Z0 : n0 ≤ h0.size) (nn_y2 : Jvm.Free.Fl.NoNaN64 y2) (nn_y4 : Jvm.Free.Fl.NoNaN64 y4) (hc10 : ¬ ((own_cmp y2 y4) < (0 : Int32))) (hc15 : (own_cmp y2 y4) = (0 : Int32)) (hc20 : p3 < p1) :
    MetFree l (⟨sH, "ranksBelow", "(IDID)Z"⟩ : MethodName) (head1 (Jvm.Cond.code (⟨sH, "ranksBelow", "(IDID)Z"⟩ : MethodName) prog_188_method_14_code 7 (some .boolean) :: ws) ({ frames := 3, cells := 0, slots := 0, locals := 85 } : Room)) (fun a U => a = #[(.int p1), (.double y2), (.int p3), (.double y4)] ∧ Z.Warmed39 U.vm ∧ U.heap = h0) (fun _ _ _ _ _ => True) (fun _ U o U' => ∃ v L, o = .returned v ∧ Q12_2 Z p1 y2 p3 y4 h0 n0 v U'.heap L ∧ FrameEnd U o U' L ({ frames := 3, cells := 0, slots := 0, locals := 85 } : Room).cells ({ frames := 3, cells := 0, slots := 0, locals := 85 } : Room).slots) := by
  refine MetFree.of_bodySF (plainFor_of_name pn_12) hisR ?_
  intro p e s m args below meth c s₁ Bd hml0 hP hK
  obtain ⟨rfl, hZ, hh⟩ := hP
  have hx := Bd.exec
  have hby := Bd.bytes
  have hml : c.maxLocals = 7 := hml0
  have hown : s.vm.findClass sH = some m.cls := findClass_of_methodNamed Bd.named
  have hnm := (name_of_methodNamed Bd.named Bd.method).1
  have X0 : Stand p l e ({ frames := 3, cells := 0, slots := 0, locals := 85 } : Room) s m #[(.int p1), (.double y2), (.int p3), (.double y4)] below meth c s₁ [] 0 0 := Stand.of_body Bd
  have e0 : s₁.heap = h0 := by rw [← hh, Bd.state]; rfl
  have N0 := Fr.nil n0
  have pre0 : ∀ t, Steps p.tables e below (s₁.setTop (mkF m 0 #[.val (.int p1), .val (.double y2), .second, .val (.int p3), .val (.double y4), .second, .unset] [])) t → Steps p.tables e below (s₁.setTop (entryFrame m #[(.int p1), (.double y2), (.int p3), (.double y4)] 7)) t := fun t k => castTop (ef_12_2 m p1 y2 p3 y4) k

  obtain ⟨_, _, ⟨T5, L5, k5, n5⟩, -, X5, ⟨Lc5, hQ5, l5, y5, z5⟩, st5⟩ := Jvm.LawKit.callS X0 hx (y := (⟨"java/lang/Double", "compare", "(DD)I"⟩ : MethodName)) hown (mvT hZ (ww hw 92 rfl)) (mvT hZ (ww hw 93 rfl)) (mvT hZ (ww hw 94 rfl)) (mvT hZ (ww hw 95 rfl)) (by decide) (backOf (W := 0) (rm13 l Z a0 hw [] y2 y4  h0 n0 Z0 nn_y2 nn_y4) hZ (ww hw 95 rfl) (ww hw 94 rfl) (by decide) (by decide)) (g := (mkF m 3 #[.val (.int p1), .val (.double y2), .second, .val (.int p3), .val (.double y4), .second, .unset] [(.double y4), (.double y2)])) rfl (by rw [hml]; rfl) (argsL := [(.double y2), (.double y4)]) (rest := []) (lenOf pd_12_10 rfl) rfl (by show 2 * 0 + _ ≤ _; exact Nat.le_of_eq rfl) (hb hby d12_3) (fun _ _ => ⟨rfl, e0, (by decide : 0 + 0 ≤ _), (by decide : 0 + 0 ≤ _)⟩)
  dsimp only [Pt.U, Pt.locs, Pt.cells, Pt.slots] at X5 l5 y5 z5 st5 hQ5
  subst l5 y5 z5
  obtain ⟨rfl, N5q, eh5⟩ := hQ5
  have N5 := Fr.app N0 N5q
  obtain ⟨fs, hr, hrun, hended, hW, hsame⟩ := X5.leave (v := some (.int (1 : Int32))) (fun h => by rw [Bd.returns] at h; cases h)
  refine ⟨_, _, pre0 _ ?_, hrun, hended, _, _, rfl, ?_, ⟨_, rfl⟩, hW, hsame.mono (by decide) (by decide)⟩
  · show Steps _ _ _ (s₁.setTop (mkF m 0 #[.val (.int p1), .val (.double y2), .second, .val (.int p3), .val (.double y4), .second, .unset] [])) _
    refine XS.dloadN X0.here hx rfl (hb hby d12_0) rfl ?_
    refine XS.dload X0.here hx rfl (hb hby d12_1) rfl ?_
    refine st5 _ ?_
    refine XS.istore X5.here hx rfl (hb hby d12_6) rfl (l' := #[.val (.int p1), .val (.double y2), .second, .val (.int p3), .val (.double y4), .second, .val (.int (own_cmp y2 y4))]) rfl ?_
    refine XS.iload X5.here hx rfl (hb hby d12_8) rfl ?_
    refine XS.ifNo X5.here hx rfl (hb hby d12_10) rfl ((if0 _ _).trans (flt hc10).1) ?_
    refine XS.iload X5.here hx rfl (hb hby d12_13) rfl ?_
    refine XS.ifNo X5.here hx rfl (hb hby d12_15) rfl ((if0 _ _).trans (teq hc15).2) ?_
    refine XS.iloadN X5.here hx rfl (hb hby d12_18) rfl ?_
    refine XS.iloadN X5.here hx rfl (hb hby d12_19) rfl ?_
    refine XS.icmpNo X5.here hx rfl (hb hby d12_20) rfl (tlt hc20).2.2.2 ?_
    refine XS.iconst X5.here hx rfl (hb hby d12_23) ?_
    refine XS.goto X5.here hx rfl (pc0 := 24) (pc' := 28) rfl (hb hby d12_24) (by decide) (by decide) ?_
    exact retN X5 hx (t := .boolean) Bd.returns (by simp) (hb hby d12_28) hr
  · show Q12_2 Z p1 y2 p3 y4 h0 n0 _ T5.heap _
    rw [eh5]
    exact ⟨rfl, N5, rfl⟩
theorem ef_12_3 (m : MethodId) (x0 : Int32) (x1 : UInt64) (x2 : Int32) (x3 : UInt64) : entryFrame m #[(.int x0), (.double x1), (.int x2), (.double x3)] 7 = mkF m 0 #[.val (.int x0), .val (.double x1), .second, .val (.int x2), .val (.double x3), .second, .unset] [] := by first | (simp [entryFrame, mkF, argsToLocals, Value.category]; done) | rfl
def Q12_3 (Z : State) (p1 : Int32) (y2 : UInt64) (p3 : Int32) (y4 : UInt64) (h0 : Heap) (n0 : Nat) (v : Option Value) (h : Heap) (L : List Loc) : Prop := own_Qc (0 : Int32) h0 n0 v h L
set_option maxRecDepth 65536 in
set_option maxHeartbeats 40000000 in
theorem rm12_3 (l : Launch) (Z : State) (a0 : Array Value) (hw : ∀ d ∈ tables_1, d.before a0 Z = true) (ws : List Jvm.Cond) (p1 : Int32) (y2 : UInt64) (p3 : Int32) (y4 : UInt64) (h0 : Heap) (n0 : Nat) (Z0 : n0 ≤ h0.size) (nn_y2 : Jvm.Free.Fl.NoNaN64 y2) (nn_y4 : Jvm.Free.Fl.NoNaN64 y4) (hc10 : ¬ ((own_cmp y2 y4) < (0 : Int32))) (hc15 : (own_cmp y2 y4) = (0 : Int32)) (hc20 : ¬ (p3 < p1)) :
    MetFree l (⟨sH, "ranksBelow", "(IDID)Z"⟩ : MethodName) (head1 (Jvm.Cond.code (⟨sH, "ranksBelow", "(IDID)Z"⟩ : MethodName) prog_188_method_14_code 7 (some .boolean) :: ws) ({ frames := 3, cells := 0, slots := 0, locals := 85 } : Room)) (fun a U => a = #[(.int p1), (.double y2), (.int p3), (.double y4)] ∧ Z.Warmed39 U.vm ∧ U.heap = h0) (fun _ _ _ _ _ => True) (fun _ U o U' => ∃ v L, o = .returned v ∧ Q12_3 Z p1 y2 p3 y4 h0 n0 v U'.heap L ∧ FrameEnd U o U' L ({ frames := 3, cells := 0, slots := 0, locals := 85 } : Room).cells ({ frames := 3, cells := 0, slots := 0, locals := 85 } : Room).slots) := by
  refine MetFree.of_bodySF (plainFor_of_name pn_12) hisR ?_
  intro p e s m args below meth c s₁ Bd hml0 hP hK
  obtain ⟨rfl, hZ, hh⟩ := hP
  have hx := Bd.exec
  have hby := Bd.bytes
  have hml : c.maxLocals = 7 := hml0
  have hown : s.vm.findClass sH = some m.cls := findClass_of_methodNamed Bd.named
  have hnm := (name_of_methodNamed Bd.named Bd.method).1
  have X0 : Stand p l e ({ frames := 3, cells := 0, slots := 0, locals := 85 } : Room) s m #[(.int p1), (.double y2), (.int p3), (.double y4)] below meth c s₁ [] 0 0 := Stand.of_body Bd
  have e0 : s₁.heap = h0 := by rw [← hh, Bd.state]; rfl
  have N0 := Fr.nil n0
  have pre0 : ∀ t, Steps p.tables e below (s₁.setTop (mkF m 0 #[.val (.int p1), .val (.double y2), .second, .val (.int p3), .val (.double y4), .second, .unset] [])) t → Steps p.tables e below (s₁.setTop (entryFrame m #[(.int p1), (.double y2), (.int p3), (.double y4)] 7)) t := fun t k => castTop (ef_12_3 m p1 y2 p3 y4) k

  obtain ⟨_, _, ⟨T5, L5, k5, n5⟩, -, X5, ⟨Lc5, hQ5, l5, y5, z5⟩, st5⟩ := Jvm.LawKit.callS X0 hx (y := (⟨"java/lang/Double", "compare", "(DD)I"⟩ : MethodName)) hown (mvT hZ (ww hw 92 rfl)) (mvT hZ (ww hw 93 rfl)) (mvT hZ (ww hw 94 rfl)) (mvT hZ (ww hw 95 rfl)) (by decide) (backOf (W := 0) (rm13 l Z a0 hw [] y2 y4  h0 n0 Z0 nn_y2 nn_y4) hZ (ww hw 95 rfl) (ww hw 94 rfl) (by decide) (by decide)) (g := (mkF m 3 #[.val (.int p1), .val (.double y2), .second, .val (.int p3), .val (.double y4), .second, .unset] [(.double y4), (.double y2)])) rfl (by rw [hml]; rfl) (argsL := [(.double y2), (.double y4)]) (rest := []) (lenOf pd_12_10 rfl) rfl (by show 2 * 0 + _ ≤ _; exact Nat.le_of_eq rfl) (hb hby d12_3) (fun _ _ => ⟨rfl, e0, (by decide : 0 + 0 ≤ _), (by decide : 0 + 0 ≤ _)⟩)
  dsimp only [Pt.U, Pt.locs, Pt.cells, Pt.slots] at X5 l5 y5 z5 st5 hQ5
  subst l5 y5 z5
  obtain ⟨rfl, N5q, eh5⟩ := hQ5
  have N5 := Fr.app N0 N5q
  obtain ⟨fs, hr, hrun, hended, hW, hsame⟩ := X5.leave (v := some (.int (0 : Int32))) (fun h => by rw [Bd.returns] at h; cases h)
  refine ⟨_, _, pre0 _ ?_, hrun, hended, _, _, rfl, ?_, ⟨_, rfl⟩, hW, hsame.mono (by decide) (by decide)⟩
  · show Steps _ _ _ (s₁.setTop (mkF m 0 #[.val (.int p1), .val (.double y2), .second, .val (.int p3), .val (.double y4), .second, .unset] [])) _
    refine XS.dloadN X0.here hx rfl (hb hby d12_0) rfl ?_
    refine XS.dload X0.here hx rfl (hb hby d12_1) rfl ?_
    refine st5 _ ?_
    refine XS.istore X5.here hx rfl (hb hby d12_6) rfl (l' := #[.val (.int p1), .val (.double y2), .second, .val (.int p3), .val (.double y4), .second, .val (.int (own_cmp y2 y4))]) rfl ?_
    refine XS.iload X5.here hx rfl (hb hby d12_8) rfl ?_
    refine XS.ifNo X5.here hx rfl (hb hby d12_10) rfl ((if0 _ _).trans (flt hc10).1) ?_
    refine XS.iload X5.here hx rfl (hb hby d12_13) rfl ?_
    refine XS.ifNo X5.here hx rfl (hb hby d12_15) rfl ((if0 _ _).trans (teq hc15).2) ?_
    refine XS.iloadN X5.here hx rfl (hb hby d12_18) rfl ?_
    refine XS.iloadN X5.here hx rfl (hb hby d12_19) rfl ?_
    refine XS.icmpYes X5.here hx rfl (pc0 := 20) (pc' := 27) rfl (hb hby d12_20) rfl (flt hc20).2.2.2 (by decide) (by decide) ?_
    refine XS.iconst X5.here hx rfl (hb hby d12_27) ?_
    exact retN X5 hx (t := .boolean) Bd.returns (by simp) (hb hby d12_28) hr
  · show Q12_3 Z p1 y2 p3 y4 h0 n0 _ T5.heap _
    rw [eh5]
    exact ⟨rfl, N5, rfl⟩
def own_rb (p1 : Int32) (y2 : UInt64) (p3 : Int32) (y4 : UInt64) : Int32 := if own_cmp y2 y4 < 0 then 1 else if ¬ (own_cmp y2 y4 = 0) then 0 else if p3 < p1 then 1 else 0
theorem rm12 (l : Launch) (Z : State) (a0 : Array Value) (hw : ∀ d ∈ tables_1, d.before a0 Z = true) (ws : List Jvm.Cond) (p1 : Int32) (y2 : UInt64) (p3 : Int32) (y4 : UInt64) (h0 : Heap) (n0 : Nat) (Z0 : n0 ≤ h0.size) (nn_y2 : Jvm.Free.Fl.NoNaN64 y2) (nn_y4 : Jvm.Free.Fl.NoNaN64 y4) :
    MetFree l (⟨sH, "ranksBelow", "(IDID)Z"⟩ : MethodName) (head1 (Jvm.Cond.code (⟨sH, "ranksBelow", "(IDID)Z"⟩ : MethodName) prog_188_method_14_code 7 (some .boolean) :: ws) ({ frames := 3, cells := 0, slots := 0, locals := 85 } : Room)) (fun a U => a = #[(.int p1), (.double y2), (.int p3), (.double y4)] ∧ Z.Warmed39 U.vm ∧ U.heap = h0) (fun _ _ _ _ _ => True) (fun _ U o U' => ∃ v L, o = .returned v ∧ own_Qc (own_rb p1 y2 p3 y4) h0 n0 v U'.heap L ∧ FrameEnd U o U' L ({ frames := 3, cells := 0, slots := 0, locals := 85 } : Room).cells ({ frames := 3, cells := 0, slots := 0, locals := 85 } : Room).slots) := by
  unfold own_rb
  by_cases c1 : own_cmp y2 y4 < 0
  · rw [if_pos c1]
    exact rm12_0 l Z a0 hw ws p1 y2 p3 y4 h0 n0 Z0 nn_y2 nn_y4 c1
  rw [if_neg c1]
  by_cases c2 : own_cmp y2 y4 = 0
  · rw [if_neg (fun h => h c2)]
    split
    · exact rm12_2 l Z a0 hw ws p1 y2 p3 y4 h0 n0 Z0 nn_y2 nn_y4 c1 c2 (by assumption)
    · exact rm12_3 l Z a0 hw ws p1 y2 p3 y4 h0 n0 Z0 nn_y2 nn_y4 c1 c2 (by assumption)
  · rw [if_pos c2]
    exact rm12_1 l Z a0 hw ws p1 y2 p3 y4 h0 n0 Z0 nn_y2 nn_y4 c1 c2
theorem own_rbz (p1 : Int32) (y2 : UInt64) (p3 : Int32) (y4 : UInt64) : nar .boolean (own_rb p1 y2 p3 y4) = own_rb p1 y2 p3 y4 := by
  unfold own_rb
  split
  · rfl
  split
  · rfl
  split <;> rfl
theorem d11_0 : decode prog_188_method_13_code 0 = .ok (.iload_n 1, 1) := by decide +kernel
theorem d11_1 : decode prog_188_method_13_code 1 = .ok (.dload_n 2, 1) := by decide +kernel
theorem d11_2 : decode prog_188_method_13_code 2 = .ok (.aload_n 0, 1) := by decide +kernel
theorem d11_3 : decode prog_188_method_13_code 3 = .ok (.getfield 7, 3) := by decide +kernel
theorem d11_6 : decode prog_188_method_13_code 6 = .ok (.iload 4, 2) := by decide +kernel
theorem d11_8 : decode prog_188_method_13_code 8 = .ok (.iaload, 1) := by decide +kernel
theorem d11_9 : decode prog_188_method_13_code 9 = .ok (.aload_n 0, 1) := by decide +kernel
theorem d11_10 : decode prog_188_method_13_code 10 = .ok (.getfield 13, 3) := by decide +kernel
theorem d11_13 : decode prog_188_method_13_code 13 = .ok (.iload 4, 2) := by decide +kernel
theorem d11_15 : decode prog_188_method_13_code 15 = .ok (.daload, 1) := by decide +kernel
theorem d11_16 : decode prog_188_method_13_code 16 = .ok (.invokestatic 74, 3) := by decide +kernel
theorem d11_19 : decode prog_188_method_13_code 19 = .ok (.ireturn, 1) := by decide +kernel
theorem pn_11 : plainName sH = true := by first | (simp [plainName, overriddenIn]; done) | decide +kernel
theorem pd_11_9 : parseMethodDescriptor "(IDID)Z" = some ⟨[.int, .double, .int, .double], some .boolean⟩ := by decide +kernel
theorem ef_11 (m : MethodId) (x0 : Addr) (x1 : Int32) (x2 : UInt64) (x3 : Int32) : entryFrame m #[(.ref x0), (.int x1), (.double x2), (.int x3)] 5 = mkF m 0 #[.val (.ref x0), .val (.int x1), .val (.double x2), .second, .val (.int x3)] [] := by first | (simp [entryFrame, mkF, argsToLocals, Value.category]; done) | rfl
def Q11 (Z : State) (a1 : Addr) (p2 : Int32) (y3 : UInt64) (p4 : Int32) (da : Addr) (sa : Addr) (n : Int32) (D : Nat → Int32) (S0 : Nat → UInt64) (h0 : Heap) (n0 : Nat) (v : Option Value) (h : Heap) (L : List Loc) : Prop := own_Qc (own_rb p2 y3 (D (p4).toNatClampNeg) (S0 (p4).toNatClampNeg)) h0 n0 v h L
set_option maxRecDepth 65536 in
set_option maxHeartbeats 40000000 in
theorem rm11 (l : Launch) (Z : State) (a0 : Array Value) (hw : ∀ d ∈ tables_1, d.before a0 Z = true) (ws : List Jvm.Cond) (a1 : Addr) (p2 : Int32) (y3 : UInt64) (p4 : Int32) (da : Addr) (sa : Addr) (n : Int32) (D : Nat → Int32) (S0 : Nat → UInt64) (h0 : Heap) (n0 : Nat) (Z0 : n0 ≤ h0.size) (E_a1 : Exa Z h0 a1 sH) (F_d : Fld Z h0 a1 sH "documents" "[I" (.ref da)) (F_s : Fld Z h0 a1 sH "scores" "[D" (.ref sa)) (V_da : own_AI Z h0 da n D) (V_sa : own_AD Z h0 sa n S0) (hj : ¬ p4 < 0 ∧ p4 < n) (nn_y3 : Jvm.Free.Fl.NoNaN64 y3) :
    MetFree l (⟨sH, "ranksBelow", "(IDI)Z"⟩ : MethodName) (head1 (Jvm.Cond.code (⟨sH, "ranksBelow", "(IDI)Z"⟩ : MethodName) prog_188_method_13_code 5 (some .boolean) :: ws) ({ frames := 4, cells := 0, slots := 0, locals := 103 } : Room)) (fun a U => a = #[(.ref a1), (.int p2), (.double y3), (.int p4)] ∧ Z.Warmed39 U.vm ∧ U.heap = h0) (fun _ _ _ _ _ => True) (fun _ U o U' => ∃ v L, o = .returned v ∧ Q11 Z a1 p2 y3 p4 da sa n D S0 h0 n0 v U'.heap L ∧ FrameEnd U o U' L ({ frames := 4, cells := 0, slots := 0, locals := 103 } : Room).cells ({ frames := 4, cells := 0, slots := 0, locals := 103 } : Room).slots) := by
  refine MetFree.of_bodySF (plainFor_of_name pn_11) hisR ?_
  intro p e s m args below meth c s₁ Bd hml0 hP hK
  obtain ⟨rfl, hZ, hh⟩ := hP
  have hx := Bd.exec
  have hby := Bd.bytes
  have hml : c.maxLocals = 5 := hml0
  have hown : s.vm.findClass sH = some m.cls := findClass_of_methodNamed Bd.named
  have hnm := (name_of_methodNamed Bd.named Bd.method).1
  have X0 : Stand p l e ({ frames := 4, cells := 0, slots := 0, locals := 103 } : Room) s m #[(.ref a1), (.int p2), (.double y3), (.int p4)] below meth c s₁ [] 0 0 := Stand.of_body Bd
  have e0 : s₁.heap = h0 := by rw [← hh, Bd.state]; rfl
  have N0 := Fr.nil n0
  have pre0 : ∀ t, Steps p.tables e below (s₁.setTop (mkF m 0 #[.val (.ref a1), .val (.int p2), .val (.double y3), .second, .val (.int p4)] [])) t → Steps p.tables e below (s₁.setTop (entryFrame m #[(.ref a1), (.int p2), (.double y3), (.int p4)] 5)) t := fun t k => castTop (ef_11 m a1 p2 y3 p4) k

  obtain ⟨T5, X5, e5, st5⟩ := getF X0 hx hZ hown (host := "") (Or.inl (ww hw 26 rfl)) Via.refl e0 F_d (g := (mkF m 3 #[.val (.ref a1), .val (.int p2), .val (.double y3), .second, .val (.int p4)] [(.ref a1), (.double y3), (.int p2)])) rfl rfl (hb hby d11_3)
  obtain ⟨cl_8, Ar_8, S_8, H_8⟩ := id (V_da)
  have hin8 : ¬ (p4 < 0 ∨ cl_8.slots.size ≤ (p4).toNatClampNeg) := inb_of S_8 hj
  have hat8 := H_8 _ (own_inb hin8)
  obtain ⟨T6, X6, e6, st6⟩ := getF X5 hx hZ hown (host := "") (Or.inl (ww hw 29 rfl)) Via.refl e5 F_s (g := (mkF m 10 #[.val (.ref a1), .val (.int p2), .val (.double y3), .second, .val (.int p4)] [(.ref a1), (.int (D (p4).toNatClampNeg)), (.double y3), (.int p2)])) rfl rfl (hb hby d11_10)
  obtain ⟨cl_15, Ar_15, S_15, H_15⟩ := id (V_sa)
  have hin15 : ¬ (p4 < 0 ∨ cl_15.slots.size ≤ (p4).toNatClampNeg) := inb_of S_15 hj
  obtain ⟨hat15, nn_15⟩ := H_15 _ (own_inb hin15)
  obtain ⟨_, _, ⟨T7, L7, k7, n7⟩, -, X7, ⟨Lc7, hQ7, l7, y7, z7⟩, st7⟩ := Jvm.LawKit.callS X6 hx (y := (⟨sH, "ranksBelow", "(IDID)Z"⟩ : MethodName)) hown (mvT hZ (ww hw 89 rfl)) (mvT hZ (ww hw 90 rfl)) (mvT hZ (ww hw 20 rfl)) (mvT hZ (ww hw 91 rfl)) (by decide) (backOf (W := 0) (rm12 l Z a0 hw [] p2 y3 (D (p4).toNatClampNeg) (S0 (p4).toNatClampNeg)  h0 n0 Z0 nn_y3 nn_15) hZ (ww hw 91 rfl) (ww hw 20 rfl) (by decide) (by decide)) (g := (mkF m 16 #[.val (.ref a1), .val (.int p2), .val (.double y3), .second, .val (.int p4)] [(.double (S0 (p4).toNatClampNeg)), (.int (D (p4).toNatClampNeg)), (.double y3), (.int p2)])) rfl (by rw [hml]; rfl) (argsL := [(.int p2), (.double y3), (.int (D (p4).toNatClampNeg)), (.double (S0 (p4).toNatClampNeg))]) (rest := []) (lenOf pd_11_9 rfl) rfl (by show 2 * 0 + _ ≤ _; exact Nat.le_of_eq rfl) (hb hby d11_16) (fun _ _ => ⟨rfl, e6, (by decide : 0 + 0 ≤ _), (by decide : 0 + 0 ≤ _)⟩)
  dsimp only [Pt.U, Pt.locs, Pt.cells, Pt.slots] at X7 l7 y7 z7 st7 hQ7
  subst l7 y7 z7
  obtain ⟨rfl, N7q, eh7⟩ := hQ7
  have N7 := Fr.app N0 N7q
  obtain ⟨fs, hr, hrun, hended, hW, hsame⟩ := X7.leave (v := some (.int (nar .boolean (own_rb p2 y3 (D (p4).toNatClampNeg) (S0 (p4).toNatClampNeg))))) (fun h => by rw [Bd.returns] at h; cases h)
  refine ⟨_, _, pre0 _ ?_, hrun, hended, _, _, rfl, ?_, ⟨_, rfl⟩, hW, hsame.mono (by decide) (by decide)⟩
  · show Steps _ _ _ (s₁.setTop (mkF m 0 #[.val (.ref a1), .val (.int p2), .val (.double y3), .second, .val (.int p4)] [])) _
    refine XS.iloadN X0.here hx rfl (hb hby d11_0) rfl ?_
    refine XS.dloadN X0.here hx rfl (hb hby d11_1) rfl ?_
    refine XS.aloadN X0.here hx rfl (hb hby d11_2) rfl rfl ?_
    refine st5 _ ?_
    refine XS.iload X5.here hx rfl (hb hby d11_6) rfl ?_
    refine X5.iaload hx (j := p4) (v := (.int (D (p4).toNatClampNeg))) (by rw [e5]; exact Ar_8.1) (State.isArrayOf_alike hZ.alike Ar_8.2.1) Ar_8.2.2 hin8 hat8 (g := (mkF m 8 #[.val (.ref a1), .val (.int p2), .val (.double y3), .second, .val (.int p4)] [(.int p4), (.ref da), (.double y3), (.int p2)])) rfl rfl (hb hby d11_8) _ ?_
    refine XS.aloadN X5.here hx rfl (hb hby d11_9) rfl rfl ?_
    refine st6 _ ?_
    refine XS.iload X6.here hx rfl (hb hby d11_13) rfl ?_
    refine X6.daload hx (j := p4) (v := (.double (S0 (p4).toNatClampNeg))) (by rw [e6]; exact Ar_15.1) (State.isArrayOf_alike hZ.alike Ar_15.2.1) Ar_15.2.2 hin15 hat15 (g := (mkF m 15 #[.val (.ref a1), .val (.int p2), .val (.double y3), .second, .val (.int p4)] [(.int p4), (.ref sa), (.int (D (p4).toNatClampNeg)), (.double y3), (.int p2)])) rfl rfl (hb hby d11_15) _ ?_
    refine st7 _ ?_
    exact retN X7 hx (t := .boolean) Bd.returns (by simp) (hb hby d11_19) hr
  · show Q11 Z a1 p2 y3 p4 da sa n D S0 h0 n0 _ T7.heap _
    rw [eh7]
    exact ⟨by rw [own_rbz], N7, rfl⟩
theorem d10_0 : decode prog_188_method_16_code 0 = .ok (.aload_n 0, 1) := by decide +kernel
theorem d10_1 : decode prog_188_method_16_code 1 = .ok (.getfield 7, 3) := by decide +kernel
theorem d10_4 : decode prog_188_method_16_code 4 = .ok (.iload_n 1, 1) := by decide +kernel
theorem d10_5 : decode prog_188_method_16_code 5 = .ok (.iload_n 2, 1) := by decide +kernel
theorem d10_6 : decode prog_188_method_16_code 6 = .ok (.iastore, 1) := by decide +kernel
theorem d10_7 : decode prog_188_method_16_code 7 = .ok (.aload_n 0, 1) := by decide +kernel
theorem d10_8 : decode prog_188_method_16_code 8 = .ok (.getfield 13, 3) := by decide +kernel
theorem d10_11 : decode prog_188_method_16_code 11 = .ok (.iload_n 1, 1) := by decide +kernel
theorem d10_12 : decode prog_188_method_16_code 12 = .ok (.dload_n 3, 1) := by decide +kernel
theorem d10_13 : decode prog_188_method_16_code 13 = .ok (.dastore, 1) := by decide +kernel
theorem d10_14 : decode prog_188_method_16_code 14 = .ok (.return_, 1) := by decide +kernel
theorem pn_10 : plainName sH = true := by first | (simp [plainName, overriddenIn]; done) | decide +kernel
theorem ef_10 (m : MethodId) (x0 : Addr) (x1 : Int32) (x2 : Int32) (x3 : UInt64) : entryFrame m #[(.ref x0), (.int x1), (.int x2), (.double x3)] 5 = mkF m 0 #[.val (.ref x0), .val (.int x1), .val (.int x2), .val (.double x3), .second] [] := by first | (simp [entryFrame, mkF, argsToLocals, Value.category]; done) | rfl
def Q10 (Z : State) (a1 : Addr) (p2 : Int32) (p3 : Int32) (y4 : UInt64) (da : Addr) (sa : Addr) (n : Int32) (D : Nat → Int32) (S0 : Nat → UInt64) (h0 : Heap) (n0 : Nat) (v : Option Value) (h : Heap) (L : List Loc) : Prop := v = none ∧ Fr n0 L ∧ Keep h0 h [da, sa] ∧ (∃ D', own_AI Z h da n D') ∧ (∃ S', own_AD Z h sa n S')
set_option maxRecDepth 65536 in
set_option maxHeartbeats 40000000 in
theorem rm10 (l : Launch) (Z : State) (a0 : Array Value) (hw : ∀ d ∈ tables_1, d.before a0 Z = true) (ws : List Jvm.Cond) (a1 : Addr) (p2 : Int32) (p3 : Int32) (y4 : UInt64) (da : Addr) (sa : Addr) (n : Int32) (D : Nat → Int32) (S0 : Nat → UInt64) (h0 : Heap) (n0 : Nat) (Z0 : n0 ≤ h0.size) (E_a1 : Exa Z h0 a1 sH) (F_d : Fld Z h0 a1 sH "documents" "[I" (.ref da)) (F_s : Fld Z h0 a1 sH "scores" "[D" (.ref sa)) (V_da : own_AI Z h0 da n D) (V_sa : own_AD Z h0 sa n S0) (nds : da ≠ sa) (nad : a1 ≠ da) (nas : a1 ≠ sa) (g_da : n0 ≤ da) (g_sa : n0 ≤ sa) (hj : ¬ p2 < 0 ∧ p2 < n) (nn_y4 : Jvm.Free.Fl.NoNaN64 y4) :
    MetFree l (⟨sH, "put", "(IID)V"⟩ : MethodName) (head1 (Jvm.Cond.code (⟨sH, "put", "(IID)V"⟩ : MethodName) prog_188_method_16_code 5 none :: ws) ({ frames := 0, cells := 0, slots := 0, locals := 0 } : Room)) (fun a U => a = #[(.ref a1), (.int p2), (.int p3), (.double y4)] ∧ Z.Warmed39 U.vm ∧ U.heap = h0) (fun _ _ _ _ _ => True) (fun _ U o U' => ∃ v L, o = .returned v ∧ Q10 Z a1 p2 p3 y4 da sa n D S0 h0 n0 v U'.heap L ∧ FrameEnd U o U' L ({ frames := 0, cells := 0, slots := 0, locals := 0 } : Room).cells ({ frames := 0, cells := 0, slots := 0, locals := 0 } : Room).slots) := by
  refine MetFree.of_bodySF (plainFor_of_name pn_10) hisR ?_
  intro p e s m args below meth c s₁ Bd hml0 hP hK
  obtain ⟨rfl, hZ, hh⟩ := hP
  have hx := Bd.exec
  have hby := Bd.bytes
  have hml : c.maxLocals = 5 := hml0
  have hown : s.vm.findClass sH = some m.cls := findClass_of_methodNamed Bd.named
  have hnm := (name_of_methodNamed Bd.named Bd.method).1
  have X0 : Stand p l e ({ frames := 0, cells := 0, slots := 0, locals := 0 } : Room) s m #[(.ref a1), (.int p2), (.int p3), (.double y4)] below meth c s₁ [] 0 0 := Stand.of_body Bd
  have e0 : s₁.heap = h0 := by rw [← hh, Bd.state]; rfl
  have N0 := Fr.nil n0
  have pre0 : ∀ t, Steps p.tables e below (s₁.setTop (mkF m 0 #[.val (.ref a1), .val (.int p2), .val (.int p3), .val (.double y4), .second] [])) t → Steps p.tables e below (s₁.setTop (entryFrame m #[(.ref a1), (.int p2), (.int p3), (.double y4)] 5)) t := fun t k => castTop (ef_10 m a1 p2 p3 y4) k

  obtain ⟨T5, X5, e5, st5⟩ := getF X0 hx hZ hown (host := "") (Or.inl (ww hw 26 rfl)) Via.refl e0 F_d (g := (mkF m 1 #[.val (.ref a1), .val (.int p2), .val (.int p3), .val (.double y4), .second] [(.ref a1)])) rfl rfl (hb hby d10_1)
  obtain ⟨cl_6, Ar_6, S_6, H_6⟩ := id (V_da)
  have hin6 : ¬ (p2 < 0 ∨ cl_6.slots.size ≤ (p2).toNatClampNeg) := inb_of S_6 hj
  obtain ⟨T6, h6, X6, e6, W6, st6⟩ := stI X5 hx hZ e5 Ar_6 (j := p2) hin6 (g := (mkF m 6 #[.val (.ref a1), .val (.int p2), .val (.int p3), .val (.double y4), .second] [(.int p3), (.int p2), (.ref da)])) rfl rfl (hb hby d10_6)
  have V_da_6 := own_AI.put Ar_6 S_6 H_6 W6
  have K6 : Keep h0 h6 [da, sa] := (Keep.refl h0 [da, sa]).wr W6 (Or.inl (List.mem_of_getElem? (i := 0) rfl))
  have N6 := Fr.snoc X6 N0 g_da
  obtain ⟨T7, X7, e7, st7⟩ := getF X6 hx hZ hown (host := "") (Or.inl (ww hw 29 rfl)) Via.refl e6 (F_s.other W6 (Or.inl nad)) (g := (mkF m 8 #[.val (.ref a1), .val (.int p2), .val (.int p3), .val (.double y4), .second] [(.ref a1)])) rfl rfl (hb hby d10_8)
  obtain ⟨cl_13, Ar_13, S_13, H_13⟩ := id ((V_sa.other W6 nds.symm))
  have hin13 : ¬ (p2 < 0 ∨ cl_13.slots.size ≤ (p2).toNatClampNeg) := inb_of S_13 hj
  obtain ⟨T8, h8, X8, e8, W8, st8⟩ := stD X7 hx hZ e7 Ar_13 (j := p2) hin13 (g := (mkF m 13 #[.val (.ref a1), .val (.int p2), .val (.int p3), .val (.double y4), .second] [(.double y4), (.int p2), (.ref sa)])) rfl rfl (hb hby d10_13)
  have V_sa_8 := own_AD.put Ar_13 S_13 H_13 nn_y4 W8
  have K8 : Keep h0 h8 [da, sa] := K6.wr W8 (Or.inl (List.mem_of_getElem? (i := 1) rfl))
  have N8 := Fr.snoc X8 N6 g_sa
  obtain ⟨fs, hr, hrun, hended, hW, hsame⟩ := X8.leave (v := none) (fun _ => rfl)
  refine ⟨_, _, pre0 _ ?_, hrun, hended, _, _, rfl, ?_, ⟨_, rfl⟩, hW, hsame.mono (by decide) (by decide)⟩
  · show Steps _ _ _ (s₁.setTop (mkF m 0 #[.val (.ref a1), .val (.int p2), .val (.int p3), .val (.double y4), .second] [])) _
    refine XS.aloadN X0.here hx rfl (hb hby d10_0) rfl rfl ?_
    refine st5 _ ?_
    refine XS.iloadN X5.here hx rfl (hb hby d10_4) rfl ?_
    refine XS.iloadN X5.here hx rfl (hb hby d10_5) rfl ?_
    refine st6 _ ?_
    refine XS.aloadN X6.here hx rfl (hb hby d10_7) rfl rfl ?_
    refine st7 _ ?_
    refine XS.iloadN X7.here hx rfl (hb hby d10_11) rfl ?_
    refine XS.dloadN X7.here hx rfl (hb hby d10_12) rfl ?_
    refine st8 _ ?_
    exact X8.returnOut hx Bd.returns (hb hby d10_14) hr
  · show Q10 Z a1 p2 p3 y4 da sa n D S0 h0 n0 _ T8.heap _
    rw [e8]
    exact ⟨rfl, N8, K8, ⟨_, (V_da_6.other W8 nds)⟩, ⟨_, V_sa_8⟩⟩
theorem d14_0 : decode prog_188_method_15_code 0 = .ok (.aload_n 0, 1) := by decide +kernel
theorem d14_1 : decode prog_188_method_15_code 1 = .ok (.iload_n 2, 1) := by decide +kernel
theorem d14_2 : decode prog_188_method_15_code 2 = .ok (.aload_n 0, 1) := by decide +kernel
theorem d14_3 : decode prog_188_method_15_code 3 = .ok (.getfield 7, 3) := by decide +kernel
theorem d14_6 : decode prog_188_method_15_code 6 = .ok (.iload_n 1, 1) := by decide +kernel
theorem d14_7 : decode prog_188_method_15_code 7 = .ok (.iaload, 1) := by decide +kernel
theorem d14_8 : decode prog_188_method_15_code 8 = .ok (.aload_n 0, 1) := by decide +kernel
theorem d14_9 : decode prog_188_method_15_code 9 = .ok (.getfield 13, 3) := by decide +kernel
theorem d14_12 : decode prog_188_method_15_code 12 = .ok (.iload_n 1, 1) := by decide +kernel
theorem d14_13 : decode prog_188_method_15_code 13 = .ok (.daload, 1) := by decide +kernel
theorem d14_14 : decode prog_188_method_15_code 14 = .ok (.invokevirtual 29, 3) := by decide +kernel
theorem d14_17 : decode prog_188_method_15_code 17 = .ok (.return_, 1) := by decide +kernel
theorem pn_14 : plainName sH = true := by first | (simp [plainName, overriddenIn]; done) | decide +kernel
theorem pd_14_7 : parseMethodDescriptor "(IID)V" = some ⟨[.int, .int, .double], none⟩ := by decide +kernel
theorem ef_14 (m : MethodId) (x0 : Addr) (x1 : Int32) (x2 : Int32) : entryFrame m #[(.ref x0), (.int x1), (.int x2)] 3 = mkF m 0 #[.val (.ref x0), .val (.int x1), .val (.int x2)] [] := by first | (simp [entryFrame, mkF, argsToLocals, Value.category]; done) | rfl
def Q14 (Z : State) (a1 : Addr) (p2 : Int32) (p3 : Int32) (da : Addr) (sa : Addr) (n : Int32) (D : Nat → Int32) (S0 : Nat → UInt64) (h0 : Heap) (n0 : Nat) (v : Option Value) (h : Heap) (L : List Loc) : Prop := v = none ∧ Fr n0 L ∧ Keep h0 h [da, sa] ∧ (∃ D', own_AI Z h da n D') ∧ (∃ S', own_AD Z h sa n S')
set_option maxRecDepth 65536 in
set_option maxHeartbeats 40000000 in
theorem rm14 (l : Launch) (Z : State) (a0 : Array Value) (hw : ∀ d ∈ tables_1, d.before a0 Z = true) (ws : List Jvm.Cond) (a1 : Addr) (p2 : Int32) (p3 : Int32) (da : Addr) (sa : Addr) (n : Int32) (D : Nat → Int32) (S0 : Nat → UInt64) (h0 : Heap) (n0 : Nat) (Z0 : n0 ≤ h0.size) (E_a1 : Exa Z h0 a1 sH) (F_d : Fld Z h0 a1 sH "documents" "[I" (.ref da)) (F_s : Fld Z h0 a1 sH "scores" "[D" (.ref sa)) (V_da : own_AI Z h0 da n D) (V_sa : own_AD Z h0 sa n S0) (nds : da ≠ sa) (nad : a1 ≠ da) (nas : a1 ≠ sa) (g_da : n0 ≤ da) (g_sa : n0 ≤ sa) (hj : ¬ p2 < 0 ∧ p2 < n) (hk : ¬ p3 < 0 ∧ p3 < n) :
    MetFree l (⟨sH, "move", "(II)V"⟩ : MethodName) (head1 (Jvm.Cond.code (⟨sH, "move", "(II)V"⟩ : MethodName) prog_188_method_15_code 3 none :: ws) ({ frames := 1, cells := 0, slots := 0, locals := 16 } : Room)) (fun a U => a = #[(.ref a1), (.int p2), (.int p3)] ∧ Z.Warmed39 U.vm ∧ U.heap = h0) (fun _ _ _ _ _ => True) (fun _ U o U' => ∃ v L, o = .returned v ∧ Q14 Z a1 p2 p3 da sa n D S0 h0 n0 v U'.heap L ∧ FrameEnd U o U' L ({ frames := 1, cells := 0, slots := 0, locals := 16 } : Room).cells ({ frames := 1, cells := 0, slots := 0, locals := 16 } : Room).slots) := by
  refine MetFree.of_bodySF (plainFor_of_name pn_14) hisR ?_
  intro p e s m args below meth c s₁ Bd hml0 hP hK
  obtain ⟨rfl, hZ, hh⟩ := hP
  have hx := Bd.exec
  have hby := Bd.bytes
  have hml : c.maxLocals = 3 := hml0
  have hown : s.vm.findClass sH = some m.cls := findClass_of_methodNamed Bd.named
  have hnm := (name_of_methodNamed Bd.named Bd.method).1
  have X0 : Stand p l e ({ frames := 1, cells := 0, slots := 0, locals := 16 } : Room) s m #[(.ref a1), (.int p2), (.int p3)] below meth c s₁ [] 0 0 := Stand.of_body Bd
  have e0 : s₁.heap = h0 := by rw [← hh, Bd.state]; rfl
  have N0 := Fr.nil n0
  have pre0 : ∀ t, Steps p.tables e below (s₁.setTop (mkF m 0 #[.val (.ref a1), .val (.int p2), .val (.int p3)] [])) t → Steps p.tables e below (s₁.setTop (entryFrame m #[(.ref a1), (.int p2), (.int p3)] 3)) t := fun t k => castTop (ef_14 m a1 p2 p3) k

  obtain ⟨T4, X4, e4, st4⟩ := getF X0 hx hZ hown (host := "") (Or.inl (ww hw 26 rfl)) Via.refl e0 F_d (g := (mkF m 3 #[.val (.ref a1), .val (.int p2), .val (.int p3)] [(.ref a1), (.int p3), (.ref a1)])) rfl rfl (hb hby d14_3)
  obtain ⟨cl_7, Ar_7, S_7, H_7⟩ := id (V_da)
  have hin7 : ¬ (p2 < 0 ∨ cl_7.slots.size ≤ (p2).toNatClampNeg) := inb_of S_7 hj
  have hat7 := H_7 _ (own_inb hin7)
  obtain ⟨T5, X5, e5, st5⟩ := getF X4 hx hZ hown (host := "") (Or.inl (ww hw 29 rfl)) Via.refl e4 F_s (g := (mkF m 9 #[.val (.ref a1), .val (.int p2), .val (.int p3)] [(.ref a1), (.int (D (p2).toNatClampNeg)), (.int p3), (.ref a1)])) rfl rfl (hb hby d14_9)
  obtain ⟨cl_13, Ar_13, S_13, H_13⟩ := id (V_sa)
  have hin13 : ¬ (p2 < 0 ∨ cl_13.slots.size ≤ (p2).toNatClampNeg) := inb_of S_13 hj
  obtain ⟨hat13, nn_13⟩ := H_13 _ (own_inb hin13)
  obtain ⟨cq6, q6, q6'⟩ := E_a1.cell
  obtain ⟨_, _, ⟨T6, L6, k6, n6⟩, -, X6, ⟨Lc6, hQ6, l6, y6, z6⟩, st6⟩ := X5.privateBack hx (y := (⟨sH, "put", "(IID)V"⟩ : MethodName)) hown (mvT hZ (ww hw 80 rfl)) (mvT hZ (ww hw 81 rfl)) (mvT hZ (own_selp (ww hw 77 rfl) rfl (ww hw 82 rfl) (ww hw 81 rfl) (by decide))) (Cond.privateMethod_at (mvP hZ (ww hw 82 rfl) (args := #[]))) (mvT hZ (ww hw 83 rfl)) (by decide) (backOf (W := 0) (rm10 l Z a0 hw [] a1 p3 (D (p2).toNatClampNeg) (S0 (p2).toNatClampNeg) da sa n _ _ h0 n0 Z0 E_a1 F_d F_s V_da V_sa nds nad nas g_da g_sa hk nn_13) hZ (ww hw 83 rfl) (ww hw 20 rfl) (by decide) (by decide)) (g := (mkF m 14 #[.val (.ref a1), .val (.int p2), .val (.int p3)] [(.double (S0 (p2).toNatClampNeg)), (.int (D (p2).toNatClampNeg)), (.int p3), (.ref a1)])) rfl (by rw [hml]; rfl) (Steps.refl _) (a := a1) (by rw [e5]; exact q6) q6' (argsL := [(.int p3), (.int (D (p2).toNatClampNeg)), (.double (S0 (p2).toNatClampNeg))]) (rest := []) (lenOf pd_14_7 rfl) rfl (by show 2 * 0 + _ ≤ _; exact Nat.le_of_eq rfl) (hb hby d14_14) (fun _ _ => ⟨rfl, e5, (by decide : 0 + 0 ≤ _), (by decide : 0 + 0 ≤ _)⟩)
  dsimp only [Pt.U, Pt.locs, Pt.cells, Pt.slots] at X6 l6 y6 z6 st6 hQ6
  subst l6 y6 z6
  obtain ⟨rfl, N6q, Kc6, ⟨D6, Vd6⟩, ⟨S6, Vs6⟩⟩ := hQ6
  have N6 := Fr.app N0 N6q
  have K6 : Keep h0 T6.heap [da, sa] := (Keep.refl h0 [da, sa]).trans Kc6 (allS (Or.inl (List.mem_of_getElem? (i := 0) rfl)) (allS (Or.inl (List.mem_of_getElem? (i := 1) rfl)) all0))
  obtain ⟨fs, hr, hrun, hended, hW, hsame⟩ := X6.leave (v := none) (fun _ => rfl)
  refine ⟨_, _, pre0 _ ?_, hrun, hended, _, _, rfl, ?_, ⟨_, rfl⟩, hW, hsame.mono (by decide) (by decide)⟩
  · show Steps _ _ _ (s₁.setTop (mkF m 0 #[.val (.ref a1), .val (.int p2), .val (.int p3)] [])) _
    refine XS.aloadN X0.here hx rfl (hb hby d14_0) rfl rfl ?_
    refine XS.iloadN X0.here hx rfl (hb hby d14_1) rfl ?_
    refine XS.aloadN X0.here hx rfl (hb hby d14_2) rfl rfl ?_
    refine st4 _ ?_
    refine XS.iloadN X4.here hx rfl (hb hby d14_6) rfl ?_
    refine X4.iaload hx (j := p2) (v := (.int (D (p2).toNatClampNeg))) (by rw [e4]; exact Ar_7.1) (State.isArrayOf_alike hZ.alike Ar_7.2.1) Ar_7.2.2 hin7 hat7 (g := (mkF m 7 #[.val (.ref a1), .val (.int p2), .val (.int p3)] [(.int p2), (.ref da), (.int p3), (.ref a1)])) rfl rfl (hb hby d14_7) _ ?_
    refine XS.aloadN X4.here hx rfl (hb hby d14_8) rfl rfl ?_
    refine st5 _ ?_
    refine XS.iloadN X5.here hx rfl (hb hby d14_12) rfl ?_
    refine X5.daload hx (j := p2) (v := (.double (S0 (p2).toNatClampNeg))) (by rw [e5]; exact Ar_13.1) (State.isArrayOf_alike hZ.alike Ar_13.2.1) Ar_13.2.2 hin13 hat13 (g := (mkF m 13 #[.val (.ref a1), .val (.int p2), .val (.int p3)] [(.int p2), (.ref sa), (.int (D (p2).toNatClampNeg)), (.int p3), (.ref a1)])) rfl rfl (hb hby d14_13) _ ?_
    refine st6.trans ?_
    exact X6.returnOut hx Bd.returns (hb hby d14_17) hr
  · show Q14 Z a1 p2 p3 da sa n D S0 h0 n0 _ T6.heap _
    exact ⟨rfl, N6, K6, ⟨_, Vd6⟩, ⟨_, Vs6⟩⟩
theorem d9_0 : decode prog_188_method_2_code 0 = .ok (.aload_n 0, 1) := by decide +kernel
theorem d9_1 : decode prog_188_method_2_code 1 = .ok (.dup, 1) := by decide +kernel
theorem d9_2 : decode prog_188_method_2_code 2 = .ok (.getfield 17, 3) := by decide +kernel
theorem d9_5 : decode prog_188_method_2_code 5 = .ok (.dup_x1, 1) := by decide +kernel
theorem d9_6 : decode prog_188_method_2_code 6 = .ok (.iconst 1, 1) := by decide +kernel
theorem d9_7 : decode prog_188_method_2_code 7 = .ok (.iadd, 1) := by decide +kernel
theorem d9_8 : decode prog_188_method_2_code 8 = .ok (.putfield 17, 3) := by decide +kernel
theorem d9_11 : decode prog_188_method_2_code 11 = .ok (.istore 4, 2) := by decide +kernel
theorem d9_13 : decode prog_188_method_2_code 13 = .ok (.iload 4, 2) := by decide +kernel
theorem d9_15 : decode prog_188_method_2_code 15 = .ok (.ifCond .le 41, 3) := by decide +kernel
theorem d9_56 : decode prog_188_method_2_code 56 = .ok (.aload_n 0, 1) := by decide +kernel
theorem d9_57 : decode prog_188_method_2_code 57 = .ok (.iload 4, 2) := by decide +kernel
theorem d9_59 : decode prog_188_method_2_code 59 = .ok (.iload_n 1, 1) := by decide +kernel
theorem d9_60 : decode prog_188_method_2_code 60 = .ok (.dload_n 2, 1) := by decide +kernel
theorem d9_61 : decode prog_188_method_2_code 61 = .ok (.invokevirtual 29, 3) := by decide +kernel
theorem d9_64 : decode prog_188_method_2_code 64 = .ok (.return_, 1) := by decide +kernel
theorem pn_9 : plainName sH = true := by first | (simp [plainName, overriddenIn]; done) | decide +kernel
theorem pd_9_7 : parseMethodDescriptor "(IID)V" = some ⟨[.int, .int, .double], none⟩ := by decide +kernel
theorem ef_9_0_0 (m : MethodId) (x0 : Addr) (x1 : Int32) (x2 : UInt64) : entryFrame m #[(.ref x0), (.int x1), (.double x2)] 5 = mkF m 0 #[.val (.ref x0), .val (.int x1), .val (.double x2), .second, .unset] [] := by first | (simp [entryFrame, mkF, argsToLocals, Value.category]; done) | rfl
def Q9_0_0 (Z : State) (a1 : Addr) (p2 : Int32) (y3 : UInt64) (da : Addr) (sa : Addr) (n : Int32) (D : Nat → Int32) (S0 : Nat → UInt64) (h0 : Heap) (n0 : Nat) (v : Option Value) (h : Heap) (L : List Loc) : Prop := v = none ∧ Fr n0 L ∧ Keep h0 h [a1, da, sa] ∧ Exa Z h a1 sH ∧ Fld Z h a1 sH "documents" "[I" (.ref da) ∧ Fld Z h a1 sH "scores" "[D" (.ref sa) ∧ Fld Z h a1 sH "size" "I" (.int (1 : Int32)) ∧ (∃ D', own_AI Z h da n D') ∧ (∃ S', own_AD Z h sa n S')
set_option maxRecDepth 65536 in
set_option maxHeartbeats 40000000 in
theorem rm9_0_0 (l : Launch) (Z : State) (a0 : Array Value) (hw : ∀ d ∈ tables_1, d.before a0 Z = true) (ws : List Jvm.Cond) (a1 : Addr) (p2 : Int32) (y3 : UInt64) (da : Addr) (sa : Addr) (n : Int32) (D : Nat → Int32) (S0 : Nat → UInt64) (h0 : Heap) (n0 : Nat) (Z0 : n0 ≤ h0.size) (E_a1 : Exa Z h0 a1 sH) (F_d : Fld Z h0 a1 sH "documents" "[I" (.ref da)) (F_s : Fld Z h0 a1 sH "scores" "[D" (.ref sa)) (V_da : own_AI Z h0 da n D) (V_sa : own_AD Z h0 sa n S0) (nds : da ≠ sa) (nad : a1 ≠ da) (nas : a1 ≠ sa) (g_da : n0 ≤ da) (g_sa : n0 ≤ sa) (F_z : Fld Z h0 a1 sH "size" "I" (.int (0 : Int32))) (nn_y3 : Jvm.Free.Fl.NoNaN64 y3) (g_a1 : n0 ≤ a1) (hlt : (0 : Int32) < n) (h0n : (0 : Int32) < n) :
    MetFree l (⟨sH, "add", "(ID)V"⟩ : MethodName) (head1 (Jvm.Cond.code (⟨sH, "add", "(ID)V"⟩ : MethodName) prog_188_method_2_code 5 none :: ws) ({ frames := 5, cells := 0, slots := 0, locals := 130 } : Room)) (fun a U => a = #[(.ref a1), (.int p2), (.double y3)] ∧ Z.Warmed39 U.vm ∧ U.heap = h0) (fun _ _ _ _ _ => True) (fun _ U o U' => ∃ v L, o = .returned v ∧ Q9_0_0 Z a1 p2 y3 da sa n D S0 h0 n0 v U'.heap L ∧ FrameEnd U o U' L ({ frames := 5, cells := 0, slots := 0, locals := 130 } : Room).cells ({ frames := 5, cells := 0, slots := 0, locals := 130 } : Room).slots) := by
  refine MetFree.of_bodySF (plainFor_of_name pn_9) hisR ?_
  intro p e s m args below meth c s₁ Bd hml0 hP hK
  obtain ⟨rfl, hZ, hh⟩ := hP
  have hx := Bd.exec
  have hby := Bd.bytes
  have hml : c.maxLocals = 5 := hml0
  have hown : s.vm.findClass sH = some m.cls := findClass_of_methodNamed Bd.named
  have hnm := (name_of_methodNamed Bd.named Bd.method).1
  have X0 : Stand p l e ({ frames := 5, cells := 0, slots := 0, locals := 130 } : Room) s m #[(.ref a1), (.int p2), (.double y3)] below meth c s₁ [] 0 0 := Stand.of_body Bd
  have e0 : s₁.heap = h0 := by rw [← hh, Bd.state]; rfl
  have N0 := Fr.nil n0
  have pre0 : ∀ t, Steps p.tables e below (s₁.setTop (mkF m 0 #[.val (.ref a1), .val (.int p2), .val (.double y3), .second, .unset] [])) t → Steps p.tables e below (s₁.setTop (entryFrame m #[(.ref a1), (.int p2), (.double y3)] 5)) t := fun t k => castTop (ef_9_0_0 m a1 p2 y3) k

  obtain ⟨T4, X4, e4, st4⟩ := getF X0 hx hZ hown (host := "") (Or.inl (ww hw 79 rfl)) Via.refl e0 F_z (g := (mkF m 2 #[.val (.ref a1), .val (.int p2), .val (.double y3), .second, .unset] [(.ref a1), (.ref a1)])) rfl rfl (hb hby d9_2)
  obtain ⟨T5, h5, X5, e5, W5, st5⟩ := putF X4 hx hZ hown (host := "") (Or.inl (ww hw 79 rfl)) Via.refl e4 F_z E_a1 (Or.inl (ww hw 62 rfl)) (ww hw 19 rfl) (ty := .int) (by decide) rfl rfl (g := (mkF m 8 #[.val (.ref a1), .val (.int p2), .val (.double y3), .second, .unset] [(.int ((0 : Int32) + (1 : Int32))), (.ref a1), (.int (0 : Int32))])) rfl rfl (hb hby d9_8)
  have Fw5 := F_z.same W5
  have K5 : Keep h0 h5 [a1, da, sa] := (Keep.refl h0 [a1, da, sa]).wr W5 (Or.inl (List.mem_of_getElem? (i := 0) rfl))
  have N5 := Fr.snoc X5 N0 g_a1
  obtain ⟨cq6, q6, q6'⟩ := (E_a1.wr W5).cell
  obtain ⟨_, _, ⟨T6, L6, k6, n6⟩, -, X6, ⟨Lc6, hQ6, l6, y6, z6⟩, st6⟩ := X5.privateBack hx (y := (⟨sH, "put", "(IID)V"⟩ : MethodName)) hown (mvT hZ (ww hw 80 rfl)) (mvT hZ (ww hw 81 rfl)) (mvT hZ (own_selp (ww hw 77 rfl) rfl (ww hw 82 rfl) (ww hw 81 rfl) (by decide))) (Cond.privateMethod_at (mvP hZ (ww hw 82 rfl) (args := #[]))) (mvT hZ (ww hw 83 rfl)) (by decide) (backOf (W := 0) (rm10 l Z a0 hw [] a1 (0 : Int32) p2 y3 da sa n _ _ h5 n0 (Nat.le_trans Z0 (Keep.of_wr W5).1) (E_a1.wr W5) (F_d.other W5 (Or.inr (slot_ne (Or.inl (ww hw 27 rfl)) (Or.inl (ww hw 62 rfl)) (by decide) (t := (.array .int)) (t' := .int) (by decide) (by decide)))) (F_s.other W5 (Or.inr (slot_ne (Or.inl (ww hw 30 rfl)) (Or.inl (ww hw 62 rfl)) (by decide) (t := (.array .double)) (t' := .int) (by decide) (by decide)))) (V_da.other W5 nad.symm) (V_sa.other W5 nas.symm) nds nad nas g_da g_sa ⟨by decide, hlt⟩ nn_y3) hZ (ww hw 83 rfl) (ww hw 20 rfl) (by decide) (by decide)) (g := (mkF m 61 #[.val (.ref a1), .val (.int p2), .val (.double y3), .second, .val (.int (0 : Int32))] [(.double y3), (.int p2), (.int (0 : Int32)), (.ref a1)])) rfl (by rw [hml]; rfl) (Steps.refl _) (a := a1) (by rw [e5]; exact q6) q6' (argsL := [(.int (0 : Int32)), (.int p2), (.double y3)]) (rest := []) (lenOf pd_9_7 rfl) rfl (by show 2 * 0 + _ ≤ _; exact Nat.le_of_eq rfl) (hb hby d9_61) (fun _ _ => ⟨rfl, e5, (by decide : 0 + 0 ≤ _), (by decide : 0 + 0 ≤ _)⟩)
  dsimp only [Pt.U, Pt.locs, Pt.cells, Pt.slots] at X6 l6 y6 z6 st6 hQ6
  subst l6 y6 z6
  obtain ⟨rfl, N6q, Kc6, ⟨D6, Vd6⟩, ⟨S6, Vs6⟩⟩ := hQ6
  have N6 := Fr.app N5 N6q
  have K6 : Keep h0 T6.heap [a1, da, sa] := K5.trans Kc6 (allS (Or.inl (List.mem_of_getElem? (i := 1) rfl)) (allS (Or.inl (List.mem_of_getElem? (i := 2) rfl)) all0))
  obtain ⟨fs, hr, hrun, hended, hW, hsame⟩ := X6.leave (v := none) (fun _ => rfl)
  refine ⟨_, _, pre0 _ ?_, hrun, hended, _, _, rfl, ?_, ⟨_, rfl⟩, hW, hsame.mono (by decide) (by decide)⟩
  · show Steps _ _ _ (s₁.setTop (mkF m 0 #[.val (.ref a1), .val (.int p2), .val (.double y3), .second, .unset] [])) _
    refine XS.aloadN X0.here hx rfl (hb hby d9_0) rfl rfl ?_
    refine XS.dup X0.here hx rfl (hb hby d9_1) rfl rfl ?_
    refine st4 _ ?_
    refine XS.dupX1 X4.here hx rfl (hb hby d9_5) rfl rfl rfl ?_
    refine XS.iconst X4.here hx rfl (hb hby d9_6) ?_
    refine XS.iadd X4.here hx rfl (hb hby d9_7) rfl ?_
    refine st5 _ ?_
    refine XS.istore X5.here hx rfl (hb hby d9_11) rfl (l' := #[.val (.ref a1), .val (.int p2), .val (.double y3), .second, .val (.int (0 : Int32))]) rfl ?_
    refine XS.iload X5.here hx rfl (hb hby d9_13) rfl ?_
    refine XS.ifYes X5.here hx rfl (pc0 := 15) (pc' := 56) rfl (hb hby d9_15) rfl ((if0 _ _).trans (flt (by decide : ¬ ((0 : Int32) < (0 : Int32)))).2.2.2) (by decide) (by decide) ?_
    refine XS.aloadN X5.here hx rfl (hb hby d9_56) rfl rfl ?_
    refine XS.iload X5.here hx rfl (hb hby d9_57) rfl ?_
    refine XS.iloadN X5.here hx rfl (hb hby d9_59) rfl ?_
    refine XS.dloadN X5.here hx rfl (hb hby d9_60) rfl ?_
    refine st6.trans ?_
    exact X6.returnOut hx Bd.returns (hb hby d9_64) hr
  · show Q9_0_0 Z a1 p2 y3 da sa n D S0 h0 n0 _ T6.heap _
    exact ⟨rfl, N6, K6, ((E_a1.wr W5).keep Kc6), ((F_d.other W5 (Or.inr (slot_ne (Or.inl (ww hw 27 rfl)) (Or.inl (ww hw 62 rfl)) (by decide) (t := (.array .int)) (t' := .int) (by decide) (by decide)))).keep Kc6 (ninS nad (ninS nas nin0))), ((F_s.other W5 (Or.inr (slot_ne (Or.inl (ww hw 30 rfl)) (Or.inl (ww hw 62 rfl)) (by decide) (t := (.array .double)) (t' := .int) (by decide) (by decide)))).keep Kc6 (ninS nad (ninS nas nin0))), (Fw5.keep Kc6 (ninS nad (ninS nas nin0))), ⟨_, Vd6⟩, ⟨_, Vs6⟩⟩
theorem d9_18 : decode prog_188_method_2_code 18 = .ok (.aload_n 0, 1) := by decide +kernel
theorem d9_19 : decode prog_188_method_2_code 19 = .ok (.iload_n 1, 1) := by decide +kernel
theorem d9_20 : decode prog_188_method_2_code 20 = .ok (.dload_n 2, 1) := by decide +kernel
theorem d9_21 : decode prog_188_method_2_code 21 = .ok (.iload 4, 2) := by decide +kernel
theorem d9_23 : decode prog_188_method_2_code 23 = .ok (.iconst 1, 1) := by decide +kernel
theorem d9_24 : decode prog_188_method_2_code 24 = .ok (.isub, 1) := by decide +kernel
theorem d9_25 : decode prog_188_method_2_code 25 = .ok (.iconst 2, 1) := by decide +kernel
theorem d9_26 : decode prog_188_method_2_code 26 = .ok (.idiv, 1) := by decide +kernel
theorem d9_27 : decode prog_188_method_2_code 27 = .ok (.invokevirtual 21, 3) := by decide +kernel
theorem d9_30 : decode prog_188_method_2_code 30 = .ok (.ifCond .eq 26, 3) := by decide +kernel
theorem pd_9_8 : parseMethodDescriptor "(IDI)Z" = some ⟨[.int, .double, .int], some .boolean⟩ := by decide +kernel
theorem ef_9_1_0 (m : MethodId) (x0 : Addr) (x1 : Int32) (x2 : UInt64) : entryFrame m #[(.ref x0), (.int x1), (.double x2)] 5 = mkF m 0 #[.val (.ref x0), .val (.int x1), .val (.double x2), .second, .unset] [] := by first | (simp [entryFrame, mkF, argsToLocals, Value.category]; done) | rfl
def Q9_1_0 (Z : State) (a1 : Addr) (p2 : Int32) (y3 : UInt64) (da : Addr) (sa : Addr) (n : Int32) (D : Nat → Int32) (S0 : Nat → UInt64) (h0 : Heap) (n0 : Nat) (v : Option Value) (h : Heap) (L : List Loc) : Prop := v = none ∧ Fr n0 L ∧ Keep h0 h [a1, da, sa] ∧ Exa Z h a1 sH ∧ Fld Z h a1 sH "documents" "[I" (.ref da) ∧ Fld Z h a1 sH "scores" "[D" (.ref sa) ∧ Fld Z h a1 sH "size" "I" (.int (2 : Int32)) ∧ (∃ D', own_AI Z h da n D') ∧ (∃ S', own_AD Z h sa n S')
set_option maxRecDepth 65536 in
set_option maxHeartbeats 40000000 in
theorem rm9_1_0 (l : Launch) (Z : State) (a0 : Array Value) (hw : ∀ d ∈ tables_1, d.before a0 Z = true) (ws : List Jvm.Cond) (a1 : Addr) (p2 : Int32) (y3 : UInt64) (da : Addr) (sa : Addr) (n : Int32) (D : Nat → Int32) (S0 : Nat → UInt64) (h0 : Heap) (n0 : Nat) (Z0 : n0 ≤ h0.size) (E_a1 : Exa Z h0 a1 sH) (F_d : Fld Z h0 a1 sH "documents" "[I" (.ref da)) (F_s : Fld Z h0 a1 sH "scores" "[D" (.ref sa)) (V_da : own_AI Z h0 da n D) (V_sa : own_AD Z h0 sa n S0) (nds : da ≠ sa) (nad : a1 ≠ da) (nas : a1 ≠ sa) (g_da : n0 ≤ da) (g_sa : n0 ≤ sa) (F_z : Fld Z h0 a1 sH "size" "I" (.int (1 : Int32))) (nn_y3 : Jvm.Free.Fl.NoNaN64 y3) (g_a1 : n0 ≤ a1) (hlt : (1 : Int32) < n) (h0n : (0 : Int32) < n) (hc30 : (own_rb p2 y3 (D ((((1 : Int32) - (1 : Int32)) / (2 : Int32))).toNatClampNeg) (S0 ((((1 : Int32) - (1 : Int32)) / (2 : Int32))).toNatClampNeg)) = (0 : Int32)) :
    MetFree l (⟨sH, "add", "(ID)V"⟩ : MethodName) (head1 (Jvm.Cond.code (⟨sH, "add", "(ID)V"⟩ : MethodName) prog_188_method_2_code 5 none :: ws) ({ frames := 5, cells := 0, slots := 0, locals := 130 } : Room)) (fun a U => a = #[(.ref a1), (.int p2), (.double y3)] ∧ Z.Warmed39 U.vm ∧ U.heap = h0) (fun _ _ _ _ _ => True) (fun _ U o U' => ∃ v L, o = .returned v ∧ Q9_1_0 Z a1 p2 y3 da sa n D S0 h0 n0 v U'.heap L ∧ FrameEnd U o U' L ({ frames := 5, cells := 0, slots := 0, locals := 130 } : Room).cells ({ frames := 5, cells := 0, slots := 0, locals := 130 } : Room).slots) := by
  refine MetFree.of_bodySF (plainFor_of_name pn_9) hisR ?_
  intro p e s m args below meth c s₁ Bd hml0 hP hK
  obtain ⟨rfl, hZ, hh⟩ := hP
  have hx := Bd.exec
  have hby := Bd.bytes
  have hml : c.maxLocals = 5 := hml0
  have hown : s.vm.findClass sH = some m.cls := findClass_of_methodNamed Bd.named
  have hnm := (name_of_methodNamed Bd.named Bd.method).1
  have X0 : Stand p l e ({ frames := 5, cells := 0, slots := 0, locals := 130 } : Room) s m #[(.ref a1), (.int p2), (.double y3)] below meth c s₁ [] 0 0 := Stand.of_body Bd
  have e0 : s₁.heap = h0 := by rw [← hh, Bd.state]; rfl
  have N0 := Fr.nil n0
  have pre0 : ∀ t, Steps p.tables e below (s₁.setTop (mkF m 0 #[.val (.ref a1), .val (.int p2), .val (.double y3), .second, .unset] [])) t → Steps p.tables e below (s₁.setTop (entryFrame m #[(.ref a1), (.int p2), (.double y3)] 5)) t := fun t k => castTop (ef_9_1_0 m a1 p2 y3) k

  obtain ⟨T4, X4, e4, st4⟩ := getF X0 hx hZ hown (host := "") (Or.inl (ww hw 79 rfl)) Via.refl e0 F_z (g := (mkF m 2 #[.val (.ref a1), .val (.int p2), .val (.double y3), .second, .unset] [(.ref a1), (.ref a1)])) rfl rfl (hb hby d9_2)
  obtain ⟨T5, h5, X5, e5, W5, st5⟩ := putF X4 hx hZ hown (host := "") (Or.inl (ww hw 79 rfl)) Via.refl e4 F_z E_a1 (Or.inl (ww hw 62 rfl)) (ww hw 19 rfl) (ty := .int) (by decide) rfl rfl (g := (mkF m 8 #[.val (.ref a1), .val (.int p2), .val (.double y3), .second, .unset] [(.int ((1 : Int32) + (1 : Int32))), (.ref a1), (.int (1 : Int32))])) rfl rfl (hb hby d9_8)
  have Fw5 := F_z.same W5
  have K5 : Keep h0 h5 [a1, da, sa] := (Keep.refl h0 [a1, da, sa]).wr W5 (Or.inl (List.mem_of_getElem? (i := 0) rfl))
  have N5 := Fr.snoc X5 N0 g_a1
  obtain ⟨cq6, q6, q6'⟩ := (E_a1.wr W5).cell
  obtain ⟨_, _, ⟨T6, L6, k6, n6⟩, -, X6, ⟨Lc6, hQ6, l6, y6, z6⟩, st6⟩ := X5.privateBack hx (y := (⟨sH, "ranksBelow", "(IDI)Z"⟩ : MethodName)) hown (mvT hZ (ww hw 85 rfl)) (mvT hZ (ww hw 86 rfl)) (mvT hZ (own_selp (ww hw 77 rfl) rfl (ww hw 87 rfl) (ww hw 86 rfl) (by decide))) (Cond.privateMethod_at (mvP hZ (ww hw 87 rfl) (args := #[]))) (mvT hZ (ww hw 88 rfl)) (by decide) (backOf (W := 0) (rm11 l Z a0 hw [] a1 p2 y3 (((1 : Int32) - (1 : Int32)) / (2 : Int32)) da sa _ D S0 h5 n0 (Nat.le_trans Z0 (Keep.of_wr W5).1) (E_a1.wr W5) (F_d.other W5 (Or.inr (slot_ne (Or.inl (ww hw 27 rfl)) (Or.inl (ww hw 62 rfl)) (by decide) (t := (.array .int)) (t' := .int) (by decide) (by decide)))) (F_s.other W5 (Or.inr (slot_ne (Or.inl (ww hw 30 rfl)) (Or.inl (ww hw 62 rfl)) (by decide) (t := (.array .double)) (t' := .int) (by decide) (by decide)))) (V_da.other W5 nad.symm) (V_sa.other W5 nas.symm) ⟨by decide, h0n⟩ nn_y3) hZ (ww hw 88 rfl) (ww hw 20 rfl) (by decide) (by decide)) (g := (mkF m 27 #[.val (.ref a1), .val (.int p2), .val (.double y3), .second, .val (.int (1 : Int32))] [(.int (((1 : Int32) - (1 : Int32)) / (2 : Int32))), (.double y3), (.int p2), (.ref a1)])) rfl (by rw [hml]; rfl) (Steps.refl _) (a := a1) (by rw [e5]; exact q6) q6' (argsL := [(.int p2), (.double y3), (.int (((1 : Int32) - (1 : Int32)) / (2 : Int32)))]) (rest := []) (lenOf pd_9_8 rfl) rfl (by show 2 * 0 + _ ≤ _; exact Nat.le_of_eq rfl) (hb hby d9_27) (fun _ _ => ⟨rfl, e5, (by decide : 0 + 0 ≤ _), (by decide : 0 + 0 ≤ _)⟩)
  dsimp only [Pt.U, Pt.locs, Pt.cells, Pt.slots] at X6 l6 y6 z6 st6 hQ6
  subst l6 y6 z6
  obtain ⟨rfl, N6q, eh6⟩ := hQ6
  have N6 := Fr.app N5 N6q
  obtain ⟨cq7, q7, q7'⟩ := (E_a1.wr W5).cell
  obtain ⟨_, _, ⟨T7, L7, k7, n7⟩, -, X7, ⟨Lc7, hQ7, l7, y7, z7⟩, st7⟩ := X6.privateBack hx (y := (⟨sH, "put", "(IID)V"⟩ : MethodName)) hown (mvT hZ (ww hw 80 rfl)) (mvT hZ (ww hw 81 rfl)) (mvT hZ (own_selp (ww hw 77 rfl) rfl (ww hw 82 rfl) (ww hw 81 rfl) (by decide))) (Cond.privateMethod_at (mvP hZ (ww hw 82 rfl) (args := #[]))) (mvT hZ (ww hw 83 rfl)) (by decide) (backOf (W := 0) (rm10 l Z a0 hw [] a1 (1 : Int32) p2 y3 da sa n _ _ h5 n0 (Nat.le_trans Z0 (Keep.of_wr W5).1) (E_a1.wr W5) (F_d.other W5 (Or.inr (slot_ne (Or.inl (ww hw 27 rfl)) (Or.inl (ww hw 62 rfl)) (by decide) (t := (.array .int)) (t' := .int) (by decide) (by decide)))) (F_s.other W5 (Or.inr (slot_ne (Or.inl (ww hw 30 rfl)) (Or.inl (ww hw 62 rfl)) (by decide) (t := (.array .double)) (t' := .int) (by decide) (by decide)))) (V_da.other W5 nad.symm) (V_sa.other W5 nas.symm) nds nad nas g_da g_sa ⟨by decide, hlt⟩ nn_y3) hZ (ww hw 83 rfl) (ww hw 20 rfl) (by decide) (by decide)) (g := (mkF m 61 #[.val (.ref a1), .val (.int p2), .val (.double y3), .second, .val (.int (1 : Int32))] [(.double y3), (.int p2), (.int (1 : Int32)), (.ref a1)])) rfl (by rw [hml]; rfl) (Steps.refl _) (a := a1) (by rw [eh6]; exact q7) q7' (argsL := [(.int (1 : Int32)), (.int p2), (.double y3)]) (rest := []) (lenOf pd_9_7 rfl) rfl (by show 2 * 0 + _ ≤ _; exact Nat.le_of_eq rfl) (hb hby d9_61) (fun _ _ => ⟨rfl, eh6, (by decide : 0 + 0 ≤ _), (by decide : 0 + 0 ≤ _)⟩)
  dsimp only [Pt.U, Pt.locs, Pt.cells, Pt.slots] at X7 l7 y7 z7 st7 hQ7
  subst l7 y7 z7
  obtain ⟨rfl, N7q, Kc7, ⟨D7, Vd7⟩, ⟨S7, Vs7⟩⟩ := hQ7
  have N7 := Fr.app N6 N7q
  have K7 : Keep h0 T7.heap [a1, da, sa] := K5.trans Kc7 (allS (Or.inl (List.mem_of_getElem? (i := 1) rfl)) (allS (Or.inl (List.mem_of_getElem? (i := 2) rfl)) all0))
  obtain ⟨fs, hr, hrun, hended, hW, hsame⟩ := X7.leave (v := none) (fun _ => rfl)
  refine ⟨_, _, pre0 _ ?_, hrun, hended, _, _, rfl, ?_, ⟨_, rfl⟩, hW, hsame.mono (by decide) (by decide)⟩
  · show Steps _ _ _ (s₁.setTop (mkF m 0 #[.val (.ref a1), .val (.int p2), .val (.double y3), .second, .unset] [])) _
    refine XS.aloadN X0.here hx rfl (hb hby d9_0) rfl rfl ?_
    refine XS.dup X0.here hx rfl (hb hby d9_1) rfl rfl ?_
    refine st4 _ ?_
    refine XS.dupX1 X4.here hx rfl (hb hby d9_5) rfl rfl rfl ?_
    refine XS.iconst X4.here hx rfl (hb hby d9_6) ?_
    refine XS.iadd X4.here hx rfl (hb hby d9_7) rfl ?_
    refine st5 _ ?_
    refine XS.istore X5.here hx rfl (hb hby d9_11) rfl (l' := #[.val (.ref a1), .val (.int p2), .val (.double y3), .second, .val (.int (1 : Int32))]) rfl ?_
    refine XS.iload X5.here hx rfl (hb hby d9_13) rfl ?_
    refine XS.ifNo X5.here hx rfl (hb hby d9_15) rfl ((if0 _ _).trans (tlt (by decide : (0 : Int32) < (1 : Int32))).2.2.2) ?_
    refine XS.aloadN X5.here hx rfl (hb hby d9_18) rfl rfl ?_
    refine XS.iloadN X5.here hx rfl (hb hby d9_19) rfl ?_
    refine XS.dloadN X5.here hx rfl (hb hby d9_20) rfl ?_
    refine XS.iload X5.here hx rfl (hb hby d9_21) rfl ?_
    refine XS.iconst X5.here hx rfl (hb hby d9_23) ?_
    refine XS.isub X5.here hx rfl (hb hby d9_24) rfl ?_
    refine XS.iconst X5.here hx rfl (hb hby d9_25) ?_
    refine XS.idiv X5.here hx rfl (hb hby d9_26) rfl (by decide) ?_
    refine st6.trans ?_
    refine XS.ifYes X6.here hx rfl (pc0 := 30) (pc' := 56) rfl (hb hby d9_30) rfl ((if0 _ _).trans (teq hc30).1) (by decide) (by decide) ?_
    refine XS.aloadN X6.here hx rfl (hb hby d9_56) rfl rfl ?_
    refine XS.iload X6.here hx rfl (hb hby d9_57) rfl ?_
    refine XS.iloadN X6.here hx rfl (hb hby d9_59) rfl ?_
    refine XS.dloadN X6.here hx rfl (hb hby d9_60) rfl ?_
    refine st7.trans ?_
    exact X7.returnOut hx Bd.returns (hb hby d9_64) hr
  · show Q9_1_0 Z a1 p2 y3 da sa n D S0 h0 n0 _ T7.heap _
    exact ⟨rfl, N7, K7, ((E_a1.wr W5).keep Kc7), ((F_d.other W5 (Or.inr (slot_ne (Or.inl (ww hw 27 rfl)) (Or.inl (ww hw 62 rfl)) (by decide) (t := (.array .int)) (t' := .int) (by decide) (by decide)))).keep Kc7 (ninS nad (ninS nas nin0))), ((F_s.other W5 (Or.inr (slot_ne (Or.inl (ww hw 30 rfl)) (Or.inl (ww hw 62 rfl)) (by decide) (t := (.array .double)) (t' := .int) (by decide) (by decide)))).keep Kc7 (ninS nad (ninS nas nin0))), (Fw5.keep Kc7 (ninS nad (ninS nas nin0))), ⟨_, Vd7⟩, ⟨_, Vs7⟩⟩
theorem d9_33 : decode prog_188_method_2_code 33 = .ok (.aload_n 0, 1) := by decide +kernel
theorem d9_34 : decode prog_188_method_2_code 34 = .ok (.iload 4, 2) := by decide +kernel
theorem d9_36 : decode prog_188_method_2_code 36 = .ok (.iconst 1, 1) := by decide +kernel
theorem d9_37 : decode prog_188_method_2_code 37 = .ok (.isub, 1) := by decide +kernel
theorem d9_38 : decode prog_188_method_2_code 38 = .ok (.iconst 2, 1) := by decide +kernel
theorem d9_39 : decode prog_188_method_2_code 39 = .ok (.idiv, 1) := by decide +kernel
theorem d9_40 : decode prog_188_method_2_code 40 = .ok (.iload 4, 2) := by decide +kernel
theorem d9_42 : decode prog_188_method_2_code 42 = .ok (.invokevirtual 25, 3) := by decide +kernel
theorem d9_45 : decode prog_188_method_2_code 45 = .ok (.iload 4, 2) := by decide +kernel
theorem d9_47 : decode prog_188_method_2_code 47 = .ok (.iconst 1, 1) := by decide +kernel
theorem d9_48 : decode prog_188_method_2_code 48 = .ok (.isub, 1) := by decide +kernel
theorem d9_49 : decode prog_188_method_2_code 49 = .ok (.iconst 2, 1) := by decide +kernel
theorem d9_50 : decode prog_188_method_2_code 50 = .ok (.idiv, 1) := by decide +kernel
theorem d9_51 : decode prog_188_method_2_code 51 = .ok (.istore 4, 2) := by decide +kernel
theorem d9_53 : decode prog_188_method_2_code 53 = .ok (.goto (-40), 3) := by decide +kernel
theorem pd_9_11 : parseMethodDescriptor "(II)V" = some ⟨[.int, .int], none⟩ := by decide +kernel
theorem ef_9_1_1 (m : MethodId) (x0 : Addr) (x1 : Int32) (x2 : UInt64) : entryFrame m #[(.ref x0), (.int x1), (.double x2)] 5 = mkF m 0 #[.val (.ref x0), .val (.int x1), .val (.double x2), .second, .unset] [] := by first | (simp [entryFrame, mkF, argsToLocals, Value.category]; done) | rfl
def Q9_1_1 (Z : State) (a1 : Addr) (p2 : Int32) (y3 : UInt64) (da : Addr) (sa : Addr) (n : Int32) (D : Nat → Int32) (S0 : Nat → UInt64) (h0 : Heap) (n0 : Nat) (v : Option Value) (h : Heap) (L : List Loc) : Prop := v = none ∧ Fr n0 L ∧ Keep h0 h [a1, da, sa] ∧ Exa Z h a1 sH ∧ Fld Z h a1 sH "documents" "[I" (.ref da) ∧ Fld Z h a1 sH "scores" "[D" (.ref sa) ∧ Fld Z h a1 sH "size" "I" (.int (2 : Int32)) ∧ (∃ D', own_AI Z h da n D') ∧ (∃ S', own_AD Z h sa n S')
set_option maxRecDepth 65536 in
set_option maxHeartbeats 40000000 in
theorem rm9_1_1 (l : Launch) (Z : State) (a0 : Array Value) (hw : ∀ d ∈ tables_1, d.before a0 Z = true) (ws : List Jvm.Cond) (a1 : Addr) (p2 : Int32) (y3 : UInt64) (da : Addr) (sa : Addr) (n : Int32) (D : Nat → Int32) (S0 : Nat → UInt64) (h0 : Heap) (n0 : Nat) (Z0 : n0 ≤ h0.size) (E_a1 : Exa Z h0 a1 sH) (F_d : Fld Z h0 a1 sH "documents" "[I" (.ref da)) (F_s : Fld Z h0 a1 sH "scores" "[D" (.ref sa)) (V_da : own_AI Z h0 da n D) (V_sa : own_AD Z h0 sa n S0) (nds : da ≠ sa) (nad : a1 ≠ da) (nas : a1 ≠ sa) (g_da : n0 ≤ da) (g_sa : n0 ≤ sa) (F_z : Fld Z h0 a1 sH "size" "I" (.int (1 : Int32))) (nn_y3 : Jvm.Free.Fl.NoNaN64 y3) (g_a1 : n0 ≤ a1) (hlt : (1 : Int32) < n) (h0n : (0 : Int32) < n) (hc30 : ¬ ((own_rb p2 y3 (D ((((1 : Int32) - (1 : Int32)) / (2 : Int32))).toNatClampNeg) (S0 ((((1 : Int32) - (1 : Int32)) / (2 : Int32))).toNatClampNeg)) = (0 : Int32))) :
    MetFree l (⟨sH, "add", "(ID)V"⟩ : MethodName) (head1 (Jvm.Cond.code (⟨sH, "add", "(ID)V"⟩ : MethodName) prog_188_method_2_code 5 none :: ws) ({ frames := 5, cells := 0, slots := 0, locals := 130 } : Room)) (fun a U => a = #[(.ref a1), (.int p2), (.double y3)] ∧ Z.Warmed39 U.vm ∧ U.heap = h0) (fun _ _ _ _ _ => True) (fun _ U o U' => ∃ v L, o = .returned v ∧ Q9_1_1 Z a1 p2 y3 da sa n D S0 h0 n0 v U'.heap L ∧ FrameEnd U o U' L ({ frames := 5, cells := 0, slots := 0, locals := 130 } : Room).cells ({ frames := 5, cells := 0, slots := 0, locals := 130 } : Room).slots) := by
  refine MetFree.of_bodySF (plainFor_of_name pn_9) hisR ?_
  intro p e s m args below meth c s₁ Bd hml0 hP hK
  obtain ⟨rfl, hZ, hh⟩ := hP
  have hx := Bd.exec
  have hby := Bd.bytes
  have hml : c.maxLocals = 5 := hml0
  have hown : s.vm.findClass sH = some m.cls := findClass_of_methodNamed Bd.named
  have hnm := (name_of_methodNamed Bd.named Bd.method).1
  have X0 : Stand p l e ({ frames := 5, cells := 0, slots := 0, locals := 130 } : Room) s m #[(.ref a1), (.int p2), (.double y3)] below meth c s₁ [] 0 0 := Stand.of_body Bd
  have e0 : s₁.heap = h0 := by rw [← hh, Bd.state]; rfl
  have N0 := Fr.nil n0
  have pre0 : ∀ t, Steps p.tables e below (s₁.setTop (mkF m 0 #[.val (.ref a1), .val (.int p2), .val (.double y3), .second, .unset] [])) t → Steps p.tables e below (s₁.setTop (entryFrame m #[(.ref a1), (.int p2), (.double y3)] 5)) t := fun t k => castTop (ef_9_1_1 m a1 p2 y3) k

  obtain ⟨T4, X4, e4, st4⟩ := getF X0 hx hZ hown (host := "") (Or.inl (ww hw 79 rfl)) Via.refl e0 F_z (g := (mkF m 2 #[.val (.ref a1), .val (.int p2), .val (.double y3), .second, .unset] [(.ref a1), (.ref a1)])) rfl rfl (hb hby d9_2)
  obtain ⟨T5, h5, X5, e5, W5, st5⟩ := putF X4 hx hZ hown (host := "") (Or.inl (ww hw 79 rfl)) Via.refl e4 F_z E_a1 (Or.inl (ww hw 62 rfl)) (ww hw 19 rfl) (ty := .int) (by decide) rfl rfl (g := (mkF m 8 #[.val (.ref a1), .val (.int p2), .val (.double y3), .second, .unset] [(.int ((1 : Int32) + (1 : Int32))), (.ref a1), (.int (1 : Int32))])) rfl rfl (hb hby d9_8)
  have Fw5 := F_z.same W5
  have K5 : Keep h0 h5 [a1, da, sa] := (Keep.refl h0 [a1, da, sa]).wr W5 (Or.inl (List.mem_of_getElem? (i := 0) rfl))
  have N5 := Fr.snoc X5 N0 g_a1
  obtain ⟨cq6, q6, q6'⟩ := (E_a1.wr W5).cell
  obtain ⟨_, _, ⟨T6, L6, k6, n6⟩, -, X6, ⟨Lc6, hQ6, l6, y6, z6⟩, st6⟩ := X5.privateBack hx (y := (⟨sH, "ranksBelow", "(IDI)Z"⟩ : MethodName)) hown (mvT hZ (ww hw 85 rfl)) (mvT hZ (ww hw 86 rfl)) (mvT hZ (own_selp (ww hw 77 rfl) rfl (ww hw 87 rfl) (ww hw 86 rfl) (by decide))) (Cond.privateMethod_at (mvP hZ (ww hw 87 rfl) (args := #[]))) (mvT hZ (ww hw 88 rfl)) (by decide) (backOf (W := 0) (rm11 l Z a0 hw [] a1 p2 y3 (((1 : Int32) - (1 : Int32)) / (2 : Int32)) da sa _ D S0 h5 n0 (Nat.le_trans Z0 (Keep.of_wr W5).1) (E_a1.wr W5) (F_d.other W5 (Or.inr (slot_ne (Or.inl (ww hw 27 rfl)) (Or.inl (ww hw 62 rfl)) (by decide) (t := (.array .int)) (t' := .int) (by decide) (by decide)))) (F_s.other W5 (Or.inr (slot_ne (Or.inl (ww hw 30 rfl)) (Or.inl (ww hw 62 rfl)) (by decide) (t := (.array .double)) (t' := .int) (by decide) (by decide)))) (V_da.other W5 nad.symm) (V_sa.other W5 nas.symm) ⟨by decide, h0n⟩ nn_y3) hZ (ww hw 88 rfl) (ww hw 20 rfl) (by decide) (by decide)) (g := (mkF m 27 #[.val (.ref a1), .val (.int p2), .val (.double y3), .second, .val (.int (1 : Int32))] [(.int (((1 : Int32) - (1 : Int32)) / (2 : Int32))), (.double y3), (.int p2), (.ref a1)])) rfl (by rw [hml]; rfl) (Steps.refl _) (a := a1) (by rw [e5]; exact q6) q6' (argsL := [(.int p2), (.double y3), (.int (((1 : Int32) - (1 : Int32)) / (2 : Int32)))]) (rest := []) (lenOf pd_9_8 rfl) rfl (by show 2 * 0 + _ ≤ _; exact Nat.le_of_eq rfl) (hb hby d9_27) (fun _ _ => ⟨rfl, e5, (by decide : 0 + 0 ≤ _), (by decide : 0 + 0 ≤ _)⟩)
  dsimp only [Pt.U, Pt.locs, Pt.cells, Pt.slots] at X6 l6 y6 z6 st6 hQ6
  subst l6 y6 z6
  obtain ⟨rfl, N6q, eh6⟩ := hQ6
  have N6 := Fr.app N5 N6q
  obtain ⟨cq7, q7, q7'⟩ := (E_a1.wr W5).cell
  obtain ⟨_, _, ⟨T7, L7, k7, n7⟩, -, X7, ⟨Lc7, hQ7, l7, y7, z7⟩, st7⟩ := X6.privateBack hx (y := (⟨sH, "move", "(II)V"⟩ : MethodName)) hown (mvT hZ (ww hw 96 rfl)) (mvT hZ (ww hw 97 rfl)) (mvT hZ (own_selp (ww hw 77 rfl) rfl (ww hw 98 rfl) (ww hw 97 rfl) (by decide))) (Cond.privateMethod_at (mvP hZ (ww hw 98 rfl) (args := #[]))) (mvT hZ (ww hw 99 rfl)) (by decide) (backOf (W := 0) (rm14 l Z a0 hw [] a1 (((1 : Int32) - (1 : Int32)) / (2 : Int32)) (1 : Int32) da sa n _ _ h5 n0 (Nat.le_trans Z0 (Keep.of_wr W5).1) (E_a1.wr W5) (F_d.other W5 (Or.inr (slot_ne (Or.inl (ww hw 27 rfl)) (Or.inl (ww hw 62 rfl)) (by decide) (t := (.array .int)) (t' := .int) (by decide) (by decide)))) (F_s.other W5 (Or.inr (slot_ne (Or.inl (ww hw 30 rfl)) (Or.inl (ww hw 62 rfl)) (by decide) (t := (.array .double)) (t' := .int) (by decide) (by decide)))) (V_da.other W5 nad.symm) (V_sa.other W5 nas.symm) nds nad nas g_da g_sa ⟨by decide, h0n⟩ ⟨by decide, hlt⟩) hZ (ww hw 99 rfl) (ww hw 20 rfl) (by decide) (by decide)) (g := (mkF m 42 #[.val (.ref a1), .val (.int p2), .val (.double y3), .second, .val (.int (1 : Int32))] [(.int (1 : Int32)), (.int (((1 : Int32) - (1 : Int32)) / (2 : Int32))), (.ref a1)])) rfl (by rw [hml]; rfl) (Steps.refl _) (a := a1) (by rw [eh6]; exact q7) q7' (argsL := [(.int (((1 : Int32) - (1 : Int32)) / (2 : Int32))), (.int (1 : Int32))]) (rest := []) (lenOf pd_9_11 rfl) rfl (by show 2 * 0 + _ ≤ _; exact Nat.le_of_eq rfl) (hb hby d9_42) (fun _ _ => ⟨rfl, eh6, (by decide : 0 + 0 ≤ _), (by decide : 0 + 0 ≤ _)⟩)
  dsimp only [Pt.U, Pt.locs, Pt.cells, Pt.slots] at X7 l7 y7 z7 st7 hQ7
  subst l7 y7 z7
  obtain ⟨rfl, N7q, Kc7, ⟨D7, Vd7⟩, ⟨S7, Vs7⟩⟩ := hQ7
  have N7 := Fr.app N6 N7q
  have K7 : Keep h0 T7.heap [a1, da, sa] := K5.trans Kc7 (allS (Or.inl (List.mem_of_getElem? (i := 1) rfl)) (allS (Or.inl (List.mem_of_getElem? (i := 2) rfl)) all0))
  obtain ⟨cq8, q8, q8'⟩ := ((E_a1.wr W5).keep Kc7).cell
  obtain ⟨_, _, ⟨T8, L8, k8, n8⟩, -, X8, ⟨Lc8, hQ8, l8, y8, z8⟩, st8⟩ := X7.privateBack hx (y := (⟨sH, "put", "(IID)V"⟩ : MethodName)) hown (mvT hZ (ww hw 80 rfl)) (mvT hZ (ww hw 81 rfl)) (mvT hZ (own_selp (ww hw 77 rfl) rfl (ww hw 82 rfl) (ww hw 81 rfl) (by decide))) (Cond.privateMethod_at (mvP hZ (ww hw 82 rfl) (args := #[]))) (mvT hZ (ww hw 83 rfl)) (by decide) (backOf (W := 0) (rm10 l Z a0 hw [] a1 (((1 : Int32) - (1 : Int32)) / (2 : Int32)) p2 y3 da sa n _ _ T7.heap n0 (Nat.le_trans (Nat.le_trans Z0 (Keep.of_wr W5).1) Kc7.1) ((E_a1.wr W5).keep Kc7) ((F_d.other W5 (Or.inr (slot_ne (Or.inl (ww hw 27 rfl)) (Or.inl (ww hw 62 rfl)) (by decide) (t := (.array .int)) (t' := .int) (by decide) (by decide)))).keep Kc7 (ninS nad (ninS nas nin0))) ((F_s.other W5 (Or.inr (slot_ne (Or.inl (ww hw 30 rfl)) (Or.inl (ww hw 62 rfl)) (by decide) (t := (.array .double)) (t' := .int) (by decide) (by decide)))).keep Kc7 (ninS nad (ninS nas nin0))) Vd7 Vs7 nds nad nas g_da g_sa ⟨by decide, h0n⟩ nn_y3) hZ (ww hw 83 rfl) (ww hw 20 rfl) (by decide) (by decide)) (g := (mkF m 61 #[.val (.ref a1), .val (.int p2), .val (.double y3), .second, .val (.int (((1 : Int32) - (1 : Int32)) / (2 : Int32)))] [(.double y3), (.int p2), (.int (((1 : Int32) - (1 : Int32)) / (2 : Int32))), (.ref a1)])) rfl (by rw [hml]; rfl) (Steps.refl _) (a := a1) q8 q8' (argsL := [(.int (((1 : Int32) - (1 : Int32)) / (2 : Int32))), (.int p2), (.double y3)]) (rest := []) (lenOf pd_9_7 rfl) rfl (by show 2 * 0 + _ ≤ _; exact Nat.le_of_eq rfl) (hb hby d9_61) (fun _ _ => ⟨rfl, rfl, (by decide : 0 + 0 ≤ _), (by decide : 0 + 0 ≤ _)⟩)
  dsimp only [Pt.U, Pt.locs, Pt.cells, Pt.slots] at X8 l8 y8 z8 st8 hQ8
  subst l8 y8 z8
  obtain ⟨rfl, N8q, Kc8, ⟨D8, Vd8⟩, ⟨S8, Vs8⟩⟩ := hQ8
  have N8 := Fr.app N7 N8q
  have K8 : Keep h0 T8.heap [a1, da, sa] := K7.trans Kc8 (allS (Or.inl (List.mem_of_getElem? (i := 1) rfl)) (allS (Or.inl (List.mem_of_getElem? (i := 2) rfl)) all0))
  obtain ⟨fs, hr, hrun, hended, hW, hsame⟩ := X8.leave (v := none) (fun _ => rfl)
  refine ⟨_, _, pre0 _ ?_, hrun, hended, _, _, rfl, ?_, ⟨_, rfl⟩, hW, hsame.mono (by decide) (by decide)⟩
  · show Steps _ _ _ (s₁.setTop (mkF m 0 #[.val (.ref a1), .val (.int p2), .val (.double y3), .second, .unset] [])) _
    refine XS.aloadN X0.here hx rfl (hb hby d9_0) rfl rfl ?_
    refine XS.dup X0.here hx rfl (hb hby d9_1) rfl rfl ?_
    refine st4 _ ?_
    refine XS.dupX1 X4.here hx rfl (hb hby d9_5) rfl rfl rfl ?_
    refine XS.iconst X4.here hx rfl (hb hby d9_6) ?_
    refine XS.iadd X4.here hx rfl (hb hby d9_7) rfl ?_
    refine st5 _ ?_
    refine XS.istore X5.here hx rfl (hb hby d9_11) rfl (l' := #[.val (.ref a1), .val (.int p2), .val (.double y3), .second, .val (.int (1 : Int32))]) rfl ?_
    refine XS.iload X5.here hx rfl (hb hby d9_13) rfl ?_
    refine XS.ifNo X5.here hx rfl (hb hby d9_15) rfl ((if0 _ _).trans (tlt (by decide : (0 : Int32) < (1 : Int32))).2.2.2) ?_
    refine XS.aloadN X5.here hx rfl (hb hby d9_18) rfl rfl ?_
    refine XS.iloadN X5.here hx rfl (hb hby d9_19) rfl ?_
    refine XS.dloadN X5.here hx rfl (hb hby d9_20) rfl ?_
    refine XS.iload X5.here hx rfl (hb hby d9_21) rfl ?_
    refine XS.iconst X5.here hx rfl (hb hby d9_23) ?_
    refine XS.isub X5.here hx rfl (hb hby d9_24) rfl ?_
    refine XS.iconst X5.here hx rfl (hb hby d9_25) ?_
    refine XS.idiv X5.here hx rfl (hb hby d9_26) rfl (by decide) ?_
    refine st6.trans ?_
    refine XS.ifNo X6.here hx rfl (hb hby d9_30) rfl ((if0 _ _).trans (feq hc30).1) ?_
    refine XS.aloadN X6.here hx rfl (hb hby d9_33) rfl rfl ?_
    refine XS.iload X6.here hx rfl (hb hby d9_34) rfl ?_
    refine XS.iconst X6.here hx rfl (hb hby d9_36) ?_
    refine XS.isub X6.here hx rfl (hb hby d9_37) rfl ?_
    refine XS.iconst X6.here hx rfl (hb hby d9_38) ?_
    refine XS.idiv X6.here hx rfl (hb hby d9_39) rfl (by decide) ?_
    refine XS.iload X6.here hx rfl (hb hby d9_40) rfl ?_
    refine st7.trans ?_
    refine XS.iload X7.here hx rfl (hb hby d9_45) rfl ?_
    refine XS.iconst X7.here hx rfl (hb hby d9_47) ?_
    refine XS.isub X7.here hx rfl (hb hby d9_48) rfl ?_
    refine XS.iconst X7.here hx rfl (hb hby d9_49) ?_
    refine XS.idiv X7.here hx rfl (hb hby d9_50) rfl (by decide) ?_
    refine XS.istore X7.here hx rfl (hb hby d9_51) rfl (l' := #[.val (.ref a1), .val (.int p2), .val (.double y3), .second, .val (.int (((1 : Int32) - (1 : Int32)) / (2 : Int32)))]) rfl ?_
    refine XS.goto X7.here hx rfl (pc0 := 53) (pc' := 13) rfl (hb hby d9_53) (by decide) (by decide) ?_
    refine XS.iload X7.here hx rfl (hb hby d9_13) rfl ?_
    refine XS.ifYes X7.here hx rfl (pc0 := 15) (pc' := 56) rfl (hb hby d9_15) rfl ((if0 _ _).trans (flt (by decide : ¬ ((0 : Int32) < (((1 : Int32) - (1 : Int32)) / (2 : Int32))))).2.2.2) (by decide) (by decide) ?_
    refine XS.aloadN X7.here hx rfl (hb hby d9_56) rfl rfl ?_
    refine XS.iload X7.here hx rfl (hb hby d9_57) rfl ?_
    refine XS.iloadN X7.here hx rfl (hb hby d9_59) rfl ?_
    refine XS.dloadN X7.here hx rfl (hb hby d9_60) rfl ?_
    refine st8.trans ?_
    exact X8.returnOut hx Bd.returns (hb hby d9_64) hr
  · show Q9_1_1 Z a1 p2 y3 da sa n D S0 h0 n0 _ T8.heap _
    exact ⟨rfl, N8, K8, (((E_a1.wr W5).keep Kc7).keep Kc8), (((F_d.other W5 (Or.inr (slot_ne (Or.inl (ww hw 27 rfl)) (Or.inl (ww hw 62 rfl)) (by decide) (t := (.array .int)) (t' := .int) (by decide) (by decide)))).keep Kc7 (ninS nad (ninS nas nin0))).keep Kc8 (ninS nad (ninS nas nin0))), (((F_s.other W5 (Or.inr (slot_ne (Or.inl (ww hw 30 rfl)) (Or.inl (ww hw 62 rfl)) (by decide) (t := (.array .double)) (t' := .int) (by decide) (by decide)))).keep Kc7 (ninS nad (ninS nas nin0))).keep Kc8 (ninS nad (ninS nas nin0))), ((Fw5.keep Kc7 (ninS nad (ninS nas nin0))).keep Kc8 (ninS nad (ninS nas nin0))), ⟨_, Vd8⟩, ⟨_, Vs8⟩⟩
theorem ef_9_2_0 (m : MethodId) (x0 : Addr) (x1 : Int32) (x2 : UInt64) : entryFrame m #[(.ref x0), (.int x1), (.double x2)] 5 = mkF m 0 #[.val (.ref x0), .val (.int x1), .val (.double x2), .second, .unset] [] := by first | (simp [entryFrame, mkF, argsToLocals, Value.category]; done) | rfl
def Q9_2_0 (Z : State) (a1 : Addr) (p2 : Int32) (y3 : UInt64) (da : Addr) (sa : Addr) (n : Int32) (D : Nat → Int32) (S0 : Nat → UInt64) (h0 : Heap) (n0 : Nat) (v : Option Value) (h : Heap) (L : List Loc) : Prop := v = none ∧ Fr n0 L ∧ Keep h0 h [a1, da, sa] ∧ Exa Z h a1 sH ∧ Fld Z h a1 sH "documents" "[I" (.ref da) ∧ Fld Z h a1 sH "scores" "[D" (.ref sa) ∧ Fld Z h a1 sH "size" "I" (.int (3 : Int32)) ∧ (∃ D', own_AI Z h da n D') ∧ (∃ S', own_AD Z h sa n S')
set_option maxRecDepth 65536 in
set_option maxHeartbeats 40000000 in
theorem rm9_2_0 (l : Launch) (Z : State) (a0 : Array Value) (hw : ∀ d ∈ tables_1, d.before a0 Z = true) (ws : List Jvm.Cond) (a1 : Addr) (p2 : Int32) (y3 : UInt64) (da : Addr) (sa : Addr) (n : Int32) (D : Nat → Int32) (S0 : Nat → UInt64) (h0 : Heap) (n0 : Nat) (Z0 : n0 ≤ h0.size) (E_a1 : Exa Z h0 a1 sH) (F_d : Fld Z h0 a1 sH "documents" "[I" (.ref da)) (F_s : Fld Z h0 a1 sH "scores" "[D" (.ref sa)) (V_da : own_AI Z h0 da n D) (V_sa : own_AD Z h0 sa n S0) (nds : da ≠ sa) (nad : a1 ≠ da) (nas : a1 ≠ sa) (g_da : n0 ≤ da) (g_sa : n0 ≤ sa) (F_z : Fld Z h0 a1 sH "size" "I" (.int (2 : Int32))) (nn_y3 : Jvm.Free.Fl.NoNaN64 y3) (g_a1 : n0 ≤ a1) (hlt : (2 : Int32) < n) (h0n : (0 : Int32) < n) (hc30 : (own_rb p2 y3 (D ((((2 : Int32) - (1 : Int32)) / (2 : Int32))).toNatClampNeg) (S0 ((((2 : Int32) - (1 : Int32)) / (2 : Int32))).toNatClampNeg)) = (0 : Int32)) :
    MetFree l (⟨sH, "add", "(ID)V"⟩ : MethodName) (head1 (Jvm.Cond.code (⟨sH, "add", "(ID)V"⟩ : MethodName) prog_188_method_2_code 5 none :: ws) ({ frames := 5, cells := 0, slots := 0, locals := 130 } : Room)) (fun a U => a = #[(.ref a1), (.int p2), (.double y3)] ∧ Z.Warmed39 U.vm ∧ U.heap = h0) (fun _ _ _ _ _ => True) (fun _ U o U' => ∃ v L, o = .returned v ∧ Q9_2_0 Z a1 p2 y3 da sa n D S0 h0 n0 v U'.heap L ∧ FrameEnd U o U' L ({ frames := 5, cells := 0, slots := 0, locals := 130 } : Room).cells ({ frames := 5, cells := 0, slots := 0, locals := 130 } : Room).slots) := by
  refine MetFree.of_bodySF (plainFor_of_name pn_9) hisR ?_
  intro p e s m args below meth c s₁ Bd hml0 hP hK
  obtain ⟨rfl, hZ, hh⟩ := hP
  have hx := Bd.exec
  have hby := Bd.bytes
  have hml : c.maxLocals = 5 := hml0
  have hown : s.vm.findClass sH = some m.cls := findClass_of_methodNamed Bd.named
  have hnm := (name_of_methodNamed Bd.named Bd.method).1
  have X0 : Stand p l e ({ frames := 5, cells := 0, slots := 0, locals := 130 } : Room) s m #[(.ref a1), (.int p2), (.double y3)] below meth c s₁ [] 0 0 := Stand.of_body Bd
  have e0 : s₁.heap = h0 := by rw [← hh, Bd.state]; rfl
  have N0 := Fr.nil n0
  have pre0 : ∀ t, Steps p.tables e below (s₁.setTop (mkF m 0 #[.val (.ref a1), .val (.int p2), .val (.double y3), .second, .unset] [])) t → Steps p.tables e below (s₁.setTop (entryFrame m #[(.ref a1), (.int p2), (.double y3)] 5)) t := fun t k => castTop (ef_9_2_0 m a1 p2 y3) k

  obtain ⟨T4, X4, e4, st4⟩ := getF X0 hx hZ hown (host := "") (Or.inl (ww hw 79 rfl)) Via.refl e0 F_z (g := (mkF m 2 #[.val (.ref a1), .val (.int p2), .val (.double y3), .second, .unset] [(.ref a1), (.ref a1)])) rfl rfl (hb hby d9_2)
  obtain ⟨T5, h5, X5, e5, W5, st5⟩ := putF X4 hx hZ hown (host := "") (Or.inl (ww hw 79 rfl)) Via.refl e4 F_z E_a1 (Or.inl (ww hw 62 rfl)) (ww hw 19 rfl) (ty := .int) (by decide) rfl rfl (g := (mkF m 8 #[.val (.ref a1), .val (.int p2), .val (.double y3), .second, .unset] [(.int ((2 : Int32) + (1 : Int32))), (.ref a1), (.int (2 : Int32))])) rfl rfl (hb hby d9_8)
  have Fw5 := F_z.same W5
  have K5 : Keep h0 h5 [a1, da, sa] := (Keep.refl h0 [a1, da, sa]).wr W5 (Or.inl (List.mem_of_getElem? (i := 0) rfl))
  have N5 := Fr.snoc X5 N0 g_a1
  obtain ⟨cq6, q6, q6'⟩ := (E_a1.wr W5).cell
  obtain ⟨_, _, ⟨T6, L6, k6, n6⟩, -, X6, ⟨Lc6, hQ6, l6, y6, z6⟩, st6⟩ := X5.privateBack hx (y := (⟨sH, "ranksBelow", "(IDI)Z"⟩ : MethodName)) hown (mvT hZ (ww hw 85 rfl)) (mvT hZ (ww hw 86 rfl)) (mvT hZ (own_selp (ww hw 77 rfl) rfl (ww hw 87 rfl) (ww hw 86 rfl) (by decide))) (Cond.privateMethod_at (mvP hZ (ww hw 87 rfl) (args := #[]))) (mvT hZ (ww hw 88 rfl)) (by decide) (backOf (W := 0) (rm11 l Z a0 hw [] a1 p2 y3 (((2 : Int32) - (1 : Int32)) / (2 : Int32)) da sa _ D S0 h5 n0 (Nat.le_trans Z0 (Keep.of_wr W5).1) (E_a1.wr W5) (F_d.other W5 (Or.inr (slot_ne (Or.inl (ww hw 27 rfl)) (Or.inl (ww hw 62 rfl)) (by decide) (t := (.array .int)) (t' := .int) (by decide) (by decide)))) (F_s.other W5 (Or.inr (slot_ne (Or.inl (ww hw 30 rfl)) (Or.inl (ww hw 62 rfl)) (by decide) (t := (.array .double)) (t' := .int) (by decide) (by decide)))) (V_da.other W5 nad.symm) (V_sa.other W5 nas.symm) ⟨by decide, h0n⟩ nn_y3) hZ (ww hw 88 rfl) (ww hw 20 rfl) (by decide) (by decide)) (g := (mkF m 27 #[.val (.ref a1), .val (.int p2), .val (.double y3), .second, .val (.int (2 : Int32))] [(.int (((2 : Int32) - (1 : Int32)) / (2 : Int32))), (.double y3), (.int p2), (.ref a1)])) rfl (by rw [hml]; rfl) (Steps.refl _) (a := a1) (by rw [e5]; exact q6) q6' (argsL := [(.int p2), (.double y3), (.int (((2 : Int32) - (1 : Int32)) / (2 : Int32)))]) (rest := []) (lenOf pd_9_8 rfl) rfl (by show 2 * 0 + _ ≤ _; exact Nat.le_of_eq rfl) (hb hby d9_27) (fun _ _ => ⟨rfl, e5, (by decide : 0 + 0 ≤ _), (by decide : 0 + 0 ≤ _)⟩)
  dsimp only [Pt.U, Pt.locs, Pt.cells, Pt.slots] at X6 l6 y6 z6 st6 hQ6
  subst l6 y6 z6
  obtain ⟨rfl, N6q, eh6⟩ := hQ6
  have N6 := Fr.app N5 N6q
  obtain ⟨cq7, q7, q7'⟩ := (E_a1.wr W5).cell
  obtain ⟨_, _, ⟨T7, L7, k7, n7⟩, -, X7, ⟨Lc7, hQ7, l7, y7, z7⟩, st7⟩ := X6.privateBack hx (y := (⟨sH, "put", "(IID)V"⟩ : MethodName)) hown (mvT hZ (ww hw 80 rfl)) (mvT hZ (ww hw 81 rfl)) (mvT hZ (own_selp (ww hw 77 rfl) rfl (ww hw 82 rfl) (ww hw 81 rfl) (by decide))) (Cond.privateMethod_at (mvP hZ (ww hw 82 rfl) (args := #[]))) (mvT hZ (ww hw 83 rfl)) (by decide) (backOf (W := 0) (rm10 l Z a0 hw [] a1 (2 : Int32) p2 y3 da sa n _ _ h5 n0 (Nat.le_trans Z0 (Keep.of_wr W5).1) (E_a1.wr W5) (F_d.other W5 (Or.inr (slot_ne (Or.inl (ww hw 27 rfl)) (Or.inl (ww hw 62 rfl)) (by decide) (t := (.array .int)) (t' := .int) (by decide) (by decide)))) (F_s.other W5 (Or.inr (slot_ne (Or.inl (ww hw 30 rfl)) (Or.inl (ww hw 62 rfl)) (by decide) (t := (.array .double)) (t' := .int) (by decide) (by decide)))) (V_da.other W5 nad.symm) (V_sa.other W5 nas.symm) nds nad nas g_da g_sa ⟨by decide, hlt⟩ nn_y3) hZ (ww hw 83 rfl) (ww hw 20 rfl) (by decide) (by decide)) (g := (mkF m 61 #[.val (.ref a1), .val (.int p2), .val (.double y3), .second, .val (.int (2 : Int32))] [(.double y3), (.int p2), (.int (2 : Int32)), (.ref a1)])) rfl (by rw [hml]; rfl) (Steps.refl _) (a := a1) (by rw [eh6]; exact q7) q7' (argsL := [(.int (2 : Int32)), (.int p2), (.double y3)]) (rest := []) (lenOf pd_9_7 rfl) rfl (by show 2 * 0 + _ ≤ _; exact Nat.le_of_eq rfl) (hb hby d9_61) (fun _ _ => ⟨rfl, eh6, (by decide : 0 + 0 ≤ _), (by decide : 0 + 0 ≤ _)⟩)
  dsimp only [Pt.U, Pt.locs, Pt.cells, Pt.slots] at X7 l7 y7 z7 st7 hQ7
  subst l7 y7 z7
  obtain ⟨rfl, N7q, Kc7, ⟨D7, Vd7⟩, ⟨S7, Vs7⟩⟩ := hQ7
  have N7 := Fr.app N6 N7q
  have K7 : Keep h0 T7.heap [a1, da, sa] := K5.trans Kc7 (allS (Or.inl (List.mem_of_getElem? (i := 1) rfl)) (allS (Or.inl (List.mem_of_getElem? (i := 2) rfl)) all0))
  obtain ⟨fs, hr, hrun, hended, hW, hsame⟩ := X7.leave (v := none) (fun _ => rfl)
  refine ⟨_, _, pre0 _ ?_, hrun, hended, _, _, rfl, ?_, ⟨_, rfl⟩, hW, hsame.mono (by decide) (by decide)⟩
  · show Steps _ _ _ (s₁.setTop (mkF m 0 #[.val (.ref a1), .val (.int p2), .val (.double y3), .second, .unset] [])) _
    refine XS.aloadN X0.here hx rfl (hb hby d9_0) rfl rfl ?_
    refine XS.dup X0.here hx rfl (hb hby d9_1) rfl rfl ?_
    refine st4 _ ?_
    refine XS.dupX1 X4.here hx rfl (hb hby d9_5) rfl rfl rfl ?_
    refine XS.iconst X4.here hx rfl (hb hby d9_6) ?_
    refine XS.iadd X4.here hx rfl (hb hby d9_7) rfl ?_
    refine st5 _ ?_
    refine XS.istore X5.here hx rfl (hb hby d9_11) rfl (l' := #[.val (.ref a1), .val (.int p2), .val (.double y3), .second, .val (.int (2 : Int32))]) rfl ?_
    refine XS.iload X5.here hx rfl (hb hby d9_13) rfl ?_
    refine XS.ifNo X5.here hx rfl (hb hby d9_15) rfl ((if0 _ _).trans (tlt (by decide : (0 : Int32) < (2 : Int32))).2.2.2) ?_
    refine XS.aloadN X5.here hx rfl (hb hby d9_18) rfl rfl ?_
    refine XS.iloadN X5.here hx rfl (hb hby d9_19) rfl ?_
    refine XS.dloadN X5.here hx rfl (hb hby d9_20) rfl ?_
    refine XS.iload X5.here hx rfl (hb hby d9_21) rfl ?_
    refine XS.iconst X5.here hx rfl (hb hby d9_23) ?_
    refine XS.isub X5.here hx rfl (hb hby d9_24) rfl ?_
    refine XS.iconst X5.here hx rfl (hb hby d9_25) ?_
    refine XS.idiv X5.here hx rfl (hb hby d9_26) rfl (by decide) ?_
    refine st6.trans ?_
    refine XS.ifYes X6.here hx rfl (pc0 := 30) (pc' := 56) rfl (hb hby d9_30) rfl ((if0 _ _).trans (teq hc30).1) (by decide) (by decide) ?_
    refine XS.aloadN X6.here hx rfl (hb hby d9_56) rfl rfl ?_
    refine XS.iload X6.here hx rfl (hb hby d9_57) rfl ?_
    refine XS.iloadN X6.here hx rfl (hb hby d9_59) rfl ?_
    refine XS.dloadN X6.here hx rfl (hb hby d9_60) rfl ?_
    refine st7.trans ?_
    exact X7.returnOut hx Bd.returns (hb hby d9_64) hr
  · show Q9_2_0 Z a1 p2 y3 da sa n D S0 h0 n0 _ T7.heap _
    exact ⟨rfl, N7, K7, ((E_a1.wr W5).keep Kc7), ((F_d.other W5 (Or.inr (slot_ne (Or.inl (ww hw 27 rfl)) (Or.inl (ww hw 62 rfl)) (by decide) (t := (.array .int)) (t' := .int) (by decide) (by decide)))).keep Kc7 (ninS nad (ninS nas nin0))), ((F_s.other W5 (Or.inr (slot_ne (Or.inl (ww hw 30 rfl)) (Or.inl (ww hw 62 rfl)) (by decide) (t := (.array .double)) (t' := .int) (by decide) (by decide)))).keep Kc7 (ninS nad (ninS nas nin0))), (Fw5.keep Kc7 (ninS nad (ninS nas nin0))), ⟨_, Vd7⟩, ⟨_, Vs7⟩⟩
theorem ef_9_2_1 (m : MethodId) (x0 : Addr) (x1 : Int32) (x2 : UInt64) : entryFrame m #[(.ref x0), (.int x1), (.double x2)] 5 = mkF m 0 #[.val (.ref x0), .val (.int x1), .val (.double x2), .second, .unset] [] := by first | (simp [entryFrame, mkF, argsToLocals, Value.category]; done) | rfl
def Q9_2_1 (Z : State) (a1 : Addr) (p2 : Int32) (y3 : UInt64) (da : Addr) (sa : Addr) (n : Int32) (D : Nat → Int32) (S0 : Nat → UInt64) (h0 : Heap) (n0 : Nat) (v : Option Value) (h : Heap) (L : List Loc) : Prop := v = none ∧ Fr n0 L ∧ Keep h0 h [a1, da, sa] ∧ Exa Z h a1 sH ∧ Fld Z h a1 sH "documents" "[I" (.ref da) ∧ Fld Z h a1 sH "scores" "[D" (.ref sa) ∧ Fld Z h a1 sH "size" "I" (.int (3 : Int32)) ∧ (∃ D', own_AI Z h da n D') ∧ (∃ S', own_AD Z h sa n S')
set_option maxRecDepth 65536 in
set_option maxHeartbeats 40000000 in
theorem rm9_2_1 (l : Launch) (Z : State) (a0 : Array Value) (hw : ∀ d ∈ tables_1, d.before a0 Z = true) (ws : List Jvm.Cond) (a1 : Addr) (p2 : Int32) (y3 : UInt64) (da : Addr) (sa : Addr) (n : Int32) (D : Nat → Int32) (S0 : Nat → UInt64) (h0 : Heap) (n0 : Nat) (Z0 : n0 ≤ h0.size) (E_a1 : Exa Z h0 a1 sH) (F_d : Fld Z h0 a1 sH "documents" "[I" (.ref da)) (F_s : Fld Z h0 a1 sH "scores" "[D" (.ref sa)) (V_da : own_AI Z h0 da n D) (V_sa : own_AD Z h0 sa n S0) (nds : da ≠ sa) (nad : a1 ≠ da) (nas : a1 ≠ sa) (g_da : n0 ≤ da) (g_sa : n0 ≤ sa) (F_z : Fld Z h0 a1 sH "size" "I" (.int (2 : Int32))) (nn_y3 : Jvm.Free.Fl.NoNaN64 y3) (g_a1 : n0 ≤ a1) (hlt : (2 : Int32) < n) (h0n : (0 : Int32) < n) (hc30 : ¬ ((own_rb p2 y3 (D ((((2 : Int32) - (1 : Int32)) / (2 : Int32))).toNatClampNeg) (S0 ((((2 : Int32) - (1 : Int32)) / (2 : Int32))).toNatClampNeg)) = (0 : Int32))) :
    MetFree l (⟨sH, "add", "(ID)V"⟩ : MethodName) (head1 (Jvm.Cond.code (⟨sH, "add", "(ID)V"⟩ : MethodName) prog_188_method_2_code 5 none :: ws) ({ frames := 5, cells := 0, slots := 0, locals := 130 } : Room)) (fun a U => a = #[(.ref a1), (.int p2), (.double y3)] ∧ Z.Warmed39 U.vm ∧ U.heap = h0) (fun _ _ _ _ _ => True) (fun _ U o U' => ∃ v L, o = .returned v ∧ Q9_2_1 Z a1 p2 y3 da sa n D S0 h0 n0 v U'.heap L ∧ FrameEnd U o U' L ({ frames := 5, cells := 0, slots := 0, locals := 130 } : Room).cells ({ frames := 5, cells := 0, slots := 0, locals := 130 } : Room).slots) := by
  refine MetFree.of_bodySF (plainFor_of_name pn_9) hisR ?_
  intro p e s m args below meth c s₁ Bd hml0 hP hK
  obtain ⟨rfl, hZ, hh⟩ := hP
  have hx := Bd.exec
  have hby := Bd.bytes
  have hml : c.maxLocals = 5 := hml0
  have hown : s.vm.findClass sH = some m.cls := findClass_of_methodNamed Bd.named
  have hnm := (name_of_methodNamed Bd.named Bd.method).1
  have X0 : Stand p l e ({ frames := 5, cells := 0, slots := 0, locals := 130 } : Room) s m #[(.ref a1), (.int p2), (.double y3)] below meth c s₁ [] 0 0 := Stand.of_body Bd
  have e0 : s₁.heap = h0 := by rw [← hh, Bd.state]; rfl
  have N0 := Fr.nil n0
  have pre0 : ∀ t, Steps p.tables e below (s₁.setTop (mkF m 0 #[.val (.ref a1), .val (.int p2), .val (.double y3), .second, .unset] [])) t → Steps p.tables e below (s₁.setTop (entryFrame m #[(.ref a1), (.int p2), (.double y3)] 5)) t := fun t k => castTop (ef_9_2_1 m a1 p2 y3) k

  obtain ⟨T4, X4, e4, st4⟩ := getF X0 hx hZ hown (host := "") (Or.inl (ww hw 79 rfl)) Via.refl e0 F_z (g := (mkF m 2 #[.val (.ref a1), .val (.int p2), .val (.double y3), .second, .unset] [(.ref a1), (.ref a1)])) rfl rfl (hb hby d9_2)
  obtain ⟨T5, h5, X5, e5, W5, st5⟩ := putF X4 hx hZ hown (host := "") (Or.inl (ww hw 79 rfl)) Via.refl e4 F_z E_a1 (Or.inl (ww hw 62 rfl)) (ww hw 19 rfl) (ty := .int) (by decide) rfl rfl (g := (mkF m 8 #[.val (.ref a1), .val (.int p2), .val (.double y3), .second, .unset] [(.int ((2 : Int32) + (1 : Int32))), (.ref a1), (.int (2 : Int32))])) rfl rfl (hb hby d9_8)
  have Fw5 := F_z.same W5
  have K5 : Keep h0 h5 [a1, da, sa] := (Keep.refl h0 [a1, da, sa]).wr W5 (Or.inl (List.mem_of_getElem? (i := 0) rfl))
  have N5 := Fr.snoc X5 N0 g_a1
  obtain ⟨cq6, q6, q6'⟩ := (E_a1.wr W5).cell
  obtain ⟨_, _, ⟨T6, L6, k6, n6⟩, -, X6, ⟨Lc6, hQ6, l6, y6, z6⟩, st6⟩ := X5.privateBack hx (y := (⟨sH, "ranksBelow", "(IDI)Z"⟩ : MethodName)) hown (mvT hZ (ww hw 85 rfl)) (mvT hZ (ww hw 86 rfl)) (mvT hZ (own_selp (ww hw 77 rfl) rfl (ww hw 87 rfl) (ww hw 86 rfl) (by decide))) (Cond.privateMethod_at (mvP hZ (ww hw 87 rfl) (args := #[]))) (mvT hZ (ww hw 88 rfl)) (by decide) (backOf (W := 0) (rm11 l Z a0 hw [] a1 p2 y3 (((2 : Int32) - (1 : Int32)) / (2 : Int32)) da sa _ D S0 h5 n0 (Nat.le_trans Z0 (Keep.of_wr W5).1) (E_a1.wr W5) (F_d.other W5 (Or.inr (slot_ne (Or.inl (ww hw 27 rfl)) (Or.inl (ww hw 62 rfl)) (by decide) (t := (.array .int)) (t' := .int) (by decide) (by decide)))) (F_s.other W5 (Or.inr (slot_ne (Or.inl (ww hw 30 rfl)) (Or.inl (ww hw 62 rfl)) (by decide) (t := (.array .double)) (t' := .int) (by decide) (by decide)))) (V_da.other W5 nad.symm) (V_sa.other W5 nas.symm) ⟨by decide, h0n⟩ nn_y3) hZ (ww hw 88 rfl) (ww hw 20 rfl) (by decide) (by decide)) (g := (mkF m 27 #[.val (.ref a1), .val (.int p2), .val (.double y3), .second, .val (.int (2 : Int32))] [(.int (((2 : Int32) - (1 : Int32)) / (2 : Int32))), (.double y3), (.int p2), (.ref a1)])) rfl (by rw [hml]; rfl) (Steps.refl _) (a := a1) (by rw [e5]; exact q6) q6' (argsL := [(.int p2), (.double y3), (.int (((2 : Int32) - (1 : Int32)) / (2 : Int32)))]) (rest := []) (lenOf pd_9_8 rfl) rfl (by show 2 * 0 + _ ≤ _; exact Nat.le_of_eq rfl) (hb hby d9_27) (fun _ _ => ⟨rfl, e5, (by decide : 0 + 0 ≤ _), (by decide : 0 + 0 ≤ _)⟩)
  dsimp only [Pt.U, Pt.locs, Pt.cells, Pt.slots] at X6 l6 y6 z6 st6 hQ6
  subst l6 y6 z6
  obtain ⟨rfl, N6q, eh6⟩ := hQ6
  have N6 := Fr.app N5 N6q
  obtain ⟨cq7, q7, q7'⟩ := (E_a1.wr W5).cell
  obtain ⟨_, _, ⟨T7, L7, k7, n7⟩, -, X7, ⟨Lc7, hQ7, l7, y7, z7⟩, st7⟩ := X6.privateBack hx (y := (⟨sH, "move", "(II)V"⟩ : MethodName)) hown (mvT hZ (ww hw 96 rfl)) (mvT hZ (ww hw 97 rfl)) (mvT hZ (own_selp (ww hw 77 rfl) rfl (ww hw 98 rfl) (ww hw 97 rfl) (by decide))) (Cond.privateMethod_at (mvP hZ (ww hw 98 rfl) (args := #[]))) (mvT hZ (ww hw 99 rfl)) (by decide) (backOf (W := 0) (rm14 l Z a0 hw [] a1 (((2 : Int32) - (1 : Int32)) / (2 : Int32)) (2 : Int32) da sa n _ _ h5 n0 (Nat.le_trans Z0 (Keep.of_wr W5).1) (E_a1.wr W5) (F_d.other W5 (Or.inr (slot_ne (Or.inl (ww hw 27 rfl)) (Or.inl (ww hw 62 rfl)) (by decide) (t := (.array .int)) (t' := .int) (by decide) (by decide)))) (F_s.other W5 (Or.inr (slot_ne (Or.inl (ww hw 30 rfl)) (Or.inl (ww hw 62 rfl)) (by decide) (t := (.array .double)) (t' := .int) (by decide) (by decide)))) (V_da.other W5 nad.symm) (V_sa.other W5 nas.symm) nds nad nas g_da g_sa ⟨by decide, h0n⟩ ⟨by decide, hlt⟩) hZ (ww hw 99 rfl) (ww hw 20 rfl) (by decide) (by decide)) (g := (mkF m 42 #[.val (.ref a1), .val (.int p2), .val (.double y3), .second, .val (.int (2 : Int32))] [(.int (2 : Int32)), (.int (((2 : Int32) - (1 : Int32)) / (2 : Int32))), (.ref a1)])) rfl (by rw [hml]; rfl) (Steps.refl _) (a := a1) (by rw [eh6]; exact q7) q7' (argsL := [(.int (((2 : Int32) - (1 : Int32)) / (2 : Int32))), (.int (2 : Int32))]) (rest := []) (lenOf pd_9_11 rfl) rfl (by show 2 * 0 + _ ≤ _; exact Nat.le_of_eq rfl) (hb hby d9_42) (fun _ _ => ⟨rfl, eh6, (by decide : 0 + 0 ≤ _), (by decide : 0 + 0 ≤ _)⟩)
  dsimp only [Pt.U, Pt.locs, Pt.cells, Pt.slots] at X7 l7 y7 z7 st7 hQ7
  subst l7 y7 z7
  obtain ⟨rfl, N7q, Kc7, ⟨D7, Vd7⟩, ⟨S7, Vs7⟩⟩ := hQ7
  have N7 := Fr.app N6 N7q
  have K7 : Keep h0 T7.heap [a1, da, sa] := K5.trans Kc7 (allS (Or.inl (List.mem_of_getElem? (i := 1) rfl)) (allS (Or.inl (List.mem_of_getElem? (i := 2) rfl)) all0))
  obtain ⟨cq8, q8, q8'⟩ := ((E_a1.wr W5).keep Kc7).cell
  obtain ⟨_, _, ⟨T8, L8, k8, n8⟩, -, X8, ⟨Lc8, hQ8, l8, y8, z8⟩, st8⟩ := X7.privateBack hx (y := (⟨sH, "put", "(IID)V"⟩ : MethodName)) hown (mvT hZ (ww hw 80 rfl)) (mvT hZ (ww hw 81 rfl)) (mvT hZ (own_selp (ww hw 77 rfl) rfl (ww hw 82 rfl) (ww hw 81 rfl) (by decide))) (Cond.privateMethod_at (mvP hZ (ww hw 82 rfl) (args := #[]))) (mvT hZ (ww hw 83 rfl)) (by decide) (backOf (W := 0) (rm10 l Z a0 hw [] a1 (((2 : Int32) - (1 : Int32)) / (2 : Int32)) p2 y3 da sa n _ _ T7.heap n0 (Nat.le_trans (Nat.le_trans Z0 (Keep.of_wr W5).1) Kc7.1) ((E_a1.wr W5).keep Kc7) ((F_d.other W5 (Or.inr (slot_ne (Or.inl (ww hw 27 rfl)) (Or.inl (ww hw 62 rfl)) (by decide) (t := (.array .int)) (t' := .int) (by decide) (by decide)))).keep Kc7 (ninS nad (ninS nas nin0))) ((F_s.other W5 (Or.inr (slot_ne (Or.inl (ww hw 30 rfl)) (Or.inl (ww hw 62 rfl)) (by decide) (t := (.array .double)) (t' := .int) (by decide) (by decide)))).keep Kc7 (ninS nad (ninS nas nin0))) Vd7 Vs7 nds nad nas g_da g_sa ⟨by decide, h0n⟩ nn_y3) hZ (ww hw 83 rfl) (ww hw 20 rfl) (by decide) (by decide)) (g := (mkF m 61 #[.val (.ref a1), .val (.int p2), .val (.double y3), .second, .val (.int (((2 : Int32) - (1 : Int32)) / (2 : Int32)))] [(.double y3), (.int p2), (.int (((2 : Int32) - (1 : Int32)) / (2 : Int32))), (.ref a1)])) rfl (by rw [hml]; rfl) (Steps.refl _) (a := a1) q8 q8' (argsL := [(.int (((2 : Int32) - (1 : Int32)) / (2 : Int32))), (.int p2), (.double y3)]) (rest := []) (lenOf pd_9_7 rfl) rfl (by show 2 * 0 + _ ≤ _; exact Nat.le_of_eq rfl) (hb hby d9_61) (fun _ _ => ⟨rfl, rfl, (by decide : 0 + 0 ≤ _), (by decide : 0 + 0 ≤ _)⟩)
  dsimp only [Pt.U, Pt.locs, Pt.cells, Pt.slots] at X8 l8 y8 z8 st8 hQ8
  subst l8 y8 z8
  obtain ⟨rfl, N8q, Kc8, ⟨D8, Vd8⟩, ⟨S8, Vs8⟩⟩ := hQ8
  have N8 := Fr.app N7 N8q
  have K8 : Keep h0 T8.heap [a1, da, sa] := K7.trans Kc8 (allS (Or.inl (List.mem_of_getElem? (i := 1) rfl)) (allS (Or.inl (List.mem_of_getElem? (i := 2) rfl)) all0))
  obtain ⟨fs, hr, hrun, hended, hW, hsame⟩ := X8.leave (v := none) (fun _ => rfl)
  refine ⟨_, _, pre0 _ ?_, hrun, hended, _, _, rfl, ?_, ⟨_, rfl⟩, hW, hsame.mono (by decide) (by decide)⟩
  · show Steps _ _ _ (s₁.setTop (mkF m 0 #[.val (.ref a1), .val (.int p2), .val (.double y3), .second, .unset] [])) _
    refine XS.aloadN X0.here hx rfl (hb hby d9_0) rfl rfl ?_
    refine XS.dup X0.here hx rfl (hb hby d9_1) rfl rfl ?_
    refine st4 _ ?_
    refine XS.dupX1 X4.here hx rfl (hb hby d9_5) rfl rfl rfl ?_
    refine XS.iconst X4.here hx rfl (hb hby d9_6) ?_
    refine XS.iadd X4.here hx rfl (hb hby d9_7) rfl ?_
    refine st5 _ ?_
    refine XS.istore X5.here hx rfl (hb hby d9_11) rfl (l' := #[.val (.ref a1), .val (.int p2), .val (.double y3), .second, .val (.int (2 : Int32))]) rfl ?_
    refine XS.iload X5.here hx rfl (hb hby d9_13) rfl ?_
    refine XS.ifNo X5.here hx rfl (hb hby d9_15) rfl ((if0 _ _).trans (tlt (by decide : (0 : Int32) < (2 : Int32))).2.2.2) ?_
    refine XS.aloadN X5.here hx rfl (hb hby d9_18) rfl rfl ?_
    refine XS.iloadN X5.here hx rfl (hb hby d9_19) rfl ?_
    refine XS.dloadN X5.here hx rfl (hb hby d9_20) rfl ?_
    refine XS.iload X5.here hx rfl (hb hby d9_21) rfl ?_
    refine XS.iconst X5.here hx rfl (hb hby d9_23) ?_
    refine XS.isub X5.here hx rfl (hb hby d9_24) rfl ?_
    refine XS.iconst X5.here hx rfl (hb hby d9_25) ?_
    refine XS.idiv X5.here hx rfl (hb hby d9_26) rfl (by decide) ?_
    refine st6.trans ?_
    refine XS.ifNo X6.here hx rfl (hb hby d9_30) rfl ((if0 _ _).trans (feq hc30).1) ?_
    refine XS.aloadN X6.here hx rfl (hb hby d9_33) rfl rfl ?_
    refine XS.iload X6.here hx rfl (hb hby d9_34) rfl ?_
    refine XS.iconst X6.here hx rfl (hb hby d9_36) ?_
    refine XS.isub X6.here hx rfl (hb hby d9_37) rfl ?_
    refine XS.iconst X6.here hx rfl (hb hby d9_38) ?_
    refine XS.idiv X6.here hx rfl (hb hby d9_39) rfl (by decide) ?_
    refine XS.iload X6.here hx rfl (hb hby d9_40) rfl ?_
    refine st7.trans ?_
    refine XS.iload X7.here hx rfl (hb hby d9_45) rfl ?_
    refine XS.iconst X7.here hx rfl (hb hby d9_47) ?_
    refine XS.isub X7.here hx rfl (hb hby d9_48) rfl ?_
    refine XS.iconst X7.here hx rfl (hb hby d9_49) ?_
    refine XS.idiv X7.here hx rfl (hb hby d9_50) rfl (by decide) ?_
    refine XS.istore X7.here hx rfl (hb hby d9_51) rfl (l' := #[.val (.ref a1), .val (.int p2), .val (.double y3), .second, .val (.int (((2 : Int32) - (1 : Int32)) / (2 : Int32)))]) rfl ?_
    refine XS.goto X7.here hx rfl (pc0 := 53) (pc' := 13) rfl (hb hby d9_53) (by decide) (by decide) ?_
    refine XS.iload X7.here hx rfl (hb hby d9_13) rfl ?_
    refine XS.ifYes X7.here hx rfl (pc0 := 15) (pc' := 56) rfl (hb hby d9_15) rfl ((if0 _ _).trans (flt (by decide : ¬ ((0 : Int32) < (((2 : Int32) - (1 : Int32)) / (2 : Int32))))).2.2.2) (by decide) (by decide) ?_
    refine XS.aloadN X7.here hx rfl (hb hby d9_56) rfl rfl ?_
    refine XS.iload X7.here hx rfl (hb hby d9_57) rfl ?_
    refine XS.iloadN X7.here hx rfl (hb hby d9_59) rfl ?_
    refine XS.dloadN X7.here hx rfl (hb hby d9_60) rfl ?_
    refine st8.trans ?_
    exact X8.returnOut hx Bd.returns (hb hby d9_64) hr
  · show Q9_2_1 Z a1 p2 y3 da sa n D S0 h0 n0 _ T8.heap _
    exact ⟨rfl, N8, K8, (((E_a1.wr W5).keep Kc7).keep Kc8), (((F_d.other W5 (Or.inr (slot_ne (Or.inl (ww hw 27 rfl)) (Or.inl (ww hw 62 rfl)) (by decide) (t := (.array .int)) (t' := .int) (by decide) (by decide)))).keep Kc7 (ninS nad (ninS nas nin0))).keep Kc8 (ninS nad (ninS nas nin0))), (((F_s.other W5 (Or.inr (slot_ne (Or.inl (ww hw 30 rfl)) (Or.inl (ww hw 62 rfl)) (by decide) (t := (.array .double)) (t' := .int) (by decide) (by decide)))).keep Kc7 (ninS nad (ninS nas nin0))).keep Kc8 (ninS nad (ninS nas nin0))), ((Fw5.keep Kc7 (ninS nad (ninS nas nin0))).keep Kc8 (ninS nad (ninS nas nin0))), ⟨_, Vd8⟩, ⟨_, Vs8⟩⟩
def Q9_1 (Z : State) (a1 : Addr) (p2 : Int32) (y3 : UInt64) (da : Addr) (sa : Addr) (n : Int32) (D : Nat → Int32) (S0 : Nat → UInt64) (h0 : Heap) (n0 : Nat) (v : Option Value) (h : Heap) (L : List Loc) : Prop := v = none ∧ Fr n0 L ∧ Keep h0 h [a1, da, sa] ∧ Exa Z h a1 sH ∧ Fld Z h a1 sH "documents" "[I" (.ref da) ∧ Fld Z h a1 sH "scores" "[D" (.ref sa) ∧ Fld Z h a1 sH "size" "I" (.int (2 : Int32)) ∧ (∃ D', own_AI Z h da n D') ∧ (∃ S', own_AD Z h sa n S')
theorem rm9_1 (l : Launch) (Z : State) (a0 : Array Value) (hw : ∀ d ∈ tables_1, d.before a0 Z = true) (ws : List Jvm.Cond) (a1 : Addr) (p2 : Int32) (y3 : UInt64) (da : Addr) (sa : Addr) (n : Int32) (D : Nat → Int32) (S0 : Nat → UInt64) (h0 : Heap) (n0 : Nat) (Z0 : n0 ≤ h0.size) (E_a1 : Exa Z h0 a1 sH) (F_d : Fld Z h0 a1 sH "documents" "[I" (.ref da)) (F_s : Fld Z h0 a1 sH "scores" "[D" (.ref sa)) (V_da : own_AI Z h0 da n D) (V_sa : own_AD Z h0 sa n S0) (nds : da ≠ sa) (nad : a1 ≠ da) (nas : a1 ≠ sa) (g_da : n0 ≤ da) (g_sa : n0 ≤ sa) (F_z : Fld Z h0 a1 sH "size" "I" (.int (1 : Int32))) (nn_y3 : Jvm.Free.Fl.NoNaN64 y3) (g_a1 : n0 ≤ a1) (hlt : (1 : Int32) < n) (h0n : (0 : Int32) < n) :
    MetFree l (⟨sH, "add", "(ID)V"⟩ : MethodName) (head1 (Jvm.Cond.code (⟨sH, "add", "(ID)V"⟩ : MethodName) prog_188_method_2_code 5 none :: ws) ({ frames := 5, cells := 0, slots := 0, locals := 130 } : Room)) (fun a U => a = #[(.ref a1), (.int p2), (.double y3)] ∧ Z.Warmed39 U.vm ∧ U.heap = h0) (fun _ _ _ _ _ => True) (fun _ U o U' => ∃ v L, o = .returned v ∧ Q9_1 Z a1 p2 y3 da sa n D S0 h0 n0 v U'.heap L ∧ FrameEnd U o U' L ({ frames := 5, cells := 0, slots := 0, locals := 130 } : Room).cells ({ frames := 5, cells := 0, slots := 0, locals := 130 } : Room).slots) := by
  by_cases c : (own_rb p2 y3 (D ((((1 : Int32) - (1 : Int32)) / (2 : Int32))).toNatClampNeg) (S0 ((((1 : Int32) - (1 : Int32)) / (2 : Int32))).toNatClampNeg)) = (0 : Int32)
  · exact rm9_1_0 l Z a0 hw ws a1 p2 y3 da sa n D S0 h0 n0 Z0 E_a1 F_d F_s V_da V_sa nds nad nas g_da g_sa F_z nn_y3 g_a1 hlt h0n c
  · exact rm9_1_1 l Z a0 hw ws a1 p2 y3 da sa n D S0 h0 n0 Z0 E_a1 F_d F_s V_da V_sa nds nad nas g_da g_sa F_z nn_y3 g_a1 hlt h0n c
def Q9_2 (Z : State) (a1 : Addr) (p2 : Int32) (y3 : UInt64) (da : Addr) (sa : Addr) (n : Int32) (D : Nat → Int32) (S0 : Nat → UInt64) (h0 : Heap) (n0 : Nat) (v : Option Value) (h : Heap) (L : List Loc) : Prop := v = none ∧ Fr n0 L ∧ Keep h0 h [a1, da, sa] ∧ Exa Z h a1 sH ∧ Fld Z h a1 sH "documents" "[I" (.ref da) ∧ Fld Z h a1 sH "scores" "[D" (.ref sa) ∧ Fld Z h a1 sH "size" "I" (.int (3 : Int32)) ∧ (∃ D', own_AI Z h da n D') ∧ (∃ S', own_AD Z h sa n S')
theorem rm9_2 (l : Launch) (Z : State) (a0 : Array Value) (hw : ∀ d ∈ tables_1, d.before a0 Z = true) (ws : List Jvm.Cond) (a1 : Addr) (p2 : Int32) (y3 : UInt64) (da : Addr) (sa : Addr) (n : Int32) (D : Nat → Int32) (S0 : Nat → UInt64) (h0 : Heap) (n0 : Nat) (Z0 : n0 ≤ h0.size) (E_a1 : Exa Z h0 a1 sH) (F_d : Fld Z h0 a1 sH "documents" "[I" (.ref da)) (F_s : Fld Z h0 a1 sH "scores" "[D" (.ref sa)) (V_da : own_AI Z h0 da n D) (V_sa : own_AD Z h0 sa n S0) (nds : da ≠ sa) (nad : a1 ≠ da) (nas : a1 ≠ sa) (g_da : n0 ≤ da) (g_sa : n0 ≤ sa) (F_z : Fld Z h0 a1 sH "size" "I" (.int (2 : Int32))) (nn_y3 : Jvm.Free.Fl.NoNaN64 y3) (g_a1 : n0 ≤ a1) (hlt : (2 : Int32) < n) (h0n : (0 : Int32) < n) :
    MetFree l (⟨sH, "add", "(ID)V"⟩ : MethodName) (head1 (Jvm.Cond.code (⟨sH, "add", "(ID)V"⟩ : MethodName) prog_188_method_2_code 5 none :: ws) ({ frames := 5, cells := 0, slots := 0, locals := 130 } : Room)) (fun a U => a = #[(.ref a1), (.int p2), (.double y3)] ∧ Z.Warmed39 U.vm ∧ U.heap = h0) (fun _ _ _ _ _ => True) (fun _ U o U' => ∃ v L, o = .returned v ∧ Q9_2 Z a1 p2 y3 da sa n D S0 h0 n0 v U'.heap L ∧ FrameEnd U o U' L ({ frames := 5, cells := 0, slots := 0, locals := 130 } : Room).cells ({ frames := 5, cells := 0, slots := 0, locals := 130 } : Room).slots) := by
  by_cases c : (own_rb p2 y3 (D ((((2 : Int32) - (1 : Int32)) / (2 : Int32))).toNatClampNeg) (S0 ((((2 : Int32) - (1 : Int32)) / (2 : Int32))).toNatClampNeg)) = (0 : Int32)
  · exact rm9_2_0 l Z a0 hw ws a1 p2 y3 da sa n D S0 h0 n0 Z0 E_a1 F_d F_s V_da V_sa nds nad nas g_da g_sa F_z nn_y3 g_a1 hlt h0n c
  · exact rm9_2_1 l Z a0 hw ws a1 p2 y3 da sa n D S0 h0 n0 Z0 E_a1 F_d F_s V_da V_sa nds nad nas g_da g_sa F_z nn_y3 g_a1 hlt h0n c
theorem d19_0 : decode prog_188_method_12_code 0 = .ok (.iconst 0, 1) := by decide +kernel
theorem d19_1 : decode prog_188_method_12_code 1 = .ok (.istore 5, 2) := by decide +kernel
theorem d19_3 : decode prog_188_method_12_code 3 = .ok (.iconst 1, 1) := by decide +kernel
theorem d19_4 : decode prog_188_method_12_code 4 = .ok (.istore 6, 2) := by decide +kernel
theorem d19_6 : decode prog_188_method_12_code 6 = .ok (.iload 6, 2) := by decide +kernel
theorem d19_8 : decode prog_188_method_12_code 8 = .ok (.iload 4, 2) := by decide +kernel
theorem d19_10 : decode prog_188_method_12_code 10 = .ok (.if_icmp .ge 90, 3) := by decide +kernel
theorem d19_100 : decode prog_188_method_12_code 100 = .ok (.aload_n 0, 1) := by decide +kernel
theorem d19_101 : decode prog_188_method_12_code 101 = .ok (.iload 5, 2) := by decide +kernel
theorem d19_103 : decode prog_188_method_12_code 103 = .ok (.iload_n 1, 1) := by decide +kernel
theorem d19_104 : decode prog_188_method_12_code 104 = .ok (.dload_n 2, 1) := by decide +kernel
theorem d19_105 : decode prog_188_method_12_code 105 = .ok (.invokevirtual 29, 3) := by decide +kernel
theorem d19_108 : decode prog_188_method_12_code 108 = .ok (.return_, 1) := by decide +kernel
theorem pn_19 : plainName sH = true := by first | (simp [plainName, overriddenIn]; done) | decide +kernel
theorem pd_19_7 : parseMethodDescriptor "(IID)V" = some ⟨[.int, .int, .double], none⟩ := by decide +kernel
theorem ef_19_1_0 (m : MethodId) (x0 : Addr) (x1 : Int32) (x2 : UInt64) : entryFrame m #[(.ref x0), (.int x1), (.double x2), (.int (1 : Int32))] 7 = mkF m 0 #[.val (.ref x0), .val (.int x1), .val (.double x2), .second, .val (.int (1 : Int32)), .unset, .unset] [] := by first | (simp [entryFrame, mkF, argsToLocals, Value.category]; done) | rfl
def Q19_1_0 (Z : State) (a1 : Addr) (p2 : Int32) (y3 : UInt64) (da : Addr) (sa : Addr) (D : Nat → Int32) (S0 : Nat → UInt64) (h0 : Heap) (n0 : Nat) (v : Option Value) (h : Heap) (L : List Loc) : Prop := v = none ∧ Fr n0 L ∧ Keep h0 h [da, sa] ∧ (∃ D', own_AI Z h da (1 : Int32) D') ∧ (∃ S', own_AD Z h sa (1 : Int32) S')
set_option maxRecDepth 65536 in
set_option maxHeartbeats 40000000 in
theorem rm19_1_0 (l : Launch) (Z : State) (a0 : Array Value) (hw : ∀ d ∈ tables_1, d.before a0 Z = true) (ws : List Jvm.Cond) (a1 : Addr) (p2 : Int32) (y3 : UInt64) (da : Addr) (sa : Addr) (D : Nat → Int32) (S0 : Nat → UInt64) (h0 : Heap) (n0 : Nat) (Z0 : n0 ≤ h0.size) (E_a1 : Exa Z h0 a1 sH) (F_d : Fld Z h0 a1 sH "documents" "[I" (.ref da)) (F_s : Fld Z h0 a1 sH "scores" "[D" (.ref sa)) (V_da : own_AI Z h0 da (1 : Int32) D) (V_sa : own_AD Z h0 sa (1 : Int32) S0) (nds : da ≠ sa) (nad : a1 ≠ da) (nas : a1 ≠ sa) (g_da : n0 ≤ da) (g_sa : n0 ≤ sa) (nn_y3 : Jvm.Free.Fl.NoNaN64 y3) :
    MetFree l (⟨sH, "siftDown", "(IDI)V"⟩ : MethodName) (head1 (Jvm.Cond.code (⟨sH, "siftDown", "(IDI)V"⟩ : MethodName) prog_188_method_12_code 7 none :: ws) ({ frames := 5, cells := 0, slots := 0, locals := 130 } : Room)) (fun a U => a = #[(.ref a1), (.int p2), (.double y3), (.int (1 : Int32))] ∧ Z.Warmed39 U.vm ∧ U.heap = h0) (fun _ _ _ _ _ => True) (fun _ U o U' => ∃ v L, o = .returned v ∧ Q19_1_0 Z a1 p2 y3 da sa D S0 h0 n0 v U'.heap L ∧ FrameEnd U o U' L ({ frames := 5, cells := 0, slots := 0, locals := 130 } : Room).cells ({ frames := 5, cells := 0, slots := 0, locals := 130 } : Room).slots) := by
  refine MetFree.of_bodySF (plainFor_of_name pn_19) hisR ?_
  intro p e s m args below meth c s₁ Bd hml0 hP hK
  obtain ⟨rfl, hZ, hh⟩ := hP
  have hx := Bd.exec
  have hby := Bd.bytes
  have hml : c.maxLocals = 7 := hml0
  have hown : s.vm.findClass sH = some m.cls := findClass_of_methodNamed Bd.named
  have hnm := (name_of_methodNamed Bd.named Bd.method).1
  have X0 : Stand p l e ({ frames := 5, cells := 0, slots := 0, locals := 130 } : Room) s m #[(.ref a1), (.int p2), (.double y3), (.int (1 : Int32))] below meth c s₁ [] 0 0 := Stand.of_body Bd
  have e0 : s₁.heap = h0 := by rw [← hh, Bd.state]; rfl
  have N0 := Fr.nil n0
  have pre0 : ∀ t, Steps p.tables e below (s₁.setTop (mkF m 0 #[.val (.ref a1), .val (.int p2), .val (.double y3), .second, .val (.int (1 : Int32)), .unset, .unset] [])) t → Steps p.tables e below (s₁.setTop (entryFrame m #[(.ref a1), (.int p2), (.double y3), (.int (1 : Int32))] 7)) t := fun t k => castTop (ef_19_1_0 m a1 p2 y3) k

  obtain ⟨cq4, q4, q4'⟩ := E_a1.cell
  obtain ⟨_, _, ⟨T4, L4, k4, n4⟩, -, X4, ⟨Lc4, hQ4, l4, y4, z4⟩, st4⟩ := X0.privateBack hx (y := (⟨sH, "put", "(IID)V"⟩ : MethodName)) hown (mvT hZ (ww hw 80 rfl)) (mvT hZ (ww hw 81 rfl)) (mvT hZ (own_selp (ww hw 77 rfl) rfl (ww hw 82 rfl) (ww hw 81 rfl) (by decide))) (Cond.privateMethod_at (mvP hZ (ww hw 82 rfl) (args := #[]))) (mvT hZ (ww hw 83 rfl)) (by decide) (backOf (W := 0) (rm10 l Z a0 hw [] a1 (0 : Int32) p2 y3 da sa (1 : Int32) _ _ h0 n0 Z0 E_a1 F_d F_s V_da V_sa nds nad nas g_da g_sa ⟨by decide, by decide⟩ nn_y3) hZ (ww hw 83 rfl) (ww hw 20 rfl) (by decide) (by decide)) (g := (mkF m 105 #[.val (.ref a1), .val (.int p2), .val (.double y3), .second, .val (.int (1 : Int32)), .val (.int (0 : Int32)), .val (.int (1 : Int32))] [(.double y3), (.int p2), (.int (0 : Int32)), (.ref a1)])) rfl (by rw [hml]; rfl) (Steps.refl _) (a := a1) (by rw [e0]; exact q4) q4' (argsL := [(.int (0 : Int32)), (.int p2), (.double y3)]) (rest := []) (lenOf pd_19_7 rfl) rfl (by show 2 * 0 + _ ≤ _; exact Nat.le_of_eq rfl) (hb hby d19_105) (fun _ _ => ⟨rfl, e0, (by decide : 0 + 0 ≤ _), (by decide : 0 + 0 ≤ _)⟩)
  dsimp only [Pt.U, Pt.locs, Pt.cells, Pt.slots] at X4 l4 y4 z4 st4 hQ4
  subst l4 y4 z4
  obtain ⟨rfl, N4q, Kc4, ⟨D4, Vd4⟩, ⟨S4, Vs4⟩⟩ := hQ4
  have N4 := Fr.app N0 N4q
  have K4 : Keep h0 T4.heap [da, sa] := (Keep.refl h0 [da, sa]).trans Kc4 (allS (Or.inl (List.mem_of_getElem? (i := 0) rfl)) (allS (Or.inl (List.mem_of_getElem? (i := 1) rfl)) all0))
  obtain ⟨fs, hr, hrun, hended, hW, hsame⟩ := X4.leave (v := none) (fun _ => rfl)
  refine ⟨_, _, pre0 _ ?_, hrun, hended, _, _, rfl, ?_, ⟨_, rfl⟩, hW, hsame.mono (by decide) (by decide)⟩
  · show Steps _ _ _ (s₁.setTop (mkF m 0 #[.val (.ref a1), .val (.int p2), .val (.double y3), .second, .val (.int (1 : Int32)), .unset, .unset] [])) _
    refine XS.iconst X0.here hx rfl (hb hby d19_0) ?_
    refine XS.istore X0.here hx rfl (hb hby d19_1) rfl (l' := #[.val (.ref a1), .val (.int p2), .val (.double y3), .second, .val (.int (1 : Int32)), .val (.int (0 : Int32)), .unset]) rfl ?_
    refine XS.iconst X0.here hx rfl (hb hby d19_3) ?_
    refine XS.istore X0.here hx rfl (hb hby d19_4) rfl (l' := #[.val (.ref a1), .val (.int p2), .val (.double y3), .second, .val (.int (1 : Int32)), .val (.int (0 : Int32)), .val (.int (1 : Int32))]) rfl ?_
    refine XS.iload X0.here hx rfl (hb hby d19_6) rfl ?_
    refine XS.iload X0.here hx rfl (hb hby d19_8) rfl ?_
    refine XS.icmpYes X0.here hx rfl (pc0 := 10) (pc' := 100) rfl (hb hby d19_10) rfl (flt (by decide : ¬ ((1 : Int32) < (1 : Int32)))).2.1 (by decide) (by decide) ?_
    refine XS.aloadN X0.here hx rfl (hb hby d19_100) rfl rfl ?_
    refine XS.iload X0.here hx rfl (hb hby d19_101) rfl ?_
    refine XS.iloadN X0.here hx rfl (hb hby d19_103) rfl ?_
    refine XS.dloadN X0.here hx rfl (hb hby d19_104) rfl ?_
    refine st4.trans ?_
    exact X4.returnOut hx Bd.returns (hb hby d19_108) hr
  · show Q19_1_0 Z a1 p2 y3 da sa D S0 h0 n0 _ T4.heap _
    exact ⟨rfl, N4, K4, ⟨_, Vd4⟩, ⟨_, Vs4⟩⟩
theorem d19_13 : decode prog_188_method_12_code 13 = .ok (.iload 6, 2) := by decide +kernel
theorem d19_15 : decode prog_188_method_12_code 15 = .ok (.iconst 1, 1) := by decide +kernel
theorem d19_16 : decode prog_188_method_12_code 16 = .ok (.iadd, 1) := by decide +kernel
theorem d19_17 : decode prog_188_method_12_code 17 = .ok (.iload 4, 2) := by decide +kernel
theorem d19_19 : decode prog_188_method_12_code 19 = .ok (.if_icmp .ge 33, 3) := by decide +kernel
theorem d19_52 : decode prog_188_method_12_code 52 = .ok (.aload_n 0, 1) := by decide +kernel
theorem d19_53 : decode prog_188_method_12_code 53 = .ok (.getfield 7, 3) := by decide +kernel
theorem d19_56 : decode prog_188_method_12_code 56 = .ok (.iload 6, 2) := by decide +kernel
theorem d19_58 : decode prog_188_method_12_code 58 = .ok (.iaload, 1) := by decide +kernel
theorem d19_59 : decode prog_188_method_12_code 59 = .ok (.aload_n 0, 1) := by decide +kernel
theorem d19_60 : decode prog_188_method_12_code 60 = .ok (.getfield 13, 3) := by decide +kernel
theorem d19_63 : decode prog_188_method_12_code 63 = .ok (.iload 6, 2) := by decide +kernel
theorem d19_65 : decode prog_188_method_12_code 65 = .ok (.daload, 1) := by decide +kernel
theorem d19_66 : decode prog_188_method_12_code 66 = .ok (.iload_n 1, 1) := by decide +kernel
theorem d19_67 : decode prog_188_method_12_code 67 = .ok (.dload_n 2, 1) := by decide +kernel
theorem d19_68 : decode prog_188_method_12_code 68 = .ok (.invokestatic 74, 3) := by decide +kernel
theorem d19_71 : decode prog_188_method_12_code 71 = .ok (.ifCond .ne 6, 3) := by decide +kernel
theorem d19_74 : decode prog_188_method_12_code 74 = .ok (.goto 26, 3) := by decide +kernel
theorem pd_19_9 : parseMethodDescriptor "(IDID)Z" = some ⟨[.int, .double, .int, .double], some .boolean⟩ := by decide +kernel
theorem ef_19_2_0 (m : MethodId) (x0 : Addr) (x1 : Int32) (x2 : UInt64) : entryFrame m #[(.ref x0), (.int x1), (.double x2), (.int (2 : Int32))] 7 = mkF m 0 #[.val (.ref x0), .val (.int x1), .val (.double x2), .second, .val (.int (2 : Int32)), .unset, .unset] [] := by first | (simp [entryFrame, mkF, argsToLocals, Value.category]; done) | rfl
def Q19_2_0 (Z : State) (a1 : Addr) (p2 : Int32) (y3 : UInt64) (da : Addr) (sa : Addr) (D : Nat → Int32) (S0 : Nat → UInt64) (h0 : Heap) (n0 : Nat) (v : Option Value) (h : Heap) (L : List Loc) : Prop := v = none ∧ Fr n0 L ∧ Keep h0 h [da, sa] ∧ (∃ D', own_AI Z h da (2 : Int32) D') ∧ (∃ S', own_AD Z h sa (2 : Int32) S')
set_option maxRecDepth 65536 in
set_option maxHeartbeats 40000000 in
theorem rm19_2_0 (l : Launch) (Z : State) (a0 : Array Value) (hw : ∀ d ∈ tables_1, d.before a0 Z = true) (ws : List Jvm.Cond) (a1 : Addr) (p2 : Int32) (y3 : UInt64) (da : Addr) (sa : Addr) (D : Nat → Int32) (S0 : Nat → UInt64) (h0 : Heap) (n0 : Nat) (Z0 : n0 ≤ h0.size) (E_a1 : Exa Z h0 a1 sH) (F_d : Fld Z h0 a1 sH "documents" "[I" (.ref da)) (F_s : Fld Z h0 a1 sH "scores" "[D" (.ref sa)) (V_da : own_AI Z h0 da (2 : Int32) D) (V_sa : own_AD Z h0 sa (2 : Int32) S0) (nds : da ≠ sa) (nad : a1 ≠ da) (nas : a1 ≠ sa) (g_da : n0 ≤ da) (g_sa : n0 ≤ sa) (nn_y3 : Jvm.Free.Fl.NoNaN64 y3) (hc71 : (own_rb (D ((1 : Int32)).toNatClampNeg) (S0 ((1 : Int32)).toNatClampNeg) p2 y3) = (0 : Int32)) :
    MetFree l (⟨sH, "siftDown", "(IDI)V"⟩ : MethodName) (head1 (Jvm.Cond.code (⟨sH, "siftDown", "(IDI)V"⟩ : MethodName) prog_188_method_12_code 7 none :: ws) ({ frames := 5, cells := 0, slots := 0, locals := 130 } : Room)) (fun a U => a = #[(.ref a1), (.int p2), (.double y3), (.int (2 : Int32))] ∧ Z.Warmed39 U.vm ∧ U.heap = h0) (fun _ _ _ _ _ => True) (fun _ U o U' => ∃ v L, o = .returned v ∧ Q19_2_0 Z a1 p2 y3 da sa D S0 h0 n0 v U'.heap L ∧ FrameEnd U o U' L ({ frames := 5, cells := 0, slots := 0, locals := 130 } : Room).cells ({ frames := 5, cells := 0, slots := 0, locals := 130 } : Room).slots) := by
  refine MetFree.of_bodySF (plainFor_of_name pn_19) hisR ?_
  intro p e s m args below meth c s₁ Bd hml0 hP hK
  obtain ⟨rfl, hZ, hh⟩ := hP
  have hx := Bd.exec
  have hby := Bd.bytes
  have hml : c.maxLocals = 7 := hml0
  have hown : s.vm.findClass sH = some m.cls := findClass_of_methodNamed Bd.named
  have hnm := (name_of_methodNamed Bd.named Bd.method).1
  have X0 : Stand p l e ({ frames := 5, cells := 0, slots := 0, locals := 130 } : Room) s m #[(.ref a1), (.int p2), (.double y3), (.int (2 : Int32))] below meth c s₁ [] 0 0 := Stand.of_body Bd
  have e0 : s₁.heap = h0 := by rw [← hh, Bd.state]; rfl
  have N0 := Fr.nil n0
  have pre0 : ∀ t, Steps p.tables e below (s₁.setTop (mkF m 0 #[.val (.ref a1), .val (.int p2), .val (.double y3), .second, .val (.int (2 : Int32)), .unset, .unset] [])) t → Steps p.tables e below (s₁.setTop (entryFrame m #[(.ref a1), (.int p2), (.double y3), (.int (2 : Int32))] 7)) t := fun t k => castTop (ef_19_2_0 m a1 p2 y3) k

  obtain ⟨T4, X4, e4, st4⟩ := getF X0 hx hZ hown (host := "") (Or.inl (ww hw 26 rfl)) Via.refl e0 F_d (g := (mkF m 53 #[.val (.ref a1), .val (.int p2), .val (.double y3), .second, .val (.int (2 : Int32)), .val (.int (0 : Int32)), .val (.int (1 : Int32))] [(.ref a1)])) rfl rfl (hb hby d19_53)
  obtain ⟨cl_58, Ar_58, S_58, H_58⟩ := id (V_da)
  have hin58 : ¬ ((1 : Int32) < 0 ∨ cl_58.slots.size ≤ ((1 : Int32)).toNatClampNeg) := inb_of S_58 ⟨by decide, by decide⟩
  have hat58 := H_58 _ (own_inb hin58)
  obtain ⟨T5, X5, e5, st5⟩ := getF X4 hx hZ hown (host := "") (Or.inl (ww hw 29 rfl)) Via.refl e4 F_s (g := (mkF m 60 #[.val (.ref a1), .val (.int p2), .val (.double y3), .second, .val (.int (2 : Int32)), .val (.int (0 : Int32)), .val (.int (1 : Int32))] [(.ref a1), (.int (D ((1 : Int32)).toNatClampNeg))])) rfl rfl (hb hby d19_60)
  obtain ⟨cl_65, Ar_65, S_65, H_65⟩ := id (V_sa)
  have hin65 : ¬ ((1 : Int32) < 0 ∨ cl_65.slots.size ≤ ((1 : Int32)).toNatClampNeg) := inb_of S_65 ⟨by decide, by decide⟩
  obtain ⟨hat65, nn_65⟩ := H_65 _ (own_inb hin65)
  obtain ⟨_, _, ⟨T6, L6, k6, n6⟩, -, X6, ⟨Lc6, hQ6, l6, y6, z6⟩, st6⟩ := Jvm.LawKit.callS X5 hx (y := (⟨sH, "ranksBelow", "(IDID)Z"⟩ : MethodName)) hown (mvT hZ (ww hw 89 rfl)) (mvT hZ (ww hw 90 rfl)) (mvT hZ (ww hw 20 rfl)) (mvT hZ (ww hw 91 rfl)) (by decide) (backOf (W := 0) (rm12 l Z a0 hw [] (D ((1 : Int32)).toNatClampNeg) (S0 ((1 : Int32)).toNatClampNeg) p2 y3  h0 n0 Z0 nn_65 nn_y3) hZ (ww hw 91 rfl) (ww hw 20 rfl) (by decide) (by decide)) (g := (mkF m 68 #[.val (.ref a1), .val (.int p2), .val (.double y3), .second, .val (.int (2 : Int32)), .val (.int (0 : Int32)), .val (.int (1 : Int32))] [(.double y3), (.int p2), (.double (S0 ((1 : Int32)).toNatClampNeg)), (.int (D ((1 : Int32)).toNatClampNeg))])) rfl (by rw [hml]; rfl) (argsL := [(.int (D ((1 : Int32)).toNatClampNeg)), (.double (S0 ((1 : Int32)).toNatClampNeg)), (.int p2), (.double y3)]) (rest := []) (lenOf pd_19_9 rfl) rfl (by show 2 * 0 + _ ≤ _; exact Nat.le_of_eq rfl) (hb hby d19_68) (fun _ _ => ⟨rfl, e5, (by decide : 0 + 0 ≤ _), (by decide : 0 + 0 ≤ _)⟩)
  dsimp only [Pt.U, Pt.locs, Pt.cells, Pt.slots] at X6 l6 y6 z6 st6 hQ6
  subst l6 y6 z6
  obtain ⟨rfl, N6q, eh6⟩ := hQ6
  have N6 := Fr.app N0 N6q
  obtain ⟨cq7, q7, q7'⟩ := E_a1.cell
  obtain ⟨_, _, ⟨T7, L7, k7, n7⟩, -, X7, ⟨Lc7, hQ7, l7, y7, z7⟩, st7⟩ := X6.privateBack hx (y := (⟨sH, "put", "(IID)V"⟩ : MethodName)) hown (mvT hZ (ww hw 80 rfl)) (mvT hZ (ww hw 81 rfl)) (mvT hZ (own_selp (ww hw 77 rfl) rfl (ww hw 82 rfl) (ww hw 81 rfl) (by decide))) (Cond.privateMethod_at (mvP hZ (ww hw 82 rfl) (args := #[]))) (mvT hZ (ww hw 83 rfl)) (by decide) (backOf (W := 0) (rm10 l Z a0 hw [] a1 (0 : Int32) p2 y3 da sa (2 : Int32) _ _ h0 n0 Z0 E_a1 F_d F_s V_da V_sa nds nad nas g_da g_sa ⟨by decide, by decide⟩ nn_y3) hZ (ww hw 83 rfl) (ww hw 20 rfl) (by decide) (by decide)) (g := (mkF m 105 #[.val (.ref a1), .val (.int p2), .val (.double y3), .second, .val (.int (2 : Int32)), .val (.int (0 : Int32)), .val (.int (1 : Int32))] [(.double y3), (.int p2), (.int (0 : Int32)), (.ref a1)])) rfl (by rw [hml]; rfl) (Steps.refl _) (a := a1) (by rw [eh6]; exact q7) q7' (argsL := [(.int (0 : Int32)), (.int p2), (.double y3)]) (rest := []) (lenOf pd_19_7 rfl) rfl (by show 2 * 0 + _ ≤ _; exact Nat.le_of_eq rfl) (hb hby d19_105) (fun _ _ => ⟨rfl, eh6, (by decide : 0 + 0 ≤ _), (by decide : 0 + 0 ≤ _)⟩)
  dsimp only [Pt.U, Pt.locs, Pt.cells, Pt.slots] at X7 l7 y7 z7 st7 hQ7
  subst l7 y7 z7
  obtain ⟨rfl, N7q, Kc7, ⟨D7, Vd7⟩, ⟨S7, Vs7⟩⟩ := hQ7
  have N7 := Fr.app N6 N7q
  have K7 : Keep h0 T7.heap [da, sa] := (Keep.refl h0 [da, sa]).trans Kc7 (allS (Or.inl (List.mem_of_getElem? (i := 0) rfl)) (allS (Or.inl (List.mem_of_getElem? (i := 1) rfl)) all0))
  obtain ⟨fs, hr, hrun, hended, hW, hsame⟩ := X7.leave (v := none) (fun _ => rfl)
  refine ⟨_, _, pre0 _ ?_, hrun, hended, _, _, rfl, ?_, ⟨_, rfl⟩, hW, hsame.mono (by decide) (by decide)⟩
  · show Steps _ _ _ (s₁.setTop (mkF m 0 #[.val (.ref a1), .val (.int p2), .val (.double y3), .second, .val (.int (2 : Int32)), .unset, .unset] [])) _
    refine XS.iconst X0.here hx rfl (hb hby d19_0) ?_
    refine XS.istore X0.here hx rfl (hb hby d19_1) rfl (l' := #[.val (.ref a1), .val (.int p2), .val (.double y3), .second, .val (.int (2 : Int32)), .val (.int (0 : Int32)), .unset]) rfl ?_
    refine XS.iconst X0.here hx rfl (hb hby d19_3) ?_
    refine XS.istore X0.here hx rfl (hb hby d19_4) rfl (l' := #[.val (.ref a1), .val (.int p2), .val (.double y3), .second, .val (.int (2 : Int32)), .val (.int (0 : Int32)), .val (.int (1 : Int32))]) rfl ?_
    refine XS.iload X0.here hx rfl (hb hby d19_6) rfl ?_
    refine XS.iload X0.here hx rfl (hb hby d19_8) rfl ?_
    refine XS.icmpNo X0.here hx rfl (hb hby d19_10) rfl (tlt (by decide : (1 : Int32) < (2 : Int32))).2.1 ?_
    refine XS.iload X0.here hx rfl (hb hby d19_13) rfl ?_
    refine XS.iconst X0.here hx rfl (hb hby d19_15) ?_
    refine XS.iadd X0.here hx rfl (hb hby d19_16) rfl ?_
    refine XS.iload X0.here hx rfl (hb hby d19_17) rfl ?_
    refine XS.icmpYes X0.here hx rfl (pc0 := 19) (pc' := 52) rfl (hb hby d19_19) rfl (flt (by decide : ¬ (((1 : Int32) + (1 : Int32)) < (2 : Int32)))).2.1 (by decide) (by decide) ?_
    refine XS.aloadN X0.here hx rfl (hb hby d19_52) rfl rfl ?_
    refine st4 _ ?_
    refine XS.iload X4.here hx rfl (hb hby d19_56) rfl ?_
    refine X4.iaload hx (j := (1 : Int32)) (v := (.int (D ((1 : Int32)).toNatClampNeg))) (by rw [e4]; exact Ar_58.1) (State.isArrayOf_alike hZ.alike Ar_58.2.1) Ar_58.2.2 hin58 hat58 (g := (mkF m 58 #[.val (.ref a1), .val (.int p2), .val (.double y3), .second, .val (.int (2 : Int32)), .val (.int (0 : Int32)), .val (.int (1 : Int32))] [(.int (1 : Int32)), (.ref da)])) rfl rfl (hb hby d19_58) _ ?_
    refine XS.aloadN X4.here hx rfl (hb hby d19_59) rfl rfl ?_
    refine st5 _ ?_
    refine XS.iload X5.here hx rfl (hb hby d19_63) rfl ?_
    refine X5.daload hx (j := (1 : Int32)) (v := (.double (S0 ((1 : Int32)).toNatClampNeg))) (by rw [e5]; exact Ar_65.1) (State.isArrayOf_alike hZ.alike Ar_65.2.1) Ar_65.2.2 hin65 hat65 (g := (mkF m 65 #[.val (.ref a1), .val (.int p2), .val (.double y3), .second, .val (.int (2 : Int32)), .val (.int (0 : Int32)), .val (.int (1 : Int32))] [(.int (1 : Int32)), (.ref sa), (.int (D ((1 : Int32)).toNatClampNeg))])) rfl rfl (hb hby d19_65) _ ?_
    refine XS.iloadN X5.here hx rfl (hb hby d19_66) rfl ?_
    refine XS.dloadN X5.here hx rfl (hb hby d19_67) rfl ?_
    refine st6 _ ?_
    refine XS.ifNo X6.here hx rfl (hb hby d19_71) rfl ((if0 _ _).trans (teq hc71).2) ?_
    refine XS.goto X6.here hx rfl (pc0 := 74) (pc' := 100) rfl (hb hby d19_74) (by decide) (by decide) ?_
    refine XS.aloadN X6.here hx rfl (hb hby d19_100) rfl rfl ?_
    refine XS.iload X6.here hx rfl (hb hby d19_101) rfl ?_
    refine XS.iloadN X6.here hx rfl (hb hby d19_103) rfl ?_
    refine XS.dloadN X6.here hx rfl (hb hby d19_104) rfl ?_
    refine st7.trans ?_
    exact X7.returnOut hx Bd.returns (hb hby d19_108) hr
  · show Q19_2_0 Z a1 p2 y3 da sa D S0 h0 n0 _ T7.heap _
    exact ⟨rfl, N7, K7, ⟨_, Vd7⟩, ⟨_, Vs7⟩⟩
theorem d19_77 : decode prog_188_method_12_code 77 = .ok (.aload_n 0, 1) := by decide +kernel
theorem d19_78 : decode prog_188_method_12_code 78 = .ok (.iload 6, 2) := by decide +kernel
theorem d19_80 : decode prog_188_method_12_code 80 = .ok (.iload 5, 2) := by decide +kernel
theorem d19_82 : decode prog_188_method_12_code 82 = .ok (.invokevirtual 25, 3) := by decide +kernel
theorem d19_85 : decode prog_188_method_12_code 85 = .ok (.iload 6, 2) := by decide +kernel
theorem d19_87 : decode prog_188_method_12_code 87 = .ok (.istore 5, 2) := by decide +kernel
theorem d19_89 : decode prog_188_method_12_code 89 = .ok (.iconst 2, 1) := by decide +kernel
theorem d19_90 : decode prog_188_method_12_code 90 = .ok (.iload 5, 2) := by decide +kernel
theorem d19_92 : decode prog_188_method_12_code 92 = .ok (.imul, 1) := by decide +kernel
theorem d19_93 : decode prog_188_method_12_code 93 = .ok (.iconst 1, 1) := by decide +kernel
theorem d19_94 : decode prog_188_method_12_code 94 = .ok (.iadd, 1) := by decide +kernel
theorem d19_95 : decode prog_188_method_12_code 95 = .ok (.istore 6, 2) := by decide +kernel
theorem d19_97 : decode prog_188_method_12_code 97 = .ok (.goto (-91), 3) := by decide +kernel
theorem pd_19_11 : parseMethodDescriptor "(II)V" = some ⟨[.int, .int], none⟩ := by decide +kernel
theorem ef_19_2_1 (m : MethodId) (x0 : Addr) (x1 : Int32) (x2 : UInt64) : entryFrame m #[(.ref x0), (.int x1), (.double x2), (.int (2 : Int32))] 7 = mkF m 0 #[.val (.ref x0), .val (.int x1), .val (.double x2), .second, .val (.int (2 : Int32)), .unset, .unset] [] := by first | (simp [entryFrame, mkF, argsToLocals, Value.category]; done) | rfl
def Q19_2_1 (Z : State) (a1 : Addr) (p2 : Int32) (y3 : UInt64) (da : Addr) (sa : Addr) (D : Nat → Int32) (S0 : Nat → UInt64) (h0 : Heap) (n0 : Nat) (v : Option Value) (h : Heap) (L : List Loc) : Prop := v = none ∧ Fr n0 L ∧ Keep h0 h [da, sa] ∧ (∃ D', own_AI Z h da (2 : Int32) D') ∧ (∃ S', own_AD Z h sa (2 : Int32) S')
set_option maxRecDepth 65536 in
set_option maxHeartbeats 40000000 in
theorem rm19_2_1 (l : Launch) (Z : State) (a0 : Array Value) (hw : ∀ d ∈ tables_1, d.before a0 Z = true) (ws : List Jvm.Cond) (a1 : Addr) (p2 : Int32) (y3 : UInt64) (da : Addr) (sa : Addr) (D : Nat → Int32) (S0 : Nat → UInt64) (h0 : Heap) (n0 : Nat) (Z0 : n0 ≤ h0.size) (E_a1 : Exa Z h0 a1 sH) (F_d : Fld Z h0 a1 sH "documents" "[I" (.ref da)) (F_s : Fld Z h0 a1 sH "scores" "[D" (.ref sa)) (V_da : own_AI Z h0 da (2 : Int32) D) (V_sa : own_AD Z h0 sa (2 : Int32) S0) (nds : da ≠ sa) (nad : a1 ≠ da) (nas : a1 ≠ sa) (g_da : n0 ≤ da) (g_sa : n0 ≤ sa) (nn_y3 : Jvm.Free.Fl.NoNaN64 y3) (hc71 : ¬ ((own_rb (D ((1 : Int32)).toNatClampNeg) (S0 ((1 : Int32)).toNatClampNeg) p2 y3) = (0 : Int32))) :
    MetFree l (⟨sH, "siftDown", "(IDI)V"⟩ : MethodName) (head1 (Jvm.Cond.code (⟨sH, "siftDown", "(IDI)V"⟩ : MethodName) prog_188_method_12_code 7 none :: ws) ({ frames := 5, cells := 0, slots := 0, locals := 130 } : Room)) (fun a U => a = #[(.ref a1), (.int p2), (.double y3), (.int (2 : Int32))] ∧ Z.Warmed39 U.vm ∧ U.heap = h0) (fun _ _ _ _ _ => True) (fun _ U o U' => ∃ v L, o = .returned v ∧ Q19_2_1 Z a1 p2 y3 da sa D S0 h0 n0 v U'.heap L ∧ FrameEnd U o U' L ({ frames := 5, cells := 0, slots := 0, locals := 130 } : Room).cells ({ frames := 5, cells := 0, slots := 0, locals := 130 } : Room).slots) := by
  refine MetFree.of_bodySF (plainFor_of_name pn_19) hisR ?_
  intro p e s m args below meth c s₁ Bd hml0 hP hK
  obtain ⟨rfl, hZ, hh⟩ := hP
  have hx := Bd.exec
  have hby := Bd.bytes
  have hml : c.maxLocals = 7 := hml0
  have hown : s.vm.findClass sH = some m.cls := findClass_of_methodNamed Bd.named
  have hnm := (name_of_methodNamed Bd.named Bd.method).1
  have X0 : Stand p l e ({ frames := 5, cells := 0, slots := 0, locals := 130 } : Room) s m #[(.ref a1), (.int p2), (.double y3), (.int (2 : Int32))] below meth c s₁ [] 0 0 := Stand.of_body Bd
  have e0 : s₁.heap = h0 := by rw [← hh, Bd.state]; rfl
  have N0 := Fr.nil n0
  have pre0 : ∀ t, Steps p.tables e below (s₁.setTop (mkF m 0 #[.val (.ref a1), .val (.int p2), .val (.double y3), .second, .val (.int (2 : Int32)), .unset, .unset] [])) t → Steps p.tables e below (s₁.setTop (entryFrame m #[(.ref a1), (.int p2), (.double y3), (.int (2 : Int32))] 7)) t := fun t k => castTop (ef_19_2_1 m a1 p2 y3) k

  obtain ⟨T4, X4, e4, st4⟩ := getF X0 hx hZ hown (host := "") (Or.inl (ww hw 26 rfl)) Via.refl e0 F_d (g := (mkF m 53 #[.val (.ref a1), .val (.int p2), .val (.double y3), .second, .val (.int (2 : Int32)), .val (.int (0 : Int32)), .val (.int (1 : Int32))] [(.ref a1)])) rfl rfl (hb hby d19_53)
  obtain ⟨cl_58, Ar_58, S_58, H_58⟩ := id (V_da)
  have hin58 : ¬ ((1 : Int32) < 0 ∨ cl_58.slots.size ≤ ((1 : Int32)).toNatClampNeg) := inb_of S_58 ⟨by decide, by decide⟩
  have hat58 := H_58 _ (own_inb hin58)
  obtain ⟨T5, X5, e5, st5⟩ := getF X4 hx hZ hown (host := "") (Or.inl (ww hw 29 rfl)) Via.refl e4 F_s (g := (mkF m 60 #[.val (.ref a1), .val (.int p2), .val (.double y3), .second, .val (.int (2 : Int32)), .val (.int (0 : Int32)), .val (.int (1 : Int32))] [(.ref a1), (.int (D ((1 : Int32)).toNatClampNeg))])) rfl rfl (hb hby d19_60)
  obtain ⟨cl_65, Ar_65, S_65, H_65⟩ := id (V_sa)
  have hin65 : ¬ ((1 : Int32) < 0 ∨ cl_65.slots.size ≤ ((1 : Int32)).toNatClampNeg) := inb_of S_65 ⟨by decide, by decide⟩
  obtain ⟨hat65, nn_65⟩ := H_65 _ (own_inb hin65)
  obtain ⟨_, _, ⟨T6, L6, k6, n6⟩, -, X6, ⟨Lc6, hQ6, l6, y6, z6⟩, st6⟩ := Jvm.LawKit.callS X5 hx (y := (⟨sH, "ranksBelow", "(IDID)Z"⟩ : MethodName)) hown (mvT hZ (ww hw 89 rfl)) (mvT hZ (ww hw 90 rfl)) (mvT hZ (ww hw 20 rfl)) (mvT hZ (ww hw 91 rfl)) (by decide) (backOf (W := 0) (rm12 l Z a0 hw [] (D ((1 : Int32)).toNatClampNeg) (S0 ((1 : Int32)).toNatClampNeg) p2 y3  h0 n0 Z0 nn_65 nn_y3) hZ (ww hw 91 rfl) (ww hw 20 rfl) (by decide) (by decide)) (g := (mkF m 68 #[.val (.ref a1), .val (.int p2), .val (.double y3), .second, .val (.int (2 : Int32)), .val (.int (0 : Int32)), .val (.int (1 : Int32))] [(.double y3), (.int p2), (.double (S0 ((1 : Int32)).toNatClampNeg)), (.int (D ((1 : Int32)).toNatClampNeg))])) rfl (by rw [hml]; rfl) (argsL := [(.int (D ((1 : Int32)).toNatClampNeg)), (.double (S0 ((1 : Int32)).toNatClampNeg)), (.int p2), (.double y3)]) (rest := []) (lenOf pd_19_9 rfl) rfl (by show 2 * 0 + _ ≤ _; exact Nat.le_of_eq rfl) (hb hby d19_68) (fun _ _ => ⟨rfl, e5, (by decide : 0 + 0 ≤ _), (by decide : 0 + 0 ≤ _)⟩)
  dsimp only [Pt.U, Pt.locs, Pt.cells, Pt.slots] at X6 l6 y6 z6 st6 hQ6
  subst l6 y6 z6
  obtain ⟨rfl, N6q, eh6⟩ := hQ6
  have N6 := Fr.app N0 N6q
  obtain ⟨cq7, q7, q7'⟩ := E_a1.cell
  obtain ⟨_, _, ⟨T7, L7, k7, n7⟩, -, X7, ⟨Lc7, hQ7, l7, y7, z7⟩, st7⟩ := X6.privateBack hx (y := (⟨sH, "move", "(II)V"⟩ : MethodName)) hown (mvT hZ (ww hw 96 rfl)) (mvT hZ (ww hw 97 rfl)) (mvT hZ (own_selp (ww hw 77 rfl) rfl (ww hw 98 rfl) (ww hw 97 rfl) (by decide))) (Cond.privateMethod_at (mvP hZ (ww hw 98 rfl) (args := #[]))) (mvT hZ (ww hw 99 rfl)) (by decide) (backOf (W := 0) (rm14 l Z a0 hw [] a1 (1 : Int32) (0 : Int32) da sa (2 : Int32) _ _ h0 n0 Z0 E_a1 F_d F_s V_da V_sa nds nad nas g_da g_sa ⟨by decide, by decide⟩ ⟨by decide, by decide⟩) hZ (ww hw 99 rfl) (ww hw 20 rfl) (by decide) (by decide)) (g := (mkF m 82 #[.val (.ref a1), .val (.int p2), .val (.double y3), .second, .val (.int (2 : Int32)), .val (.int (0 : Int32)), .val (.int (1 : Int32))] [(.int (0 : Int32)), (.int (1 : Int32)), (.ref a1)])) rfl (by rw [hml]; rfl) (Steps.refl _) (a := a1) (by rw [eh6]; exact q7) q7' (argsL := [(.int (1 : Int32)), (.int (0 : Int32))]) (rest := []) (lenOf pd_19_11 rfl) rfl (by show 2 * 0 + _ ≤ _; exact Nat.le_of_eq rfl) (hb hby d19_82) (fun _ _ => ⟨rfl, eh6, (by decide : 0 + 0 ≤ _), (by decide : 0 + 0 ≤ _)⟩)
  dsimp only [Pt.U, Pt.locs, Pt.cells, Pt.slots] at X7 l7 y7 z7 st7 hQ7
  subst l7 y7 z7
  obtain ⟨rfl, N7q, Kc7, ⟨D7, Vd7⟩, ⟨S7, Vs7⟩⟩ := hQ7
  have N7 := Fr.app N6 N7q
  have K7 : Keep h0 T7.heap [da, sa] := (Keep.refl h0 [da, sa]).trans Kc7 (allS (Or.inl (List.mem_of_getElem? (i := 0) rfl)) (allS (Or.inl (List.mem_of_getElem? (i := 1) rfl)) all0))
  obtain ⟨cq8, q8, q8'⟩ := (E_a1.keep Kc7).cell
  obtain ⟨_, _, ⟨T8, L8, k8, n8⟩, -, X8, ⟨Lc8, hQ8, l8, y8, z8⟩, st8⟩ := X7.privateBack hx (y := (⟨sH, "put", "(IID)V"⟩ : MethodName)) hown (mvT hZ (ww hw 80 rfl)) (mvT hZ (ww hw 81 rfl)) (mvT hZ (own_selp (ww hw 77 rfl) rfl (ww hw 82 rfl) (ww hw 81 rfl) (by decide))) (Cond.privateMethod_at (mvP hZ (ww hw 82 rfl) (args := #[]))) (mvT hZ (ww hw 83 rfl)) (by decide) (backOf (W := 0) (rm10 l Z a0 hw [] a1 (1 : Int32) p2 y3 da sa (2 : Int32) _ _ T7.heap n0 (Nat.le_trans Z0 Kc7.1) (E_a1.keep Kc7) (F_d.keep Kc7 (ninS nad (ninS nas nin0))) (F_s.keep Kc7 (ninS nad (ninS nas nin0))) Vd7 Vs7 nds nad nas g_da g_sa ⟨by decide, by decide⟩ nn_y3) hZ (ww hw 83 rfl) (ww hw 20 rfl) (by decide) (by decide)) (g := (mkF m 105 #[.val (.ref a1), .val (.int p2), .val (.double y3), .second, .val (.int (2 : Int32)), .val (.int (1 : Int32)), .val (.int (((2 : Int32) * (1 : Int32)) + (1 : Int32)))] [(.double y3), (.int p2), (.int (1 : Int32)), (.ref a1)])) rfl (by rw [hml]; rfl) (Steps.refl _) (a := a1) q8 q8' (argsL := [(.int (1 : Int32)), (.int p2), (.double y3)]) (rest := []) (lenOf pd_19_7 rfl) rfl (by show 2 * 0 + _ ≤ _; exact Nat.le_of_eq rfl) (hb hby d19_105) (fun _ _ => ⟨rfl, rfl, (by decide : 0 + 0 ≤ _), (by decide : 0 + 0 ≤ _)⟩)
  dsimp only [Pt.U, Pt.locs, Pt.cells, Pt.slots] at X8 l8 y8 z8 st8 hQ8
  subst l8 y8 z8
  obtain ⟨rfl, N8q, Kc8, ⟨D8, Vd8⟩, ⟨S8, Vs8⟩⟩ := hQ8
  have N8 := Fr.app N7 N8q
  have K8 : Keep h0 T8.heap [da, sa] := K7.trans Kc8 (allS (Or.inl (List.mem_of_getElem? (i := 0) rfl)) (allS (Or.inl (List.mem_of_getElem? (i := 1) rfl)) all0))
  obtain ⟨fs, hr, hrun, hended, hW, hsame⟩ := X8.leave (v := none) (fun _ => rfl)
  refine ⟨_, _, pre0 _ ?_, hrun, hended, _, _, rfl, ?_, ⟨_, rfl⟩, hW, hsame.mono (by decide) (by decide)⟩
  · show Steps _ _ _ (s₁.setTop (mkF m 0 #[.val (.ref a1), .val (.int p2), .val (.double y3), .second, .val (.int (2 : Int32)), .unset, .unset] [])) _
    refine XS.iconst X0.here hx rfl (hb hby d19_0) ?_
    refine XS.istore X0.here hx rfl (hb hby d19_1) rfl (l' := #[.val (.ref a1), .val (.int p2), .val (.double y3), .second, .val (.int (2 : Int32)), .val (.int (0 : Int32)), .unset]) rfl ?_
    refine XS.iconst X0.here hx rfl (hb hby d19_3) ?_
    refine XS.istore X0.here hx rfl (hb hby d19_4) rfl (l' := #[.val (.ref a1), .val (.int p2), .val (.double y3), .second, .val (.int (2 : Int32)), .val (.int (0 : Int32)), .val (.int (1 : Int32))]) rfl ?_
    refine XS.iload X0.here hx rfl (hb hby d19_6) rfl ?_
    refine XS.iload X0.here hx rfl (hb hby d19_8) rfl ?_
    refine XS.icmpNo X0.here hx rfl (hb hby d19_10) rfl (tlt (by decide : (1 : Int32) < (2 : Int32))).2.1 ?_
    refine XS.iload X0.here hx rfl (hb hby d19_13) rfl ?_
    refine XS.iconst X0.here hx rfl (hb hby d19_15) ?_
    refine XS.iadd X0.here hx rfl (hb hby d19_16) rfl ?_
    refine XS.iload X0.here hx rfl (hb hby d19_17) rfl ?_
    refine XS.icmpYes X0.here hx rfl (pc0 := 19) (pc' := 52) rfl (hb hby d19_19) rfl (flt (by decide : ¬ (((1 : Int32) + (1 : Int32)) < (2 : Int32)))).2.1 (by decide) (by decide) ?_
    refine XS.aloadN X0.here hx rfl (hb hby d19_52) rfl rfl ?_
    refine st4 _ ?_
    refine XS.iload X4.here hx rfl (hb hby d19_56) rfl ?_
    refine X4.iaload hx (j := (1 : Int32)) (v := (.int (D ((1 : Int32)).toNatClampNeg))) (by rw [e4]; exact Ar_58.1) (State.isArrayOf_alike hZ.alike Ar_58.2.1) Ar_58.2.2 hin58 hat58 (g := (mkF m 58 #[.val (.ref a1), .val (.int p2), .val (.double y3), .second, .val (.int (2 : Int32)), .val (.int (0 : Int32)), .val (.int (1 : Int32))] [(.int (1 : Int32)), (.ref da)])) rfl rfl (hb hby d19_58) _ ?_
    refine XS.aloadN X4.here hx rfl (hb hby d19_59) rfl rfl ?_
    refine st5 _ ?_
    refine XS.iload X5.here hx rfl (hb hby d19_63) rfl ?_
    refine X5.daload hx (j := (1 : Int32)) (v := (.double (S0 ((1 : Int32)).toNatClampNeg))) (by rw [e5]; exact Ar_65.1) (State.isArrayOf_alike hZ.alike Ar_65.2.1) Ar_65.2.2 hin65 hat65 (g := (mkF m 65 #[.val (.ref a1), .val (.int p2), .val (.double y3), .second, .val (.int (2 : Int32)), .val (.int (0 : Int32)), .val (.int (1 : Int32))] [(.int (1 : Int32)), (.ref sa), (.int (D ((1 : Int32)).toNatClampNeg))])) rfl rfl (hb hby d19_65) _ ?_
    refine XS.iloadN X5.here hx rfl (hb hby d19_66) rfl ?_
    refine XS.dloadN X5.here hx rfl (hb hby d19_67) rfl ?_
    refine st6 _ ?_
    refine XS.ifYes X6.here hx rfl (pc0 := 71) (pc' := 77) rfl (hb hby d19_71) rfl ((if0 _ _).trans (feq hc71).2) (by decide) (by decide) ?_
    refine XS.aloadN X6.here hx rfl (hb hby d19_77) rfl rfl ?_
    refine XS.iload X6.here hx rfl (hb hby d19_78) rfl ?_
    refine XS.iload X6.here hx rfl (hb hby d19_80) rfl ?_
    refine st7.trans ?_
    refine XS.iload X7.here hx rfl (hb hby d19_85) rfl ?_
    refine XS.istore X7.here hx rfl (hb hby d19_87) rfl (l' := #[.val (.ref a1), .val (.int p2), .val (.double y3), .second, .val (.int (2 : Int32)), .val (.int (1 : Int32)), .val (.int (1 : Int32))]) rfl ?_
    refine XS.iconst X7.here hx rfl (hb hby d19_89) ?_
    refine XS.iload X7.here hx rfl (hb hby d19_90) rfl ?_
    refine XS.imul X7.here hx rfl (hb hby d19_92) rfl ?_
    refine XS.iconst X7.here hx rfl (hb hby d19_93) ?_
    refine XS.iadd X7.here hx rfl (hb hby d19_94) rfl ?_
    refine XS.istore X7.here hx rfl (hb hby d19_95) rfl (l' := #[.val (.ref a1), .val (.int p2), .val (.double y3), .second, .val (.int (2 : Int32)), .val (.int (1 : Int32)), .val (.int (((2 : Int32) * (1 : Int32)) + (1 : Int32)))]) rfl ?_
    refine XS.goto X7.here hx rfl (pc0 := 97) (pc' := 6) rfl (hb hby d19_97) (by decide) (by decide) ?_
    refine XS.iload X7.here hx rfl (hb hby d19_6) rfl ?_
    refine XS.iload X7.here hx rfl (hb hby d19_8) rfl ?_
    refine XS.icmpYes X7.here hx rfl (pc0 := 10) (pc' := 100) rfl (hb hby d19_10) rfl (flt (by decide : ¬ ((((2 : Int32) * (1 : Int32)) + (1 : Int32)) < (2 : Int32)))).2.1 (by decide) (by decide) ?_
    refine XS.aloadN X7.here hx rfl (hb hby d19_100) rfl rfl ?_
    refine XS.iload X7.here hx rfl (hb hby d19_101) rfl ?_
    refine XS.iloadN X7.here hx rfl (hb hby d19_103) rfl ?_
    refine XS.dloadN X7.here hx rfl (hb hby d19_104) rfl ?_
    refine st8.trans ?_
    exact X8.returnOut hx Bd.returns (hb hby d19_108) hr
  · show Q19_2_1 Z a1 p2 y3 da sa D S0 h0 n0 _ T8.heap _
    exact ⟨rfl, N8, K8, ⟨_, Vd8⟩, ⟨_, Vs8⟩⟩
theorem d19_22 : decode prog_188_method_12_code 22 = .ok (.aload_n 0, 1) := by decide +kernel
theorem d19_23 : decode prog_188_method_12_code 23 = .ok (.aload_n 0, 1) := by decide +kernel
theorem d19_24 : decode prog_188_method_12_code 24 = .ok (.getfield 7, 3) := by decide +kernel
theorem d19_27 : decode prog_188_method_12_code 27 = .ok (.iload 6, 2) := by decide +kernel
theorem d19_29 : decode prog_188_method_12_code 29 = .ok (.iconst 1, 1) := by decide +kernel
theorem d19_30 : decode prog_188_method_12_code 30 = .ok (.iadd, 1) := by decide +kernel
theorem d19_31 : decode prog_188_method_12_code 31 = .ok (.iaload, 1) := by decide +kernel
theorem d19_32 : decode prog_188_method_12_code 32 = .ok (.aload_n 0, 1) := by decide +kernel
theorem d19_33 : decode prog_188_method_12_code 33 = .ok (.getfield 13, 3) := by decide +kernel
theorem d19_36 : decode prog_188_method_12_code 36 = .ok (.iload 6, 2) := by decide +kernel
theorem d19_38 : decode prog_188_method_12_code 38 = .ok (.iconst 1, 1) := by decide +kernel
theorem d19_39 : decode prog_188_method_12_code 39 = .ok (.iadd, 1) := by decide +kernel
theorem d19_40 : decode prog_188_method_12_code 40 = .ok (.daload, 1) := by decide +kernel
theorem d19_41 : decode prog_188_method_12_code 41 = .ok (.iload 6, 2) := by decide +kernel
theorem d19_43 : decode prog_188_method_12_code 43 = .ok (.invokevirtual 21, 3) := by decide +kernel
theorem d19_46 : decode prog_188_method_12_code 46 = .ok (.ifCond .eq 6, 3) := by decide +kernel
theorem pd_19_8 : parseMethodDescriptor "(IDI)Z" = some ⟨[.int, .double, .int], some .boolean⟩ := by decide +kernel
theorem ef_19_3_0 (m : MethodId) (x0 : Addr) (x1 : Int32) (x2 : UInt64) : entryFrame m #[(.ref x0), (.int x1), (.double x2), (.int (3 : Int32))] 7 = mkF m 0 #[.val (.ref x0), .val (.int x1), .val (.double x2), .second, .val (.int (3 : Int32)), .unset, .unset] [] := by first | (simp [entryFrame, mkF, argsToLocals, Value.category]; done) | rfl
def Q19_3_0 (Z : State) (a1 : Addr) (p2 : Int32) (y3 : UInt64) (da : Addr) (sa : Addr) (D : Nat → Int32) (S0 : Nat → UInt64) (h0 : Heap) (n0 : Nat) (v : Option Value) (h : Heap) (L : List Loc) : Prop := v = none ∧ Fr n0 L ∧ Keep h0 h [da, sa] ∧ (∃ D', own_AI Z h da (3 : Int32) D') ∧ (∃ S', own_AD Z h sa (3 : Int32) S')
set_option maxRecDepth 65536 in
set_option maxHeartbeats 40000000 in
theorem rm19_3_0 (l : Launch) (Z : State) (a0 : Array Value) (hw : ∀ d ∈ tables_1, d.before a0 Z = true) (ws : List Jvm.Cond) (a1 : Addr) (p2 : Int32) (y3 : UInt64) (da : Addr) (sa : Addr) (D : Nat → Int32) (S0 : Nat → UInt64) (h0 : Heap) (n0 : Nat) (Z0 : n0 ≤ h0.size) (E_a1 : Exa Z h0 a1 sH) (F_d : Fld Z h0 a1 sH "documents" "[I" (.ref da)) (F_s : Fld Z h0 a1 sH "scores" "[D" (.ref sa)) (V_da : own_AI Z h0 da (3 : Int32) D) (V_sa : own_AD Z h0 sa (3 : Int32) S0) (nds : da ≠ sa) (nad : a1 ≠ da) (nas : a1 ≠ sa) (g_da : n0 ≤ da) (g_sa : n0 ≤ sa) (nn_y3 : Jvm.Free.Fl.NoNaN64 y3) (hc46 : (own_rb (D (((1 : Int32) + (1 : Int32))).toNatClampNeg) (S0 (((1 : Int32) + (1 : Int32))).toNatClampNeg) (D ((1 : Int32)).toNatClampNeg) (S0 ((1 : Int32)).toNatClampNeg)) = (0 : Int32)) (hc71 : (own_rb (D ((1 : Int32)).toNatClampNeg) (S0 ((1 : Int32)).toNatClampNeg) p2 y3) = (0 : Int32)) :
    MetFree l (⟨sH, "siftDown", "(IDI)V"⟩ : MethodName) (head1 (Jvm.Cond.code (⟨sH, "siftDown", "(IDI)V"⟩ : MethodName) prog_188_method_12_code 7 none :: ws) ({ frames := 5, cells := 0, slots := 0, locals := 130 } : Room)) (fun a U => a = #[(.ref a1), (.int p2), (.double y3), (.int (3 : Int32))] ∧ Z.Warmed39 U.vm ∧ U.heap = h0) (fun _ _ _ _ _ => True) (fun _ U o U' => ∃ v L, o = .returned v ∧ Q19_3_0 Z a1 p2 y3 da sa D S0 h0 n0 v U'.heap L ∧ FrameEnd U o U' L ({ frames := 5, cells := 0, slots := 0, locals := 130 } : Room).cells ({ frames := 5, cells := 0, slots := 0, locals := 130 } : Room).slots) := by
  refine MetFree.of_bodySF (plainFor_of_name pn_19) hisR ?_
  intro p e s m args below meth c s₁ Bd hml0 hP hK
  obtain ⟨rfl, hZ, hh⟩ := hP
  have hx := Bd.exec
  have hby := Bd.bytes
  have hml : c.maxLocals = 7 := hml0
  have hown : s.vm.findClass sH = some m.cls := findClass_of_methodNamed Bd.named
  have hnm := (name_of_methodNamed Bd.named Bd.method).1
  have X0 : Stand p l e ({ frames := 5, cells := 0, slots := 0, locals := 130 } : Room) s m #[(.ref a1), (.int p2), (.double y3), (.int (3 : Int32))] below meth c s₁ [] 0 0 := Stand.of_body Bd
  have e0 : s₁.heap = h0 := by rw [← hh, Bd.state]; rfl
  have N0 := Fr.nil n0
  have pre0 : ∀ t, Steps p.tables e below (s₁.setTop (mkF m 0 #[.val (.ref a1), .val (.int p2), .val (.double y3), .second, .val (.int (3 : Int32)), .unset, .unset] [])) t → Steps p.tables e below (s₁.setTop (entryFrame m #[(.ref a1), (.int p2), (.double y3), (.int (3 : Int32))] 7)) t := fun t k => castTop (ef_19_3_0 m a1 p2 y3) k

  obtain ⟨T4, X4, e4, st4⟩ := getF X0 hx hZ hown (host := "") (Or.inl (ww hw 26 rfl)) Via.refl e0 F_d (g := (mkF m 24 #[.val (.ref a1), .val (.int p2), .val (.double y3), .second, .val (.int (3 : Int32)), .val (.int (0 : Int32)), .val (.int (1 : Int32))] [(.ref a1), (.ref a1)])) rfl rfl (hb hby d19_24)
  obtain ⟨cl_31, Ar_31, S_31, H_31⟩ := id (V_da)
  have hin31 : ¬ (((1 : Int32) + (1 : Int32)) < 0 ∨ cl_31.slots.size ≤ (((1 : Int32) + (1 : Int32))).toNatClampNeg) := inb_of S_31 ⟨by decide, by decide⟩
  have hat31 := H_31 _ (own_inb hin31)
  obtain ⟨T5, X5, e5, st5⟩ := getF X4 hx hZ hown (host := "") (Or.inl (ww hw 29 rfl)) Via.refl e4 F_s (g := (mkF m 33 #[.val (.ref a1), .val (.int p2), .val (.double y3), .second, .val (.int (3 : Int32)), .val (.int (0 : Int32)), .val (.int (1 : Int32))] [(.ref a1), (.int (D (((1 : Int32) + (1 : Int32))).toNatClampNeg)), (.ref a1)])) rfl rfl (hb hby d19_33)
  obtain ⟨cl_40, Ar_40, S_40, H_40⟩ := id (V_sa)
  have hin40 : ¬ (((1 : Int32) + (1 : Int32)) < 0 ∨ cl_40.slots.size ≤ (((1 : Int32) + (1 : Int32))).toNatClampNeg) := inb_of S_40 ⟨by decide, by decide⟩
  obtain ⟨hat40, nn_40⟩ := H_40 _ (own_inb hin40)
  obtain ⟨cq6, q6, q6'⟩ := E_a1.cell
  obtain ⟨_, _, ⟨T6, L6, k6, n6⟩, -, X6, ⟨Lc6, hQ6, l6, y6, z6⟩, st6⟩ := X5.privateBack hx (y := (⟨sH, "ranksBelow", "(IDI)Z"⟩ : MethodName)) hown (mvT hZ (ww hw 85 rfl)) (mvT hZ (ww hw 86 rfl)) (mvT hZ (own_selp (ww hw 77 rfl) rfl (ww hw 87 rfl) (ww hw 86 rfl) (by decide))) (Cond.privateMethod_at (mvP hZ (ww hw 87 rfl) (args := #[]))) (mvT hZ (ww hw 88 rfl)) (by decide) (backOf (W := 0) (rm11 l Z a0 hw [] a1 (D (((1 : Int32) + (1 : Int32))).toNatClampNeg) (S0 (((1 : Int32) + (1 : Int32))).toNatClampNeg) (1 : Int32) da sa _ D S0 h0 n0 Z0 E_a1 F_d F_s V_da V_sa ⟨by decide, by decide⟩ nn_40) hZ (ww hw 88 rfl) (ww hw 20 rfl) (by decide) (by decide)) (g := (mkF m 43 #[.val (.ref a1), .val (.int p2), .val (.double y3), .second, .val (.int (3 : Int32)), .val (.int (0 : Int32)), .val (.int (1 : Int32))] [(.int (1 : Int32)), (.double (S0 (((1 : Int32) + (1 : Int32))).toNatClampNeg)), (.int (D (((1 : Int32) + (1 : Int32))).toNatClampNeg)), (.ref a1)])) rfl (by rw [hml]; rfl) (Steps.refl _) (a := a1) (by rw [e5]; exact q6) q6' (argsL := [(.int (D (((1 : Int32) + (1 : Int32))).toNatClampNeg)), (.double (S0 (((1 : Int32) + (1 : Int32))).toNatClampNeg)), (.int (1 : Int32))]) (rest := []) (lenOf pd_19_8 rfl) rfl (by show 2 * 0 + _ ≤ _; exact Nat.le_of_eq rfl) (hb hby d19_43) (fun _ _ => ⟨rfl, e5, (by decide : 0 + 0 ≤ _), (by decide : 0 + 0 ≤ _)⟩)
  dsimp only [Pt.U, Pt.locs, Pt.cells, Pt.slots] at X6 l6 y6 z6 st6 hQ6
  subst l6 y6 z6
  obtain ⟨rfl, N6q, eh6⟩ := hQ6
  have N6 := Fr.app N0 N6q
  obtain ⟨T7, X7, e7, st7⟩ := getF X6 hx hZ hown (host := "") (Or.inl (ww hw 26 rfl)) Via.refl eh6 F_d (g := (mkF m 53 #[.val (.ref a1), .val (.int p2), .val (.double y3), .second, .val (.int (3 : Int32)), .val (.int (0 : Int32)), .val (.int (1 : Int32))] [(.ref a1)])) rfl rfl (hb hby d19_53)
  obtain ⟨cl_58, Ar_58, S_58, H_58⟩ := id (V_da)
  have hin58 : ¬ ((1 : Int32) < 0 ∨ cl_58.slots.size ≤ ((1 : Int32)).toNatClampNeg) := inb_of S_58 ⟨by decide, by decide⟩
  have hat58 := H_58 _ (own_inb hin58)
  obtain ⟨T8, X8, e8, st8⟩ := getF X7 hx hZ hown (host := "") (Or.inl (ww hw 29 rfl)) Via.refl e7 F_s (g := (mkF m 60 #[.val (.ref a1), .val (.int p2), .val (.double y3), .second, .val (.int (3 : Int32)), .val (.int (0 : Int32)), .val (.int (1 : Int32))] [(.ref a1), (.int (D ((1 : Int32)).toNatClampNeg))])) rfl rfl (hb hby d19_60)
  obtain ⟨cl_65, Ar_65, S_65, H_65⟩ := id (V_sa)
  have hin65 : ¬ ((1 : Int32) < 0 ∨ cl_65.slots.size ≤ ((1 : Int32)).toNatClampNeg) := inb_of S_65 ⟨by decide, by decide⟩
  obtain ⟨hat65, nn_65⟩ := H_65 _ (own_inb hin65)
  obtain ⟨_, _, ⟨T9, L9, k9, n9⟩, -, X9, ⟨Lc9, hQ9, l9, y9, z9⟩, st9⟩ := Jvm.LawKit.callS X8 hx (y := (⟨sH, "ranksBelow", "(IDID)Z"⟩ : MethodName)) hown (mvT hZ (ww hw 89 rfl)) (mvT hZ (ww hw 90 rfl)) (mvT hZ (ww hw 20 rfl)) (mvT hZ (ww hw 91 rfl)) (by decide) (backOf (W := 0) (rm12 l Z a0 hw [] (D ((1 : Int32)).toNatClampNeg) (S0 ((1 : Int32)).toNatClampNeg) p2 y3  h0 n0 Z0 nn_65 nn_y3) hZ (ww hw 91 rfl) (ww hw 20 rfl) (by decide) (by decide)) (g := (mkF m 68 #[.val (.ref a1), .val (.int p2), .val (.double y3), .second, .val (.int (3 : Int32)), .val (.int (0 : Int32)), .val (.int (1 : Int32))] [(.double y3), (.int p2), (.double (S0 ((1 : Int32)).toNatClampNeg)), (.int (D ((1 : Int32)).toNatClampNeg))])) rfl (by rw [hml]; rfl) (argsL := [(.int (D ((1 : Int32)).toNatClampNeg)), (.double (S0 ((1 : Int32)).toNatClampNeg)), (.int p2), (.double y3)]) (rest := []) (lenOf pd_19_9 rfl) rfl (by show 2 * 0 + _ ≤ _; exact Nat.le_of_eq rfl) (hb hby d19_68) (fun _ _ => ⟨rfl, e8, (by decide : 0 + 0 ≤ _), (by decide : 0 + 0 ≤ _)⟩)
  dsimp only [Pt.U, Pt.locs, Pt.cells, Pt.slots] at X9 l9 y9 z9 st9 hQ9
  subst l9 y9 z9
  obtain ⟨rfl, N9q, eh9⟩ := hQ9
  have N9 := Fr.app N6 N9q
  obtain ⟨cq10, q10, q10'⟩ := E_a1.cell
  obtain ⟨_, _, ⟨T10, L10, k10, n10⟩, -, X10, ⟨Lc10, hQ10, l10, y10, z10⟩, st10⟩ := X9.privateBack hx (y := (⟨sH, "put", "(IID)V"⟩ : MethodName)) hown (mvT hZ (ww hw 80 rfl)) (mvT hZ (ww hw 81 rfl)) (mvT hZ (own_selp (ww hw 77 rfl) rfl (ww hw 82 rfl) (ww hw 81 rfl) (by decide))) (Cond.privateMethod_at (mvP hZ (ww hw 82 rfl) (args := #[]))) (mvT hZ (ww hw 83 rfl)) (by decide) (backOf (W := 0) (rm10 l Z a0 hw [] a1 (0 : Int32) p2 y3 da sa (3 : Int32) _ _ h0 n0 Z0 E_a1 F_d F_s V_da V_sa nds nad nas g_da g_sa ⟨by decide, by decide⟩ nn_y3) hZ (ww hw 83 rfl) (ww hw 20 rfl) (by decide) (by decide)) (g := (mkF m 105 #[.val (.ref a1), .val (.int p2), .val (.double y3), .second, .val (.int (3 : Int32)), .val (.int (0 : Int32)), .val (.int (1 : Int32))] [(.double y3), (.int p2), (.int (0 : Int32)), (.ref a1)])) rfl (by rw [hml]; rfl) (Steps.refl _) (a := a1) (by rw [eh9]; exact q10) q10' (argsL := [(.int (0 : Int32)), (.int p2), (.double y3)]) (rest := []) (lenOf pd_19_7 rfl) rfl (by show 2 * 0 + _ ≤ _; exact Nat.le_of_eq rfl) (hb hby d19_105) (fun _ _ => ⟨rfl, eh9, (by decide : 0 + 0 ≤ _), (by decide : 0 + 0 ≤ _)⟩)
  dsimp only [Pt.U, Pt.locs, Pt.cells, Pt.slots] at X10 l10 y10 z10 st10 hQ10
  subst l10 y10 z10
  obtain ⟨rfl, N10q, Kc10, ⟨D10, Vd10⟩, ⟨S10, Vs10⟩⟩ := hQ10
  have N10 := Fr.app N9 N10q
  have K10 : Keep h0 T10.heap [da, sa] := (Keep.refl h0 [da, sa]).trans Kc10 (allS (Or.inl (List.mem_of_getElem? (i := 0) rfl)) (allS (Or.inl (List.mem_of_getElem? (i := 1) rfl)) all0))
  obtain ⟨fs, hr, hrun, hended, hW, hsame⟩ := X10.leave (v := none) (fun _ => rfl)
  refine ⟨_, _, pre0 _ ?_, hrun, hended, _, _, rfl, ?_, ⟨_, rfl⟩, hW, hsame.mono (by decide) (by decide)⟩
  · show Steps _ _ _ (s₁.setTop (mkF m 0 #[.val (.ref a1), .val (.int p2), .val (.double y3), .second, .val (.int (3 : Int32)), .unset, .unset] [])) _
    refine XS.iconst X0.here hx rfl (hb hby d19_0) ?_
    refine XS.istore X0.here hx rfl (hb hby d19_1) rfl (l' := #[.val (.ref a1), .val (.int p2), .val (.double y3), .second, .val (.int (3 : Int32)), .val (.int (0 : Int32)), .unset]) rfl ?_
    refine XS.iconst X0.here hx rfl (hb hby d19_3) ?_
    refine XS.istore X0.here hx rfl (hb hby d19_4) rfl (l' := #[.val (.ref a1), .val (.int p2), .val (.double y3), .second, .val (.int (3 : Int32)), .val (.int (0 : Int32)), .val (.int (1 : Int32))]) rfl ?_
    refine XS.iload X0.here hx rfl (hb hby d19_6) rfl ?_
    refine XS.iload X0.here hx rfl (hb hby d19_8) rfl ?_
    refine XS.icmpNo X0.here hx rfl (hb hby d19_10) rfl (tlt (by decide : (1 : Int32) < (3 : Int32))).2.1 ?_
    refine XS.iload X0.here hx rfl (hb hby d19_13) rfl ?_
    refine XS.iconst X0.here hx rfl (hb hby d19_15) ?_
    refine XS.iadd X0.here hx rfl (hb hby d19_16) rfl ?_
    refine XS.iload X0.here hx rfl (hb hby d19_17) rfl ?_
    refine XS.icmpNo X0.here hx rfl (hb hby d19_19) rfl (tlt (by decide : ((1 : Int32) + (1 : Int32)) < (3 : Int32))).2.1 ?_
    refine XS.aloadN X0.here hx rfl (hb hby d19_22) rfl rfl ?_
    refine XS.aloadN X0.here hx rfl (hb hby d19_23) rfl rfl ?_
    refine st4 _ ?_
    refine XS.iload X4.here hx rfl (hb hby d19_27) rfl ?_
    refine XS.iconst X4.here hx rfl (hb hby d19_29) ?_
    refine XS.iadd X4.here hx rfl (hb hby d19_30) rfl ?_
    refine X4.iaload hx (j := ((1 : Int32) + (1 : Int32))) (v := (.int (D (((1 : Int32) + (1 : Int32))).toNatClampNeg))) (by rw [e4]; exact Ar_31.1) (State.isArrayOf_alike hZ.alike Ar_31.2.1) Ar_31.2.2 hin31 hat31 (g := (mkF m 31 #[.val (.ref a1), .val (.int p2), .val (.double y3), .second, .val (.int (3 : Int32)), .val (.int (0 : Int32)), .val (.int (1 : Int32))] [(.int ((1 : Int32) + (1 : Int32))), (.ref da), (.ref a1)])) rfl rfl (hb hby d19_31) _ ?_
    refine XS.aloadN X4.here hx rfl (hb hby d19_32) rfl rfl ?_
    refine st5 _ ?_
    refine XS.iload X5.here hx rfl (hb hby d19_36) rfl ?_
    refine XS.iconst X5.here hx rfl (hb hby d19_38) ?_
    refine XS.iadd X5.here hx rfl (hb hby d19_39) rfl ?_
    refine X5.daload hx (j := ((1 : Int32) + (1 : Int32))) (v := (.double (S0 (((1 : Int32) + (1 : Int32))).toNatClampNeg))) (by rw [e5]; exact Ar_40.1) (State.isArrayOf_alike hZ.alike Ar_40.2.1) Ar_40.2.2 hin40 hat40 (g := (mkF m 40 #[.val (.ref a1), .val (.int p2), .val (.double y3), .second, .val (.int (3 : Int32)), .val (.int (0 : Int32)), .val (.int (1 : Int32))] [(.int ((1 : Int32) + (1 : Int32))), (.ref sa), (.int (D (((1 : Int32) + (1 : Int32))).toNatClampNeg)), (.ref a1)])) rfl rfl (hb hby d19_40) _ ?_
    refine XS.iload X5.here hx rfl (hb hby d19_41) rfl ?_
    refine st6.trans ?_
    refine XS.ifYes X6.here hx rfl (pc0 := 46) (pc' := 52) rfl (hb hby d19_46) rfl ((if0 _ _).trans (teq hc46).1) (by decide) (by decide) ?_
    refine XS.aloadN X6.here hx rfl (hb hby d19_52) rfl rfl ?_
    refine st7 _ ?_
    refine XS.iload X7.here hx rfl (hb hby d19_56) rfl ?_
    refine X7.iaload hx (j := (1 : Int32)) (v := (.int (D ((1 : Int32)).toNatClampNeg))) (by rw [e7]; exact Ar_58.1) (State.isArrayOf_alike hZ.alike Ar_58.2.1) Ar_58.2.2 hin58 hat58 (g := (mkF m 58 #[.val (.ref a1), .val (.int p2), .val (.double y3), .second, .val (.int (3 : Int32)), .val (.int (0 : Int32)), .val (.int (1 : Int32))] [(.int (1 : Int32)), (.ref da)])) rfl rfl (hb hby d19_58) _ ?_
    refine XS.aloadN X7.here hx rfl (hb hby d19_59) rfl rfl ?_
    refine st8 _ ?_
    refine XS.iload X8.here hx rfl (hb hby d19_63) rfl ?_
    refine X8.daload hx (j := (1 : Int32)) (v := (.double (S0 ((1 : Int32)).toNatClampNeg))) (by rw [e8]; exact Ar_65.1) (State.isArrayOf_alike hZ.alike Ar_65.2.1) Ar_65.2.2 hin65 hat65 (g := (mkF m 65 #[.val (.ref a1), .val (.int p2), .val (.double y3), .second, .val (.int (3 : Int32)), .val (.int (0 : Int32)), .val (.int (1 : Int32))] [(.int (1 : Int32)), (.ref sa), (.int (D ((1 : Int32)).toNatClampNeg))])) rfl rfl (hb hby d19_65) _ ?_
    refine XS.iloadN X8.here hx rfl (hb hby d19_66) rfl ?_
    refine XS.dloadN X8.here hx rfl (hb hby d19_67) rfl ?_
    refine st9 _ ?_
    refine XS.ifNo X9.here hx rfl (hb hby d19_71) rfl ((if0 _ _).trans (teq hc71).2) ?_
    refine XS.goto X9.here hx rfl (pc0 := 74) (pc' := 100) rfl (hb hby d19_74) (by decide) (by decide) ?_
    refine XS.aloadN X9.here hx rfl (hb hby d19_100) rfl rfl ?_
    refine XS.iload X9.here hx rfl (hb hby d19_101) rfl ?_
    refine XS.iloadN X9.here hx rfl (hb hby d19_103) rfl ?_
    refine XS.dloadN X9.here hx rfl (hb hby d19_104) rfl ?_
    refine st10.trans ?_
    exact X10.returnOut hx Bd.returns (hb hby d19_108) hr
  · show Q19_3_0 Z a1 p2 y3 da sa D S0 h0 n0 _ T10.heap _
    exact ⟨rfl, N10, K10, ⟨_, Vd10⟩, ⟨_, Vs10⟩⟩
theorem ef_19_3_1 (m : MethodId) (x0 : Addr) (x1 : Int32) (x2 : UInt64) : entryFrame m #[(.ref x0), (.int x1), (.double x2), (.int (3 : Int32))] 7 = mkF m 0 #[.val (.ref x0), .val (.int x1), .val (.double x2), .second, .val (.int (3 : Int32)), .unset, .unset] [] := by first | (simp [entryFrame, mkF, argsToLocals, Value.category]; done) | rfl
def Q19_3_1 (Z : State) (a1 : Addr) (p2 : Int32) (y3 : UInt64) (da : Addr) (sa : Addr) (D : Nat → Int32) (S0 : Nat → UInt64) (h0 : Heap) (n0 : Nat) (v : Option Value) (h : Heap) (L : List Loc) : Prop := v = none ∧ Fr n0 L ∧ Keep h0 h [da, sa] ∧ (∃ D', own_AI Z h da (3 : Int32) D') ∧ (∃ S', own_AD Z h sa (3 : Int32) S')
set_option maxRecDepth 65536 in
set_option maxHeartbeats 40000000 in
theorem rm19_3_1 (l : Launch) (Z : State) (a0 : Array Value) (hw : ∀ d ∈ tables_1, d.before a0 Z = true) (ws : List Jvm.Cond) (a1 : Addr) (p2 : Int32) (y3 : UInt64) (da : Addr) (sa : Addr) (D : Nat → Int32) (S0 : Nat → UInt64) (h0 : Heap) (n0 : Nat) (Z0 : n0 ≤ h0.size) (E_a1 : Exa Z h0 a1 sH) (F_d : Fld Z h0 a1 sH "documents" "[I" (.ref da)) (F_s : Fld Z h0 a1 sH "scores" "[D" (.ref sa)) (V_da : own_AI Z h0 da (3 : Int32) D) (V_sa : own_AD Z h0 sa (3 : Int32) S0) (nds : da ≠ sa) (nad : a1 ≠ da) (nas : a1 ≠ sa) (g_da : n0 ≤ da) (g_sa : n0 ≤ sa) (nn_y3 : Jvm.Free.Fl.NoNaN64 y3) (hc46 : (own_rb (D (((1 : Int32) + (1 : Int32))).toNatClampNeg) (S0 (((1 : Int32) + (1 : Int32))).toNatClampNeg) (D ((1 : Int32)).toNatClampNeg) (S0 ((1 : Int32)).toNatClampNeg)) = (0 : Int32)) (hc71 : ¬ ((own_rb (D ((1 : Int32)).toNatClampNeg) (S0 ((1 : Int32)).toNatClampNeg) p2 y3) = (0 : Int32))) :
    MetFree l (⟨sH, "siftDown", "(IDI)V"⟩ : MethodName) (head1 (Jvm.Cond.code (⟨sH, "siftDown", "(IDI)V"⟩ : MethodName) prog_188_method_12_code 7 none :: ws) ({ frames := 5, cells := 0, slots := 0, locals := 130 } : Room)) (fun a U => a = #[(.ref a1), (.int p2), (.double y3), (.int (3 : Int32))] ∧ Z.Warmed39 U.vm ∧ U.heap = h0) (fun _ _ _ _ _ => True) (fun _ U o U' => ∃ v L, o = .returned v ∧ Q19_3_1 Z a1 p2 y3 da sa D S0 h0 n0 v U'.heap L ∧ FrameEnd U o U' L ({ frames := 5, cells := 0, slots := 0, locals := 130 } : Room).cells ({ frames := 5, cells := 0, slots := 0, locals := 130 } : Room).slots) := by
  refine MetFree.of_bodySF (plainFor_of_name pn_19) hisR ?_
  intro p e s m args below meth c s₁ Bd hml0 hP hK
  obtain ⟨rfl, hZ, hh⟩ := hP
  have hx := Bd.exec
  have hby := Bd.bytes
  have hml : c.maxLocals = 7 := hml0
  have hown : s.vm.findClass sH = some m.cls := findClass_of_methodNamed Bd.named
  have hnm := (name_of_methodNamed Bd.named Bd.method).1
  have X0 : Stand p l e ({ frames := 5, cells := 0, slots := 0, locals := 130 } : Room) s m #[(.ref a1), (.int p2), (.double y3), (.int (3 : Int32))] below meth c s₁ [] 0 0 := Stand.of_body Bd
  have e0 : s₁.heap = h0 := by rw [← hh, Bd.state]; rfl
  have N0 := Fr.nil n0
  have pre0 : ∀ t, Steps p.tables e below (s₁.setTop (mkF m 0 #[.val (.ref a1), .val (.int p2), .val (.double y3), .second, .val (.int (3 : Int32)), .unset, .unset] [])) t → Steps p.tables e below (s₁.setTop (entryFrame m #[(.ref a1), (.int p2), (.double y3), (.int (3 : Int32))] 7)) t := fun t k => castTop (ef_19_3_1 m a1 p2 y3) k

  obtain ⟨T4, X4, e4, st4⟩ := getF X0 hx hZ hown (host := "") (Or.inl (ww hw 26 rfl)) Via.refl e0 F_d (g := (mkF m 24 #[.val (.ref a1), .val (.int p2), .val (.double y3), .second, .val (.int (3 : Int32)), .val (.int (0 : Int32)), .val (.int (1 : Int32))] [(.ref a1), (.ref a1)])) rfl rfl (hb hby d19_24)
  obtain ⟨cl_31, Ar_31, S_31, H_31⟩ := id (V_da)
  have hin31 : ¬ (((1 : Int32) + (1 : Int32)) < 0 ∨ cl_31.slots.size ≤ (((1 : Int32) + (1 : Int32))).toNatClampNeg) := inb_of S_31 ⟨by decide, by decide⟩
  have hat31 := H_31 _ (own_inb hin31)
  obtain ⟨T5, X5, e5, st5⟩ := getF X4 hx hZ hown (host := "") (Or.inl (ww hw 29 rfl)) Via.refl e4 F_s (g := (mkF m 33 #[.val (.ref a1), .val (.int p2), .val (.double y3), .second, .val (.int (3 : Int32)), .val (.int (0 : Int32)), .val (.int (1 : Int32))] [(.ref a1), (.int (D (((1 : Int32) + (1 : Int32))).toNatClampNeg)), (.ref a1)])) rfl rfl (hb hby d19_33)
  obtain ⟨cl_40, Ar_40, S_40, H_40⟩ := id (V_sa)
  have hin40 : ¬ (((1 : Int32) + (1 : Int32)) < 0 ∨ cl_40.slots.size ≤ (((1 : Int32) + (1 : Int32))).toNatClampNeg) := inb_of S_40 ⟨by decide, by decide⟩
  obtain ⟨hat40, nn_40⟩ := H_40 _ (own_inb hin40)
  obtain ⟨cq6, q6, q6'⟩ := E_a1.cell
  obtain ⟨_, _, ⟨T6, L6, k6, n6⟩, -, X6, ⟨Lc6, hQ6, l6, y6, z6⟩, st6⟩ := X5.privateBack hx (y := (⟨sH, "ranksBelow", "(IDI)Z"⟩ : MethodName)) hown (mvT hZ (ww hw 85 rfl)) (mvT hZ (ww hw 86 rfl)) (mvT hZ (own_selp (ww hw 77 rfl) rfl (ww hw 87 rfl) (ww hw 86 rfl) (by decide))) (Cond.privateMethod_at (mvP hZ (ww hw 87 rfl) (args := #[]))) (mvT hZ (ww hw 88 rfl)) (by decide) (backOf (W := 0) (rm11 l Z a0 hw [] a1 (D (((1 : Int32) + (1 : Int32))).toNatClampNeg) (S0 (((1 : Int32) + (1 : Int32))).toNatClampNeg) (1 : Int32) da sa _ D S0 h0 n0 Z0 E_a1 F_d F_s V_da V_sa ⟨by decide, by decide⟩ nn_40) hZ (ww hw 88 rfl) (ww hw 20 rfl) (by decide) (by decide)) (g := (mkF m 43 #[.val (.ref a1), .val (.int p2), .val (.double y3), .second, .val (.int (3 : Int32)), .val (.int (0 : Int32)), .val (.int (1 : Int32))] [(.int (1 : Int32)), (.double (S0 (((1 : Int32) + (1 : Int32))).toNatClampNeg)), (.int (D (((1 : Int32) + (1 : Int32))).toNatClampNeg)), (.ref a1)])) rfl (by rw [hml]; rfl) (Steps.refl _) (a := a1) (by rw [e5]; exact q6) q6' (argsL := [(.int (D (((1 : Int32) + (1 : Int32))).toNatClampNeg)), (.double (S0 (((1 : Int32) + (1 : Int32))).toNatClampNeg)), (.int (1 : Int32))]) (rest := []) (lenOf pd_19_8 rfl) rfl (by show 2 * 0 + _ ≤ _; exact Nat.le_of_eq rfl) (hb hby d19_43) (fun _ _ => ⟨rfl, e5, (by decide : 0 + 0 ≤ _), (by decide : 0 + 0 ≤ _)⟩)
  dsimp only [Pt.U, Pt.locs, Pt.cells, Pt.slots] at X6 l6 y6 z6 st6 hQ6
  subst l6 y6 z6
  obtain ⟨rfl, N6q, eh6⟩ := hQ6
  have N6 := Fr.app N0 N6q
  obtain ⟨T7, X7, e7, st7⟩ := getF X6 hx hZ hown (host := "") (Or.inl (ww hw 26 rfl)) Via.refl eh6 F_d (g := (mkF m 53 #[.val (.ref a1), .val (.int p2), .val (.double y3), .second, .val (.int (3 : Int32)), .val (.int (0 : Int32)), .val (.int (1 : Int32))] [(.ref a1)])) rfl rfl (hb hby d19_53)
  obtain ⟨cl_58, Ar_58, S_58, H_58⟩ := id (V_da)
  have hin58 : ¬ ((1 : Int32) < 0 ∨ cl_58.slots.size ≤ ((1 : Int32)).toNatClampNeg) := inb_of S_58 ⟨by decide, by decide⟩
  have hat58 := H_58 _ (own_inb hin58)
  obtain ⟨T8, X8, e8, st8⟩ := getF X7 hx hZ hown (host := "") (Or.inl (ww hw 29 rfl)) Via.refl e7 F_s (g := (mkF m 60 #[.val (.ref a1), .val (.int p2), .val (.double y3), .second, .val (.int (3 : Int32)), .val (.int (0 : Int32)), .val (.int (1 : Int32))] [(.ref a1), (.int (D ((1 : Int32)).toNatClampNeg))])) rfl rfl (hb hby d19_60)
  obtain ⟨cl_65, Ar_65, S_65, H_65⟩ := id (V_sa)
  have hin65 : ¬ ((1 : Int32) < 0 ∨ cl_65.slots.size ≤ ((1 : Int32)).toNatClampNeg) := inb_of S_65 ⟨by decide, by decide⟩
  obtain ⟨hat65, nn_65⟩ := H_65 _ (own_inb hin65)
  obtain ⟨_, _, ⟨T9, L9, k9, n9⟩, -, X9, ⟨Lc9, hQ9, l9, y9, z9⟩, st9⟩ := Jvm.LawKit.callS X8 hx (y := (⟨sH, "ranksBelow", "(IDID)Z"⟩ : MethodName)) hown (mvT hZ (ww hw 89 rfl)) (mvT hZ (ww hw 90 rfl)) (mvT hZ (ww hw 20 rfl)) (mvT hZ (ww hw 91 rfl)) (by decide) (backOf (W := 0) (rm12 l Z a0 hw [] (D ((1 : Int32)).toNatClampNeg) (S0 ((1 : Int32)).toNatClampNeg) p2 y3  h0 n0 Z0 nn_65 nn_y3) hZ (ww hw 91 rfl) (ww hw 20 rfl) (by decide) (by decide)) (g := (mkF m 68 #[.val (.ref a1), .val (.int p2), .val (.double y3), .second, .val (.int (3 : Int32)), .val (.int (0 : Int32)), .val (.int (1 : Int32))] [(.double y3), (.int p2), (.double (S0 ((1 : Int32)).toNatClampNeg)), (.int (D ((1 : Int32)).toNatClampNeg))])) rfl (by rw [hml]; rfl) (argsL := [(.int (D ((1 : Int32)).toNatClampNeg)), (.double (S0 ((1 : Int32)).toNatClampNeg)), (.int p2), (.double y3)]) (rest := []) (lenOf pd_19_9 rfl) rfl (by show 2 * 0 + _ ≤ _; exact Nat.le_of_eq rfl) (hb hby d19_68) (fun _ _ => ⟨rfl, e8, (by decide : 0 + 0 ≤ _), (by decide : 0 + 0 ≤ _)⟩)
  dsimp only [Pt.U, Pt.locs, Pt.cells, Pt.slots] at X9 l9 y9 z9 st9 hQ9
  subst l9 y9 z9
  obtain ⟨rfl, N9q, eh9⟩ := hQ9
  have N9 := Fr.app N6 N9q
  obtain ⟨cq10, q10, q10'⟩ := E_a1.cell
  obtain ⟨_, _, ⟨T10, L10, k10, n10⟩, -, X10, ⟨Lc10, hQ10, l10, y10, z10⟩, st10⟩ := X9.privateBack hx (y := (⟨sH, "move", "(II)V"⟩ : MethodName)) hown (mvT hZ (ww hw 96 rfl)) (mvT hZ (ww hw 97 rfl)) (mvT hZ (own_selp (ww hw 77 rfl) rfl (ww hw 98 rfl) (ww hw 97 rfl) (by decide))) (Cond.privateMethod_at (mvP hZ (ww hw 98 rfl) (args := #[]))) (mvT hZ (ww hw 99 rfl)) (by decide) (backOf (W := 0) (rm14 l Z a0 hw [] a1 (1 : Int32) (0 : Int32) da sa (3 : Int32) _ _ h0 n0 Z0 E_a1 F_d F_s V_da V_sa nds nad nas g_da g_sa ⟨by decide, by decide⟩ ⟨by decide, by decide⟩) hZ (ww hw 99 rfl) (ww hw 20 rfl) (by decide) (by decide)) (g := (mkF m 82 #[.val (.ref a1), .val (.int p2), .val (.double y3), .second, .val (.int (3 : Int32)), .val (.int (0 : Int32)), .val (.int (1 : Int32))] [(.int (0 : Int32)), (.int (1 : Int32)), (.ref a1)])) rfl (by rw [hml]; rfl) (Steps.refl _) (a := a1) (by rw [eh9]; exact q10) q10' (argsL := [(.int (1 : Int32)), (.int (0 : Int32))]) (rest := []) (lenOf pd_19_11 rfl) rfl (by show 2 * 0 + _ ≤ _; exact Nat.le_of_eq rfl) (hb hby d19_82) (fun _ _ => ⟨rfl, eh9, (by decide : 0 + 0 ≤ _), (by decide : 0 + 0 ≤ _)⟩)
  dsimp only [Pt.U, Pt.locs, Pt.cells, Pt.slots] at X10 l10 y10 z10 st10 hQ10
  subst l10 y10 z10
  obtain ⟨rfl, N10q, Kc10, ⟨D10, Vd10⟩, ⟨S10, Vs10⟩⟩ := hQ10
  have N10 := Fr.app N9 N10q
  have K10 : Keep h0 T10.heap [da, sa] := (Keep.refl h0 [da, sa]).trans Kc10 (allS (Or.inl (List.mem_of_getElem? (i := 0) rfl)) (allS (Or.inl (List.mem_of_getElem? (i := 1) rfl)) all0))
  obtain ⟨cq11, q11, q11'⟩ := (E_a1.keep Kc10).cell
  obtain ⟨_, _, ⟨T11, L11, k11, n11⟩, -, X11, ⟨Lc11, hQ11, l11, y11, z11⟩, st11⟩ := X10.privateBack hx (y := (⟨sH, "put", "(IID)V"⟩ : MethodName)) hown (mvT hZ (ww hw 80 rfl)) (mvT hZ (ww hw 81 rfl)) (mvT hZ (own_selp (ww hw 77 rfl) rfl (ww hw 82 rfl) (ww hw 81 rfl) (by decide))) (Cond.privateMethod_at (mvP hZ (ww hw 82 rfl) (args := #[]))) (mvT hZ (ww hw 83 rfl)) (by decide) (backOf (W := 0) (rm10 l Z a0 hw [] a1 (1 : Int32) p2 y3 da sa (3 : Int32) _ _ T10.heap n0 (Nat.le_trans Z0 Kc10.1) (E_a1.keep Kc10) (F_d.keep Kc10 (ninS nad (ninS nas nin0))) (F_s.keep Kc10 (ninS nad (ninS nas nin0))) Vd10 Vs10 nds nad nas g_da g_sa ⟨by decide, by decide⟩ nn_y3) hZ (ww hw 83 rfl) (ww hw 20 rfl) (by decide) (by decide)) (g := (mkF m 105 #[.val (.ref a1), .val (.int p2), .val (.double y3), .second, .val (.int (3 : Int32)), .val (.int (1 : Int32)), .val (.int (((2 : Int32) * (1 : Int32)) + (1 : Int32)))] [(.double y3), (.int p2), (.int (1 : Int32)), (.ref a1)])) rfl (by rw [hml]; rfl) (Steps.refl _) (a := a1) q11 q11' (argsL := [(.int (1 : Int32)), (.int p2), (.double y3)]) (rest := []) (lenOf pd_19_7 rfl) rfl (by show 2 * 0 + _ ≤ _; exact Nat.le_of_eq rfl) (hb hby d19_105) (fun _ _ => ⟨rfl, rfl, (by decide : 0 + 0 ≤ _), (by decide : 0 + 0 ≤ _)⟩)
  dsimp only [Pt.U, Pt.locs, Pt.cells, Pt.slots] at X11 l11 y11 z11 st11 hQ11
  subst l11 y11 z11
  obtain ⟨rfl, N11q, Kc11, ⟨D11, Vd11⟩, ⟨S11, Vs11⟩⟩ := hQ11
  have N11 := Fr.app N10 N11q
  have K11 : Keep h0 T11.heap [da, sa] := K10.trans Kc11 (allS (Or.inl (List.mem_of_getElem? (i := 0) rfl)) (allS (Or.inl (List.mem_of_getElem? (i := 1) rfl)) all0))
  obtain ⟨fs, hr, hrun, hended, hW, hsame⟩ := X11.leave (v := none) (fun _ => rfl)
  refine ⟨_, _, pre0 _ ?_, hrun, hended, _, _, rfl, ?_, ⟨_, rfl⟩, hW, hsame.mono (by decide) (by decide)⟩
  · show Steps _ _ _ (s₁.setTop (mkF m 0 #[.val (.ref a1), .val (.int p2), .val (.double y3), .second, .val (.int (3 : Int32)), .unset, .unset] [])) _
    refine XS.iconst X0.here hx rfl (hb hby d19_0) ?_
    refine XS.istore X0.here hx rfl (hb hby d19_1) rfl (l' := #[.val (.ref a1), .val (.int p2), .val (.double y3), .second, .val (.int (3 : Int32)), .val (.int (0 : Int32)), .unset]) rfl ?_
    refine XS.iconst X0.here hx rfl (hb hby d19_3) ?_
    refine XS.istore X0.here hx rfl (hb hby d19_4) rfl (l' := #[.val (.ref a1), .val (.int p2), .val (.double y3), .second, .val (.int (3 : Int32)), .val (.int (0 : Int32)), .val (.int (1 : Int32))]) rfl ?_
    refine XS.iload X0.here hx rfl (hb hby d19_6) rfl ?_
    refine XS.iload X0.here hx rfl (hb hby d19_8) rfl ?_
    refine XS.icmpNo X0.here hx rfl (hb hby d19_10) rfl (tlt (by decide : (1 : Int32) < (3 : Int32))).2.1 ?_
    refine XS.iload X0.here hx rfl (hb hby d19_13) rfl ?_
    refine XS.iconst X0.here hx rfl (hb hby d19_15) ?_
    refine XS.iadd X0.here hx rfl (hb hby d19_16) rfl ?_
    refine XS.iload X0.here hx rfl (hb hby d19_17) rfl ?_
    refine XS.icmpNo X0.here hx rfl (hb hby d19_19) rfl (tlt (by decide : ((1 : Int32) + (1 : Int32)) < (3 : Int32))).2.1 ?_
    refine XS.aloadN X0.here hx rfl (hb hby d19_22) rfl rfl ?_
    refine XS.aloadN X0.here hx rfl (hb hby d19_23) rfl rfl ?_
    refine st4 _ ?_
    refine XS.iload X4.here hx rfl (hb hby d19_27) rfl ?_
    refine XS.iconst X4.here hx rfl (hb hby d19_29) ?_
    refine XS.iadd X4.here hx rfl (hb hby d19_30) rfl ?_
    refine X4.iaload hx (j := ((1 : Int32) + (1 : Int32))) (v := (.int (D (((1 : Int32) + (1 : Int32))).toNatClampNeg))) (by rw [e4]; exact Ar_31.1) (State.isArrayOf_alike hZ.alike Ar_31.2.1) Ar_31.2.2 hin31 hat31 (g := (mkF m 31 #[.val (.ref a1), .val (.int p2), .val (.double y3), .second, .val (.int (3 : Int32)), .val (.int (0 : Int32)), .val (.int (1 : Int32))] [(.int ((1 : Int32) + (1 : Int32))), (.ref da), (.ref a1)])) rfl rfl (hb hby d19_31) _ ?_
    refine XS.aloadN X4.here hx rfl (hb hby d19_32) rfl rfl ?_
    refine st5 _ ?_
    refine XS.iload X5.here hx rfl (hb hby d19_36) rfl ?_
    refine XS.iconst X5.here hx rfl (hb hby d19_38) ?_
    refine XS.iadd X5.here hx rfl (hb hby d19_39) rfl ?_
    refine X5.daload hx (j := ((1 : Int32) + (1 : Int32))) (v := (.double (S0 (((1 : Int32) + (1 : Int32))).toNatClampNeg))) (by rw [e5]; exact Ar_40.1) (State.isArrayOf_alike hZ.alike Ar_40.2.1) Ar_40.2.2 hin40 hat40 (g := (mkF m 40 #[.val (.ref a1), .val (.int p2), .val (.double y3), .second, .val (.int (3 : Int32)), .val (.int (0 : Int32)), .val (.int (1 : Int32))] [(.int ((1 : Int32) + (1 : Int32))), (.ref sa), (.int (D (((1 : Int32) + (1 : Int32))).toNatClampNeg)), (.ref a1)])) rfl rfl (hb hby d19_40) _ ?_
    refine XS.iload X5.here hx rfl (hb hby d19_41) rfl ?_
    refine st6.trans ?_
    refine XS.ifYes X6.here hx rfl (pc0 := 46) (pc' := 52) rfl (hb hby d19_46) rfl ((if0 _ _).trans (teq hc46).1) (by decide) (by decide) ?_
    refine XS.aloadN X6.here hx rfl (hb hby d19_52) rfl rfl ?_
    refine st7 _ ?_
    refine XS.iload X7.here hx rfl (hb hby d19_56) rfl ?_
    refine X7.iaload hx (j := (1 : Int32)) (v := (.int (D ((1 : Int32)).toNatClampNeg))) (by rw [e7]; exact Ar_58.1) (State.isArrayOf_alike hZ.alike Ar_58.2.1) Ar_58.2.2 hin58 hat58 (g := (mkF m 58 #[.val (.ref a1), .val (.int p2), .val (.double y3), .second, .val (.int (3 : Int32)), .val (.int (0 : Int32)), .val (.int (1 : Int32))] [(.int (1 : Int32)), (.ref da)])) rfl rfl (hb hby d19_58) _ ?_
    refine XS.aloadN X7.here hx rfl (hb hby d19_59) rfl rfl ?_
    refine st8 _ ?_
    refine XS.iload X8.here hx rfl (hb hby d19_63) rfl ?_
    refine X8.daload hx (j := (1 : Int32)) (v := (.double (S0 ((1 : Int32)).toNatClampNeg))) (by rw [e8]; exact Ar_65.1) (State.isArrayOf_alike hZ.alike Ar_65.2.1) Ar_65.2.2 hin65 hat65 (g := (mkF m 65 #[.val (.ref a1), .val (.int p2), .val (.double y3), .second, .val (.int (3 : Int32)), .val (.int (0 : Int32)), .val (.int (1 : Int32))] [(.int (1 : Int32)), (.ref sa), (.int (D ((1 : Int32)).toNatClampNeg))])) rfl rfl (hb hby d19_65) _ ?_
    refine XS.iloadN X8.here hx rfl (hb hby d19_66) rfl ?_
    refine XS.dloadN X8.here hx rfl (hb hby d19_67) rfl ?_
    refine st9 _ ?_
    refine XS.ifYes X9.here hx rfl (pc0 := 71) (pc' := 77) rfl (hb hby d19_71) rfl ((if0 _ _).trans (feq hc71).2) (by decide) (by decide) ?_
    refine XS.aloadN X9.here hx rfl (hb hby d19_77) rfl rfl ?_
    refine XS.iload X9.here hx rfl (hb hby d19_78) rfl ?_
    refine XS.iload X9.here hx rfl (hb hby d19_80) rfl ?_
    refine st10.trans ?_
    refine XS.iload X10.here hx rfl (hb hby d19_85) rfl ?_
    refine XS.istore X10.here hx rfl (hb hby d19_87) rfl (l' := #[.val (.ref a1), .val (.int p2), .val (.double y3), .second, .val (.int (3 : Int32)), .val (.int (1 : Int32)), .val (.int (1 : Int32))]) rfl ?_
    refine XS.iconst X10.here hx rfl (hb hby d19_89) ?_
    refine XS.iload X10.here hx rfl (hb hby d19_90) rfl ?_
    refine XS.imul X10.here hx rfl (hb hby d19_92) rfl ?_
    refine XS.iconst X10.here hx rfl (hb hby d19_93) ?_
    refine XS.iadd X10.here hx rfl (hb hby d19_94) rfl ?_
    refine XS.istore X10.here hx rfl (hb hby d19_95) rfl (l' := #[.val (.ref a1), .val (.int p2), .val (.double y3), .second, .val (.int (3 : Int32)), .val (.int (1 : Int32)), .val (.int (((2 : Int32) * (1 : Int32)) + (1 : Int32)))]) rfl ?_
    refine XS.goto X10.here hx rfl (pc0 := 97) (pc' := 6) rfl (hb hby d19_97) (by decide) (by decide) ?_
    refine XS.iload X10.here hx rfl (hb hby d19_6) rfl ?_
    refine XS.iload X10.here hx rfl (hb hby d19_8) rfl ?_
    refine XS.icmpYes X10.here hx rfl (pc0 := 10) (pc' := 100) rfl (hb hby d19_10) rfl (flt (by decide : ¬ ((((2 : Int32) * (1 : Int32)) + (1 : Int32)) < (3 : Int32)))).2.1 (by decide) (by decide) ?_
    refine XS.aloadN X10.here hx rfl (hb hby d19_100) rfl rfl ?_
    refine XS.iload X10.here hx rfl (hb hby d19_101) rfl ?_
    refine XS.iloadN X10.here hx rfl (hb hby d19_103) rfl ?_
    refine XS.dloadN X10.here hx rfl (hb hby d19_104) rfl ?_
    refine st11.trans ?_
    exact X11.returnOut hx Bd.returns (hb hby d19_108) hr
  · show Q19_3_1 Z a1 p2 y3 da sa D S0 h0 n0 _ T11.heap _
    exact ⟨rfl, N11, K11, ⟨_, Vd11⟩, ⟨_, Vs11⟩⟩
theorem d19_49 : decode prog_188_method_12_code 49 = .ok (.iinc 6 1, 3) := by decide +kernel
theorem ef_19_3_2 (m : MethodId) (x0 : Addr) (x1 : Int32) (x2 : UInt64) : entryFrame m #[(.ref x0), (.int x1), (.double x2), (.int (3 : Int32))] 7 = mkF m 0 #[.val (.ref x0), .val (.int x1), .val (.double x2), .second, .val (.int (3 : Int32)), .unset, .unset] [] := by first | (simp [entryFrame, mkF, argsToLocals, Value.category]; done) | rfl
def Q19_3_2 (Z : State) (a1 : Addr) (p2 : Int32) (y3 : UInt64) (da : Addr) (sa : Addr) (D : Nat → Int32) (S0 : Nat → UInt64) (h0 : Heap) (n0 : Nat) (v : Option Value) (h : Heap) (L : List Loc) : Prop := v = none ∧ Fr n0 L ∧ Keep h0 h [da, sa] ∧ (∃ D', own_AI Z h da (3 : Int32) D') ∧ (∃ S', own_AD Z h sa (3 : Int32) S')
set_option maxRecDepth 65536 in
set_option maxHeartbeats 40000000 in
theorem rm19_3_2 (l : Launch) (Z : State) (a0 : Array Value) (hw : ∀ d ∈ tables_1, d.before a0 Z = true) (ws : List Jvm.Cond) (a1 : Addr) (p2 : Int32) (y3 : UInt64) (da : Addr) (sa : Addr) (D : Nat → Int32) (S0 : Nat → UInt64) (h0 : Heap) (n0 : Nat) (Z0 : n0 ≤ h0.size) (E_a1 : Exa Z h0 a1 sH) (F_d : Fld Z h0 a1 sH "documents" "[I" (.ref da)) (F_s : Fld Z h0 a1 sH "scores" "[D" (.ref sa)) (V_da : own_AI Z h0 da (3 : Int32) D) (V_sa : own_AD Z h0 sa (3 : Int32) S0) (nds : da ≠ sa) (nad : a1 ≠ da) (nas : a1 ≠ sa) (g_da : n0 ≤ da) (g_sa : n0 ≤ sa) (nn_y3 : Jvm.Free.Fl.NoNaN64 y3) (hc46 : ¬ ((own_rb (D (((1 : Int32) + (1 : Int32))).toNatClampNeg) (S0 (((1 : Int32) + (1 : Int32))).toNatClampNeg) (D ((1 : Int32)).toNatClampNeg) (S0 ((1 : Int32)).toNatClampNeg)) = (0 : Int32))) (hc71 : (own_rb (D (((1 : Int32) + (1 : Int32))).toNatClampNeg) (S0 (((1 : Int32) + (1 : Int32))).toNatClampNeg) p2 y3) = (0 : Int32)) :
    MetFree l (⟨sH, "siftDown", "(IDI)V"⟩ : MethodName) (head1 (Jvm.Cond.code (⟨sH, "siftDown", "(IDI)V"⟩ : MethodName) prog_188_method_12_code 7 none :: ws) ({ frames := 5, cells := 0, slots := 0, locals := 130 } : Room)) (fun a U => a = #[(.ref a1), (.int p2), (.double y3), (.int (3 : Int32))] ∧ Z.Warmed39 U.vm ∧ U.heap = h0) (fun _ _ _ _ _ => True) (fun _ U o U' => ∃ v L, o = .returned v ∧ Q19_3_2 Z a1 p2 y3 da sa D S0 h0 n0 v U'.heap L ∧ FrameEnd U o U' L ({ frames := 5, cells := 0, slots := 0, locals := 130 } : Room).cells ({ frames := 5, cells := 0, slots := 0, locals := 130 } : Room).slots) := by
  refine MetFree.of_bodySF (plainFor_of_name pn_19) hisR ?_
  intro p e s m args below meth c s₁ Bd hml0 hP hK
  obtain ⟨rfl, hZ, hh⟩ := hP
  have hx := Bd.exec
  have hby := Bd.bytes
  have hml : c.maxLocals = 7 := hml0
  have hown : s.vm.findClass sH = some m.cls := findClass_of_methodNamed Bd.named
  have hnm := (name_of_methodNamed Bd.named Bd.method).1
  have X0 : Stand p l e ({ frames := 5, cells := 0, slots := 0, locals := 130 } : Room) s m #[(.ref a1), (.int p2), (.double y3), (.int (3 : Int32))] below meth c s₁ [] 0 0 := Stand.of_body Bd
  have e0 : s₁.heap = h0 := by rw [← hh, Bd.state]; rfl
  have N0 := Fr.nil n0
  have pre0 : ∀ t, Steps p.tables e below (s₁.setTop (mkF m 0 #[.val (.ref a1), .val (.int p2), .val (.double y3), .second, .val (.int (3 : Int32)), .unset, .unset] [])) t → Steps p.tables e below (s₁.setTop (entryFrame m #[(.ref a1), (.int p2), (.double y3), (.int (3 : Int32))] 7)) t := fun t k => castTop (ef_19_3_2 m a1 p2 y3) k

  obtain ⟨T4, X4, e4, st4⟩ := getF X0 hx hZ hown (host := "") (Or.inl (ww hw 26 rfl)) Via.refl e0 F_d (g := (mkF m 24 #[.val (.ref a1), .val (.int p2), .val (.double y3), .second, .val (.int (3 : Int32)), .val (.int (0 : Int32)), .val (.int (1 : Int32))] [(.ref a1), (.ref a1)])) rfl rfl (hb hby d19_24)
  obtain ⟨cl_31, Ar_31, S_31, H_31⟩ := id (V_da)
  have hin31 : ¬ (((1 : Int32) + (1 : Int32)) < 0 ∨ cl_31.slots.size ≤ (((1 : Int32) + (1 : Int32))).toNatClampNeg) := inb_of S_31 ⟨by decide, by decide⟩
  have hat31 := H_31 _ (own_inb hin31)
  obtain ⟨T5, X5, e5, st5⟩ := getF X4 hx hZ hown (host := "") (Or.inl (ww hw 29 rfl)) Via.refl e4 F_s (g := (mkF m 33 #[.val (.ref a1), .val (.int p2), .val (.double y3), .second, .val (.int (3 : Int32)), .val (.int (0 : Int32)), .val (.int (1 : Int32))] [(.ref a1), (.int (D (((1 : Int32) + (1 : Int32))).toNatClampNeg)), (.ref a1)])) rfl rfl (hb hby d19_33)
  obtain ⟨cl_40, Ar_40, S_40, H_40⟩ := id (V_sa)
  have hin40 : ¬ (((1 : Int32) + (1 : Int32)) < 0 ∨ cl_40.slots.size ≤ (((1 : Int32) + (1 : Int32))).toNatClampNeg) := inb_of S_40 ⟨by decide, by decide⟩
  obtain ⟨hat40, nn_40⟩ := H_40 _ (own_inb hin40)
  obtain ⟨cq6, q6, q6'⟩ := E_a1.cell
  obtain ⟨_, _, ⟨T6, L6, k6, n6⟩, -, X6, ⟨Lc6, hQ6, l6, y6, z6⟩, st6⟩ := X5.privateBack hx (y := (⟨sH, "ranksBelow", "(IDI)Z"⟩ : MethodName)) hown (mvT hZ (ww hw 85 rfl)) (mvT hZ (ww hw 86 rfl)) (mvT hZ (own_selp (ww hw 77 rfl) rfl (ww hw 87 rfl) (ww hw 86 rfl) (by decide))) (Cond.privateMethod_at (mvP hZ (ww hw 87 rfl) (args := #[]))) (mvT hZ (ww hw 88 rfl)) (by decide) (backOf (W := 0) (rm11 l Z a0 hw [] a1 (D (((1 : Int32) + (1 : Int32))).toNatClampNeg) (S0 (((1 : Int32) + (1 : Int32))).toNatClampNeg) (1 : Int32) da sa _ D S0 h0 n0 Z0 E_a1 F_d F_s V_da V_sa ⟨by decide, by decide⟩ nn_40) hZ (ww hw 88 rfl) (ww hw 20 rfl) (by decide) (by decide)) (g := (mkF m 43 #[.val (.ref a1), .val (.int p2), .val (.double y3), .second, .val (.int (3 : Int32)), .val (.int (0 : Int32)), .val (.int (1 : Int32))] [(.int (1 : Int32)), (.double (S0 (((1 : Int32) + (1 : Int32))).toNatClampNeg)), (.int (D (((1 : Int32) + (1 : Int32))).toNatClampNeg)), (.ref a1)])) rfl (by rw [hml]; rfl) (Steps.refl _) (a := a1) (by rw [e5]; exact q6) q6' (argsL := [(.int (D (((1 : Int32) + (1 : Int32))).toNatClampNeg)), (.double (S0 (((1 : Int32) + (1 : Int32))).toNatClampNeg)), (.int (1 : Int32))]) (rest := []) (lenOf pd_19_8 rfl) rfl (by show 2 * 0 + _ ≤ _; exact Nat.le_of_eq rfl) (hb hby d19_43) (fun _ _ => ⟨rfl, e5, (by decide : 0 + 0 ≤ _), (by decide : 0 + 0 ≤ _)⟩)
  dsimp only [Pt.U, Pt.locs, Pt.cells, Pt.slots] at X6 l6 y6 z6 st6 hQ6
  subst l6 y6 z6
  obtain ⟨rfl, N6q, eh6⟩ := hQ6
  have N6 := Fr.app N0 N6q
  obtain ⟨T7, X7, e7, st7⟩ := getF X6 hx hZ hown (host := "") (Or.inl (ww hw 26 rfl)) Via.refl eh6 F_d (g := (mkF m 53 #[.val (.ref a1), .val (.int p2), .val (.double y3), .second, .val (.int (3 : Int32)), .val (.int (0 : Int32)), .val (.int ((1 : Int32) + (1 : Int32)))] [(.ref a1)])) rfl rfl (hb hby d19_53)
  obtain ⟨cl_58, Ar_58, S_58, H_58⟩ := id (V_da)
  have hin58 : ¬ (((1 : Int32) + (1 : Int32)) < 0 ∨ cl_58.slots.size ≤ (((1 : Int32) + (1 : Int32))).toNatClampNeg) := inb_of S_58 ⟨by decide, by decide⟩
  have hat58 := H_58 _ (own_inb hin58)
  obtain ⟨T8, X8, e8, st8⟩ := getF X7 hx hZ hown (host := "") (Or.inl (ww hw 29 rfl)) Via.refl e7 F_s (g := (mkF m 60 #[.val (.ref a1), .val (.int p2), .val (.double y3), .second, .val (.int (3 : Int32)), .val (.int (0 : Int32)), .val (.int ((1 : Int32) + (1 : Int32)))] [(.ref a1), (.int (D (((1 : Int32) + (1 : Int32))).toNatClampNeg))])) rfl rfl (hb hby d19_60)
  obtain ⟨cl_65, Ar_65, S_65, H_65⟩ := id (V_sa)
  have hin65 : ¬ (((1 : Int32) + (1 : Int32)) < 0 ∨ cl_65.slots.size ≤ (((1 : Int32) + (1 : Int32))).toNatClampNeg) := inb_of S_65 ⟨by decide, by decide⟩
  obtain ⟨hat65, nn_65⟩ := H_65 _ (own_inb hin65)
  obtain ⟨_, _, ⟨T9, L9, k9, n9⟩, -, X9, ⟨Lc9, hQ9, l9, y9, z9⟩, st9⟩ := Jvm.LawKit.callS X8 hx (y := (⟨sH, "ranksBelow", "(IDID)Z"⟩ : MethodName)) hown (mvT hZ (ww hw 89 rfl)) (mvT hZ (ww hw 90 rfl)) (mvT hZ (ww hw 20 rfl)) (mvT hZ (ww hw 91 rfl)) (by decide) (backOf (W := 0) (rm12 l Z a0 hw [] (D (((1 : Int32) + (1 : Int32))).toNatClampNeg) (S0 (((1 : Int32) + (1 : Int32))).toNatClampNeg) p2 y3  h0 n0 Z0 nn_65 nn_y3) hZ (ww hw 91 rfl) (ww hw 20 rfl) (by decide) (by decide)) (g := (mkF m 68 #[.val (.ref a1), .val (.int p2), .val (.double y3), .second, .val (.int (3 : Int32)), .val (.int (0 : Int32)), .val (.int ((1 : Int32) + (1 : Int32)))] [(.double y3), (.int p2), (.double (S0 (((1 : Int32) + (1 : Int32))).toNatClampNeg)), (.int (D (((1 : Int32) + (1 : Int32))).toNatClampNeg))])) rfl (by rw [hml]; rfl) (argsL := [(.int (D (((1 : Int32) + (1 : Int32))).toNatClampNeg)), (.double (S0 (((1 : Int32) + (1 : Int32))).toNatClampNeg)), (.int p2), (.double y3)]) (rest := []) (lenOf pd_19_9 rfl) rfl (by show 2 * 0 + _ ≤ _; exact Nat.le_of_eq rfl) (hb hby d19_68) (fun _ _ => ⟨rfl, e8, (by decide : 0 + 0 ≤ _), (by decide : 0 + 0 ≤ _)⟩)
  dsimp only [Pt.U, Pt.locs, Pt.cells, Pt.slots] at X9 l9 y9 z9 st9 hQ9
  subst l9 y9 z9
  obtain ⟨rfl, N9q, eh9⟩ := hQ9
  have N9 := Fr.app N6 N9q
  obtain ⟨cq10, q10, q10'⟩ := E_a1.cell
  obtain ⟨_, _, ⟨T10, L10, k10, n10⟩, -, X10, ⟨Lc10, hQ10, l10, y10, z10⟩, st10⟩ := X9.privateBack hx (y := (⟨sH, "put", "(IID)V"⟩ : MethodName)) hown (mvT hZ (ww hw 80 rfl)) (mvT hZ (ww hw 81 rfl)) (mvT hZ (own_selp (ww hw 77 rfl) rfl (ww hw 82 rfl) (ww hw 81 rfl) (by decide))) (Cond.privateMethod_at (mvP hZ (ww hw 82 rfl) (args := #[]))) (mvT hZ (ww hw 83 rfl)) (by decide) (backOf (W := 0) (rm10 l Z a0 hw [] a1 (0 : Int32) p2 y3 da sa (3 : Int32) _ _ h0 n0 Z0 E_a1 F_d F_s V_da V_sa nds nad nas g_da g_sa ⟨by decide, by decide⟩ nn_y3) hZ (ww hw 83 rfl) (ww hw 20 rfl) (by decide) (by decide)) (g := (mkF m 105 #[.val (.ref a1), .val (.int p2), .val (.double y3), .second, .val (.int (3 : Int32)), .val (.int (0 : Int32)), .val (.int ((1 : Int32) + (1 : Int32)))] [(.double y3), (.int p2), (.int (0 : Int32)), (.ref a1)])) rfl (by rw [hml]; rfl) (Steps.refl _) (a := a1) (by rw [eh9]; exact q10) q10' (argsL := [(.int (0 : Int32)), (.int p2), (.double y3)]) (rest := []) (lenOf pd_19_7 rfl) rfl (by show 2 * 0 + _ ≤ _; exact Nat.le_of_eq rfl) (hb hby d19_105) (fun _ _ => ⟨rfl, eh9, (by decide : 0 + 0 ≤ _), (by decide : 0 + 0 ≤ _)⟩)
  dsimp only [Pt.U, Pt.locs, Pt.cells, Pt.slots] at X10 l10 y10 z10 st10 hQ10
  subst l10 y10 z10
  obtain ⟨rfl, N10q, Kc10, ⟨D10, Vd10⟩, ⟨S10, Vs10⟩⟩ := hQ10
  have N10 := Fr.app N9 N10q
  have K10 : Keep h0 T10.heap [da, sa] := (Keep.refl h0 [da, sa]).trans Kc10 (allS (Or.inl (List.mem_of_getElem? (i := 0) rfl)) (allS (Or.inl (List.mem_of_getElem? (i := 1) rfl)) all0))
  obtain ⟨fs, hr, hrun, hended, hW, hsame⟩ := X10.leave (v := none) (fun _ => rfl)
  refine ⟨_, _, pre0 _ ?_, hrun, hended, _, _, rfl, ?_, ⟨_, rfl⟩, hW, hsame.mono (by decide) (by decide)⟩
  · show Steps _ _ _ (s₁.setTop (mkF m 0 #[.val (.ref a1), .val (.int p2), .val (.double y3), .second, .val (.int (3 : Int32)), .unset, .unset] [])) _
    refine XS.iconst X0.here hx rfl (hb hby d19_0) ?_
    refine XS.istore X0.here hx rfl (hb hby d19_1) rfl (l' := #[.val (.ref a1), .val (.int p2), .val (.double y3), .second, .val (.int (3 : Int32)), .val (.int (0 : Int32)), .unset]) rfl ?_
    refine XS.iconst X0.here hx rfl (hb hby d19_3) ?_
    refine XS.istore X0.here hx rfl (hb hby d19_4) rfl (l' := #[.val (.ref a1), .val (.int p2), .val (.double y3), .second, .val (.int (3 : Int32)), .val (.int (0 : Int32)), .val (.int (1 : Int32))]) rfl ?_
    refine XS.iload X0.here hx rfl (hb hby d19_6) rfl ?_
    refine XS.iload X0.here hx rfl (hb hby d19_8) rfl ?_
    refine XS.icmpNo X0.here hx rfl (hb hby d19_10) rfl (tlt (by decide : (1 : Int32) < (3 : Int32))).2.1 ?_
    refine XS.iload X0.here hx rfl (hb hby d19_13) rfl ?_
    refine XS.iconst X0.here hx rfl (hb hby d19_15) ?_
    refine XS.iadd X0.here hx rfl (hb hby d19_16) rfl ?_
    refine XS.iload X0.here hx rfl (hb hby d19_17) rfl ?_
    refine XS.icmpNo X0.here hx rfl (hb hby d19_19) rfl (tlt (by decide : ((1 : Int32) + (1 : Int32)) < (3 : Int32))).2.1 ?_
    refine XS.aloadN X0.here hx rfl (hb hby d19_22) rfl rfl ?_
    refine XS.aloadN X0.here hx rfl (hb hby d19_23) rfl rfl ?_
    refine st4 _ ?_
    refine XS.iload X4.here hx rfl (hb hby d19_27) rfl ?_
    refine XS.iconst X4.here hx rfl (hb hby d19_29) ?_
    refine XS.iadd X4.here hx rfl (hb hby d19_30) rfl ?_
    refine X4.iaload hx (j := ((1 : Int32) + (1 : Int32))) (v := (.int (D (((1 : Int32) + (1 : Int32))).toNatClampNeg))) (by rw [e4]; exact Ar_31.1) (State.isArrayOf_alike hZ.alike Ar_31.2.1) Ar_31.2.2 hin31 hat31 (g := (mkF m 31 #[.val (.ref a1), .val (.int p2), .val (.double y3), .second, .val (.int (3 : Int32)), .val (.int (0 : Int32)), .val (.int (1 : Int32))] [(.int ((1 : Int32) + (1 : Int32))), (.ref da), (.ref a1)])) rfl rfl (hb hby d19_31) _ ?_
    refine XS.aloadN X4.here hx rfl (hb hby d19_32) rfl rfl ?_
    refine st5 _ ?_
    refine XS.iload X5.here hx rfl (hb hby d19_36) rfl ?_
    refine XS.iconst X5.here hx rfl (hb hby d19_38) ?_
    refine XS.iadd X5.here hx rfl (hb hby d19_39) rfl ?_
    refine X5.daload hx (j := ((1 : Int32) + (1 : Int32))) (v := (.double (S0 (((1 : Int32) + (1 : Int32))).toNatClampNeg))) (by rw [e5]; exact Ar_40.1) (State.isArrayOf_alike hZ.alike Ar_40.2.1) Ar_40.2.2 hin40 hat40 (g := (mkF m 40 #[.val (.ref a1), .val (.int p2), .val (.double y3), .second, .val (.int (3 : Int32)), .val (.int (0 : Int32)), .val (.int (1 : Int32))] [(.int ((1 : Int32) + (1 : Int32))), (.ref sa), (.int (D (((1 : Int32) + (1 : Int32))).toNatClampNeg)), (.ref a1)])) rfl rfl (hb hby d19_40) _ ?_
    refine XS.iload X5.here hx rfl (hb hby d19_41) rfl ?_
    refine st6.trans ?_
    refine XS.ifNo X6.here hx rfl (hb hby d19_46) rfl ((if0 _ _).trans (feq hc46).1) ?_
    refine XS.iinc X6.here hx rfl (hb hby d19_49) rfl (l' := #[.val (.ref a1), .val (.int p2), .val (.double y3), .second, .val (.int (3 : Int32)), .val (.int (0 : Int32)), .val (.int ((1 : Int32) + (1 : Int32)))]) rfl ?_
    refine XS.aloadN X6.here hx rfl (hb hby d19_52) rfl rfl ?_
    refine st7 _ ?_
    refine XS.iload X7.here hx rfl (hb hby d19_56) rfl ?_
    refine X7.iaload hx (j := ((1 : Int32) + (1 : Int32))) (v := (.int (D (((1 : Int32) + (1 : Int32))).toNatClampNeg))) (by rw [e7]; exact Ar_58.1) (State.isArrayOf_alike hZ.alike Ar_58.2.1) Ar_58.2.2 hin58 hat58 (g := (mkF m 58 #[.val (.ref a1), .val (.int p2), .val (.double y3), .second, .val (.int (3 : Int32)), .val (.int (0 : Int32)), .val (.int ((1 : Int32) + (1 : Int32)))] [(.int ((1 : Int32) + (1 : Int32))), (.ref da)])) rfl rfl (hb hby d19_58) _ ?_
    refine XS.aloadN X7.here hx rfl (hb hby d19_59) rfl rfl ?_
    refine st8 _ ?_
    refine XS.iload X8.here hx rfl (hb hby d19_63) rfl ?_
    refine X8.daload hx (j := ((1 : Int32) + (1 : Int32))) (v := (.double (S0 (((1 : Int32) + (1 : Int32))).toNatClampNeg))) (by rw [e8]; exact Ar_65.1) (State.isArrayOf_alike hZ.alike Ar_65.2.1) Ar_65.2.2 hin65 hat65 (g := (mkF m 65 #[.val (.ref a1), .val (.int p2), .val (.double y3), .second, .val (.int (3 : Int32)), .val (.int (0 : Int32)), .val (.int ((1 : Int32) + (1 : Int32)))] [(.int ((1 : Int32) + (1 : Int32))), (.ref sa), (.int (D (((1 : Int32) + (1 : Int32))).toNatClampNeg))])) rfl rfl (hb hby d19_65) _ ?_
    refine XS.iloadN X8.here hx rfl (hb hby d19_66) rfl ?_
    refine XS.dloadN X8.here hx rfl (hb hby d19_67) rfl ?_
    refine st9 _ ?_
    refine XS.ifNo X9.here hx rfl (hb hby d19_71) rfl ((if0 _ _).trans (teq hc71).2) ?_
    refine XS.goto X9.here hx rfl (pc0 := 74) (pc' := 100) rfl (hb hby d19_74) (by decide) (by decide) ?_
    refine XS.aloadN X9.here hx rfl (hb hby d19_100) rfl rfl ?_
    refine XS.iload X9.here hx rfl (hb hby d19_101) rfl ?_
    refine XS.iloadN X9.here hx rfl (hb hby d19_103) rfl ?_
    refine XS.dloadN X9.here hx rfl (hb hby d19_104) rfl ?_
    refine st10.trans ?_
    exact X10.returnOut hx Bd.returns (hb hby d19_108) hr
  · show Q19_3_2 Z a1 p2 y3 da sa D S0 h0 n0 _ T10.heap _
    exact ⟨rfl, N10, K10, ⟨_, Vd10⟩, ⟨_, Vs10⟩⟩
theorem ef_19_3_3 (m : MethodId) (x0 : Addr) (x1 : Int32) (x2 : UInt64) : entryFrame m #[(.ref x0), (.int x1), (.double x2), (.int (3 : Int32))] 7 = mkF m 0 #[.val (.ref x0), .val (.int x1), .val (.double x2), .second, .val (.int (3 : Int32)), .unset, .unset] [] := by first | (simp [entryFrame, mkF, argsToLocals, Value.category]; done) | rfl
def Q19_3_3 (Z : State) (a1 : Addr) (p2 : Int32) (y3 : UInt64) (da : Addr) (sa : Addr) (D : Nat → Int32) (S0 : Nat → UInt64) (h0 : Heap) (n0 : Nat) (v : Option Value) (h : Heap) (L : List Loc) : Prop := v = none ∧ Fr n0 L ∧ Keep h0 h [da, sa] ∧ (∃ D', own_AI Z h da (3 : Int32) D') ∧ (∃ S', own_AD Z h sa (3 : Int32) S')
set_option maxRecDepth 65536 in
set_option maxHeartbeats 40000000 in
theorem rm19_3_3 (l : Launch) (Z : State) (a0 : Array Value) (hw : ∀ d ∈ tables_1, d.before a0 Z = true) (ws : List Jvm.Cond) (a1 : Addr) (p2 : Int32) (y3 : UInt64) (da : Addr) (sa : Addr) (D : Nat → Int32) (S0 : Nat → UInt64) (h0 : Heap) (n0 : Nat) (Z0 : n0 ≤ h0.size) (E_a1 : Exa Z h0 a1 sH) (F_d : Fld Z h0 a1 sH "documents" "[I" (.ref da)) (F_s : Fld Z h0 a1 sH "scores" "[D" (.ref sa)) (V_da : own_AI Z h0 da (3 : Int32) D) (V_sa : own_AD Z h0 sa (3 : Int32) S0) (nds : da ≠ sa) (nad : a1 ≠ da) (nas : a1 ≠ sa) (g_da : n0 ≤ da) (g_sa : n0 ≤ sa) (nn_y3 : Jvm.Free.Fl.NoNaN64 y3) (hc46 : ¬ ((own_rb (D (((1 : Int32) + (1 : Int32))).toNatClampNeg) (S0 (((1 : Int32) + (1 : Int32))).toNatClampNeg) (D ((1 : Int32)).toNatClampNeg) (S0 ((1 : Int32)).toNatClampNeg)) = (0 : Int32))) (hc71 : ¬ ((own_rb (D (((1 : Int32) + (1 : Int32))).toNatClampNeg) (S0 (((1 : Int32) + (1 : Int32))).toNatClampNeg) p2 y3) = (0 : Int32))) :
    MetFree l (⟨sH, "siftDown", "(IDI)V"⟩ : MethodName) (head1 (Jvm.Cond.code (⟨sH, "siftDown", "(IDI)V"⟩ : MethodName) prog_188_method_12_code 7 none :: ws) ({ frames := 5, cells := 0, slots := 0, locals := 130 } : Room)) (fun a U => a = #[(.ref a1), (.int p2), (.double y3), (.int (3 : Int32))] ∧ Z.Warmed39 U.vm ∧ U.heap = h0) (fun _ _ _ _ _ => True) (fun _ U o U' => ∃ v L, o = .returned v ∧ Q19_3_3 Z a1 p2 y3 da sa D S0 h0 n0 v U'.heap L ∧ FrameEnd U o U' L ({ frames := 5, cells := 0, slots := 0, locals := 130 } : Room).cells ({ frames := 5, cells := 0, slots := 0, locals := 130 } : Room).slots) := by
  refine MetFree.of_bodySF (plainFor_of_name pn_19) hisR ?_
  intro p e s m args below meth c s₁ Bd hml0 hP hK
  obtain ⟨rfl, hZ, hh⟩ := hP
  have hx := Bd.exec
  have hby := Bd.bytes
  have hml : c.maxLocals = 7 := hml0
  have hown : s.vm.findClass sH = some m.cls := findClass_of_methodNamed Bd.named
  have hnm := (name_of_methodNamed Bd.named Bd.method).1
  have X0 : Stand p l e ({ frames := 5, cells := 0, slots := 0, locals := 130 } : Room) s m #[(.ref a1), (.int p2), (.double y3), (.int (3 : Int32))] below meth c s₁ [] 0 0 := Stand.of_body Bd
  have e0 : s₁.heap = h0 := by rw [← hh, Bd.state]; rfl
  have N0 := Fr.nil n0
  have pre0 : ∀ t, Steps p.tables e below (s₁.setTop (mkF m 0 #[.val (.ref a1), .val (.int p2), .val (.double y3), .second, .val (.int (3 : Int32)), .unset, .unset] [])) t → Steps p.tables e below (s₁.setTop (entryFrame m #[(.ref a1), (.int p2), (.double y3), (.int (3 : Int32))] 7)) t := fun t k => castTop (ef_19_3_3 m a1 p2 y3) k

  obtain ⟨T4, X4, e4, st4⟩ := getF X0 hx hZ hown (host := "") (Or.inl (ww hw 26 rfl)) Via.refl e0 F_d (g := (mkF m 24 #[.val (.ref a1), .val (.int p2), .val (.double y3), .second, .val (.int (3 : Int32)), .val (.int (0 : Int32)), .val (.int (1 : Int32))] [(.ref a1), (.ref a1)])) rfl rfl (hb hby d19_24)
  obtain ⟨cl_31, Ar_31, S_31, H_31⟩ := id (V_da)
  have hin31 : ¬ (((1 : Int32) + (1 : Int32)) < 0 ∨ cl_31.slots.size ≤ (((1 : Int32) + (1 : Int32))).toNatClampNeg) := inb_of S_31 ⟨by decide, by decide⟩
  have hat31 := H_31 _ (own_inb hin31)
  obtain ⟨T5, X5, e5, st5⟩ := getF X4 hx hZ hown (host := "") (Or.inl (ww hw 29 rfl)) Via.refl e4 F_s (g := (mkF m 33 #[.val (.ref a1), .val (.int p2), .val (.double y3), .second, .val (.int (3 : Int32)), .val (.int (0 : Int32)), .val (.int (1 : Int32))] [(.ref a1), (.int (D (((1 : Int32) + (1 : Int32))).toNatClampNeg)), (.ref a1)])) rfl rfl (hb hby d19_33)
  obtain ⟨cl_40, Ar_40, S_40, H_40⟩ := id (V_sa)
  have hin40 : ¬ (((1 : Int32) + (1 : Int32)) < 0 ∨ cl_40.slots.size ≤ (((1 : Int32) + (1 : Int32))).toNatClampNeg) := inb_of S_40 ⟨by decide, by decide⟩
  obtain ⟨hat40, nn_40⟩ := H_40 _ (own_inb hin40)
  obtain ⟨cq6, q6, q6'⟩ := E_a1.cell
  obtain ⟨_, _, ⟨T6, L6, k6, n6⟩, -, X6, ⟨Lc6, hQ6, l6, y6, z6⟩, st6⟩ := X5.privateBack hx (y := (⟨sH, "ranksBelow", "(IDI)Z"⟩ : MethodName)) hown (mvT hZ (ww hw 85 rfl)) (mvT hZ (ww hw 86 rfl)) (mvT hZ (own_selp (ww hw 77 rfl) rfl (ww hw 87 rfl) (ww hw 86 rfl) (by decide))) (Cond.privateMethod_at (mvP hZ (ww hw 87 rfl) (args := #[]))) (mvT hZ (ww hw 88 rfl)) (by decide) (backOf (W := 0) (rm11 l Z a0 hw [] a1 (D (((1 : Int32) + (1 : Int32))).toNatClampNeg) (S0 (((1 : Int32) + (1 : Int32))).toNatClampNeg) (1 : Int32) da sa _ D S0 h0 n0 Z0 E_a1 F_d F_s V_da V_sa ⟨by decide, by decide⟩ nn_40) hZ (ww hw 88 rfl) (ww hw 20 rfl) (by decide) (by decide)) (g := (mkF m 43 #[.val (.ref a1), .val (.int p2), .val (.double y3), .second, .val (.int (3 : Int32)), .val (.int (0 : Int32)), .val (.int (1 : Int32))] [(.int (1 : Int32)), (.double (S0 (((1 : Int32) + (1 : Int32))).toNatClampNeg)), (.int (D (((1 : Int32) + (1 : Int32))).toNatClampNeg)), (.ref a1)])) rfl (by rw [hml]; rfl) (Steps.refl _) (a := a1) (by rw [e5]; exact q6) q6' (argsL := [(.int (D (((1 : Int32) + (1 : Int32))).toNatClampNeg)), (.double (S0 (((1 : Int32) + (1 : Int32))).toNatClampNeg)), (.int (1 : Int32))]) (rest := []) (lenOf pd_19_8 rfl) rfl (by show 2 * 0 + _ ≤ _; exact Nat.le_of_eq rfl) (hb hby d19_43) (fun _ _ => ⟨rfl, e5, (by decide : 0 + 0 ≤ _), (by decide : 0 + 0 ≤ _)⟩)
  dsimp only [Pt.U, Pt.locs, Pt.cells, Pt.slots] at X6 l6 y6 z6 st6 hQ6
  subst l6 y6 z6
  obtain ⟨rfl, N6q, eh6⟩ := hQ6
  have N6 := Fr.app N0 N6q
  obtain ⟨T7, X7, e7, st7⟩ := getF X6 hx hZ hown (host := "") (Or.inl (ww hw 26 rfl)) Via.refl eh6 F_d (g := (mkF m 53 #[.val (.ref a1), .val (.int p2), .val (.double y3), .second, .val (.int (3 : Int32)), .val (.int (0 : Int32)), .val (.int ((1 : Int32) + (1 : Int32)))] [(.ref a1)])) rfl rfl (hb hby d19_53)
  obtain ⟨cl_58, Ar_58, S_58, H_58⟩ := id (V_da)
  have hin58 : ¬ (((1 : Int32) + (1 : Int32)) < 0 ∨ cl_58.slots.size ≤ (((1 : Int32) + (1 : Int32))).toNatClampNeg) := inb_of S_58 ⟨by decide, by decide⟩
  have hat58 := H_58 _ (own_inb hin58)
  obtain ⟨T8, X8, e8, st8⟩ := getF X7 hx hZ hown (host := "") (Or.inl (ww hw 29 rfl)) Via.refl e7 F_s (g := (mkF m 60 #[.val (.ref a1), .val (.int p2), .val (.double y3), .second, .val (.int (3 : Int32)), .val (.int (0 : Int32)), .val (.int ((1 : Int32) + (1 : Int32)))] [(.ref a1), (.int (D (((1 : Int32) + (1 : Int32))).toNatClampNeg))])) rfl rfl (hb hby d19_60)
  obtain ⟨cl_65, Ar_65, S_65, H_65⟩ := id (V_sa)
  have hin65 : ¬ (((1 : Int32) + (1 : Int32)) < 0 ∨ cl_65.slots.size ≤ (((1 : Int32) + (1 : Int32))).toNatClampNeg) := inb_of S_65 ⟨by decide, by decide⟩
  obtain ⟨hat65, nn_65⟩ := H_65 _ (own_inb hin65)
  obtain ⟨_, _, ⟨T9, L9, k9, n9⟩, -, X9, ⟨Lc9, hQ9, l9, y9, z9⟩, st9⟩ := Jvm.LawKit.callS X8 hx (y := (⟨sH, "ranksBelow", "(IDID)Z"⟩ : MethodName)) hown (mvT hZ (ww hw 89 rfl)) (mvT hZ (ww hw 90 rfl)) (mvT hZ (ww hw 20 rfl)) (mvT hZ (ww hw 91 rfl)) (by decide) (backOf (W := 0) (rm12 l Z a0 hw [] (D (((1 : Int32) + (1 : Int32))).toNatClampNeg) (S0 (((1 : Int32) + (1 : Int32))).toNatClampNeg) p2 y3  h0 n0 Z0 nn_65 nn_y3) hZ (ww hw 91 rfl) (ww hw 20 rfl) (by decide) (by decide)) (g := (mkF m 68 #[.val (.ref a1), .val (.int p2), .val (.double y3), .second, .val (.int (3 : Int32)), .val (.int (0 : Int32)), .val (.int ((1 : Int32) + (1 : Int32)))] [(.double y3), (.int p2), (.double (S0 (((1 : Int32) + (1 : Int32))).toNatClampNeg)), (.int (D (((1 : Int32) + (1 : Int32))).toNatClampNeg))])) rfl (by rw [hml]; rfl) (argsL := [(.int (D (((1 : Int32) + (1 : Int32))).toNatClampNeg)), (.double (S0 (((1 : Int32) + (1 : Int32))).toNatClampNeg)), (.int p2), (.double y3)]) (rest := []) (lenOf pd_19_9 rfl) rfl (by show 2 * 0 + _ ≤ _; exact Nat.le_of_eq rfl) (hb hby d19_68) (fun _ _ => ⟨rfl, e8, (by decide : 0 + 0 ≤ _), (by decide : 0 + 0 ≤ _)⟩)
  dsimp only [Pt.U, Pt.locs, Pt.cells, Pt.slots] at X9 l9 y9 z9 st9 hQ9
  subst l9 y9 z9
  obtain ⟨rfl, N9q, eh9⟩ := hQ9
  have N9 := Fr.app N6 N9q
  obtain ⟨cq10, q10, q10'⟩ := E_a1.cell
  obtain ⟨_, _, ⟨T10, L10, k10, n10⟩, -, X10, ⟨Lc10, hQ10, l10, y10, z10⟩, st10⟩ := X9.privateBack hx (y := (⟨sH, "move", "(II)V"⟩ : MethodName)) hown (mvT hZ (ww hw 96 rfl)) (mvT hZ (ww hw 97 rfl)) (mvT hZ (own_selp (ww hw 77 rfl) rfl (ww hw 98 rfl) (ww hw 97 rfl) (by decide))) (Cond.privateMethod_at (mvP hZ (ww hw 98 rfl) (args := #[]))) (mvT hZ (ww hw 99 rfl)) (by decide) (backOf (W := 0) (rm14 l Z a0 hw [] a1 ((1 : Int32) + (1 : Int32)) (0 : Int32) da sa (3 : Int32) _ _ h0 n0 Z0 E_a1 F_d F_s V_da V_sa nds nad nas g_da g_sa ⟨by decide, by decide⟩ ⟨by decide, by decide⟩) hZ (ww hw 99 rfl) (ww hw 20 rfl) (by decide) (by decide)) (g := (mkF m 82 #[.val (.ref a1), .val (.int p2), .val (.double y3), .second, .val (.int (3 : Int32)), .val (.int (0 : Int32)), .val (.int ((1 : Int32) + (1 : Int32)))] [(.int (0 : Int32)), (.int ((1 : Int32) + (1 : Int32))), (.ref a1)])) rfl (by rw [hml]; rfl) (Steps.refl _) (a := a1) (by rw [eh9]; exact q10) q10' (argsL := [(.int ((1 : Int32) + (1 : Int32))), (.int (0 : Int32))]) (rest := []) (lenOf pd_19_11 rfl) rfl (by show 2 * 0 + _ ≤ _; exact Nat.le_of_eq rfl) (hb hby d19_82) (fun _ _ => ⟨rfl, eh9, (by decide : 0 + 0 ≤ _), (by decide : 0 + 0 ≤ _)⟩)
  dsimp only [Pt.U, Pt.locs, Pt.cells, Pt.slots] at X10 l10 y10 z10 st10 hQ10
  subst l10 y10 z10
  obtain ⟨rfl, N10q, Kc10, ⟨D10, Vd10⟩, ⟨S10, Vs10⟩⟩ := hQ10
  have N10 := Fr.app N9 N10q
  have K10 : Keep h0 T10.heap [da, sa] := (Keep.refl h0 [da, sa]).trans Kc10 (allS (Or.inl (List.mem_of_getElem? (i := 0) rfl)) (allS (Or.inl (List.mem_of_getElem? (i := 1) rfl)) all0))
  obtain ⟨cq11, q11, q11'⟩ := (E_a1.keep Kc10).cell
  obtain ⟨_, _, ⟨T11, L11, k11, n11⟩, -, X11, ⟨Lc11, hQ11, l11, y11, z11⟩, st11⟩ := X10.privateBack hx (y := (⟨sH, "put", "(IID)V"⟩ : MethodName)) hown (mvT hZ (ww hw 80 rfl)) (mvT hZ (ww hw 81 rfl)) (mvT hZ (own_selp (ww hw 77 rfl) rfl (ww hw 82 rfl) (ww hw 81 rfl) (by decide))) (Cond.privateMethod_at (mvP hZ (ww hw 82 rfl) (args := #[]))) (mvT hZ (ww hw 83 rfl)) (by decide) (backOf (W := 0) (rm10 l Z a0 hw [] a1 ((1 : Int32) + (1 : Int32)) p2 y3 da sa (3 : Int32) _ _ T10.heap n0 (Nat.le_trans Z0 Kc10.1) (E_a1.keep Kc10) (F_d.keep Kc10 (ninS nad (ninS nas nin0))) (F_s.keep Kc10 (ninS nad (ninS nas nin0))) Vd10 Vs10 nds nad nas g_da g_sa ⟨by decide, by decide⟩ nn_y3) hZ (ww hw 83 rfl) (ww hw 20 rfl) (by decide) (by decide)) (g := (mkF m 105 #[.val (.ref a1), .val (.int p2), .val (.double y3), .second, .val (.int (3 : Int32)), .val (.int ((1 : Int32) + (1 : Int32))), .val (.int (((2 : Int32) * ((1 : Int32) + (1 : Int32))) + (1 : Int32)))] [(.double y3), (.int p2), (.int ((1 : Int32) + (1 : Int32))), (.ref a1)])) rfl (by rw [hml]; rfl) (Steps.refl _) (a := a1) q11 q11' (argsL := [(.int ((1 : Int32) + (1 : Int32))), (.int p2), (.double y3)]) (rest := []) (lenOf pd_19_7 rfl) rfl (by show 2 * 0 + _ ≤ _; exact Nat.le_of_eq rfl) (hb hby d19_105) (fun _ _ => ⟨rfl, rfl, (by decide : 0 + 0 ≤ _), (by decide : 0 + 0 ≤ _)⟩)
  dsimp only [Pt.U, Pt.locs, Pt.cells, Pt.slots] at X11 l11 y11 z11 st11 hQ11
  subst l11 y11 z11
  obtain ⟨rfl, N11q, Kc11, ⟨D11, Vd11⟩, ⟨S11, Vs11⟩⟩ := hQ11
  have N11 := Fr.app N10 N11q
  have K11 : Keep h0 T11.heap [da, sa] := K10.trans Kc11 (allS (Or.inl (List.mem_of_getElem? (i := 0) rfl)) (allS (Or.inl (List.mem_of_getElem? (i := 1) rfl)) all0))
  obtain ⟨fs, hr, hrun, hended, hW, hsame⟩ := X11.leave (v := none) (fun _ => rfl)
  refine ⟨_, _, pre0 _ ?_, hrun, hended, _, _, rfl, ?_, ⟨_, rfl⟩, hW, hsame.mono (by decide) (by decide)⟩
  · show Steps _ _ _ (s₁.setTop (mkF m 0 #[.val (.ref a1), .val (.int p2), .val (.double y3), .second, .val (.int (3 : Int32)), .unset, .unset] [])) _
    refine XS.iconst X0.here hx rfl (hb hby d19_0) ?_
    refine XS.istore X0.here hx rfl (hb hby d19_1) rfl (l' := #[.val (.ref a1), .val (.int p2), .val (.double y3), .second, .val (.int (3 : Int32)), .val (.int (0 : Int32)), .unset]) rfl ?_
    refine XS.iconst X0.here hx rfl (hb hby d19_3) ?_
    refine XS.istore X0.here hx rfl (hb hby d19_4) rfl (l' := #[.val (.ref a1), .val (.int p2), .val (.double y3), .second, .val (.int (3 : Int32)), .val (.int (0 : Int32)), .val (.int (1 : Int32))]) rfl ?_
    refine XS.iload X0.here hx rfl (hb hby d19_6) rfl ?_
    refine XS.iload X0.here hx rfl (hb hby d19_8) rfl ?_
    refine XS.icmpNo X0.here hx rfl (hb hby d19_10) rfl (tlt (by decide : (1 : Int32) < (3 : Int32))).2.1 ?_
    refine XS.iload X0.here hx rfl (hb hby d19_13) rfl ?_
    refine XS.iconst X0.here hx rfl (hb hby d19_15) ?_
    refine XS.iadd X0.here hx rfl (hb hby d19_16) rfl ?_
    refine XS.iload X0.here hx rfl (hb hby d19_17) rfl ?_
    refine XS.icmpNo X0.here hx rfl (hb hby d19_19) rfl (tlt (by decide : ((1 : Int32) + (1 : Int32)) < (3 : Int32))).2.1 ?_
    refine XS.aloadN X0.here hx rfl (hb hby d19_22) rfl rfl ?_
    refine XS.aloadN X0.here hx rfl (hb hby d19_23) rfl rfl ?_
    refine st4 _ ?_
    refine XS.iload X4.here hx rfl (hb hby d19_27) rfl ?_
    refine XS.iconst X4.here hx rfl (hb hby d19_29) ?_
    refine XS.iadd X4.here hx rfl (hb hby d19_30) rfl ?_
    refine X4.iaload hx (j := ((1 : Int32) + (1 : Int32))) (v := (.int (D (((1 : Int32) + (1 : Int32))).toNatClampNeg))) (by rw [e4]; exact Ar_31.1) (State.isArrayOf_alike hZ.alike Ar_31.2.1) Ar_31.2.2 hin31 hat31 (g := (mkF m 31 #[.val (.ref a1), .val (.int p2), .val (.double y3), .second, .val (.int (3 : Int32)), .val (.int (0 : Int32)), .val (.int (1 : Int32))] [(.int ((1 : Int32) + (1 : Int32))), (.ref da), (.ref a1)])) rfl rfl (hb hby d19_31) _ ?_
    refine XS.aloadN X4.here hx rfl (hb hby d19_32) rfl rfl ?_
    refine st5 _ ?_
    refine XS.iload X5.here hx rfl (hb hby d19_36) rfl ?_
    refine XS.iconst X5.here hx rfl (hb hby d19_38) ?_
    refine XS.iadd X5.here hx rfl (hb hby d19_39) rfl ?_
    refine X5.daload hx (j := ((1 : Int32) + (1 : Int32))) (v := (.double (S0 (((1 : Int32) + (1 : Int32))).toNatClampNeg))) (by rw [e5]; exact Ar_40.1) (State.isArrayOf_alike hZ.alike Ar_40.2.1) Ar_40.2.2 hin40 hat40 (g := (mkF m 40 #[.val (.ref a1), .val (.int p2), .val (.double y3), .second, .val (.int (3 : Int32)), .val (.int (0 : Int32)), .val (.int (1 : Int32))] [(.int ((1 : Int32) + (1 : Int32))), (.ref sa), (.int (D (((1 : Int32) + (1 : Int32))).toNatClampNeg)), (.ref a1)])) rfl rfl (hb hby d19_40) _ ?_
    refine XS.iload X5.here hx rfl (hb hby d19_41) rfl ?_
    refine st6.trans ?_
    refine XS.ifNo X6.here hx rfl (hb hby d19_46) rfl ((if0 _ _).trans (feq hc46).1) ?_
    refine XS.iinc X6.here hx rfl (hb hby d19_49) rfl (l' := #[.val (.ref a1), .val (.int p2), .val (.double y3), .second, .val (.int (3 : Int32)), .val (.int (0 : Int32)), .val (.int ((1 : Int32) + (1 : Int32)))]) rfl ?_
    refine XS.aloadN X6.here hx rfl (hb hby d19_52) rfl rfl ?_
    refine st7 _ ?_
    refine XS.iload X7.here hx rfl (hb hby d19_56) rfl ?_
    refine X7.iaload hx (j := ((1 : Int32) + (1 : Int32))) (v := (.int (D (((1 : Int32) + (1 : Int32))).toNatClampNeg))) (by rw [e7]; exact Ar_58.1) (State.isArrayOf_alike hZ.alike Ar_58.2.1) Ar_58.2.2 hin58 hat58 (g := (mkF m 58 #[.val (.ref a1), .val (.int p2), .val (.double y3), .second, .val (.int (3 : Int32)), .val (.int (0 : Int32)), .val (.int ((1 : Int32) + (1 : Int32)))] [(.int ((1 : Int32) + (1 : Int32))), (.ref da)])) rfl rfl (hb hby d19_58) _ ?_
    refine XS.aloadN X7.here hx rfl (hb hby d19_59) rfl rfl ?_
    refine st8 _ ?_
    refine XS.iload X8.here hx rfl (hb hby d19_63) rfl ?_
    refine X8.daload hx (j := ((1 : Int32) + (1 : Int32))) (v := (.double (S0 (((1 : Int32) + (1 : Int32))).toNatClampNeg))) (by rw [e8]; exact Ar_65.1) (State.isArrayOf_alike hZ.alike Ar_65.2.1) Ar_65.2.2 hin65 hat65 (g := (mkF m 65 #[.val (.ref a1), .val (.int p2), .val (.double y3), .second, .val (.int (3 : Int32)), .val (.int (0 : Int32)), .val (.int ((1 : Int32) + (1 : Int32)))] [(.int ((1 : Int32) + (1 : Int32))), (.ref sa), (.int (D (((1 : Int32) + (1 : Int32))).toNatClampNeg))])) rfl rfl (hb hby d19_65) _ ?_
    refine XS.iloadN X8.here hx rfl (hb hby d19_66) rfl ?_
    refine XS.dloadN X8.here hx rfl (hb hby d19_67) rfl ?_
    refine st9 _ ?_
    refine XS.ifYes X9.here hx rfl (pc0 := 71) (pc' := 77) rfl (hb hby d19_71) rfl ((if0 _ _).trans (feq hc71).2) (by decide) (by decide) ?_
    refine XS.aloadN X9.here hx rfl (hb hby d19_77) rfl rfl ?_
    refine XS.iload X9.here hx rfl (hb hby d19_78) rfl ?_
    refine XS.iload X9.here hx rfl (hb hby d19_80) rfl ?_
    refine st10.trans ?_
    refine XS.iload X10.here hx rfl (hb hby d19_85) rfl ?_
    refine XS.istore X10.here hx rfl (hb hby d19_87) rfl (l' := #[.val (.ref a1), .val (.int p2), .val (.double y3), .second, .val (.int (3 : Int32)), .val (.int ((1 : Int32) + (1 : Int32))), .val (.int ((1 : Int32) + (1 : Int32)))]) rfl ?_
    refine XS.iconst X10.here hx rfl (hb hby d19_89) ?_
    refine XS.iload X10.here hx rfl (hb hby d19_90) rfl ?_
    refine XS.imul X10.here hx rfl (hb hby d19_92) rfl ?_
    refine XS.iconst X10.here hx rfl (hb hby d19_93) ?_
    refine XS.iadd X10.here hx rfl (hb hby d19_94) rfl ?_
    refine XS.istore X10.here hx rfl (hb hby d19_95) rfl (l' := #[.val (.ref a1), .val (.int p2), .val (.double y3), .second, .val (.int (3 : Int32)), .val (.int ((1 : Int32) + (1 : Int32))), .val (.int (((2 : Int32) * ((1 : Int32) + (1 : Int32))) + (1 : Int32)))]) rfl ?_
    refine XS.goto X10.here hx rfl (pc0 := 97) (pc' := 6) rfl (hb hby d19_97) (by decide) (by decide) ?_
    refine XS.iload X10.here hx rfl (hb hby d19_6) rfl ?_
    refine XS.iload X10.here hx rfl (hb hby d19_8) rfl ?_
    refine XS.icmpYes X10.here hx rfl (pc0 := 10) (pc' := 100) rfl (hb hby d19_10) rfl (flt (by decide : ¬ ((((2 : Int32) * ((1 : Int32) + (1 : Int32))) + (1 : Int32)) < (3 : Int32)))).2.1 (by decide) (by decide) ?_
    refine XS.aloadN X10.here hx rfl (hb hby d19_100) rfl rfl ?_
    refine XS.iload X10.here hx rfl (hb hby d19_101) rfl ?_
    refine XS.iloadN X10.here hx rfl (hb hby d19_103) rfl ?_
    refine XS.dloadN X10.here hx rfl (hb hby d19_104) rfl ?_
    refine st11.trans ?_
    exact X11.returnOut hx Bd.returns (hb hby d19_108) hr
  · show Q19_3_3 Z a1 p2 y3 da sa D S0 h0 n0 _ T11.heap _
    exact ⟨rfl, N11, K11, ⟨_, Vd11⟩, ⟨_, Vs11⟩⟩
def Q19_2 (Z : State) (a1 : Addr) (p2 : Int32) (y3 : UInt64) (da : Addr) (sa : Addr) (D : Nat → Int32) (S0 : Nat → UInt64) (h0 : Heap) (n0 : Nat) (v : Option Value) (h : Heap) (L : List Loc) : Prop := v = none ∧ Fr n0 L ∧ Keep h0 h [da, sa] ∧ (∃ D', own_AI Z h da (2 : Int32) D') ∧ (∃ S', own_AD Z h sa (2 : Int32) S')
theorem rm19_2 (l : Launch) (Z : State) (a0 : Array Value) (hw : ∀ d ∈ tables_1, d.before a0 Z = true) (ws : List Jvm.Cond) (a1 : Addr) (p2 : Int32) (y3 : UInt64) (da : Addr) (sa : Addr) (D : Nat → Int32) (S0 : Nat → UInt64) (h0 : Heap) (n0 : Nat) (Z0 : n0 ≤ h0.size) (E_a1 : Exa Z h0 a1 sH) (F_d : Fld Z h0 a1 sH "documents" "[I" (.ref da)) (F_s : Fld Z h0 a1 sH "scores" "[D" (.ref sa)) (V_da : own_AI Z h0 da (2 : Int32) D) (V_sa : own_AD Z h0 sa (2 : Int32) S0) (nds : da ≠ sa) (nad : a1 ≠ da) (nas : a1 ≠ sa) (g_da : n0 ≤ da) (g_sa : n0 ≤ sa) (nn_y3 : Jvm.Free.Fl.NoNaN64 y3) :
    MetFree l (⟨sH, "siftDown", "(IDI)V"⟩ : MethodName) (head1 (Jvm.Cond.code (⟨sH, "siftDown", "(IDI)V"⟩ : MethodName) prog_188_method_12_code 7 none :: ws) ({ frames := 5, cells := 0, slots := 0, locals := 130 } : Room)) (fun a U => a = #[(.ref a1), (.int p2), (.double y3), (.int (2 : Int32))] ∧ Z.Warmed39 U.vm ∧ U.heap = h0) (fun _ _ _ _ _ => True) (fun _ U o U' => ∃ v L, o = .returned v ∧ Q19_2 Z a1 p2 y3 da sa D S0 h0 n0 v U'.heap L ∧ FrameEnd U o U' L ({ frames := 5, cells := 0, slots := 0, locals := 130 } : Room).cells ({ frames := 5, cells := 0, slots := 0, locals := 130 } : Room).slots) := by
  by_cases c : (own_rb (D ((1 : Int32)).toNatClampNeg) (S0 ((1 : Int32)).toNatClampNeg) p2 y3) = (0 : Int32)
  · exact rm19_2_0 l Z a0 hw ws a1 p2 y3 da sa D S0 h0 n0 Z0 E_a1 F_d F_s V_da V_sa nds nad nas g_da g_sa nn_y3 c
  · exact rm19_2_1 l Z a0 hw ws a1 p2 y3 da sa D S0 h0 n0 Z0 E_a1 F_d F_s V_da V_sa nds nad nas g_da g_sa nn_y3 c
def Q19_3 (Z : State) (a1 : Addr) (p2 : Int32) (y3 : UInt64) (da : Addr) (sa : Addr) (D : Nat → Int32) (S0 : Nat → UInt64) (h0 : Heap) (n0 : Nat) (v : Option Value) (h : Heap) (L : List Loc) : Prop := v = none ∧ Fr n0 L ∧ Keep h0 h [da, sa] ∧ (∃ D', own_AI Z h da (3 : Int32) D') ∧ (∃ S', own_AD Z h sa (3 : Int32) S')
theorem rm19_3 (l : Launch) (Z : State) (a0 : Array Value) (hw : ∀ d ∈ tables_1, d.before a0 Z = true) (ws : List Jvm.Cond) (a1 : Addr) (p2 : Int32) (y3 : UInt64) (da : Addr) (sa : Addr) (D : Nat → Int32) (S0 : Nat → UInt64) (h0 : Heap) (n0 : Nat) (Z0 : n0 ≤ h0.size) (E_a1 : Exa Z h0 a1 sH) (F_d : Fld Z h0 a1 sH "documents" "[I" (.ref da)) (F_s : Fld Z h0 a1 sH "scores" "[D" (.ref sa)) (V_da : own_AI Z h0 da (3 : Int32) D) (V_sa : own_AD Z h0 sa (3 : Int32) S0) (nds : da ≠ sa) (nad : a1 ≠ da) (nas : a1 ≠ sa) (g_da : n0 ≤ da) (g_sa : n0 ≤ sa) (nn_y3 : Jvm.Free.Fl.NoNaN64 y3) :
    MetFree l (⟨sH, "siftDown", "(IDI)V"⟩ : MethodName) (head1 (Jvm.Cond.code (⟨sH, "siftDown", "(IDI)V"⟩ : MethodName) prog_188_method_12_code 7 none :: ws) ({ frames := 5, cells := 0, slots := 0, locals := 130 } : Room)) (fun a U => a = #[(.ref a1), (.int p2), (.double y3), (.int (3 : Int32))] ∧ Z.Warmed39 U.vm ∧ U.heap = h0) (fun _ _ _ _ _ => True) (fun _ U o U' => ∃ v L, o = .returned v ∧ Q19_3 Z a1 p2 y3 da sa D S0 h0 n0 v U'.heap L ∧ FrameEnd U o U' L ({ frames := 5, cells := 0, slots := 0, locals := 130 } : Room).cells ({ frames := 5, cells := 0, slots := 0, locals := 130 } : Room).slots) := by
  by_cases c0 : (own_rb (D (((1 : Int32) + (1 : Int32))).toNatClampNeg) (S0 (((1 : Int32) + (1 : Int32))).toNatClampNeg) (D ((1 : Int32)).toNatClampNeg) (S0 ((1 : Int32)).toNatClampNeg)) = (0 : Int32)
  · by_cases c1 : (own_rb (D ((1 : Int32)).toNatClampNeg) (S0 ((1 : Int32)).toNatClampNeg) p2 y3) = (0 : Int32)
    · exact rm19_3_0 l Z a0 hw ws a1 p2 y3 da sa D S0 h0 n0 Z0 E_a1 F_d F_s V_da V_sa nds nad nas g_da g_sa nn_y3 c0 c1
    · exact rm19_3_1 l Z a0 hw ws a1 p2 y3 da sa D S0 h0 n0 Z0 E_a1 F_d F_s V_da V_sa nds nad nas g_da g_sa nn_y3 c0 c1
  · by_cases c1 : (own_rb (D (((1 : Int32) + (1 : Int32))).toNatClampNeg) (S0 (((1 : Int32) + (1 : Int32))).toNatClampNeg) p2 y3) = (0 : Int32)
    · exact rm19_3_2 l Z a0 hw ws a1 p2 y3 da sa D S0 h0 n0 Z0 E_a1 F_d F_s V_da V_sa nds nad nas g_da g_sa nn_y3 c0 c1
    · exact rm19_3_3 l Z a0 hw ws a1 p2 y3 da sa D S0 h0 n0 Z0 E_a1 F_d F_s V_da V_sa nds nad nas g_da g_sa nn_y3 c0 c1
theorem d18_0 : decode prog_188_method_5_code 0 = .ok (.aload_n 0, 1) := by decide +kernel
theorem d18_1 : decode prog_188_method_5_code 1 = .ok (.iload_n 1, 1) := by decide +kernel
theorem d18_2 : decode prog_188_method_5_code 2 = .ok (.dload_n 2, 1) := by decide +kernel
theorem d18_3 : decode prog_188_method_5_code 3 = .ok (.aload_n 0, 1) := by decide +kernel
theorem d18_4 : decode prog_188_method_5_code 4 = .ok (.getfield 17, 3) := by decide +kernel
theorem d18_7 : decode prog_188_method_5_code 7 = .ok (.invokevirtual 33, 3) := by decide +kernel
theorem d18_10 : decode prog_188_method_5_code 10 = .ok (.return_, 1) := by decide +kernel
theorem pn_18 : plainName sH = true := by first | (simp [plainName, overriddenIn]; done) | decide +kernel
theorem pd_18_15 : parseMethodDescriptor "(IDI)V" = some ⟨[.int, .double, .int], none⟩ := by decide +kernel
theorem ef_18_1 (m : MethodId) (x0 : Addr) (x1 : Int32) (x2 : UInt64) : entryFrame m #[(.ref x0), (.int x1), (.double x2)] 4 = mkF m 0 #[.val (.ref x0), .val (.int x1), .val (.double x2), .second] [] := by first | (simp [entryFrame, mkF, argsToLocals, Value.category]; done) | rfl
def Q18_1 (Z : State) (a1 : Addr) (p2 : Int32) (y3 : UInt64) (da : Addr) (sa : Addr) (D : Nat → Int32) (S0 : Nat → UInt64) (h0 : Heap) (n0 : Nat) (v : Option Value) (h : Heap) (L : List Loc) : Prop := v = none ∧ Fr n0 L ∧ Keep h0 h [da, sa] ∧ (∃ D', own_AI Z h da (1 : Int32) D') ∧ (∃ S', own_AD Z h sa (1 : Int32) S')
set_option maxRecDepth 65536 in
set_option maxHeartbeats 40000000 in
theorem rm18_1 (l : Launch) (Z : State) (a0 : Array Value) (hw : ∀ d ∈ tables_1, d.before a0 Z = true) (ws : List Jvm.Cond) (a1 : Addr) (p2 : Int32) (y3 : UInt64) (da : Addr) (sa : Addr) (D : Nat → Int32) (S0 : Nat → UInt64) (h0 : Heap) (n0 : Nat) (Z0 : n0 ≤ h0.size) (E_a1 : Exa Z h0 a1 sH) (F_d : Fld Z h0 a1 sH "documents" "[I" (.ref da)) (F_s : Fld Z h0 a1 sH "scores" "[D" (.ref sa)) (V_da : own_AI Z h0 da (1 : Int32) D) (V_sa : own_AD Z h0 sa (1 : Int32) S0) (nds : da ≠ sa) (nad : a1 ≠ da) (nas : a1 ≠ sa) (g_da : n0 ≤ da) (g_sa : n0 ≤ sa) (F_z : Fld Z h0 a1 sH "size" "I" (.int (1 : Int32))) (nn_y3 : Jvm.Free.Fl.NoNaN64 y3) :
    MetFree l (⟨sH, "replaceWorst", "(ID)V"⟩ : MethodName) (head1 (Jvm.Cond.code (⟨sH, "replaceWorst", "(ID)V"⟩ : MethodName) prog_188_method_5_code 4 none :: ws) ({ frames := 6, cells := 0, slots := 0, locals := 160 } : Room)) (fun a U => a = #[(.ref a1), (.int p2), (.double y3)] ∧ Z.Warmed39 U.vm ∧ U.heap = h0) (fun _ _ _ _ _ => True) (fun _ U o U' => ∃ v L, o = .returned v ∧ Q18_1 Z a1 p2 y3 da sa D S0 h0 n0 v U'.heap L ∧ FrameEnd U o U' L ({ frames := 6, cells := 0, slots := 0, locals := 160 } : Room).cells ({ frames := 6, cells := 0, slots := 0, locals := 160 } : Room).slots) := by
  refine MetFree.of_bodySF (plainFor_of_name pn_18) hisR ?_
  intro p e s m args below meth c s₁ Bd hml0 hP hK
  obtain ⟨rfl, hZ, hh⟩ := hP
  have hx := Bd.exec
  have hby := Bd.bytes
  have hml : c.maxLocals = 4 := hml0
  have hown : s.vm.findClass sH = some m.cls := findClass_of_methodNamed Bd.named
  have hnm := (name_of_methodNamed Bd.named Bd.method).1
  have X0 : Stand p l e ({ frames := 6, cells := 0, slots := 0, locals := 160 } : Room) s m #[(.ref a1), (.int p2), (.double y3)] below meth c s₁ [] 0 0 := Stand.of_body Bd
  have e0 : s₁.heap = h0 := by rw [← hh, Bd.state]; rfl
  have N0 := Fr.nil n0
  have pre0 : ∀ t, Steps p.tables e below (s₁.setTop (mkF m 0 #[.val (.ref a1), .val (.int p2), .val (.double y3), .second] [])) t → Steps p.tables e below (s₁.setTop (entryFrame m #[(.ref a1), (.int p2), (.double y3)] 4)) t := fun t k => castTop (ef_18_1 m a1 p2 y3) k

  obtain ⟨T4, X4, e4, st4⟩ := getF X0 hx hZ hown (host := "") (Or.inl (ww hw 79 rfl)) Via.refl e0 F_z (g := (mkF m 4 #[.val (.ref a1), .val (.int p2), .val (.double y3), .second] [(.ref a1), (.double y3), (.int p2), (.ref a1)])) rfl rfl (hb hby d18_4)
  obtain ⟨cq5, q5, q5'⟩ := E_a1.cell
  obtain ⟨_, _, ⟨T5, L5, k5, n5⟩, -, X5, ⟨Lc5, hQ5, l5, y5, z5⟩, st5⟩ := X4.privateBack hx (y := (⟨sH, "siftDown", "(IDI)V"⟩ : MethodName)) hown (mvT hZ (ww hw 121 rfl)) (mvT hZ (ww hw 122 rfl)) (mvT hZ (own_selp (ww hw 77 rfl) rfl (ww hw 123 rfl) (ww hw 122 rfl) (by decide))) (Cond.privateMethod_at (mvP hZ (ww hw 123 rfl) (args := #[]))) (mvT hZ (ww hw 124 rfl)) (by decide) (backOf (W := 0) (rm19_1_0 l Z a0 hw [] a1 p2 y3 da sa _ _ h0 n0 Z0 E_a1 F_d F_s V_da V_sa nds nad nas g_da g_sa nn_y3) hZ (ww hw 124 rfl) (ww hw 20 rfl) (by decide) (by decide)) (g := (mkF m 7 #[.val (.ref a1), .val (.int p2), .val (.double y3), .second] [(.int (1 : Int32)), (.double y3), (.int p2), (.ref a1)])) rfl (by rw [hml]; rfl) (Steps.refl _) (a := a1) (by rw [e4]; exact q5) q5' (argsL := [(.int p2), (.double y3), (.int (1 : Int32))]) (rest := []) (lenOf pd_18_15 rfl) rfl (by show 2 * 0 + _ ≤ _; exact Nat.le_of_eq rfl) (hb hby d18_7) (fun _ _ => ⟨rfl, e4, (by decide : 0 + 0 ≤ _), (by decide : 0 + 0 ≤ _)⟩)
  dsimp only [Pt.U, Pt.locs, Pt.cells, Pt.slots] at X5 l5 y5 z5 st5 hQ5
  subst l5 y5 z5
  obtain ⟨rfl, N5q, Kc5, ⟨D5, Vd5⟩, ⟨S5, Vs5⟩⟩ := hQ5
  have N5 := Fr.app N0 N5q
  have K5 : Keep h0 T5.heap [da, sa] := (Keep.refl h0 [da, sa]).trans Kc5 (allS (Or.inl (List.mem_of_getElem? (i := 0) rfl)) (allS (Or.inl (List.mem_of_getElem? (i := 1) rfl)) all0))
  obtain ⟨fs, hr, hrun, hended, hW, hsame⟩ := X5.leave (v := none) (fun _ => rfl)
  refine ⟨_, _, pre0 _ ?_, hrun, hended, _, _, rfl, ?_, ⟨_, rfl⟩, hW, hsame.mono (by decide) (by decide)⟩
  · show Steps _ _ _ (s₁.setTop (mkF m 0 #[.val (.ref a1), .val (.int p2), .val (.double y3), .second] [])) _
    refine XS.aloadN X0.here hx rfl (hb hby d18_0) rfl rfl ?_
    refine XS.iloadN X0.here hx rfl (hb hby d18_1) rfl ?_
    refine XS.dloadN X0.here hx rfl (hb hby d18_2) rfl ?_
    refine XS.aloadN X0.here hx rfl (hb hby d18_3) rfl rfl ?_
    refine st4 _ ?_
    refine st5.trans ?_
    exact X5.returnOut hx Bd.returns (hb hby d18_10) hr
  · show Q18_1 Z a1 p2 y3 da sa D S0 h0 n0 _ T5.heap _
    exact ⟨rfl, N5, K5, ⟨_, Vd5⟩, ⟨_, Vs5⟩⟩
theorem ef_18_2 (m : MethodId) (x0 : Addr) (x1 : Int32) (x2 : UInt64) : entryFrame m #[(.ref x0), (.int x1), (.double x2)] 4 = mkF m 0 #[.val (.ref x0), .val (.int x1), .val (.double x2), .second] [] := by first | (simp [entryFrame, mkF, argsToLocals, Value.category]; done) | rfl
def Q18_2 (Z : State) (a1 : Addr) (p2 : Int32) (y3 : UInt64) (da : Addr) (sa : Addr) (D : Nat → Int32) (S0 : Nat → UInt64) (h0 : Heap) (n0 : Nat) (v : Option Value) (h : Heap) (L : List Loc) : Prop := v = none ∧ Fr n0 L ∧ Keep h0 h [da, sa] ∧ (∃ D', own_AI Z h da (2 : Int32) D') ∧ (∃ S', own_AD Z h sa (2 : Int32) S')
set_option maxRecDepth 65536 in
set_option maxHeartbeats 40000000 in
theorem rm18_2 (l : Launch) (Z : State) (a0 : Array Value) (hw : ∀ d ∈ tables_1, d.before a0 Z = true) (ws : List Jvm.Cond) (a1 : Addr) (p2 : Int32) (y3 : UInt64) (da : Addr) (sa : Addr) (D : Nat → Int32) (S0 : Nat → UInt64) (h0 : Heap) (n0 : Nat) (Z0 : n0 ≤ h0.size) (E_a1 : Exa Z h0 a1 sH) (F_d : Fld Z h0 a1 sH "documents" "[I" (.ref da)) (F_s : Fld Z h0 a1 sH "scores" "[D" (.ref sa)) (V_da : own_AI Z h0 da (2 : Int32) D) (V_sa : own_AD Z h0 sa (2 : Int32) S0) (nds : da ≠ sa) (nad : a1 ≠ da) (nas : a1 ≠ sa) (g_da : n0 ≤ da) (g_sa : n0 ≤ sa) (F_z : Fld Z h0 a1 sH "size" "I" (.int (2 : Int32))) (nn_y3 : Jvm.Free.Fl.NoNaN64 y3) :
    MetFree l (⟨sH, "replaceWorst", "(ID)V"⟩ : MethodName) (head1 (Jvm.Cond.code (⟨sH, "replaceWorst", "(ID)V"⟩ : MethodName) prog_188_method_5_code 4 none :: ws) ({ frames := 6, cells := 0, slots := 0, locals := 160 } : Room)) (fun a U => a = #[(.ref a1), (.int p2), (.double y3)] ∧ Z.Warmed39 U.vm ∧ U.heap = h0) (fun _ _ _ _ _ => True) (fun _ U o U' => ∃ v L, o = .returned v ∧ Q18_2 Z a1 p2 y3 da sa D S0 h0 n0 v U'.heap L ∧ FrameEnd U o U' L ({ frames := 6, cells := 0, slots := 0, locals := 160 } : Room).cells ({ frames := 6, cells := 0, slots := 0, locals := 160 } : Room).slots) := by
  refine MetFree.of_bodySF (plainFor_of_name pn_18) hisR ?_
  intro p e s m args below meth c s₁ Bd hml0 hP hK
  obtain ⟨rfl, hZ, hh⟩ := hP
  have hx := Bd.exec
  have hby := Bd.bytes
  have hml : c.maxLocals = 4 := hml0
  have hown : s.vm.findClass sH = some m.cls := findClass_of_methodNamed Bd.named
  have hnm := (name_of_methodNamed Bd.named Bd.method).1
  have X0 : Stand p l e ({ frames := 6, cells := 0, slots := 0, locals := 160 } : Room) s m #[(.ref a1), (.int p2), (.double y3)] below meth c s₁ [] 0 0 := Stand.of_body Bd
  have e0 : s₁.heap = h0 := by rw [← hh, Bd.state]; rfl
  have N0 := Fr.nil n0
  have pre0 : ∀ t, Steps p.tables e below (s₁.setTop (mkF m 0 #[.val (.ref a1), .val (.int p2), .val (.double y3), .second] [])) t → Steps p.tables e below (s₁.setTop (entryFrame m #[(.ref a1), (.int p2), (.double y3)] 4)) t := fun t k => castTop (ef_18_2 m a1 p2 y3) k

  obtain ⟨T4, X4, e4, st4⟩ := getF X0 hx hZ hown (host := "") (Or.inl (ww hw 79 rfl)) Via.refl e0 F_z (g := (mkF m 4 #[.val (.ref a1), .val (.int p2), .val (.double y3), .second] [(.ref a1), (.double y3), (.int p2), (.ref a1)])) rfl rfl (hb hby d18_4)
  obtain ⟨cq5, q5, q5'⟩ := E_a1.cell
  obtain ⟨_, _, ⟨T5, L5, k5, n5⟩, -, X5, ⟨Lc5, hQ5, l5, y5, z5⟩, st5⟩ := X4.privateBack hx (y := (⟨sH, "siftDown", "(IDI)V"⟩ : MethodName)) hown (mvT hZ (ww hw 121 rfl)) (mvT hZ (ww hw 122 rfl)) (mvT hZ (own_selp (ww hw 77 rfl) rfl (ww hw 123 rfl) (ww hw 122 rfl) (by decide))) (Cond.privateMethod_at (mvP hZ (ww hw 123 rfl) (args := #[]))) (mvT hZ (ww hw 124 rfl)) (by decide) (backOf (W := 0) (rm19_2 l Z a0 hw [] a1 p2 y3 da sa _ _ h0 n0 Z0 E_a1 F_d F_s V_da V_sa nds nad nas g_da g_sa nn_y3) hZ (ww hw 124 rfl) (ww hw 20 rfl) (by decide) (by decide)) (g := (mkF m 7 #[.val (.ref a1), .val (.int p2), .val (.double y3), .second] [(.int (2 : Int32)), (.double y3), (.int p2), (.ref a1)])) rfl (by rw [hml]; rfl) (Steps.refl _) (a := a1) (by rw [e4]; exact q5) q5' (argsL := [(.int p2), (.double y3), (.int (2 : Int32))]) (rest := []) (lenOf pd_18_15 rfl) rfl (by show 2 * 0 + _ ≤ _; exact Nat.le_of_eq rfl) (hb hby d18_7) (fun _ _ => ⟨rfl, e4, (by decide : 0 + 0 ≤ _), (by decide : 0 + 0 ≤ _)⟩)
  dsimp only [Pt.U, Pt.locs, Pt.cells, Pt.slots] at X5 l5 y5 z5 st5 hQ5
  subst l5 y5 z5
  obtain ⟨rfl, N5q, Kc5, ⟨D5, Vd5⟩, ⟨S5, Vs5⟩⟩ := hQ5
  have N5 := Fr.app N0 N5q
  have K5 : Keep h0 T5.heap [da, sa] := (Keep.refl h0 [da, sa]).trans Kc5 (allS (Or.inl (List.mem_of_getElem? (i := 0) rfl)) (allS (Or.inl (List.mem_of_getElem? (i := 1) rfl)) all0))
  obtain ⟨fs, hr, hrun, hended, hW, hsame⟩ := X5.leave (v := none) (fun _ => rfl)
  refine ⟨_, _, pre0 _ ?_, hrun, hended, _, _, rfl, ?_, ⟨_, rfl⟩, hW, hsame.mono (by decide) (by decide)⟩
  · show Steps _ _ _ (s₁.setTop (mkF m 0 #[.val (.ref a1), .val (.int p2), .val (.double y3), .second] [])) _
    refine XS.aloadN X0.here hx rfl (hb hby d18_0) rfl rfl ?_
    refine XS.iloadN X0.here hx rfl (hb hby d18_1) rfl ?_
    refine XS.dloadN X0.here hx rfl (hb hby d18_2) rfl ?_
    refine XS.aloadN X0.here hx rfl (hb hby d18_3) rfl rfl ?_
    refine st4 _ ?_
    refine st5.trans ?_
    exact X5.returnOut hx Bd.returns (hb hby d18_10) hr
  · show Q18_2 Z a1 p2 y3 da sa D S0 h0 n0 _ T5.heap _
    exact ⟨rfl, N5, K5, ⟨_, Vd5⟩, ⟨_, Vs5⟩⟩
theorem ef_18_3 (m : MethodId) (x0 : Addr) (x1 : Int32) (x2 : UInt64) : entryFrame m #[(.ref x0), (.int x1), (.double x2)] 4 = mkF m 0 #[.val (.ref x0), .val (.int x1), .val (.double x2), .second] [] := by first | (simp [entryFrame, mkF, argsToLocals, Value.category]; done) | rfl
def Q18_3 (Z : State) (a1 : Addr) (p2 : Int32) (y3 : UInt64) (da : Addr) (sa : Addr) (D : Nat → Int32) (S0 : Nat → UInt64) (h0 : Heap) (n0 : Nat) (v : Option Value) (h : Heap) (L : List Loc) : Prop := v = none ∧ Fr n0 L ∧ Keep h0 h [da, sa] ∧ (∃ D', own_AI Z h da (3 : Int32) D') ∧ (∃ S', own_AD Z h sa (3 : Int32) S')
set_option maxRecDepth 65536 in
set_option maxHeartbeats 40000000 in
theorem rm18_3 (l : Launch) (Z : State) (a0 : Array Value) (hw : ∀ d ∈ tables_1, d.before a0 Z = true) (ws : List Jvm.Cond) (a1 : Addr) (p2 : Int32) (y3 : UInt64) (da : Addr) (sa : Addr) (D : Nat → Int32) (S0 : Nat → UInt64) (h0 : Heap) (n0 : Nat) (Z0 : n0 ≤ h0.size) (E_a1 : Exa Z h0 a1 sH) (F_d : Fld Z h0 a1 sH "documents" "[I" (.ref da)) (F_s : Fld Z h0 a1 sH "scores" "[D" (.ref sa)) (V_da : own_AI Z h0 da (3 : Int32) D) (V_sa : own_AD Z h0 sa (3 : Int32) S0) (nds : da ≠ sa) (nad : a1 ≠ da) (nas : a1 ≠ sa) (g_da : n0 ≤ da) (g_sa : n0 ≤ sa) (F_z : Fld Z h0 a1 sH "size" "I" (.int (3 : Int32))) (nn_y3 : Jvm.Free.Fl.NoNaN64 y3) :
    MetFree l (⟨sH, "replaceWorst", "(ID)V"⟩ : MethodName) (head1 (Jvm.Cond.code (⟨sH, "replaceWorst", "(ID)V"⟩ : MethodName) prog_188_method_5_code 4 none :: ws) ({ frames := 6, cells := 0, slots := 0, locals := 160 } : Room)) (fun a U => a = #[(.ref a1), (.int p2), (.double y3)] ∧ Z.Warmed39 U.vm ∧ U.heap = h0) (fun _ _ _ _ _ => True) (fun _ U o U' => ∃ v L, o = .returned v ∧ Q18_3 Z a1 p2 y3 da sa D S0 h0 n0 v U'.heap L ∧ FrameEnd U o U' L ({ frames := 6, cells := 0, slots := 0, locals := 160 } : Room).cells ({ frames := 6, cells := 0, slots := 0, locals := 160 } : Room).slots) := by
  refine MetFree.of_bodySF (plainFor_of_name pn_18) hisR ?_
  intro p e s m args below meth c s₁ Bd hml0 hP hK
  obtain ⟨rfl, hZ, hh⟩ := hP
  have hx := Bd.exec
  have hby := Bd.bytes
  have hml : c.maxLocals = 4 := hml0
  have hown : s.vm.findClass sH = some m.cls := findClass_of_methodNamed Bd.named
  have hnm := (name_of_methodNamed Bd.named Bd.method).1
  have X0 : Stand p l e ({ frames := 6, cells := 0, slots := 0, locals := 160 } : Room) s m #[(.ref a1), (.int p2), (.double y3)] below meth c s₁ [] 0 0 := Stand.of_body Bd
  have e0 : s₁.heap = h0 := by rw [← hh, Bd.state]; rfl
  have N0 := Fr.nil n0
  have pre0 : ∀ t, Steps p.tables e below (s₁.setTop (mkF m 0 #[.val (.ref a1), .val (.int p2), .val (.double y3), .second] [])) t → Steps p.tables e below (s₁.setTop (entryFrame m #[(.ref a1), (.int p2), (.double y3)] 4)) t := fun t k => castTop (ef_18_3 m a1 p2 y3) k

  obtain ⟨T4, X4, e4, st4⟩ := getF X0 hx hZ hown (host := "") (Or.inl (ww hw 79 rfl)) Via.refl e0 F_z (g := (mkF m 4 #[.val (.ref a1), .val (.int p2), .val (.double y3), .second] [(.ref a1), (.double y3), (.int p2), (.ref a1)])) rfl rfl (hb hby d18_4)
  obtain ⟨cq5, q5, q5'⟩ := E_a1.cell
  obtain ⟨_, _, ⟨T5, L5, k5, n5⟩, -, X5, ⟨Lc5, hQ5, l5, y5, z5⟩, st5⟩ := X4.privateBack hx (y := (⟨sH, "siftDown", "(IDI)V"⟩ : MethodName)) hown (mvT hZ (ww hw 121 rfl)) (mvT hZ (ww hw 122 rfl)) (mvT hZ (own_selp (ww hw 77 rfl) rfl (ww hw 123 rfl) (ww hw 122 rfl) (by decide))) (Cond.privateMethod_at (mvP hZ (ww hw 123 rfl) (args := #[]))) (mvT hZ (ww hw 124 rfl)) (by decide) (backOf (W := 0) (rm19_3 l Z a0 hw [] a1 p2 y3 da sa _ _ h0 n0 Z0 E_a1 F_d F_s V_da V_sa nds nad nas g_da g_sa nn_y3) hZ (ww hw 124 rfl) (ww hw 20 rfl) (by decide) (by decide)) (g := (mkF m 7 #[.val (.ref a1), .val (.int p2), .val (.double y3), .second] [(.int (3 : Int32)), (.double y3), (.int p2), (.ref a1)])) rfl (by rw [hml]; rfl) (Steps.refl _) (a := a1) (by rw [e4]; exact q5) q5' (argsL := [(.int p2), (.double y3), (.int (3 : Int32))]) (rest := []) (lenOf pd_18_15 rfl) rfl (by show 2 * 0 + _ ≤ _; exact Nat.le_of_eq rfl) (hb hby d18_7) (fun _ _ => ⟨rfl, e4, (by decide : 0 + 0 ≤ _), (by decide : 0 + 0 ≤ _)⟩)
  dsimp only [Pt.U, Pt.locs, Pt.cells, Pt.slots] at X5 l5 y5 z5 st5 hQ5
  subst l5 y5 z5
  obtain ⟨rfl, N5q, Kc5, ⟨D5, Vd5⟩, ⟨S5, Vs5⟩⟩ := hQ5
  have N5 := Fr.app N0 N5q
  have K5 : Keep h0 T5.heap [da, sa] := (Keep.refl h0 [da, sa]).trans Kc5 (allS (Or.inl (List.mem_of_getElem? (i := 0) rfl)) (allS (Or.inl (List.mem_of_getElem? (i := 1) rfl)) all0))
  obtain ⟨fs, hr, hrun, hended, hW, hsame⟩ := X5.leave (v := none) (fun _ => rfl)
  refine ⟨_, _, pre0 _ ?_, hrun, hended, _, _, rfl, ?_, ⟨_, rfl⟩, hW, hsame.mono (by decide) (by decide)⟩
  · show Steps _ _ _ (s₁.setTop (mkF m 0 #[.val (.ref a1), .val (.int p2), .val (.double y3), .second] [])) _
    refine XS.aloadN X0.here hx rfl (hb hby d18_0) rfl rfl ?_
    refine XS.iloadN X0.here hx rfl (hb hby d18_1) rfl ?_
    refine XS.dloadN X0.here hx rfl (hb hby d18_2) rfl ?_
    refine XS.aloadN X0.here hx rfl (hb hby d18_3) rfl rfl ?_
    refine st4 _ ?_
    refine st5.trans ?_
    exact X5.returnOut hx Bd.returns (hb hby d18_10) hr
  · show Q18_3 Z a1 p2 y3 da sa D S0 h0 n0 _ T5.heap _
    exact ⟨rfl, N5, K5, ⟨_, Vd5⟩, ⟨_, Vs5⟩⟩
theorem d15_0 : decode prog_188_method_4_code 0 = .ok (.aload_n 0, 1) := by decide +kernel
theorem d15_1 : decode prog_188_method_4_code 1 = .ok (.getfield 13, 3) := by decide +kernel
theorem d15_4 : decode prog_188_method_4_code 4 = .ok (.iconst 0, 1) := by decide +kernel
theorem d15_5 : decode prog_188_method_4_code 5 = .ok (.daload, 1) := by decide +kernel
theorem d15_6 : decode prog_188_method_4_code 6 = .ok (.dreturn, 1) := by decide +kernel
theorem pn_15 : plainName sH = true := by first | (simp [plainName, overriddenIn]; done) | decide +kernel
theorem ef_15 (m : MethodId) (x0 : Addr) : entryFrame m #[(.ref x0)] 1 = mkF m 0 #[.val (.ref x0)] [] := by first | (simp [entryFrame, mkF, argsToLocals, Value.category]; done) | rfl
def Q15 (Z : State) (a1 : Addr) (sa : Addr) (n : Int32) (S0 : Nat → UInt64) (h0 : Heap) (n0 : Nat) (v : Option Value) (h : Heap) (L : List Loc) : Prop := v = some (.double (S0 ((0 : Int32)).toNatClampNeg)) ∧ Jvm.Free.Fl.NoNaN64 (S0 ((0 : Int32)).toNatClampNeg) ∧ Fr n0 L ∧ h = h0
set_option maxRecDepth 65536 in
set_option maxHeartbeats 40000000 in
theorem rm15 (l : Launch) (Z : State) (a0 : Array Value) (hw : ∀ d ∈ tables_1, d.before a0 Z = true) (ws : List Jvm.Cond) (a1 : Addr) (sa : Addr) (n : Int32) (S0 : Nat → UInt64) (h0 : Heap) (n0 : Nat) (Z0 : n0 ≤ h0.size) (F_s : Fld Z h0 a1 sH "scores" "[D" (.ref sa)) (V_sa : own_AD Z h0 sa n S0) (h0n : (0 : Int32) < n) :
    MetFree l (⟨sH, "worstScore", "()D"⟩ : MethodName) (head1 (Jvm.Cond.code (⟨sH, "worstScore", "()D"⟩ : MethodName) prog_188_method_4_code 1 (some .double) :: ws) ({ frames := 0, cells := 0, slots := 0, locals := 0 } : Room)) (fun a U => a = #[(.ref a1)] ∧ Z.Warmed39 U.vm ∧ U.heap = h0) (fun _ _ _ _ _ => True) (fun _ U o U' => ∃ v L, o = .returned v ∧ Q15 Z a1 sa n S0 h0 n0 v U'.heap L ∧ FrameEnd U o U' L ({ frames := 0, cells := 0, slots := 0, locals := 0 } : Room).cells ({ frames := 0, cells := 0, slots := 0, locals := 0 } : Room).slots) := by
  refine MetFree.of_bodySF (plainFor_of_name pn_15) hisR ?_
  intro p e s m args below meth c s₁ Bd hml0 hP hK
  obtain ⟨rfl, hZ, hh⟩ := hP
  have hx := Bd.exec
  have hby := Bd.bytes
  have hml : c.maxLocals = 1 := hml0
  have hown : s.vm.findClass sH = some m.cls := findClass_of_methodNamed Bd.named
  have hnm := (name_of_methodNamed Bd.named Bd.method).1
  have X0 : Stand p l e ({ frames := 0, cells := 0, slots := 0, locals := 0 } : Room) s m #[(.ref a1)] below meth c s₁ [] 0 0 := Stand.of_body Bd
  have e0 : s₁.heap = h0 := by rw [← hh, Bd.state]; rfl
  have N0 := Fr.nil n0
  have pre0 : ∀ t, Steps p.tables e below (s₁.setTop (mkF m 0 #[.val (.ref a1)] [])) t → Steps p.tables e below (s₁.setTop (entryFrame m #[(.ref a1)] 1)) t := fun t k => castTop (ef_15 m a1) k

  obtain ⟨T2, X2, e2, st2⟩ := getF X0 hx hZ hown (host := "") (Or.inl (ww hw 29 rfl)) Via.refl e0 F_s (g := (mkF m 1 #[.val (.ref a1)] [(.ref a1)])) rfl rfl (hb hby d15_1)
  obtain ⟨cl_5, Ar_5, S_5, H_5⟩ := id (V_sa)
  have hin5 : ¬ ((0 : Int32) < 0 ∨ cl_5.slots.size ≤ ((0 : Int32)).toNatClampNeg) := inb_of S_5 ⟨by decide, h0n⟩
  obtain ⟨hat5, nn_5⟩ := H_5 _ (own_inb hin5)
  obtain ⟨fs, hr, hrun, hended, hW, hsame⟩ := X2.leave (v := some (.double (S0 ((0 : Int32)).toNatClampNeg))) (fun h => by rw [Bd.returns] at h; cases h)
  refine ⟨_, _, pre0 _ ?_, hrun, hended, _, _, rfl, ?_, ⟨_, rfl⟩, hW, hsame.mono (by decide) (by decide)⟩
  · show Steps _ _ _ (s₁.setTop (mkF m 0 #[.val (.ref a1)] [])) _
    refine XS.aloadN X0.here hx rfl (hb hby d15_0) rfl rfl ?_
    refine st2 _ ?_
    refine XS.iconst X2.here hx rfl (hb hby d15_4) ?_
    refine X2.daload hx (j := (0 : Int32)) (v := (.double (S0 ((0 : Int32)).toNatClampNeg))) (by rw [e2]; exact Ar_5.1) (State.isArrayOf_alike hZ.alike Ar_5.2.1) Ar_5.2.2 hin5 hat5 (g := (mkF m 5 #[.val (.ref a1)] [(.int (0 : Int32)), (.ref sa)])) rfl rfl (hb hby d15_5) _ ?_
    exact own_retD X2 hx Bd.returns (hb hby d15_6) hr
  · show Q15 Z a1 sa n S0 h0 n0 _ T2.heap _
    rw [e2]
    exact ⟨rfl, nn_5, N0, rfl⟩
theorem d17_0 : decode prog_188_method_3_code 0 = .ok (.aload_n 0, 1) := by decide +kernel
theorem d17_1 : decode prog_188_method_3_code 1 = .ok (.getfield 7, 3) := by decide +kernel
theorem d17_4 : decode prog_188_method_3_code 4 = .ok (.iconst 0, 1) := by decide +kernel
theorem d17_5 : decode prog_188_method_3_code 5 = .ok (.iaload, 1) := by decide +kernel
theorem d17_6 : decode prog_188_method_3_code 6 = .ok (.ireturn, 1) := by decide +kernel
theorem pn_17 : plainName sH = true := by first | (simp [plainName, overriddenIn]; done) | decide +kernel
theorem ef_17 (m : MethodId) (x0 : Addr) : entryFrame m #[(.ref x0)] 1 = mkF m 0 #[.val (.ref x0)] [] := by first | (simp [entryFrame, mkF, argsToLocals, Value.category]; done) | rfl
def Q17 (Z : State) (a1 : Addr) (da : Addr) (n : Int32) (D : Nat → Int32) (h0 : Heap) (n0 : Nat) (v : Option Value) (h : Heap) (L : List Loc) : Prop := v = some (.int (D ((0 : Int32)).toNatClampNeg)) ∧ Fr n0 L ∧ h = h0
set_option maxRecDepth 65536 in
set_option maxHeartbeats 40000000 in
theorem rm17 (l : Launch) (Z : State) (a0 : Array Value) (hw : ∀ d ∈ tables_1, d.before a0 Z = true) (ws : List Jvm.Cond) (a1 : Addr) (da : Addr) (n : Int32) (D : Nat → Int32) (h0 : Heap) (n0 : Nat) (Z0 : n0 ≤ h0.size) (F_d : Fld Z h0 a1 sH "documents" "[I" (.ref da)) (V_da : own_AI Z h0 da n D) (h0n : (0 : Int32) < n) :
    MetFree l (⟨sH, "worstDocument", "()I"⟩ : MethodName) (head1 (Jvm.Cond.code (⟨sH, "worstDocument", "()I"⟩ : MethodName) prog_188_method_3_code 1 (some .int) :: ws) ({ frames := 0, cells := 0, slots := 0, locals := 0 } : Room)) (fun a U => a = #[(.ref a1)] ∧ Z.Warmed39 U.vm ∧ U.heap = h0) (fun _ _ _ _ _ => True) (fun _ U o U' => ∃ v L, o = .returned v ∧ Q17 Z a1 da n D h0 n0 v U'.heap L ∧ FrameEnd U o U' L ({ frames := 0, cells := 0, slots := 0, locals := 0 } : Room).cells ({ frames := 0, cells := 0, slots := 0, locals := 0 } : Room).slots) := by
  refine MetFree.of_bodySF (plainFor_of_name pn_17) hisR ?_
  intro p e s m args below meth c s₁ Bd hml0 hP hK
  obtain ⟨rfl, hZ, hh⟩ := hP
  have hx := Bd.exec
  have hby := Bd.bytes
  have hml : c.maxLocals = 1 := hml0
  have hown : s.vm.findClass sH = some m.cls := findClass_of_methodNamed Bd.named
  have hnm := (name_of_methodNamed Bd.named Bd.method).1
  have X0 : Stand p l e ({ frames := 0, cells := 0, slots := 0, locals := 0 } : Room) s m #[(.ref a1)] below meth c s₁ [] 0 0 := Stand.of_body Bd
  have e0 : s₁.heap = h0 := by rw [← hh, Bd.state]; rfl
  have N0 := Fr.nil n0
  have pre0 : ∀ t, Steps p.tables e below (s₁.setTop (mkF m 0 #[.val (.ref a1)] [])) t → Steps p.tables e below (s₁.setTop (entryFrame m #[(.ref a1)] 1)) t := fun t k => castTop (ef_17 m a1) k

  obtain ⟨T2, X2, e2, st2⟩ := getF X0 hx hZ hown (host := "") (Or.inl (ww hw 26 rfl)) Via.refl e0 F_d (g := (mkF m 1 #[.val (.ref a1)] [(.ref a1)])) rfl rfl (hb hby d17_1)
  obtain ⟨cl_5, Ar_5, S_5, H_5⟩ := id (V_da)
  have hin5 : ¬ ((0 : Int32) < 0 ∨ cl_5.slots.size ≤ ((0 : Int32)).toNatClampNeg) := inb_of S_5 ⟨by decide, h0n⟩
  have hat5 := H_5 _ (own_inb hin5)
  obtain ⟨fs, hr, hrun, hended, hW, hsame⟩ := X2.leave (v := some (.int (D ((0 : Int32)).toNatClampNeg))) (fun h => by rw [Bd.returns] at h; cases h)
  refine ⟨_, _, pre0 _ ?_, hrun, hended, _, _, rfl, ?_, ⟨_, rfl⟩, hW, hsame.mono (by decide) (by decide)⟩
  · show Steps _ _ _ (s₁.setTop (mkF m 0 #[.val (.ref a1)] [])) _
    refine XS.aloadN X0.here hx rfl (hb hby d17_0) rfl rfl ?_
    refine st2 _ ?_
    refine XS.iconst X2.here hx rfl (hb hby d17_4) ?_
    refine X2.iaload hx (j := (0 : Int32)) (v := (.int (D ((0 : Int32)).toNatClampNeg))) (by rw [e2]; exact Ar_5.1) (State.isArrayOf_alike hZ.alike Ar_5.2.1) Ar_5.2.2 hin5 hat5 (g := (mkF m 5 #[.val (.ref a1)] [(.int (0 : Int32)), (.ref da)])) rfl rfl (hb hby d17_5) _ ?_
    exact retI X2 hx Bd.returns (hb hby d17_6) hr
  · show Q17 Z a1 da n D h0 n0 _ T2.heap _
    rw [e2]
    exact ⟨rfl, N0, rfl⟩
theorem own_kw {h h' : Heap} {ws ws' : List Addr} (K : Keep h h' ws) (q : ∀ x ∈ ws, x ∈ ws') : Keep h h' ws' := ⟨K.1, fun x c e n => K.2.1 x c e (fun m => n (q x m)), K.2.2⟩
theorem d6_0 : decode prog_186_method_3_code 0 = .ok (.aload_n 0, 1) := by decide +kernel
theorem d6_1 : decode prog_186_method_3_code 1 = .ok (.getfield 29, 3) := by decide +kernel
theorem d6_4 : decode prog_186_method_3_code 4 = .ok (.getfield 46, 3) := by decide +kernel
theorem d6_7 : decode prog_186_method_3_code 7 = .ok (.aload_n 0, 1) := by decide +kernel
theorem d6_8 : decode prog_186_method_3_code 8 = .ok (.getfield 20, 3) := by decide +kernel
theorem d6_11 : decode prog_186_method_3_code 11 = .ok (.if_icmp .ne 7, 3) := by decide +kernel
theorem d6_18 : decode prog_186_method_3_code 18 = .ok (.iconst 0, 1) := by decide +kernel
theorem d6_19 : decode prog_186_method_3_code 19 = .ok (.ireturn, 1) := by decide +kernel
theorem pn_6 : plainName sB = true := by first | (simp [plainName, overriddenIn]; done) | decide +kernel
theorem ef_6_0 (m : MethodId) (x0 : Addr) : entryFrame m #[(.ref x0)] 1 = mkF m 0 #[.val (.ref x0)] [] := by first | (simp [entryFrame, mkF, argsToLocals, Value.category]; done) | rfl
def Q6_0 (Z : State) (a1 : Addr) (w2 : Addr) (w4 : Int32) (w6 : Int32) (h0 : Heap) (n0 : Nat) (v : Option Value) (h : Heap) (L : List Loc) : Prop := own_Qc (0 : Int32) h0 n0 v h L
set_option maxRecDepth 65536 in
set_option maxHeartbeats 40000000 in
theorem rm6_0 (l : Launch) (Z : State) (a0 : Array Value) (hw : ∀ d ∈ tables_1, d.before a0 Z = true) (ws : List Jvm.Cond) (a1 : Addr) (w2 : Addr) (w4 : Int32) (w6 : Int32) (h0 : Heap) (n0 : Nat) (Z0 : n0 ≤ h0.size) (F_best_a1 : Fld Z h0 a1 sB "best" "Lcom/example/calpurnia/calpurnia/ranking/BestDocuments$Heap;" (.ref w2)) (F_size_w2 : Fld Z h0 w2 sH "size" "I" (.int w4)) (F_capacity_a1 : Fld Z h0 a1 sB "capacity" "I" (.int w6)) (hc11 : ¬ (w4 = w6)) :
    MetFree l (⟨sB, "full", "()Z"⟩ : MethodName) (head1 (Jvm.Cond.code (⟨sB, "full", "()Z"⟩ : MethodName) prog_186_method_3_code 1 (some .boolean) :: ws) ({ frames := 0, cells := 0, slots := 0, locals := 0 } : Room)) (fun a U => a = #[(.ref a1)] ∧ Z.Warmed39 U.vm ∧ U.heap = h0) (fun _ _ _ _ _ => True) (fun _ U o U' => ∃ v L, o = .returned v ∧ Q6_0 Z a1 w2 w4 w6 h0 n0 v U'.heap L ∧ FrameEnd U o U' L ({ frames := 0, cells := 0, slots := 0, locals := 0 } : Room).cells ({ frames := 0, cells := 0, slots := 0, locals := 0 } : Room).slots) := by
  refine MetFree.of_bodySF (plainFor_of_name pn_6) hisR ?_
  intro p e s m args below meth c s₁ Bd hml0 hP hK
  obtain ⟨rfl, hZ, hh⟩ := hP
  have hx := Bd.exec
  have hby := Bd.bytes
  have hml : c.maxLocals = 1 := hml0
  have hown : s.vm.findClass sB = some m.cls := findClass_of_methodNamed Bd.named
  have hnm := (name_of_methodNamed Bd.named Bd.method).1
  have X0 : Stand p l e ({ frames := 0, cells := 0, slots := 0, locals := 0 } : Room) s m #[(.ref a1)] below meth c s₁ [] 0 0 := Stand.of_body Bd
  have e0 : s₁.heap = h0 := by rw [← hh, Bd.state]; rfl
  have N0 := Fr.nil n0
  have pre0 : ∀ t, Steps p.tables e below (s₁.setTop (mkF m 0 #[.val (.ref a1)] [])) t → Steps p.tables e below (s₁.setTop (entryFrame m #[(.ref a1)] 1)) t := fun t k => castTop (ef_6_0 m a1) k

  obtain ⟨T3, X3, e3, st3⟩ := getF X0 hx hZ hown (host := "") (Or.inl (ww hw 31 rfl)) Via.refl e0 F_best_a1 (g := (mkF m 1 #[.val (.ref a1)] [(.ref a1)])) rfl rfl (hb hby d6_1)
  obtain ⟨T5, X5, e5, st5⟩ := own_getR X3 hx hZ hown (ww hw 61 rfl) e3 F_size_w2 (g := (mkF m 4 #[.val (.ref a1)] [(.ref w2)])) rfl rfl (hb hby d6_4)
  obtain ⟨T7, X7, e7, st7⟩ := getF X5 hx hZ hown (host := "") (Or.inl (ww hw 16 rfl)) Via.refl e5 F_capacity_a1 (g := (mkF m 8 #[.val (.ref a1)] [(.ref a1), (.int w4)])) rfl rfl (hb hby d6_8)
  obtain ⟨fs, hr, hrun, hended, hW, hsame⟩ := X7.leave (v := some (.int (0 : Int32))) (fun h => by rw [Bd.returns] at h; cases h)
  refine ⟨_, _, pre0 _ ?_, hrun, hended, _, _, rfl, ?_, ⟨_, rfl⟩, hW, hsame.mono (by decide) (by decide)⟩
  · show Steps _ _ _ (s₁.setTop (mkF m 0 #[.val (.ref a1)] [])) _
    refine XS.aloadN X0.here hx rfl (hb hby d6_0) rfl rfl ?_
    refine st3 _ ?_
    refine st5 _ ?_
    refine XS.aloadN X5.here hx rfl (hb hby d6_7) rfl rfl ?_
    refine st7 _ ?_
    refine XS.icmpYes X7.here hx rfl (pc0 := 11) (pc' := 18) rfl (hb hby d6_11) rfl (feq hc11).2 (by decide) (by decide) ?_
    refine XS.iconst X7.here hx rfl (hb hby d6_18) ?_
    exact retN X7 hx (t := .boolean) Bd.returns (by simp) (hb hby d6_19) hr
  · show Q6_0 Z a1 w2 w4 w6 h0 n0 _ T7.heap _
    rw [e7]
    exact ⟨rfl, N0, rfl⟩
theorem d6_14 : decode prog_186_method_3_code 14 = .ok (.iconst 1, 1) := by decide +kernel
theorem d6_15 : decode prog_186_method_3_code 15 = .ok (.goto 4, 3) := by decide +kernel
theorem ef_6_1 (m : MethodId) (x0 : Addr) : entryFrame m #[(.ref x0)] 1 = mkF m 0 #[.val (.ref x0)] [] := by first | (simp [entryFrame, mkF, argsToLocals, Value.category]; done) | rfl
def Q6_1 (Z : State) (a1 : Addr) (w2 : Addr) (w4 : Int32) (w6 : Int32) (h0 : Heap) (n0 : Nat) (v : Option Value) (h : Heap) (L : List Loc) : Prop := own_Qc (1 : Int32) h0 n0 v h L
set_option maxRecDepth 65536 in
set_option maxHeartbeats 40000000 in
theorem rm6_1 (l : Launch) (Z : State) (a0 : Array Value) (hw : ∀ d ∈ tables_1, d.before a0 Z = true) (ws : List Jvm.Cond) (a1 : Addr) (w2 : Addr) (w4 : Int32) (w6 : Int32) (h0 : Heap) (n0 : Nat) (Z0 : n0 ≤ h0.size) (F_best_a1 : Fld Z h0 a1 sB "best" "Lcom/example/calpurnia/calpurnia/ranking/BestDocuments$Heap;" (.ref w2)) (F_size_w2 : Fld Z h0 w2 sH "size" "I" (.int w4)) (F_capacity_a1 : Fld Z h0 a1 sB "capacity" "I" (.int w6)) (hc11 : w4 = w6) :
    MetFree l (⟨sB, "full", "()Z"⟩ : MethodName) (head1 (Jvm.Cond.code (⟨sB, "full", "()Z"⟩ : MethodName) prog_186_method_3_code 1 (some .boolean) :: ws) ({ frames := 0, cells := 0, slots := 0, locals := 0 } : Room)) (fun a U => a = #[(.ref a1)] ∧ Z.Warmed39 U.vm ∧ U.heap = h0) (fun _ _ _ _ _ => True) (fun _ U o U' => ∃ v L, o = .returned v ∧ Q6_1 Z a1 w2 w4 w6 h0 n0 v U'.heap L ∧ FrameEnd U o U' L ({ frames := 0, cells := 0, slots := 0, locals := 0 } : Room).cells ({ frames := 0, cells := 0, slots := 0, locals := 0 } : Room).slots) := by
  refine MetFree.of_bodySF (plainFor_of_name pn_6) hisR ?_
  intro p e s m args below meth c s₁ Bd hml0 hP hK
  obtain ⟨rfl, hZ, hh⟩ := hP
  have hx := Bd.exec
  have hby := Bd.bytes
  have hml : c.maxLocals = 1 := hml0
  have hown : s.vm.findClass sB = some m.cls := findClass_of_methodNamed Bd.named
  have hnm := (name_of_methodNamed Bd.named Bd.method).1
  have X0 : Stand p l e ({ frames := 0, cells := 0, slots := 0, locals := 0 } : Room) s m #[(.ref a1)] below meth c s₁ [] 0 0 := Stand.of_body Bd
  have e0 : s₁.heap = h0 := by rw [← hh, Bd.state]; rfl
  have N0 := Fr.nil n0
  have pre0 : ∀ t, Steps p.tables e below (s₁.setTop (mkF m 0 #[.val (.ref a1)] [])) t → Steps p.tables e below (s₁.setTop (entryFrame m #[(.ref a1)] 1)) t := fun t k => castTop (ef_6_1 m a1) k

  obtain ⟨T3, X3, e3, st3⟩ := getF X0 hx hZ hown (host := "") (Or.inl (ww hw 31 rfl)) Via.refl e0 F_best_a1 (g := (mkF m 1 #[.val (.ref a1)] [(.ref a1)])) rfl rfl (hb hby d6_1)
  obtain ⟨T5, X5, e5, st5⟩ := own_getR X3 hx hZ hown (ww hw 61 rfl) e3 F_size_w2 (g := (mkF m 4 #[.val (.ref a1)] [(.ref w2)])) rfl rfl (hb hby d6_4)
  obtain ⟨T7, X7, e7, st7⟩ := getF X5 hx hZ hown (host := "") (Or.inl (ww hw 16 rfl)) Via.refl e5 F_capacity_a1 (g := (mkF m 8 #[.val (.ref a1)] [(.ref a1), (.int w4)])) rfl rfl (hb hby d6_8)
  obtain ⟨fs, hr, hrun, hended, hW, hsame⟩ := X7.leave (v := some (.int (1 : Int32))) (fun h => by rw [Bd.returns] at h; cases h)
  refine ⟨_, _, pre0 _ ?_, hrun, hended, _, _, rfl, ?_, ⟨_, rfl⟩, hW, hsame.mono (by decide) (by decide)⟩
  · show Steps _ _ _ (s₁.setTop (mkF m 0 #[.val (.ref a1)] [])) _
    refine XS.aloadN X0.here hx rfl (hb hby d6_0) rfl rfl ?_
    refine st3 _ ?_
    refine st5 _ ?_
    refine XS.aloadN X5.here hx rfl (hb hby d6_7) rfl rfl ?_
    refine st7 _ ?_
    refine XS.icmpNo X7.here hx rfl (hb hby d6_11) rfl (teq hc11).2 ?_
    refine XS.iconst X7.here hx rfl (hb hby d6_14) ?_
    refine XS.goto X7.here hx rfl (pc0 := 15) (pc' := 19) rfl (hb hby d6_15) (by decide) (by decide) ?_
    exact retN X7 hx (t := .boolean) Bd.returns (by simp) (hb hby d6_19) hr
  · show Q6_1 Z a1 w2 w4 w6 h0 n0 _ T7.heap _
    rw [e7]
    exact ⟨rfl, N0, rfl⟩
theorem d16_0 : decode prog_186_method_5_code 0 = .ok (.aload_n 0, 1) := by decide +kernel
theorem d16_1 : decode prog_186_method_5_code 1 = .ok (.getfield 33, 3) := by decide +kernel
theorem d16_4 : decode prog_186_method_5_code 4 = .ok (.ifnull 15, 3) := by decide +kernel
theorem d16_19 : decode prog_186_method_5_code 19 = .ok (.iconst 0, 1) := by decide +kernel
theorem d16_20 : decode prog_186_method_5_code 20 = .ok (.ireturn, 1) := by decide +kernel
theorem pn_16 : plainName sB = true := by first | (simp [plainName, overriddenIn]; done) | decide +kernel
theorem ef_16 (m : MethodId) (x0 : Addr) (x1 : UInt64) : entryFrame m #[(.ref x0), (.double x1)] 3 = mkF m 0 #[.val (.ref x0), .val (.double x1), .second] [] := by first | (simp [entryFrame, mkF, argsToLocals, Value.category]; done) | rfl
def Q16 (Z : State) (a1 : Addr) (y2 : UInt64) (h0 : Heap) (n0 : Nat) (v : Option Value) (h : Heap) (L : List Loc) : Prop := own_Qc (0 : Int32) h0 n0 v h L
set_option maxRecDepth 65536 in
set_option maxHeartbeats 40000000 in
theorem rm16 (l : Launch) (Z : State) (a0 : Array Value) (hw : ∀ d ∈ tables_1, d.before a0 Z = true) (ws : List Jvm.Cond) (a1 : Addr) (y2 : UInt64) (h0 : Heap) (n0 : Nat) (Z0 : n0 ≤ h0.size) (F_asRead_a1 : Fld Z h0 a1 sB "asRead" "Ljava/util/function/DoubleUnaryOperator;" .null) :
    MetFree l (⟨sB, "keepsAsTie", "(D)Z"⟩ : MethodName) (head1 (Jvm.Cond.code (⟨sB, "keepsAsTie", "(D)Z"⟩ : MethodName) prog_186_method_5_code 3 (some .boolean) :: ws) ({ frames := 0, cells := 0, slots := 0, locals := 0 } : Room)) (fun a U => a = #[(.ref a1), (.double y2)] ∧ Z.Warmed39 U.vm ∧ U.heap = h0) (fun _ _ _ _ _ => True) (fun _ U o U' => ∃ v L, o = .returned v ∧ Q16 Z a1 y2 h0 n0 v U'.heap L ∧ FrameEnd U o U' L ({ frames := 0, cells := 0, slots := 0, locals := 0 } : Room).cells ({ frames := 0, cells := 0, slots := 0, locals := 0 } : Room).slots) := by
  refine MetFree.of_bodySF (plainFor_of_name pn_16) hisR ?_
  intro p e s m args below meth c s₁ Bd hml0 hP hK
  obtain ⟨rfl, hZ, hh⟩ := hP
  have hx := Bd.exec
  have hby := Bd.bytes
  have hml : c.maxLocals = 3 := hml0
  have hown : s.vm.findClass sB = some m.cls := findClass_of_methodNamed Bd.named
  have hnm := (name_of_methodNamed Bd.named Bd.method).1
  have X0 : Stand p l e ({ frames := 0, cells := 0, slots := 0, locals := 0 } : Room) s m #[(.ref a1), (.double y2)] below meth c s₁ [] 0 0 := Stand.of_body Bd
  have e0 : s₁.heap = h0 := by rw [← hh, Bd.state]; rfl
  have N0 := Fr.nil n0
  have pre0 : ∀ t, Steps p.tables e below (s₁.setTop (mkF m 0 #[.val (.ref a1), .val (.double y2), .second] [])) t → Steps p.tables e below (s₁.setTop (entryFrame m #[(.ref a1), (.double y2)] 3)) t := fun t k => castTop (ef_16 m a1 y2) k

  obtain ⟨T3, X3, e3, st3⟩ := getF X0 hx hZ hown (host := "") (Or.inl (ww hw 33 rfl)) Via.refl e0 F_asRead_a1 (g := (mkF m 1 #[.val (.ref a1), .val (.double y2), .second] [(.ref a1)])) rfl rfl (hb hby d16_1)
  obtain ⟨fs, hr, hrun, hended, hW, hsame⟩ := X3.leave (v := some (.int (0 : Int32))) (fun h => by rw [Bd.returns] at h; cases h)
  refine ⟨_, _, pre0 _ ?_, hrun, hended, _, _, rfl, ?_, ⟨_, rfl⟩, hW, hsame.mono (by decide) (by decide)⟩
  · show Steps _ _ _ (s₁.setTop (mkF m 0 #[.val (.ref a1), .val (.double y2), .second] [])) _
    refine XS.aloadN X0.here hx rfl (hb hby d16_0) rfl rfl ?_
    refine st3 _ ?_
    refine XS.ifnullYes X3.here hx rfl (pc0 := 4) (pc' := 19) rfl (hb hby d16_4) rfl (by decide) (by decide) ?_
    refine XS.iconst X3.here hx rfl (hb hby d16_19) ?_
    exact retN X3 hx (t := .boolean) Bd.returns (by simp) (hb hby d16_20) hr
  · show Q16 Z a1 y2 h0 n0 _ T3.heap _
    rw [e3]
    exact ⟨rfl, N0, rfl⟩
theorem d8_0 : decode prog_186_method_6_code 0 = .ok (.aload_n 0, 1) := by decide +kernel
theorem d8_1 : decode prog_186_method_6_code 1 = .ok (.getfield 70, 3) := by decide +kernel
theorem d8_4 : decode prog_186_method_6_code 4 = .ok (.ifCond .eq 13, 3) := by decide +kernel
theorem d8_17 : decode prog_186_method_6_code 17 = .ok (.aload_n 0, 1) := by decide +kernel
theorem d8_18 : decode prog_186_method_6_code 18 = .ok (.getfield 29, 3) := by decide +kernel
theorem d8_21 : decode prog_186_method_6_code 21 = .ok (.getfield 46, 3) := by decide +kernel
theorem d8_24 : decode prog_186_method_6_code 24 = .ok (.aload_n 0, 1) := by decide +kernel
theorem d8_25 : decode prog_186_method_6_code 25 = .ok (.getfield 20, 3) := by decide +kernel
theorem d8_28 : decode prog_186_method_6_code 28 = .ok (.if_icmp .ge 34, 3) := by decide +kernel
theorem d8_62 : decode prog_186_method_6_code 62 = .ok (.aload_n 0, 1) := by decide +kernel
theorem d8_63 : decode prog_186_method_6_code 63 = .ok (.getfield 20, 3) := by decide +kernel
theorem d8_66 : decode prog_186_method_6_code 66 = .ok (.ifCond .le 72, 3) := by decide +kernel
theorem d8_138 : decode prog_186_method_6_code 138 = .ok (.aload_n 0, 1) := by decide +kernel
theorem d8_139 : decode prog_186_method_6_code 139 = .ok (.getfield 20, 3) := by decide +kernel
theorem d8_142 : decode prog_186_method_6_code 142 = .ok (.ifCond .le 20, 3) := by decide +kernel
theorem d8_162 : decode prog_186_method_6_code 162 = .ok (.return_, 1) := by decide +kernel
theorem pn_8 : plainName sB = true := by first | (simp [plainName, overriddenIn]; done) | decide +kernel
theorem ef_8_0_0_0 (m : MethodId) (x0 : Addr) (x1 : Int32) (x2 : UInt64) : entryFrame m #[(.ref x0), (.int x1), (.double x2)] 7 = mkF m 0 #[.val (.ref x0), .val (.int x1), .val (.double x2), .second, .unset, .unset, .unset] [] := by first | (simp [entryFrame, mkF, argsToLocals, Value.category]; done) | rfl
def Q8_0_0_0 (Z : State) (a1 : Addr) (p2 : Int32) (y3 : UInt64) (hp : Addr) (da : Addr) (sa : Addr) (D : Nat → Int32) (S0 : Nat → UInt64) (h0 : Heap) (n0 : Nat) (v : Option Value) (h : Heap) (L : List Loc) : Prop := v = none ∧ Fr n0 L ∧ Keep h0 h [hp, da, sa] ∧ Fld Z h hp sH "documents" "[I" (.ref da) ∧ Fld Z h hp sH "scores" "[D" (.ref sa) ∧ Fld Z h hp sH "size" "I" (.int (0 : Int32)) ∧ (∃ D', own_AI Z h da (0 : Int32) D') ∧ (∃ S', own_AD Z h sa (0 : Int32) S')
set_option maxRecDepth 65536 in
set_option maxHeartbeats 40000000 in
theorem rm8_0_0_0 (l : Launch) (Z : State) (a0 : Array Value) (hw : ∀ d ∈ tables_1, d.before a0 Z = true) (ws : List Jvm.Cond) (a1 : Addr) (p2 : Int32) (y3 : UInt64) (hp : Addr) (da : Addr) (sa : Addr) (D : Nat → Int32) (S0 : Nat → UInt64) (h0 : Heap) (n0 : Nat) (Z0 : n0 ≤ h0.size) (E_a1 : Exa Z h0 a1 sB) (F_c : Fld Z h0 a1 sB "capacity" "I" (.int (0 : Int32))) (F_b : Fld Z h0 a1 sB "best" "Lcom/example/calpurnia/calpurnia/ranking/BestDocuments$Heap;" (.ref hp)) (F_a : Fld Z h0 a1 sB "asRead" "Ljava/util/function/DoubleUnaryOperator;" .null) (F_t : Fld Z h0 a1 sB "sorted" "Z" (.int (0 : Int32))) (E_hp : Exa Z h0 hp sH) (F_d : Fld Z h0 hp sH "documents" "[I" (.ref da)) (F_s : Fld Z h0 hp sH "scores" "[D" (.ref sa)) (F_z : Fld Z h0 hp sH "size" "I" (.int (0 : Int32))) (V_da : own_AI Z h0 da (0 : Int32) D) (V_sa : own_AD Z h0 sa (0 : Int32) S0) (nbh : a1 ≠ hp) (nbd : a1 ≠ da) (nbs : a1 ≠ sa) (nhd : hp ≠ da) (nhs : hp ≠ sa) (nds : da ≠ sa) (g_hp : n0 ≤ hp) (g_da : n0 ≤ da) (g_sa : n0 ≤ sa) (nn_y3 : Jvm.Free.Fl.NoNaN64 y3) :
    MetFree l (⟨sB, "offer", "(ID)V"⟩ : MethodName) (head1 (Jvm.Cond.code (⟨sB, "offer", "(ID)V"⟩ : MethodName) prog_186_method_6_code 7 none :: ws) ({ frames := 7, cells := 0, slots := 0, locals := 190 } : Room)) (fun a U => a = #[(.ref a1), (.int p2), (.double y3)] ∧ Z.Warmed39 U.vm ∧ U.heap = h0) (fun _ _ _ _ _ => True) (fun _ U o U' => ∃ v L, o = .returned v ∧ Q8_0_0_0 Z a1 p2 y3 hp da sa D S0 h0 n0 v U'.heap L ∧ FrameEnd U o U' L ({ frames := 7, cells := 0, slots := 0, locals := 190 } : Room).cells ({ frames := 7, cells := 0, slots := 0, locals := 190 } : Room).slots) := by
  refine MetFree.of_bodySF (plainFor_of_name pn_8) hisR ?_
  intro p e s m args below meth c s₁ Bd hml0 hP hK
  obtain ⟨rfl, hZ, hh⟩ := hP
  have hx := Bd.exec
  have hby := Bd.bytes
  have hml : c.maxLocals = 7 := hml0
  have hown : s.vm.findClass sB = some m.cls := findClass_of_methodNamed Bd.named
  have hnm := (name_of_methodNamed Bd.named Bd.method).1
  have X0 : Stand p l e ({ frames := 7, cells := 0, slots := 0, locals := 190 } : Room) s m #[(.ref a1), (.int p2), (.double y3)] below meth c s₁ [] 0 0 := Stand.of_body Bd
  have e0 : s₁.heap = h0 := by rw [← hh, Bd.state]; rfl
  have N0 := Fr.nil n0
  have pre0 : ∀ t, Steps p.tables e below (s₁.setTop (mkF m 0 #[.val (.ref a1), .val (.int p2), .val (.double y3), .second, .unset, .unset, .unset] [])) t → Steps p.tables e below (s₁.setTop (entryFrame m #[(.ref a1), (.int p2), (.double y3)] 7)) t := fun t k => castTop (ef_8_0_0_0 m a1 p2 y3) k

  obtain ⟨T4, X4, e4, st4⟩ := getF X0 hx hZ hown (host := "") (Or.inl (ww hw 72 rfl)) Via.refl e0 F_t (g := (mkF m 1 #[.val (.ref a1), .val (.int p2), .val (.double y3), .second, .unset, .unset, .unset] [(.ref a1)])) rfl rfl (hb hby d8_1)
  obtain ⟨T5, X5, e5, st5⟩ := getF X4 hx hZ hown (host := "") (Or.inl (ww hw 31 rfl)) Via.refl e4 F_b (g := (mkF m 18 #[.val (.ref a1), .val (.int p2), .val (.double y3), .second, .unset, .unset, .unset] [(.ref a1)])) rfl rfl (hb hby d8_18)
  obtain ⟨T6, X6, e6, st6⟩ := own_getR X5 hx hZ hown (ww hw 61 rfl) e5 F_z (g := (mkF m 21 #[.val (.ref a1), .val (.int p2), .val (.double y3), .second, .unset, .unset, .unset] [(.ref hp)])) rfl rfl (hb hby d8_21)
  obtain ⟨T7, X7, e7, st7⟩ := getF X6 hx hZ hown (host := "") (Or.inl (ww hw 16 rfl)) Via.refl e6 F_c (g := (mkF m 25 #[.val (.ref a1), .val (.int p2), .val (.double y3), .second, .unset, .unset, .unset] [(.ref a1), (.int (0 : Int32))])) rfl rfl (hb hby d8_25)
  obtain ⟨T8, X8, e8, st8⟩ := getF X7 hx hZ hown (host := "") (Or.inl (ww hw 16 rfl)) Via.refl e7 F_c (g := (mkF m 63 #[.val (.ref a1), .val (.int p2), .val (.double y3), .second, .unset, .unset, .unset] [(.ref a1)])) rfl rfl (hb hby d8_63)
  obtain ⟨T9, X9, e9, st9⟩ := getF X8 hx hZ hown (host := "") (Or.inl (ww hw 16 rfl)) Via.refl e8 F_c (g := (mkF m 139 #[.val (.ref a1), .val (.int p2), .val (.double y3), .second, .unset, .unset, .unset] [(.ref a1)])) rfl rfl (hb hby d8_139)
  obtain ⟨fs, hr, hrun, hended, hW, hsame⟩ := X9.leave (v := none) (fun _ => rfl)
  refine ⟨_, _, pre0 _ ?_, hrun, hended, _, _, rfl, ?_, ⟨_, rfl⟩, hW, hsame.mono (by decide) (by decide)⟩
  · show Steps _ _ _ (s₁.setTop (mkF m 0 #[.val (.ref a1), .val (.int p2), .val (.double y3), .second, .unset, .unset, .unset] [])) _
    refine XS.aloadN X0.here hx rfl (hb hby d8_0) rfl rfl ?_
    refine st4 _ ?_
    refine XS.ifYes X4.here hx rfl (pc0 := 4) (pc' := 17) rfl (hb hby d8_4) rfl ((if0 _ _).trans (teq (by decide : (0 : Int32) = (0 : Int32))).1) (by decide) (by decide) ?_
    refine XS.aloadN X4.here hx rfl (hb hby d8_17) rfl rfl ?_
    refine st5 _ ?_
    refine st6 _ ?_
    refine XS.aloadN X6.here hx rfl (hb hby d8_24) rfl rfl ?_
    refine st7 _ ?_
    refine XS.icmpYes X7.here hx rfl (pc0 := 28) (pc' := 62) rfl (hb hby d8_28) rfl (flt (by decide : ¬ ((0 : Int32) < (0 : Int32)))).2.1 (by decide) (by decide) ?_
    refine XS.aloadN X7.here hx rfl (hb hby d8_62) rfl rfl ?_
    refine st8 _ ?_
    refine XS.ifYes X8.here hx rfl (pc0 := 66) (pc' := 138) rfl (hb hby d8_66) rfl ((if0 _ _).trans (flt (by decide : ¬ ((0 : Int32) < (0 : Int32)))).2.2.2) (by decide) (by decide) ?_
    refine XS.aloadN X8.here hx rfl (hb hby d8_138) rfl rfl ?_
    refine st9 _ ?_
    refine XS.ifYes X9.here hx rfl (pc0 := 142) (pc' := 162) rfl (hb hby d8_142) rfl ((if0 _ _).trans (flt (by decide : ¬ ((0 : Int32) < (0 : Int32)))).2.2.2) (by decide) (by decide) ?_
    exact X9.returnOut hx Bd.returns (hb hby d8_162) hr
  · show Q8_0_0_0 Z a1 p2 y3 hp da sa D S0 h0 n0 _ T9.heap _
    rw [e9]
    exact ⟨rfl, N0, own_kw (Keep.refl h0 []) (by simp), F_d, F_s, F_z, ⟨_, V_da⟩, ⟨_, V_sa⟩⟩
theorem d8_31 : decode prog_186_method_6_code 31 = .ok (.aload_n 0, 1) := by decide +kernel
theorem d8_32 : decode prog_186_method_6_code 32 = .ok (.getfield 29, 3) := by decide +kernel
theorem d8_35 : decode prog_186_method_6_code 35 = .ok (.iload_n 1, 1) := by decide +kernel
theorem d8_36 : decode prog_186_method_6_code 36 = .ok (.dload_n 2, 1) := by decide +kernel
theorem d8_37 : decode prog_186_method_6_code 37 = .ok (.invokevirtual 76, 3) := by decide +kernel
theorem d8_40 : decode prog_186_method_6_code 40 = .ok (.aload_n 0, 1) := by decide +kernel
theorem d8_41 : decode prog_186_method_6_code 41 = .ok (.invokevirtual 49, 3) := by decide +kernel
theorem d8_44 : decode prog_186_method_6_code 44 = .ok (.ifCond .eq 118, 3) := by decide +kernel
theorem d8_47 : decode prog_186_method_6_code 47 = .ok (.aload_n 0, 1) := by decide +kernel
theorem d8_48 : decode prog_186_method_6_code 48 = .ok (.getfield 33, 3) := by decide +kernel
theorem d8_51 : decode prog_186_method_6_code 51 = .ok (.ifnull 111, 3) := by decide +kernel
theorem pd_8_6 : parseMethodDescriptor "(ID)V" = some ⟨[.int, .double], none⟩ := by decide +kernel
theorem pd_8_4 : parseMethodDescriptor "()Z" = some ⟨[], some .boolean⟩ := by decide +kernel
theorem ef_8_1_0_0 (m : MethodId) (x0 : Addr) (x1 : Int32) (x2 : UInt64) : entryFrame m #[(.ref x0), (.int x1), (.double x2)] 7 = mkF m 0 #[.val (.ref x0), .val (.int x1), .val (.double x2), .second, .unset, .unset, .unset] [] := by first | (simp [entryFrame, mkF, argsToLocals, Value.category]; done) | rfl
def Q8_1_0_0 (Z : State) (a1 : Addr) (p2 : Int32) (y3 : UInt64) (hp : Addr) (da : Addr) (sa : Addr) (D : Nat → Int32) (S0 : Nat → UInt64) (h0 : Heap) (n0 : Nat) (v : Option Value) (h : Heap) (L : List Loc) : Prop := v = none ∧ Fr n0 L ∧ Keep h0 h [hp, da, sa] ∧ Fld Z h hp sH "documents" "[I" (.ref da) ∧ Fld Z h hp sH "scores" "[D" (.ref sa) ∧ Fld Z h hp sH "size" "I" (.int (1 : Int32)) ∧ (∃ D', own_AI Z h da (1 : Int32) D') ∧ (∃ S', own_AD Z h sa (1 : Int32) S')
set_option maxRecDepth 65536 in
set_option maxHeartbeats 40000000 in
theorem rm8_1_0_0 (l : Launch) (Z : State) (a0 : Array Value) (hw : ∀ d ∈ tables_1, d.before a0 Z = true) (ws : List Jvm.Cond) (a1 : Addr) (p2 : Int32) (y3 : UInt64) (hp : Addr) (da : Addr) (sa : Addr) (D : Nat → Int32) (S0 : Nat → UInt64) (h0 : Heap) (n0 : Nat) (Z0 : n0 ≤ h0.size) (E_a1 : Exa Z h0 a1 sB) (F_c : Fld Z h0 a1 sB "capacity" "I" (.int (1 : Int32))) (F_b : Fld Z h0 a1 sB "best" "Lcom/example/calpurnia/calpurnia/ranking/BestDocuments$Heap;" (.ref hp)) (F_a : Fld Z h0 a1 sB "asRead" "Ljava/util/function/DoubleUnaryOperator;" .null) (F_t : Fld Z h0 a1 sB "sorted" "Z" (.int (0 : Int32))) (E_hp : Exa Z h0 hp sH) (F_d : Fld Z h0 hp sH "documents" "[I" (.ref da)) (F_s : Fld Z h0 hp sH "scores" "[D" (.ref sa)) (F_z : Fld Z h0 hp sH "size" "I" (.int (0 : Int32))) (V_da : own_AI Z h0 da (1 : Int32) D) (V_sa : own_AD Z h0 sa (1 : Int32) S0) (nbh : a1 ≠ hp) (nbd : a1 ≠ da) (nbs : a1 ≠ sa) (nhd : hp ≠ da) (nhs : hp ≠ sa) (nds : da ≠ sa) (g_hp : n0 ≤ hp) (g_da : n0 ≤ da) (g_sa : n0 ≤ sa) (nn_y3 : Jvm.Free.Fl.NoNaN64 y3) :
    MetFree l (⟨sB, "offer", "(ID)V"⟩ : MethodName) (head1 (Jvm.Cond.code (⟨sB, "offer", "(ID)V"⟩ : MethodName) prog_186_method_6_code 7 none :: ws) ({ frames := 7, cells := 0, slots := 0, locals := 190 } : Room)) (fun a U => a = #[(.ref a1), (.int p2), (.double y3)] ∧ Z.Warmed39 U.vm ∧ U.heap = h0) (fun _ _ _ _ _ => True) (fun _ U o U' => ∃ v L, o = .returned v ∧ Q8_1_0_0 Z a1 p2 y3 hp da sa D S0 h0 n0 v U'.heap L ∧ FrameEnd U o U' L ({ frames := 7, cells := 0, slots := 0, locals := 190 } : Room).cells ({ frames := 7, cells := 0, slots := 0, locals := 190 } : Room).slots) := by
  refine MetFree.of_bodySF (plainFor_of_name pn_8) hisR ?_
  intro p e s m args below meth c s₁ Bd hml0 hP hK
  obtain ⟨rfl, hZ, hh⟩ := hP
  have hx := Bd.exec
  have hby := Bd.bytes
  have hml : c.maxLocals = 7 := hml0
  have hown : s.vm.findClass sB = some m.cls := findClass_of_methodNamed Bd.named
  have hnm := (name_of_methodNamed Bd.named Bd.method).1
  have X0 : Stand p l e ({ frames := 7, cells := 0, slots := 0, locals := 190 } : Room) s m #[(.ref a1), (.int p2), (.double y3)] below meth c s₁ [] 0 0 := Stand.of_body Bd
  have e0 : s₁.heap = h0 := by rw [← hh, Bd.state]; rfl
  have N0 := Fr.nil n0
  have pre0 : ∀ t, Steps p.tables e below (s₁.setTop (mkF m 0 #[.val (.ref a1), .val (.int p2), .val (.double y3), .second, .unset, .unset, .unset] [])) t → Steps p.tables e below (s₁.setTop (entryFrame m #[(.ref a1), (.int p2), (.double y3)] 7)) t := fun t k => castTop (ef_8_1_0_0 m a1 p2 y3) k

  obtain ⟨T4, X4, e4, st4⟩ := getF X0 hx hZ hown (host := "") (Or.inl (ww hw 72 rfl)) Via.refl e0 F_t (g := (mkF m 1 #[.val (.ref a1), .val (.int p2), .val (.double y3), .second, .unset, .unset, .unset] [(.ref a1)])) rfl rfl (hb hby d8_1)
  obtain ⟨T5, X5, e5, st5⟩ := getF X4 hx hZ hown (host := "") (Or.inl (ww hw 31 rfl)) Via.refl e4 F_b (g := (mkF m 18 #[.val (.ref a1), .val (.int p2), .val (.double y3), .second, .unset, .unset, .unset] [(.ref a1)])) rfl rfl (hb hby d8_18)
  obtain ⟨T6, X6, e6, st6⟩ := own_getR X5 hx hZ hown (ww hw 61 rfl) e5 F_z (g := (mkF m 21 #[.val (.ref a1), .val (.int p2), .val (.double y3), .second, .unset, .unset, .unset] [(.ref hp)])) rfl rfl (hb hby d8_21)
  obtain ⟨T7, X7, e7, st7⟩ := getF X6 hx hZ hown (host := "") (Or.inl (ww hw 16 rfl)) Via.refl e6 F_c (g := (mkF m 25 #[.val (.ref a1), .val (.int p2), .val (.double y3), .second, .unset, .unset, .unset] [(.ref a1), (.int (0 : Int32))])) rfl rfl (hb hby d8_25)
  obtain ⟨T8, X8, e8, st8⟩ := getF X7 hx hZ hown (host := "") (Or.inl (ww hw 31 rfl)) Via.refl e7 F_b (g := (mkF m 32 #[.val (.ref a1), .val (.int p2), .val (.double y3), .second, .unset, .unset, .unset] [(.ref a1)])) rfl rfl (hb hby d8_32)
  obtain ⟨cq9, kq9, q9a, q9b, q9c⟩ := isOf hZ e8 E_hp
  obtain ⟨_, _, ⟨T9, L9, k9, n9⟩, -, X9, ⟨Lc9, hQ9, l9, y9, z9⟩, st9⟩ := X8.virtualBack hx (y := (⟨sH, "add", "(ID)V"⟩ : MethodName)) (z := (⟨sH, "add", "(ID)V"⟩ : MethodName)) hown (mvT hZ (ww hw 74 rfl)) (mvT hZ (ww hw 75 rfl)) (notFace_of_selects (args := #[]) (mvT hZ (ww hw 77 rfl))) (mvT hZ (ww hw 77 rfl)) (mvT hZ (ww hw 76 rfl)) (by decide) (backOf (W := 0) (rm9_0_0 l Z a0 hw [] hp p2 y3 da sa _ _ _ h0 n0 Z0 E_hp F_d F_s V_da V_sa nds nhd nhs g_da g_sa F_z nn_y3 g_hp (by decide) (by decide)) hZ (ww hw 78 rfl) (ww hw 20 rfl) (by decide) (by decide)) q9a q9c (g := (mkF m 37 #[.val (.ref a1), .val (.int p2), .val (.double y3), .second, .unset, .unset, .unset] [(.double y3), (.int p2), (.ref hp)])) rfl (by rw [hml]; rfl) (Steps.refl _) (argsL := [(.int p2), (.double y3)]) (rest := []) (lenOf pd_8_6 rfl) rfl (by show 2 * 0 + _ ≤ _; exact Nat.le_of_eq rfl) (hb hby d8_37) (fun _ _ => ⟨rfl, e8, (by decide : 0 + 0 ≤ _), (by decide : 0 + 0 ≤ _)⟩)
  dsimp only [Pt.U, Pt.locs, Pt.cells, Pt.slots] at X9 l9 y9 z9 st9 hQ9
  subst l9 y9 z9
  obtain ⟨rfl, N9q, Kc9, Ec9, Fd9, Fs9, Fz9, ⟨D9, Vd9⟩, ⟨S9, Vs9⟩⟩ := hQ9
  have N9 := Fr.app N0 N9q
  have K9 : Keep h0 T9.heap [hp, da, sa] := (Keep.refl h0 [hp, da, sa]).trans Kc9 (allS (Or.inl (List.mem_of_getElem? (i := 0) rfl)) (allS (Or.inl (List.mem_of_getElem? (i := 1) rfl)) (allS (Or.inl (List.mem_of_getElem? (i := 2) rfl)) all0)))
  obtain ⟨cq10, kq10, q10a, q10b, q10c⟩ := isOf hZ rfl (E_a1.keep Kc9)
  obtain ⟨_, _, ⟨T10, L10, k10, n10⟩, -, X10, ⟨Lc10, hQ10, l10, y10, z10⟩, st10⟩ := X9.virtualBack hx (y := (⟨sB, "full", "()Z"⟩ : MethodName)) (z := (⟨sB, "full", "()Z"⟩ : MethodName)) hown (mvT hZ (ww hw 84 rfl)) (mvT hZ (ww hw 57 rfl)) (notFace_of_selects (args := #[]) (mvT hZ (ww hw 59 rfl))) (mvT hZ (ww hw 59 rfl)) (mvT hZ (ww hw 58 rfl)) (by decide) (backOf (W := 0) (rm6_1 l Z a0 hw [] a1 _ _ _ T9.heap n0 (Nat.le_trans Z0 Kc9.1) (F_b.keep Kc9 (ninS nbh (ninS nbd (ninS nbs nin0)))) Fz9 (F_c.keep Kc9 (ninS nbh (ninS nbd (ninS nbs nin0)))) (by decide)) hZ (ww hw 60 rfl) (ww hw 3 rfl) (by decide) (by decide)) q10a q10c (g := (mkF m 41 #[.val (.ref a1), .val (.int p2), .val (.double y3), .second, .unset, .unset, .unset] [(.ref a1)])) rfl (by rw [hml]; rfl) (Steps.refl _) (argsL := []) (rest := []) (lenOf pd_8_4 rfl) rfl (by show 2 * 0 + _ ≤ _; exact Nat.le_of_eq rfl) (hb hby d8_41) (fun _ _ => ⟨rfl, rfl, (by decide : 0 + 0 ≤ _), (by decide : 0 + 0 ≤ _)⟩)
  dsimp only [Pt.U, Pt.locs, Pt.cells, Pt.slots] at X10 l10 y10 z10 st10 hQ10
  subst l10 y10 z10
  obtain ⟨rfl, N10q, eh10⟩ := hQ10
  have N10 := Fr.app N9 N10q
  obtain ⟨T11, X11, e11, st11⟩ := getF X10 hx hZ hown (host := "") (Or.inl (ww hw 33 rfl)) Via.refl eh10 (F_a.keep Kc9 (ninS nbh (ninS nbd (ninS nbs nin0)))) (g := (mkF m 48 #[.val (.ref a1), .val (.int p2), .val (.double y3), .second, .unset, .unset, .unset] [(.ref a1)])) rfl rfl (hb hby d8_48)
  obtain ⟨fs, hr, hrun, hended, hW, hsame⟩ := X11.leave (v := none) (fun _ => rfl)
  refine ⟨_, _, pre0 _ ?_, hrun, hended, _, _, rfl, ?_, ⟨_, rfl⟩, hW, hsame.mono (by decide) (by decide)⟩
  · show Steps _ _ _ (s₁.setTop (mkF m 0 #[.val (.ref a1), .val (.int p2), .val (.double y3), .second, .unset, .unset, .unset] [])) _
    refine XS.aloadN X0.here hx rfl (hb hby d8_0) rfl rfl ?_
    refine st4 _ ?_
    refine XS.ifYes X4.here hx rfl (pc0 := 4) (pc' := 17) rfl (hb hby d8_4) rfl ((if0 _ _).trans (teq (by decide : (0 : Int32) = (0 : Int32))).1) (by decide) (by decide) ?_
    refine XS.aloadN X4.here hx rfl (hb hby d8_17) rfl rfl ?_
    refine st5 _ ?_
    refine st6 _ ?_
    refine XS.aloadN X6.here hx rfl (hb hby d8_24) rfl rfl ?_
    refine st7 _ ?_
    refine XS.icmpNo X7.here hx rfl (hb hby d8_28) rfl (tlt (by decide : (0 : Int32) < (1 : Int32))).2.1 ?_
    refine XS.aloadN X7.here hx rfl (hb hby d8_31) rfl rfl ?_
    refine st8 _ ?_
    refine XS.iloadN X8.here hx rfl (hb hby d8_35) rfl ?_
    refine XS.dloadN X8.here hx rfl (hb hby d8_36) rfl ?_
    refine st9.trans ?_
    refine XS.aloadN X9.here hx rfl (hb hby d8_40) rfl rfl ?_
    refine st10.trans ?_
    refine XS.ifNo X10.here hx rfl (hb hby d8_44) rfl ((if0 _ _).trans (feq (by decide : ¬ ((1 : Int32) = (0 : Int32)))).1) ?_
    refine XS.aloadN X10.here hx rfl (hb hby d8_47) rfl rfl ?_
    refine st11 _ ?_
    refine XS.ifnullYes X11.here hx rfl (pc0 := 51) (pc' := 162) rfl (hb hby d8_51) rfl (by decide) (by decide) ?_
    exact X11.returnOut hx Bd.returns (hb hby d8_162) hr
  · show Q8_1_0_0 Z a1 p2 y3 hp da sa D S0 h0 n0 _ T11.heap _
    rw [e11]
    exact ⟨rfl, N10, own_kw K9 (by simp), Fd9, Fs9, Fz9, ⟨_, Vd9⟩, ⟨_, Vs9⟩⟩
theorem d8_69 : decode prog_186_method_6_code 69 = .ok (.dload_n 2, 1) := by decide +kernel
theorem d8_70 : decode prog_186_method_6_code 70 = .ok (.aload_n 0, 1) := by decide +kernel
theorem d8_71 : decode prog_186_method_6_code 71 = .ok (.getfield 29, 3) := by decide +kernel
theorem d8_74 : decode prog_186_method_6_code 74 = .ok (.invokevirtual 62, 3) := by decide +kernel
theorem d8_77 : decode prog_186_method_6_code 77 = .ok (.invokestatic 83, 3) := by decide +kernel
theorem d8_80 : decode prog_186_method_6_code 80 = .ok (.ifCond .le 58, 3) := by decide +kernel
theorem d8_145 : decode prog_186_method_6_code 145 = .ok (.aload_n 0, 1) := by decide +kernel
theorem d8_146 : decode prog_186_method_6_code 146 = .ok (.dload_n 2, 1) := by decide +kernel
theorem d8_147 : decode prog_186_method_6_code 147 = .ok (.invokevirtual 95, 3) := by decide +kernel
theorem d8_150 : decode prog_186_method_6_code 150 = .ok (.ifCond .eq 12, 3) := by decide +kernel
theorem pd_8_12 : parseMethodDescriptor "()D" = some ⟨[], some .double⟩ := by decide +kernel
theorem pd_8_10 : parseMethodDescriptor "(DD)I" = some ⟨[.double, .double], some .int⟩ := by decide +kernel
theorem pd_8_13 : parseMethodDescriptor "(D)Z" = some ⟨[.double], some .boolean⟩ := by decide +kernel
theorem ef_8_1_1_0 (m : MethodId) (x0 : Addr) (x1 : Int32) (x2 : UInt64) : entryFrame m #[(.ref x0), (.int x1), (.double x2)] 7 = mkF m 0 #[.val (.ref x0), .val (.int x1), .val (.double x2), .second, .unset, .unset, .unset] [] := by first | (simp [entryFrame, mkF, argsToLocals, Value.category]; done) | rfl
def Q8_1_1_0 (Z : State) (a1 : Addr) (p2 : Int32) (y3 : UInt64) (hp : Addr) (da : Addr) (sa : Addr) (D : Nat → Int32) (S0 : Nat → UInt64) (h0 : Heap) (n0 : Nat) (v : Option Value) (h : Heap) (L : List Loc) : Prop := v = none ∧ Fr n0 L ∧ Keep h0 h [hp, da, sa] ∧ Fld Z h hp sH "documents" "[I" (.ref da) ∧ Fld Z h hp sH "scores" "[D" (.ref sa) ∧ Fld Z h hp sH "size" "I" (.int (1 : Int32)) ∧ (∃ D', own_AI Z h da (1 : Int32) D') ∧ (∃ S', own_AD Z h sa (1 : Int32) S')
set_option maxRecDepth 65536 in
set_option maxHeartbeats 40000000 in
theorem rm8_1_1_0 (l : Launch) (Z : State) (a0 : Array Value) (hw : ∀ d ∈ tables_1, d.before a0 Z = true) (ws : List Jvm.Cond) (a1 : Addr) (p2 : Int32) (y3 : UInt64) (hp : Addr) (da : Addr) (sa : Addr) (D : Nat → Int32) (S0 : Nat → UInt64) (h0 : Heap) (n0 : Nat) (Z0 : n0 ≤ h0.size) (E_a1 : Exa Z h0 a1 sB) (F_c : Fld Z h0 a1 sB "capacity" "I" (.int (1 : Int32))) (F_b : Fld Z h0 a1 sB "best" "Lcom/example/calpurnia/calpurnia/ranking/BestDocuments$Heap;" (.ref hp)) (F_a : Fld Z h0 a1 sB "asRead" "Ljava/util/function/DoubleUnaryOperator;" .null) (F_t : Fld Z h0 a1 sB "sorted" "Z" (.int (0 : Int32))) (E_hp : Exa Z h0 hp sH) (F_d : Fld Z h0 hp sH "documents" "[I" (.ref da)) (F_s : Fld Z h0 hp sH "scores" "[D" (.ref sa)) (F_z : Fld Z h0 hp sH "size" "I" (.int (1 : Int32))) (V_da : own_AI Z h0 da (1 : Int32) D) (V_sa : own_AD Z h0 sa (1 : Int32) S0) (nbh : a1 ≠ hp) (nbd : a1 ≠ da) (nbs : a1 ≠ sa) (nhd : hp ≠ da) (nhs : hp ≠ sa) (nds : da ≠ sa) (g_hp : n0 ≤ hp) (g_da : n0 ≤ da) (g_sa : n0 ≤ sa) (nn_y3 : Jvm.Free.Fl.NoNaN64 y3) (nw0 : Jvm.Free.Fl.NoNaN64 (S0 ((0 : Int32)).toNatClampNeg)) (hc80 : ¬ ((0 : Int32) < (own_cmp y3 (S0 ((0 : Int32)).toNatClampNeg)))) :
    MetFree l (⟨sB, "offer", "(ID)V"⟩ : MethodName) (head1 (Jvm.Cond.code (⟨sB, "offer", "(ID)V"⟩ : MethodName) prog_186_method_6_code 7 none :: ws) ({ frames := 7, cells := 0, slots := 0, locals := 190 } : Room)) (fun a U => a = #[(.ref a1), (.int p2), (.double y3)] ∧ Z.Warmed39 U.vm ∧ U.heap = h0) (fun _ _ _ _ _ => True) (fun _ U o U' => ∃ v L, o = .returned v ∧ Q8_1_1_0 Z a1 p2 y3 hp da sa D S0 h0 n0 v U'.heap L ∧ FrameEnd U o U' L ({ frames := 7, cells := 0, slots := 0, locals := 190 } : Room).cells ({ frames := 7, cells := 0, slots := 0, locals := 190 } : Room).slots) := by
  refine MetFree.of_bodySF (plainFor_of_name pn_8) hisR ?_
  intro p e s m args below meth c s₁ Bd hml0 hP hK
  obtain ⟨rfl, hZ, hh⟩ := hP
  have hx := Bd.exec
  have hby := Bd.bytes
  have hml : c.maxLocals = 7 := hml0
  have hown : s.vm.findClass sB = some m.cls := findClass_of_methodNamed Bd.named
  have hnm := (name_of_methodNamed Bd.named Bd.method).1
  have X0 : Stand p l e ({ frames := 7, cells := 0, slots := 0, locals := 190 } : Room) s m #[(.ref a1), (.int p2), (.double y3)] below meth c s₁ [] 0 0 := Stand.of_body Bd
  have e0 : s₁.heap = h0 := by rw [← hh, Bd.state]; rfl
  have N0 := Fr.nil n0
  have pre0 : ∀ t, Steps p.tables e below (s₁.setTop (mkF m 0 #[.val (.ref a1), .val (.int p2), .val (.double y3), .second, .unset, .unset, .unset] [])) t → Steps p.tables e below (s₁.setTop (entryFrame m #[(.ref a1), (.int p2), (.double y3)] 7)) t := fun t k => castTop (ef_8_1_1_0 m a1 p2 y3) k

  obtain ⟨T4, X4, e4, st4⟩ := getF X0 hx hZ hown (host := "") (Or.inl (ww hw 72 rfl)) Via.refl e0 F_t (g := (mkF m 1 #[.val (.ref a1), .val (.int p2), .val (.double y3), .second, .unset, .unset, .unset] [(.ref a1)])) rfl rfl (hb hby d8_1)
  obtain ⟨T5, X5, e5, st5⟩ := getF X4 hx hZ hown (host := "") (Or.inl (ww hw 31 rfl)) Via.refl e4 F_b (g := (mkF m 18 #[.val (.ref a1), .val (.int p2), .val (.double y3), .second, .unset, .unset, .unset] [(.ref a1)])) rfl rfl (hb hby d8_18)
  obtain ⟨T6, X6, e6, st6⟩ := own_getR X5 hx hZ hown (ww hw 61 rfl) e5 F_z (g := (mkF m 21 #[.val (.ref a1), .val (.int p2), .val (.double y3), .second, .unset, .unset, .unset] [(.ref hp)])) rfl rfl (hb hby d8_21)
  obtain ⟨T7, X7, e7, st7⟩ := getF X6 hx hZ hown (host := "") (Or.inl (ww hw 16 rfl)) Via.refl e6 F_c (g := (mkF m 25 #[.val (.ref a1), .val (.int p2), .val (.double y3), .second, .unset, .unset, .unset] [(.ref a1), (.int (1 : Int32))])) rfl rfl (hb hby d8_25)
  obtain ⟨T8, X8, e8, st8⟩ := getF X7 hx hZ hown (host := "") (Or.inl (ww hw 16 rfl)) Via.refl e7 F_c (g := (mkF m 63 #[.val (.ref a1), .val (.int p2), .val (.double y3), .second, .unset, .unset, .unset] [(.ref a1)])) rfl rfl (hb hby d8_63)
  obtain ⟨T9, X9, e9, st9⟩ := getF X8 hx hZ hown (host := "") (Or.inl (ww hw 31 rfl)) Via.refl e8 F_b (g := (mkF m 71 #[.val (.ref a1), .val (.int p2), .val (.double y3), .second, .unset, .unset, .unset] [(.ref a1), (.double y3)])) rfl rfl (hb hby d8_71)
  obtain ⟨cq10, kq10, q10a, q10b, q10c⟩ := isOf hZ e9 E_hp
  obtain ⟨_, _, ⟨T10, L10, k10, n10⟩, -, X10, ⟨Lc10, hQ10, l10, y10, z10⟩, st10⟩ := X9.virtualBack hx (y := (⟨sH, "worstScore", "()D"⟩ : MethodName)) (z := (⟨sH, "worstScore", "()D"⟩ : MethodName)) hown (mvT hZ (ww hw 100 rfl)) (mvT hZ (ww hw 101 rfl)) (notFace_of_selects (args := #[]) (mvT hZ (ww hw 103 rfl))) (mvT hZ (ww hw 103 rfl)) (mvT hZ (ww hw 102 rfl)) (by decide) (backOf (W := 2) (rm15 l Z a0 hw [] hp sa _ S0 h0 n0 Z0 F_s V_sa (by decide)) hZ (ww hw 104 rfl) (ww hw 20 rfl) (by decide) (by decide)) q10a q10c (g := (mkF m 74 #[.val (.ref a1), .val (.int p2), .val (.double y3), .second, .unset, .unset, .unset] [(.ref hp), (.double y3)])) rfl (by rw [hml]; rfl) (Steps.refl _) (argsL := []) (rest := [(.double y3)]) (lenOf pd_8_12 rfl) rfl (by show 2 * 0 + _ ≤ _; exact Nat.le_of_eq rfl) (hb hby d8_74) (fun _ _ => ⟨rfl, e9, (by decide : 0 + 0 ≤ _), (by decide : 0 + 0 ≤ _)⟩)
  dsimp only [Pt.U, Pt.locs, Pt.cells, Pt.slots] at X10 l10 y10 z10 st10 hQ10
  subst l10 y10 z10
  obtain ⟨rfl, nw10, N10q, eh10⟩ := hQ10
  have N10 := Fr.app N0 N10q
  obtain ⟨_, _, ⟨T11, L11, k11, n11⟩, -, X11, ⟨Lc11, hQ11, l11, y11, z11⟩, st11⟩ := Jvm.LawKit.callS X10 hx (y := (⟨"java/lang/Double", "compare", "(DD)I"⟩ : MethodName)) hown (mvT hZ (ww hw 105 rfl)) (mvT hZ (ww hw 93 rfl)) (mvT hZ (ww hw 94 rfl)) (mvT hZ (ww hw 95 rfl)) (by decide) (backOf (W := 0) (rm13 l Z a0 hw [] y3 (S0 ((0 : Int32)).toNatClampNeg)  h0 n0 Z0 nn_y3 nw0) hZ (ww hw 95 rfl) (ww hw 94 rfl) (by decide) (by decide)) (g := (mkF m 77 #[.val (.ref a1), .val (.int p2), .val (.double y3), .second, .unset, .unset, .unset] [(.double (S0 ((0 : Int32)).toNatClampNeg)), (.double y3)])) rfl (by rw [hml]; rfl) (argsL := [(.double y3), (.double (S0 ((0 : Int32)).toNatClampNeg))]) (rest := []) (lenOf pd_8_10 rfl) rfl (by show 2 * 0 + _ ≤ _; exact Nat.le_of_eq rfl) (hb hby d8_77) (fun _ _ => ⟨rfl, eh10, (by decide : 0 + 0 ≤ _), (by decide : 0 + 0 ≤ _)⟩)
  dsimp only [Pt.U, Pt.locs, Pt.cells, Pt.slots] at X11 l11 y11 z11 st11 hQ11
  subst l11 y11 z11
  obtain ⟨rfl, N11q, eh11⟩ := hQ11
  have N11 := Fr.app N10 N11q
  obtain ⟨T12, X12, e12, st12⟩ := getF X11 hx hZ hown (host := "") (Or.inl (ww hw 16 rfl)) Via.refl eh11 F_c (g := (mkF m 139 #[.val (.ref a1), .val (.int p2), .val (.double y3), .second, .unset, .unset, .unset] [(.ref a1)])) rfl rfl (hb hby d8_139)
  obtain ⟨cq13, kq13, q13a, q13b, q13c⟩ := isOf hZ e12 E_a1
  obtain ⟨_, _, ⟨T13, L13, k13, n13⟩, -, X13, ⟨Lc13, hQ13, l13, y13, z13⟩, st13⟩ := X12.virtualBack hx (y := (⟨sB, "keepsAsTie", "(D)Z"⟩ : MethodName)) (z := (⟨sB, "keepsAsTie", "(D)Z"⟩ : MethodName)) hown (mvT hZ (ww hw 106 rfl)) (mvT hZ (ww hw 107 rfl)) (notFace_of_selects (args := #[]) (mvT hZ (ww hw 109 rfl))) (mvT hZ (ww hw 109 rfl)) (mvT hZ (ww hw 108 rfl)) (by decide) (backOf (W := 0) (rm16 l Z a0 hw [] a1 y3  h0 n0 Z0 F_a) hZ (ww hw 110 rfl) (ww hw 3 rfl) (by decide) (by decide)) q13a q13c (g := (mkF m 147 #[.val (.ref a1), .val (.int p2), .val (.double y3), .second, .unset, .unset, .unset] [(.double y3), (.ref a1)])) rfl (by rw [hml]; rfl) (Steps.refl _) (argsL := [(.double y3)]) (rest := []) (lenOf pd_8_13 rfl) rfl (by show 2 * 0 + _ ≤ _; exact Nat.le_of_eq rfl) (hb hby d8_147) (fun _ _ => ⟨rfl, e12, (by decide : 0 + 0 ≤ _), (by decide : 0 + 0 ≤ _)⟩)
  dsimp only [Pt.U, Pt.locs, Pt.cells, Pt.slots] at X13 l13 y13 z13 st13 hQ13
  subst l13 y13 z13
  obtain ⟨rfl, N13q, eh13⟩ := hQ13
  have N13 := Fr.app N11 N13q
  obtain ⟨fs, hr, hrun, hended, hW, hsame⟩ := X13.leave (v := none) (fun _ => rfl)
  refine ⟨_, _, pre0 _ ?_, hrun, hended, _, _, rfl, ?_, ⟨_, rfl⟩, hW, hsame.mono (by decide) (by decide)⟩
  · show Steps _ _ _ (s₁.setTop (mkF m 0 #[.val (.ref a1), .val (.int p2), .val (.double y3), .second, .unset, .unset, .unset] [])) _
    refine XS.aloadN X0.here hx rfl (hb hby d8_0) rfl rfl ?_
    refine st4 _ ?_
    refine XS.ifYes X4.here hx rfl (pc0 := 4) (pc' := 17) rfl (hb hby d8_4) rfl ((if0 _ _).trans (teq (by decide : (0 : Int32) = (0 : Int32))).1) (by decide) (by decide) ?_
    refine XS.aloadN X4.here hx rfl (hb hby d8_17) rfl rfl ?_
    refine st5 _ ?_
    refine st6 _ ?_
    refine XS.aloadN X6.here hx rfl (hb hby d8_24) rfl rfl ?_
    refine st7 _ ?_
    refine XS.icmpYes X7.here hx rfl (pc0 := 28) (pc' := 62) rfl (hb hby d8_28) rfl (flt (by decide : ¬ ((1 : Int32) < (1 : Int32)))).2.1 (by decide) (by decide) ?_
    refine XS.aloadN X7.here hx rfl (hb hby d8_62) rfl rfl ?_
    refine st8 _ ?_
    refine XS.ifNo X8.here hx rfl (hb hby d8_66) rfl ((if0 _ _).trans (tlt (by decide : (0 : Int32) < (1 : Int32))).2.2.2) ?_
    refine XS.dloadN X8.here hx rfl (hb hby d8_69) rfl ?_
    refine XS.aloadN X8.here hx rfl (hb hby d8_70) rfl rfl ?_
    refine st9 _ ?_
    refine st10.trans ?_
    refine st11 _ ?_
    refine XS.ifYes X11.here hx rfl (pc0 := 80) (pc' := 138) rfl (hb hby d8_80) rfl ((if0 _ _).trans (flt hc80).2.2.2) (by decide) (by decide) ?_
    refine XS.aloadN X11.here hx rfl (hb hby d8_138) rfl rfl ?_
    refine st12 _ ?_
    refine XS.ifNo X12.here hx rfl (hb hby d8_142) rfl ((if0 _ _).trans (tlt (by decide : (0 : Int32) < (1 : Int32))).2.2.2) ?_
    refine XS.aloadN X12.here hx rfl (hb hby d8_145) rfl rfl ?_
    refine XS.dloadN X12.here hx rfl (hb hby d8_146) rfl ?_
    refine st13.trans ?_
    refine XS.ifYes X13.here hx rfl (pc0 := 150) (pc' := 162) rfl (hb hby d8_150) rfl ((if0 _ _).trans (teq (by decide : (0 : Int32) = (0 : Int32))).1) (by decide) (by decide) ?_
    exact X13.returnOut hx Bd.returns (hb hby d8_162) hr
  · show Q8_1_1_0 Z a1 p2 y3 hp da sa D S0 h0 n0 _ T13.heap _
    rw [eh13]
    exact ⟨rfl, N13, own_kw (Keep.refl h0 []) (by simp), F_d, F_s, F_z, ⟨_, V_da⟩, ⟨_, V_sa⟩⟩
theorem d8_83 : decode prog_186_method_6_code 83 = .ok (.aload_n 0, 1) := by decide +kernel
theorem d8_84 : decode prog_186_method_6_code 84 = .ok (.getfield 29, 3) := by decide +kernel
theorem d8_87 : decode prog_186_method_6_code 87 = .ok (.invokevirtual 87, 3) := by decide +kernel
theorem d8_90 : decode prog_186_method_6_code 90 = .ok (.istore 4, 2) := by decide +kernel
theorem d8_92 : decode prog_186_method_6_code 92 = .ok (.aload_n 0, 1) := by decide +kernel
theorem d8_93 : decode prog_186_method_6_code 93 = .ok (.getfield 29, 3) := by decide +kernel
theorem d8_96 : decode prog_186_method_6_code 96 = .ok (.invokevirtual 62, 3) := by decide +kernel
theorem d8_99 : decode prog_186_method_6_code 99 = .ok (.dstore 5, 2) := by decide +kernel
theorem d8_101 : decode prog_186_method_6_code 101 = .ok (.aload_n 0, 1) := by decide +kernel
theorem d8_102 : decode prog_186_method_6_code 102 = .ok (.getfield 29, 3) := by decide +kernel
theorem d8_105 : decode prog_186_method_6_code 105 = .ok (.iload_n 1, 1) := by decide +kernel
theorem d8_106 : decode prog_186_method_6_code 106 = .ok (.dload_n 2, 1) := by decide +kernel
theorem d8_107 : decode prog_186_method_6_code 107 = .ok (.invokevirtual 91, 3) := by decide +kernel
theorem d8_110 : decode prog_186_method_6_code 110 = .ok (.aload_n 0, 1) := by decide +kernel
theorem d8_111 : decode prog_186_method_6_code 111 = .ok (.getfield 33, 3) := by decide +kernel
theorem d8_114 : decode prog_186_method_6_code 114 = .ok (.ifnull 21, 3) := by decide +kernel
theorem d8_135 : decode prog_186_method_6_code 135 = .ok (.goto 27, 3) := by decide +kernel
theorem pd_8_14 : parseMethodDescriptor "()I" = some ⟨[], some .int⟩ := by decide +kernel
theorem ef_8_1_1_1 (m : MethodId) (x0 : Addr) (x1 : Int32) (x2 : UInt64) : entryFrame m #[(.ref x0), (.int x1), (.double x2)] 7 = mkF m 0 #[.val (.ref x0), .val (.int x1), .val (.double x2), .second, .unset, .unset, .unset] [] := by first | (simp [entryFrame, mkF, argsToLocals, Value.category]; done) | rfl
def Q8_1_1_1 (Z : State) (a1 : Addr) (p2 : Int32) (y3 : UInt64) (hp : Addr) (da : Addr) (sa : Addr) (D : Nat → Int32) (S0 : Nat → UInt64) (h0 : Heap) (n0 : Nat) (v : Option Value) (h : Heap) (L : List Loc) : Prop := v = none ∧ Fr n0 L ∧ Keep h0 h [hp, da, sa] ∧ Fld Z h hp sH "documents" "[I" (.ref da) ∧ Fld Z h hp sH "scores" "[D" (.ref sa) ∧ Fld Z h hp sH "size" "I" (.int (1 : Int32)) ∧ (∃ D', own_AI Z h da (1 : Int32) D') ∧ (∃ S', own_AD Z h sa (1 : Int32) S')
set_option maxRecDepth 65536 in
set_option maxHeartbeats 40000000 in
theorem rm8_1_1_1 (l : Launch) (Z : State) (a0 : Array Value) (hw : ∀ d ∈ tables_1, d.before a0 Z = true) (ws : List Jvm.Cond) (a1 : Addr) (p2 : Int32) (y3 : UInt64) (hp : Addr) (da : Addr) (sa : Addr) (D : Nat → Int32) (S0 : Nat → UInt64) (h0 : Heap) (n0 : Nat) (Z0 : n0 ≤ h0.size) (E_a1 : Exa Z h0 a1 sB) (F_c : Fld Z h0 a1 sB "capacity" "I" (.int (1 : Int32))) (F_b : Fld Z h0 a1 sB "best" "Lcom/example/calpurnia/calpurnia/ranking/BestDocuments$Heap;" (.ref hp)) (F_a : Fld Z h0 a1 sB "asRead" "Ljava/util/function/DoubleUnaryOperator;" .null) (F_t : Fld Z h0 a1 sB "sorted" "Z" (.int (0 : Int32))) (E_hp : Exa Z h0 hp sH) (F_d : Fld Z h0 hp sH "documents" "[I" (.ref da)) (F_s : Fld Z h0 hp sH "scores" "[D" (.ref sa)) (F_z : Fld Z h0 hp sH "size" "I" (.int (1 : Int32))) (V_da : own_AI Z h0 da (1 : Int32) D) (V_sa : own_AD Z h0 sa (1 : Int32) S0) (nbh : a1 ≠ hp) (nbd : a1 ≠ da) (nbs : a1 ≠ sa) (nhd : hp ≠ da) (nhs : hp ≠ sa) (nds : da ≠ sa) (g_hp : n0 ≤ hp) (g_da : n0 ≤ da) (g_sa : n0 ≤ sa) (nn_y3 : Jvm.Free.Fl.NoNaN64 y3) (nw0 : Jvm.Free.Fl.NoNaN64 (S0 ((0 : Int32)).toNatClampNeg)) (hc80 : (0 : Int32) < (own_cmp y3 (S0 ((0 : Int32)).toNatClampNeg))) :
    MetFree l (⟨sB, "offer", "(ID)V"⟩ : MethodName) (head1 (Jvm.Cond.code (⟨sB, "offer", "(ID)V"⟩ : MethodName) prog_186_method_6_code 7 none :: ws) ({ frames := 7, cells := 0, slots := 0, locals := 190 } : Room)) (fun a U => a = #[(.ref a1), (.int p2), (.double y3)] ∧ Z.Warmed39 U.vm ∧ U.heap = h0) (fun _ _ _ _ _ => True) (fun _ U o U' => ∃ v L, o = .returned v ∧ Q8_1_1_1 Z a1 p2 y3 hp da sa D S0 h0 n0 v U'.heap L ∧ FrameEnd U o U' L ({ frames := 7, cells := 0, slots := 0, locals := 190 } : Room).cells ({ frames := 7, cells := 0, slots := 0, locals := 190 } : Room).slots) := by
  refine MetFree.of_bodySF (plainFor_of_name pn_8) hisR ?_
  intro p e s m args below meth c s₁ Bd hml0 hP hK
  obtain ⟨rfl, hZ, hh⟩ := hP
  have hx := Bd.exec
  have hby := Bd.bytes
  have hml : c.maxLocals = 7 := hml0
  have hown : s.vm.findClass sB = some m.cls := findClass_of_methodNamed Bd.named
  have hnm := (name_of_methodNamed Bd.named Bd.method).1
  have X0 : Stand p l e ({ frames := 7, cells := 0, slots := 0, locals := 190 } : Room) s m #[(.ref a1), (.int p2), (.double y3)] below meth c s₁ [] 0 0 := Stand.of_body Bd
  have e0 : s₁.heap = h0 := by rw [← hh, Bd.state]; rfl
  have N0 := Fr.nil n0
  have pre0 : ∀ t, Steps p.tables e below (s₁.setTop (mkF m 0 #[.val (.ref a1), .val (.int p2), .val (.double y3), .second, .unset, .unset, .unset] [])) t → Steps p.tables e below (s₁.setTop (entryFrame m #[(.ref a1), (.int p2), (.double y3)] 7)) t := fun t k => castTop (ef_8_1_1_1 m a1 p2 y3) k

  obtain ⟨T4, X4, e4, st4⟩ := getF X0 hx hZ hown (host := "") (Or.inl (ww hw 72 rfl)) Via.refl e0 F_t (g := (mkF m 1 #[.val (.ref a1), .val (.int p2), .val (.double y3), .second, .unset, .unset, .unset] [(.ref a1)])) rfl rfl (hb hby d8_1)
  obtain ⟨T5, X5, e5, st5⟩ := getF X4 hx hZ hown (host := "") (Or.inl (ww hw 31 rfl)) Via.refl e4 F_b (g := (mkF m 18 #[.val (.ref a1), .val (.int p2), .val (.double y3), .second, .unset, .unset, .unset] [(.ref a1)])) rfl rfl (hb hby d8_18)
  obtain ⟨T6, X6, e6, st6⟩ := own_getR X5 hx hZ hown (ww hw 61 rfl) e5 F_z (g := (mkF m 21 #[.val (.ref a1), .val (.int p2), .val (.double y3), .second, .unset, .unset, .unset] [(.ref hp)])) rfl rfl (hb hby d8_21)
  obtain ⟨T7, X7, e7, st7⟩ := getF X6 hx hZ hown (host := "") (Or.inl (ww hw 16 rfl)) Via.refl e6 F_c (g := (mkF m 25 #[.val (.ref a1), .val (.int p2), .val (.double y3), .second, .unset, .unset, .unset] [(.ref a1), (.int (1 : Int32))])) rfl rfl (hb hby d8_25)
  obtain ⟨T8, X8, e8, st8⟩ := getF X7 hx hZ hown (host := "") (Or.inl (ww hw 16 rfl)) Via.refl e7 F_c (g := (mkF m 63 #[.val (.ref a1), .val (.int p2), .val (.double y3), .second, .unset, .unset, .unset] [(.ref a1)])) rfl rfl (hb hby d8_63)
  obtain ⟨T9, X9, e9, st9⟩ := getF X8 hx hZ hown (host := "") (Or.inl (ww hw 31 rfl)) Via.refl e8 F_b (g := (mkF m 71 #[.val (.ref a1), .val (.int p2), .val (.double y3), .second, .unset, .unset, .unset] [(.ref a1), (.double y3)])) rfl rfl (hb hby d8_71)
  obtain ⟨cq10, kq10, q10a, q10b, q10c⟩ := isOf hZ e9 E_hp
  obtain ⟨_, _, ⟨T10, L10, k10, n10⟩, -, X10, ⟨Lc10, hQ10, l10, y10, z10⟩, st10⟩ := X9.virtualBack hx (y := (⟨sH, "worstScore", "()D"⟩ : MethodName)) (z := (⟨sH, "worstScore", "()D"⟩ : MethodName)) hown (mvT hZ (ww hw 100 rfl)) (mvT hZ (ww hw 101 rfl)) (notFace_of_selects (args := #[]) (mvT hZ (ww hw 103 rfl))) (mvT hZ (ww hw 103 rfl)) (mvT hZ (ww hw 102 rfl)) (by decide) (backOf (W := 2) (rm15 l Z a0 hw [] hp sa _ S0 h0 n0 Z0 F_s V_sa (by decide)) hZ (ww hw 104 rfl) (ww hw 20 rfl) (by decide) (by decide)) q10a q10c (g := (mkF m 74 #[.val (.ref a1), .val (.int p2), .val (.double y3), .second, .unset, .unset, .unset] [(.ref hp), (.double y3)])) rfl (by rw [hml]; rfl) (Steps.refl _) (argsL := []) (rest := [(.double y3)]) (lenOf pd_8_12 rfl) rfl (by show 2 * 0 + _ ≤ _; exact Nat.le_of_eq rfl) (hb hby d8_74) (fun _ _ => ⟨rfl, e9, (by decide : 0 + 0 ≤ _), (by decide : 0 + 0 ≤ _)⟩)
  dsimp only [Pt.U, Pt.locs, Pt.cells, Pt.slots] at X10 l10 y10 z10 st10 hQ10
  subst l10 y10 z10
  obtain ⟨rfl, nw10, N10q, eh10⟩ := hQ10
  have N10 := Fr.app N0 N10q
  obtain ⟨_, _, ⟨T11, L11, k11, n11⟩, -, X11, ⟨Lc11, hQ11, l11, y11, z11⟩, st11⟩ := Jvm.LawKit.callS X10 hx (y := (⟨"java/lang/Double", "compare", "(DD)I"⟩ : MethodName)) hown (mvT hZ (ww hw 105 rfl)) (mvT hZ (ww hw 93 rfl)) (mvT hZ (ww hw 94 rfl)) (mvT hZ (ww hw 95 rfl)) (by decide) (backOf (W := 0) (rm13 l Z a0 hw [] y3 (S0 ((0 : Int32)).toNatClampNeg)  h0 n0 Z0 nn_y3 nw0) hZ (ww hw 95 rfl) (ww hw 94 rfl) (by decide) (by decide)) (g := (mkF m 77 #[.val (.ref a1), .val (.int p2), .val (.double y3), .second, .unset, .unset, .unset] [(.double (S0 ((0 : Int32)).toNatClampNeg)), (.double y3)])) rfl (by rw [hml]; rfl) (argsL := [(.double y3), (.double (S0 ((0 : Int32)).toNatClampNeg))]) (rest := []) (lenOf pd_8_10 rfl) rfl (by show 2 * 0 + _ ≤ _; exact Nat.le_of_eq rfl) (hb hby d8_77) (fun _ _ => ⟨rfl, eh10, (by decide : 0 + 0 ≤ _), (by decide : 0 + 0 ≤ _)⟩)
  dsimp only [Pt.U, Pt.locs, Pt.cells, Pt.slots] at X11 l11 y11 z11 st11 hQ11
  subst l11 y11 z11
  obtain ⟨rfl, N11q, eh11⟩ := hQ11
  have N11 := Fr.app N10 N11q
  obtain ⟨T12, X12, e12, st12⟩ := getF X11 hx hZ hown (host := "") (Or.inl (ww hw 31 rfl)) Via.refl eh11 F_b (g := (mkF m 84 #[.val (.ref a1), .val (.int p2), .val (.double y3), .second, .unset, .unset, .unset] [(.ref a1)])) rfl rfl (hb hby d8_84)
  obtain ⟨cq13, kq13, q13a, q13b, q13c⟩ := isOf hZ e12 E_hp
  obtain ⟨_, _, ⟨T13, L13, k13, n13⟩, -, X13, ⟨Lc13, hQ13, l13, y13, z13⟩, st13⟩ := X12.virtualBack hx (y := (⟨sH, "worstDocument", "()I"⟩ : MethodName)) (z := (⟨sH, "worstDocument", "()I"⟩ : MethodName)) hown (mvT hZ (ww hw 111 rfl)) (mvT hZ (ww hw 112 rfl)) (notFace_of_selects (args := #[]) (mvT hZ (ww hw 114 rfl))) (mvT hZ (ww hw 114 rfl)) (mvT hZ (ww hw 113 rfl)) (by decide) (backOf (W := 0) (rm17 l Z a0 hw [] hp da _ D h0 n0 Z0 F_d V_da (by decide)) hZ (ww hw 115 rfl) (ww hw 20 rfl) (by decide) (by decide)) q13a q13c (g := (mkF m 87 #[.val (.ref a1), .val (.int p2), .val (.double y3), .second, .unset, .unset, .unset] [(.ref hp)])) rfl (by rw [hml]; rfl) (Steps.refl _) (argsL := []) (rest := []) (lenOf pd_8_14 rfl) rfl (by show 2 * 0 + _ ≤ _; exact Nat.le_of_eq rfl) (hb hby d8_87) (fun _ _ => ⟨rfl, e12, (by decide : 0 + 0 ≤ _), (by decide : 0 + 0 ≤ _)⟩)
  dsimp only [Pt.U, Pt.locs, Pt.cells, Pt.slots] at X13 l13 y13 z13 st13 hQ13
  subst l13 y13 z13
  obtain ⟨rfl, N13q, eh13⟩ := hQ13
  have N13 := Fr.app N11 N13q
  obtain ⟨T14, X14, e14, st14⟩ := getF X13 hx hZ hown (host := "") (Or.inl (ww hw 31 rfl)) Via.refl eh13 F_b (g := (mkF m 93 #[.val (.ref a1), .val (.int p2), .val (.double y3), .second, .val (.int (D ((0 : Int32)).toNatClampNeg)), .unset, .unset] [(.ref a1)])) rfl rfl (hb hby d8_93)
  obtain ⟨cq15, kq15, q15a, q15b, q15c⟩ := isOf hZ e14 E_hp
  obtain ⟨_, _, ⟨T15, L15, k15, n15⟩, -, X15, ⟨Lc15, hQ15, l15, y15, z15⟩, st15⟩ := X14.virtualBack hx (y := (⟨sH, "worstScore", "()D"⟩ : MethodName)) (z := (⟨sH, "worstScore", "()D"⟩ : MethodName)) hown (mvT hZ (ww hw 100 rfl)) (mvT hZ (ww hw 101 rfl)) (notFace_of_selects (args := #[]) (mvT hZ (ww hw 103 rfl))) (mvT hZ (ww hw 103 rfl)) (mvT hZ (ww hw 102 rfl)) (by decide) (backOf (W := 0) (rm15 l Z a0 hw [] hp sa _ S0 h0 n0 Z0 F_s V_sa (by decide)) hZ (ww hw 104 rfl) (ww hw 20 rfl) (by decide) (by decide)) q15a q15c (g := (mkF m 96 #[.val (.ref a1), .val (.int p2), .val (.double y3), .second, .val (.int (D ((0 : Int32)).toNatClampNeg)), .unset, .unset] [(.ref hp)])) rfl (by rw [hml]; rfl) (Steps.refl _) (argsL := []) (rest := []) (lenOf pd_8_12 rfl) rfl (by show 2 * 0 + _ ≤ _; exact Nat.le_of_eq rfl) (hb hby d8_96) (fun _ _ => ⟨rfl, e14, (by decide : 0 + 0 ≤ _), (by decide : 0 + 0 ≤ _)⟩)
  dsimp only [Pt.U, Pt.locs, Pt.cells, Pt.slots] at X15 l15 y15 z15 st15 hQ15
  subst l15 y15 z15
  obtain ⟨rfl, nw15, N15q, eh15⟩ := hQ15
  have N15 := Fr.app N13 N15q
  obtain ⟨T16, X16, e16, st16⟩ := getF X15 hx hZ hown (host := "") (Or.inl (ww hw 31 rfl)) Via.refl eh15 F_b (g := (mkF m 102 #[.val (.ref a1), .val (.int p2), .val (.double y3), .second, .val (.int (D ((0 : Int32)).toNatClampNeg)), .val (.double (S0 ((0 : Int32)).toNatClampNeg)), .second] [(.ref a1)])) rfl rfl (hb hby d8_102)
  obtain ⟨cq17, kq17, q17a, q17b, q17c⟩ := isOf hZ e16 E_hp
  obtain ⟨_, _, ⟨T17, L17, k17, n17⟩, -, X17, ⟨Lc17, hQ17, l17, y17, z17⟩, st17⟩ := X16.virtualBack hx (y := (⟨sH, "replaceWorst", "(ID)V"⟩ : MethodName)) (z := (⟨sH, "replaceWorst", "(ID)V"⟩ : MethodName)) hown (mvT hZ (ww hw 116 rfl)) (mvT hZ (ww hw 117 rfl)) (notFace_of_selects (args := #[]) (mvT hZ (ww hw 119 rfl))) (mvT hZ (ww hw 119 rfl)) (mvT hZ (ww hw 118 rfl)) (by decide) (backOf (W := 0) (rm18_1 l Z a0 hw [] hp p2 y3 da sa _ _ h0 n0 Z0 E_hp F_d F_s V_da V_sa nds nhd nhs g_da g_sa F_z nn_y3) hZ (ww hw 120 rfl) (ww hw 20 rfl) (by decide) (by decide)) q17a q17c (g := (mkF m 107 #[.val (.ref a1), .val (.int p2), .val (.double y3), .second, .val (.int (D ((0 : Int32)).toNatClampNeg)), .val (.double (S0 ((0 : Int32)).toNatClampNeg)), .second] [(.double y3), (.int p2), (.ref hp)])) rfl (by rw [hml]; rfl) (Steps.refl _) (argsL := [(.int p2), (.double y3)]) (rest := []) (lenOf pd_8_6 rfl) rfl (by show 2 * 0 + _ ≤ _; exact Nat.le_of_eq rfl) (hb hby d8_107) (fun _ _ => ⟨rfl, e16, (by decide : 0 + 0 ≤ _), (by decide : 0 + 0 ≤ _)⟩)
  dsimp only [Pt.U, Pt.locs, Pt.cells, Pt.slots] at X17 l17 y17 z17 st17 hQ17
  subst l17 y17 z17
  obtain ⟨rfl, N17q, Kc17, ⟨D17, Vd17⟩, ⟨S17, Vs17⟩⟩ := hQ17
  have N17 := Fr.app N15 N17q
  have K17 : Keep h0 T17.heap [da, sa] := (Keep.refl h0 [da, sa]).trans Kc17 (allS (Or.inl (List.mem_of_getElem? (i := 0) rfl)) (allS (Or.inl (List.mem_of_getElem? (i := 1) rfl)) all0))
  obtain ⟨T18, X18, e18, st18⟩ := getF X17 hx hZ hown (host := "") (Or.inl (ww hw 33 rfl)) Via.refl rfl (F_a.keep Kc17 (ninS nbd (ninS nbs nin0))) (g := (mkF m 111 #[.val (.ref a1), .val (.int p2), .val (.double y3), .second, .val (.int (D ((0 : Int32)).toNatClampNeg)), .val (.double (S0 ((0 : Int32)).toNatClampNeg)), .second] [(.ref a1)])) rfl rfl (hb hby d8_111)
  obtain ⟨fs, hr, hrun, hended, hW, hsame⟩ := X18.leave (v := none) (fun _ => rfl)
  refine ⟨_, _, pre0 _ ?_, hrun, hended, _, _, rfl, ?_, ⟨_, rfl⟩, hW, hsame.mono (by decide) (by decide)⟩
  · show Steps _ _ _ (s₁.setTop (mkF m 0 #[.val (.ref a1), .val (.int p2), .val (.double y3), .second, .unset, .unset, .unset] [])) _
    refine XS.aloadN X0.here hx rfl (hb hby d8_0) rfl rfl ?_
    refine st4 _ ?_
    refine XS.ifYes X4.here hx rfl (pc0 := 4) (pc' := 17) rfl (hb hby d8_4) rfl ((if0 _ _).trans (teq (by decide : (0 : Int32) = (0 : Int32))).1) (by decide) (by decide) ?_
    refine XS.aloadN X4.here hx rfl (hb hby d8_17) rfl rfl ?_
    refine st5 _ ?_
    refine st6 _ ?_
    refine XS.aloadN X6.here hx rfl (hb hby d8_24) rfl rfl ?_
    refine st7 _ ?_
    refine XS.icmpYes X7.here hx rfl (pc0 := 28) (pc' := 62) rfl (hb hby d8_28) rfl (flt (by decide : ¬ ((1 : Int32) < (1 : Int32)))).2.1 (by decide) (by decide) ?_
    refine XS.aloadN X7.here hx rfl (hb hby d8_62) rfl rfl ?_
    refine st8 _ ?_
    refine XS.ifNo X8.here hx rfl (hb hby d8_66) rfl ((if0 _ _).trans (tlt (by decide : (0 : Int32) < (1 : Int32))).2.2.2) ?_
    refine XS.dloadN X8.here hx rfl (hb hby d8_69) rfl ?_
    refine XS.aloadN X8.here hx rfl (hb hby d8_70) rfl rfl ?_
    refine st9 _ ?_
    refine st10.trans ?_
    refine st11 _ ?_
    refine XS.ifNo X11.here hx rfl (hb hby d8_80) rfl ((if0 _ _).trans (tlt hc80).2.2.2) ?_
    refine XS.aloadN X11.here hx rfl (hb hby d8_83) rfl rfl ?_
    refine st12 _ ?_
    refine st13.trans ?_
    refine XS.istore X13.here hx rfl (hb hby d8_90) rfl (l' := #[.val (.ref a1), .val (.int p2), .val (.double y3), .second, .val (.int (D ((0 : Int32)).toNatClampNeg)), .unset, .unset]) rfl ?_
    refine XS.aloadN X13.here hx rfl (hb hby d8_92) rfl rfl ?_
    refine st14 _ ?_
    refine st15.trans ?_
    refine XS.dstore X15.here hx rfl (hb hby d8_99) rfl (l' := #[.val (.ref a1), .val (.int p2), .val (.double y3), .second, .val (.int (D ((0 : Int32)).toNatClampNeg)), .val (.double (S0 ((0 : Int32)).toNatClampNeg)), .second]) rfl ?_
    refine XS.aloadN X15.here hx rfl (hb hby d8_101) rfl rfl ?_
    refine st16 _ ?_
    refine XS.iloadN X16.here hx rfl (hb hby d8_105) rfl ?_
    refine XS.dloadN X16.here hx rfl (hb hby d8_106) rfl ?_
    refine st17.trans ?_
    refine XS.aloadN X17.here hx rfl (hb hby d8_110) rfl rfl ?_
    refine st18 _ ?_
    refine XS.ifnullYes X18.here hx rfl (pc0 := 114) (pc' := 135) rfl (hb hby d8_114) rfl (by decide) (by decide) ?_
    refine XS.goto X18.here hx rfl (pc0 := 135) (pc' := 162) rfl (hb hby d8_135) (by decide) (by decide) ?_
    exact X18.returnOut hx Bd.returns (hb hby d8_162) hr
  · show Q8_1_1_1 Z a1 p2 y3 hp da sa D S0 h0 n0 _ T18.heap _
    rw [e18]
    exact ⟨rfl, N17, own_kw K17 (by simp), (F_d.keep Kc17 (ninS nhd (ninS nhs nin0))), (F_s.keep Kc17 (ninS nhd (ninS nhs nin0))), (F_z.keep Kc17 (ninS nhd (ninS nhs nin0))), ⟨_, Vd17⟩, ⟨_, Vs17⟩⟩
def Q8_1_1 (Z : State) (a1 : Addr) (p2 : Int32) (y3 : UInt64) (hp : Addr) (da : Addr) (sa : Addr) (D : Nat → Int32) (S0 : Nat → UInt64) (h0 : Heap) (n0 : Nat) (v : Option Value) (h : Heap) (L : List Loc) : Prop := v = none ∧ Fr n0 L ∧ Keep h0 h [hp, da, sa] ∧ Fld Z h hp sH "documents" "[I" (.ref da) ∧ Fld Z h hp sH "scores" "[D" (.ref sa) ∧ Fld Z h hp sH "size" "I" (.int (1 : Int32)) ∧ (∃ D', own_AI Z h da (1 : Int32) D') ∧ (∃ S', own_AD Z h sa (1 : Int32) S')
theorem rm8_1_1 (l : Launch) (Z : State) (a0 : Array Value) (hw : ∀ d ∈ tables_1, d.before a0 Z = true) (ws : List Jvm.Cond) (a1 : Addr) (p2 : Int32) (y3 : UInt64) (hp : Addr) (da : Addr) (sa : Addr) (D : Nat → Int32) (S0 : Nat → UInt64) (h0 : Heap) (n0 : Nat) (Z0 : n0 ≤ h0.size) (E_a1 : Exa Z h0 a1 sB) (F_c : Fld Z h0 a1 sB "capacity" "I" (.int (1 : Int32))) (F_b : Fld Z h0 a1 sB "best" "Lcom/example/calpurnia/calpurnia/ranking/BestDocuments$Heap;" (.ref hp)) (F_a : Fld Z h0 a1 sB "asRead" "Ljava/util/function/DoubleUnaryOperator;" .null) (F_t : Fld Z h0 a1 sB "sorted" "Z" (.int (0 : Int32))) (E_hp : Exa Z h0 hp sH) (F_d : Fld Z h0 hp sH "documents" "[I" (.ref da)) (F_s : Fld Z h0 hp sH "scores" "[D" (.ref sa)) (F_z : Fld Z h0 hp sH "size" "I" (.int (1 : Int32))) (V_da : own_AI Z h0 da (1 : Int32) D) (V_sa : own_AD Z h0 sa (1 : Int32) S0) (nbh : a1 ≠ hp) (nbd : a1 ≠ da) (nbs : a1 ≠ sa) (nhd : hp ≠ da) (nhs : hp ≠ sa) (nds : da ≠ sa) (g_hp : n0 ≤ hp) (g_da : n0 ≤ da) (g_sa : n0 ≤ sa) (nn_y3 : Jvm.Free.Fl.NoNaN64 y3) (nw0 : Jvm.Free.Fl.NoNaN64 (S0 ((0 : Int32)).toNatClampNeg)) :
    MetFree l (⟨sB, "offer", "(ID)V"⟩ : MethodName) (head1 (Jvm.Cond.code (⟨sB, "offer", "(ID)V"⟩ : MethodName) prog_186_method_6_code 7 none :: ws) ({ frames := 7, cells := 0, slots := 0, locals := 190 } : Room)) (fun a U => a = #[(.ref a1), (.int p2), (.double y3)] ∧ Z.Warmed39 U.vm ∧ U.heap = h0) (fun _ _ _ _ _ => True) (fun _ U o U' => ∃ v L, o = .returned v ∧ Q8_1_1 Z a1 p2 y3 hp da sa D S0 h0 n0 v U'.heap L ∧ FrameEnd U o U' L ({ frames := 7, cells := 0, slots := 0, locals := 190 } : Room).cells ({ frames := 7, cells := 0, slots := 0, locals := 190 } : Room).slots) := by
  by_cases c : (0 : Int32) < (own_cmp y3 (S0 ((0 : Int32)).toNatClampNeg))
  · exact rm8_1_1_1 l Z a0 hw ws a1 p2 y3 hp da sa D S0 h0 n0 Z0 E_a1 F_c F_b F_a F_t E_hp F_d F_s F_z V_da V_sa nbh nbd nbs nhd nhs nds g_hp g_da g_sa nn_y3 nw0 c
  · exact rm8_1_1_0 l Z a0 hw ws a1 p2 y3 hp da sa D S0 h0 n0 Z0 E_a1 F_c F_b F_a F_t E_hp F_d F_s F_z V_da V_sa nbh nbd nbs nhd nhs nds g_hp g_da g_sa nn_y3 nw0 c
theorem ef_8_2_0_0 (m : MethodId) (x0 : Addr) (x1 : Int32) (x2 : UInt64) : entryFrame m #[(.ref x0), (.int x1), (.double x2)] 7 = mkF m 0 #[.val (.ref x0), .val (.int x1), .val (.double x2), .second, .unset, .unset, .unset] [] := by first | (simp [entryFrame, mkF, argsToLocals, Value.category]; done) | rfl
def Q8_2_0_0 (Z : State) (a1 : Addr) (p2 : Int32) (y3 : UInt64) (hp : Addr) (da : Addr) (sa : Addr) (D : Nat → Int32) (S0 : Nat → UInt64) (h0 : Heap) (n0 : Nat) (v : Option Value) (h : Heap) (L : List Loc) : Prop := v = none ∧ Fr n0 L ∧ Keep h0 h [hp, da, sa] ∧ Fld Z h hp sH "documents" "[I" (.ref da) ∧ Fld Z h hp sH "scores" "[D" (.ref sa) ∧ Fld Z h hp sH "size" "I" (.int (1 : Int32)) ∧ (∃ D', own_AI Z h da (2 : Int32) D') ∧ (∃ S', own_AD Z h sa (2 : Int32) S')
set_option maxRecDepth 65536 in
set_option maxHeartbeats 40000000 in
theorem rm8_2_0_0 (l : Launch) (Z : State) (a0 : Array Value) (hw : ∀ d ∈ tables_1, d.before a0 Z = true) (ws : List Jvm.Cond) (a1 : Addr) (p2 : Int32) (y3 : UInt64) (hp : Addr) (da : Addr) (sa : Addr) (D : Nat → Int32) (S0 : Nat → UInt64) (h0 : Heap) (n0 : Nat) (Z0 : n0 ≤ h0.size) (E_a1 : Exa Z h0 a1 sB) (F_c : Fld Z h0 a1 sB "capacity" "I" (.int (2 : Int32))) (F_b : Fld Z h0 a1 sB "best" "Lcom/example/calpurnia/calpurnia/ranking/BestDocuments$Heap;" (.ref hp)) (F_a : Fld Z h0 a1 sB "asRead" "Ljava/util/function/DoubleUnaryOperator;" .null) (F_t : Fld Z h0 a1 sB "sorted" "Z" (.int (0 : Int32))) (E_hp : Exa Z h0 hp sH) (F_d : Fld Z h0 hp sH "documents" "[I" (.ref da)) (F_s : Fld Z h0 hp sH "scores" "[D" (.ref sa)) (F_z : Fld Z h0 hp sH "size" "I" (.int (0 : Int32))) (V_da : own_AI Z h0 da (2 : Int32) D) (V_sa : own_AD Z h0 sa (2 : Int32) S0) (nbh : a1 ≠ hp) (nbd : a1 ≠ da) (nbs : a1 ≠ sa) (nhd : hp ≠ da) (nhs : hp ≠ sa) (nds : da ≠ sa) (g_hp : n0 ≤ hp) (g_da : n0 ≤ da) (g_sa : n0 ≤ sa) (nn_y3 : Jvm.Free.Fl.NoNaN64 y3) :
    MetFree l (⟨sB, "offer", "(ID)V"⟩ : MethodName) (head1 (Jvm.Cond.code (⟨sB, "offer", "(ID)V"⟩ : MethodName) prog_186_method_6_code 7 none :: ws) ({ frames := 7, cells := 0, slots := 0, locals := 190 } : Room)) (fun a U => a = #[(.ref a1), (.int p2), (.double y3)] ∧ Z.Warmed39 U.vm ∧ U.heap = h0) (fun _ _ _ _ _ => True) (fun _ U o U' => ∃ v L, o = .returned v ∧ Q8_2_0_0 Z a1 p2 y3 hp da sa D S0 h0 n0 v U'.heap L ∧ FrameEnd U o U' L ({ frames := 7, cells := 0, slots := 0, locals := 190 } : Room).cells ({ frames := 7, cells := 0, slots := 0, locals := 190 } : Room).slots) := by
  refine MetFree.of_bodySF (plainFor_of_name pn_8) hisR ?_
  intro p e s m args below meth c s₁ Bd hml0 hP hK
  obtain ⟨rfl, hZ, hh⟩ := hP
  have hx := Bd.exec
  have hby := Bd.bytes
  have hml : c.maxLocals = 7 := hml0
  have hown : s.vm.findClass sB = some m.cls := findClass_of_methodNamed Bd.named
  have hnm := (name_of_methodNamed Bd.named Bd.method).1
  have X0 : Stand p l e ({ frames := 7, cells := 0, slots := 0, locals := 190 } : Room) s m #[(.ref a1), (.int p2), (.double y3)] below meth c s₁ [] 0 0 := Stand.of_body Bd
  have e0 : s₁.heap = h0 := by rw [← hh, Bd.state]; rfl
  have N0 := Fr.nil n0
  have pre0 : ∀ t, Steps p.tables e below (s₁.setTop (mkF m 0 #[.val (.ref a1), .val (.int p2), .val (.double y3), .second, .unset, .unset, .unset] [])) t → Steps p.tables e below (s₁.setTop (entryFrame m #[(.ref a1), (.int p2), (.double y3)] 7)) t := fun t k => castTop (ef_8_2_0_0 m a1 p2 y3) k

  obtain ⟨T4, X4, e4, st4⟩ := getF X0 hx hZ hown (host := "") (Or.inl (ww hw 72 rfl)) Via.refl e0 F_t (g := (mkF m 1 #[.val (.ref a1), .val (.int p2), .val (.double y3), .second, .unset, .unset, .unset] [(.ref a1)])) rfl rfl (hb hby d8_1)
  obtain ⟨T5, X5, e5, st5⟩ := getF X4 hx hZ hown (host := "") (Or.inl (ww hw 31 rfl)) Via.refl e4 F_b (g := (mkF m 18 #[.val (.ref a1), .val (.int p2), .val (.double y3), .second, .unset, .unset, .unset] [(.ref a1)])) rfl rfl (hb hby d8_18)
  obtain ⟨T6, X6, e6, st6⟩ := own_getR X5 hx hZ hown (ww hw 61 rfl) e5 F_z (g := (mkF m 21 #[.val (.ref a1), .val (.int p2), .val (.double y3), .second, .unset, .unset, .unset] [(.ref hp)])) rfl rfl (hb hby d8_21)
  obtain ⟨T7, X7, e7, st7⟩ := getF X6 hx hZ hown (host := "") (Or.inl (ww hw 16 rfl)) Via.refl e6 F_c (g := (mkF m 25 #[.val (.ref a1), .val (.int p2), .val (.double y3), .second, .unset, .unset, .unset] [(.ref a1), (.int (0 : Int32))])) rfl rfl (hb hby d8_25)
  obtain ⟨T8, X8, e8, st8⟩ := getF X7 hx hZ hown (host := "") (Or.inl (ww hw 31 rfl)) Via.refl e7 F_b (g := (mkF m 32 #[.val (.ref a1), .val (.int p2), .val (.double y3), .second, .unset, .unset, .unset] [(.ref a1)])) rfl rfl (hb hby d8_32)
  obtain ⟨cq9, kq9, q9a, q9b, q9c⟩ := isOf hZ e8 E_hp
  obtain ⟨_, _, ⟨T9, L9, k9, n9⟩, -, X9, ⟨Lc9, hQ9, l9, y9, z9⟩, st9⟩ := X8.virtualBack hx (y := (⟨sH, "add", "(ID)V"⟩ : MethodName)) (z := (⟨sH, "add", "(ID)V"⟩ : MethodName)) hown (mvT hZ (ww hw 74 rfl)) (mvT hZ (ww hw 75 rfl)) (notFace_of_selects (args := #[]) (mvT hZ (ww hw 77 rfl))) (mvT hZ (ww hw 77 rfl)) (mvT hZ (ww hw 76 rfl)) (by decide) (backOf (W := 0) (rm9_0_0 l Z a0 hw [] hp p2 y3 da sa _ _ _ h0 n0 Z0 E_hp F_d F_s V_da V_sa nds nhd nhs g_da g_sa F_z nn_y3 g_hp (by decide) (by decide)) hZ (ww hw 78 rfl) (ww hw 20 rfl) (by decide) (by decide)) q9a q9c (g := (mkF m 37 #[.val (.ref a1), .val (.int p2), .val (.double y3), .second, .unset, .unset, .unset] [(.double y3), (.int p2), (.ref hp)])) rfl (by rw [hml]; rfl) (Steps.refl _) (argsL := [(.int p2), (.double y3)]) (rest := []) (lenOf pd_8_6 rfl) rfl (by show 2 * 0 + _ ≤ _; exact Nat.le_of_eq rfl) (hb hby d8_37) (fun _ _ => ⟨rfl, e8, (by decide : 0 + 0 ≤ _), (by decide : 0 + 0 ≤ _)⟩)
  dsimp only [Pt.U, Pt.locs, Pt.cells, Pt.slots] at X9 l9 y9 z9 st9 hQ9
  subst l9 y9 z9
  obtain ⟨rfl, N9q, Kc9, Ec9, Fd9, Fs9, Fz9, ⟨D9, Vd9⟩, ⟨S9, Vs9⟩⟩ := hQ9
  have N9 := Fr.app N0 N9q
  have K9 : Keep h0 T9.heap [hp, da, sa] := (Keep.refl h0 [hp, da, sa]).trans Kc9 (allS (Or.inl (List.mem_of_getElem? (i := 0) rfl)) (allS (Or.inl (List.mem_of_getElem? (i := 1) rfl)) (allS (Or.inl (List.mem_of_getElem? (i := 2) rfl)) all0)))
  obtain ⟨cq10, kq10, q10a, q10b, q10c⟩ := isOf hZ rfl (E_a1.keep Kc9)
  obtain ⟨_, _, ⟨T10, L10, k10, n10⟩, -, X10, ⟨Lc10, hQ10, l10, y10, z10⟩, st10⟩ := X9.virtualBack hx (y := (⟨sB, "full", "()Z"⟩ : MethodName)) (z := (⟨sB, "full", "()Z"⟩ : MethodName)) hown (mvT hZ (ww hw 84 rfl)) (mvT hZ (ww hw 57 rfl)) (notFace_of_selects (args := #[]) (mvT hZ (ww hw 59 rfl))) (mvT hZ (ww hw 59 rfl)) (mvT hZ (ww hw 58 rfl)) (by decide) (backOf (W := 0) (rm6_0 l Z a0 hw [] a1 _ _ _ T9.heap n0 (Nat.le_trans Z0 Kc9.1) (F_b.keep Kc9 (ninS nbh (ninS nbd (ninS nbs nin0)))) Fz9 (F_c.keep Kc9 (ninS nbh (ninS nbd (ninS nbs nin0)))) (by decide)) hZ (ww hw 60 rfl) (ww hw 3 rfl) (by decide) (by decide)) q10a q10c (g := (mkF m 41 #[.val (.ref a1), .val (.int p2), .val (.double y3), .second, .unset, .unset, .unset] [(.ref a1)])) rfl (by rw [hml]; rfl) (Steps.refl _) (argsL := []) (rest := []) (lenOf pd_8_4 rfl) rfl (by show 2 * 0 + _ ≤ _; exact Nat.le_of_eq rfl) (hb hby d8_41) (fun _ _ => ⟨rfl, rfl, (by decide : 0 + 0 ≤ _), (by decide : 0 + 0 ≤ _)⟩)
  dsimp only [Pt.U, Pt.locs, Pt.cells, Pt.slots] at X10 l10 y10 z10 st10 hQ10
  subst l10 y10 z10
  obtain ⟨rfl, N10q, eh10⟩ := hQ10
  have N10 := Fr.app N9 N10q
  obtain ⟨fs, hr, hrun, hended, hW, hsame⟩ := X10.leave (v := none) (fun _ => rfl)
  refine ⟨_, _, pre0 _ ?_, hrun, hended, _, _, rfl, ?_, ⟨_, rfl⟩, hW, hsame.mono (by decide) (by decide)⟩
  · show Steps _ _ _ (s₁.setTop (mkF m 0 #[.val (.ref a1), .val (.int p2), .val (.double y3), .second, .unset, .unset, .unset] [])) _
    refine XS.aloadN X0.here hx rfl (hb hby d8_0) rfl rfl ?_
    refine st4 _ ?_
    refine XS.ifYes X4.here hx rfl (pc0 := 4) (pc' := 17) rfl (hb hby d8_4) rfl ((if0 _ _).trans (teq (by decide : (0 : Int32) = (0 : Int32))).1) (by decide) (by decide) ?_
    refine XS.aloadN X4.here hx rfl (hb hby d8_17) rfl rfl ?_
    refine st5 _ ?_
    refine st6 _ ?_
    refine XS.aloadN X6.here hx rfl (hb hby d8_24) rfl rfl ?_
    refine st7 _ ?_
    refine XS.icmpNo X7.here hx rfl (hb hby d8_28) rfl (tlt (by decide : (0 : Int32) < (2 : Int32))).2.1 ?_
    refine XS.aloadN X7.here hx rfl (hb hby d8_31) rfl rfl ?_
    refine st8 _ ?_
    refine XS.iloadN X8.here hx rfl (hb hby d8_35) rfl ?_
    refine XS.dloadN X8.here hx rfl (hb hby d8_36) rfl ?_
    refine st9.trans ?_
    refine XS.aloadN X9.here hx rfl (hb hby d8_40) rfl rfl ?_
    refine st10.trans ?_
    refine XS.ifYes X10.here hx rfl (pc0 := 44) (pc' := 162) rfl (hb hby d8_44) rfl ((if0 _ _).trans (teq (by decide : (0 : Int32) = (0 : Int32))).1) (by decide) (by decide) ?_
    exact X10.returnOut hx Bd.returns (hb hby d8_162) hr
  · show Q8_2_0_0 Z a1 p2 y3 hp da sa D S0 h0 n0 _ T10.heap _
    rw [eh10]
    exact ⟨rfl, N10, own_kw K9 (by simp), Fd9, Fs9, Fz9, ⟨_, Vd9⟩, ⟨_, Vs9⟩⟩
theorem ef_8_2_1_0 (m : MethodId) (x0 : Addr) (x1 : Int32) (x2 : UInt64) : entryFrame m #[(.ref x0), (.int x1), (.double x2)] 7 = mkF m 0 #[.val (.ref x0), .val (.int x1), .val (.double x2), .second, .unset, .unset, .unset] [] := by first | (simp [entryFrame, mkF, argsToLocals, Value.category]; done) | rfl
def Q8_2_1_0 (Z : State) (a1 : Addr) (p2 : Int32) (y3 : UInt64) (hp : Addr) (da : Addr) (sa : Addr) (D : Nat → Int32) (S0 : Nat → UInt64) (h0 : Heap) (n0 : Nat) (v : Option Value) (h : Heap) (L : List Loc) : Prop := v = none ∧ Fr n0 L ∧ Keep h0 h [hp, da, sa] ∧ Fld Z h hp sH "documents" "[I" (.ref da) ∧ Fld Z h hp sH "scores" "[D" (.ref sa) ∧ Fld Z h hp sH "size" "I" (.int (2 : Int32)) ∧ (∃ D', own_AI Z h da (2 : Int32) D') ∧ (∃ S', own_AD Z h sa (2 : Int32) S')
set_option maxRecDepth 65536 in
set_option maxHeartbeats 40000000 in
theorem rm8_2_1_0 (l : Launch) (Z : State) (a0 : Array Value) (hw : ∀ d ∈ tables_1, d.before a0 Z = true) (ws : List Jvm.Cond) (a1 : Addr) (p2 : Int32) (y3 : UInt64) (hp : Addr) (da : Addr) (sa : Addr) (D : Nat → Int32) (S0 : Nat → UInt64) (h0 : Heap) (n0 : Nat) (Z0 : n0 ≤ h0.size) (E_a1 : Exa Z h0 a1 sB) (F_c : Fld Z h0 a1 sB "capacity" "I" (.int (2 : Int32))) (F_b : Fld Z h0 a1 sB "best" "Lcom/example/calpurnia/calpurnia/ranking/BestDocuments$Heap;" (.ref hp)) (F_a : Fld Z h0 a1 sB "asRead" "Ljava/util/function/DoubleUnaryOperator;" .null) (F_t : Fld Z h0 a1 sB "sorted" "Z" (.int (0 : Int32))) (E_hp : Exa Z h0 hp sH) (F_d : Fld Z h0 hp sH "documents" "[I" (.ref da)) (F_s : Fld Z h0 hp sH "scores" "[D" (.ref sa)) (F_z : Fld Z h0 hp sH "size" "I" (.int (1 : Int32))) (V_da : own_AI Z h0 da (2 : Int32) D) (V_sa : own_AD Z h0 sa (2 : Int32) S0) (nbh : a1 ≠ hp) (nbd : a1 ≠ da) (nbs : a1 ≠ sa) (nhd : hp ≠ da) (nhs : hp ≠ sa) (nds : da ≠ sa) (g_hp : n0 ≤ hp) (g_da : n0 ≤ da) (g_sa : n0 ≤ sa) (nn_y3 : Jvm.Free.Fl.NoNaN64 y3) :
    MetFree l (⟨sB, "offer", "(ID)V"⟩ : MethodName) (head1 (Jvm.Cond.code (⟨sB, "offer", "(ID)V"⟩ : MethodName) prog_186_method_6_code 7 none :: ws) ({ frames := 7, cells := 0, slots := 0, locals := 190 } : Room)) (fun a U => a = #[(.ref a1), (.int p2), (.double y3)] ∧ Z.Warmed39 U.vm ∧ U.heap = h0) (fun _ _ _ _ _ => True) (fun _ U o U' => ∃ v L, o = .returned v ∧ Q8_2_1_0 Z a1 p2 y3 hp da sa D S0 h0 n0 v U'.heap L ∧ FrameEnd U o U' L ({ frames := 7, cells := 0, slots := 0, locals := 190 } : Room).cells ({ frames := 7, cells := 0, slots := 0, locals := 190 } : Room).slots) := by
  refine MetFree.of_bodySF (plainFor_of_name pn_8) hisR ?_
  intro p e s m args below meth c s₁ Bd hml0 hP hK
  obtain ⟨rfl, hZ, hh⟩ := hP
  have hx := Bd.exec
  have hby := Bd.bytes
  have hml : c.maxLocals = 7 := hml0
  have hown : s.vm.findClass sB = some m.cls := findClass_of_methodNamed Bd.named
  have hnm := (name_of_methodNamed Bd.named Bd.method).1
  have X0 : Stand p l e ({ frames := 7, cells := 0, slots := 0, locals := 190 } : Room) s m #[(.ref a1), (.int p2), (.double y3)] below meth c s₁ [] 0 0 := Stand.of_body Bd
  have e0 : s₁.heap = h0 := by rw [← hh, Bd.state]; rfl
  have N0 := Fr.nil n0
  have pre0 : ∀ t, Steps p.tables e below (s₁.setTop (mkF m 0 #[.val (.ref a1), .val (.int p2), .val (.double y3), .second, .unset, .unset, .unset] [])) t → Steps p.tables e below (s₁.setTop (entryFrame m #[(.ref a1), (.int p2), (.double y3)] 7)) t := fun t k => castTop (ef_8_2_1_0 m a1 p2 y3) k

  obtain ⟨T4, X4, e4, st4⟩ := getF X0 hx hZ hown (host := "") (Or.inl (ww hw 72 rfl)) Via.refl e0 F_t (g := (mkF m 1 #[.val (.ref a1), .val (.int p2), .val (.double y3), .second, .unset, .unset, .unset] [(.ref a1)])) rfl rfl (hb hby d8_1)
  obtain ⟨T5, X5, e5, st5⟩ := getF X4 hx hZ hown (host := "") (Or.inl (ww hw 31 rfl)) Via.refl e4 F_b (g := (mkF m 18 #[.val (.ref a1), .val (.int p2), .val (.double y3), .second, .unset, .unset, .unset] [(.ref a1)])) rfl rfl (hb hby d8_18)
  obtain ⟨T6, X6, e6, st6⟩ := own_getR X5 hx hZ hown (ww hw 61 rfl) e5 F_z (g := (mkF m 21 #[.val (.ref a1), .val (.int p2), .val (.double y3), .second, .unset, .unset, .unset] [(.ref hp)])) rfl rfl (hb hby d8_21)
  obtain ⟨T7, X7, e7, st7⟩ := getF X6 hx hZ hown (host := "") (Or.inl (ww hw 16 rfl)) Via.refl e6 F_c (g := (mkF m 25 #[.val (.ref a1), .val (.int p2), .val (.double y3), .second, .unset, .unset, .unset] [(.ref a1), (.int (1 : Int32))])) rfl rfl (hb hby d8_25)
  obtain ⟨T8, X8, e8, st8⟩ := getF X7 hx hZ hown (host := "") (Or.inl (ww hw 31 rfl)) Via.refl e7 F_b (g := (mkF m 32 #[.val (.ref a1), .val (.int p2), .val (.double y3), .second, .unset, .unset, .unset] [(.ref a1)])) rfl rfl (hb hby d8_32)
  obtain ⟨cq9, kq9, q9a, q9b, q9c⟩ := isOf hZ e8 E_hp
  obtain ⟨_, _, ⟨T9, L9, k9, n9⟩, -, X9, ⟨Lc9, hQ9, l9, y9, z9⟩, st9⟩ := X8.virtualBack hx (y := (⟨sH, "add", "(ID)V"⟩ : MethodName)) (z := (⟨sH, "add", "(ID)V"⟩ : MethodName)) hown (mvT hZ (ww hw 74 rfl)) (mvT hZ (ww hw 75 rfl)) (notFace_of_selects (args := #[]) (mvT hZ (ww hw 77 rfl))) (mvT hZ (ww hw 77 rfl)) (mvT hZ (ww hw 76 rfl)) (by decide) (backOf (W := 0) (rm9_1 l Z a0 hw [] hp p2 y3 da sa _ _ _ h0 n0 Z0 E_hp F_d F_s V_da V_sa nds nhd nhs g_da g_sa F_z nn_y3 g_hp (by decide) (by decide)) hZ (ww hw 78 rfl) (ww hw 20 rfl) (by decide) (by decide)) q9a q9c (g := (mkF m 37 #[.val (.ref a1), .val (.int p2), .val (.double y3), .second, .unset, .unset, .unset] [(.double y3), (.int p2), (.ref hp)])) rfl (by rw [hml]; rfl) (Steps.refl _) (argsL := [(.int p2), (.double y3)]) (rest := []) (lenOf pd_8_6 rfl) rfl (by show 2 * 0 + _ ≤ _; exact Nat.le_of_eq rfl) (hb hby d8_37) (fun _ _ => ⟨rfl, e8, (by decide : 0 + 0 ≤ _), (by decide : 0 + 0 ≤ _)⟩)
  dsimp only [Pt.U, Pt.locs, Pt.cells, Pt.slots] at X9 l9 y9 z9 st9 hQ9
  subst l9 y9 z9
  obtain ⟨rfl, N9q, Kc9, Ec9, Fd9, Fs9, Fz9, ⟨D9, Vd9⟩, ⟨S9, Vs9⟩⟩ := hQ9
  have N9 := Fr.app N0 N9q
  have K9 : Keep h0 T9.heap [hp, da, sa] := (Keep.refl h0 [hp, da, sa]).trans Kc9 (allS (Or.inl (List.mem_of_getElem? (i := 0) rfl)) (allS (Or.inl (List.mem_of_getElem? (i := 1) rfl)) (allS (Or.inl (List.mem_of_getElem? (i := 2) rfl)) all0)))
  obtain ⟨cq10, kq10, q10a, q10b, q10c⟩ := isOf hZ rfl (E_a1.keep Kc9)
  obtain ⟨_, _, ⟨T10, L10, k10, n10⟩, -, X10, ⟨Lc10, hQ10, l10, y10, z10⟩, st10⟩ := X9.virtualBack hx (y := (⟨sB, "full", "()Z"⟩ : MethodName)) (z := (⟨sB, "full", "()Z"⟩ : MethodName)) hown (mvT hZ (ww hw 84 rfl)) (mvT hZ (ww hw 57 rfl)) (notFace_of_selects (args := #[]) (mvT hZ (ww hw 59 rfl))) (mvT hZ (ww hw 59 rfl)) (mvT hZ (ww hw 58 rfl)) (by decide) (backOf (W := 0) (rm6_1 l Z a0 hw [] a1 _ _ _ T9.heap n0 (Nat.le_trans Z0 Kc9.1) (F_b.keep Kc9 (ninS nbh (ninS nbd (ninS nbs nin0)))) Fz9 (F_c.keep Kc9 (ninS nbh (ninS nbd (ninS nbs nin0)))) (by decide)) hZ (ww hw 60 rfl) (ww hw 3 rfl) (by decide) (by decide)) q10a q10c (g := (mkF m 41 #[.val (.ref a1), .val (.int p2), .val (.double y3), .second, .unset, .unset, .unset] [(.ref a1)])) rfl (by rw [hml]; rfl) (Steps.refl _) (argsL := []) (rest := []) (lenOf pd_8_4 rfl) rfl (by show 2 * 0 + _ ≤ _; exact Nat.le_of_eq rfl) (hb hby d8_41) (fun _ _ => ⟨rfl, rfl, (by decide : 0 + 0 ≤ _), (by decide : 0 + 0 ≤ _)⟩)
  dsimp only [Pt.U, Pt.locs, Pt.cells, Pt.slots] at X10 l10 y10 z10 st10 hQ10
  subst l10 y10 z10
  obtain ⟨rfl, N10q, eh10⟩ := hQ10
  have N10 := Fr.app N9 N10q
  obtain ⟨T11, X11, e11, st11⟩ := getF X10 hx hZ hown (host := "") (Or.inl (ww hw 33 rfl)) Via.refl eh10 (F_a.keep Kc9 (ninS nbh (ninS nbd (ninS nbs nin0)))) (g := (mkF m 48 #[.val (.ref a1), .val (.int p2), .val (.double y3), .second, .unset, .unset, .unset] [(.ref a1)])) rfl rfl (hb hby d8_48)
  obtain ⟨fs, hr, hrun, hended, hW, hsame⟩ := X11.leave (v := none) (fun _ => rfl)
  refine ⟨_, _, pre0 _ ?_, hrun, hended, _, _, rfl, ?_, ⟨_, rfl⟩, hW, hsame.mono (by decide) (by decide)⟩
  · show Steps _ _ _ (s₁.setTop (mkF m 0 #[.val (.ref a1), .val (.int p2), .val (.double y3), .second, .unset, .unset, .unset] [])) _
    refine XS.aloadN X0.here hx rfl (hb hby d8_0) rfl rfl ?_
    refine st4 _ ?_
    refine XS.ifYes X4.here hx rfl (pc0 := 4) (pc' := 17) rfl (hb hby d8_4) rfl ((if0 _ _).trans (teq (by decide : (0 : Int32) = (0 : Int32))).1) (by decide) (by decide) ?_
    refine XS.aloadN X4.here hx rfl (hb hby d8_17) rfl rfl ?_
    refine st5 _ ?_
    refine st6 _ ?_
    refine XS.aloadN X6.here hx rfl (hb hby d8_24) rfl rfl ?_
    refine st7 _ ?_
    refine XS.icmpNo X7.here hx rfl (hb hby d8_28) rfl (tlt (by decide : (1 : Int32) < (2 : Int32))).2.1 ?_
    refine XS.aloadN X7.here hx rfl (hb hby d8_31) rfl rfl ?_
    refine st8 _ ?_
    refine XS.iloadN X8.here hx rfl (hb hby d8_35) rfl ?_
    refine XS.dloadN X8.here hx rfl (hb hby d8_36) rfl ?_
    refine st9.trans ?_
    refine XS.aloadN X9.here hx rfl (hb hby d8_40) rfl rfl ?_
    refine st10.trans ?_
    refine XS.ifNo X10.here hx rfl (hb hby d8_44) rfl ((if0 _ _).trans (feq (by decide : ¬ ((1 : Int32) = (0 : Int32)))).1) ?_
    refine XS.aloadN X10.here hx rfl (hb hby d8_47) rfl rfl ?_
    refine st11 _ ?_
    refine XS.ifnullYes X11.here hx rfl (pc0 := 51) (pc' := 162) rfl (hb hby d8_51) rfl (by decide) (by decide) ?_
    exact X11.returnOut hx Bd.returns (hb hby d8_162) hr
  · show Q8_2_1_0 Z a1 p2 y3 hp da sa D S0 h0 n0 _ T11.heap _
    rw [e11]
    exact ⟨rfl, N10, own_kw K9 (by simp), Fd9, Fs9, Fz9, ⟨_, Vd9⟩, ⟨_, Vs9⟩⟩
theorem ef_8_2_2_0 (m : MethodId) (x0 : Addr) (x1 : Int32) (x2 : UInt64) : entryFrame m #[(.ref x0), (.int x1), (.double x2)] 7 = mkF m 0 #[.val (.ref x0), .val (.int x1), .val (.double x2), .second, .unset, .unset, .unset] [] := by first | (simp [entryFrame, mkF, argsToLocals, Value.category]; done) | rfl
def Q8_2_2_0 (Z : State) (a1 : Addr) (p2 : Int32) (y3 : UInt64) (hp : Addr) (da : Addr) (sa : Addr) (D : Nat → Int32) (S0 : Nat → UInt64) (h0 : Heap) (n0 : Nat) (v : Option Value) (h : Heap) (L : List Loc) : Prop := v = none ∧ Fr n0 L ∧ Keep h0 h [hp, da, sa] ∧ Fld Z h hp sH "documents" "[I" (.ref da) ∧ Fld Z h hp sH "scores" "[D" (.ref sa) ∧ Fld Z h hp sH "size" "I" (.int (2 : Int32)) ∧ (∃ D', own_AI Z h da (2 : Int32) D') ∧ (∃ S', own_AD Z h sa (2 : Int32) S')
set_option maxRecDepth 65536 in
set_option maxHeartbeats 40000000 in
theorem rm8_2_2_0 (l : Launch) (Z : State) (a0 : Array Value) (hw : ∀ d ∈ tables_1, d.before a0 Z = true) (ws : List Jvm.Cond) (a1 : Addr) (p2 : Int32) (y3 : UInt64) (hp : Addr) (da : Addr) (sa : Addr) (D : Nat → Int32) (S0 : Nat → UInt64) (h0 : Heap) (n0 : Nat) (Z0 : n0 ≤ h0.size) (E_a1 : Exa Z h0 a1 sB) (F_c : Fld Z h0 a1 sB "capacity" "I" (.int (2 : Int32))) (F_b : Fld Z h0 a1 sB "best" "Lcom/example/calpurnia/calpurnia/ranking/BestDocuments$Heap;" (.ref hp)) (F_a : Fld Z h0 a1 sB "asRead" "Ljava/util/function/DoubleUnaryOperator;" .null) (F_t : Fld Z h0 a1 sB "sorted" "Z" (.int (0 : Int32))) (E_hp : Exa Z h0 hp sH) (F_d : Fld Z h0 hp sH "documents" "[I" (.ref da)) (F_s : Fld Z h0 hp sH "scores" "[D" (.ref sa)) (F_z : Fld Z h0 hp sH "size" "I" (.int (2 : Int32))) (V_da : own_AI Z h0 da (2 : Int32) D) (V_sa : own_AD Z h0 sa (2 : Int32) S0) (nbh : a1 ≠ hp) (nbd : a1 ≠ da) (nbs : a1 ≠ sa) (nhd : hp ≠ da) (nhs : hp ≠ sa) (nds : da ≠ sa) (g_hp : n0 ≤ hp) (g_da : n0 ≤ da) (g_sa : n0 ≤ sa) (nn_y3 : Jvm.Free.Fl.NoNaN64 y3) (nw0 : Jvm.Free.Fl.NoNaN64 (S0 ((0 : Int32)).toNatClampNeg)) (hc80 : ¬ ((0 : Int32) < (own_cmp y3 (S0 ((0 : Int32)).toNatClampNeg)))) :
    MetFree l (⟨sB, "offer", "(ID)V"⟩ : MethodName) (head1 (Jvm.Cond.code (⟨sB, "offer", "(ID)V"⟩ : MethodName) prog_186_method_6_code 7 none :: ws) ({ frames := 7, cells := 0, slots := 0, locals := 190 } : Room)) (fun a U => a = #[(.ref a1), (.int p2), (.double y3)] ∧ Z.Warmed39 U.vm ∧ U.heap = h0) (fun _ _ _ _ _ => True) (fun _ U o U' => ∃ v L, o = .returned v ∧ Q8_2_2_0 Z a1 p2 y3 hp da sa D S0 h0 n0 v U'.heap L ∧ FrameEnd U o U' L ({ frames := 7, cells := 0, slots := 0, locals := 190 } : Room).cells ({ frames := 7, cells := 0, slots := 0, locals := 190 } : Room).slots) := by
  refine MetFree.of_bodySF (plainFor_of_name pn_8) hisR ?_
  intro p e s m args below meth c s₁ Bd hml0 hP hK
  obtain ⟨rfl, hZ, hh⟩ := hP
  have hx := Bd.exec
  have hby := Bd.bytes
  have hml : c.maxLocals = 7 := hml0
  have hown : s.vm.findClass sB = some m.cls := findClass_of_methodNamed Bd.named
  have hnm := (name_of_methodNamed Bd.named Bd.method).1
  have X0 : Stand p l e ({ frames := 7, cells := 0, slots := 0, locals := 190 } : Room) s m #[(.ref a1), (.int p2), (.double y3)] below meth c s₁ [] 0 0 := Stand.of_body Bd
  have e0 : s₁.heap = h0 := by rw [← hh, Bd.state]; rfl
  have N0 := Fr.nil n0
  have pre0 : ∀ t, Steps p.tables e below (s₁.setTop (mkF m 0 #[.val (.ref a1), .val (.int p2), .val (.double y3), .second, .unset, .unset, .unset] [])) t → Steps p.tables e below (s₁.setTop (entryFrame m #[(.ref a1), (.int p2), (.double y3)] 7)) t := fun t k => castTop (ef_8_2_2_0 m a1 p2 y3) k

  obtain ⟨T4, X4, e4, st4⟩ := getF X0 hx hZ hown (host := "") (Or.inl (ww hw 72 rfl)) Via.refl e0 F_t (g := (mkF m 1 #[.val (.ref a1), .val (.int p2), .val (.double y3), .second, .unset, .unset, .unset] [(.ref a1)])) rfl rfl (hb hby d8_1)
  obtain ⟨T5, X5, e5, st5⟩ := getF X4 hx hZ hown (host := "") (Or.inl (ww hw 31 rfl)) Via.refl e4 F_b (g := (mkF m 18 #[.val (.ref a1), .val (.int p2), .val (.double y3), .second, .unset, .unset, .unset] [(.ref a1)])) rfl rfl (hb hby d8_18)
  obtain ⟨T6, X6, e6, st6⟩ := own_getR X5 hx hZ hown (ww hw 61 rfl) e5 F_z (g := (mkF m 21 #[.val (.ref a1), .val (.int p2), .val (.double y3), .second, .unset, .unset, .unset] [(.ref hp)])) rfl rfl (hb hby d8_21)
  obtain ⟨T7, X7, e7, st7⟩ := getF X6 hx hZ hown (host := "") (Or.inl (ww hw 16 rfl)) Via.refl e6 F_c (g := (mkF m 25 #[.val (.ref a1), .val (.int p2), .val (.double y3), .second, .unset, .unset, .unset] [(.ref a1), (.int (2 : Int32))])) rfl rfl (hb hby d8_25)
  obtain ⟨T8, X8, e8, st8⟩ := getF X7 hx hZ hown (host := "") (Or.inl (ww hw 16 rfl)) Via.refl e7 F_c (g := (mkF m 63 #[.val (.ref a1), .val (.int p2), .val (.double y3), .second, .unset, .unset, .unset] [(.ref a1)])) rfl rfl (hb hby d8_63)
  obtain ⟨T9, X9, e9, st9⟩ := getF X8 hx hZ hown (host := "") (Or.inl (ww hw 31 rfl)) Via.refl e8 F_b (g := (mkF m 71 #[.val (.ref a1), .val (.int p2), .val (.double y3), .second, .unset, .unset, .unset] [(.ref a1), (.double y3)])) rfl rfl (hb hby d8_71)
  obtain ⟨cq10, kq10, q10a, q10b, q10c⟩ := isOf hZ e9 E_hp
  obtain ⟨_, _, ⟨T10, L10, k10, n10⟩, -, X10, ⟨Lc10, hQ10, l10, y10, z10⟩, st10⟩ := X9.virtualBack hx (y := (⟨sH, "worstScore", "()D"⟩ : MethodName)) (z := (⟨sH, "worstScore", "()D"⟩ : MethodName)) hown (mvT hZ (ww hw 100 rfl)) (mvT hZ (ww hw 101 rfl)) (notFace_of_selects (args := #[]) (mvT hZ (ww hw 103 rfl))) (mvT hZ (ww hw 103 rfl)) (mvT hZ (ww hw 102 rfl)) (by decide) (backOf (W := 2) (rm15 l Z a0 hw [] hp sa _ S0 h0 n0 Z0 F_s V_sa (by decide)) hZ (ww hw 104 rfl) (ww hw 20 rfl) (by decide) (by decide)) q10a q10c (g := (mkF m 74 #[.val (.ref a1), .val (.int p2), .val (.double y3), .second, .unset, .unset, .unset] [(.ref hp), (.double y3)])) rfl (by rw [hml]; rfl) (Steps.refl _) (argsL := []) (rest := [(.double y3)]) (lenOf pd_8_12 rfl) rfl (by show 2 * 0 + _ ≤ _; exact Nat.le_of_eq rfl) (hb hby d8_74) (fun _ _ => ⟨rfl, e9, (by decide : 0 + 0 ≤ _), (by decide : 0 + 0 ≤ _)⟩)
  dsimp only [Pt.U, Pt.locs, Pt.cells, Pt.slots] at X10 l10 y10 z10 st10 hQ10
  subst l10 y10 z10
  obtain ⟨rfl, nw10, N10q, eh10⟩ := hQ10
  have N10 := Fr.app N0 N10q
  obtain ⟨_, _, ⟨T11, L11, k11, n11⟩, -, X11, ⟨Lc11, hQ11, l11, y11, z11⟩, st11⟩ := Jvm.LawKit.callS X10 hx (y := (⟨"java/lang/Double", "compare", "(DD)I"⟩ : MethodName)) hown (mvT hZ (ww hw 105 rfl)) (mvT hZ (ww hw 93 rfl)) (mvT hZ (ww hw 94 rfl)) (mvT hZ (ww hw 95 rfl)) (by decide) (backOf (W := 0) (rm13 l Z a0 hw [] y3 (S0 ((0 : Int32)).toNatClampNeg)  h0 n0 Z0 nn_y3 nw0) hZ (ww hw 95 rfl) (ww hw 94 rfl) (by decide) (by decide)) (g := (mkF m 77 #[.val (.ref a1), .val (.int p2), .val (.double y3), .second, .unset, .unset, .unset] [(.double (S0 ((0 : Int32)).toNatClampNeg)), (.double y3)])) rfl (by rw [hml]; rfl) (argsL := [(.double y3), (.double (S0 ((0 : Int32)).toNatClampNeg))]) (rest := []) (lenOf pd_8_10 rfl) rfl (by show 2 * 0 + _ ≤ _; exact Nat.le_of_eq rfl) (hb hby d8_77) (fun _ _ => ⟨rfl, eh10, (by decide : 0 + 0 ≤ _), (by decide : 0 + 0 ≤ _)⟩)
  dsimp only [Pt.U, Pt.locs, Pt.cells, Pt.slots] at X11 l11 y11 z11 st11 hQ11
  subst l11 y11 z11
  obtain ⟨rfl, N11q, eh11⟩ := hQ11
  have N11 := Fr.app N10 N11q
  obtain ⟨T12, X12, e12, st12⟩ := getF X11 hx hZ hown (host := "") (Or.inl (ww hw 16 rfl)) Via.refl eh11 F_c (g := (mkF m 139 #[.val (.ref a1), .val (.int p2), .val (.double y3), .second, .unset, .unset, .unset] [(.ref a1)])) rfl rfl (hb hby d8_139)
  obtain ⟨cq13, kq13, q13a, q13b, q13c⟩ := isOf hZ e12 E_a1
  obtain ⟨_, _, ⟨T13, L13, k13, n13⟩, -, X13, ⟨Lc13, hQ13, l13, y13, z13⟩, st13⟩ := X12.virtualBack hx (y := (⟨sB, "keepsAsTie", "(D)Z"⟩ : MethodName)) (z := (⟨sB, "keepsAsTie", "(D)Z"⟩ : MethodName)) hown (mvT hZ (ww hw 106 rfl)) (mvT hZ (ww hw 107 rfl)) (notFace_of_selects (args := #[]) (mvT hZ (ww hw 109 rfl))) (mvT hZ (ww hw 109 rfl)) (mvT hZ (ww hw 108 rfl)) (by decide) (backOf (W := 0) (rm16 l Z a0 hw [] a1 y3  h0 n0 Z0 F_a) hZ (ww hw 110 rfl) (ww hw 3 rfl) (by decide) (by decide)) q13a q13c (g := (mkF m 147 #[.val (.ref a1), .val (.int p2), .val (.double y3), .second, .unset, .unset, .unset] [(.double y3), (.ref a1)])) rfl (by rw [hml]; rfl) (Steps.refl _) (argsL := [(.double y3)]) (rest := []) (lenOf pd_8_13 rfl) rfl (by show 2 * 0 + _ ≤ _; exact Nat.le_of_eq rfl) (hb hby d8_147) (fun _ _ => ⟨rfl, e12, (by decide : 0 + 0 ≤ _), (by decide : 0 + 0 ≤ _)⟩)
  dsimp only [Pt.U, Pt.locs, Pt.cells, Pt.slots] at X13 l13 y13 z13 st13 hQ13
  subst l13 y13 z13
  obtain ⟨rfl, N13q, eh13⟩ := hQ13
  have N13 := Fr.app N11 N13q
  obtain ⟨fs, hr, hrun, hended, hW, hsame⟩ := X13.leave (v := none) (fun _ => rfl)
  refine ⟨_, _, pre0 _ ?_, hrun, hended, _, _, rfl, ?_, ⟨_, rfl⟩, hW, hsame.mono (by decide) (by decide)⟩
  · show Steps _ _ _ (s₁.setTop (mkF m 0 #[.val (.ref a1), .val (.int p2), .val (.double y3), .second, .unset, .unset, .unset] [])) _
    refine XS.aloadN X0.here hx rfl (hb hby d8_0) rfl rfl ?_
    refine st4 _ ?_
    refine XS.ifYes X4.here hx rfl (pc0 := 4) (pc' := 17) rfl (hb hby d8_4) rfl ((if0 _ _).trans (teq (by decide : (0 : Int32) = (0 : Int32))).1) (by decide) (by decide) ?_
    refine XS.aloadN X4.here hx rfl (hb hby d8_17) rfl rfl ?_
    refine st5 _ ?_
    refine st6 _ ?_
    refine XS.aloadN X6.here hx rfl (hb hby d8_24) rfl rfl ?_
    refine st7 _ ?_
    refine XS.icmpYes X7.here hx rfl (pc0 := 28) (pc' := 62) rfl (hb hby d8_28) rfl (flt (by decide : ¬ ((2 : Int32) < (2 : Int32)))).2.1 (by decide) (by decide) ?_
    refine XS.aloadN X7.here hx rfl (hb hby d8_62) rfl rfl ?_
    refine st8 _ ?_
    refine XS.ifNo X8.here hx rfl (hb hby d8_66) rfl ((if0 _ _).trans (tlt (by decide : (0 : Int32) < (2 : Int32))).2.2.2) ?_
    refine XS.dloadN X8.here hx rfl (hb hby d8_69) rfl ?_
    refine XS.aloadN X8.here hx rfl (hb hby d8_70) rfl rfl ?_
    refine st9 _ ?_
    refine st10.trans ?_
    refine st11 _ ?_
    refine XS.ifYes X11.here hx rfl (pc0 := 80) (pc' := 138) rfl (hb hby d8_80) rfl ((if0 _ _).trans (flt hc80).2.2.2) (by decide) (by decide) ?_
    refine XS.aloadN X11.here hx rfl (hb hby d8_138) rfl rfl ?_
    refine st12 _ ?_
    refine XS.ifNo X12.here hx rfl (hb hby d8_142) rfl ((if0 _ _).trans (tlt (by decide : (0 : Int32) < (2 : Int32))).2.2.2) ?_
    refine XS.aloadN X12.here hx rfl (hb hby d8_145) rfl rfl ?_
    refine XS.dloadN X12.here hx rfl (hb hby d8_146) rfl ?_
    refine st13.trans ?_
    refine XS.ifYes X13.here hx rfl (pc0 := 150) (pc' := 162) rfl (hb hby d8_150) rfl ((if0 _ _).trans (teq (by decide : (0 : Int32) = (0 : Int32))).1) (by decide) (by decide) ?_
    exact X13.returnOut hx Bd.returns (hb hby d8_162) hr
  · show Q8_2_2_0 Z a1 p2 y3 hp da sa D S0 h0 n0 _ T13.heap _
    rw [eh13]
    exact ⟨rfl, N13, own_kw (Keep.refl h0 []) (by simp), F_d, F_s, F_z, ⟨_, V_da⟩, ⟨_, V_sa⟩⟩
theorem ef_8_2_2_1 (m : MethodId) (x0 : Addr) (x1 : Int32) (x2 : UInt64) : entryFrame m #[(.ref x0), (.int x1), (.double x2)] 7 = mkF m 0 #[.val (.ref x0), .val (.int x1), .val (.double x2), .second, .unset, .unset, .unset] [] := by first | (simp [entryFrame, mkF, argsToLocals, Value.category]; done) | rfl
def Q8_2_2_1 (Z : State) (a1 : Addr) (p2 : Int32) (y3 : UInt64) (hp : Addr) (da : Addr) (sa : Addr) (D : Nat → Int32) (S0 : Nat → UInt64) (h0 : Heap) (n0 : Nat) (v : Option Value) (h : Heap) (L : List Loc) : Prop := v = none ∧ Fr n0 L ∧ Keep h0 h [hp, da, sa] ∧ Fld Z h hp sH "documents" "[I" (.ref da) ∧ Fld Z h hp sH "scores" "[D" (.ref sa) ∧ Fld Z h hp sH "size" "I" (.int (2 : Int32)) ∧ (∃ D', own_AI Z h da (2 : Int32) D') ∧ (∃ S', own_AD Z h sa (2 : Int32) S')
set_option maxRecDepth 65536 in
set_option maxHeartbeats 40000000 in
theorem rm8_2_2_1 (l : Launch) (Z : State) (a0 : Array Value) (hw : ∀ d ∈ tables_1, d.before a0 Z = true) (ws : List Jvm.Cond) (a1 : Addr) (p2 : Int32) (y3 : UInt64) (hp : Addr) (da : Addr) (sa : Addr) (D : Nat → Int32) (S0 : Nat → UInt64) (h0 : Heap) (n0 : Nat) (Z0 : n0 ≤ h0.size) (E_a1 : Exa Z h0 a1 sB) (F_c : Fld Z h0 a1 sB "capacity" "I" (.int (2 : Int32))) (F_b : Fld Z h0 a1 sB "best" "Lcom/example/calpurnia/calpurnia/ranking/BestDocuments$Heap;" (.ref hp)) (F_a : Fld Z h0 a1 sB "asRead" "Ljava/util/function/DoubleUnaryOperator;" .null) (F_t : Fld Z h0 a1 sB "sorted" "Z" (.int (0 : Int32))) (E_hp : Exa Z h0 hp sH) (F_d : Fld Z h0 hp sH "documents" "[I" (.ref da)) (F_s : Fld Z h0 hp sH "scores" "[D" (.ref sa)) (F_z : Fld Z h0 hp sH "size" "I" (.int (2 : Int32))) (V_da : own_AI Z h0 da (2 : Int32) D) (V_sa : own_AD Z h0 sa (2 : Int32) S0) (nbh : a1 ≠ hp) (nbd : a1 ≠ da) (nbs : a1 ≠ sa) (nhd : hp ≠ da) (nhs : hp ≠ sa) (nds : da ≠ sa) (g_hp : n0 ≤ hp) (g_da : n0 ≤ da) (g_sa : n0 ≤ sa) (nn_y3 : Jvm.Free.Fl.NoNaN64 y3) (nw0 : Jvm.Free.Fl.NoNaN64 (S0 ((0 : Int32)).toNatClampNeg)) (hc80 : (0 : Int32) < (own_cmp y3 (S0 ((0 : Int32)).toNatClampNeg))) :
    MetFree l (⟨sB, "offer", "(ID)V"⟩ : MethodName) (head1 (Jvm.Cond.code (⟨sB, "offer", "(ID)V"⟩ : MethodName) prog_186_method_6_code 7 none :: ws) ({ frames := 7, cells := 0, slots := 0, locals := 190 } : Room)) (fun a U => a = #[(.ref a1), (.int p2), (.double y3)] ∧ Z.Warmed39 U.vm ∧ U.heap = h0) (fun _ _ _ _ _ => True) (fun _ U o U' => ∃ v L, o = .returned v ∧ Q8_2_2_1 Z a1 p2 y3 hp da sa D S0 h0 n0 v U'.heap L ∧ FrameEnd U o U' L ({ frames := 7, cells := 0, slots := 0, locals := 190 } : Room).cells ({ frames := 7, cells := 0, slots := 0, locals := 190 } : Room).slots) := by
  refine MetFree.of_bodySF (plainFor_of_name pn_8) hisR ?_
  intro p e s m args below meth c s₁ Bd hml0 hP hK
  obtain ⟨rfl, hZ, hh⟩ := hP
  have hx := Bd.exec
  have hby := Bd.bytes
  have hml : c.maxLocals = 7 := hml0
  have hown : s.vm.findClass sB = some m.cls := findClass_of_methodNamed Bd.named
  have hnm := (name_of_methodNamed Bd.named Bd.method).1
  have X0 : Stand p l e ({ frames := 7, cells := 0, slots := 0, locals := 190 } : Room) s m #[(.ref a1), (.int p2), (.double y3)] below meth c s₁ [] 0 0 := Stand.of_body Bd
  have e0 : s₁.heap = h0 := by rw [← hh, Bd.state]; rfl
  have N0 := Fr.nil n0
  have pre0 : ∀ t, Steps p.tables e below (s₁.setTop (mkF m 0 #[.val (.ref a1), .val (.int p2), .val (.double y3), .second, .unset, .unset, .unset] [])) t → Steps p.tables e below (s₁.setTop (entryFrame m #[(.ref a1), (.int p2), (.double y3)] 7)) t := fun t k => castTop (ef_8_2_2_1 m a1 p2 y3) k

  obtain ⟨T4, X4, e4, st4⟩ := getF X0 hx hZ hown (host := "") (Or.inl (ww hw 72 rfl)) Via.refl e0 F_t (g := (mkF m 1 #[.val (.ref a1), .val (.int p2), .val (.double y3), .second, .unset, .unset, .unset] [(.ref a1)])) rfl rfl (hb hby d8_1)
  obtain ⟨T5, X5, e5, st5⟩ := getF X4 hx hZ hown (host := "") (Or.inl (ww hw 31 rfl)) Via.refl e4 F_b (g := (mkF m 18 #[.val (.ref a1), .val (.int p2), .val (.double y3), .second, .unset, .unset, .unset] [(.ref a1)])) rfl rfl (hb hby d8_18)
  obtain ⟨T6, X6, e6, st6⟩ := own_getR X5 hx hZ hown (ww hw 61 rfl) e5 F_z (g := (mkF m 21 #[.val (.ref a1), .val (.int p2), .val (.double y3), .second, .unset, .unset, .unset] [(.ref hp)])) rfl rfl (hb hby d8_21)
  obtain ⟨T7, X7, e7, st7⟩ := getF X6 hx hZ hown (host := "") (Or.inl (ww hw 16 rfl)) Via.refl e6 F_c (g := (mkF m 25 #[.val (.ref a1), .val (.int p2), .val (.double y3), .second, .unset, .unset, .unset] [(.ref a1), (.int (2 : Int32))])) rfl rfl (hb hby d8_25)
  obtain ⟨T8, X8, e8, st8⟩ := getF X7 hx hZ hown (host := "") (Or.inl (ww hw 16 rfl)) Via.refl e7 F_c (g := (mkF m 63 #[.val (.ref a1), .val (.int p2), .val (.double y3), .second, .unset, .unset, .unset] [(.ref a1)])) rfl rfl (hb hby d8_63)
  obtain ⟨T9, X9, e9, st9⟩ := getF X8 hx hZ hown (host := "") (Or.inl (ww hw 31 rfl)) Via.refl e8 F_b (g := (mkF m 71 #[.val (.ref a1), .val (.int p2), .val (.double y3), .second, .unset, .unset, .unset] [(.ref a1), (.double y3)])) rfl rfl (hb hby d8_71)
  obtain ⟨cq10, kq10, q10a, q10b, q10c⟩ := isOf hZ e9 E_hp
  obtain ⟨_, _, ⟨T10, L10, k10, n10⟩, -, X10, ⟨Lc10, hQ10, l10, y10, z10⟩, st10⟩ := X9.virtualBack hx (y := (⟨sH, "worstScore", "()D"⟩ : MethodName)) (z := (⟨sH, "worstScore", "()D"⟩ : MethodName)) hown (mvT hZ (ww hw 100 rfl)) (mvT hZ (ww hw 101 rfl)) (notFace_of_selects (args := #[]) (mvT hZ (ww hw 103 rfl))) (mvT hZ (ww hw 103 rfl)) (mvT hZ (ww hw 102 rfl)) (by decide) (backOf (W := 2) (rm15 l Z a0 hw [] hp sa _ S0 h0 n0 Z0 F_s V_sa (by decide)) hZ (ww hw 104 rfl) (ww hw 20 rfl) (by decide) (by decide)) q10a q10c (g := (mkF m 74 #[.val (.ref a1), .val (.int p2), .val (.double y3), .second, .unset, .unset, .unset] [(.ref hp), (.double y3)])) rfl (by rw [hml]; rfl) (Steps.refl _) (argsL := []) (rest := [(.double y3)]) (lenOf pd_8_12 rfl) rfl (by show 2 * 0 + _ ≤ _; exact Nat.le_of_eq rfl) (hb hby d8_74) (fun _ _ => ⟨rfl, e9, (by decide : 0 + 0 ≤ _), (by decide : 0 + 0 ≤ _)⟩)
  dsimp only [Pt.U, Pt.locs, Pt.cells, Pt.slots] at X10 l10 y10 z10 st10 hQ10
  subst l10 y10 z10
  obtain ⟨rfl, nw10, N10q, eh10⟩ := hQ10
  have N10 := Fr.app N0 N10q
  obtain ⟨_, _, ⟨T11, L11, k11, n11⟩, -, X11, ⟨Lc11, hQ11, l11, y11, z11⟩, st11⟩ := Jvm.LawKit.callS X10 hx (y := (⟨"java/lang/Double", "compare", "(DD)I"⟩ : MethodName)) hown (mvT hZ (ww hw 105 rfl)) (mvT hZ (ww hw 93 rfl)) (mvT hZ (ww hw 94 rfl)) (mvT hZ (ww hw 95 rfl)) (by decide) (backOf (W := 0) (rm13 l Z a0 hw [] y3 (S0 ((0 : Int32)).toNatClampNeg)  h0 n0 Z0 nn_y3 nw0) hZ (ww hw 95 rfl) (ww hw 94 rfl) (by decide) (by decide)) (g := (mkF m 77 #[.val (.ref a1), .val (.int p2), .val (.double y3), .second, .unset, .unset, .unset] [(.double (S0 ((0 : Int32)).toNatClampNeg)), (.double y3)])) rfl (by rw [hml]; rfl) (argsL := [(.double y3), (.double (S0 ((0 : Int32)).toNatClampNeg))]) (rest := []) (lenOf pd_8_10 rfl) rfl (by show 2 * 0 + _ ≤ _; exact Nat.le_of_eq rfl) (hb hby d8_77) (fun _ _ => ⟨rfl, eh10, (by decide : 0 + 0 ≤ _), (by decide : 0 + 0 ≤ _)⟩)
  dsimp only [Pt.U, Pt.locs, Pt.cells, Pt.slots] at X11 l11 y11 z11 st11 hQ11
  subst l11 y11 z11
  obtain ⟨rfl, N11q, eh11⟩ := hQ11
  have N11 := Fr.app N10 N11q
  obtain ⟨T12, X12, e12, st12⟩ := getF X11 hx hZ hown (host := "") (Or.inl (ww hw 31 rfl)) Via.refl eh11 F_b (g := (mkF m 84 #[.val (.ref a1), .val (.int p2), .val (.double y3), .second, .unset, .unset, .unset] [(.ref a1)])) rfl rfl (hb hby d8_84)
  obtain ⟨cq13, kq13, q13a, q13b, q13c⟩ := isOf hZ e12 E_hp
  obtain ⟨_, _, ⟨T13, L13, k13, n13⟩, -, X13, ⟨Lc13, hQ13, l13, y13, z13⟩, st13⟩ := X12.virtualBack hx (y := (⟨sH, "worstDocument", "()I"⟩ : MethodName)) (z := (⟨sH, "worstDocument", "()I"⟩ : MethodName)) hown (mvT hZ (ww hw 111 rfl)) (mvT hZ (ww hw 112 rfl)) (notFace_of_selects (args := #[]) (mvT hZ (ww hw 114 rfl))) (mvT hZ (ww hw 114 rfl)) (mvT hZ (ww hw 113 rfl)) (by decide) (backOf (W := 0) (rm17 l Z a0 hw [] hp da _ D h0 n0 Z0 F_d V_da (by decide)) hZ (ww hw 115 rfl) (ww hw 20 rfl) (by decide) (by decide)) q13a q13c (g := (mkF m 87 #[.val (.ref a1), .val (.int p2), .val (.double y3), .second, .unset, .unset, .unset] [(.ref hp)])) rfl (by rw [hml]; rfl) (Steps.refl _) (argsL := []) (rest := []) (lenOf pd_8_14 rfl) rfl (by show 2 * 0 + _ ≤ _; exact Nat.le_of_eq rfl) (hb hby d8_87) (fun _ _ => ⟨rfl, e12, (by decide : 0 + 0 ≤ _), (by decide : 0 + 0 ≤ _)⟩)
  dsimp only [Pt.U, Pt.locs, Pt.cells, Pt.slots] at X13 l13 y13 z13 st13 hQ13
  subst l13 y13 z13
  obtain ⟨rfl, N13q, eh13⟩ := hQ13
  have N13 := Fr.app N11 N13q
  obtain ⟨T14, X14, e14, st14⟩ := getF X13 hx hZ hown (host := "") (Or.inl (ww hw 31 rfl)) Via.refl eh13 F_b (g := (mkF m 93 #[.val (.ref a1), .val (.int p2), .val (.double y3), .second, .val (.int (D ((0 : Int32)).toNatClampNeg)), .unset, .unset] [(.ref a1)])) rfl rfl (hb hby d8_93)
  obtain ⟨cq15, kq15, q15a, q15b, q15c⟩ := isOf hZ e14 E_hp
  obtain ⟨_, _, ⟨T15, L15, k15, n15⟩, -, X15, ⟨Lc15, hQ15, l15, y15, z15⟩, st15⟩ := X14.virtualBack hx (y := (⟨sH, "worstScore", "()D"⟩ : MethodName)) (z := (⟨sH, "worstScore", "()D"⟩ : MethodName)) hown (mvT hZ (ww hw 100 rfl)) (mvT hZ (ww hw 101 rfl)) (notFace_of_selects (args := #[]) (mvT hZ (ww hw 103 rfl))) (mvT hZ (ww hw 103 rfl)) (mvT hZ (ww hw 102 rfl)) (by decide) (backOf (W := 0) (rm15 l Z a0 hw [] hp sa _ S0 h0 n0 Z0 F_s V_sa (by decide)) hZ (ww hw 104 rfl) (ww hw 20 rfl) (by decide) (by decide)) q15a q15c (g := (mkF m 96 #[.val (.ref a1), .val (.int p2), .val (.double y3), .second, .val (.int (D ((0 : Int32)).toNatClampNeg)), .unset, .unset] [(.ref hp)])) rfl (by rw [hml]; rfl) (Steps.refl _) (argsL := []) (rest := []) (lenOf pd_8_12 rfl) rfl (by show 2 * 0 + _ ≤ _; exact Nat.le_of_eq rfl) (hb hby d8_96) (fun _ _ => ⟨rfl, e14, (by decide : 0 + 0 ≤ _), (by decide : 0 + 0 ≤ _)⟩)
  dsimp only [Pt.U, Pt.locs, Pt.cells, Pt.slots] at X15 l15 y15 z15 st15 hQ15
  subst l15 y15 z15
  obtain ⟨rfl, nw15, N15q, eh15⟩ := hQ15
  have N15 := Fr.app N13 N15q
  obtain ⟨T16, X16, e16, st16⟩ := getF X15 hx hZ hown (host := "") (Or.inl (ww hw 31 rfl)) Via.refl eh15 F_b (g := (mkF m 102 #[.val (.ref a1), .val (.int p2), .val (.double y3), .second, .val (.int (D ((0 : Int32)).toNatClampNeg)), .val (.double (S0 ((0 : Int32)).toNatClampNeg)), .second] [(.ref a1)])) rfl rfl (hb hby d8_102)
  obtain ⟨cq17, kq17, q17a, q17b, q17c⟩ := isOf hZ e16 E_hp
  obtain ⟨_, _, ⟨T17, L17, k17, n17⟩, -, X17, ⟨Lc17, hQ17, l17, y17, z17⟩, st17⟩ := X16.virtualBack hx (y := (⟨sH, "replaceWorst", "(ID)V"⟩ : MethodName)) (z := (⟨sH, "replaceWorst", "(ID)V"⟩ : MethodName)) hown (mvT hZ (ww hw 116 rfl)) (mvT hZ (ww hw 117 rfl)) (notFace_of_selects (args := #[]) (mvT hZ (ww hw 119 rfl))) (mvT hZ (ww hw 119 rfl)) (mvT hZ (ww hw 118 rfl)) (by decide) (backOf (W := 0) (rm18_2 l Z a0 hw [] hp p2 y3 da sa _ _ h0 n0 Z0 E_hp F_d F_s V_da V_sa nds nhd nhs g_da g_sa F_z nn_y3) hZ (ww hw 120 rfl) (ww hw 20 rfl) (by decide) (by decide)) q17a q17c (g := (mkF m 107 #[.val (.ref a1), .val (.int p2), .val (.double y3), .second, .val (.int (D ((0 : Int32)).toNatClampNeg)), .val (.double (S0 ((0 : Int32)).toNatClampNeg)), .second] [(.double y3), (.int p2), (.ref hp)])) rfl (by rw [hml]; rfl) (Steps.refl _) (argsL := [(.int p2), (.double y3)]) (rest := []) (lenOf pd_8_6 rfl) rfl (by show 2 * 0 + _ ≤ _; exact Nat.le_of_eq rfl) (hb hby d8_107) (fun _ _ => ⟨rfl, e16, (by decide : 0 + 0 ≤ _), (by decide : 0 + 0 ≤ _)⟩)
  dsimp only [Pt.U, Pt.locs, Pt.cells, Pt.slots] at X17 l17 y17 z17 st17 hQ17
  subst l17 y17 z17
  obtain ⟨rfl, N17q, Kc17, ⟨D17, Vd17⟩, ⟨S17, Vs17⟩⟩ := hQ17
  have N17 := Fr.app N15 N17q
  have K17 : Keep h0 T17.heap [da, sa] := (Keep.refl h0 [da, sa]).trans Kc17 (allS (Or.inl (List.mem_of_getElem? (i := 0) rfl)) (allS (Or.inl (List.mem_of_getElem? (i := 1) rfl)) all0))
  obtain ⟨T18, X18, e18, st18⟩ := getF X17 hx hZ hown (host := "") (Or.inl (ww hw 33 rfl)) Via.refl rfl (F_a.keep Kc17 (ninS nbd (ninS nbs nin0))) (g := (mkF m 111 #[.val (.ref a1), .val (.int p2), .val (.double y3), .second, .val (.int (D ((0 : Int32)).toNatClampNeg)), .val (.double (S0 ((0 : Int32)).toNatClampNeg)), .second] [(.ref a1)])) rfl rfl (hb hby d8_111)
  obtain ⟨fs, hr, hrun, hended, hW, hsame⟩ := X18.leave (v := none) (fun _ => rfl)
  refine ⟨_, _, pre0 _ ?_, hrun, hended, _, _, rfl, ?_, ⟨_, rfl⟩, hW, hsame.mono (by decide) (by decide)⟩
  · show Steps _ _ _ (s₁.setTop (mkF m 0 #[.val (.ref a1), .val (.int p2), .val (.double y3), .second, .unset, .unset, .unset] [])) _
    refine XS.aloadN X0.here hx rfl (hb hby d8_0) rfl rfl ?_
    refine st4 _ ?_
    refine XS.ifYes X4.here hx rfl (pc0 := 4) (pc' := 17) rfl (hb hby d8_4) rfl ((if0 _ _).trans (teq (by decide : (0 : Int32) = (0 : Int32))).1) (by decide) (by decide) ?_
    refine XS.aloadN X4.here hx rfl (hb hby d8_17) rfl rfl ?_
    refine st5 _ ?_
    refine st6 _ ?_
    refine XS.aloadN X6.here hx rfl (hb hby d8_24) rfl rfl ?_
    refine st7 _ ?_
    refine XS.icmpYes X7.here hx rfl (pc0 := 28) (pc' := 62) rfl (hb hby d8_28) rfl (flt (by decide : ¬ ((2 : Int32) < (2 : Int32)))).2.1 (by decide) (by decide) ?_
    refine XS.aloadN X7.here hx rfl (hb hby d8_62) rfl rfl ?_
    refine st8 _ ?_
    refine XS.ifNo X8.here hx rfl (hb hby d8_66) rfl ((if0 _ _).trans (tlt (by decide : (0 : Int32) < (2 : Int32))).2.2.2) ?_
    refine XS.dloadN X8.here hx rfl (hb hby d8_69) rfl ?_
    refine XS.aloadN X8.here hx rfl (hb hby d8_70) rfl rfl ?_
    refine st9 _ ?_
    refine st10.trans ?_
    refine st11 _ ?_
    refine XS.ifNo X11.here hx rfl (hb hby d8_80) rfl ((if0 _ _).trans (tlt hc80).2.2.2) ?_
    refine XS.aloadN X11.here hx rfl (hb hby d8_83) rfl rfl ?_
    refine st12 _ ?_
    refine st13.trans ?_
    refine XS.istore X13.here hx rfl (hb hby d8_90) rfl (l' := #[.val (.ref a1), .val (.int p2), .val (.double y3), .second, .val (.int (D ((0 : Int32)).toNatClampNeg)), .unset, .unset]) rfl ?_
    refine XS.aloadN X13.here hx rfl (hb hby d8_92) rfl rfl ?_
    refine st14 _ ?_
    refine st15.trans ?_
    refine XS.dstore X15.here hx rfl (hb hby d8_99) rfl (l' := #[.val (.ref a1), .val (.int p2), .val (.double y3), .second, .val (.int (D ((0 : Int32)).toNatClampNeg)), .val (.double (S0 ((0 : Int32)).toNatClampNeg)), .second]) rfl ?_
    refine XS.aloadN X15.here hx rfl (hb hby d8_101) rfl rfl ?_
    refine st16 _ ?_
    refine XS.iloadN X16.here hx rfl (hb hby d8_105) rfl ?_
    refine XS.dloadN X16.here hx rfl (hb hby d8_106) rfl ?_
    refine st17.trans ?_
    refine XS.aloadN X17.here hx rfl (hb hby d8_110) rfl rfl ?_
    refine st18 _ ?_
    refine XS.ifnullYes X18.here hx rfl (pc0 := 114) (pc' := 135) rfl (hb hby d8_114) rfl (by decide) (by decide) ?_
    refine XS.goto X18.here hx rfl (pc0 := 135) (pc' := 162) rfl (hb hby d8_135) (by decide) (by decide) ?_
    exact X18.returnOut hx Bd.returns (hb hby d8_162) hr
  · show Q8_2_2_1 Z a1 p2 y3 hp da sa D S0 h0 n0 _ T18.heap _
    rw [e18]
    exact ⟨rfl, N17, own_kw K17 (by simp), (F_d.keep Kc17 (ninS nhd (ninS nhs nin0))), (F_s.keep Kc17 (ninS nhd (ninS nhs nin0))), (F_z.keep Kc17 (ninS nhd (ninS nhs nin0))), ⟨_, Vd17⟩, ⟨_, Vs17⟩⟩
def Q8_2_2 (Z : State) (a1 : Addr) (p2 : Int32) (y3 : UInt64) (hp : Addr) (da : Addr) (sa : Addr) (D : Nat → Int32) (S0 : Nat → UInt64) (h0 : Heap) (n0 : Nat) (v : Option Value) (h : Heap) (L : List Loc) : Prop := v = none ∧ Fr n0 L ∧ Keep h0 h [hp, da, sa] ∧ Fld Z h hp sH "documents" "[I" (.ref da) ∧ Fld Z h hp sH "scores" "[D" (.ref sa) ∧ Fld Z h hp sH "size" "I" (.int (2 : Int32)) ∧ (∃ D', own_AI Z h da (2 : Int32) D') ∧ (∃ S', own_AD Z h sa (2 : Int32) S')
theorem rm8_2_2 (l : Launch) (Z : State) (a0 : Array Value) (hw : ∀ d ∈ tables_1, d.before a0 Z = true) (ws : List Jvm.Cond) (a1 : Addr) (p2 : Int32) (y3 : UInt64) (hp : Addr) (da : Addr) (sa : Addr) (D : Nat → Int32) (S0 : Nat → UInt64) (h0 : Heap) (n0 : Nat) (Z0 : n0 ≤ h0.size) (E_a1 : Exa Z h0 a1 sB) (F_c : Fld Z h0 a1 sB "capacity" "I" (.int (2 : Int32))) (F_b : Fld Z h0 a1 sB "best" "Lcom/example/calpurnia/calpurnia/ranking/BestDocuments$Heap;" (.ref hp)) (F_a : Fld Z h0 a1 sB "asRead" "Ljava/util/function/DoubleUnaryOperator;" .null) (F_t : Fld Z h0 a1 sB "sorted" "Z" (.int (0 : Int32))) (E_hp : Exa Z h0 hp sH) (F_d : Fld Z h0 hp sH "documents" "[I" (.ref da)) (F_s : Fld Z h0 hp sH "scores" "[D" (.ref sa)) (F_z : Fld Z h0 hp sH "size" "I" (.int (2 : Int32))) (V_da : own_AI Z h0 da (2 : Int32) D) (V_sa : own_AD Z h0 sa (2 : Int32) S0) (nbh : a1 ≠ hp) (nbd : a1 ≠ da) (nbs : a1 ≠ sa) (nhd : hp ≠ da) (nhs : hp ≠ sa) (nds : da ≠ sa) (g_hp : n0 ≤ hp) (g_da : n0 ≤ da) (g_sa : n0 ≤ sa) (nn_y3 : Jvm.Free.Fl.NoNaN64 y3) (nw0 : Jvm.Free.Fl.NoNaN64 (S0 ((0 : Int32)).toNatClampNeg)) :
    MetFree l (⟨sB, "offer", "(ID)V"⟩ : MethodName) (head1 (Jvm.Cond.code (⟨sB, "offer", "(ID)V"⟩ : MethodName) prog_186_method_6_code 7 none :: ws) ({ frames := 7, cells := 0, slots := 0, locals := 190 } : Room)) (fun a U => a = #[(.ref a1), (.int p2), (.double y3)] ∧ Z.Warmed39 U.vm ∧ U.heap = h0) (fun _ _ _ _ _ => True) (fun _ U o U' => ∃ v L, o = .returned v ∧ Q8_2_2 Z a1 p2 y3 hp da sa D S0 h0 n0 v U'.heap L ∧ FrameEnd U o U' L ({ frames := 7, cells := 0, slots := 0, locals := 190 } : Room).cells ({ frames := 7, cells := 0, slots := 0, locals := 190 } : Room).slots) := by
  by_cases c : (0 : Int32) < (own_cmp y3 (S0 ((0 : Int32)).toNatClampNeg))
  · exact rm8_2_2_1 l Z a0 hw ws a1 p2 y3 hp da sa D S0 h0 n0 Z0 E_a1 F_c F_b F_a F_t E_hp F_d F_s F_z V_da V_sa nbh nbd nbs nhd nhs nds g_hp g_da g_sa nn_y3 nw0 c
  · exact rm8_2_2_0 l Z a0 hw ws a1 p2 y3 hp da sa D S0 h0 n0 Z0 E_a1 F_c F_b F_a F_t E_hp F_d F_s F_z V_da V_sa nbh nbd nbs nhd nhs nds g_hp g_da g_sa nn_y3 nw0 c
theorem ef_8_3_0_0 (m : MethodId) (x0 : Addr) (x1 : Int32) (x2 : UInt64) : entryFrame m #[(.ref x0), (.int x1), (.double x2)] 7 = mkF m 0 #[.val (.ref x0), .val (.int x1), .val (.double x2), .second, .unset, .unset, .unset] [] := by first | (simp [entryFrame, mkF, argsToLocals, Value.category]; done) | rfl
def Q8_3_0_0 (Z : State) (a1 : Addr) (p2 : Int32) (y3 : UInt64) (hp : Addr) (da : Addr) (sa : Addr) (D : Nat → Int32) (S0 : Nat → UInt64) (h0 : Heap) (n0 : Nat) (v : Option Value) (h : Heap) (L : List Loc) : Prop := v = none ∧ Fr n0 L ∧ Keep h0 h [hp, da, sa] ∧ Fld Z h hp sH "documents" "[I" (.ref da) ∧ Fld Z h hp sH "scores" "[D" (.ref sa) ∧ Fld Z h hp sH "size" "I" (.int (1 : Int32)) ∧ (∃ D', own_AI Z h da (3 : Int32) D') ∧ (∃ S', own_AD Z h sa (3 : Int32) S')
set_option maxRecDepth 65536 in
set_option maxHeartbeats 40000000 in
theorem rm8_3_0_0 (l : Launch) (Z : State) (a0 : Array Value) (hw : ∀ d ∈ tables_1, d.before a0 Z = true) (ws : List Jvm.Cond) (a1 : Addr) (p2 : Int32) (y3 : UInt64) (hp : Addr) (da : Addr) (sa : Addr) (D : Nat → Int32) (S0 : Nat → UInt64) (h0 : Heap) (n0 : Nat) (Z0 : n0 ≤ h0.size) (E_a1 : Exa Z h0 a1 sB) (F_c : Fld Z h0 a1 sB "capacity" "I" (.int (3 : Int32))) (F_b : Fld Z h0 a1 sB "best" "Lcom/example/calpurnia/calpurnia/ranking/BestDocuments$Heap;" (.ref hp)) (F_a : Fld Z h0 a1 sB "asRead" "Ljava/util/function/DoubleUnaryOperator;" .null) (F_t : Fld Z h0 a1 sB "sorted" "Z" (.int (0 : Int32))) (E_hp : Exa Z h0 hp sH) (F_d : Fld Z h0 hp sH "documents" "[I" (.ref da)) (F_s : Fld Z h0 hp sH "scores" "[D" (.ref sa)) (F_z : Fld Z h0 hp sH "size" "I" (.int (0 : Int32))) (V_da : own_AI Z h0 da (3 : Int32) D) (V_sa : own_AD Z h0 sa (3 : Int32) S0) (nbh : a1 ≠ hp) (nbd : a1 ≠ da) (nbs : a1 ≠ sa) (nhd : hp ≠ da) (nhs : hp ≠ sa) (nds : da ≠ sa) (g_hp : n0 ≤ hp) (g_da : n0 ≤ da) (g_sa : n0 ≤ sa) (nn_y3 : Jvm.Free.Fl.NoNaN64 y3) :
    MetFree l (⟨sB, "offer", "(ID)V"⟩ : MethodName) (head1 (Jvm.Cond.code (⟨sB, "offer", "(ID)V"⟩ : MethodName) prog_186_method_6_code 7 none :: ws) ({ frames := 7, cells := 0, slots := 0, locals := 190 } : Room)) (fun a U => a = #[(.ref a1), (.int p2), (.double y3)] ∧ Z.Warmed39 U.vm ∧ U.heap = h0) (fun _ _ _ _ _ => True) (fun _ U o U' => ∃ v L, o = .returned v ∧ Q8_3_0_0 Z a1 p2 y3 hp da sa D S0 h0 n0 v U'.heap L ∧ FrameEnd U o U' L ({ frames := 7, cells := 0, slots := 0, locals := 190 } : Room).cells ({ frames := 7, cells := 0, slots := 0, locals := 190 } : Room).slots) := by
  refine MetFree.of_bodySF (plainFor_of_name pn_8) hisR ?_
  intro p e s m args below meth c s₁ Bd hml0 hP hK
  obtain ⟨rfl, hZ, hh⟩ := hP
  have hx := Bd.exec
  have hby := Bd.bytes
  have hml : c.maxLocals = 7 := hml0
  have hown : s.vm.findClass sB = some m.cls := findClass_of_methodNamed Bd.named
  have hnm := (name_of_methodNamed Bd.named Bd.method).1
  have X0 : Stand p l e ({ frames := 7, cells := 0, slots := 0, locals := 190 } : Room) s m #[(.ref a1), (.int p2), (.double y3)] below meth c s₁ [] 0 0 := Stand.of_body Bd
  have e0 : s₁.heap = h0 := by rw [← hh, Bd.state]; rfl
  have N0 := Fr.nil n0
  have pre0 : ∀ t, Steps p.tables e below (s₁.setTop (mkF m 0 #[.val (.ref a1), .val (.int p2), .val (.double y3), .second, .unset, .unset, .unset] [])) t → Steps p.tables e below (s₁.setTop (entryFrame m #[(.ref a1), (.int p2), (.double y3)] 7)) t := fun t k => castTop (ef_8_3_0_0 m a1 p2 y3) k

  obtain ⟨T4, X4, e4, st4⟩ := getF X0 hx hZ hown (host := "") (Or.inl (ww hw 72 rfl)) Via.refl e0 F_t (g := (mkF m 1 #[.val (.ref a1), .val (.int p2), .val (.double y3), .second, .unset, .unset, .unset] [(.ref a1)])) rfl rfl (hb hby d8_1)
  obtain ⟨T5, X5, e5, st5⟩ := getF X4 hx hZ hown (host := "") (Or.inl (ww hw 31 rfl)) Via.refl e4 F_b (g := (mkF m 18 #[.val (.ref a1), .val (.int p2), .val (.double y3), .second, .unset, .unset, .unset] [(.ref a1)])) rfl rfl (hb hby d8_18)
  obtain ⟨T6, X6, e6, st6⟩ := own_getR X5 hx hZ hown (ww hw 61 rfl) e5 F_z (g := (mkF m 21 #[.val (.ref a1), .val (.int p2), .val (.double y3), .second, .unset, .unset, .unset] [(.ref hp)])) rfl rfl (hb hby d8_21)
  obtain ⟨T7, X7, e7, st7⟩ := getF X6 hx hZ hown (host := "") (Or.inl (ww hw 16 rfl)) Via.refl e6 F_c (g := (mkF m 25 #[.val (.ref a1), .val (.int p2), .val (.double y3), .second, .unset, .unset, .unset] [(.ref a1), (.int (0 : Int32))])) rfl rfl (hb hby d8_25)
  obtain ⟨T8, X8, e8, st8⟩ := getF X7 hx hZ hown (host := "") (Or.inl (ww hw 31 rfl)) Via.refl e7 F_b (g := (mkF m 32 #[.val (.ref a1), .val (.int p2), .val (.double y3), .second, .unset, .unset, .unset] [(.ref a1)])) rfl rfl (hb hby d8_32)
  obtain ⟨cq9, kq9, q9a, q9b, q9c⟩ := isOf hZ e8 E_hp
  obtain ⟨_, _, ⟨T9, L9, k9, n9⟩, -, X9, ⟨Lc9, hQ9, l9, y9, z9⟩, st9⟩ := X8.virtualBack hx (y := (⟨sH, "add", "(ID)V"⟩ : MethodName)) (z := (⟨sH, "add", "(ID)V"⟩ : MethodName)) hown (mvT hZ (ww hw 74 rfl)) (mvT hZ (ww hw 75 rfl)) (notFace_of_selects (args := #[]) (mvT hZ (ww hw 77 rfl))) (mvT hZ (ww hw 77 rfl)) (mvT hZ (ww hw 76 rfl)) (by decide) (backOf (W := 0) (rm9_0_0 l Z a0 hw [] hp p2 y3 da sa _ _ _ h0 n0 Z0 E_hp F_d F_s V_da V_sa nds nhd nhs g_da g_sa F_z nn_y3 g_hp (by decide) (by decide)) hZ (ww hw 78 rfl) (ww hw 20 rfl) (by decide) (by decide)) q9a q9c (g := (mkF m 37 #[.val (.ref a1), .val (.int p2), .val (.double y3), .second, .unset, .unset, .unset] [(.double y3), (.int p2), (.ref hp)])) rfl (by rw [hml]; rfl) (Steps.refl _) (argsL := [(.int p2), (.double y3)]) (rest := []) (lenOf pd_8_6 rfl) rfl (by show 2 * 0 + _ ≤ _; exact Nat.le_of_eq rfl) (hb hby d8_37) (fun _ _ => ⟨rfl, e8, (by decide : 0 + 0 ≤ _), (by decide : 0 + 0 ≤ _)⟩)
  dsimp only [Pt.U, Pt.locs, Pt.cells, Pt.slots] at X9 l9 y9 z9 st9 hQ9
  subst l9 y9 z9
  obtain ⟨rfl, N9q, Kc9, Ec9, Fd9, Fs9, Fz9, ⟨D9, Vd9⟩, ⟨S9, Vs9⟩⟩ := hQ9
  have N9 := Fr.app N0 N9q
  have K9 : Keep h0 T9.heap [hp, da, sa] := (Keep.refl h0 [hp, da, sa]).trans Kc9 (allS (Or.inl (List.mem_of_getElem? (i := 0) rfl)) (allS (Or.inl (List.mem_of_getElem? (i := 1) rfl)) (allS (Or.inl (List.mem_of_getElem? (i := 2) rfl)) all0)))
  obtain ⟨cq10, kq10, q10a, q10b, q10c⟩ := isOf hZ rfl (E_a1.keep Kc9)
  obtain ⟨_, _, ⟨T10, L10, k10, n10⟩, -, X10, ⟨Lc10, hQ10, l10, y10, z10⟩, st10⟩ := X9.virtualBack hx (y := (⟨sB, "full", "()Z"⟩ : MethodName)) (z := (⟨sB, "full", "()Z"⟩ : MethodName)) hown (mvT hZ (ww hw 84 rfl)) (mvT hZ (ww hw 57 rfl)) (notFace_of_selects (args := #[]) (mvT hZ (ww hw 59 rfl))) (mvT hZ (ww hw 59 rfl)) (mvT hZ (ww hw 58 rfl)) (by decide) (backOf (W := 0) (rm6_0 l Z a0 hw [] a1 _ _ _ T9.heap n0 (Nat.le_trans Z0 Kc9.1) (F_b.keep Kc9 (ninS nbh (ninS nbd (ninS nbs nin0)))) Fz9 (F_c.keep Kc9 (ninS nbh (ninS nbd (ninS nbs nin0)))) (by decide)) hZ (ww hw 60 rfl) (ww hw 3 rfl) (by decide) (by decide)) q10a q10c (g := (mkF m 41 #[.val (.ref a1), .val (.int p2), .val (.double y3), .second, .unset, .unset, .unset] [(.ref a1)])) rfl (by rw [hml]; rfl) (Steps.refl _) (argsL := []) (rest := []) (lenOf pd_8_4 rfl) rfl (by show 2 * 0 + _ ≤ _; exact Nat.le_of_eq rfl) (hb hby d8_41) (fun _ _ => ⟨rfl, rfl, (by decide : 0 + 0 ≤ _), (by decide : 0 + 0 ≤ _)⟩)
  dsimp only [Pt.U, Pt.locs, Pt.cells, Pt.slots] at X10 l10 y10 z10 st10 hQ10
  subst l10 y10 z10
  obtain ⟨rfl, N10q, eh10⟩ := hQ10
  have N10 := Fr.app N9 N10q
  obtain ⟨fs, hr, hrun, hended, hW, hsame⟩ := X10.leave (v := none) (fun _ => rfl)
  refine ⟨_, _, pre0 _ ?_, hrun, hended, _, _, rfl, ?_, ⟨_, rfl⟩, hW, hsame.mono (by decide) (by decide)⟩
  · show Steps _ _ _ (s₁.setTop (mkF m 0 #[.val (.ref a1), .val (.int p2), .val (.double y3), .second, .unset, .unset, .unset] [])) _
    refine XS.aloadN X0.here hx rfl (hb hby d8_0) rfl rfl ?_
    refine st4 _ ?_
    refine XS.ifYes X4.here hx rfl (pc0 := 4) (pc' := 17) rfl (hb hby d8_4) rfl ((if0 _ _).trans (teq (by decide : (0 : Int32) = (0 : Int32))).1) (by decide) (by decide) ?_
    refine XS.aloadN X4.here hx rfl (hb hby d8_17) rfl rfl ?_
    refine st5 _ ?_
    refine st6 _ ?_
    refine XS.aloadN X6.here hx rfl (hb hby d8_24) rfl rfl ?_
    refine st7 _ ?_
    refine XS.icmpNo X7.here hx rfl (hb hby d8_28) rfl (tlt (by decide : (0 : Int32) < (3 : Int32))).2.1 ?_
    refine XS.aloadN X7.here hx rfl (hb hby d8_31) rfl rfl ?_
    refine st8 _ ?_
    refine XS.iloadN X8.here hx rfl (hb hby d8_35) rfl ?_
    refine XS.dloadN X8.here hx rfl (hb hby d8_36) rfl ?_
    refine st9.trans ?_
    refine XS.aloadN X9.here hx rfl (hb hby d8_40) rfl rfl ?_
    refine st10.trans ?_
    refine XS.ifYes X10.here hx rfl (pc0 := 44) (pc' := 162) rfl (hb hby d8_44) rfl ((if0 _ _).trans (teq (by decide : (0 : Int32) = (0 : Int32))).1) (by decide) (by decide) ?_
    exact X10.returnOut hx Bd.returns (hb hby d8_162) hr
  · show Q8_3_0_0 Z a1 p2 y3 hp da sa D S0 h0 n0 _ T10.heap _
    rw [eh10]
    exact ⟨rfl, N10, own_kw K9 (by simp), Fd9, Fs9, Fz9, ⟨_, Vd9⟩, ⟨_, Vs9⟩⟩
theorem ef_8_3_1_0 (m : MethodId) (x0 : Addr) (x1 : Int32) (x2 : UInt64) : entryFrame m #[(.ref x0), (.int x1), (.double x2)] 7 = mkF m 0 #[.val (.ref x0), .val (.int x1), .val (.double x2), .second, .unset, .unset, .unset] [] := by first | (simp [entryFrame, mkF, argsToLocals, Value.category]; done) | rfl
def Q8_3_1_0 (Z : State) (a1 : Addr) (p2 : Int32) (y3 : UInt64) (hp : Addr) (da : Addr) (sa : Addr) (D : Nat → Int32) (S0 : Nat → UInt64) (h0 : Heap) (n0 : Nat) (v : Option Value) (h : Heap) (L : List Loc) : Prop := v = none ∧ Fr n0 L ∧ Keep h0 h [hp, da, sa] ∧ Fld Z h hp sH "documents" "[I" (.ref da) ∧ Fld Z h hp sH "scores" "[D" (.ref sa) ∧ Fld Z h hp sH "size" "I" (.int (2 : Int32)) ∧ (∃ D', own_AI Z h da (3 : Int32) D') ∧ (∃ S', own_AD Z h sa (3 : Int32) S')
set_option maxRecDepth 65536 in
set_option maxHeartbeats 40000000 in
theorem rm8_3_1_0 (l : Launch) (Z : State) (a0 : Array Value) (hw : ∀ d ∈ tables_1, d.before a0 Z = true) (ws : List Jvm.Cond) (a1 : Addr) (p2 : Int32) (y3 : UInt64) (hp : Addr) (da : Addr) (sa : Addr) (D : Nat → Int32) (S0 : Nat → UInt64) (h0 : Heap) (n0 : Nat) (Z0 : n0 ≤ h0.size) (E_a1 : Exa Z h0 a1 sB) (F_c : Fld Z h0 a1 sB "capacity" "I" (.int (3 : Int32))) (F_b : Fld Z h0 a1 sB "best" "Lcom/example/calpurnia/calpurnia/ranking/BestDocuments$Heap;" (.ref hp)) (F_a : Fld Z h0 a1 sB "asRead" "Ljava/util/function/DoubleUnaryOperator;" .null) (F_t : Fld Z h0 a1 sB "sorted" "Z" (.int (0 : Int32))) (E_hp : Exa Z h0 hp sH) (F_d : Fld Z h0 hp sH "documents" "[I" (.ref da)) (F_s : Fld Z h0 hp sH "scores" "[D" (.ref sa)) (F_z : Fld Z h0 hp sH "size" "I" (.int (1 : Int32))) (V_da : own_AI Z h0 da (3 : Int32) D) (V_sa : own_AD Z h0 sa (3 : Int32) S0) (nbh : a1 ≠ hp) (nbd : a1 ≠ da) (nbs : a1 ≠ sa) (nhd : hp ≠ da) (nhs : hp ≠ sa) (nds : da ≠ sa) (g_hp : n0 ≤ hp) (g_da : n0 ≤ da) (g_sa : n0 ≤ sa) (nn_y3 : Jvm.Free.Fl.NoNaN64 y3) :
    MetFree l (⟨sB, "offer", "(ID)V"⟩ : MethodName) (head1 (Jvm.Cond.code (⟨sB, "offer", "(ID)V"⟩ : MethodName) prog_186_method_6_code 7 none :: ws) ({ frames := 7, cells := 0, slots := 0, locals := 190 } : Room)) (fun a U => a = #[(.ref a1), (.int p2), (.double y3)] ∧ Z.Warmed39 U.vm ∧ U.heap = h0) (fun _ _ _ _ _ => True) (fun _ U o U' => ∃ v L, o = .returned v ∧ Q8_3_1_0 Z a1 p2 y3 hp da sa D S0 h0 n0 v U'.heap L ∧ FrameEnd U o U' L ({ frames := 7, cells := 0, slots := 0, locals := 190 } : Room).cells ({ frames := 7, cells := 0, slots := 0, locals := 190 } : Room).slots) := by
  refine MetFree.of_bodySF (plainFor_of_name pn_8) hisR ?_
  intro p e s m args below meth c s₁ Bd hml0 hP hK
  obtain ⟨rfl, hZ, hh⟩ := hP
  have hx := Bd.exec
  have hby := Bd.bytes
  have hml : c.maxLocals = 7 := hml0
  have hown : s.vm.findClass sB = some m.cls := findClass_of_methodNamed Bd.named
  have hnm := (name_of_methodNamed Bd.named Bd.method).1
  have X0 : Stand p l e ({ frames := 7, cells := 0, slots := 0, locals := 190 } : Room) s m #[(.ref a1), (.int p2), (.double y3)] below meth c s₁ [] 0 0 := Stand.of_body Bd
  have e0 : s₁.heap = h0 := by rw [← hh, Bd.state]; rfl
  have N0 := Fr.nil n0
  have pre0 : ∀ t, Steps p.tables e below (s₁.setTop (mkF m 0 #[.val (.ref a1), .val (.int p2), .val (.double y3), .second, .unset, .unset, .unset] [])) t → Steps p.tables e below (s₁.setTop (entryFrame m #[(.ref a1), (.int p2), (.double y3)] 7)) t := fun t k => castTop (ef_8_3_1_0 m a1 p2 y3) k

  obtain ⟨T4, X4, e4, st4⟩ := getF X0 hx hZ hown (host := "") (Or.inl (ww hw 72 rfl)) Via.refl e0 F_t (g := (mkF m 1 #[.val (.ref a1), .val (.int p2), .val (.double y3), .second, .unset, .unset, .unset] [(.ref a1)])) rfl rfl (hb hby d8_1)
  obtain ⟨T5, X5, e5, st5⟩ := getF X4 hx hZ hown (host := "") (Or.inl (ww hw 31 rfl)) Via.refl e4 F_b (g := (mkF m 18 #[.val (.ref a1), .val (.int p2), .val (.double y3), .second, .unset, .unset, .unset] [(.ref a1)])) rfl rfl (hb hby d8_18)
  obtain ⟨T6, X6, e6, st6⟩ := own_getR X5 hx hZ hown (ww hw 61 rfl) e5 F_z (g := (mkF m 21 #[.val (.ref a1), .val (.int p2), .val (.double y3), .second, .unset, .unset, .unset] [(.ref hp)])) rfl rfl (hb hby d8_21)
  obtain ⟨T7, X7, e7, st7⟩ := getF X6 hx hZ hown (host := "") (Or.inl (ww hw 16 rfl)) Via.refl e6 F_c (g := (mkF m 25 #[.val (.ref a1), .val (.int p2), .val (.double y3), .second, .unset, .unset, .unset] [(.ref a1), (.int (1 : Int32))])) rfl rfl (hb hby d8_25)
  obtain ⟨T8, X8, e8, st8⟩ := getF X7 hx hZ hown (host := "") (Or.inl (ww hw 31 rfl)) Via.refl e7 F_b (g := (mkF m 32 #[.val (.ref a1), .val (.int p2), .val (.double y3), .second, .unset, .unset, .unset] [(.ref a1)])) rfl rfl (hb hby d8_32)
  obtain ⟨cq9, kq9, q9a, q9b, q9c⟩ := isOf hZ e8 E_hp
  obtain ⟨_, _, ⟨T9, L9, k9, n9⟩, -, X9, ⟨Lc9, hQ9, l9, y9, z9⟩, st9⟩ := X8.virtualBack hx (y := (⟨sH, "add", "(ID)V"⟩ : MethodName)) (z := (⟨sH, "add", "(ID)V"⟩ : MethodName)) hown (mvT hZ (ww hw 74 rfl)) (mvT hZ (ww hw 75 rfl)) (notFace_of_selects (args := #[]) (mvT hZ (ww hw 77 rfl))) (mvT hZ (ww hw 77 rfl)) (mvT hZ (ww hw 76 rfl)) (by decide) (backOf (W := 0) (rm9_1 l Z a0 hw [] hp p2 y3 da sa _ _ _ h0 n0 Z0 E_hp F_d F_s V_da V_sa nds nhd nhs g_da g_sa F_z nn_y3 g_hp (by decide) (by decide)) hZ (ww hw 78 rfl) (ww hw 20 rfl) (by decide) (by decide)) q9a q9c (g := (mkF m 37 #[.val (.ref a1), .val (.int p2), .val (.double y3), .second, .unset, .unset, .unset] [(.double y3), (.int p2), (.ref hp)])) rfl (by rw [hml]; rfl) (Steps.refl _) (argsL := [(.int p2), (.double y3)]) (rest := []) (lenOf pd_8_6 rfl) rfl (by show 2 * 0 + _ ≤ _; exact Nat.le_of_eq rfl) (hb hby d8_37) (fun _ _ => ⟨rfl, e8, (by decide : 0 + 0 ≤ _), (by decide : 0 + 0 ≤ _)⟩)
  dsimp only [Pt.U, Pt.locs, Pt.cells, Pt.slots] at X9 l9 y9 z9 st9 hQ9
  subst l9 y9 z9
  obtain ⟨rfl, N9q, Kc9, Ec9, Fd9, Fs9, Fz9, ⟨D9, Vd9⟩, ⟨S9, Vs9⟩⟩ := hQ9
  have N9 := Fr.app N0 N9q
  have K9 : Keep h0 T9.heap [hp, da, sa] := (Keep.refl h0 [hp, da, sa]).trans Kc9 (allS (Or.inl (List.mem_of_getElem? (i := 0) rfl)) (allS (Or.inl (List.mem_of_getElem? (i := 1) rfl)) (allS (Or.inl (List.mem_of_getElem? (i := 2) rfl)) all0)))
  obtain ⟨cq10, kq10, q10a, q10b, q10c⟩ := isOf hZ rfl (E_a1.keep Kc9)
  obtain ⟨_, _, ⟨T10, L10, k10, n10⟩, -, X10, ⟨Lc10, hQ10, l10, y10, z10⟩, st10⟩ := X9.virtualBack hx (y := (⟨sB, "full", "()Z"⟩ : MethodName)) (z := (⟨sB, "full", "()Z"⟩ : MethodName)) hown (mvT hZ (ww hw 84 rfl)) (mvT hZ (ww hw 57 rfl)) (notFace_of_selects (args := #[]) (mvT hZ (ww hw 59 rfl))) (mvT hZ (ww hw 59 rfl)) (mvT hZ (ww hw 58 rfl)) (by decide) (backOf (W := 0) (rm6_0 l Z a0 hw [] a1 _ _ _ T9.heap n0 (Nat.le_trans Z0 Kc9.1) (F_b.keep Kc9 (ninS nbh (ninS nbd (ninS nbs nin0)))) Fz9 (F_c.keep Kc9 (ninS nbh (ninS nbd (ninS nbs nin0)))) (by decide)) hZ (ww hw 60 rfl) (ww hw 3 rfl) (by decide) (by decide)) q10a q10c (g := (mkF m 41 #[.val (.ref a1), .val (.int p2), .val (.double y3), .second, .unset, .unset, .unset] [(.ref a1)])) rfl (by rw [hml]; rfl) (Steps.refl _) (argsL := []) (rest := []) (lenOf pd_8_4 rfl) rfl (by show 2 * 0 + _ ≤ _; exact Nat.le_of_eq rfl) (hb hby d8_41) (fun _ _ => ⟨rfl, rfl, (by decide : 0 + 0 ≤ _), (by decide : 0 + 0 ≤ _)⟩)
  dsimp only [Pt.U, Pt.locs, Pt.cells, Pt.slots] at X10 l10 y10 z10 st10 hQ10
  subst l10 y10 z10
  obtain ⟨rfl, N10q, eh10⟩ := hQ10
  have N10 := Fr.app N9 N10q
  obtain ⟨fs, hr, hrun, hended, hW, hsame⟩ := X10.leave (v := none) (fun _ => rfl)
  refine ⟨_, _, pre0 _ ?_, hrun, hended, _, _, rfl, ?_, ⟨_, rfl⟩, hW, hsame.mono (by decide) (by decide)⟩
  · show Steps _ _ _ (s₁.setTop (mkF m 0 #[.val (.ref a1), .val (.int p2), .val (.double y3), .second, .unset, .unset, .unset] [])) _
    refine XS.aloadN X0.here hx rfl (hb hby d8_0) rfl rfl ?_
    refine st4 _ ?_
    refine XS.ifYes X4.here hx rfl (pc0 := 4) (pc' := 17) rfl (hb hby d8_4) rfl ((if0 _ _).trans (teq (by decide : (0 : Int32) = (0 : Int32))).1) (by decide) (by decide) ?_
    refine XS.aloadN X4.here hx rfl (hb hby d8_17) rfl rfl ?_
    refine st5 _ ?_
    refine st6 _ ?_
    refine XS.aloadN X6.here hx rfl (hb hby d8_24) rfl rfl ?_
    refine st7 _ ?_
    refine XS.icmpNo X7.here hx rfl (hb hby d8_28) rfl (tlt (by decide : (1 : Int32) < (3 : Int32))).2.1 ?_
    refine XS.aloadN X7.here hx rfl (hb hby d8_31) rfl rfl ?_
    refine st8 _ ?_
    refine XS.iloadN X8.here hx rfl (hb hby d8_35) rfl ?_
    refine XS.dloadN X8.here hx rfl (hb hby d8_36) rfl ?_
    refine st9.trans ?_
    refine XS.aloadN X9.here hx rfl (hb hby d8_40) rfl rfl ?_
    refine st10.trans ?_
    refine XS.ifYes X10.here hx rfl (pc0 := 44) (pc' := 162) rfl (hb hby d8_44) rfl ((if0 _ _).trans (teq (by decide : (0 : Int32) = (0 : Int32))).1) (by decide) (by decide) ?_
    exact X10.returnOut hx Bd.returns (hb hby d8_162) hr
  · show Q8_3_1_0 Z a1 p2 y3 hp da sa D S0 h0 n0 _ T10.heap _
    rw [eh10]
    exact ⟨rfl, N10, own_kw K9 (by simp), Fd9, Fs9, Fz9, ⟨_, Vd9⟩, ⟨_, Vs9⟩⟩
theorem ef_8_3_2_0 (m : MethodId) (x0 : Addr) (x1 : Int32) (x2 : UInt64) : entryFrame m #[(.ref x0), (.int x1), (.double x2)] 7 = mkF m 0 #[.val (.ref x0), .val (.int x1), .val (.double x2), .second, .unset, .unset, .unset] [] := by first | (simp [entryFrame, mkF, argsToLocals, Value.category]; done) | rfl
def Q8_3_2_0 (Z : State) (a1 : Addr) (p2 : Int32) (y3 : UInt64) (hp : Addr) (da : Addr) (sa : Addr) (D : Nat → Int32) (S0 : Nat → UInt64) (h0 : Heap) (n0 : Nat) (v : Option Value) (h : Heap) (L : List Loc) : Prop := v = none ∧ Fr n0 L ∧ Keep h0 h [hp, da, sa] ∧ Fld Z h hp sH "documents" "[I" (.ref da) ∧ Fld Z h hp sH "scores" "[D" (.ref sa) ∧ Fld Z h hp sH "size" "I" (.int (3 : Int32)) ∧ (∃ D', own_AI Z h da (3 : Int32) D') ∧ (∃ S', own_AD Z h sa (3 : Int32) S')
set_option maxRecDepth 65536 in
set_option maxHeartbeats 40000000 in
theorem rm8_3_2_0 (l : Launch) (Z : State) (a0 : Array Value) (hw : ∀ d ∈ tables_1, d.before a0 Z = true) (ws : List Jvm.Cond) (a1 : Addr) (p2 : Int32) (y3 : UInt64) (hp : Addr) (da : Addr) (sa : Addr) (D : Nat → Int32) (S0 : Nat → UInt64) (h0 : Heap) (n0 : Nat) (Z0 : n0 ≤ h0.size) (E_a1 : Exa Z h0 a1 sB) (F_c : Fld Z h0 a1 sB "capacity" "I" (.int (3 : Int32))) (F_b : Fld Z h0 a1 sB "best" "Lcom/example/calpurnia/calpurnia/ranking/BestDocuments$Heap;" (.ref hp)) (F_a : Fld Z h0 a1 sB "asRead" "Ljava/util/function/DoubleUnaryOperator;" .null) (F_t : Fld Z h0 a1 sB "sorted" "Z" (.int (0 : Int32))) (E_hp : Exa Z h0 hp sH) (F_d : Fld Z h0 hp sH "documents" "[I" (.ref da)) (F_s : Fld Z h0 hp sH "scores" "[D" (.ref sa)) (F_z : Fld Z h0 hp sH "size" "I" (.int (2 : Int32))) (V_da : own_AI Z h0 da (3 : Int32) D) (V_sa : own_AD Z h0 sa (3 : Int32) S0) (nbh : a1 ≠ hp) (nbd : a1 ≠ da) (nbs : a1 ≠ sa) (nhd : hp ≠ da) (nhs : hp ≠ sa) (nds : da ≠ sa) (g_hp : n0 ≤ hp) (g_da : n0 ≤ da) (g_sa : n0 ≤ sa) (nn_y3 : Jvm.Free.Fl.NoNaN64 y3) :
    MetFree l (⟨sB, "offer", "(ID)V"⟩ : MethodName) (head1 (Jvm.Cond.code (⟨sB, "offer", "(ID)V"⟩ : MethodName) prog_186_method_6_code 7 none :: ws) ({ frames := 7, cells := 0, slots := 0, locals := 190 } : Room)) (fun a U => a = #[(.ref a1), (.int p2), (.double y3)] ∧ Z.Warmed39 U.vm ∧ U.heap = h0) (fun _ _ _ _ _ => True) (fun _ U o U' => ∃ v L, o = .returned v ∧ Q8_3_2_0 Z a1 p2 y3 hp da sa D S0 h0 n0 v U'.heap L ∧ FrameEnd U o U' L ({ frames := 7, cells := 0, slots := 0, locals := 190 } : Room).cells ({ frames := 7, cells := 0, slots := 0, locals := 190 } : Room).slots) := by
  refine MetFree.of_bodySF (plainFor_of_name pn_8) hisR ?_
  intro p e s m args below meth c s₁ Bd hml0 hP hK
  obtain ⟨rfl, hZ, hh⟩ := hP
  have hx := Bd.exec
  have hby := Bd.bytes
  have hml : c.maxLocals = 7 := hml0
  have hown : s.vm.findClass sB = some m.cls := findClass_of_methodNamed Bd.named
  have hnm := (name_of_methodNamed Bd.named Bd.method).1
  have X0 : Stand p l e ({ frames := 7, cells := 0, slots := 0, locals := 190 } : Room) s m #[(.ref a1), (.int p2), (.double y3)] below meth c s₁ [] 0 0 := Stand.of_body Bd
  have e0 : s₁.heap = h0 := by rw [← hh, Bd.state]; rfl
  have N0 := Fr.nil n0
  have pre0 : ∀ t, Steps p.tables e below (s₁.setTop (mkF m 0 #[.val (.ref a1), .val (.int p2), .val (.double y3), .second, .unset, .unset, .unset] [])) t → Steps p.tables e below (s₁.setTop (entryFrame m #[(.ref a1), (.int p2), (.double y3)] 7)) t := fun t k => castTop (ef_8_3_2_0 m a1 p2 y3) k

  obtain ⟨T4, X4, e4, st4⟩ := getF X0 hx hZ hown (host := "") (Or.inl (ww hw 72 rfl)) Via.refl e0 F_t (g := (mkF m 1 #[.val (.ref a1), .val (.int p2), .val (.double y3), .second, .unset, .unset, .unset] [(.ref a1)])) rfl rfl (hb hby d8_1)
  obtain ⟨T5, X5, e5, st5⟩ := getF X4 hx hZ hown (host := "") (Or.inl (ww hw 31 rfl)) Via.refl e4 F_b (g := (mkF m 18 #[.val (.ref a1), .val (.int p2), .val (.double y3), .second, .unset, .unset, .unset] [(.ref a1)])) rfl rfl (hb hby d8_18)
  obtain ⟨T6, X6, e6, st6⟩ := own_getR X5 hx hZ hown (ww hw 61 rfl) e5 F_z (g := (mkF m 21 #[.val (.ref a1), .val (.int p2), .val (.double y3), .second, .unset, .unset, .unset] [(.ref hp)])) rfl rfl (hb hby d8_21)
  obtain ⟨T7, X7, e7, st7⟩ := getF X6 hx hZ hown (host := "") (Or.inl (ww hw 16 rfl)) Via.refl e6 F_c (g := (mkF m 25 #[.val (.ref a1), .val (.int p2), .val (.double y3), .second, .unset, .unset, .unset] [(.ref a1), (.int (2 : Int32))])) rfl rfl (hb hby d8_25)
  obtain ⟨T8, X8, e8, st8⟩ := getF X7 hx hZ hown (host := "") (Or.inl (ww hw 31 rfl)) Via.refl e7 F_b (g := (mkF m 32 #[.val (.ref a1), .val (.int p2), .val (.double y3), .second, .unset, .unset, .unset] [(.ref a1)])) rfl rfl (hb hby d8_32)
  obtain ⟨cq9, kq9, q9a, q9b, q9c⟩ := isOf hZ e8 E_hp
  obtain ⟨_, _, ⟨T9, L9, k9, n9⟩, -, X9, ⟨Lc9, hQ9, l9, y9, z9⟩, st9⟩ := X8.virtualBack hx (y := (⟨sH, "add", "(ID)V"⟩ : MethodName)) (z := (⟨sH, "add", "(ID)V"⟩ : MethodName)) hown (mvT hZ (ww hw 74 rfl)) (mvT hZ (ww hw 75 rfl)) (notFace_of_selects (args := #[]) (mvT hZ (ww hw 77 rfl))) (mvT hZ (ww hw 77 rfl)) (mvT hZ (ww hw 76 rfl)) (by decide) (backOf (W := 0) (rm9_2 l Z a0 hw [] hp p2 y3 da sa _ _ _ h0 n0 Z0 E_hp F_d F_s V_da V_sa nds nhd nhs g_da g_sa F_z nn_y3 g_hp (by decide) (by decide)) hZ (ww hw 78 rfl) (ww hw 20 rfl) (by decide) (by decide)) q9a q9c (g := (mkF m 37 #[.val (.ref a1), .val (.int p2), .val (.double y3), .second, .unset, .unset, .unset] [(.double y3), (.int p2), (.ref hp)])) rfl (by rw [hml]; rfl) (Steps.refl _) (argsL := [(.int p2), (.double y3)]) (rest := []) (lenOf pd_8_6 rfl) rfl (by show 2 * 0 + _ ≤ _; exact Nat.le_of_eq rfl) (hb hby d8_37) (fun _ _ => ⟨rfl, e8, (by decide : 0 + 0 ≤ _), (by decide : 0 + 0 ≤ _)⟩)
  dsimp only [Pt.U, Pt.locs, Pt.cells, Pt.slots] at X9 l9 y9 z9 st9 hQ9
  subst l9 y9 z9
  obtain ⟨rfl, N9q, Kc9, Ec9, Fd9, Fs9, Fz9, ⟨D9, Vd9⟩, ⟨S9, Vs9⟩⟩ := hQ9
  have N9 := Fr.app N0 N9q
  have K9 : Keep h0 T9.heap [hp, da, sa] := (Keep.refl h0 [hp, da, sa]).trans Kc9 (allS (Or.inl (List.mem_of_getElem? (i := 0) rfl)) (allS (Or.inl (List.mem_of_getElem? (i := 1) rfl)) (allS (Or.inl (List.mem_of_getElem? (i := 2) rfl)) all0)))
  obtain ⟨cq10, kq10, q10a, q10b, q10c⟩ := isOf hZ rfl (E_a1.keep Kc9)
  obtain ⟨_, _, ⟨T10, L10, k10, n10⟩, -, X10, ⟨Lc10, hQ10, l10, y10, z10⟩, st10⟩ := X9.virtualBack hx (y := (⟨sB, "full", "()Z"⟩ : MethodName)) (z := (⟨sB, "full", "()Z"⟩ : MethodName)) hown (mvT hZ (ww hw 84 rfl)) (mvT hZ (ww hw 57 rfl)) (notFace_of_selects (args := #[]) (mvT hZ (ww hw 59 rfl))) (mvT hZ (ww hw 59 rfl)) (mvT hZ (ww hw 58 rfl)) (by decide) (backOf (W := 0) (rm6_1 l Z a0 hw [] a1 _ _ _ T9.heap n0 (Nat.le_trans Z0 Kc9.1) (F_b.keep Kc9 (ninS nbh (ninS nbd (ninS nbs nin0)))) Fz9 (F_c.keep Kc9 (ninS nbh (ninS nbd (ninS nbs nin0)))) (by decide)) hZ (ww hw 60 rfl) (ww hw 3 rfl) (by decide) (by decide)) q10a q10c (g := (mkF m 41 #[.val (.ref a1), .val (.int p2), .val (.double y3), .second, .unset, .unset, .unset] [(.ref a1)])) rfl (by rw [hml]; rfl) (Steps.refl _) (argsL := []) (rest := []) (lenOf pd_8_4 rfl) rfl (by show 2 * 0 + _ ≤ _; exact Nat.le_of_eq rfl) (hb hby d8_41) (fun _ _ => ⟨rfl, rfl, (by decide : 0 + 0 ≤ _), (by decide : 0 + 0 ≤ _)⟩)
  dsimp only [Pt.U, Pt.locs, Pt.cells, Pt.slots] at X10 l10 y10 z10 st10 hQ10
  subst l10 y10 z10
  obtain ⟨rfl, N10q, eh10⟩ := hQ10
  have N10 := Fr.app N9 N10q
  obtain ⟨T11, X11, e11, st11⟩ := getF X10 hx hZ hown (host := "") (Or.inl (ww hw 33 rfl)) Via.refl eh10 (F_a.keep Kc9 (ninS nbh (ninS nbd (ninS nbs nin0)))) (g := (mkF m 48 #[.val (.ref a1), .val (.int p2), .val (.double y3), .second, .unset, .unset, .unset] [(.ref a1)])) rfl rfl (hb hby d8_48)
  obtain ⟨fs, hr, hrun, hended, hW, hsame⟩ := X11.leave (v := none) (fun _ => rfl)
  refine ⟨_, _, pre0 _ ?_, hrun, hended, _, _, rfl, ?_, ⟨_, rfl⟩, hW, hsame.mono (by decide) (by decide)⟩
  · show Steps _ _ _ (s₁.setTop (mkF m 0 #[.val (.ref a1), .val (.int p2), .val (.double y3), .second, .unset, .unset, .unset] [])) _
    refine XS.aloadN X0.here hx rfl (hb hby d8_0) rfl rfl ?_
    refine st4 _ ?_
    refine XS.ifYes X4.here hx rfl (pc0 := 4) (pc' := 17) rfl (hb hby d8_4) rfl ((if0 _ _).trans (teq (by decide : (0 : Int32) = (0 : Int32))).1) (by decide) (by decide) ?_
    refine XS.aloadN X4.here hx rfl (hb hby d8_17) rfl rfl ?_
    refine st5 _ ?_
    refine st6 _ ?_
    refine XS.aloadN X6.here hx rfl (hb hby d8_24) rfl rfl ?_
    refine st7 _ ?_
    refine XS.icmpNo X7.here hx rfl (hb hby d8_28) rfl (tlt (by decide : (2 : Int32) < (3 : Int32))).2.1 ?_
    refine XS.aloadN X7.here hx rfl (hb hby d8_31) rfl rfl ?_
    refine st8 _ ?_
    refine XS.iloadN X8.here hx rfl (hb hby d8_35) rfl ?_
    refine XS.dloadN X8.here hx rfl (hb hby d8_36) rfl ?_
    refine st9.trans ?_
    refine XS.aloadN X9.here hx rfl (hb hby d8_40) rfl rfl ?_
    refine st10.trans ?_
    refine XS.ifNo X10.here hx rfl (hb hby d8_44) rfl ((if0 _ _).trans (feq (by decide : ¬ ((1 : Int32) = (0 : Int32)))).1) ?_
    refine XS.aloadN X10.here hx rfl (hb hby d8_47) rfl rfl ?_
    refine st11 _ ?_
    refine XS.ifnullYes X11.here hx rfl (pc0 := 51) (pc' := 162) rfl (hb hby d8_51) rfl (by decide) (by decide) ?_
    exact X11.returnOut hx Bd.returns (hb hby d8_162) hr
  · show Q8_3_2_0 Z a1 p2 y3 hp da sa D S0 h0 n0 _ T11.heap _
    rw [e11]
    exact ⟨rfl, N10, own_kw K9 (by simp), Fd9, Fs9, Fz9, ⟨_, Vd9⟩, ⟨_, Vs9⟩⟩
theorem ef_8_3_3_0 (m : MethodId) (x0 : Addr) (x1 : Int32) (x2 : UInt64) : entryFrame m #[(.ref x0), (.int x1), (.double x2)] 7 = mkF m 0 #[.val (.ref x0), .val (.int x1), .val (.double x2), .second, .unset, .unset, .unset] [] := by first | (simp [entryFrame, mkF, argsToLocals, Value.category]; done) | rfl
def Q8_3_3_0 (Z : State) (a1 : Addr) (p2 : Int32) (y3 : UInt64) (hp : Addr) (da : Addr) (sa : Addr) (D : Nat → Int32) (S0 : Nat → UInt64) (h0 : Heap) (n0 : Nat) (v : Option Value) (h : Heap) (L : List Loc) : Prop := v = none ∧ Fr n0 L ∧ Keep h0 h [hp, da, sa] ∧ Fld Z h hp sH "documents" "[I" (.ref da) ∧ Fld Z h hp sH "scores" "[D" (.ref sa) ∧ Fld Z h hp sH "size" "I" (.int (3 : Int32)) ∧ (∃ D', own_AI Z h da (3 : Int32) D') ∧ (∃ S', own_AD Z h sa (3 : Int32) S')
set_option maxRecDepth 65536 in
set_option maxHeartbeats 40000000 in
theorem rm8_3_3_0 (l : Launch) (Z : State) (a0 : Array Value) (hw : ∀ d ∈ tables_1, d.before a0 Z = true) (ws : List Jvm.Cond) (a1 : Addr) (p2 : Int32) (y3 : UInt64) (hp : Addr) (da : Addr) (sa : Addr) (D : Nat → Int32) (S0 : Nat → UInt64) (h0 : Heap) (n0 : Nat) (Z0 : n0 ≤ h0.size) (E_a1 : Exa Z h0 a1 sB) (F_c : Fld Z h0 a1 sB "capacity" "I" (.int (3 : Int32))) (F_b : Fld Z h0 a1 sB "best" "Lcom/example/calpurnia/calpurnia/ranking/BestDocuments$Heap;" (.ref hp)) (F_a : Fld Z h0 a1 sB "asRead" "Ljava/util/function/DoubleUnaryOperator;" .null) (F_t : Fld Z h0 a1 sB "sorted" "Z" (.int (0 : Int32))) (E_hp : Exa Z h0 hp sH) (F_d : Fld Z h0 hp sH "documents" "[I" (.ref da)) (F_s : Fld Z h0 hp sH "scores" "[D" (.ref sa)) (F_z : Fld Z h0 hp sH "size" "I" (.int (3 : Int32))) (V_da : own_AI Z h0 da (3 : Int32) D) (V_sa : own_AD Z h0 sa (3 : Int32) S0) (nbh : a1 ≠ hp) (nbd : a1 ≠ da) (nbs : a1 ≠ sa) (nhd : hp ≠ da) (nhs : hp ≠ sa) (nds : da ≠ sa) (g_hp : n0 ≤ hp) (g_da : n0 ≤ da) (g_sa : n0 ≤ sa) (nn_y3 : Jvm.Free.Fl.NoNaN64 y3) (nw0 : Jvm.Free.Fl.NoNaN64 (S0 ((0 : Int32)).toNatClampNeg)) (hc80 : ¬ ((0 : Int32) < (own_cmp y3 (S0 ((0 : Int32)).toNatClampNeg)))) :
    MetFree l (⟨sB, "offer", "(ID)V"⟩ : MethodName) (head1 (Jvm.Cond.code (⟨sB, "offer", "(ID)V"⟩ : MethodName) prog_186_method_6_code 7 none :: ws) ({ frames := 7, cells := 0, slots := 0, locals := 190 } : Room)) (fun a U => a = #[(.ref a1), (.int p2), (.double y3)] ∧ Z.Warmed39 U.vm ∧ U.heap = h0) (fun _ _ _ _ _ => True) (fun _ U o U' => ∃ v L, o = .returned v ∧ Q8_3_3_0 Z a1 p2 y3 hp da sa D S0 h0 n0 v U'.heap L ∧ FrameEnd U o U' L ({ frames := 7, cells := 0, slots := 0, locals := 190 } : Room).cells ({ frames := 7, cells := 0, slots := 0, locals := 190 } : Room).slots) := by
  refine MetFree.of_bodySF (plainFor_of_name pn_8) hisR ?_
  intro p e s m args below meth c s₁ Bd hml0 hP hK
  obtain ⟨rfl, hZ, hh⟩ := hP
  have hx := Bd.exec
  have hby := Bd.bytes
  have hml : c.maxLocals = 7 := hml0
  have hown : s.vm.findClass sB = some m.cls := findClass_of_methodNamed Bd.named
  have hnm := (name_of_methodNamed Bd.named Bd.method).1
  have X0 : Stand p l e ({ frames := 7, cells := 0, slots := 0, locals := 190 } : Room) s m #[(.ref a1), (.int p2), (.double y3)] below meth c s₁ [] 0 0 := Stand.of_body Bd
  have e0 : s₁.heap = h0 := by rw [← hh, Bd.state]; rfl
  have N0 := Fr.nil n0
  have pre0 : ∀ t, Steps p.tables e below (s₁.setTop (mkF m 0 #[.val (.ref a1), .val (.int p2), .val (.double y3), .second, .unset, .unset, .unset] [])) t → Steps p.tables e below (s₁.setTop (entryFrame m #[(.ref a1), (.int p2), (.double y3)] 7)) t := fun t k => castTop (ef_8_3_3_0 m a1 p2 y3) k

  obtain ⟨T4, X4, e4, st4⟩ := getF X0 hx hZ hown (host := "") (Or.inl (ww hw 72 rfl)) Via.refl e0 F_t (g := (mkF m 1 #[.val (.ref a1), .val (.int p2), .val (.double y3), .second, .unset, .unset, .unset] [(.ref a1)])) rfl rfl (hb hby d8_1)
  obtain ⟨T5, X5, e5, st5⟩ := getF X4 hx hZ hown (host := "") (Or.inl (ww hw 31 rfl)) Via.refl e4 F_b (g := (mkF m 18 #[.val (.ref a1), .val (.int p2), .val (.double y3), .second, .unset, .unset, .unset] [(.ref a1)])) rfl rfl (hb hby d8_18)
  obtain ⟨T6, X6, e6, st6⟩ := own_getR X5 hx hZ hown (ww hw 61 rfl) e5 F_z (g := (mkF m 21 #[.val (.ref a1), .val (.int p2), .val (.double y3), .second, .unset, .unset, .unset] [(.ref hp)])) rfl rfl (hb hby d8_21)
  obtain ⟨T7, X7, e7, st7⟩ := getF X6 hx hZ hown (host := "") (Or.inl (ww hw 16 rfl)) Via.refl e6 F_c (g := (mkF m 25 #[.val (.ref a1), .val (.int p2), .val (.double y3), .second, .unset, .unset, .unset] [(.ref a1), (.int (3 : Int32))])) rfl rfl (hb hby d8_25)
  obtain ⟨T8, X8, e8, st8⟩ := getF X7 hx hZ hown (host := "") (Or.inl (ww hw 16 rfl)) Via.refl e7 F_c (g := (mkF m 63 #[.val (.ref a1), .val (.int p2), .val (.double y3), .second, .unset, .unset, .unset] [(.ref a1)])) rfl rfl (hb hby d8_63)
  obtain ⟨T9, X9, e9, st9⟩ := getF X8 hx hZ hown (host := "") (Or.inl (ww hw 31 rfl)) Via.refl e8 F_b (g := (mkF m 71 #[.val (.ref a1), .val (.int p2), .val (.double y3), .second, .unset, .unset, .unset] [(.ref a1), (.double y3)])) rfl rfl (hb hby d8_71)
  obtain ⟨cq10, kq10, q10a, q10b, q10c⟩ := isOf hZ e9 E_hp
  obtain ⟨_, _, ⟨T10, L10, k10, n10⟩, -, X10, ⟨Lc10, hQ10, l10, y10, z10⟩, st10⟩ := X9.virtualBack hx (y := (⟨sH, "worstScore", "()D"⟩ : MethodName)) (z := (⟨sH, "worstScore", "()D"⟩ : MethodName)) hown (mvT hZ (ww hw 100 rfl)) (mvT hZ (ww hw 101 rfl)) (notFace_of_selects (args := #[]) (mvT hZ (ww hw 103 rfl))) (mvT hZ (ww hw 103 rfl)) (mvT hZ (ww hw 102 rfl)) (by decide) (backOf (W := 2) (rm15 l Z a0 hw [] hp sa _ S0 h0 n0 Z0 F_s V_sa (by decide)) hZ (ww hw 104 rfl) (ww hw 20 rfl) (by decide) (by decide)) q10a q10c (g := (mkF m 74 #[.val (.ref a1), .val (.int p2), .val (.double y3), .second, .unset, .unset, .unset] [(.ref hp), (.double y3)])) rfl (by rw [hml]; rfl) (Steps.refl _) (argsL := []) (rest := [(.double y3)]) (lenOf pd_8_12 rfl) rfl (by show 2 * 0 + _ ≤ _; exact Nat.le_of_eq rfl) (hb hby d8_74) (fun _ _ => ⟨rfl, e9, (by decide : 0 + 0 ≤ _), (by decide : 0 + 0 ≤ _)⟩)
  dsimp only [Pt.U, Pt.locs, Pt.cells, Pt.slots] at X10 l10 y10 z10 st10 hQ10
  subst l10 y10 z10
  obtain ⟨rfl, nw10, N10q, eh10⟩ := hQ10
  have N10 := Fr.app N0 N10q
  obtain ⟨_, _, ⟨T11, L11, k11, n11⟩, -, X11, ⟨Lc11, hQ11, l11, y11, z11⟩, st11⟩ := Jvm.LawKit.callS X10 hx (y := (⟨"java/lang/Double", "compare", "(DD)I"⟩ : MethodName)) hown (mvT hZ (ww hw 105 rfl)) (mvT hZ (ww hw 93 rfl)) (mvT hZ (ww hw 94 rfl)) (mvT hZ (ww hw 95 rfl)) (by decide) (backOf (W := 0) (rm13 l Z a0 hw [] y3 (S0 ((0 : Int32)).toNatClampNeg)  h0 n0 Z0 nn_y3 nw0) hZ (ww hw 95 rfl) (ww hw 94 rfl) (by decide) (by decide)) (g := (mkF m 77 #[.val (.ref a1), .val (.int p2), .val (.double y3), .second, .unset, .unset, .unset] [(.double (S0 ((0 : Int32)).toNatClampNeg)), (.double y3)])) rfl (by rw [hml]; rfl) (argsL := [(.double y3), (.double (S0 ((0 : Int32)).toNatClampNeg))]) (rest := []) (lenOf pd_8_10 rfl) rfl (by show 2 * 0 + _ ≤ _; exact Nat.le_of_eq rfl) (hb hby d8_77) (fun _ _ => ⟨rfl, eh10, (by decide : 0 + 0 ≤ _), (by decide : 0 + 0 ≤ _)⟩)
  dsimp only [Pt.U, Pt.locs, Pt.cells, Pt.slots] at X11 l11 y11 z11 st11 hQ11
  subst l11 y11 z11
  obtain ⟨rfl, N11q, eh11⟩ := hQ11
  have N11 := Fr.app N10 N11q
  obtain ⟨T12, X12, e12, st12⟩ := getF X11 hx hZ hown (host := "") (Or.inl (ww hw 16 rfl)) Via.refl eh11 F_c (g := (mkF m 139 #[.val (.ref a1), .val (.int p2), .val (.double y3), .second, .unset, .unset, .unset] [(.ref a1)])) rfl rfl (hb hby d8_139)
  obtain ⟨cq13, kq13, q13a, q13b, q13c⟩ := isOf hZ e12 E_a1
  obtain ⟨_, _, ⟨T13, L13, k13, n13⟩, -, X13, ⟨Lc13, hQ13, l13, y13, z13⟩, st13⟩ := X12.virtualBack hx (y := (⟨sB, "keepsAsTie", "(D)Z"⟩ : MethodName)) (z := (⟨sB, "keepsAsTie", "(D)Z"⟩ : MethodName)) hown (mvT hZ (ww hw 106 rfl)) (mvT hZ (ww hw 107 rfl)) (notFace_of_selects (args := #[]) (mvT hZ (ww hw 109 rfl))) (mvT hZ (ww hw 109 rfl)) (mvT hZ (ww hw 108 rfl)) (by decide) (backOf (W := 0) (rm16 l Z a0 hw [] a1 y3  h0 n0 Z0 F_a) hZ (ww hw 110 rfl) (ww hw 3 rfl) (by decide) (by decide)) q13a q13c (g := (mkF m 147 #[.val (.ref a1), .val (.int p2), .val (.double y3), .second, .unset, .unset, .unset] [(.double y3), (.ref a1)])) rfl (by rw [hml]; rfl) (Steps.refl _) (argsL := [(.double y3)]) (rest := []) (lenOf pd_8_13 rfl) rfl (by show 2 * 0 + _ ≤ _; exact Nat.le_of_eq rfl) (hb hby d8_147) (fun _ _ => ⟨rfl, e12, (by decide : 0 + 0 ≤ _), (by decide : 0 + 0 ≤ _)⟩)
  dsimp only [Pt.U, Pt.locs, Pt.cells, Pt.slots] at X13 l13 y13 z13 st13 hQ13
  subst l13 y13 z13
  obtain ⟨rfl, N13q, eh13⟩ := hQ13
  have N13 := Fr.app N11 N13q
  obtain ⟨fs, hr, hrun, hended, hW, hsame⟩ := X13.leave (v := none) (fun _ => rfl)
  refine ⟨_, _, pre0 _ ?_, hrun, hended, _, _, rfl, ?_, ⟨_, rfl⟩, hW, hsame.mono (by decide) (by decide)⟩
  · show Steps _ _ _ (s₁.setTop (mkF m 0 #[.val (.ref a1), .val (.int p2), .val (.double y3), .second, .unset, .unset, .unset] [])) _
    refine XS.aloadN X0.here hx rfl (hb hby d8_0) rfl rfl ?_
    refine st4 _ ?_
    refine XS.ifYes X4.here hx rfl (pc0 := 4) (pc' := 17) rfl (hb hby d8_4) rfl ((if0 _ _).trans (teq (by decide : (0 : Int32) = (0 : Int32))).1) (by decide) (by decide) ?_
    refine XS.aloadN X4.here hx rfl (hb hby d8_17) rfl rfl ?_
    refine st5 _ ?_
    refine st6 _ ?_
    refine XS.aloadN X6.here hx rfl (hb hby d8_24) rfl rfl ?_
    refine st7 _ ?_
    refine XS.icmpYes X7.here hx rfl (pc0 := 28) (pc' := 62) rfl (hb hby d8_28) rfl (flt (by decide : ¬ ((3 : Int32) < (3 : Int32)))).2.1 (by decide) (by decide) ?_
    refine XS.aloadN X7.here hx rfl (hb hby d8_62) rfl rfl ?_
    refine st8 _ ?_
    refine XS.ifNo X8.here hx rfl (hb hby d8_66) rfl ((if0 _ _).trans (tlt (by decide : (0 : Int32) < (3 : Int32))).2.2.2) ?_
    refine XS.dloadN X8.here hx rfl (hb hby d8_69) rfl ?_
    refine XS.aloadN X8.here hx rfl (hb hby d8_70) rfl rfl ?_
    refine st9 _ ?_
    refine st10.trans ?_
    refine st11 _ ?_
    refine XS.ifYes X11.here hx rfl (pc0 := 80) (pc' := 138) rfl (hb hby d8_80) rfl ((if0 _ _).trans (flt hc80).2.2.2) (by decide) (by decide) ?_
    refine XS.aloadN X11.here hx rfl (hb hby d8_138) rfl rfl ?_
    refine st12 _ ?_
    refine XS.ifNo X12.here hx rfl (hb hby d8_142) rfl ((if0 _ _).trans (tlt (by decide : (0 : Int32) < (3 : Int32))).2.2.2) ?_
    refine XS.aloadN X12.here hx rfl (hb hby d8_145) rfl rfl ?_
    refine XS.dloadN X12.here hx rfl (hb hby d8_146) rfl ?_
    refine st13.trans ?_
    refine XS.ifYes X13.here hx rfl (pc0 := 150) (pc' := 162) rfl (hb hby d8_150) rfl ((if0 _ _).trans (teq (by decide : (0 : Int32) = (0 : Int32))).1) (by decide) (by decide) ?_
    exact X13.returnOut hx Bd.returns (hb hby d8_162) hr
  · show Q8_3_3_0 Z a1 p2 y3 hp da sa D S0 h0 n0 _ T13.heap _
    rw [eh13]
    exact ⟨rfl, N13, own_kw (Keep.refl h0 []) (by simp), F_d, F_s, F_z, ⟨_, V_da⟩, ⟨_, V_sa⟩⟩
theorem ef_8_3_3_1 (m : MethodId) (x0 : Addr) (x1 : Int32) (x2 : UInt64) : entryFrame m #[(.ref x0), (.int x1), (.double x2)] 7 = mkF m 0 #[.val (.ref x0), .val (.int x1), .val (.double x2), .second, .unset, .unset, .unset] [] := by first | (simp [entryFrame, mkF, argsToLocals, Value.category]; done) | rfl
def Q8_3_3_1 (Z : State) (a1 : Addr) (p2 : Int32) (y3 : UInt64) (hp : Addr) (da : Addr) (sa : Addr) (D : Nat → Int32) (S0 : Nat → UInt64) (h0 : Heap) (n0 : Nat) (v : Option Value) (h : Heap) (L : List Loc) : Prop := v = none ∧ Fr n0 L ∧ Keep h0 h [hp, da, sa] ∧ Fld Z h hp sH "documents" "[I" (.ref da) ∧ Fld Z h hp sH "scores" "[D" (.ref sa) ∧ Fld Z h hp sH "size" "I" (.int (3 : Int32)) ∧ (∃ D', own_AI Z h da (3 : Int32) D') ∧ (∃ S', own_AD Z h sa (3 : Int32) S')
set_option maxRecDepth 65536 in
set_option maxHeartbeats 40000000 in
theorem rm8_3_3_1 (l : Launch) (Z : State) (a0 : Array Value) (hw : ∀ d ∈ tables_1, d.before a0 Z = true) (ws : List Jvm.Cond) (a1 : Addr) (p2 : Int32) (y3 : UInt64) (hp : Addr) (da : Addr) (sa : Addr) (D : Nat → Int32) (S0 : Nat → UInt64) (h0 : Heap) (n0 : Nat) (Z0 : n0 ≤ h0.size) (E_a1 : Exa Z h0 a1 sB) (F_c : Fld Z h0 a1 sB "capacity" "I" (.int (3 : Int32))) (F_b : Fld Z h0 a1 sB "best" "Lcom/example/calpurnia/calpurnia/ranking/BestDocuments$Heap;" (.ref hp)) (F_a : Fld Z h0 a1 sB "asRead" "Ljava/util/function/DoubleUnaryOperator;" .null) (F_t : Fld Z h0 a1 sB "sorted" "Z" (.int (0 : Int32))) (E_hp : Exa Z h0 hp sH) (F_d : Fld Z h0 hp sH "documents" "[I" (.ref da)) (F_s : Fld Z h0 hp sH "scores" "[D" (.ref sa)) (F_z : Fld Z h0 hp sH "size" "I" (.int (3 : Int32))) (V_da : own_AI Z h0 da (3 : Int32) D) (V_sa : own_AD Z h0 sa (3 : Int32) S0) (nbh : a1 ≠ hp) (nbd : a1 ≠ da) (nbs : a1 ≠ sa) (nhd : hp ≠ da) (nhs : hp ≠ sa) (nds : da ≠ sa) (g_hp : n0 ≤ hp) (g_da : n0 ≤ da) (g_sa : n0 ≤ sa) (nn_y3 : Jvm.Free.Fl.NoNaN64 y3) (nw0 : Jvm.Free.Fl.NoNaN64 (S0 ((0 : Int32)).toNatClampNeg)) (hc80 : (0 : Int32) < (own_cmp y3 (S0 ((0 : Int32)).toNatClampNeg))) :
    MetFree l (⟨sB, "offer", "(ID)V"⟩ : MethodName) (head1 (Jvm.Cond.code (⟨sB, "offer", "(ID)V"⟩ : MethodName) prog_186_method_6_code 7 none :: ws) ({ frames := 7, cells := 0, slots := 0, locals := 190 } : Room)) (fun a U => a = #[(.ref a1), (.int p2), (.double y3)] ∧ Z.Warmed39 U.vm ∧ U.heap = h0) (fun _ _ _ _ _ => True) (fun _ U o U' => ∃ v L, o = .returned v ∧ Q8_3_3_1 Z a1 p2 y3 hp da sa D S0 h0 n0 v U'.heap L ∧ FrameEnd U o U' L ({ frames := 7, cells := 0, slots := 0, locals := 190 } : Room).cells ({ frames := 7, cells := 0, slots := 0, locals := 190 } : Room).slots) := by
  refine MetFree.of_bodySF (plainFor_of_name pn_8) hisR ?_
  intro p e s m args below meth c s₁ Bd hml0 hP hK
  obtain ⟨rfl, hZ, hh⟩ := hP
  have hx := Bd.exec
  have hby := Bd.bytes
  have hml : c.maxLocals = 7 := hml0
  have hown : s.vm.findClass sB = some m.cls := findClass_of_methodNamed Bd.named
  have hnm := (name_of_methodNamed Bd.named Bd.method).1
  have X0 : Stand p l e ({ frames := 7, cells := 0, slots := 0, locals := 190 } : Room) s m #[(.ref a1), (.int p2), (.double y3)] below meth c s₁ [] 0 0 := Stand.of_body Bd
  have e0 : s₁.heap = h0 := by rw [← hh, Bd.state]; rfl
  have N0 := Fr.nil n0
  have pre0 : ∀ t, Steps p.tables e below (s₁.setTop (mkF m 0 #[.val (.ref a1), .val (.int p2), .val (.double y3), .second, .unset, .unset, .unset] [])) t → Steps p.tables e below (s₁.setTop (entryFrame m #[(.ref a1), (.int p2), (.double y3)] 7)) t := fun t k => castTop (ef_8_3_3_1 m a1 p2 y3) k

  obtain ⟨T4, X4, e4, st4⟩ := getF X0 hx hZ hown (host := "") (Or.inl (ww hw 72 rfl)) Via.refl e0 F_t (g := (mkF m 1 #[.val (.ref a1), .val (.int p2), .val (.double y3), .second, .unset, .unset, .unset] [(.ref a1)])) rfl rfl (hb hby d8_1)
  obtain ⟨T5, X5, e5, st5⟩ := getF X4 hx hZ hown (host := "") (Or.inl (ww hw 31 rfl)) Via.refl e4 F_b (g := (mkF m 18 #[.val (.ref a1), .val (.int p2), .val (.double y3), .second, .unset, .unset, .unset] [(.ref a1)])) rfl rfl (hb hby d8_18)
  obtain ⟨T6, X6, e6, st6⟩ := own_getR X5 hx hZ hown (ww hw 61 rfl) e5 F_z (g := (mkF m 21 #[.val (.ref a1), .val (.int p2), .val (.double y3), .second, .unset, .unset, .unset] [(.ref hp)])) rfl rfl (hb hby d8_21)
  obtain ⟨T7, X7, e7, st7⟩ := getF X6 hx hZ hown (host := "") (Or.inl (ww hw 16 rfl)) Via.refl e6 F_c (g := (mkF m 25 #[.val (.ref a1), .val (.int p2), .val (.double y3), .second, .unset, .unset, .unset] [(.ref a1), (.int (3 : Int32))])) rfl rfl (hb hby d8_25)
  obtain ⟨T8, X8, e8, st8⟩ := getF X7 hx hZ hown (host := "") (Or.inl (ww hw 16 rfl)) Via.refl e7 F_c (g := (mkF m 63 #[.val (.ref a1), .val (.int p2), .val (.double y3), .second, .unset, .unset, .unset] [(.ref a1)])) rfl rfl (hb hby d8_63)
  obtain ⟨T9, X9, e9, st9⟩ := getF X8 hx hZ hown (host := "") (Or.inl (ww hw 31 rfl)) Via.refl e8 F_b (g := (mkF m 71 #[.val (.ref a1), .val (.int p2), .val (.double y3), .second, .unset, .unset, .unset] [(.ref a1), (.double y3)])) rfl rfl (hb hby d8_71)
  obtain ⟨cq10, kq10, q10a, q10b, q10c⟩ := isOf hZ e9 E_hp
  obtain ⟨_, _, ⟨T10, L10, k10, n10⟩, -, X10, ⟨Lc10, hQ10, l10, y10, z10⟩, st10⟩ := X9.virtualBack hx (y := (⟨sH, "worstScore", "()D"⟩ : MethodName)) (z := (⟨sH, "worstScore", "()D"⟩ : MethodName)) hown (mvT hZ (ww hw 100 rfl)) (mvT hZ (ww hw 101 rfl)) (notFace_of_selects (args := #[]) (mvT hZ (ww hw 103 rfl))) (mvT hZ (ww hw 103 rfl)) (mvT hZ (ww hw 102 rfl)) (by decide) (backOf (W := 2) (rm15 l Z a0 hw [] hp sa _ S0 h0 n0 Z0 F_s V_sa (by decide)) hZ (ww hw 104 rfl) (ww hw 20 rfl) (by decide) (by decide)) q10a q10c (g := (mkF m 74 #[.val (.ref a1), .val (.int p2), .val (.double y3), .second, .unset, .unset, .unset] [(.ref hp), (.double y3)])) rfl (by rw [hml]; rfl) (Steps.refl _) (argsL := []) (rest := [(.double y3)]) (lenOf pd_8_12 rfl) rfl (by show 2 * 0 + _ ≤ _; exact Nat.le_of_eq rfl) (hb hby d8_74) (fun _ _ => ⟨rfl, e9, (by decide : 0 + 0 ≤ _), (by decide : 0 + 0 ≤ _)⟩)
  dsimp only [Pt.U, Pt.locs, Pt.cells, Pt.slots] at X10 l10 y10 z10 st10 hQ10
  subst l10 y10 z10
  obtain ⟨rfl, nw10, N10q, eh10⟩ := hQ10
  have N10 := Fr.app N0 N10q
  obtain ⟨_, _, ⟨T11, L11, k11, n11⟩, -, X11, ⟨Lc11, hQ11, l11, y11, z11⟩, st11⟩ := Jvm.LawKit.callS X10 hx (y := (⟨"java/lang/Double", "compare", "(DD)I"⟩ : MethodName)) hown (mvT hZ (ww hw 105 rfl)) (mvT hZ (ww hw 93 rfl)) (mvT hZ (ww hw 94 rfl)) (mvT hZ (ww hw 95 rfl)) (by decide) (backOf (W := 0) (rm13 l Z a0 hw [] y3 (S0 ((0 : Int32)).toNatClampNeg)  h0 n0 Z0 nn_y3 nw0) hZ (ww hw 95 rfl) (ww hw 94 rfl) (by decide) (by decide)) (g := (mkF m 77 #[.val (.ref a1), .val (.int p2), .val (.double y3), .second, .unset, .unset, .unset] [(.double (S0 ((0 : Int32)).toNatClampNeg)), (.double y3)])) rfl (by rw [hml]; rfl) (argsL := [(.double y3), (.double (S0 ((0 : Int32)).toNatClampNeg))]) (rest := []) (lenOf pd_8_10 rfl) rfl (by show 2 * 0 + _ ≤ _; exact Nat.le_of_eq rfl) (hb hby d8_77) (fun _ _ => ⟨rfl, eh10, (by decide : 0 + 0 ≤ _), (by decide : 0 + 0 ≤ _)⟩)
  dsimp only [Pt.U, Pt.locs, Pt.cells, Pt.slots] at X11 l11 y11 z11 st11 hQ11
  subst l11 y11 z11
  obtain ⟨rfl, N11q, eh11⟩ := hQ11
  have N11 := Fr.app N10 N11q
  obtain ⟨T12, X12, e12, st12⟩ := getF X11 hx hZ hown (host := "") (Or.inl (ww hw 31 rfl)) Via.refl eh11 F_b (g := (mkF m 84 #[.val (.ref a1), .val (.int p2), .val (.double y3), .second, .unset, .unset, .unset] [(.ref a1)])) rfl rfl (hb hby d8_84)
  obtain ⟨cq13, kq13, q13a, q13b, q13c⟩ := isOf hZ e12 E_hp
  obtain ⟨_, _, ⟨T13, L13, k13, n13⟩, -, X13, ⟨Lc13, hQ13, l13, y13, z13⟩, st13⟩ := X12.virtualBack hx (y := (⟨sH, "worstDocument", "()I"⟩ : MethodName)) (z := (⟨sH, "worstDocument", "()I"⟩ : MethodName)) hown (mvT hZ (ww hw 111 rfl)) (mvT hZ (ww hw 112 rfl)) (notFace_of_selects (args := #[]) (mvT hZ (ww hw 114 rfl))) (mvT hZ (ww hw 114 rfl)) (mvT hZ (ww hw 113 rfl)) (by decide) (backOf (W := 0) (rm17 l Z a0 hw [] hp da _ D h0 n0 Z0 F_d V_da (by decide)) hZ (ww hw 115 rfl) (ww hw 20 rfl) (by decide) (by decide)) q13a q13c (g := (mkF m 87 #[.val (.ref a1), .val (.int p2), .val (.double y3), .second, .unset, .unset, .unset] [(.ref hp)])) rfl (by rw [hml]; rfl) (Steps.refl _) (argsL := []) (rest := []) (lenOf pd_8_14 rfl) rfl (by show 2 * 0 + _ ≤ _; exact Nat.le_of_eq rfl) (hb hby d8_87) (fun _ _ => ⟨rfl, e12, (by decide : 0 + 0 ≤ _), (by decide : 0 + 0 ≤ _)⟩)
  dsimp only [Pt.U, Pt.locs, Pt.cells, Pt.slots] at X13 l13 y13 z13 st13 hQ13
  subst l13 y13 z13
  obtain ⟨rfl, N13q, eh13⟩ := hQ13
  have N13 := Fr.app N11 N13q
  obtain ⟨T14, X14, e14, st14⟩ := getF X13 hx hZ hown (host := "") (Or.inl (ww hw 31 rfl)) Via.refl eh13 F_b (g := (mkF m 93 #[.val (.ref a1), .val (.int p2), .val (.double y3), .second, .val (.int (D ((0 : Int32)).toNatClampNeg)), .unset, .unset] [(.ref a1)])) rfl rfl (hb hby d8_93)
  obtain ⟨cq15, kq15, q15a, q15b, q15c⟩ := isOf hZ e14 E_hp
  obtain ⟨_, _, ⟨T15, L15, k15, n15⟩, -, X15, ⟨Lc15, hQ15, l15, y15, z15⟩, st15⟩ := X14.virtualBack hx (y := (⟨sH, "worstScore", "()D"⟩ : MethodName)) (z := (⟨sH, "worstScore", "()D"⟩ : MethodName)) hown (mvT hZ (ww hw 100 rfl)) (mvT hZ (ww hw 101 rfl)) (notFace_of_selects (args := #[]) (mvT hZ (ww hw 103 rfl))) (mvT hZ (ww hw 103 rfl)) (mvT hZ (ww hw 102 rfl)) (by decide) (backOf (W := 0) (rm15 l Z a0 hw [] hp sa _ S0 h0 n0 Z0 F_s V_sa (by decide)) hZ (ww hw 104 rfl) (ww hw 20 rfl) (by decide) (by decide)) q15a q15c (g := (mkF m 96 #[.val (.ref a1), .val (.int p2), .val (.double y3), .second, .val (.int (D ((0 : Int32)).toNatClampNeg)), .unset, .unset] [(.ref hp)])) rfl (by rw [hml]; rfl) (Steps.refl _) (argsL := []) (rest := []) (lenOf pd_8_12 rfl) rfl (by show 2 * 0 + _ ≤ _; exact Nat.le_of_eq rfl) (hb hby d8_96) (fun _ _ => ⟨rfl, e14, (by decide : 0 + 0 ≤ _), (by decide : 0 + 0 ≤ _)⟩)
  dsimp only [Pt.U, Pt.locs, Pt.cells, Pt.slots] at X15 l15 y15 z15 st15 hQ15
  subst l15 y15 z15
  obtain ⟨rfl, nw15, N15q, eh15⟩ := hQ15
  have N15 := Fr.app N13 N15q
  obtain ⟨T16, X16, e16, st16⟩ := getF X15 hx hZ hown (host := "") (Or.inl (ww hw 31 rfl)) Via.refl eh15 F_b (g := (mkF m 102 #[.val (.ref a1), .val (.int p2), .val (.double y3), .second, .val (.int (D ((0 : Int32)).toNatClampNeg)), .val (.double (S0 ((0 : Int32)).toNatClampNeg)), .second] [(.ref a1)])) rfl rfl (hb hby d8_102)
  obtain ⟨cq17, kq17, q17a, q17b, q17c⟩ := isOf hZ e16 E_hp
  obtain ⟨_, _, ⟨T17, L17, k17, n17⟩, -, X17, ⟨Lc17, hQ17, l17, y17, z17⟩, st17⟩ := X16.virtualBack hx (y := (⟨sH, "replaceWorst", "(ID)V"⟩ : MethodName)) (z := (⟨sH, "replaceWorst", "(ID)V"⟩ : MethodName)) hown (mvT hZ (ww hw 116 rfl)) (mvT hZ (ww hw 117 rfl)) (notFace_of_selects (args := #[]) (mvT hZ (ww hw 119 rfl))) (mvT hZ (ww hw 119 rfl)) (mvT hZ (ww hw 118 rfl)) (by decide) (backOf (W := 0) (rm18_3 l Z a0 hw [] hp p2 y3 da sa _ _ h0 n0 Z0 E_hp F_d F_s V_da V_sa nds nhd nhs g_da g_sa F_z nn_y3) hZ (ww hw 120 rfl) (ww hw 20 rfl) (by decide) (by decide)) q17a q17c (g := (mkF m 107 #[.val (.ref a1), .val (.int p2), .val (.double y3), .second, .val (.int (D ((0 : Int32)).toNatClampNeg)), .val (.double (S0 ((0 : Int32)).toNatClampNeg)), .second] [(.double y3), (.int p2), (.ref hp)])) rfl (by rw [hml]; rfl) (Steps.refl _) (argsL := [(.int p2), (.double y3)]) (rest := []) (lenOf pd_8_6 rfl) rfl (by show 2 * 0 + _ ≤ _; exact Nat.le_of_eq rfl) (hb hby d8_107) (fun _ _ => ⟨rfl, e16, (by decide : 0 + 0 ≤ _), (by decide : 0 + 0 ≤ _)⟩)
  dsimp only [Pt.U, Pt.locs, Pt.cells, Pt.slots] at X17 l17 y17 z17 st17 hQ17
  subst l17 y17 z17
  obtain ⟨rfl, N17q, Kc17, ⟨D17, Vd17⟩, ⟨S17, Vs17⟩⟩ := hQ17
  have N17 := Fr.app N15 N17q
  have K17 : Keep h0 T17.heap [da, sa] := (Keep.refl h0 [da, sa]).trans Kc17 (allS (Or.inl (List.mem_of_getElem? (i := 0) rfl)) (allS (Or.inl (List.mem_of_getElem? (i := 1) rfl)) all0))
  obtain ⟨T18, X18, e18, st18⟩ := getF X17 hx hZ hown (host := "") (Or.inl (ww hw 33 rfl)) Via.refl rfl (F_a.keep Kc17 (ninS nbd (ninS nbs nin0))) (g := (mkF m 111 #[.val (.ref a1), .val (.int p2), .val (.double y3), .second, .val (.int (D ((0 : Int32)).toNatClampNeg)), .val (.double (S0 ((0 : Int32)).toNatClampNeg)), .second] [(.ref a1)])) rfl rfl (hb hby d8_111)
  obtain ⟨fs, hr, hrun, hended, hW, hsame⟩ := X18.leave (v := none) (fun _ => rfl)
  refine ⟨_, _, pre0 _ ?_, hrun, hended, _, _, rfl, ?_, ⟨_, rfl⟩, hW, hsame.mono (by decide) (by decide)⟩
  · show Steps _ _ _ (s₁.setTop (mkF m 0 #[.val (.ref a1), .val (.int p2), .val (.double y3), .second, .unset, .unset, .unset] [])) _
    refine XS.aloadN X0.here hx rfl (hb hby d8_0) rfl rfl ?_
    refine st4 _ ?_
    refine XS.ifYes X4.here hx rfl (pc0 := 4) (pc' := 17) rfl (hb hby d8_4) rfl ((if0 _ _).trans (teq (by decide : (0 : Int32) = (0 : Int32))).1) (by decide) (by decide) ?_
    refine XS.aloadN X4.here hx rfl (hb hby d8_17) rfl rfl ?_
    refine st5 _ ?_
    refine st6 _ ?_
    refine XS.aloadN X6.here hx rfl (hb hby d8_24) rfl rfl ?_
    refine st7 _ ?_
    refine XS.icmpYes X7.here hx rfl (pc0 := 28) (pc' := 62) rfl (hb hby d8_28) rfl (flt (by decide : ¬ ((3 : Int32) < (3 : Int32)))).2.1 (by decide) (by decide) ?_
    refine XS.aloadN X7.here hx rfl (hb hby d8_62) rfl rfl ?_
    refine st8 _ ?_
    refine XS.ifNo X8.here hx rfl (hb hby d8_66) rfl ((if0 _ _).trans (tlt (by decide : (0 : Int32) < (3 : Int32))).2.2.2) ?_
    refine XS.dloadN X8.here hx rfl (hb hby d8_69) rfl ?_
    refine XS.aloadN X8.here hx rfl (hb hby d8_70) rfl rfl ?_
    refine st9 _ ?_
    refine st10.trans ?_
    refine st11 _ ?_
    refine XS.ifNo X11.here hx rfl (hb hby d8_80) rfl ((if0 _ _).trans (tlt hc80).2.2.2) ?_
    refine XS.aloadN X11.here hx rfl (hb hby d8_83) rfl rfl ?_
    refine st12 _ ?_
    refine st13.trans ?_
    refine XS.istore X13.here hx rfl (hb hby d8_90) rfl (l' := #[.val (.ref a1), .val (.int p2), .val (.double y3), .second, .val (.int (D ((0 : Int32)).toNatClampNeg)), .unset, .unset]) rfl ?_
    refine XS.aloadN X13.here hx rfl (hb hby d8_92) rfl rfl ?_
    refine st14 _ ?_
    refine st15.trans ?_
    refine XS.dstore X15.here hx rfl (hb hby d8_99) rfl (l' := #[.val (.ref a1), .val (.int p2), .val (.double y3), .second, .val (.int (D ((0 : Int32)).toNatClampNeg)), .val (.double (S0 ((0 : Int32)).toNatClampNeg)), .second]) rfl ?_
    refine XS.aloadN X15.here hx rfl (hb hby d8_101) rfl rfl ?_
    refine st16 _ ?_
    refine XS.iloadN X16.here hx rfl (hb hby d8_105) rfl ?_
    refine XS.dloadN X16.here hx rfl (hb hby d8_106) rfl ?_
    refine st17.trans ?_
    refine XS.aloadN X17.here hx rfl (hb hby d8_110) rfl rfl ?_
    refine st18 _ ?_
    refine XS.ifnullYes X18.here hx rfl (pc0 := 114) (pc' := 135) rfl (hb hby d8_114) rfl (by decide) (by decide) ?_
    refine XS.goto X18.here hx rfl (pc0 := 135) (pc' := 162) rfl (hb hby d8_135) (by decide) (by decide) ?_
    exact X18.returnOut hx Bd.returns (hb hby d8_162) hr
  · show Q8_3_3_1 Z a1 p2 y3 hp da sa D S0 h0 n0 _ T18.heap _
    rw [e18]
    exact ⟨rfl, N17, own_kw K17 (by simp), (F_d.keep Kc17 (ninS nhd (ninS nhs nin0))), (F_s.keep Kc17 (ninS nhd (ninS nhs nin0))), (F_z.keep Kc17 (ninS nhd (ninS nhs nin0))), ⟨_, Vd17⟩, ⟨_, Vs17⟩⟩
def Q8_3_3 (Z : State) (a1 : Addr) (p2 : Int32) (y3 : UInt64) (hp : Addr) (da : Addr) (sa : Addr) (D : Nat → Int32) (S0 : Nat → UInt64) (h0 : Heap) (n0 : Nat) (v : Option Value) (h : Heap) (L : List Loc) : Prop := v = none ∧ Fr n0 L ∧ Keep h0 h [hp, da, sa] ∧ Fld Z h hp sH "documents" "[I" (.ref da) ∧ Fld Z h hp sH "scores" "[D" (.ref sa) ∧ Fld Z h hp sH "size" "I" (.int (3 : Int32)) ∧ (∃ D', own_AI Z h da (3 : Int32) D') ∧ (∃ S', own_AD Z h sa (3 : Int32) S')
theorem rm8_3_3 (l : Launch) (Z : State) (a0 : Array Value) (hw : ∀ d ∈ tables_1, d.before a0 Z = true) (ws : List Jvm.Cond) (a1 : Addr) (p2 : Int32) (y3 : UInt64) (hp : Addr) (da : Addr) (sa : Addr) (D : Nat → Int32) (S0 : Nat → UInt64) (h0 : Heap) (n0 : Nat) (Z0 : n0 ≤ h0.size) (E_a1 : Exa Z h0 a1 sB) (F_c : Fld Z h0 a1 sB "capacity" "I" (.int (3 : Int32))) (F_b : Fld Z h0 a1 sB "best" "Lcom/example/calpurnia/calpurnia/ranking/BestDocuments$Heap;" (.ref hp)) (F_a : Fld Z h0 a1 sB "asRead" "Ljava/util/function/DoubleUnaryOperator;" .null) (F_t : Fld Z h0 a1 sB "sorted" "Z" (.int (0 : Int32))) (E_hp : Exa Z h0 hp sH) (F_d : Fld Z h0 hp sH "documents" "[I" (.ref da)) (F_s : Fld Z h0 hp sH "scores" "[D" (.ref sa)) (F_z : Fld Z h0 hp sH "size" "I" (.int (3 : Int32))) (V_da : own_AI Z h0 da (3 : Int32) D) (V_sa : own_AD Z h0 sa (3 : Int32) S0) (nbh : a1 ≠ hp) (nbd : a1 ≠ da) (nbs : a1 ≠ sa) (nhd : hp ≠ da) (nhs : hp ≠ sa) (nds : da ≠ sa) (g_hp : n0 ≤ hp) (g_da : n0 ≤ da) (g_sa : n0 ≤ sa) (nn_y3 : Jvm.Free.Fl.NoNaN64 y3) (nw0 : Jvm.Free.Fl.NoNaN64 (S0 ((0 : Int32)).toNatClampNeg)) :
    MetFree l (⟨sB, "offer", "(ID)V"⟩ : MethodName) (head1 (Jvm.Cond.code (⟨sB, "offer", "(ID)V"⟩ : MethodName) prog_186_method_6_code 7 none :: ws) ({ frames := 7, cells := 0, slots := 0, locals := 190 } : Room)) (fun a U => a = #[(.ref a1), (.int p2), (.double y3)] ∧ Z.Warmed39 U.vm ∧ U.heap = h0) (fun _ _ _ _ _ => True) (fun _ U o U' => ∃ v L, o = .returned v ∧ Q8_3_3 Z a1 p2 y3 hp da sa D S0 h0 n0 v U'.heap L ∧ FrameEnd U o U' L ({ frames := 7, cells := 0, slots := 0, locals := 190 } : Room).cells ({ frames := 7, cells := 0, slots := 0, locals := 190 } : Room).slots) := by
  by_cases c : (0 : Int32) < (own_cmp y3 (S0 ((0 : Int32)).toNatClampNeg))
  · exact rm8_3_3_1 l Z a0 hw ws a1 p2 y3 hp da sa D S0 h0 n0 Z0 E_a1 F_c F_b F_a F_t E_hp F_d F_s F_z V_da V_sa nbh nbd nbs nhd nhs nds g_hp g_da g_sa nn_y3 nw0 c
  · exact rm8_3_3_0 l Z a0 hw ws a1 p2 y3 hp da sa D S0 h0 n0 Z0 E_a1 F_c F_b F_a F_t E_hp F_d F_s F_z V_da V_sa nbh nbd nbs nhd nhs nds g_hp g_da g_sa nn_y3 nw0 c
theorem d5_0 : decode prog_189_method_1_code 0 = .ok (.aload_n 0, 1) := by decide +kernel
theorem d5_1 : decode prog_189_method_1_code 1 = .ok (.invokespecial 1, 3) := by decide +kernel
theorem d5_4 : decode prog_189_method_1_code 4 = .ok (.aload_n 0, 1) := by decide +kernel
theorem d5_5 : decode prog_189_method_1_code 5 = .ok (.iconst 0, 1) := by decide +kernel
theorem d5_6 : decode prog_189_method_1_code 6 = .ok (.newarray .int, 2) := by decide +kernel
theorem d5_8 : decode prog_189_method_1_code 8 = .ok (.putfield 7, 3) := by decide +kernel
theorem d5_11 : decode prog_189_method_1_code 11 = .ok (.aload_n 0, 1) := by decide +kernel
theorem d5_12 : decode prog_189_method_1_code 12 = .ok (.iconst 0, 1) := by decide +kernel
theorem d5_13 : decode prog_189_method_1_code 13 = .ok (.newarray .double, 2) := by decide +kernel
theorem d5_15 : decode prog_189_method_1_code 15 = .ok (.putfield 13, 3) := by decide +kernel
theorem d5_18 : decode prog_189_method_1_code 18 = .ok (.aload_n 0, 1) := by decide +kernel
theorem d5_19 : decode prog_189_method_1_code 19 = .ok (.iconst 0, 1) := by decide +kernel
theorem d5_20 : decode prog_189_method_1_code 20 = .ok (.newarray .int, 2) := by decide +kernel
theorem d5_22 : decode prog_189_method_1_code 22 = .ok (.putfield 17, 3) := by decide +kernel
theorem d5_25 : decode prog_189_method_1_code 25 = .ok (.aload_n 0, 1) := by decide +kernel
theorem d5_26 : decode prog_189_method_1_code 26 = .ok (.iconst 0, 1) := by decide +kernel
theorem d5_27 : decode prog_189_method_1_code 27 = .ok (.newarray .double, 2) := by decide +kernel
theorem d5_29 : decode prog_189_method_1_code 29 = .ok (.putfield 20, 3) := by decide +kernel
theorem d5_32 : decode prog_189_method_1_code 32 = .ok (.aload_n 0, 1) := by decide +kernel
theorem d5_33 : decode prog_189_method_1_code 33 = .ok (.iload_n 1, 1) := by decide +kernel
theorem d5_34 : decode prog_189_method_1_code 34 = .ok (.putfield 23, 3) := by decide +kernel
theorem d5_37 : decode prog_189_method_1_code 37 = .ok (.aload_n 0, 1) := by decide +kernel
theorem d5_38 : decode prog_189_method_1_code 38 = .ok (.aload_n 2, 1) := by decide +kernel
theorem d5_39 : decode prog_189_method_1_code 39 = .ok (.putfield 27, 3) := by decide +kernel
theorem d5_42 : decode prog_189_method_1_code 42 = .ok (.return_, 1) := by decide +kernel
theorem pn_5 : plainName sT = true := by first | (simp [plainName, overriddenIn]; done) | decide +kernel
theorem ef_5 (m : MethodId) (x0 : Addr) (x1 : Int32) : entryFrame m #[(.ref x0), (.int x1), .null] 3 = mkF m 0 #[.val (.ref x0), .val (.int x1), .val .null] [] := by first | (simp [entryFrame, mkF, argsToLocals, Value.category]; done) | rfl
def Q5 (Z : State) (a1 : Addr) (p2 : Int32) (u_documents_a1 : Value) (u_scores_a1 : Value) (u_merged_a1 : Value) (u_mergedScores_a1 : Value) (u_capacity_a1 : Value) (u_order_a1 : Value) (h0 : Heap) (n0 : Nat) (v : Option Value) (h : Heap) (L : List Loc) : Prop := v = none ∧ Fr n0 L ∧ Keep h0 h [a1]
set_option maxRecDepth 65536 in
set_option maxHeartbeats 40000000 in
theorem rm5 (l : Launch) (Z : State) (a0 : Array Value) (hw : ∀ d ∈ tables_1, d.before a0 Z = true) (ws : List Jvm.Cond) (a1 : Addr) (p2 : Int32) (u_documents_a1 : Value) (u_scores_a1 : Value) (u_merged_a1 : Value) (u_mergedScores_a1 : Value) (u_capacity_a1 : Value) (u_order_a1 : Value) (h0 : Heap) (n0 : Nat) (Z0 : n0 ≤ h0.size) (E_a1 : Exa Z h0 a1 sT) (F_documents_a1 : Fld Z h0 a1 sT "documents" "[I" u_documents_a1) (g_a1 : n0 ≤ a1) (F_scores_a1 : Fld Z h0 a1 sT "scores" "[D" u_scores_a1) (F_merged_a1 : Fld Z h0 a1 sT "merged" "[I" u_merged_a1) (F_mergedScores_a1 : Fld Z h0 a1 sT "mergedScores" "[D" u_mergedScores_a1) (F_capacity_a1 : Fld Z h0 a1 sT "capacity" "I" u_capacity_a1) (F_order_a1 : Fld Z h0 a1 sT "order" "Lcom/example/calpurnia/calpurnia/ranking/BestDocuments$DocumentOrder;" u_order_a1) :
    MetFree l (⟨sT, "<init>", "(ILcom/example/calpurnia/calpurnia/ranking/BestDocuments$DocumentOrder;)V"⟩ : MethodName) (head1 (Jvm.Cond.code (⟨sT, "<init>", "(ILcom/example/calpurnia/calpurnia/ranking/BestDocuments$DocumentOrder;)V"⟩ : MethodName) prog_189_method_1_code 3 none :: ws) ({ frames := 1, cells := 4, slots := 0, locals := 12 } : Room)) (fun a U => a = #[(.ref a1), (.int p2), .null] ∧ Z.Warmed39 U.vm ∧ U.heap = h0) (fun _ _ _ _ _ => True) (fun _ U o U' => ∃ v L, o = .returned v ∧ Q5 Z a1 p2 u_documents_a1 u_scores_a1 u_merged_a1 u_mergedScores_a1 u_capacity_a1 u_order_a1 h0 n0 v U'.heap L ∧ FrameEnd U o U' L ({ frames := 1, cells := 4, slots := 0, locals := 12 } : Room).cells ({ frames := 1, cells := 4, slots := 0, locals := 12 } : Room).slots) := by
  refine MetFree.of_bodySF (plainFor_of_name pn_5) hisR ?_
  intro p e s m args below meth c s₁ Bd hml0 hP hK
  obtain ⟨rfl, hZ, hh⟩ := hP
  have hx := Bd.exec
  have hby := Bd.bytes
  have hml : c.maxLocals = 3 := hml0
  have hown : s.vm.findClass sT = some m.cls := findClass_of_methodNamed Bd.named
  have hnm := (name_of_methodNamed Bd.named Bd.method).1
  have X0 : Stand p l e ({ frames := 1, cells := 4, slots := 0, locals := 12 } : Room) s m #[(.ref a1), (.int p2), .null] below meth c s₁ [] 0 0 := Stand.of_body Bd
  have e0 : s₁.heap = h0 := by rw [← hh, Bd.state]; rfl
  have N0 := Fr.nil n0
  have pre0 : ∀ t, Steps p.tables e below (s₁.setTop (mkF m 0 #[.val (.ref a1), .val (.int p2), .val .null] [])) t → Steps p.tables e below (s₁.setTop (entryFrame m #[(.ref a1), (.int p2), .null] 3)) t := fun t k => castTop (ef_5 m a1 p2) k

  obtain ⟨T3, X3, e3, st3⟩ := initO X0 hx hZ hown (ww hw 41 rfl) (ww hw 11 rfl) (ww hw 12 rfl) e0 (g := (mkF m 1 #[.val (.ref a1), .val (.int p2), .val .null] [(.ref a1)])) rfl (by rw [hml]; rfl) rfl (hb hby d5_1) (by decide) (W := 0) (by show 2 * 0 + _ ≤ _; exact Nat.le_of_eq rfl) (by decide)
  obtain ⟨T4, h4, k4, X4, e4, E4, A4, Ex4, st4⟩ := newPE X3 hx hZ (ww hw 25 rfl) e3 (g := (mkF m 6 #[.val (.ref a1), .val (.int p2), .val .null] [(.int (0 : Int32)), (.ref a1)])) rfl (hb hby d5_6) rfl (by decide) (cap := 0) (by decide) (by decide) (by decide) (by decide) (ad := "[I") rfl
  obtain ⟨b4, g4⟩ : ∃ z, z = h0.size := ⟨_, rfl⟩
  rw [← g4] at A4 Ex4 st4
  have V_b4 := own_AI.of (Arv.new A4 (by decide))
  have E_b4 := Ex4
  have g_b4 : n0 ≤ b4 := Nat.le_trans Z0 (Nat.le_of_eq g4.symm)
  have sz_b4 : h0.size ≤ b4 := (Nat.le_trans (Keep.refl h0 [a1]).1 (Nat.le_of_eq g4.symm))
  have K4 : Keep h0 h4 [a1] := (Keep.refl h0 [a1]).ext E4
  obtain ⟨T5, h5, X5, e5, W5, st5⟩ := putF X4 hx hZ hown (host := "") (Or.inl (ww hw 42 rfl)) Via.refl e4 (F_documents_a1.ext E4) (E_a1.ext E4) (Or.inl (ww hw 43 rfl)) (ww hw 36 rfl) (ty := (.array .int)) (by decide) rfl rfl (g := (mkF m 8 #[.val (.ref a1), .val (.int p2), .val .null] [(.ref b4), (.ref a1)])) rfl rfl (hb hby d5_8)
  have Fw5 := (F_documents_a1.ext E4).same W5
  have K5 : Keep h0 h5 [a1] := K4.wr W5 (Or.inl (List.mem_of_getElem? (i := 0) rfl))
  have N5 := Fr.snoc X5 N0 g_a1
  obtain ⟨T6, h6, k6, X6, e6, E6, A6, Ex6, st6⟩ := newPE X5 hx hZ (ww hw 28 rfl) e5 (g := (mkF m 13 #[.val (.ref a1), .val (.int p2), .val .null] [(.int (0 : Int32)), (.ref a1)])) rfl (hb hby d5_13) rfl (by decide) (cap := 0) (by decide) (by decide) (by decide) (by decide) (ad := "[D") rfl
  obtain ⟨b6, g6⟩ : ∃ z, z = h5.size := ⟨_, rfl⟩
  rw [← g6] at A6 Ex6 st6
  have V_b6 := own_AD.of (Arv.newD A6 (by decide)) (nn_w (a := 0) rfl)
  have E_b6 := Ex6
  have g_b6 : n0 ≤ b6 := Nat.le_trans (Nat.le_trans (Nat.le_trans Z0 E4.1) (Keep.of_wr W5).1) (Nat.le_of_eq g6.symm)
  have sz_b6 : h0.size ≤ b6 := (Nat.le_trans K5.1 (Nat.le_of_eq g6.symm))
  have K6 : Keep h0 h6 [a1] := K5.ext E6
  obtain ⟨T7, h7, X7, e7, W7, st7⟩ := putF X6 hx hZ hown (host := "") (Or.inl (ww hw 44 rfl)) Via.refl e6 (((F_scores_a1.ext E4).other W5 (Or.inr (slot_ne (Or.inl (ww hw 45 rfl)) (Or.inl (ww hw 43 rfl)) (by decide) (t := (.array .double)) (t' := (.array .int)) (by decide) (by decide)))).ext E6) (((E_a1.ext E4).wr W5).ext E6) (Or.inl (ww hw 45 rfl)) (ww hw 36 rfl) (ty := (.array .double)) (by decide) rfl rfl (g := (mkF m 15 #[.val (.ref a1), .val (.int p2), .val .null] [(.ref b6), (.ref a1)])) rfl rfl (hb hby d5_15)
  have Fw7 := (((F_scores_a1.ext E4).other W5 (Or.inr (slot_ne (Or.inl (ww hw 45 rfl)) (Or.inl (ww hw 43 rfl)) (by decide) (t := (.array .double)) (t' := (.array .int)) (by decide) (by decide)))).ext E6).same W7
  have K7 : Keep h0 h7 [a1] := K6.wr W7 (Or.inl (List.mem_of_getElem? (i := 0) rfl))
  have N7 := Fr.snoc X7 N5 g_a1
  obtain ⟨T8, h8, k8, X8, e8, E8, A8, Ex8, st8⟩ := newPE X7 hx hZ (ww hw 25 rfl) e7 (g := (mkF m 20 #[.val (.ref a1), .val (.int p2), .val .null] [(.int (0 : Int32)), (.ref a1)])) rfl (hb hby d5_20) rfl (by decide) (cap := 0) (by decide) (by decide) (by decide) (by decide) (ad := "[I") rfl
  obtain ⟨b8, g8⟩ : ∃ z, z = h7.size := ⟨_, rfl⟩
  rw [← g8] at A8 Ex8 st8
  have V_b8 := own_AI.of (Arv.new A8 (by decide))
  have E_b8 := Ex8
  have g_b8 : n0 ≤ b8 := Nat.le_trans (Nat.le_trans (Nat.le_trans (Nat.le_trans (Nat.le_trans Z0 E4.1) (Keep.of_wr W5).1) E6.1) (Keep.of_wr W7).1) (Nat.le_of_eq g8.symm)
  have sz_b8 : h0.size ≤ b8 := (Nat.le_trans K7.1 (Nat.le_of_eq g8.symm))
  have K8 : Keep h0 h8 [a1] := K7.ext E8
  obtain ⟨T9, h9, X9, e9, W9, st9⟩ := putF X8 hx hZ hown (host := "") (Or.inl (ww hw 46 rfl)) Via.refl e8 (((((F_merged_a1.ext E4).other W5 (Or.inr (slot_ne (Or.inl (ww hw 47 rfl)) (Or.inl (ww hw 43 rfl)) (by decide) (t := (.array .int)) (t' := (.array .int)) (by decide) (by decide)))).ext E6).other W7 (Or.inr (slot_ne (Or.inl (ww hw 47 rfl)) (Or.inl (ww hw 45 rfl)) (by decide) (t := (.array .int)) (t' := (.array .double)) (by decide) (by decide)))).ext E8) (((((E_a1.ext E4).wr W5).ext E6).wr W7).ext E8) (Or.inl (ww hw 47 rfl)) (ww hw 36 rfl) (ty := (.array .int)) (by decide) rfl rfl (g := (mkF m 22 #[.val (.ref a1), .val (.int p2), .val .null] [(.ref b8), (.ref a1)])) rfl rfl (hb hby d5_22)
  have Fw9 := (((((F_merged_a1.ext E4).other W5 (Or.inr (slot_ne (Or.inl (ww hw 47 rfl)) (Or.inl (ww hw 43 rfl)) (by decide) (t := (.array .int)) (t' := (.array .int)) (by decide) (by decide)))).ext E6).other W7 (Or.inr (slot_ne (Or.inl (ww hw 47 rfl)) (Or.inl (ww hw 45 rfl)) (by decide) (t := (.array .int)) (t' := (.array .double)) (by decide) (by decide)))).ext E8).same W9
  have K9 : Keep h0 h9 [a1] := K8.wr W9 (Or.inl (List.mem_of_getElem? (i := 0) rfl))
  have N9 := Fr.snoc X9 N7 g_a1
  obtain ⟨T10, h10, k10, X10, e10, E10, A10, Ex10, st10⟩ := newPE X9 hx hZ (ww hw 28 rfl) e9 (g := (mkF m 27 #[.val (.ref a1), .val (.int p2), .val .null] [(.int (0 : Int32)), (.ref a1)])) rfl (hb hby d5_27) rfl (by decide) (cap := 0) (by decide) (by decide) (by decide) (by decide) (ad := "[D") rfl
  obtain ⟨b10, g10⟩ : ∃ z, z = h9.size := ⟨_, rfl⟩
  rw [← g10] at A10 Ex10 st10
  have V_b10 := own_AD.of (Arv.newD A10 (by decide)) (nn_w (a := 0) rfl)
  have E_b10 := Ex10
  have g_b10 : n0 ≤ b10 := Nat.le_trans (Nat.le_trans (Nat.le_trans (Nat.le_trans (Nat.le_trans (Nat.le_trans (Nat.le_trans Z0 E4.1) (Keep.of_wr W5).1) E6.1) (Keep.of_wr W7).1) E8.1) (Keep.of_wr W9).1) (Nat.le_of_eq g10.symm)
  have sz_b10 : h0.size ≤ b10 := (Nat.le_trans K9.1 (Nat.le_of_eq g10.symm))
  have K10 : Keep h0 h10 [a1] := K9.ext E10
  obtain ⟨T11, h11, X11, e11, W11, st11⟩ := putF X10 hx hZ hown (host := "") (Or.inl (ww hw 48 rfl)) Via.refl e10 (((((((F_mergedScores_a1.ext E4).other W5 (Or.inr (slot_ne (Or.inl (ww hw 49 rfl)) (Or.inl (ww hw 43 rfl)) (by decide) (t := (.array .double)) (t' := (.array .int)) (by decide) (by decide)))).ext E6).other W7 (Or.inr (slot_ne (Or.inl (ww hw 49 rfl)) (Or.inl (ww hw 45 rfl)) (by decide) (t := (.array .double)) (t' := (.array .double)) (by decide) (by decide)))).ext E8).other W9 (Or.inr (slot_ne (Or.inl (ww hw 49 rfl)) (Or.inl (ww hw 47 rfl)) (by decide) (t := (.array .double)) (t' := (.array .int)) (by decide) (by decide)))).ext E10) (((((((E_a1.ext E4).wr W5).ext E6).wr W7).ext E8).wr W9).ext E10) (Or.inl (ww hw 49 rfl)) (ww hw 36 rfl) (ty := (.array .double)) (by decide) rfl rfl (g := (mkF m 29 #[.val (.ref a1), .val (.int p2), .val .null] [(.ref b10), (.ref a1)])) rfl rfl (hb hby d5_29)
  have Fw11 := (((((((F_mergedScores_a1.ext E4).other W5 (Or.inr (slot_ne (Or.inl (ww hw 49 rfl)) (Or.inl (ww hw 43 rfl)) (by decide) (t := (.array .double)) (t' := (.array .int)) (by decide) (by decide)))).ext E6).other W7 (Or.inr (slot_ne (Or.inl (ww hw 49 rfl)) (Or.inl (ww hw 45 rfl)) (by decide) (t := (.array .double)) (t' := (.array .double)) (by decide) (by decide)))).ext E8).other W9 (Or.inr (slot_ne (Or.inl (ww hw 49 rfl)) (Or.inl (ww hw 47 rfl)) (by decide) (t := (.array .double)) (t' := (.array .int)) (by decide) (by decide)))).ext E10).same W11
  have K11 : Keep h0 h11 [a1] := K10.wr W11 (Or.inl (List.mem_of_getElem? (i := 0) rfl))
  have N11 := Fr.snoc X11 N9 g_a1
  obtain ⟨T12, h12, X12, e12, W12, st12⟩ := putF X11 hx hZ hown (host := "") (Or.inl (ww hw 50 rfl)) Via.refl e11 ((((((((F_capacity_a1.ext E4).other W5 (Or.inr (slot_ne (Or.inr (ww hw 51 rfl)) (Or.inl (ww hw 43 rfl)) (by decide) (t := .int) (t' := (.array .int)) (by decide) (by decide)))).ext E6).other W7 (Or.inr (slot_ne (Or.inr (ww hw 51 rfl)) (Or.inl (ww hw 45 rfl)) (by decide) (t := .int) (t' := (.array .double)) (by decide) (by decide)))).ext E8).other W9 (Or.inr (slot_ne (Or.inr (ww hw 51 rfl)) (Or.inl (ww hw 47 rfl)) (by decide) (t := .int) (t' := (.array .int)) (by decide) (by decide)))).ext E10).other W11 (Or.inr (slot_ne (Or.inr (ww hw 51 rfl)) (Or.inl (ww hw 49 rfl)) (by decide) (t := .int) (t' := (.array .double)) (by decide) (by decide)))) ((((((((E_a1.ext E4).wr W5).ext E6).wr W7).ext E8).wr W9).ext E10).wr W11) (Or.inr ⟨(ww hw 51 rfl), rfl, hnm⟩) (ww hw 36 rfl) (ty := .int) (by decide) rfl rfl (g := (mkF m 34 #[.val (.ref a1), .val (.int p2), .val .null] [(.int p2), (.ref a1)])) rfl rfl (hb hby d5_34)
  have Fw12 := ((((((((F_capacity_a1.ext E4).other W5 (Or.inr (slot_ne (Or.inr (ww hw 51 rfl)) (Or.inl (ww hw 43 rfl)) (by decide) (t := .int) (t' := (.array .int)) (by decide) (by decide)))).ext E6).other W7 (Or.inr (slot_ne (Or.inr (ww hw 51 rfl)) (Or.inl (ww hw 45 rfl)) (by decide) (t := .int) (t' := (.array .double)) (by decide) (by decide)))).ext E8).other W9 (Or.inr (slot_ne (Or.inr (ww hw 51 rfl)) (Or.inl (ww hw 47 rfl)) (by decide) (t := .int) (t' := (.array .int)) (by decide) (by decide)))).ext E10).other W11 (Or.inr (slot_ne (Or.inr (ww hw 51 rfl)) (Or.inl (ww hw 49 rfl)) (by decide) (t := .int) (t' := (.array .double)) (by decide) (by decide)))).same W12
  have K12 : Keep h0 h12 [a1] := K11.wr W12 (Or.inl (List.mem_of_getElem? (i := 0) rfl))
  have N12 := Fr.snoc X12 N11 g_a1
  obtain ⟨T13, h13, X13, e13, W13, st13⟩ := putF X12 hx hZ hown (host := "") (Or.inl (ww hw 52 rfl)) Via.refl e12 (((((((((F_order_a1.ext E4).other W5 (Or.inr (slot_ne (Or.inr (ww hw 53 rfl)) (Or.inl (ww hw 43 rfl)) (by decide) (t := (.object "com/example/calpurnia/calpurnia/ranking/BestDocuments$DocumentOrder")) (t' := (.array .int)) (by decide) (by decide)))).ext E6).other W7 (Or.inr (slot_ne (Or.inr (ww hw 53 rfl)) (Or.inl (ww hw 45 rfl)) (by decide) (t := (.object "com/example/calpurnia/calpurnia/ranking/BestDocuments$DocumentOrder")) (t' := (.array .double)) (by decide) (by decide)))).ext E8).other W9 (Or.inr (slot_ne (Or.inr (ww hw 53 rfl)) (Or.inl (ww hw 47 rfl)) (by decide) (t := (.object "com/example/calpurnia/calpurnia/ranking/BestDocuments$DocumentOrder")) (t' := (.array .int)) (by decide) (by decide)))).ext E10).other W11 (Or.inr (slot_ne (Or.inr (ww hw 53 rfl)) (Or.inl (ww hw 49 rfl)) (by decide) (t := (.object "com/example/calpurnia/calpurnia/ranking/BestDocuments$DocumentOrder")) (t' := (.array .double)) (by decide) (by decide)))).other W12 (Or.inr (slot_ne (Or.inr (ww hw 53 rfl)) (Or.inr (ww hw 51 rfl)) (by decide) (t := (.object "com/example/calpurnia/calpurnia/ranking/BestDocuments$DocumentOrder")) (t' := .int) (by decide) (by decide)))) (((((((((E_a1.ext E4).wr W5).ext E6).wr W7).ext E8).wr W9).ext E10).wr W11).wr W12) (Or.inr ⟨(ww hw 53 rfl), rfl, hnm⟩) (ww hw 36 rfl) (ty := (.object "com/example/calpurnia/calpurnia/ranking/BestDocuments$DocumentOrder")) (by decide) rfl rfl (g := (mkF m 39 #[.val (.ref a1), .val (.int p2), .val .null] [.null, (.ref a1)])) rfl rfl (hb hby d5_39)
  have Fw13 := (((((((((F_order_a1.ext E4).other W5 (Or.inr (slot_ne (Or.inr (ww hw 53 rfl)) (Or.inl (ww hw 43 rfl)) (by decide) (t := (.object "com/example/calpurnia/calpurnia/ranking/BestDocuments$DocumentOrder")) (t' := (.array .int)) (by decide) (by decide)))).ext E6).other W7 (Or.inr (slot_ne (Or.inr (ww hw 53 rfl)) (Or.inl (ww hw 45 rfl)) (by decide) (t := (.object "com/example/calpurnia/calpurnia/ranking/BestDocuments$DocumentOrder")) (t' := (.array .double)) (by decide) (by decide)))).ext E8).other W9 (Or.inr (slot_ne (Or.inr (ww hw 53 rfl)) (Or.inl (ww hw 47 rfl)) (by decide) (t := (.object "com/example/calpurnia/calpurnia/ranking/BestDocuments$DocumentOrder")) (t' := (.array .int)) (by decide) (by decide)))).ext E10).other W11 (Or.inr (slot_ne (Or.inr (ww hw 53 rfl)) (Or.inl (ww hw 49 rfl)) (by decide) (t := (.object "com/example/calpurnia/calpurnia/ranking/BestDocuments$DocumentOrder")) (t' := (.array .double)) (by decide) (by decide)))).other W12 (Or.inr (slot_ne (Or.inr (ww hw 53 rfl)) (Or.inr (ww hw 51 rfl)) (by decide) (t := (.object "com/example/calpurnia/calpurnia/ranking/BestDocuments$DocumentOrder")) (t' := .int) (by decide) (by decide)))).same W13
  have K13 : Keep h0 h13 [a1] := K12.wr W13 (Or.inl (List.mem_of_getElem? (i := 0) rfl))
  have N13 := Fr.snoc X13 N12 g_a1
  obtain ⟨fs, hr, hrun, hended, hW, hsame⟩ := X13.leave (v := none) (fun _ => rfl)
  refine ⟨_, _, pre0 _ ?_, hrun, hended, _, _, rfl, ?_, ⟨_, rfl⟩, hW, hsame.mono (by decide) (by decide)⟩
  · show Steps _ _ _ (s₁.setTop (mkF m 0 #[.val (.ref a1), .val (.int p2), .val .null] [])) _
    refine XS.aloadN X0.here hx rfl (hb hby d5_0) rfl rfl ?_
    refine st3 _ ?_
    refine XS.aloadN X3.here hx rfl (hb hby d5_4) rfl rfl ?_
    refine XS.iconst X3.here hx rfl (hb hby d5_5) ?_
    refine st4 _ ?_
    refine st5 _ ?_
    refine XS.aloadN X5.here hx rfl (hb hby d5_11) rfl rfl ?_
    refine XS.iconst X5.here hx rfl (hb hby d5_12) ?_
    refine st6 _ ?_
    refine st7 _ ?_
    refine XS.aloadN X7.here hx rfl (hb hby d5_18) rfl rfl ?_
    refine XS.iconst X7.here hx rfl (hb hby d5_19) ?_
    refine st8 _ ?_
    refine st9 _ ?_
    refine XS.aloadN X9.here hx rfl (hb hby d5_25) rfl rfl ?_
    refine XS.iconst X9.here hx rfl (hb hby d5_26) ?_
    refine st10 _ ?_
    refine st11 _ ?_
    refine XS.aloadN X11.here hx rfl (hb hby d5_32) rfl rfl ?_
    refine XS.iloadN X11.here hx rfl (hb hby d5_33) rfl ?_
    refine st12 _ ?_
    refine XS.aloadN X12.here hx rfl (hb hby d5_37) rfl rfl ?_
    refine XS.aloadN X12.here hx rfl (hb hby d5_38) rfl rfl ?_
    refine st13 _ ?_
    exact X13.returnOut hx Bd.returns (hb hby d5_42) hr
  · show Q5 Z a1 p2 u_documents_a1 u_scores_a1 u_merged_a1 u_mergedScores_a1 u_capacity_a1 u_order_a1 h0 n0 _ T13.heap _
    rw [e13]
    exact ⟨rfl, N13, K13⟩
theorem d4_0 : decode prog_188_method_1_code 0 = .ok (.aload_n 0, 1) := by decide +kernel
theorem d4_1 : decode prog_188_method_1_code 1 = .ok (.invokespecial 1, 3) := by decide +kernel
theorem d4_4 : decode prog_188_method_1_code 4 = .ok (.aload_n 0, 1) := by decide +kernel
theorem d4_5 : decode prog_188_method_1_code 5 = .ok (.iload_n 1, 1) := by decide +kernel
theorem d4_6 : decode prog_188_method_1_code 6 = .ok (.newarray .int, 2) := by decide +kernel
theorem d4_8 : decode prog_188_method_1_code 8 = .ok (.putfield 7, 3) := by decide +kernel
theorem d4_11 : decode prog_188_method_1_code 11 = .ok (.aload_n 0, 1) := by decide +kernel
theorem d4_12 : decode prog_188_method_1_code 12 = .ok (.iload_n 1, 1) := by decide +kernel
theorem d4_13 : decode prog_188_method_1_code 13 = .ok (.newarray .double, 2) := by decide +kernel
theorem d4_15 : decode prog_188_method_1_code 15 = .ok (.putfield 13, 3) := by decide +kernel
theorem d4_18 : decode prog_188_method_1_code 18 = .ok (.return_, 1) := by decide +kernel
theorem pn_4 : plainName sH = true := by first | (simp [plainName, overriddenIn]; done) | decide +kernel
theorem ef_4_0 (m : MethodId) (x0 : Addr) : entryFrame m #[(.ref x0), (.int (0 : Int32))] 2 = mkF m 0 #[.val (.ref x0), .val (.int (0 : Int32))] [] := by first | (simp [entryFrame, mkF, argsToLocals, Value.category]; done) | rfl
def Q4_0 (Z : State) (a1 : Addr) (u_documents_a1 : Value) (u_scores_a1 : Value) (h0 : Heap) (n0 : Nat) (v : Option Value) (h : Heap) (L : List Loc) : Prop := ∃ da sa : Addr, v = none ∧ Fr n0 L ∧ Keep h0 h [a1] ∧ h0.size ≤ da ∧ h0.size ≤ sa ∧ da ≠ sa ∧ Fld Z h a1 sH "documents" "[I" (.ref da) ∧ Fld Z h a1 sH "scores" "[D" (.ref sa) ∧ Fld Z h a1 sH "size" "I" (.int (0 : Int32)) ∧ (∃ D, own_AI Z h da (0 : Int32) D) ∧ (∃ S, own_AD Z h sa (0 : Int32) S)
set_option maxRecDepth 65536 in
set_option maxHeartbeats 40000000 in
theorem rm4_0 (l : Launch) (Z : State) (a0 : Array Value) (hw : ∀ d ∈ tables_1, d.before a0 Z = true) (ws : List Jvm.Cond) (a1 : Addr) (u_documents_a1 : Value) (u_scores_a1 : Value) (h0 : Heap) (n0 : Nat) (Z0 : n0 ≤ h0.size) (F_z : Fld Z h0 a1 sH "size" "I" (.int (0 : Int32))) (E_a1 : Exa Z h0 a1 sH) (F_documents_a1 : Fld Z h0 a1 sH "documents" "[I" u_documents_a1) (g_a1 : n0 ≤ a1) (F_scores_a1 : Fld Z h0 a1 sH "scores" "[D" u_scores_a1) :
    MetFree l (⟨sH, "<init>", "(I)V"⟩ : MethodName) (head1 (Jvm.Cond.code (⟨sH, "<init>", "(I)V"⟩ : MethodName) prog_188_method_1_code 2 none :: ws) ({ frames := 1, cells := 2, slots := 0, locals := 12 } : Room)) (fun a U => a = #[(.ref a1), (.int (0 : Int32))] ∧ Z.Warmed39 U.vm ∧ U.heap = h0) (fun _ _ _ _ _ => True) (fun _ U o U' => ∃ v L, o = .returned v ∧ Q4_0 Z a1 u_documents_a1 u_scores_a1 h0 n0 v U'.heap L ∧ FrameEnd U o U' L ({ frames := 1, cells := 2, slots := 0, locals := 12 } : Room).cells ({ frames := 1, cells := 2, slots := 0, locals := 12 } : Room).slots) := by
  refine MetFree.of_bodySF (plainFor_of_name pn_4) hisR ?_
  intro p e s m args below meth c s₁ Bd hml0 hP hK
  obtain ⟨rfl, hZ, hh⟩ := hP
  have hx := Bd.exec
  have hby := Bd.bytes
  have hml : c.maxLocals = 2 := hml0
  have hown : s.vm.findClass sH = some m.cls := findClass_of_methodNamed Bd.named
  have hnm := (name_of_methodNamed Bd.named Bd.method).1
  have X0 : Stand p l e ({ frames := 1, cells := 2, slots := 0, locals := 12 } : Room) s m #[(.ref a1), (.int (0 : Int32))] below meth c s₁ [] 0 0 := Stand.of_body Bd
  have e0 : s₁.heap = h0 := by rw [← hh, Bd.state]; rfl
  have N0 := Fr.nil n0
  have pre0 : ∀ t, Steps p.tables e below (s₁.setTop (mkF m 0 #[.val (.ref a1), .val (.int (0 : Int32))] [])) t → Steps p.tables e below (s₁.setTop (entryFrame m #[(.ref a1), (.int (0 : Int32))] 2)) t := fun t k => castTop (ef_4_0 m a1) k

  obtain ⟨T2, X2, e2, st2⟩ := initO X0 hx hZ hown (ww hw 24 rfl) (ww hw 11 rfl) (ww hw 12 rfl) e0 (g := (mkF m 1 #[.val (.ref a1), .val (.int (0 : Int32))] [(.ref a1)])) rfl (by rw [hml]; rfl) rfl (hb hby d4_1) (by decide) (W := 0) (by show 2 * 0 + _ ≤ _; exact Nat.le_of_eq rfl) (by decide)
  obtain ⟨T3, h3, k3, X3, e3, E3, A3, Ex3, st3⟩ := newPE X2 hx hZ (ww hw 25 rfl) e2 (g := (mkF m 6 #[.val (.ref a1), .val (.int (0 : Int32))] [(.int (0 : Int32)), (.ref a1)])) rfl (hb hby d4_6) rfl (by decide) (cap := 0) (by decide) (by decide) (by decide) (by decide) (ad := "[I") rfl
  obtain ⟨b3, g3⟩ : ∃ z, z = h0.size := ⟨_, rfl⟩
  rw [← g3] at A3 Ex3 st3
  have V_b3 := own_AI.of (Arv.new A3 (by decide))
  have E_b3 := Ex3
  have g_b3 : n0 ≤ b3 := Nat.le_trans Z0 (Nat.le_of_eq g3.symm)
  have sz_b3 : h0.size ≤ b3 := (Nat.le_trans (Keep.refl h0 [a1]).1 (Nat.le_of_eq g3.symm))
  have K3 : Keep h0 h3 [a1] := (Keep.refl h0 [a1]).ext E3
  obtain ⟨T4, h4, X4, e4, W4, st4⟩ := putF X3 hx hZ hown (host := "") (Or.inl (ww hw 26 rfl)) Via.refl e3 (F_documents_a1.ext E3) (E_a1.ext E3) (Or.inl (ww hw 27 rfl)) (ww hw 19 rfl) (ty := (.array .int)) (by decide) rfl rfl (g := (mkF m 8 #[.val (.ref a1), .val (.int (0 : Int32))] [(.ref b3), (.ref a1)])) rfl rfl (hb hby d4_8)
  have Fw4 := (F_documents_a1.ext E3).same W4
  have K4 : Keep h0 h4 [a1] := K3.wr W4 (Or.inl (List.mem_of_getElem? (i := 0) rfl))
  have N4 := Fr.snoc X4 N0 g_a1
  obtain ⟨T5, h5, k5, X5, e5, E5, A5, Ex5, st5⟩ := newPE X4 hx hZ (ww hw 28 rfl) e4 (g := (mkF m 13 #[.val (.ref a1), .val (.int (0 : Int32))] [(.int (0 : Int32)), (.ref a1)])) rfl (hb hby d4_13) rfl (by decide) (cap := 0) (by decide) (by decide) (by decide) (by decide) (ad := "[D") rfl
  obtain ⟨b5, g5⟩ : ∃ z, z = h4.size := ⟨_, rfl⟩
  rw [← g5] at A5 Ex5 st5
  have V_b5 := own_AD.of (Arv.newD A5 (by decide)) (nn_w (a := 0) rfl)
  have E_b5 := Ex5
  have g_b5 : n0 ≤ b5 := Nat.le_trans (Nat.le_trans (Nat.le_trans Z0 E3.1) (Keep.of_wr W4).1) (Nat.le_of_eq g5.symm)
  have sz_b5 : h0.size ≤ b5 := (Nat.le_trans K4.1 (Nat.le_of_eq g5.symm))
  have K5 : Keep h0 h5 [a1] := K4.ext E5
  obtain ⟨T6, h6, X6, e6, W6, st6⟩ := putF X5 hx hZ hown (host := "") (Or.inl (ww hw 29 rfl)) Via.refl e5 (((F_scores_a1.ext E3).other W4 (Or.inr (slot_ne (Or.inl (ww hw 30 rfl)) (Or.inl (ww hw 27 rfl)) (by decide) (t := (.array .double)) (t' := (.array .int)) (by decide) (by decide)))).ext E5) (((E_a1.ext E3).wr W4).ext E5) (Or.inl (ww hw 30 rfl)) (ww hw 19 rfl) (ty := (.array .double)) (by decide) rfl rfl (g := (mkF m 15 #[.val (.ref a1), .val (.int (0 : Int32))] [(.ref b5), (.ref a1)])) rfl rfl (hb hby d4_15)
  have Fw6 := (((F_scores_a1.ext E3).other W4 (Or.inr (slot_ne (Or.inl (ww hw 30 rfl)) (Or.inl (ww hw 27 rfl)) (by decide) (t := (.array .double)) (t' := (.array .int)) (by decide) (by decide)))).ext E5).same W6
  have K6 : Keep h0 h6 [a1] := K5.wr W6 (Or.inl (List.mem_of_getElem? (i := 0) rfl))
  have N6 := Fr.snoc X6 N4 g_a1
  obtain ⟨fs, hr, hrun, hended, hW, hsame⟩ := X6.leave (v := none) (fun _ => rfl)
  refine ⟨_, _, pre0 _ ?_, hrun, hended, _, _, rfl, ?_, ⟨_, rfl⟩, hW, hsame.mono (by decide) (by decide)⟩
  · show Steps _ _ _ (s₁.setTop (mkF m 0 #[.val (.ref a1), .val (.int (0 : Int32))] [])) _
    refine XS.aloadN X0.here hx rfl (hb hby d4_0) rfl rfl ?_
    refine st2 _ ?_
    refine XS.aloadN X2.here hx rfl (hb hby d4_4) rfl rfl ?_
    refine XS.iloadN X2.here hx rfl (hb hby d4_5) rfl ?_
    refine st3 _ ?_
    refine st4 _ ?_
    refine XS.aloadN X4.here hx rfl (hb hby d4_11) rfl rfl ?_
    refine XS.iloadN X4.here hx rfl (hb hby d4_12) rfl ?_
    refine st5 _ ?_
    refine st6 _ ?_
    exact X6.returnOut hx Bd.returns (hb hby d4_18) hr
  · show Q4_0 Z a1 u_documents_a1 u_scores_a1 h0 n0 _ T6.heap _
    rw [e6]
    exact ⟨b3, b5, rfl, N6, K6, sz_b3, sz_b5, (Nat.ne_of_lt (Nat.lt_of_lt_of_le (V_b3.other W4 (Ne.symm (Nat.ne_of_lt (Nat.lt_of_lt_of_le F_z.lt (Nat.le_of_eq g3.symm))))).lt (Nat.le_of_eq g5.symm))), ((Fw4.ext E5).other W6 (Or.inr (slot_ne (Or.inl (ww hw 27 rfl)) (Or.inl (ww hw 30 rfl)) (by decide) (t := (.array .int)) (t' := (.array .double)) (by decide) (by decide)))), Fw6, ((((F_z.ext E3).other W4 (Or.inr (slot_ne (Or.inl (ww hw 62 rfl)) (Or.inl (ww hw 27 rfl)) (by decide) (t := .int) (t' := (.array .int)) (by decide) (by decide)))).ext E5).other W6 (Or.inr (slot_ne (Or.inl (ww hw 62 rfl)) (Or.inl (ww hw 30 rfl)) (by decide) (t := .int) (t' := (.array .double)) (by decide) (by decide)))), ⟨_, (((V_b3.other W4 (Ne.symm (Nat.ne_of_lt (Nat.lt_of_lt_of_le F_z.lt (Nat.le_of_eq g3.symm))))).ext E5).other W6 (Ne.symm (Nat.ne_of_lt (Nat.lt_of_lt_of_le F_z.lt (Nat.le_of_eq g3.symm)))))⟩, ⟨_, (V_b5.other W6 (Ne.symm (Nat.ne_of_lt (Nat.lt_of_lt_of_le ((F_z.ext E3).other W4 (Or.inr (slot_ne (Or.inl (ww hw 62 rfl)) (Or.inl (ww hw 27 rfl)) (by decide) (t := .int) (t' := (.array .int)) (by decide) (by decide)))).lt (Nat.le_of_eq g5.symm)))))⟩⟩
theorem ef_4_1 (m : MethodId) (x0 : Addr) : entryFrame m #[(.ref x0), (.int (1 : Int32))] 2 = mkF m 0 #[.val (.ref x0), .val (.int (1 : Int32))] [] := by first | (simp [entryFrame, mkF, argsToLocals, Value.category]; done) | rfl
def Q4_1 (Z : State) (a1 : Addr) (u_documents_a1 : Value) (u_scores_a1 : Value) (h0 : Heap) (n0 : Nat) (v : Option Value) (h : Heap) (L : List Loc) : Prop := ∃ da sa : Addr, v = none ∧ Fr n0 L ∧ Keep h0 h [a1] ∧ h0.size ≤ da ∧ h0.size ≤ sa ∧ da ≠ sa ∧ Fld Z h a1 sH "documents" "[I" (.ref da) ∧ Fld Z h a1 sH "scores" "[D" (.ref sa) ∧ Fld Z h a1 sH "size" "I" (.int (0 : Int32)) ∧ (∃ D, own_AI Z h da (1 : Int32) D) ∧ (∃ S, own_AD Z h sa (1 : Int32) S)
set_option maxRecDepth 65536 in
set_option maxHeartbeats 40000000 in
theorem rm4_1 (l : Launch) (Z : State) (a0 : Array Value) (hw : ∀ d ∈ tables_1, d.before a0 Z = true) (ws : List Jvm.Cond) (a1 : Addr) (u_documents_a1 : Value) (u_scores_a1 : Value) (h0 : Heap) (n0 : Nat) (Z0 : n0 ≤ h0.size) (F_z : Fld Z h0 a1 sH "size" "I" (.int (0 : Int32))) (E_a1 : Exa Z h0 a1 sH) (F_documents_a1 : Fld Z h0 a1 sH "documents" "[I" u_documents_a1) (g_a1 : n0 ≤ a1) (F_scores_a1 : Fld Z h0 a1 sH "scores" "[D" u_scores_a1) :
    MetFree l (⟨sH, "<init>", "(I)V"⟩ : MethodName) (head1 (Jvm.Cond.code (⟨sH, "<init>", "(I)V"⟩ : MethodName) prog_188_method_1_code 2 none :: ws) ({ frames := 1, cells := 2, slots := 2, locals := 12 } : Room)) (fun a U => a = #[(.ref a1), (.int (1 : Int32))] ∧ Z.Warmed39 U.vm ∧ U.heap = h0) (fun _ _ _ _ _ => True) (fun _ U o U' => ∃ v L, o = .returned v ∧ Q4_1 Z a1 u_documents_a1 u_scores_a1 h0 n0 v U'.heap L ∧ FrameEnd U o U' L ({ frames := 1, cells := 2, slots := 2, locals := 12 } : Room).cells ({ frames := 1, cells := 2, slots := 2, locals := 12 } : Room).slots) := by
  refine MetFree.of_bodySF (plainFor_of_name pn_4) hisR ?_
  intro p e s m args below meth c s₁ Bd hml0 hP hK
  obtain ⟨rfl, hZ, hh⟩ := hP
  have hx := Bd.exec
  have hby := Bd.bytes
  have hml : c.maxLocals = 2 := hml0
  have hown : s.vm.findClass sH = some m.cls := findClass_of_methodNamed Bd.named
  have hnm := (name_of_methodNamed Bd.named Bd.method).1
  have X0 : Stand p l e ({ frames := 1, cells := 2, slots := 2, locals := 12 } : Room) s m #[(.ref a1), (.int (1 : Int32))] below meth c s₁ [] 0 0 := Stand.of_body Bd
  have e0 : s₁.heap = h0 := by rw [← hh, Bd.state]; rfl
  have N0 := Fr.nil n0
  have pre0 : ∀ t, Steps p.tables e below (s₁.setTop (mkF m 0 #[.val (.ref a1), .val (.int (1 : Int32))] [])) t → Steps p.tables e below (s₁.setTop (entryFrame m #[(.ref a1), (.int (1 : Int32))] 2)) t := fun t k => castTop (ef_4_1 m a1) k

  obtain ⟨T2, X2, e2, st2⟩ := initO X0 hx hZ hown (ww hw 24 rfl) (ww hw 11 rfl) (ww hw 12 rfl) e0 (g := (mkF m 1 #[.val (.ref a1), .val (.int (1 : Int32))] [(.ref a1)])) rfl (by rw [hml]; rfl) rfl (hb hby d4_1) (by decide) (W := 0) (by show 2 * 0 + _ ≤ _; exact Nat.le_of_eq rfl) (by decide)
  obtain ⟨T3, h3, k3, X3, e3, E3, A3, Ex3, st3⟩ := newPE X2 hx hZ (ww hw 25 rfl) e2 (g := (mkF m 6 #[.val (.ref a1), .val (.int (1 : Int32))] [(.int (1 : Int32)), (.ref a1)])) rfl (hb hby d4_6) rfl (by decide) (cap := 1) (by decide) (by decide) (by decide) (by decide) (ad := "[I") rfl
  obtain ⟨b3, g3⟩ : ∃ z, z = h0.size := ⟨_, rfl⟩
  rw [← g3] at A3 Ex3 st3
  have V_b3 := own_AI.of (Arv.new A3 (by decide))
  have E_b3 := Ex3
  have g_b3 : n0 ≤ b3 := Nat.le_trans Z0 (Nat.le_of_eq g3.symm)
  have sz_b3 : h0.size ≤ b3 := (Nat.le_trans (Keep.refl h0 [a1]).1 (Nat.le_of_eq g3.symm))
  have K3 : Keep h0 h3 [a1] := (Keep.refl h0 [a1]).ext E3
  obtain ⟨T4, h4, X4, e4, W4, st4⟩ := putF X3 hx hZ hown (host := "") (Or.inl (ww hw 26 rfl)) Via.refl e3 (F_documents_a1.ext E3) (E_a1.ext E3) (Or.inl (ww hw 27 rfl)) (ww hw 19 rfl) (ty := (.array .int)) (by decide) rfl rfl (g := (mkF m 8 #[.val (.ref a1), .val (.int (1 : Int32))] [(.ref b3), (.ref a1)])) rfl rfl (hb hby d4_8)
  have Fw4 := (F_documents_a1.ext E3).same W4
  have K4 : Keep h0 h4 [a1] := K3.wr W4 (Or.inl (List.mem_of_getElem? (i := 0) rfl))
  have N4 := Fr.snoc X4 N0 g_a1
  obtain ⟨T5, h5, k5, X5, e5, E5, A5, Ex5, st5⟩ := newPE X4 hx hZ (ww hw 28 rfl) e4 (g := (mkF m 13 #[.val (.ref a1), .val (.int (1 : Int32))] [(.int (1 : Int32)), (.ref a1)])) rfl (hb hby d4_13) rfl (by decide) (cap := 1) (by decide) (by decide) (by decide) (by decide) (ad := "[D") rfl
  obtain ⟨b5, g5⟩ : ∃ z, z = h4.size := ⟨_, rfl⟩
  rw [← g5] at A5 Ex5 st5
  have V_b5 := own_AD.of (Arv.newD A5 (by decide)) (nn_w (a := 0) rfl)
  have E_b5 := Ex5
  have g_b5 : n0 ≤ b5 := Nat.le_trans (Nat.le_trans (Nat.le_trans Z0 E3.1) (Keep.of_wr W4).1) (Nat.le_of_eq g5.symm)
  have sz_b5 : h0.size ≤ b5 := (Nat.le_trans K4.1 (Nat.le_of_eq g5.symm))
  have K5 : Keep h0 h5 [a1] := K4.ext E5
  obtain ⟨T6, h6, X6, e6, W6, st6⟩ := putF X5 hx hZ hown (host := "") (Or.inl (ww hw 29 rfl)) Via.refl e5 (((F_scores_a1.ext E3).other W4 (Or.inr (slot_ne (Or.inl (ww hw 30 rfl)) (Or.inl (ww hw 27 rfl)) (by decide) (t := (.array .double)) (t' := (.array .int)) (by decide) (by decide)))).ext E5) (((E_a1.ext E3).wr W4).ext E5) (Or.inl (ww hw 30 rfl)) (ww hw 19 rfl) (ty := (.array .double)) (by decide) rfl rfl (g := (mkF m 15 #[.val (.ref a1), .val (.int (1 : Int32))] [(.ref b5), (.ref a1)])) rfl rfl (hb hby d4_15)
  have Fw6 := (((F_scores_a1.ext E3).other W4 (Or.inr (slot_ne (Or.inl (ww hw 30 rfl)) (Or.inl (ww hw 27 rfl)) (by decide) (t := (.array .double)) (t' := (.array .int)) (by decide) (by decide)))).ext E5).same W6
  have K6 : Keep h0 h6 [a1] := K5.wr W6 (Or.inl (List.mem_of_getElem? (i := 0) rfl))
  have N6 := Fr.snoc X6 N4 g_a1
  obtain ⟨fs, hr, hrun, hended, hW, hsame⟩ := X6.leave (v := none) (fun _ => rfl)
  refine ⟨_, _, pre0 _ ?_, hrun, hended, _, _, rfl, ?_, ⟨_, rfl⟩, hW, hsame.mono (by decide) (by decide)⟩
  · show Steps _ _ _ (s₁.setTop (mkF m 0 #[.val (.ref a1), .val (.int (1 : Int32))] [])) _
    refine XS.aloadN X0.here hx rfl (hb hby d4_0) rfl rfl ?_
    refine st2 _ ?_
    refine XS.aloadN X2.here hx rfl (hb hby d4_4) rfl rfl ?_
    refine XS.iloadN X2.here hx rfl (hb hby d4_5) rfl ?_
    refine st3 _ ?_
    refine st4 _ ?_
    refine XS.aloadN X4.here hx rfl (hb hby d4_11) rfl rfl ?_
    refine XS.iloadN X4.here hx rfl (hb hby d4_12) rfl ?_
    refine st5 _ ?_
    refine st6 _ ?_
    exact X6.returnOut hx Bd.returns (hb hby d4_18) hr
  · show Q4_1 Z a1 u_documents_a1 u_scores_a1 h0 n0 _ T6.heap _
    rw [e6]
    exact ⟨b3, b5, rfl, N6, K6, sz_b3, sz_b5, (Nat.ne_of_lt (Nat.lt_of_lt_of_le (V_b3.other W4 (Ne.symm (Nat.ne_of_lt (Nat.lt_of_lt_of_le F_z.lt (Nat.le_of_eq g3.symm))))).lt (Nat.le_of_eq g5.symm))), ((Fw4.ext E5).other W6 (Or.inr (slot_ne (Or.inl (ww hw 27 rfl)) (Or.inl (ww hw 30 rfl)) (by decide) (t := (.array .int)) (t' := (.array .double)) (by decide) (by decide)))), Fw6, ((((F_z.ext E3).other W4 (Or.inr (slot_ne (Or.inl (ww hw 62 rfl)) (Or.inl (ww hw 27 rfl)) (by decide) (t := .int) (t' := (.array .int)) (by decide) (by decide)))).ext E5).other W6 (Or.inr (slot_ne (Or.inl (ww hw 62 rfl)) (Or.inl (ww hw 30 rfl)) (by decide) (t := .int) (t' := (.array .double)) (by decide) (by decide)))), ⟨_, (((V_b3.other W4 (Ne.symm (Nat.ne_of_lt (Nat.lt_of_lt_of_le F_z.lt (Nat.le_of_eq g3.symm))))).ext E5).other W6 (Ne.symm (Nat.ne_of_lt (Nat.lt_of_lt_of_le F_z.lt (Nat.le_of_eq g3.symm)))))⟩, ⟨_, (V_b5.other W6 (Ne.symm (Nat.ne_of_lt (Nat.lt_of_lt_of_le ((F_z.ext E3).other W4 (Or.inr (slot_ne (Or.inl (ww hw 62 rfl)) (Or.inl (ww hw 27 rfl)) (by decide) (t := .int) (t' := (.array .int)) (by decide) (by decide)))).lt (Nat.le_of_eq g5.symm)))))⟩⟩
theorem ef_4_2 (m : MethodId) (x0 : Addr) : entryFrame m #[(.ref x0), (.int (2 : Int32))] 2 = mkF m 0 #[.val (.ref x0), .val (.int (2 : Int32))] [] := by first | (simp [entryFrame, mkF, argsToLocals, Value.category]; done) | rfl
def Q4_2 (Z : State) (a1 : Addr) (u_documents_a1 : Value) (u_scores_a1 : Value) (h0 : Heap) (n0 : Nat) (v : Option Value) (h : Heap) (L : List Loc) : Prop := ∃ da sa : Addr, v = none ∧ Fr n0 L ∧ Keep h0 h [a1] ∧ h0.size ≤ da ∧ h0.size ≤ sa ∧ da ≠ sa ∧ Fld Z h a1 sH "documents" "[I" (.ref da) ∧ Fld Z h a1 sH "scores" "[D" (.ref sa) ∧ Fld Z h a1 sH "size" "I" (.int (0 : Int32)) ∧ (∃ D, own_AI Z h da (2 : Int32) D) ∧ (∃ S, own_AD Z h sa (2 : Int32) S)
set_option maxRecDepth 65536 in
set_option maxHeartbeats 40000000 in
theorem rm4_2 (l : Launch) (Z : State) (a0 : Array Value) (hw : ∀ d ∈ tables_1, d.before a0 Z = true) (ws : List Jvm.Cond) (a1 : Addr) (u_documents_a1 : Value) (u_scores_a1 : Value) (h0 : Heap) (n0 : Nat) (Z0 : n0 ≤ h0.size) (F_z : Fld Z h0 a1 sH "size" "I" (.int (0 : Int32))) (E_a1 : Exa Z h0 a1 sH) (F_documents_a1 : Fld Z h0 a1 sH "documents" "[I" u_documents_a1) (g_a1 : n0 ≤ a1) (F_scores_a1 : Fld Z h0 a1 sH "scores" "[D" u_scores_a1) :
    MetFree l (⟨sH, "<init>", "(I)V"⟩ : MethodName) (head1 (Jvm.Cond.code (⟨sH, "<init>", "(I)V"⟩ : MethodName) prog_188_method_1_code 2 none :: ws) ({ frames := 1, cells := 2, slots := 4, locals := 12 } : Room)) (fun a U => a = #[(.ref a1), (.int (2 : Int32))] ∧ Z.Warmed39 U.vm ∧ U.heap = h0) (fun _ _ _ _ _ => True) (fun _ U o U' => ∃ v L, o = .returned v ∧ Q4_2 Z a1 u_documents_a1 u_scores_a1 h0 n0 v U'.heap L ∧ FrameEnd U o U' L ({ frames := 1, cells := 2, slots := 4, locals := 12 } : Room).cells ({ frames := 1, cells := 2, slots := 4, locals := 12 } : Room).slots) := by
  refine MetFree.of_bodySF (plainFor_of_name pn_4) hisR ?_
  intro p e s m args below meth c s₁ Bd hml0 hP hK
  obtain ⟨rfl, hZ, hh⟩ := hP
  have hx := Bd.exec
  have hby := Bd.bytes
  have hml : c.maxLocals = 2 := hml0
  have hown : s.vm.findClass sH = some m.cls := findClass_of_methodNamed Bd.named
  have hnm := (name_of_methodNamed Bd.named Bd.method).1
  have X0 : Stand p l e ({ frames := 1, cells := 2, slots := 4, locals := 12 } : Room) s m #[(.ref a1), (.int (2 : Int32))] below meth c s₁ [] 0 0 := Stand.of_body Bd
  have e0 : s₁.heap = h0 := by rw [← hh, Bd.state]; rfl
  have N0 := Fr.nil n0
  have pre0 : ∀ t, Steps p.tables e below (s₁.setTop (mkF m 0 #[.val (.ref a1), .val (.int (2 : Int32))] [])) t → Steps p.tables e below (s₁.setTop (entryFrame m #[(.ref a1), (.int (2 : Int32))] 2)) t := fun t k => castTop (ef_4_2 m a1) k

  obtain ⟨T2, X2, e2, st2⟩ := initO X0 hx hZ hown (ww hw 24 rfl) (ww hw 11 rfl) (ww hw 12 rfl) e0 (g := (mkF m 1 #[.val (.ref a1), .val (.int (2 : Int32))] [(.ref a1)])) rfl (by rw [hml]; rfl) rfl (hb hby d4_1) (by decide) (W := 0) (by show 2 * 0 + _ ≤ _; exact Nat.le_of_eq rfl) (by decide)
  obtain ⟨T3, h3, k3, X3, e3, E3, A3, Ex3, st3⟩ := newPE X2 hx hZ (ww hw 25 rfl) e2 (g := (mkF m 6 #[.val (.ref a1), .val (.int (2 : Int32))] [(.int (2 : Int32)), (.ref a1)])) rfl (hb hby d4_6) rfl (by decide) (cap := 2) (by decide) (by decide) (by decide) (by decide) (ad := "[I") rfl
  obtain ⟨b3, g3⟩ : ∃ z, z = h0.size := ⟨_, rfl⟩
  rw [← g3] at A3 Ex3 st3
  have V_b3 := own_AI.of (Arv.new A3 (by decide))
  have E_b3 := Ex3
  have g_b3 : n0 ≤ b3 := Nat.le_trans Z0 (Nat.le_of_eq g3.symm)
  have sz_b3 : h0.size ≤ b3 := (Nat.le_trans (Keep.refl h0 [a1]).1 (Nat.le_of_eq g3.symm))
  have K3 : Keep h0 h3 [a1] := (Keep.refl h0 [a1]).ext E3
  obtain ⟨T4, h4, X4, e4, W4, st4⟩ := putF X3 hx hZ hown (host := "") (Or.inl (ww hw 26 rfl)) Via.refl e3 (F_documents_a1.ext E3) (E_a1.ext E3) (Or.inl (ww hw 27 rfl)) (ww hw 19 rfl) (ty := (.array .int)) (by decide) rfl rfl (g := (mkF m 8 #[.val (.ref a1), .val (.int (2 : Int32))] [(.ref b3), (.ref a1)])) rfl rfl (hb hby d4_8)
  have Fw4 := (F_documents_a1.ext E3).same W4
  have K4 : Keep h0 h4 [a1] := K3.wr W4 (Or.inl (List.mem_of_getElem? (i := 0) rfl))
  have N4 := Fr.snoc X4 N0 g_a1
  obtain ⟨T5, h5, k5, X5, e5, E5, A5, Ex5, st5⟩ := newPE X4 hx hZ (ww hw 28 rfl) e4 (g := (mkF m 13 #[.val (.ref a1), .val (.int (2 : Int32))] [(.int (2 : Int32)), (.ref a1)])) rfl (hb hby d4_13) rfl (by decide) (cap := 2) (by decide) (by decide) (by decide) (by decide) (ad := "[D") rfl
  obtain ⟨b5, g5⟩ : ∃ z, z = h4.size := ⟨_, rfl⟩
  rw [← g5] at A5 Ex5 st5
  have V_b5 := own_AD.of (Arv.newD A5 (by decide)) (nn_w (a := 0) rfl)
  have E_b5 := Ex5
  have g_b5 : n0 ≤ b5 := Nat.le_trans (Nat.le_trans (Nat.le_trans Z0 E3.1) (Keep.of_wr W4).1) (Nat.le_of_eq g5.symm)
  have sz_b5 : h0.size ≤ b5 := (Nat.le_trans K4.1 (Nat.le_of_eq g5.symm))
  have K5 : Keep h0 h5 [a1] := K4.ext E5
  obtain ⟨T6, h6, X6, e6, W6, st6⟩ := putF X5 hx hZ hown (host := "") (Or.inl (ww hw 29 rfl)) Via.refl e5 (((F_scores_a1.ext E3).other W4 (Or.inr (slot_ne (Or.inl (ww hw 30 rfl)) (Or.inl (ww hw 27 rfl)) (by decide) (t := (.array .double)) (t' := (.array .int)) (by decide) (by decide)))).ext E5) (((E_a1.ext E3).wr W4).ext E5) (Or.inl (ww hw 30 rfl)) (ww hw 19 rfl) (ty := (.array .double)) (by decide) rfl rfl (g := (mkF m 15 #[.val (.ref a1), .val (.int (2 : Int32))] [(.ref b5), (.ref a1)])) rfl rfl (hb hby d4_15)
  have Fw6 := (((F_scores_a1.ext E3).other W4 (Or.inr (slot_ne (Or.inl (ww hw 30 rfl)) (Or.inl (ww hw 27 rfl)) (by decide) (t := (.array .double)) (t' := (.array .int)) (by decide) (by decide)))).ext E5).same W6
  have K6 : Keep h0 h6 [a1] := K5.wr W6 (Or.inl (List.mem_of_getElem? (i := 0) rfl))
  have N6 := Fr.snoc X6 N4 g_a1
  obtain ⟨fs, hr, hrun, hended, hW, hsame⟩ := X6.leave (v := none) (fun _ => rfl)
  refine ⟨_, _, pre0 _ ?_, hrun, hended, _, _, rfl, ?_, ⟨_, rfl⟩, hW, hsame.mono (by decide) (by decide)⟩
  · show Steps _ _ _ (s₁.setTop (mkF m 0 #[.val (.ref a1), .val (.int (2 : Int32))] [])) _
    refine XS.aloadN X0.here hx rfl (hb hby d4_0) rfl rfl ?_
    refine st2 _ ?_
    refine XS.aloadN X2.here hx rfl (hb hby d4_4) rfl rfl ?_
    refine XS.iloadN X2.here hx rfl (hb hby d4_5) rfl ?_
    refine st3 _ ?_
    refine st4 _ ?_
    refine XS.aloadN X4.here hx rfl (hb hby d4_11) rfl rfl ?_
    refine XS.iloadN X4.here hx rfl (hb hby d4_12) rfl ?_
    refine st5 _ ?_
    refine st6 _ ?_
    exact X6.returnOut hx Bd.returns (hb hby d4_18) hr
  · show Q4_2 Z a1 u_documents_a1 u_scores_a1 h0 n0 _ T6.heap _
    rw [e6]
    exact ⟨b3, b5, rfl, N6, K6, sz_b3, sz_b5, (Nat.ne_of_lt (Nat.lt_of_lt_of_le (V_b3.other W4 (Ne.symm (Nat.ne_of_lt (Nat.lt_of_lt_of_le F_z.lt (Nat.le_of_eq g3.symm))))).lt (Nat.le_of_eq g5.symm))), ((Fw4.ext E5).other W6 (Or.inr (slot_ne (Or.inl (ww hw 27 rfl)) (Or.inl (ww hw 30 rfl)) (by decide) (t := (.array .int)) (t' := (.array .double)) (by decide) (by decide)))), Fw6, ((((F_z.ext E3).other W4 (Or.inr (slot_ne (Or.inl (ww hw 62 rfl)) (Or.inl (ww hw 27 rfl)) (by decide) (t := .int) (t' := (.array .int)) (by decide) (by decide)))).ext E5).other W6 (Or.inr (slot_ne (Or.inl (ww hw 62 rfl)) (Or.inl (ww hw 30 rfl)) (by decide) (t := .int) (t' := (.array .double)) (by decide) (by decide)))), ⟨_, (((V_b3.other W4 (Ne.symm (Nat.ne_of_lt (Nat.lt_of_lt_of_le F_z.lt (Nat.le_of_eq g3.symm))))).ext E5).other W6 (Ne.symm (Nat.ne_of_lt (Nat.lt_of_lt_of_le F_z.lt (Nat.le_of_eq g3.symm)))))⟩, ⟨_, (V_b5.other W6 (Ne.symm (Nat.ne_of_lt (Nat.lt_of_lt_of_le ((F_z.ext E3).other W4 (Or.inr (slot_ne (Or.inl (ww hw 62 rfl)) (Or.inl (ww hw 27 rfl)) (by decide) (t := .int) (t' := (.array .int)) (by decide) (by decide)))).lt (Nat.le_of_eq g5.symm)))))⟩⟩
theorem ef_4_3 (m : MethodId) (x0 : Addr) : entryFrame m #[(.ref x0), (.int (3 : Int32))] 2 = mkF m 0 #[.val (.ref x0), .val (.int (3 : Int32))] [] := by first | (simp [entryFrame, mkF, argsToLocals, Value.category]; done) | rfl
def Q4_3 (Z : State) (a1 : Addr) (u_documents_a1 : Value) (u_scores_a1 : Value) (h0 : Heap) (n0 : Nat) (v : Option Value) (h : Heap) (L : List Loc) : Prop := ∃ da sa : Addr, v = none ∧ Fr n0 L ∧ Keep h0 h [a1] ∧ h0.size ≤ da ∧ h0.size ≤ sa ∧ da ≠ sa ∧ Fld Z h a1 sH "documents" "[I" (.ref da) ∧ Fld Z h a1 sH "scores" "[D" (.ref sa) ∧ Fld Z h a1 sH "size" "I" (.int (0 : Int32)) ∧ (∃ D, own_AI Z h da (3 : Int32) D) ∧ (∃ S, own_AD Z h sa (3 : Int32) S)
set_option maxRecDepth 65536 in
set_option maxHeartbeats 40000000 in
theorem rm4_3 (l : Launch) (Z : State) (a0 : Array Value) (hw : ∀ d ∈ tables_1, d.before a0 Z = true) (ws : List Jvm.Cond) (a1 : Addr) (u_documents_a1 : Value) (u_scores_a1 : Value) (h0 : Heap) (n0 : Nat) (Z0 : n0 ≤ h0.size) (F_z : Fld Z h0 a1 sH "size" "I" (.int (0 : Int32))) (E_a1 : Exa Z h0 a1 sH) (F_documents_a1 : Fld Z h0 a1 sH "documents" "[I" u_documents_a1) (g_a1 : n0 ≤ a1) (F_scores_a1 : Fld Z h0 a1 sH "scores" "[D" u_scores_a1) :
    MetFree l (⟨sH, "<init>", "(I)V"⟩ : MethodName) (head1 (Jvm.Cond.code (⟨sH, "<init>", "(I)V"⟩ : MethodName) prog_188_method_1_code 2 none :: ws) ({ frames := 1, cells := 2, slots := 6, locals := 12 } : Room)) (fun a U => a = #[(.ref a1), (.int (3 : Int32))] ∧ Z.Warmed39 U.vm ∧ U.heap = h0) (fun _ _ _ _ _ => True) (fun _ U o U' => ∃ v L, o = .returned v ∧ Q4_3 Z a1 u_documents_a1 u_scores_a1 h0 n0 v U'.heap L ∧ FrameEnd U o U' L ({ frames := 1, cells := 2, slots := 6, locals := 12 } : Room).cells ({ frames := 1, cells := 2, slots := 6, locals := 12 } : Room).slots) := by
  refine MetFree.of_bodySF (plainFor_of_name pn_4) hisR ?_
  intro p e s m args below meth c s₁ Bd hml0 hP hK
  obtain ⟨rfl, hZ, hh⟩ := hP
  have hx := Bd.exec
  have hby := Bd.bytes
  have hml : c.maxLocals = 2 := hml0
  have hown : s.vm.findClass sH = some m.cls := findClass_of_methodNamed Bd.named
  have hnm := (name_of_methodNamed Bd.named Bd.method).1
  have X0 : Stand p l e ({ frames := 1, cells := 2, slots := 6, locals := 12 } : Room) s m #[(.ref a1), (.int (3 : Int32))] below meth c s₁ [] 0 0 := Stand.of_body Bd
  have e0 : s₁.heap = h0 := by rw [← hh, Bd.state]; rfl
  have N0 := Fr.nil n0
  have pre0 : ∀ t, Steps p.tables e below (s₁.setTop (mkF m 0 #[.val (.ref a1), .val (.int (3 : Int32))] [])) t → Steps p.tables e below (s₁.setTop (entryFrame m #[(.ref a1), (.int (3 : Int32))] 2)) t := fun t k => castTop (ef_4_3 m a1) k

  obtain ⟨T2, X2, e2, st2⟩ := initO X0 hx hZ hown (ww hw 24 rfl) (ww hw 11 rfl) (ww hw 12 rfl) e0 (g := (mkF m 1 #[.val (.ref a1), .val (.int (3 : Int32))] [(.ref a1)])) rfl (by rw [hml]; rfl) rfl (hb hby d4_1) (by decide) (W := 0) (by show 2 * 0 + _ ≤ _; exact Nat.le_of_eq rfl) (by decide)
  obtain ⟨T3, h3, k3, X3, e3, E3, A3, Ex3, st3⟩ := newPE X2 hx hZ (ww hw 25 rfl) e2 (g := (mkF m 6 #[.val (.ref a1), .val (.int (3 : Int32))] [(.int (3 : Int32)), (.ref a1)])) rfl (hb hby d4_6) rfl (by decide) (cap := 3) (by decide) (by decide) (by decide) (by decide) (ad := "[I") rfl
  obtain ⟨b3, g3⟩ : ∃ z, z = h0.size := ⟨_, rfl⟩
  rw [← g3] at A3 Ex3 st3
  have V_b3 := own_AI.of (Arv.new A3 (by decide))
  have E_b3 := Ex3
  have g_b3 : n0 ≤ b3 := Nat.le_trans Z0 (Nat.le_of_eq g3.symm)
  have sz_b3 : h0.size ≤ b3 := (Nat.le_trans (Keep.refl h0 [a1]).1 (Nat.le_of_eq g3.symm))
  have K3 : Keep h0 h3 [a1] := (Keep.refl h0 [a1]).ext E3
  obtain ⟨T4, h4, X4, e4, W4, st4⟩ := putF X3 hx hZ hown (host := "") (Or.inl (ww hw 26 rfl)) Via.refl e3 (F_documents_a1.ext E3) (E_a1.ext E3) (Or.inl (ww hw 27 rfl)) (ww hw 19 rfl) (ty := (.array .int)) (by decide) rfl rfl (g := (mkF m 8 #[.val (.ref a1), .val (.int (3 : Int32))] [(.ref b3), (.ref a1)])) rfl rfl (hb hby d4_8)
  have Fw4 := (F_documents_a1.ext E3).same W4
  have K4 : Keep h0 h4 [a1] := K3.wr W4 (Or.inl (List.mem_of_getElem? (i := 0) rfl))
  have N4 := Fr.snoc X4 N0 g_a1
  obtain ⟨T5, h5, k5, X5, e5, E5, A5, Ex5, st5⟩ := newPE X4 hx hZ (ww hw 28 rfl) e4 (g := (mkF m 13 #[.val (.ref a1), .val (.int (3 : Int32))] [(.int (3 : Int32)), (.ref a1)])) rfl (hb hby d4_13) rfl (by decide) (cap := 3) (by decide) (by decide) (by decide) (by decide) (ad := "[D") rfl
  obtain ⟨b5, g5⟩ : ∃ z, z = h4.size := ⟨_, rfl⟩
  rw [← g5] at A5 Ex5 st5
  have V_b5 := own_AD.of (Arv.newD A5 (by decide)) (nn_w (a := 0) rfl)
  have E_b5 := Ex5
  have g_b5 : n0 ≤ b5 := Nat.le_trans (Nat.le_trans (Nat.le_trans Z0 E3.1) (Keep.of_wr W4).1) (Nat.le_of_eq g5.symm)
  have sz_b5 : h0.size ≤ b5 := (Nat.le_trans K4.1 (Nat.le_of_eq g5.symm))
  have K5 : Keep h0 h5 [a1] := K4.ext E5
  obtain ⟨T6, h6, X6, e6, W6, st6⟩ := putF X5 hx hZ hown (host := "") (Or.inl (ww hw 29 rfl)) Via.refl e5 (((F_scores_a1.ext E3).other W4 (Or.inr (slot_ne (Or.inl (ww hw 30 rfl)) (Or.inl (ww hw 27 rfl)) (by decide) (t := (.array .double)) (t' := (.array .int)) (by decide) (by decide)))).ext E5) (((E_a1.ext E3).wr W4).ext E5) (Or.inl (ww hw 30 rfl)) (ww hw 19 rfl) (ty := (.array .double)) (by decide) rfl rfl (g := (mkF m 15 #[.val (.ref a1), .val (.int (3 : Int32))] [(.ref b5), (.ref a1)])) rfl rfl (hb hby d4_15)
  have Fw6 := (((F_scores_a1.ext E3).other W4 (Or.inr (slot_ne (Or.inl (ww hw 30 rfl)) (Or.inl (ww hw 27 rfl)) (by decide) (t := (.array .double)) (t' := (.array .int)) (by decide) (by decide)))).ext E5).same W6
  have K6 : Keep h0 h6 [a1] := K5.wr W6 (Or.inl (List.mem_of_getElem? (i := 0) rfl))
  have N6 := Fr.snoc X6 N4 g_a1
  obtain ⟨fs, hr, hrun, hended, hW, hsame⟩ := X6.leave (v := none) (fun _ => rfl)
  refine ⟨_, _, pre0 _ ?_, hrun, hended, _, _, rfl, ?_, ⟨_, rfl⟩, hW, hsame.mono (by decide) (by decide)⟩
  · show Steps _ _ _ (s₁.setTop (mkF m 0 #[.val (.ref a1), .val (.int (3 : Int32))] [])) _
    refine XS.aloadN X0.here hx rfl (hb hby d4_0) rfl rfl ?_
    refine st2 _ ?_
    refine XS.aloadN X2.here hx rfl (hb hby d4_4) rfl rfl ?_
    refine XS.iloadN X2.here hx rfl (hb hby d4_5) rfl ?_
    refine st3 _ ?_
    refine st4 _ ?_
    refine XS.aloadN X4.here hx rfl (hb hby d4_11) rfl rfl ?_
    refine XS.iloadN X4.here hx rfl (hb hby d4_12) rfl ?_
    refine st5 _ ?_
    refine st6 _ ?_
    exact X6.returnOut hx Bd.returns (hb hby d4_18) hr
  · show Q4_3 Z a1 u_documents_a1 u_scores_a1 h0 n0 _ T6.heap _
    rw [e6]
    exact ⟨b3, b5, rfl, N6, K6, sz_b3, sz_b5, (Nat.ne_of_lt (Nat.lt_of_lt_of_le (V_b3.other W4 (Ne.symm (Nat.ne_of_lt (Nat.lt_of_lt_of_le F_z.lt (Nat.le_of_eq g3.symm))))).lt (Nat.le_of_eq g5.symm))), ((Fw4.ext E5).other W6 (Or.inr (slot_ne (Or.inl (ww hw 27 rfl)) (Or.inl (ww hw 30 rfl)) (by decide) (t := (.array .int)) (t' := (.array .double)) (by decide) (by decide)))), Fw6, ((((F_z.ext E3).other W4 (Or.inr (slot_ne (Or.inl (ww hw 62 rfl)) (Or.inl (ww hw 27 rfl)) (by decide) (t := .int) (t' := (.array .int)) (by decide) (by decide)))).ext E5).other W6 (Or.inr (slot_ne (Or.inl (ww hw 62 rfl)) (Or.inl (ww hw 30 rfl)) (by decide) (t := .int) (t' := (.array .double)) (by decide) (by decide)))), ⟨_, (((V_b3.other W4 (Ne.symm (Nat.ne_of_lt (Nat.lt_of_lt_of_le F_z.lt (Nat.le_of_eq g3.symm))))).ext E5).other W6 (Ne.symm (Nat.ne_of_lt (Nat.lt_of_lt_of_le F_z.lt (Nat.le_of_eq g3.symm)))))⟩, ⟨_, (V_b5.other W6 (Ne.symm (Nat.ne_of_lt (Nat.lt_of_lt_of_le ((F_z.ext E3).other W4 (Or.inr (slot_ne (Or.inl (ww hw 62 rfl)) (Or.inl (ww hw 27 rfl)) (by decide) (t := .int) (t' := (.array .int)) (by decide) (by decide)))).lt (Nat.le_of_eq g5.symm)))))⟩⟩
theorem d2_0 : decode prog_186_method_2_code 0 = .ok (.aload_n 0, 1) := by decide +kernel
theorem d2_1 : decode prog_186_method_2_code 1 = .ok (.invokespecial 7, 3) := by decide +kernel
theorem d2_4 : decode prog_186_method_2_code 4 = .ok (.aload_n 0, 1) := by decide +kernel
theorem d2_5 : decode prog_186_method_2_code 5 = .ok (.ldc2_w 14, 3) := by decide +kernel
theorem d2_8 : decode prog_186_method_2_code 8 = .ok (.putfield 16, 3) := by decide +kernel
theorem d2_11 : decode prog_186_method_2_code 11 = .ok (.aload_n 0, 1) := by decide +kernel
theorem d2_12 : decode prog_186_method_2_code 12 = .ok (.iload_n 1, 1) := by decide +kernel
theorem d2_13 : decode prog_186_method_2_code 13 = .ok (.putfield 20, 3) := by decide +kernel
theorem d2_16 : decode prog_186_method_2_code 16 = .ok (.aload_n 0, 1) := by decide +kernel
theorem d2_17 : decode prog_186_method_2_code 17 = .ok (.new 24, 3) := by decide +kernel
theorem d2_20 : decode prog_186_method_2_code 20 = .ok (.dup, 1) := by decide +kernel
theorem d2_21 : decode prog_186_method_2_code 21 = .ok (.iload_n 1, 1) := by decide +kernel
theorem d2_22 : decode prog_186_method_2_code 22 = .ok (.invokespecial 26, 3) := by decide +kernel
theorem d2_25 : decode prog_186_method_2_code 25 = .ok (.putfield 29, 3) := by decide +kernel
theorem d2_28 : decode prog_186_method_2_code 28 = .ok (.aload_n 0, 1) := by decide +kernel
theorem d2_29 : decode prog_186_method_2_code 29 = .ok (.aload_n 2, 1) := by decide +kernel
theorem d2_30 : decode prog_186_method_2_code 30 = .ok (.putfield 33, 3) := by decide +kernel
theorem d2_33 : decode prog_186_method_2_code 33 = .ok (.aload_n 0, 1) := by decide +kernel
theorem d2_34 : decode prog_186_method_2_code 34 = .ok (.new 37, 3) := by decide +kernel
theorem d2_37 : decode prog_186_method_2_code 37 = .ok (.dup, 1) := by decide +kernel
theorem d2_38 : decode prog_186_method_2_code 38 = .ok (.iload_n 1, 1) := by decide +kernel
theorem d2_39 : decode prog_186_method_2_code 39 = .ok (.aload_n 3, 1) := by decide +kernel
theorem d2_40 : decode prog_186_method_2_code 40 = .ok (.invokespecial 39, 3) := by decide +kernel
theorem d2_43 : decode prog_186_method_2_code 43 = .ok (.putfield 42, 3) := by decide +kernel
theorem d2_46 : decode prog_186_method_2_code 46 = .ok (.return_, 1) := by decide +kernel
theorem pn_2 : plainName sB = true := by first | (simp [plainName, overriddenIn]; done) | decide +kernel
theorem pd_2_0 : parseMethodDescriptor "(I)V" = some ⟨[.int], none⟩ := by decide +kernel
theorem pd_2_3 : parseMethodDescriptor "(ILcom/example/calpurnia/calpurnia/ranking/BestDocuments$DocumentOrder;)V" = some ⟨[.int, (.object "com/example/calpurnia/calpurnia/ranking/BestDocuments$DocumentOrder")], none⟩ := by decide +kernel
theorem ef_2_0 (m : MethodId) (x0 : Addr) : entryFrame m #[(.ref x0), (.int (0 : Int32)), .null, .null] 4 = mkF m 0 #[.val (.ref x0), .val (.int (0 : Int32)), .val .null, .val .null] [] := by first | (simp [entryFrame, mkF, argsToLocals, Value.category]; done) | rfl
def Q2_0 (Z : State) (a1 : Addr) (u_worstAsRead_a1 : Value) (u_capacity_a1 : Value) (u_best_a1 : Value) (u_asRead_a1 : Value) (u_ties_a1 : Value) (h0 : Heap) (n0 : Nat) (v : Option Value) (h : Heap) (L : List Loc) : Prop := ∃ hp da sa : Addr, v = none ∧ Fr n0 L ∧ Keep h0 h [a1] ∧ h0.size ≤ hp ∧ h0.size ≤ da ∧ h0.size ≤ sa ∧ hp ≠ da ∧ hp ≠ sa ∧ da ≠ sa ∧ Fld Z h a1 sB "capacity" "I" (.int (0 : Int32)) ∧ Fld Z h a1 sB "best" "Lcom/example/calpurnia/calpurnia/ranking/BestDocuments$Heap;" (.ref hp) ∧ Fld Z h a1 sB "asRead" "Ljava/util/function/DoubleUnaryOperator;" .null ∧ Fld Z h a1 sB "sorted" "Z" (.int (0 : Int32)) ∧ Exa Z h hp sH ∧ Fld Z h hp sH "documents" "[I" (.ref da) ∧ Fld Z h hp sH "scores" "[D" (.ref sa) ∧ Fld Z h hp sH "size" "I" (.int (0 : Int32)) ∧ (∃ D, own_AI Z h da (0 : Int32) D) ∧ (∃ S, own_AD Z h sa (0 : Int32) S)
set_option maxRecDepth 65536 in
set_option maxHeartbeats 40000000 in
theorem rm2_0 (l : Launch) (Z : State) (a0 : Array Value) (hw : ∀ d ∈ tables_1, d.before a0 Z = true) (ws : List Jvm.Cond) (a1 : Addr) (u_worstAsRead_a1 : Value) (u_capacity_a1 : Value) (u_best_a1 : Value) (u_asRead_a1 : Value) (u_ties_a1 : Value) (h0 : Heap) (n0 : Nat) (Z0 : n0 ≤ h0.size) (F_t : Fld Z h0 a1 sB "sorted" "Z" (.int (0 : Int32))) (E_a1 : Exa Z h0 a1 sB) (F_worstAsRead_a1 : Fld Z h0 a1 sB "worstAsRead" "D" u_worstAsRead_a1) (g_a1 : n0 ≤ a1) (F_capacity_a1 : Fld Z h0 a1 sB "capacity" "I" u_capacity_a1) (F_best_a1 : Fld Z h0 a1 sB "best" "Lcom/example/calpurnia/calpurnia/ranking/BestDocuments$Heap;" u_best_a1) (F_asRead_a1 : Fld Z h0 a1 sB "asRead" "Ljava/util/function/DoubleUnaryOperator;" u_asRead_a1) (F_ties_a1 : Fld Z h0 a1 sB "ties" "Lcom/example/calpurnia/calpurnia/ranking/BestDocuments$Ties;" u_ties_a1) :
    MetFree l (⟨sB, "<init>", "(ILjava/util/function/DoubleUnaryOperator;Lcom/example/calpurnia/calpurnia/ranking/BestDocuments$DocumentOrder;)V"⟩ : MethodName) (head1 (Jvm.Cond.code (⟨sB, "<init>", "(ILjava/util/function/DoubleUnaryOperator;Lcom/example/calpurnia/calpurnia/ranking/BestDocuments$DocumentOrder;)V"⟩ : MethodName) prog_186_method_2_code 4 none :: ws) ({ frames := 2, cells := 8, slots := 19, locals := 36 } : Room)) (fun a U => a = #[(.ref a1), (.int (0 : Int32)), .null, .null] ∧ Z.Warmed39 U.vm ∧ U.heap = h0) (fun _ _ _ _ _ => True) (fun _ U o U' => ∃ v L, o = .returned v ∧ Q2_0 Z a1 u_worstAsRead_a1 u_capacity_a1 u_best_a1 u_asRead_a1 u_ties_a1 h0 n0 v U'.heap L ∧ FrameEnd U o U' L ({ frames := 2, cells := 8, slots := 19, locals := 36 } : Room).cells ({ frames := 2, cells := 8, slots := 19, locals := 36 } : Room).slots) := by
  refine MetFree.of_bodySF (plainFor_of_name pn_2) hisR ?_
  intro p e s m args below meth c s₁ Bd hml0 hP hK
  obtain ⟨rfl, hZ, hh⟩ := hP
  have hx := Bd.exec
  have hby := Bd.bytes
  have hml : c.maxLocals = 4 := hml0
  have hown : s.vm.findClass sB = some m.cls := findClass_of_methodNamed Bd.named
  have hnm := (name_of_methodNamed Bd.named Bd.method).1
  have X0 : Stand p l e ({ frames := 2, cells := 8, slots := 19, locals := 36 } : Room) s m #[(.ref a1), (.int (0 : Int32)), .null, .null] below meth c s₁ [] 0 0 := Stand.of_body Bd
  have e0 : s₁.heap = h0 := by rw [← hh, Bd.state]; rfl
  have N0 := Fr.nil n0
  have pre0 : ∀ t, Steps p.tables e below (s₁.setTop (mkF m 0 #[.val (.ref a1), .val (.int (0 : Int32)), .val .null, .val .null] [])) t → Steps p.tables e below (s₁.setTop (entryFrame m #[(.ref a1), (.int (0 : Int32)), .null, .null] 4)) t := fun t k => castTop (ef_2_0 m a1) k

  obtain ⟨T2, X2, e2, st2⟩ := initO X0 hx hZ hown (ww hw 10 rfl) (ww hw 11 rfl) (ww hw 12 rfl) e0 (g := (mkF m 1 #[.val (.ref a1), .val (.int (0 : Int32)), .val .null, .val .null] [(.ref a1)])) rfl (by rw [hml]; rfl) rfl (hb hby d2_1) (by decide) (W := 0) (by show 2 * 0 + _ ≤ _; exact Nat.le_of_eq rfl) (by decide)
  obtain ⟨T3, h3, X3, e3, W3, st3⟩ := putF X2 hx hZ hown (host := "") (Or.inl (ww hw 14 rfl)) Via.refl e2 F_worstAsRead_a1 E_a1 (Or.inl (ww hw 15 rfl)) (ww hw 2 rfl) (ty := .double) (by decide) rfl rfl (g := (mkF m 8 #[.val (.ref a1), .val (.int (0 : Int32)), .val .null, .val .null] [(.double (9221120237041090560 : UInt64)), (.ref a1)])) rfl rfl (hb hby d2_8)
  have Fw3 := F_worstAsRead_a1.same W3
  have K3 : Keep h0 h3 [a1] := (Keep.refl h0 [a1]).wr W3 (Or.inl (List.mem_of_getElem? (i := 0) rfl))
  have N3 := Fr.snoc X3 N0 g_a1
  obtain ⟨T4, h4, X4, e4, W4, st4⟩ := putF X3 hx hZ hown (host := "") (Or.inl (ww hw 16 rfl)) Via.refl e3 (F_capacity_a1.other W3 (Or.inr (slot_ne (Or.inr (ww hw 17 rfl)) (Or.inl (ww hw 15 rfl)) (by decide) (t := .int) (t' := .double) (by decide) (by decide)))) (E_a1.wr W3) (Or.inr ⟨(ww hw 17 rfl), rfl, hnm⟩) (ww hw 2 rfl) (ty := .int) (by decide) rfl rfl (g := (mkF m 13 #[.val (.ref a1), .val (.int (0 : Int32)), .val .null, .val .null] [(.int (0 : Int32)), (.ref a1)])) rfl rfl (hb hby d2_13)
  have Fw4 := (F_capacity_a1.other W3 (Or.inr (slot_ne (Or.inr (ww hw 17 rfl)) (Or.inl (ww hw 15 rfl)) (by decide) (t := .int) (t' := .double) (by decide) (by decide)))).same W4
  have K4 : Keep h0 h4 [a1] := K3.wr W4 (Or.inl (List.mem_of_getElem? (i := 0) rfl))
  have N4 := Fr.snoc X4 N3 g_a1
  obtain ⟨T5, h5, X5, e5, E5, A5, D5, -, st5⟩ := newO X4 hx hZ hown (ww hw 18 rfl) (ww hw 19 rfl) (ww hw 20 rfl) e4 (g := (mkF m 17 #[.val (.ref a1), .val (.int (0 : Int32)), .val .null, .val .null] [(.ref a1)])) rfl (hb hby d2_17) (by decide) (by decide)
  obtain ⟨b5, g5⟩ : ∃ z, z = h4.size := ⟨_, rfl⟩
  rw [← g5] at A5 D5 st5
  have F_documents_b5 : Fld Z h5 b5 sH "documents" "[I" .null := D5 (Or.inl (ww hw 27 rfl)) (ty := (.array .int)) (by decide)
  have F_scores_b5 : Fld Z h5 b5 sH "scores" "[D" .null := D5 (Or.inl (ww hw 30 rfl)) (ty := (.array .double)) (by decide)
  have F_size_b5 : Fld Z h5 b5 sH "size" "I" (.int (0 : Int32)) := D5 (Or.inl (ww hw 62 rfl)) (ty := .int) (by decide)
  have E_b5 := A5
  have g_b5 : n0 ≤ b5 := Nat.le_trans (Nat.le_trans (Nat.le_trans Z0 (Keep.of_wr W3).1) (Keep.of_wr W4).1) (Nat.le_of_eq g5.symm)
  have sz_b5 : h0.size ≤ b5 := (Nat.le_trans K4.1 (Nat.le_of_eq g5.symm))
  have K5 : Keep h0 h5 [a1] := K4.ext E5
  obtain ⟨_, _, ⟨T6, L6, k6, n6⟩, -, X6, ⟨Lc6, hQ6, l6, y6, z6⟩, st6⟩ := X5.specialBack hx (y := (⟨sH, "<init>", "(I)V"⟩ : MethodName)) rfl hown (mvT hZ (ww hw 21 rfl)) (mvT hZ (ww hw 22 rfl)) (mvT hZ (ww hw 23 rfl)) (by decide) (backOf (W := 2) (rm4_0 l Z a0 hw [] b5 _ _ h5 n0 (Nat.le_trans (Nat.le_trans (Nat.le_trans Z0 (Keep.of_wr W3).1) (Keep.of_wr W4).1) E5.1) F_size_b5 E_b5 F_documents_b5 g_b5 F_scores_b5) hZ (ww hw 23 rfl) (ww hw 20 rfl) (by decide) (by decide)) (g := (mkF m 22 #[.val (.ref a1), .val (.int (0 : Int32)), .val .null, .val .null] [(.int (0 : Int32)), (.ref b5), (.ref b5), (.ref a1)])) rfl (by rw [hml]; rfl) (Steps.refl _) (a := b5) (argsL := [(.int (0 : Int32))]) (rest := [(.ref b5), (.ref a1)]) (lenOf pd_2_0 rfl) rfl (by show 2 * 0 + _ ≤ _; exact Nat.le_of_eq rfl) (hb hby d2_22) (fun _ _ => ⟨rfl, e5, (by decide : 1 + 2 ≤ _), (by decide : 3 + 0 ≤ _)⟩)
  dsimp only [Pt.U, Pt.locs, Pt.cells, Pt.slots] at X6 l6 y6 z6 st6 hQ6
  subst l6 y6 z6
  obtain ⟨da6, sa6, rfl, N6q, Kc6, hd6, hs6, nds6, Fd6, Fs6, Fz6, ⟨D6, Vd6⟩, ⟨S6, Vs6⟩⟩ := hQ6
  have N6 := Fr.app N4 N6q
  have g_da6 : n0 ≤ da6 := Nat.le_trans (Nat.le_trans (Nat.le_trans (Nat.le_trans Z0 (Keep.of_wr W3).1) (Keep.of_wr W4).1) E5.1) hd6
  have sz_da6 : h0.size ≤ da6 := Nat.le_trans K5.1 hd6
  have g_sa6 : n0 ≤ sa6 := Nat.le_trans (Nat.le_trans (Nat.le_trans (Nat.le_trans Z0 (Keep.of_wr W3).1) (Keep.of_wr W4).1) E5.1) hs6
  have sz_sa6 : h0.size ≤ sa6 := Nat.le_trans K5.1 hs6
  have K6 : Keep h0 T6.heap [a1] := K5.trans Kc6 (allS (Or.inr sz_b5) all0)
  obtain ⟨T7, h7, X7, e7, W7, st7⟩ := putF X6 hx hZ hown (host := "") (Or.inl (ww hw 31 rfl)) Via.refl rfl ((((F_best_a1.other W3 (Or.inr (slot_ne (Or.inr (ww hw 32 rfl)) (Or.inl (ww hw 15 rfl)) (by decide) (t := (.object sH)) (t' := .double) (by decide) (by decide)))).other W4 (Or.inr (slot_ne (Or.inr (ww hw 32 rfl)) (Or.inr (ww hw 17 rfl)) (by decide) (t := (.object sH)) (t' := .int) (by decide) (by decide)))).ext E5).keep Kc6 (ninS (Nat.ne_of_lt (Nat.lt_of_lt_of_le ((F_t.other W3 (Or.inr (slot_ne (Or.inl (ww hw 73 rfl)) (Or.inl (ww hw 15 rfl)) (by decide) (t := .boolean) (t' := .double) (by decide) (by decide)))).other W4 (Or.inr (slot_ne (Or.inl (ww hw 73 rfl)) (Or.inr (ww hw 17 rfl)) (by decide) (t := .boolean) (t' := .int) (by decide) (by decide)))).lt (Nat.le_of_eq g5.symm))) nin0)) ((((E_a1.wr W3).wr W4).ext E5).keep Kc6) (Or.inr ⟨(ww hw 32 rfl), rfl, hnm⟩) (ww hw 2 rfl) (ty := (.object sH)) (by decide) rfl rfl (g := (mkF m 25 #[.val (.ref a1), .val (.int (0 : Int32)), .val .null, .val .null] [(.ref b5), (.ref a1)])) rfl rfl (hb hby d2_25)
  have Fw7 := ((((F_best_a1.other W3 (Or.inr (slot_ne (Or.inr (ww hw 32 rfl)) (Or.inl (ww hw 15 rfl)) (by decide) (t := (.object sH)) (t' := .double) (by decide) (by decide)))).other W4 (Or.inr (slot_ne (Or.inr (ww hw 32 rfl)) (Or.inr (ww hw 17 rfl)) (by decide) (t := (.object sH)) (t' := .int) (by decide) (by decide)))).ext E5).keep Kc6 (ninS (Nat.ne_of_lt (Nat.lt_of_lt_of_le ((F_t.other W3 (Or.inr (slot_ne (Or.inl (ww hw 73 rfl)) (Or.inl (ww hw 15 rfl)) (by decide) (t := .boolean) (t' := .double) (by decide) (by decide)))).other W4 (Or.inr (slot_ne (Or.inl (ww hw 73 rfl)) (Or.inr (ww hw 17 rfl)) (by decide) (t := .boolean) (t' := .int) (by decide) (by decide)))).lt (Nat.le_of_eq g5.symm))) nin0)).same W7
  have K7 : Keep h0 h7 [a1] := K6.wr W7 (Or.inl (List.mem_of_getElem? (i := 0) rfl))
  have N7 := Fr.snoc X7 N6 g_a1
  obtain ⟨T8, h8, X8, e8, W8, st8⟩ := putF X7 hx hZ hown (host := "") (Or.inl (ww hw 33 rfl)) Via.refl e7 (((((F_asRead_a1.other W3 (Or.inr (slot_ne (Or.inr (ww hw 34 rfl)) (Or.inl (ww hw 15 rfl)) (by decide) (t := (.object "java/util/function/DoubleUnaryOperator")) (t' := .double) (by decide) (by decide)))).other W4 (Or.inr (slot_ne (Or.inr (ww hw 34 rfl)) (Or.inr (ww hw 17 rfl)) (by decide) (t := (.object "java/util/function/DoubleUnaryOperator")) (t' := .int) (by decide) (by decide)))).ext E5).keep Kc6 (ninS (Nat.ne_of_lt (Nat.lt_of_lt_of_le ((F_t.other W3 (Or.inr (slot_ne (Or.inl (ww hw 73 rfl)) (Or.inl (ww hw 15 rfl)) (by decide) (t := .boolean) (t' := .double) (by decide) (by decide)))).other W4 (Or.inr (slot_ne (Or.inl (ww hw 73 rfl)) (Or.inr (ww hw 17 rfl)) (by decide) (t := .boolean) (t' := .int) (by decide) (by decide)))).lt (Nat.le_of_eq g5.symm))) nin0)).other W7 (Or.inr (slot_ne (Or.inr (ww hw 34 rfl)) (Or.inr (ww hw 32 rfl)) (by decide) (t := (.object "java/util/function/DoubleUnaryOperator")) (t' := (.object sH)) (by decide) (by decide)))) (((((E_a1.wr W3).wr W4).ext E5).keep Kc6).wr W7) (Or.inr ⟨(ww hw 34 rfl), rfl, hnm⟩) (ww hw 2 rfl) (ty := (.object "java/util/function/DoubleUnaryOperator")) (by decide) rfl rfl (g := (mkF m 30 #[.val (.ref a1), .val (.int (0 : Int32)), .val .null, .val .null] [.null, (.ref a1)])) rfl rfl (hb hby d2_30)
  have Fw8 := (((((F_asRead_a1.other W3 (Or.inr (slot_ne (Or.inr (ww hw 34 rfl)) (Or.inl (ww hw 15 rfl)) (by decide) (t := (.object "java/util/function/DoubleUnaryOperator")) (t' := .double) (by decide) (by decide)))).other W4 (Or.inr (slot_ne (Or.inr (ww hw 34 rfl)) (Or.inr (ww hw 17 rfl)) (by decide) (t := (.object "java/util/function/DoubleUnaryOperator")) (t' := .int) (by decide) (by decide)))).ext E5).keep Kc6 (ninS (Nat.ne_of_lt (Nat.lt_of_lt_of_le ((F_t.other W3 (Or.inr (slot_ne (Or.inl (ww hw 73 rfl)) (Or.inl (ww hw 15 rfl)) (by decide) (t := .boolean) (t' := .double) (by decide) (by decide)))).other W4 (Or.inr (slot_ne (Or.inl (ww hw 73 rfl)) (Or.inr (ww hw 17 rfl)) (by decide) (t := .boolean) (t' := .int) (by decide) (by decide)))).lt (Nat.le_of_eq g5.symm))) nin0)).other W7 (Or.inr (slot_ne (Or.inr (ww hw 34 rfl)) (Or.inr (ww hw 32 rfl)) (by decide) (t := (.object "java/util/function/DoubleUnaryOperator")) (t' := (.object sH)) (by decide) (by decide)))).same W8
  have K8 : Keep h0 h8 [a1] := K7.wr W8 (Or.inl (List.mem_of_getElem? (i := 0) rfl))
  have N8 := Fr.snoc X8 N7 g_a1
  obtain ⟨T9, h9, X9, e9, E9, A9, D9, -, st9⟩ := newO X8 hx hZ hown (ww hw 35 rfl) (ww hw 36 rfl) (ww hw 37 rfl) e8 (g := (mkF m 34 #[.val (.ref a1), .val (.int (0 : Int32)), .val .null, .val .null] [(.ref a1)])) rfl (hb hby d2_34) (by decide) (by decide)
  obtain ⟨b9, g9⟩ : ∃ z, z = h8.size := ⟨_, rfl⟩
  rw [← g9] at A9 D9 st9
  have F_documents_b9 : Fld Z h9 b9 sT "documents" "[I" .null := D9 (Or.inl (ww hw 43 rfl)) (ty := (.array .int)) (by decide)
  have F_scores_b9 : Fld Z h9 b9 sT "scores" "[D" .null := D9 (Or.inl (ww hw 45 rfl)) (ty := (.array .double)) (by decide)
  have F_merged_b9 : Fld Z h9 b9 sT "merged" "[I" .null := D9 (Or.inl (ww hw 47 rfl)) (ty := (.array .int)) (by decide)
  have F_mergedScores_b9 : Fld Z h9 b9 sT "mergedScores" "[D" .null := D9 (Or.inl (ww hw 49 rfl)) (ty := (.array .double)) (by decide)
  have F_capacity_b9 : Fld Z h9 b9 sT "capacity" "I" (.int (0 : Int32)) := D9 (Or.inr (ww hw 51 rfl)) (ty := .int) (by decide)
  have F_order_b9 : Fld Z h9 b9 sT "order" "Lcom/example/calpurnia/calpurnia/ranking/BestDocuments$DocumentOrder;" .null := D9 (Or.inr (ww hw 53 rfl)) (ty := (.object "com/example/calpurnia/calpurnia/ranking/BestDocuments$DocumentOrder")) (by decide)
  have E_b9 := A9
  have g_b9 : n0 ≤ b9 := Nat.le_trans (Nat.le_trans (Nat.le_trans (Nat.le_trans (Nat.le_trans (Nat.le_trans (Nat.le_trans Z0 (Keep.of_wr W3).1) (Keep.of_wr W4).1) E5.1) Kc6.1) (Keep.of_wr W7).1) (Keep.of_wr W8).1) (Nat.le_of_eq g9.symm)
  have sz_b9 : h0.size ≤ b9 := (Nat.le_trans K8.1 (Nat.le_of_eq g9.symm))
  have K9 : Keep h0 h9 [a1] := K8.ext E9
  obtain ⟨_, _, ⟨T10, L10, k10, n10⟩, -, X10, ⟨Lc10, hQ10, l10, y10, z10⟩, st10⟩ := X9.specialBack hx (y := (⟨sT, "<init>", "(ILcom/example/calpurnia/calpurnia/ranking/BestDocuments$DocumentOrder;)V"⟩ : MethodName)) rfl hown (mvT hZ (ww hw 38 rfl)) (mvT hZ (ww hw 39 rfl)) (mvT hZ (ww hw 40 rfl)) (by decide) (backOf (W := 2) (rm5 l Z a0 hw [] b9 (0 : Int32) _ _ _ _ _ _ h9 n0 (Nat.le_trans (Nat.le_trans (Nat.le_trans (Nat.le_trans (Nat.le_trans (Nat.le_trans (Nat.le_trans Z0 (Keep.of_wr W3).1) (Keep.of_wr W4).1) E5.1) Kc6.1) (Keep.of_wr W7).1) (Keep.of_wr W8).1) E9.1) E_b9 F_documents_b9 g_b9 F_scores_b9 F_merged_b9 F_mergedScores_b9 F_capacity_b9 F_order_b9) hZ (ww hw 40 rfl) (ww hw 37 rfl) (by decide) (by decide)) (g := (mkF m 40 #[.val (.ref a1), .val (.int (0 : Int32)), .val .null, .val .null] [.null, (.int (0 : Int32)), (.ref b9), (.ref b9), (.ref a1)])) rfl (by rw [hml]; rfl) (Steps.refl _) (a := b9) (argsL := [(.int (0 : Int32)), .null]) (rest := [(.ref b9), (.ref a1)]) (lenOf pd_2_3 rfl) rfl (by show 2 * 0 + _ ≤ _; exact Nat.le_of_eq rfl) (hb hby d2_40) (fun _ _ => ⟨rfl, e9, (by decide : 4 + 4 ≤ _), (by decide : 13 + 0 ≤ _)⟩)
  dsimp only [Pt.U, Pt.locs, Pt.cells, Pt.slots] at X10 l10 y10 z10 st10 hQ10
  subst l10 y10 z10
  obtain ⟨rfl, N10q, Kc10⟩ := hQ10
  have N10 := Fr.app N8 N10q
  have K10 : Keep h0 T10.heap [a1] := K9.trans Kc10 (allS (Or.inr sz_b9) all0)
  obtain ⟨T11, h11, X11, e11, W11, st11⟩ := putF X10 hx hZ hown (host := "") (Or.inl (ww hw 54 rfl)) Via.refl rfl ((((((((F_ties_a1.other W3 (Or.inr (slot_ne (Or.inr (ww hw 55 rfl)) (Or.inl (ww hw 15 rfl)) (by decide) (t := (.object sT)) (t' := .double) (by decide) (by decide)))).other W4 (Or.inr (slot_ne (Or.inr (ww hw 55 rfl)) (Or.inr (ww hw 17 rfl)) (by decide) (t := (.object sT)) (t' := .int) (by decide) (by decide)))).ext E5).keep Kc6 (ninS (Nat.ne_of_lt (Nat.lt_of_lt_of_le ((F_t.other W3 (Or.inr (slot_ne (Or.inl (ww hw 73 rfl)) (Or.inl (ww hw 15 rfl)) (by decide) (t := .boolean) (t' := .double) (by decide) (by decide)))).other W4 (Or.inr (slot_ne (Or.inl (ww hw 73 rfl)) (Or.inr (ww hw 17 rfl)) (by decide) (t := .boolean) (t' := .int) (by decide) (by decide)))).lt (Nat.le_of_eq g5.symm))) nin0)).other W7 (Or.inr (slot_ne (Or.inr (ww hw 55 rfl)) (Or.inr (ww hw 32 rfl)) (by decide) (t := (.object sT)) (t' := (.object sH)) (by decide) (by decide)))).other W8 (Or.inr (slot_ne (Or.inr (ww hw 55 rfl)) (Or.inr (ww hw 34 rfl)) (by decide) (t := (.object sT)) (t' := (.object "java/util/function/DoubleUnaryOperator")) (by decide) (by decide)))).ext E9).keep Kc10 (ninS (Nat.ne_of_lt (Nat.lt_of_lt_of_le ((((((F_t.other W3 (Or.inr (slot_ne (Or.inl (ww hw 73 rfl)) (Or.inl (ww hw 15 rfl)) (by decide) (t := .boolean) (t' := .double) (by decide) (by decide)))).other W4 (Or.inr (slot_ne (Or.inl (ww hw 73 rfl)) (Or.inr (ww hw 17 rfl)) (by decide) (t := .boolean) (t' := .int) (by decide) (by decide)))).ext E5).keep Kc6 (ninS (Nat.ne_of_lt (Nat.lt_of_lt_of_le ((F_t.other W3 (Or.inr (slot_ne (Or.inl (ww hw 73 rfl)) (Or.inl (ww hw 15 rfl)) (by decide) (t := .boolean) (t' := .double) (by decide) (by decide)))).other W4 (Or.inr (slot_ne (Or.inl (ww hw 73 rfl)) (Or.inr (ww hw 17 rfl)) (by decide) (t := .boolean) (t' := .int) (by decide) (by decide)))).lt (Nat.le_of_eq g5.symm))) nin0)).other W7 (Or.inr (slot_ne (Or.inl (ww hw 73 rfl)) (Or.inr (ww hw 32 rfl)) (by decide) (t := .boolean) (t' := (.object sH)) (by decide) (by decide)))).other W8 (Or.inr (slot_ne (Or.inl (ww hw 73 rfl)) (Or.inr (ww hw 34 rfl)) (by decide) (t := .boolean) (t' := (.object "java/util/function/DoubleUnaryOperator")) (by decide) (by decide)))).lt (Nat.le_of_eq g9.symm))) nin0)) ((((((((E_a1.wr W3).wr W4).ext E5).keep Kc6).wr W7).wr W8).ext E9).keep Kc10) (Or.inr ⟨(ww hw 55 rfl), rfl, hnm⟩) (ww hw 2 rfl) (ty := (.object sT)) (by decide) rfl rfl (g := (mkF m 43 #[.val (.ref a1), .val (.int (0 : Int32)), .val .null, .val .null] [(.ref b9), (.ref a1)])) rfl rfl (hb hby d2_43)
  have Fw11 := ((((((((F_ties_a1.other W3 (Or.inr (slot_ne (Or.inr (ww hw 55 rfl)) (Or.inl (ww hw 15 rfl)) (by decide) (t := (.object sT)) (t' := .double) (by decide) (by decide)))).other W4 (Or.inr (slot_ne (Or.inr (ww hw 55 rfl)) (Or.inr (ww hw 17 rfl)) (by decide) (t := (.object sT)) (t' := .int) (by decide) (by decide)))).ext E5).keep Kc6 (ninS (Nat.ne_of_lt (Nat.lt_of_lt_of_le ((F_t.other W3 (Or.inr (slot_ne (Or.inl (ww hw 73 rfl)) (Or.inl (ww hw 15 rfl)) (by decide) (t := .boolean) (t' := .double) (by decide) (by decide)))).other W4 (Or.inr (slot_ne (Or.inl (ww hw 73 rfl)) (Or.inr (ww hw 17 rfl)) (by decide) (t := .boolean) (t' := .int) (by decide) (by decide)))).lt (Nat.le_of_eq g5.symm))) nin0)).other W7 (Or.inr (slot_ne (Or.inr (ww hw 55 rfl)) (Or.inr (ww hw 32 rfl)) (by decide) (t := (.object sT)) (t' := (.object sH)) (by decide) (by decide)))).other W8 (Or.inr (slot_ne (Or.inr (ww hw 55 rfl)) (Or.inr (ww hw 34 rfl)) (by decide) (t := (.object sT)) (t' := (.object "java/util/function/DoubleUnaryOperator")) (by decide) (by decide)))).ext E9).keep Kc10 (ninS (Nat.ne_of_lt (Nat.lt_of_lt_of_le ((((((F_t.other W3 (Or.inr (slot_ne (Or.inl (ww hw 73 rfl)) (Or.inl (ww hw 15 rfl)) (by decide) (t := .boolean) (t' := .double) (by decide) (by decide)))).other W4 (Or.inr (slot_ne (Or.inl (ww hw 73 rfl)) (Or.inr (ww hw 17 rfl)) (by decide) (t := .boolean) (t' := .int) (by decide) (by decide)))).ext E5).keep Kc6 (ninS (Nat.ne_of_lt (Nat.lt_of_lt_of_le ((F_t.other W3 (Or.inr (slot_ne (Or.inl (ww hw 73 rfl)) (Or.inl (ww hw 15 rfl)) (by decide) (t := .boolean) (t' := .double) (by decide) (by decide)))).other W4 (Or.inr (slot_ne (Or.inl (ww hw 73 rfl)) (Or.inr (ww hw 17 rfl)) (by decide) (t := .boolean) (t' := .int) (by decide) (by decide)))).lt (Nat.le_of_eq g5.symm))) nin0)).other W7 (Or.inr (slot_ne (Or.inl (ww hw 73 rfl)) (Or.inr (ww hw 32 rfl)) (by decide) (t := .boolean) (t' := (.object sH)) (by decide) (by decide)))).other W8 (Or.inr (slot_ne (Or.inl (ww hw 73 rfl)) (Or.inr (ww hw 34 rfl)) (by decide) (t := .boolean) (t' := (.object "java/util/function/DoubleUnaryOperator")) (by decide) (by decide)))).lt (Nat.le_of_eq g9.symm))) nin0)).same W11
  have K11 : Keep h0 h11 [a1] := K10.wr W11 (Or.inl (List.mem_of_getElem? (i := 0) rfl))
  have N11 := Fr.snoc X11 N10 g_a1
  obtain ⟨fs, hr, hrun, hended, hW, hsame⟩ := X11.leave (v := none) (fun _ => rfl)
  refine ⟨_, _, pre0 _ ?_, hrun, hended, _, _, rfl, ?_, ⟨_, rfl⟩, hW, hsame.mono (by decide) (by decide)⟩
  · show Steps _ _ _ (s₁.setTop (mkF m 0 #[.val (.ref a1), .val (.int (0 : Int32)), .val .null, .val .null] [])) _
    refine XS.aloadN X0.here hx rfl (hb hby d2_0) rfl rfl ?_
    refine st2 _ ?_
    refine XS.aloadN X2.here hx rfl (hb hby d2_4) rfl rfl ?_
    refine X2.ldc2DoubleC hx hown (mvT hZ (ww hw 13 rfl)) (g := (mkF m 5 #[.val (.ref a1), .val (.int (0 : Int32)), .val .null, .val .null] [(.ref a1)])) rfl (hb hby d2_5) _ ?_
    refine st3 _ ?_
    refine XS.aloadN X3.here hx rfl (hb hby d2_11) rfl rfl ?_
    refine XS.iloadN X3.here hx rfl (hb hby d2_12) rfl ?_
    refine st4 _ ?_
    refine XS.aloadN X4.here hx rfl (hb hby d2_16) rfl rfl ?_
    refine st5 _ ?_
    refine XS.dup X5.here hx rfl (hb hby d2_20) rfl rfl ?_
    refine XS.iloadN X5.here hx rfl (hb hby d2_21) rfl ?_
    refine st6.trans ?_
    refine st7 _ ?_
    refine XS.aloadN X7.here hx rfl (hb hby d2_28) rfl rfl ?_
    refine XS.aloadN X7.here hx rfl (hb hby d2_29) rfl rfl ?_
    refine st8 _ ?_
    refine XS.aloadN X8.here hx rfl (hb hby d2_33) rfl rfl ?_
    refine st9 _ ?_
    refine XS.dup X9.here hx rfl (hb hby d2_37) rfl rfl ?_
    refine XS.iloadN X9.here hx rfl (hb hby d2_38) rfl ?_
    refine XS.aloadN X9.here hx rfl (hb hby d2_39) rfl rfl ?_
    refine st10.trans ?_
    refine st11 _ ?_
    exact X11.returnOut hx Bd.returns (hb hby d2_46) hr
  · show Q2_0 Z a1 u_worstAsRead_a1 u_capacity_a1 u_best_a1 u_asRead_a1 u_ties_a1 h0 n0 _ T11.heap _
    rw [e11]
    exact ⟨b5, da6, sa6, rfl, N11, K11, sz_b5, sz_da6, sz_sa6, (Nat.ne_of_lt (Nat.lt_of_lt_of_le E_b5.lt hd6)), (Nat.ne_of_lt (Nat.lt_of_lt_of_le E_b5.lt hs6)), nds6, (((((((Fw4.ext E5).keep Kc6 (ninS (Nat.ne_of_lt (Nat.lt_of_lt_of_le ((F_t.other W3 (Or.inr (slot_ne (Or.inl (ww hw 73 rfl)) (Or.inl (ww hw 15 rfl)) (by decide) (t := .boolean) (t' := .double) (by decide) (by decide)))).other W4 (Or.inr (slot_ne (Or.inl (ww hw 73 rfl)) (Or.inr (ww hw 17 rfl)) (by decide) (t := .boolean) (t' := .int) (by decide) (by decide)))).lt (Nat.le_of_eq g5.symm))) nin0)).other W7 (Or.inr (slot_ne (Or.inr (ww hw 17 rfl)) (Or.inr (ww hw 32 rfl)) (by decide) (t := .int) (t' := (.object sH)) (by decide) (by decide)))).other W8 (Or.inr (slot_ne (Or.inr (ww hw 17 rfl)) (Or.inr (ww hw 34 rfl)) (by decide) (t := .int) (t' := (.object "java/util/function/DoubleUnaryOperator")) (by decide) (by decide)))).ext E9).keep Kc10 (ninS (Nat.ne_of_lt (Nat.lt_of_lt_of_le ((((((F_t.other W3 (Or.inr (slot_ne (Or.inl (ww hw 73 rfl)) (Or.inl (ww hw 15 rfl)) (by decide) (t := .boolean) (t' := .double) (by decide) (by decide)))).other W4 (Or.inr (slot_ne (Or.inl (ww hw 73 rfl)) (Or.inr (ww hw 17 rfl)) (by decide) (t := .boolean) (t' := .int) (by decide) (by decide)))).ext E5).keep Kc6 (ninS (Nat.ne_of_lt (Nat.lt_of_lt_of_le ((F_t.other W3 (Or.inr (slot_ne (Or.inl (ww hw 73 rfl)) (Or.inl (ww hw 15 rfl)) (by decide) (t := .boolean) (t' := .double) (by decide) (by decide)))).other W4 (Or.inr (slot_ne (Or.inl (ww hw 73 rfl)) (Or.inr (ww hw 17 rfl)) (by decide) (t := .boolean) (t' := .int) (by decide) (by decide)))).lt (Nat.le_of_eq g5.symm))) nin0)).other W7 (Or.inr (slot_ne (Or.inl (ww hw 73 rfl)) (Or.inr (ww hw 32 rfl)) (by decide) (t := .boolean) (t' := (.object sH)) (by decide) (by decide)))).other W8 (Or.inr (slot_ne (Or.inl (ww hw 73 rfl)) (Or.inr (ww hw 34 rfl)) (by decide) (t := .boolean) (t' := (.object "java/util/function/DoubleUnaryOperator")) (by decide) (by decide)))).lt (Nat.le_of_eq g9.symm))) nin0)).other W11 (Or.inr (slot_ne (Or.inr (ww hw 17 rfl)) (Or.inr (ww hw 55 rfl)) (by decide) (t := .int) (t' := (.object sT)) (by decide) (by decide)))), ((((Fw7.other W8 (Or.inr (slot_ne (Or.inr (ww hw 32 rfl)) (Or.inr (ww hw 34 rfl)) (by decide) (t := (.object sH)) (t' := (.object "java/util/function/DoubleUnaryOperator")) (by decide) (by decide)))).ext E9).keep Kc10 (ninS (Nat.ne_of_lt (Nat.lt_of_lt_of_le ((((((F_t.other W3 (Or.inr (slot_ne (Or.inl (ww hw 73 rfl)) (Or.inl (ww hw 15 rfl)) (by decide) (t := .boolean) (t' := .double) (by decide) (by decide)))).other W4 (Or.inr (slot_ne (Or.inl (ww hw 73 rfl)) (Or.inr (ww hw 17 rfl)) (by decide) (t := .boolean) (t' := .int) (by decide) (by decide)))).ext E5).keep Kc6 (ninS (Nat.ne_of_lt (Nat.lt_of_lt_of_le ((F_t.other W3 (Or.inr (slot_ne (Or.inl (ww hw 73 rfl)) (Or.inl (ww hw 15 rfl)) (by decide) (t := .boolean) (t' := .double) (by decide) (by decide)))).other W4 (Or.inr (slot_ne (Or.inl (ww hw 73 rfl)) (Or.inr (ww hw 17 rfl)) (by decide) (t := .boolean) (t' := .int) (by decide) (by decide)))).lt (Nat.le_of_eq g5.symm))) nin0)).other W7 (Or.inr (slot_ne (Or.inl (ww hw 73 rfl)) (Or.inr (ww hw 32 rfl)) (by decide) (t := .boolean) (t' := (.object sH)) (by decide) (by decide)))).other W8 (Or.inr (slot_ne (Or.inl (ww hw 73 rfl)) (Or.inr (ww hw 34 rfl)) (by decide) (t := .boolean) (t' := (.object "java/util/function/DoubleUnaryOperator")) (by decide) (by decide)))).lt (Nat.le_of_eq g9.symm))) nin0)).other W11 (Or.inr (slot_ne (Or.inr (ww hw 32 rfl)) (Or.inr (ww hw 55 rfl)) (by decide) (t := (.object sH)) (t' := (.object sT)) (by decide) (by decide)))), (((Fw8.ext E9).keep Kc10 (ninS (Nat.ne_of_lt (Nat.lt_of_lt_of_le ((((((F_t.other W3 (Or.inr (slot_ne (Or.inl (ww hw 73 rfl)) (Or.inl (ww hw 15 rfl)) (by decide) (t := .boolean) (t' := .double) (by decide) (by decide)))).other W4 (Or.inr (slot_ne (Or.inl (ww hw 73 rfl)) (Or.inr (ww hw 17 rfl)) (by decide) (t := .boolean) (t' := .int) (by decide) (by decide)))).ext E5).keep Kc6 (ninS (Nat.ne_of_lt (Nat.lt_of_lt_of_le ((F_t.other W3 (Or.inr (slot_ne (Or.inl (ww hw 73 rfl)) (Or.inl (ww hw 15 rfl)) (by decide) (t := .boolean) (t' := .double) (by decide) (by decide)))).other W4 (Or.inr (slot_ne (Or.inl (ww hw 73 rfl)) (Or.inr (ww hw 17 rfl)) (by decide) (t := .boolean) (t' := .int) (by decide) (by decide)))).lt (Nat.le_of_eq g5.symm))) nin0)).other W7 (Or.inr (slot_ne (Or.inl (ww hw 73 rfl)) (Or.inr (ww hw 32 rfl)) (by decide) (t := .boolean) (t' := (.object sH)) (by decide) (by decide)))).other W8 (Or.inr (slot_ne (Or.inl (ww hw 73 rfl)) (Or.inr (ww hw 34 rfl)) (by decide) (t := .boolean) (t' := (.object "java/util/function/DoubleUnaryOperator")) (by decide) (by decide)))).lt (Nat.le_of_eq g9.symm))) nin0)).other W11 (Or.inr (slot_ne (Or.inr (ww hw 34 rfl)) (Or.inr (ww hw 55 rfl)) (by decide) (t := (.object "java/util/function/DoubleUnaryOperator")) (t' := (.object sT)) (by decide) (by decide)))), (((((((((F_t.other W3 (Or.inr (slot_ne (Or.inl (ww hw 73 rfl)) (Or.inl (ww hw 15 rfl)) (by decide) (t := .boolean) (t' := .double) (by decide) (by decide)))).other W4 (Or.inr (slot_ne (Or.inl (ww hw 73 rfl)) (Or.inr (ww hw 17 rfl)) (by decide) (t := .boolean) (t' := .int) (by decide) (by decide)))).ext E5).keep Kc6 (ninS (Nat.ne_of_lt (Nat.lt_of_lt_of_le ((F_t.other W3 (Or.inr (slot_ne (Or.inl (ww hw 73 rfl)) (Or.inl (ww hw 15 rfl)) (by decide) (t := .boolean) (t' := .double) (by decide) (by decide)))).other W4 (Or.inr (slot_ne (Or.inl (ww hw 73 rfl)) (Or.inr (ww hw 17 rfl)) (by decide) (t := .boolean) (t' := .int) (by decide) (by decide)))).lt (Nat.le_of_eq g5.symm))) nin0)).other W7 (Or.inr (slot_ne (Or.inl (ww hw 73 rfl)) (Or.inr (ww hw 32 rfl)) (by decide) (t := .boolean) (t' := (.object sH)) (by decide) (by decide)))).other W8 (Or.inr (slot_ne (Or.inl (ww hw 73 rfl)) (Or.inr (ww hw 34 rfl)) (by decide) (t := .boolean) (t' := (.object "java/util/function/DoubleUnaryOperator")) (by decide) (by decide)))).ext E9).keep Kc10 (ninS (Nat.ne_of_lt (Nat.lt_of_lt_of_le ((((((F_t.other W3 (Or.inr (slot_ne (Or.inl (ww hw 73 rfl)) (Or.inl (ww hw 15 rfl)) (by decide) (t := .boolean) (t' := .double) (by decide) (by decide)))).other W4 (Or.inr (slot_ne (Or.inl (ww hw 73 rfl)) (Or.inr (ww hw 17 rfl)) (by decide) (t := .boolean) (t' := .int) (by decide) (by decide)))).ext E5).keep Kc6 (ninS (Nat.ne_of_lt (Nat.lt_of_lt_of_le ((F_t.other W3 (Or.inr (slot_ne (Or.inl (ww hw 73 rfl)) (Or.inl (ww hw 15 rfl)) (by decide) (t := .boolean) (t' := .double) (by decide) (by decide)))).other W4 (Or.inr (slot_ne (Or.inl (ww hw 73 rfl)) (Or.inr (ww hw 17 rfl)) (by decide) (t := .boolean) (t' := .int) (by decide) (by decide)))).lt (Nat.le_of_eq g5.symm))) nin0)).other W7 (Or.inr (slot_ne (Or.inl (ww hw 73 rfl)) (Or.inr (ww hw 32 rfl)) (by decide) (t := .boolean) (t' := (.object sH)) (by decide) (by decide)))).other W8 (Or.inr (slot_ne (Or.inl (ww hw 73 rfl)) (Or.inr (ww hw 34 rfl)) (by decide) (t := .boolean) (t' := (.object "java/util/function/DoubleUnaryOperator")) (by decide) (by decide)))).lt (Nat.le_of_eq g9.symm))) nin0)).other W11 (Or.inr (slot_ne (Or.inl (ww hw 73 rfl)) (Or.inr (ww hw 55 rfl)) (by decide) (t := .boolean) (t' := (.object sT)) (by decide) (by decide)))), ((((((E_b5.keep Kc6).wr W7).wr W8).ext E9).keep Kc10).wr W11), (((((Fd6.other W7 (Or.inl (Ne.symm (Nat.ne_of_lt (Nat.lt_of_lt_of_le ((F_t.other W3 (Or.inr (slot_ne (Or.inl (ww hw 73 rfl)) (Or.inl (ww hw 15 rfl)) (by decide) (t := .boolean) (t' := .double) (by decide) (by decide)))).other W4 (Or.inr (slot_ne (Or.inl (ww hw 73 rfl)) (Or.inr (ww hw 17 rfl)) (by decide) (t := .boolean) (t' := .int) (by decide) (by decide)))).lt (Nat.le_of_eq g5.symm)))))).other W8 (Or.inl (Ne.symm (Nat.ne_of_lt (Nat.lt_of_lt_of_le ((F_t.other W3 (Or.inr (slot_ne (Or.inl (ww hw 73 rfl)) (Or.inl (ww hw 15 rfl)) (by decide) (t := .boolean) (t' := .double) (by decide) (by decide)))).other W4 (Or.inr (slot_ne (Or.inl (ww hw 73 rfl)) (Or.inr (ww hw 17 rfl)) (by decide) (t := .boolean) (t' := .int) (by decide) (by decide)))).lt (Nat.le_of_eq g5.symm)))))).ext E9).keep Kc10 (ninS (Nat.ne_of_lt (Nat.lt_of_lt_of_le (((E_b5.keep Kc6).wr W7).wr W8).lt (Nat.le_of_eq g9.symm))) nin0)).other W11 (Or.inl (Ne.symm (Nat.ne_of_lt (Nat.lt_of_lt_of_le ((F_t.other W3 (Or.inr (slot_ne (Or.inl (ww hw 73 rfl)) (Or.inl (ww hw 15 rfl)) (by decide) (t := .boolean) (t' := .double) (by decide) (by decide)))).other W4 (Or.inr (slot_ne (Or.inl (ww hw 73 rfl)) (Or.inr (ww hw 17 rfl)) (by decide) (t := .boolean) (t' := .int) (by decide) (by decide)))).lt (Nat.le_of_eq g5.symm)))))), (((((Fs6.other W7 (Or.inl (Ne.symm (Nat.ne_of_lt (Nat.lt_of_lt_of_le ((F_t.other W3 (Or.inr (slot_ne (Or.inl (ww hw 73 rfl)) (Or.inl (ww hw 15 rfl)) (by decide) (t := .boolean) (t' := .double) (by decide) (by decide)))).other W4 (Or.inr (slot_ne (Or.inl (ww hw 73 rfl)) (Or.inr (ww hw 17 rfl)) (by decide) (t := .boolean) (t' := .int) (by decide) (by decide)))).lt (Nat.le_of_eq g5.symm)))))).other W8 (Or.inl (Ne.symm (Nat.ne_of_lt (Nat.lt_of_lt_of_le ((F_t.other W3 (Or.inr (slot_ne (Or.inl (ww hw 73 rfl)) (Or.inl (ww hw 15 rfl)) (by decide) (t := .boolean) (t' := .double) (by decide) (by decide)))).other W4 (Or.inr (slot_ne (Or.inl (ww hw 73 rfl)) (Or.inr (ww hw 17 rfl)) (by decide) (t := .boolean) (t' := .int) (by decide) (by decide)))).lt (Nat.le_of_eq g5.symm)))))).ext E9).keep Kc10 (ninS (Nat.ne_of_lt (Nat.lt_of_lt_of_le (((E_b5.keep Kc6).wr W7).wr W8).lt (Nat.le_of_eq g9.symm))) nin0)).other W11 (Or.inl (Ne.symm (Nat.ne_of_lt (Nat.lt_of_lt_of_le ((F_t.other W3 (Or.inr (slot_ne (Or.inl (ww hw 73 rfl)) (Or.inl (ww hw 15 rfl)) (by decide) (t := .boolean) (t' := .double) (by decide) (by decide)))).other W4 (Or.inr (slot_ne (Or.inl (ww hw 73 rfl)) (Or.inr (ww hw 17 rfl)) (by decide) (t := .boolean) (t' := .int) (by decide) (by decide)))).lt (Nat.le_of_eq g5.symm)))))), (((((Fz6.other W7 (Or.inl (Ne.symm (Nat.ne_of_lt (Nat.lt_of_lt_of_le ((F_t.other W3 (Or.inr (slot_ne (Or.inl (ww hw 73 rfl)) (Or.inl (ww hw 15 rfl)) (by decide) (t := .boolean) (t' := .double) (by decide) (by decide)))).other W4 (Or.inr (slot_ne (Or.inl (ww hw 73 rfl)) (Or.inr (ww hw 17 rfl)) (by decide) (t := .boolean) (t' := .int) (by decide) (by decide)))).lt (Nat.le_of_eq g5.symm)))))).other W8 (Or.inl (Ne.symm (Nat.ne_of_lt (Nat.lt_of_lt_of_le ((F_t.other W3 (Or.inr (slot_ne (Or.inl (ww hw 73 rfl)) (Or.inl (ww hw 15 rfl)) (by decide) (t := .boolean) (t' := .double) (by decide) (by decide)))).other W4 (Or.inr (slot_ne (Or.inl (ww hw 73 rfl)) (Or.inr (ww hw 17 rfl)) (by decide) (t := .boolean) (t' := .int) (by decide) (by decide)))).lt (Nat.le_of_eq g5.symm)))))).ext E9).keep Kc10 (ninS (Nat.ne_of_lt (Nat.lt_of_lt_of_le (((E_b5.keep Kc6).wr W7).wr W8).lt (Nat.le_of_eq g9.symm))) nin0)).other W11 (Or.inl (Ne.symm (Nat.ne_of_lt (Nat.lt_of_lt_of_le ((F_t.other W3 (Or.inr (slot_ne (Or.inl (ww hw 73 rfl)) (Or.inl (ww hw 15 rfl)) (by decide) (t := .boolean) (t' := .double) (by decide) (by decide)))).other W4 (Or.inr (slot_ne (Or.inl (ww hw 73 rfl)) (Or.inr (ww hw 17 rfl)) (by decide) (t := .boolean) (t' := .int) (by decide) (by decide)))).lt (Nat.le_of_eq g5.symm)))))), ⟨_, (((((Vd6.other W7 (Ne.symm (Nat.ne_of_lt (Nat.lt_of_lt_of_le (((F_t.other W3 (Or.inr (slot_ne (Or.inl (ww hw 73 rfl)) (Or.inl (ww hw 15 rfl)) (by decide) (t := .boolean) (t' := .double) (by decide) (by decide)))).other W4 (Or.inr (slot_ne (Or.inl (ww hw 73 rfl)) (Or.inr (ww hw 17 rfl)) (by decide) (t := .boolean) (t' := .int) (by decide) (by decide)))).ext E5).lt hd6)))).other W8 (Ne.symm (Nat.ne_of_lt (Nat.lt_of_lt_of_le (((F_t.other W3 (Or.inr (slot_ne (Or.inl (ww hw 73 rfl)) (Or.inl (ww hw 15 rfl)) (by decide) (t := .boolean) (t' := .double) (by decide) (by decide)))).other W4 (Or.inr (slot_ne (Or.inl (ww hw 73 rfl)) (Or.inr (ww hw 17 rfl)) (by decide) (t := .boolean) (t' := .int) (by decide) (by decide)))).ext E5).lt hd6)))).ext E9).keep Kc10 (ninS (Nat.ne_of_lt (Nat.lt_of_lt_of_le ((Vd6.other W7 (Ne.symm (Nat.ne_of_lt (Nat.lt_of_lt_of_le (((F_t.other W3 (Or.inr (slot_ne (Or.inl (ww hw 73 rfl)) (Or.inl (ww hw 15 rfl)) (by decide) (t := .boolean) (t' := .double) (by decide) (by decide)))).other W4 (Or.inr (slot_ne (Or.inl (ww hw 73 rfl)) (Or.inr (ww hw 17 rfl)) (by decide) (t := .boolean) (t' := .int) (by decide) (by decide)))).ext E5).lt hd6)))).other W8 (Ne.symm (Nat.ne_of_lt (Nat.lt_of_lt_of_le (((F_t.other W3 (Or.inr (slot_ne (Or.inl (ww hw 73 rfl)) (Or.inl (ww hw 15 rfl)) (by decide) (t := .boolean) (t' := .double) (by decide) (by decide)))).other W4 (Or.inr (slot_ne (Or.inl (ww hw 73 rfl)) (Or.inr (ww hw 17 rfl)) (by decide) (t := .boolean) (t' := .int) (by decide) (by decide)))).ext E5).lt hd6)))).lt (Nat.le_of_eq g9.symm))) nin0)).other W11 (Ne.symm (Nat.ne_of_lt (Nat.lt_of_lt_of_le (((F_t.other W3 (Or.inr (slot_ne (Or.inl (ww hw 73 rfl)) (Or.inl (ww hw 15 rfl)) (by decide) (t := .boolean) (t' := .double) (by decide) (by decide)))).other W4 (Or.inr (slot_ne (Or.inl (ww hw 73 rfl)) (Or.inr (ww hw 17 rfl)) (by decide) (t := .boolean) (t' := .int) (by decide) (by decide)))).ext E5).lt hd6))))⟩, ⟨_, (((((Vs6.other W7 (Ne.symm (Nat.ne_of_lt (Nat.lt_of_lt_of_le (((F_t.other W3 (Or.inr (slot_ne (Or.inl (ww hw 73 rfl)) (Or.inl (ww hw 15 rfl)) (by decide) (t := .boolean) (t' := .double) (by decide) (by decide)))).other W4 (Or.inr (slot_ne (Or.inl (ww hw 73 rfl)) (Or.inr (ww hw 17 rfl)) (by decide) (t := .boolean) (t' := .int) (by decide) (by decide)))).ext E5).lt hs6)))).other W8 (Ne.symm (Nat.ne_of_lt (Nat.lt_of_lt_of_le (((F_t.other W3 (Or.inr (slot_ne (Or.inl (ww hw 73 rfl)) (Or.inl (ww hw 15 rfl)) (by decide) (t := .boolean) (t' := .double) (by decide) (by decide)))).other W4 (Or.inr (slot_ne (Or.inl (ww hw 73 rfl)) (Or.inr (ww hw 17 rfl)) (by decide) (t := .boolean) (t' := .int) (by decide) (by decide)))).ext E5).lt hs6)))).ext E9).keep Kc10 (ninS (Nat.ne_of_lt (Nat.lt_of_lt_of_le ((Vs6.other W7 (Ne.symm (Nat.ne_of_lt (Nat.lt_of_lt_of_le (((F_t.other W3 (Or.inr (slot_ne (Or.inl (ww hw 73 rfl)) (Or.inl (ww hw 15 rfl)) (by decide) (t := .boolean) (t' := .double) (by decide) (by decide)))).other W4 (Or.inr (slot_ne (Or.inl (ww hw 73 rfl)) (Or.inr (ww hw 17 rfl)) (by decide) (t := .boolean) (t' := .int) (by decide) (by decide)))).ext E5).lt hs6)))).other W8 (Ne.symm (Nat.ne_of_lt (Nat.lt_of_lt_of_le (((F_t.other W3 (Or.inr (slot_ne (Or.inl (ww hw 73 rfl)) (Or.inl (ww hw 15 rfl)) (by decide) (t := .boolean) (t' := .double) (by decide) (by decide)))).other W4 (Or.inr (slot_ne (Or.inl (ww hw 73 rfl)) (Or.inr (ww hw 17 rfl)) (by decide) (t := .boolean) (t' := .int) (by decide) (by decide)))).ext E5).lt hs6)))).lt (Nat.le_of_eq g9.symm))) nin0)).other W11 (Ne.symm (Nat.ne_of_lt (Nat.lt_of_lt_of_le (((F_t.other W3 (Or.inr (slot_ne (Or.inl (ww hw 73 rfl)) (Or.inl (ww hw 15 rfl)) (by decide) (t := .boolean) (t' := .double) (by decide) (by decide)))).other W4 (Or.inr (slot_ne (Or.inl (ww hw 73 rfl)) (Or.inr (ww hw 17 rfl)) (by decide) (t := .boolean) (t' := .int) (by decide) (by decide)))).ext E5).lt hs6))))⟩⟩
theorem ef_2_1 (m : MethodId) (x0 : Addr) : entryFrame m #[(.ref x0), (.int (1 : Int32)), .null, .null] 4 = mkF m 0 #[.val (.ref x0), .val (.int (1 : Int32)), .val .null, .val .null] [] := by first | (simp [entryFrame, mkF, argsToLocals, Value.category]; done) | rfl
def Q2_1 (Z : State) (a1 : Addr) (u_worstAsRead_a1 : Value) (u_capacity_a1 : Value) (u_best_a1 : Value) (u_asRead_a1 : Value) (u_ties_a1 : Value) (h0 : Heap) (n0 : Nat) (v : Option Value) (h : Heap) (L : List Loc) : Prop := ∃ hp da sa : Addr, v = none ∧ Fr n0 L ∧ Keep h0 h [a1] ∧ h0.size ≤ hp ∧ h0.size ≤ da ∧ h0.size ≤ sa ∧ hp ≠ da ∧ hp ≠ sa ∧ da ≠ sa ∧ Fld Z h a1 sB "capacity" "I" (.int (1 : Int32)) ∧ Fld Z h a1 sB "best" "Lcom/example/calpurnia/calpurnia/ranking/BestDocuments$Heap;" (.ref hp) ∧ Fld Z h a1 sB "asRead" "Ljava/util/function/DoubleUnaryOperator;" .null ∧ Fld Z h a1 sB "sorted" "Z" (.int (0 : Int32)) ∧ Exa Z h hp sH ∧ Fld Z h hp sH "documents" "[I" (.ref da) ∧ Fld Z h hp sH "scores" "[D" (.ref sa) ∧ Fld Z h hp sH "size" "I" (.int (0 : Int32)) ∧ (∃ D, own_AI Z h da (1 : Int32) D) ∧ (∃ S, own_AD Z h sa (1 : Int32) S)
set_option maxRecDepth 65536 in
set_option maxHeartbeats 40000000 in
theorem rm2_1 (l : Launch) (Z : State) (a0 : Array Value) (hw : ∀ d ∈ tables_1, d.before a0 Z = true) (ws : List Jvm.Cond) (a1 : Addr) (u_worstAsRead_a1 : Value) (u_capacity_a1 : Value) (u_best_a1 : Value) (u_asRead_a1 : Value) (u_ties_a1 : Value) (h0 : Heap) (n0 : Nat) (Z0 : n0 ≤ h0.size) (F_t : Fld Z h0 a1 sB "sorted" "Z" (.int (0 : Int32))) (E_a1 : Exa Z h0 a1 sB) (F_worstAsRead_a1 : Fld Z h0 a1 sB "worstAsRead" "D" u_worstAsRead_a1) (g_a1 : n0 ≤ a1) (F_capacity_a1 : Fld Z h0 a1 sB "capacity" "I" u_capacity_a1) (F_best_a1 : Fld Z h0 a1 sB "best" "Lcom/example/calpurnia/calpurnia/ranking/BestDocuments$Heap;" u_best_a1) (F_asRead_a1 : Fld Z h0 a1 sB "asRead" "Ljava/util/function/DoubleUnaryOperator;" u_asRead_a1) (F_ties_a1 : Fld Z h0 a1 sB "ties" "Lcom/example/calpurnia/calpurnia/ranking/BestDocuments$Ties;" u_ties_a1) :
    MetFree l (⟨sB, "<init>", "(ILjava/util/function/DoubleUnaryOperator;Lcom/example/calpurnia/calpurnia/ranking/BestDocuments$DocumentOrder;)V"⟩ : MethodName) (head1 (Jvm.Cond.code (⟨sB, "<init>", "(ILjava/util/function/DoubleUnaryOperator;Lcom/example/calpurnia/calpurnia/ranking/BestDocuments$DocumentOrder;)V"⟩ : MethodName) prog_186_method_2_code 4 none :: ws) ({ frames := 2, cells := 8, slots := 19, locals := 36 } : Room)) (fun a U => a = #[(.ref a1), (.int (1 : Int32)), .null, .null] ∧ Z.Warmed39 U.vm ∧ U.heap = h0) (fun _ _ _ _ _ => True) (fun _ U o U' => ∃ v L, o = .returned v ∧ Q2_1 Z a1 u_worstAsRead_a1 u_capacity_a1 u_best_a1 u_asRead_a1 u_ties_a1 h0 n0 v U'.heap L ∧ FrameEnd U o U' L ({ frames := 2, cells := 8, slots := 19, locals := 36 } : Room).cells ({ frames := 2, cells := 8, slots := 19, locals := 36 } : Room).slots) := by
  refine MetFree.of_bodySF (plainFor_of_name pn_2) hisR ?_
  intro p e s m args below meth c s₁ Bd hml0 hP hK
  obtain ⟨rfl, hZ, hh⟩ := hP
  have hx := Bd.exec
  have hby := Bd.bytes
  have hml : c.maxLocals = 4 := hml0
  have hown : s.vm.findClass sB = some m.cls := findClass_of_methodNamed Bd.named
  have hnm := (name_of_methodNamed Bd.named Bd.method).1
  have X0 : Stand p l e ({ frames := 2, cells := 8, slots := 19, locals := 36 } : Room) s m #[(.ref a1), (.int (1 : Int32)), .null, .null] below meth c s₁ [] 0 0 := Stand.of_body Bd
  have e0 : s₁.heap = h0 := by rw [← hh, Bd.state]; rfl
  have N0 := Fr.nil n0
  have pre0 : ∀ t, Steps p.tables e below (s₁.setTop (mkF m 0 #[.val (.ref a1), .val (.int (1 : Int32)), .val .null, .val .null] [])) t → Steps p.tables e below (s₁.setTop (entryFrame m #[(.ref a1), (.int (1 : Int32)), .null, .null] 4)) t := fun t k => castTop (ef_2_1 m a1) k

  obtain ⟨T2, X2, e2, st2⟩ := initO X0 hx hZ hown (ww hw 10 rfl) (ww hw 11 rfl) (ww hw 12 rfl) e0 (g := (mkF m 1 #[.val (.ref a1), .val (.int (1 : Int32)), .val .null, .val .null] [(.ref a1)])) rfl (by rw [hml]; rfl) rfl (hb hby d2_1) (by decide) (W := 0) (by show 2 * 0 + _ ≤ _; exact Nat.le_of_eq rfl) (by decide)
  obtain ⟨T3, h3, X3, e3, W3, st3⟩ := putF X2 hx hZ hown (host := "") (Or.inl (ww hw 14 rfl)) Via.refl e2 F_worstAsRead_a1 E_a1 (Or.inl (ww hw 15 rfl)) (ww hw 2 rfl) (ty := .double) (by decide) rfl rfl (g := (mkF m 8 #[.val (.ref a1), .val (.int (1 : Int32)), .val .null, .val .null] [(.double (9221120237041090560 : UInt64)), (.ref a1)])) rfl rfl (hb hby d2_8)
  have Fw3 := F_worstAsRead_a1.same W3
  have K3 : Keep h0 h3 [a1] := (Keep.refl h0 [a1]).wr W3 (Or.inl (List.mem_of_getElem? (i := 0) rfl))
  have N3 := Fr.snoc X3 N0 g_a1
  obtain ⟨T4, h4, X4, e4, W4, st4⟩ := putF X3 hx hZ hown (host := "") (Or.inl (ww hw 16 rfl)) Via.refl e3 (F_capacity_a1.other W3 (Or.inr (slot_ne (Or.inr (ww hw 17 rfl)) (Or.inl (ww hw 15 rfl)) (by decide) (t := .int) (t' := .double) (by decide) (by decide)))) (E_a1.wr W3) (Or.inr ⟨(ww hw 17 rfl), rfl, hnm⟩) (ww hw 2 rfl) (ty := .int) (by decide) rfl rfl (g := (mkF m 13 #[.val (.ref a1), .val (.int (1 : Int32)), .val .null, .val .null] [(.int (1 : Int32)), (.ref a1)])) rfl rfl (hb hby d2_13)
  have Fw4 := (F_capacity_a1.other W3 (Or.inr (slot_ne (Or.inr (ww hw 17 rfl)) (Or.inl (ww hw 15 rfl)) (by decide) (t := .int) (t' := .double) (by decide) (by decide)))).same W4
  have K4 : Keep h0 h4 [a1] := K3.wr W4 (Or.inl (List.mem_of_getElem? (i := 0) rfl))
  have N4 := Fr.snoc X4 N3 g_a1
  obtain ⟨T5, h5, X5, e5, E5, A5, D5, -, st5⟩ := newO X4 hx hZ hown (ww hw 18 rfl) (ww hw 19 rfl) (ww hw 20 rfl) e4 (g := (mkF m 17 #[.val (.ref a1), .val (.int (1 : Int32)), .val .null, .val .null] [(.ref a1)])) rfl (hb hby d2_17) (by decide) (by decide)
  obtain ⟨b5, g5⟩ : ∃ z, z = h4.size := ⟨_, rfl⟩
  rw [← g5] at A5 D5 st5
  have F_documents_b5 : Fld Z h5 b5 sH "documents" "[I" .null := D5 (Or.inl (ww hw 27 rfl)) (ty := (.array .int)) (by decide)
  have F_scores_b5 : Fld Z h5 b5 sH "scores" "[D" .null := D5 (Or.inl (ww hw 30 rfl)) (ty := (.array .double)) (by decide)
  have F_size_b5 : Fld Z h5 b5 sH "size" "I" (.int (0 : Int32)) := D5 (Or.inl (ww hw 62 rfl)) (ty := .int) (by decide)
  have E_b5 := A5
  have g_b5 : n0 ≤ b5 := Nat.le_trans (Nat.le_trans (Nat.le_trans Z0 (Keep.of_wr W3).1) (Keep.of_wr W4).1) (Nat.le_of_eq g5.symm)
  have sz_b5 : h0.size ≤ b5 := (Nat.le_trans K4.1 (Nat.le_of_eq g5.symm))
  have K5 : Keep h0 h5 [a1] := K4.ext E5
  obtain ⟨_, _, ⟨T6, L6, k6, n6⟩, -, X6, ⟨Lc6, hQ6, l6, y6, z6⟩, st6⟩ := X5.specialBack hx (y := (⟨sH, "<init>", "(I)V"⟩ : MethodName)) rfl hown (mvT hZ (ww hw 21 rfl)) (mvT hZ (ww hw 22 rfl)) (mvT hZ (ww hw 23 rfl)) (by decide) (backOf (W := 2) (rm4_1 l Z a0 hw [] b5 _ _ h5 n0 (Nat.le_trans (Nat.le_trans (Nat.le_trans Z0 (Keep.of_wr W3).1) (Keep.of_wr W4).1) E5.1) F_size_b5 E_b5 F_documents_b5 g_b5 F_scores_b5) hZ (ww hw 23 rfl) (ww hw 20 rfl) (by decide) (by decide)) (g := (mkF m 22 #[.val (.ref a1), .val (.int (1 : Int32)), .val .null, .val .null] [(.int (1 : Int32)), (.ref b5), (.ref b5), (.ref a1)])) rfl (by rw [hml]; rfl) (Steps.refl _) (a := b5) (argsL := [(.int (1 : Int32))]) (rest := [(.ref b5), (.ref a1)]) (lenOf pd_2_0 rfl) rfl (by show 2 * 0 + _ ≤ _; exact Nat.le_of_eq rfl) (hb hby d2_22) (fun _ _ => ⟨rfl, e5, (by decide : 1 + 2 ≤ _), (by decide : 3 + 2 ≤ _)⟩)
  dsimp only [Pt.U, Pt.locs, Pt.cells, Pt.slots] at X6 l6 y6 z6 st6 hQ6
  subst l6 y6 z6
  obtain ⟨da6, sa6, rfl, N6q, Kc6, hd6, hs6, nds6, Fd6, Fs6, Fz6, ⟨D6, Vd6⟩, ⟨S6, Vs6⟩⟩ := hQ6
  have N6 := Fr.app N4 N6q
  have g_da6 : n0 ≤ da6 := Nat.le_trans (Nat.le_trans (Nat.le_trans (Nat.le_trans Z0 (Keep.of_wr W3).1) (Keep.of_wr W4).1) E5.1) hd6
  have sz_da6 : h0.size ≤ da6 := Nat.le_trans K5.1 hd6
  have g_sa6 : n0 ≤ sa6 := Nat.le_trans (Nat.le_trans (Nat.le_trans (Nat.le_trans Z0 (Keep.of_wr W3).1) (Keep.of_wr W4).1) E5.1) hs6
  have sz_sa6 : h0.size ≤ sa6 := Nat.le_trans K5.1 hs6
  have K6 : Keep h0 T6.heap [a1] := K5.trans Kc6 (allS (Or.inr sz_b5) all0)
  obtain ⟨T7, h7, X7, e7, W7, st7⟩ := putF X6 hx hZ hown (host := "") (Or.inl (ww hw 31 rfl)) Via.refl rfl ((((F_best_a1.other W3 (Or.inr (slot_ne (Or.inr (ww hw 32 rfl)) (Or.inl (ww hw 15 rfl)) (by decide) (t := (.object sH)) (t' := .double) (by decide) (by decide)))).other W4 (Or.inr (slot_ne (Or.inr (ww hw 32 rfl)) (Or.inr (ww hw 17 rfl)) (by decide) (t := (.object sH)) (t' := .int) (by decide) (by decide)))).ext E5).keep Kc6 (ninS (Nat.ne_of_lt (Nat.lt_of_lt_of_le ((F_t.other W3 (Or.inr (slot_ne (Or.inl (ww hw 73 rfl)) (Or.inl (ww hw 15 rfl)) (by decide) (t := .boolean) (t' := .double) (by decide) (by decide)))).other W4 (Or.inr (slot_ne (Or.inl (ww hw 73 rfl)) (Or.inr (ww hw 17 rfl)) (by decide) (t := .boolean) (t' := .int) (by decide) (by decide)))).lt (Nat.le_of_eq g5.symm))) nin0)) ((((E_a1.wr W3).wr W4).ext E5).keep Kc6) (Or.inr ⟨(ww hw 32 rfl), rfl, hnm⟩) (ww hw 2 rfl) (ty := (.object sH)) (by decide) rfl rfl (g := (mkF m 25 #[.val (.ref a1), .val (.int (1 : Int32)), .val .null, .val .null] [(.ref b5), (.ref a1)])) rfl rfl (hb hby d2_25)
  have Fw7 := ((((F_best_a1.other W3 (Or.inr (slot_ne (Or.inr (ww hw 32 rfl)) (Or.inl (ww hw 15 rfl)) (by decide) (t := (.object sH)) (t' := .double) (by decide) (by decide)))).other W4 (Or.inr (slot_ne (Or.inr (ww hw 32 rfl)) (Or.inr (ww hw 17 rfl)) (by decide) (t := (.object sH)) (t' := .int) (by decide) (by decide)))).ext E5).keep Kc6 (ninS (Nat.ne_of_lt (Nat.lt_of_lt_of_le ((F_t.other W3 (Or.inr (slot_ne (Or.inl (ww hw 73 rfl)) (Or.inl (ww hw 15 rfl)) (by decide) (t := .boolean) (t' := .double) (by decide) (by decide)))).other W4 (Or.inr (slot_ne (Or.inl (ww hw 73 rfl)) (Or.inr (ww hw 17 rfl)) (by decide) (t := .boolean) (t' := .int) (by decide) (by decide)))).lt (Nat.le_of_eq g5.symm))) nin0)).same W7
  have K7 : Keep h0 h7 [a1] := K6.wr W7 (Or.inl (List.mem_of_getElem? (i := 0) rfl))
  have N7 := Fr.snoc X7 N6 g_a1
  obtain ⟨T8, h8, X8, e8, W8, st8⟩ := putF X7 hx hZ hown (host := "") (Or.inl (ww hw 33 rfl)) Via.refl e7 (((((F_asRead_a1.other W3 (Or.inr (slot_ne (Or.inr (ww hw 34 rfl)) (Or.inl (ww hw 15 rfl)) (by decide) (t := (.object "java/util/function/DoubleUnaryOperator")) (t' := .double) (by decide) (by decide)))).other W4 (Or.inr (slot_ne (Or.inr (ww hw 34 rfl)) (Or.inr (ww hw 17 rfl)) (by decide) (t := (.object "java/util/function/DoubleUnaryOperator")) (t' := .int) (by decide) (by decide)))).ext E5).keep Kc6 (ninS (Nat.ne_of_lt (Nat.lt_of_lt_of_le ((F_t.other W3 (Or.inr (slot_ne (Or.inl (ww hw 73 rfl)) (Or.inl (ww hw 15 rfl)) (by decide) (t := .boolean) (t' := .double) (by decide) (by decide)))).other W4 (Or.inr (slot_ne (Or.inl (ww hw 73 rfl)) (Or.inr (ww hw 17 rfl)) (by decide) (t := .boolean) (t' := .int) (by decide) (by decide)))).lt (Nat.le_of_eq g5.symm))) nin0)).other W7 (Or.inr (slot_ne (Or.inr (ww hw 34 rfl)) (Or.inr (ww hw 32 rfl)) (by decide) (t := (.object "java/util/function/DoubleUnaryOperator")) (t' := (.object sH)) (by decide) (by decide)))) (((((E_a1.wr W3).wr W4).ext E5).keep Kc6).wr W7) (Or.inr ⟨(ww hw 34 rfl), rfl, hnm⟩) (ww hw 2 rfl) (ty := (.object "java/util/function/DoubleUnaryOperator")) (by decide) rfl rfl (g := (mkF m 30 #[.val (.ref a1), .val (.int (1 : Int32)), .val .null, .val .null] [.null, (.ref a1)])) rfl rfl (hb hby d2_30)
  have Fw8 := (((((F_asRead_a1.other W3 (Or.inr (slot_ne (Or.inr (ww hw 34 rfl)) (Or.inl (ww hw 15 rfl)) (by decide) (t := (.object "java/util/function/DoubleUnaryOperator")) (t' := .double) (by decide) (by decide)))).other W4 (Or.inr (slot_ne (Or.inr (ww hw 34 rfl)) (Or.inr (ww hw 17 rfl)) (by decide) (t := (.object "java/util/function/DoubleUnaryOperator")) (t' := .int) (by decide) (by decide)))).ext E5).keep Kc6 (ninS (Nat.ne_of_lt (Nat.lt_of_lt_of_le ((F_t.other W3 (Or.inr (slot_ne (Or.inl (ww hw 73 rfl)) (Or.inl (ww hw 15 rfl)) (by decide) (t := .boolean) (t' := .double) (by decide) (by decide)))).other W4 (Or.inr (slot_ne (Or.inl (ww hw 73 rfl)) (Or.inr (ww hw 17 rfl)) (by decide) (t := .boolean) (t' := .int) (by decide) (by decide)))).lt (Nat.le_of_eq g5.symm))) nin0)).other W7 (Or.inr (slot_ne (Or.inr (ww hw 34 rfl)) (Or.inr (ww hw 32 rfl)) (by decide) (t := (.object "java/util/function/DoubleUnaryOperator")) (t' := (.object sH)) (by decide) (by decide)))).same W8
  have K8 : Keep h0 h8 [a1] := K7.wr W8 (Or.inl (List.mem_of_getElem? (i := 0) rfl))
  have N8 := Fr.snoc X8 N7 g_a1
  obtain ⟨T9, h9, X9, e9, E9, A9, D9, -, st9⟩ := newO X8 hx hZ hown (ww hw 35 rfl) (ww hw 36 rfl) (ww hw 37 rfl) e8 (g := (mkF m 34 #[.val (.ref a1), .val (.int (1 : Int32)), .val .null, .val .null] [(.ref a1)])) rfl (hb hby d2_34) (by decide) (by decide)
  obtain ⟨b9, g9⟩ : ∃ z, z = h8.size := ⟨_, rfl⟩
  rw [← g9] at A9 D9 st9
  have F_documents_b9 : Fld Z h9 b9 sT "documents" "[I" .null := D9 (Or.inl (ww hw 43 rfl)) (ty := (.array .int)) (by decide)
  have F_scores_b9 : Fld Z h9 b9 sT "scores" "[D" .null := D9 (Or.inl (ww hw 45 rfl)) (ty := (.array .double)) (by decide)
  have F_merged_b9 : Fld Z h9 b9 sT "merged" "[I" .null := D9 (Or.inl (ww hw 47 rfl)) (ty := (.array .int)) (by decide)
  have F_mergedScores_b9 : Fld Z h9 b9 sT "mergedScores" "[D" .null := D9 (Or.inl (ww hw 49 rfl)) (ty := (.array .double)) (by decide)
  have F_capacity_b9 : Fld Z h9 b9 sT "capacity" "I" (.int (0 : Int32)) := D9 (Or.inr (ww hw 51 rfl)) (ty := .int) (by decide)
  have F_order_b9 : Fld Z h9 b9 sT "order" "Lcom/example/calpurnia/calpurnia/ranking/BestDocuments$DocumentOrder;" .null := D9 (Or.inr (ww hw 53 rfl)) (ty := (.object "com/example/calpurnia/calpurnia/ranking/BestDocuments$DocumentOrder")) (by decide)
  have E_b9 := A9
  have g_b9 : n0 ≤ b9 := Nat.le_trans (Nat.le_trans (Nat.le_trans (Nat.le_trans (Nat.le_trans (Nat.le_trans (Nat.le_trans Z0 (Keep.of_wr W3).1) (Keep.of_wr W4).1) E5.1) Kc6.1) (Keep.of_wr W7).1) (Keep.of_wr W8).1) (Nat.le_of_eq g9.symm)
  have sz_b9 : h0.size ≤ b9 := (Nat.le_trans K8.1 (Nat.le_of_eq g9.symm))
  have K9 : Keep h0 h9 [a1] := K8.ext E9
  obtain ⟨_, _, ⟨T10, L10, k10, n10⟩, -, X10, ⟨Lc10, hQ10, l10, y10, z10⟩, st10⟩ := X9.specialBack hx (y := (⟨sT, "<init>", "(ILcom/example/calpurnia/calpurnia/ranking/BestDocuments$DocumentOrder;)V"⟩ : MethodName)) rfl hown (mvT hZ (ww hw 38 rfl)) (mvT hZ (ww hw 39 rfl)) (mvT hZ (ww hw 40 rfl)) (by decide) (backOf (W := 2) (rm5 l Z a0 hw [] b9 (1 : Int32) _ _ _ _ _ _ h9 n0 (Nat.le_trans (Nat.le_trans (Nat.le_trans (Nat.le_trans (Nat.le_trans (Nat.le_trans (Nat.le_trans Z0 (Keep.of_wr W3).1) (Keep.of_wr W4).1) E5.1) Kc6.1) (Keep.of_wr W7).1) (Keep.of_wr W8).1) E9.1) E_b9 F_documents_b9 g_b9 F_scores_b9 F_merged_b9 F_mergedScores_b9 F_capacity_b9 F_order_b9) hZ (ww hw 40 rfl) (ww hw 37 rfl) (by decide) (by decide)) (g := (mkF m 40 #[.val (.ref a1), .val (.int (1 : Int32)), .val .null, .val .null] [.null, (.int (1 : Int32)), (.ref b9), (.ref b9), (.ref a1)])) rfl (by rw [hml]; rfl) (Steps.refl _) (a := b9) (argsL := [(.int (1 : Int32)), .null]) (rest := [(.ref b9), (.ref a1)]) (lenOf pd_2_3 rfl) rfl (by show 2 * 0 + _ ≤ _; exact Nat.le_of_eq rfl) (hb hby d2_40) (fun _ _ => ⟨rfl, e9, (by decide : 4 + 4 ≤ _), (by decide : 15 + 0 ≤ _)⟩)
  dsimp only [Pt.U, Pt.locs, Pt.cells, Pt.slots] at X10 l10 y10 z10 st10 hQ10
  subst l10 y10 z10
  obtain ⟨rfl, N10q, Kc10⟩ := hQ10
  have N10 := Fr.app N8 N10q
  have K10 : Keep h0 T10.heap [a1] := K9.trans Kc10 (allS (Or.inr sz_b9) all0)
  obtain ⟨T11, h11, X11, e11, W11, st11⟩ := putF X10 hx hZ hown (host := "") (Or.inl (ww hw 54 rfl)) Via.refl rfl ((((((((F_ties_a1.other W3 (Or.inr (slot_ne (Or.inr (ww hw 55 rfl)) (Or.inl (ww hw 15 rfl)) (by decide) (t := (.object sT)) (t' := .double) (by decide) (by decide)))).other W4 (Or.inr (slot_ne (Or.inr (ww hw 55 rfl)) (Or.inr (ww hw 17 rfl)) (by decide) (t := (.object sT)) (t' := .int) (by decide) (by decide)))).ext E5).keep Kc6 (ninS (Nat.ne_of_lt (Nat.lt_of_lt_of_le ((F_t.other W3 (Or.inr (slot_ne (Or.inl (ww hw 73 rfl)) (Or.inl (ww hw 15 rfl)) (by decide) (t := .boolean) (t' := .double) (by decide) (by decide)))).other W4 (Or.inr (slot_ne (Or.inl (ww hw 73 rfl)) (Or.inr (ww hw 17 rfl)) (by decide) (t := .boolean) (t' := .int) (by decide) (by decide)))).lt (Nat.le_of_eq g5.symm))) nin0)).other W7 (Or.inr (slot_ne (Or.inr (ww hw 55 rfl)) (Or.inr (ww hw 32 rfl)) (by decide) (t := (.object sT)) (t' := (.object sH)) (by decide) (by decide)))).other W8 (Or.inr (slot_ne (Or.inr (ww hw 55 rfl)) (Or.inr (ww hw 34 rfl)) (by decide) (t := (.object sT)) (t' := (.object "java/util/function/DoubleUnaryOperator")) (by decide) (by decide)))).ext E9).keep Kc10 (ninS (Nat.ne_of_lt (Nat.lt_of_lt_of_le ((((((F_t.other W3 (Or.inr (slot_ne (Or.inl (ww hw 73 rfl)) (Or.inl (ww hw 15 rfl)) (by decide) (t := .boolean) (t' := .double) (by decide) (by decide)))).other W4 (Or.inr (slot_ne (Or.inl (ww hw 73 rfl)) (Or.inr (ww hw 17 rfl)) (by decide) (t := .boolean) (t' := .int) (by decide) (by decide)))).ext E5).keep Kc6 (ninS (Nat.ne_of_lt (Nat.lt_of_lt_of_le ((F_t.other W3 (Or.inr (slot_ne (Or.inl (ww hw 73 rfl)) (Or.inl (ww hw 15 rfl)) (by decide) (t := .boolean) (t' := .double) (by decide) (by decide)))).other W4 (Or.inr (slot_ne (Or.inl (ww hw 73 rfl)) (Or.inr (ww hw 17 rfl)) (by decide) (t := .boolean) (t' := .int) (by decide) (by decide)))).lt (Nat.le_of_eq g5.symm))) nin0)).other W7 (Or.inr (slot_ne (Or.inl (ww hw 73 rfl)) (Or.inr (ww hw 32 rfl)) (by decide) (t := .boolean) (t' := (.object sH)) (by decide) (by decide)))).other W8 (Or.inr (slot_ne (Or.inl (ww hw 73 rfl)) (Or.inr (ww hw 34 rfl)) (by decide) (t := .boolean) (t' := (.object "java/util/function/DoubleUnaryOperator")) (by decide) (by decide)))).lt (Nat.le_of_eq g9.symm))) nin0)) ((((((((E_a1.wr W3).wr W4).ext E5).keep Kc6).wr W7).wr W8).ext E9).keep Kc10) (Or.inr ⟨(ww hw 55 rfl), rfl, hnm⟩) (ww hw 2 rfl) (ty := (.object sT)) (by decide) rfl rfl (g := (mkF m 43 #[.val (.ref a1), .val (.int (1 : Int32)), .val .null, .val .null] [(.ref b9), (.ref a1)])) rfl rfl (hb hby d2_43)
  have Fw11 := ((((((((F_ties_a1.other W3 (Or.inr (slot_ne (Or.inr (ww hw 55 rfl)) (Or.inl (ww hw 15 rfl)) (by decide) (t := (.object sT)) (t' := .double) (by decide) (by decide)))).other W4 (Or.inr (slot_ne (Or.inr (ww hw 55 rfl)) (Or.inr (ww hw 17 rfl)) (by decide) (t := (.object sT)) (t' := .int) (by decide) (by decide)))).ext E5).keep Kc6 (ninS (Nat.ne_of_lt (Nat.lt_of_lt_of_le ((F_t.other W3 (Or.inr (slot_ne (Or.inl (ww hw 73 rfl)) (Or.inl (ww hw 15 rfl)) (by decide) (t := .boolean) (t' := .double) (by decide) (by decide)))).other W4 (Or.inr (slot_ne (Or.inl (ww hw 73 rfl)) (Or.inr (ww hw 17 rfl)) (by decide) (t := .boolean) (t' := .int) (by decide) (by decide)))).lt (Nat.le_of_eq g5.symm))) nin0)).other W7 (Or.inr (slot_ne (Or.inr (ww hw 55 rfl)) (Or.inr (ww hw 32 rfl)) (by decide) (t := (.object sT)) (t' := (.object sH)) (by decide) (by decide)))).other W8 (Or.inr (slot_ne (Or.inr (ww hw 55 rfl)) (Or.inr (ww hw 34 rfl)) (by decide) (t := (.object sT)) (t' := (.object "java/util/function/DoubleUnaryOperator")) (by decide) (by decide)))).ext E9).keep Kc10 (ninS (Nat.ne_of_lt (Nat.lt_of_lt_of_le ((((((F_t.other W3 (Or.inr (slot_ne (Or.inl (ww hw 73 rfl)) (Or.inl (ww hw 15 rfl)) (by decide) (t := .boolean) (t' := .double) (by decide) (by decide)))).other W4 (Or.inr (slot_ne (Or.inl (ww hw 73 rfl)) (Or.inr (ww hw 17 rfl)) (by decide) (t := .boolean) (t' := .int) (by decide) (by decide)))).ext E5).keep Kc6 (ninS (Nat.ne_of_lt (Nat.lt_of_lt_of_le ((F_t.other W3 (Or.inr (slot_ne (Or.inl (ww hw 73 rfl)) (Or.inl (ww hw 15 rfl)) (by decide) (t := .boolean) (t' := .double) (by decide) (by decide)))).other W4 (Or.inr (slot_ne (Or.inl (ww hw 73 rfl)) (Or.inr (ww hw 17 rfl)) (by decide) (t := .boolean) (t' := .int) (by decide) (by decide)))).lt (Nat.le_of_eq g5.symm))) nin0)).other W7 (Or.inr (slot_ne (Or.inl (ww hw 73 rfl)) (Or.inr (ww hw 32 rfl)) (by decide) (t := .boolean) (t' := (.object sH)) (by decide) (by decide)))).other W8 (Or.inr (slot_ne (Or.inl (ww hw 73 rfl)) (Or.inr (ww hw 34 rfl)) (by decide) (t := .boolean) (t' := (.object "java/util/function/DoubleUnaryOperator")) (by decide) (by decide)))).lt (Nat.le_of_eq g9.symm))) nin0)).same W11
  have K11 : Keep h0 h11 [a1] := K10.wr W11 (Or.inl (List.mem_of_getElem? (i := 0) rfl))
  have N11 := Fr.snoc X11 N10 g_a1
  obtain ⟨fs, hr, hrun, hended, hW, hsame⟩ := X11.leave (v := none) (fun _ => rfl)
  refine ⟨_, _, pre0 _ ?_, hrun, hended, _, _, rfl, ?_, ⟨_, rfl⟩, hW, hsame.mono (by decide) (by decide)⟩
  · show Steps _ _ _ (s₁.setTop (mkF m 0 #[.val (.ref a1), .val (.int (1 : Int32)), .val .null, .val .null] [])) _
    refine XS.aloadN X0.here hx rfl (hb hby d2_0) rfl rfl ?_
    refine st2 _ ?_
    refine XS.aloadN X2.here hx rfl (hb hby d2_4) rfl rfl ?_
    refine X2.ldc2DoubleC hx hown (mvT hZ (ww hw 13 rfl)) (g := (mkF m 5 #[.val (.ref a1), .val (.int (1 : Int32)), .val .null, .val .null] [(.ref a1)])) rfl (hb hby d2_5) _ ?_
    refine st3 _ ?_
    refine XS.aloadN X3.here hx rfl (hb hby d2_11) rfl rfl ?_
    refine XS.iloadN X3.here hx rfl (hb hby d2_12) rfl ?_
    refine st4 _ ?_
    refine XS.aloadN X4.here hx rfl (hb hby d2_16) rfl rfl ?_
    refine st5 _ ?_
    refine XS.dup X5.here hx rfl (hb hby d2_20) rfl rfl ?_
    refine XS.iloadN X5.here hx rfl (hb hby d2_21) rfl ?_
    refine st6.trans ?_
    refine st7 _ ?_
    refine XS.aloadN X7.here hx rfl (hb hby d2_28) rfl rfl ?_
    refine XS.aloadN X7.here hx rfl (hb hby d2_29) rfl rfl ?_
    refine st8 _ ?_
    refine XS.aloadN X8.here hx rfl (hb hby d2_33) rfl rfl ?_
    refine st9 _ ?_
    refine XS.dup X9.here hx rfl (hb hby d2_37) rfl rfl ?_
    refine XS.iloadN X9.here hx rfl (hb hby d2_38) rfl ?_
    refine XS.aloadN X9.here hx rfl (hb hby d2_39) rfl rfl ?_
    refine st10.trans ?_
    refine st11 _ ?_
    exact X11.returnOut hx Bd.returns (hb hby d2_46) hr
  · show Q2_1 Z a1 u_worstAsRead_a1 u_capacity_a1 u_best_a1 u_asRead_a1 u_ties_a1 h0 n0 _ T11.heap _
    rw [e11]
    exact ⟨b5, da6, sa6, rfl, N11, K11, sz_b5, sz_da6, sz_sa6, (Nat.ne_of_lt (Nat.lt_of_lt_of_le E_b5.lt hd6)), (Nat.ne_of_lt (Nat.lt_of_lt_of_le E_b5.lt hs6)), nds6, (((((((Fw4.ext E5).keep Kc6 (ninS (Nat.ne_of_lt (Nat.lt_of_lt_of_le ((F_t.other W3 (Or.inr (slot_ne (Or.inl (ww hw 73 rfl)) (Or.inl (ww hw 15 rfl)) (by decide) (t := .boolean) (t' := .double) (by decide) (by decide)))).other W4 (Or.inr (slot_ne (Or.inl (ww hw 73 rfl)) (Or.inr (ww hw 17 rfl)) (by decide) (t := .boolean) (t' := .int) (by decide) (by decide)))).lt (Nat.le_of_eq g5.symm))) nin0)).other W7 (Or.inr (slot_ne (Or.inr (ww hw 17 rfl)) (Or.inr (ww hw 32 rfl)) (by decide) (t := .int) (t' := (.object sH)) (by decide) (by decide)))).other W8 (Or.inr (slot_ne (Or.inr (ww hw 17 rfl)) (Or.inr (ww hw 34 rfl)) (by decide) (t := .int) (t' := (.object "java/util/function/DoubleUnaryOperator")) (by decide) (by decide)))).ext E9).keep Kc10 (ninS (Nat.ne_of_lt (Nat.lt_of_lt_of_le ((((((F_t.other W3 (Or.inr (slot_ne (Or.inl (ww hw 73 rfl)) (Or.inl (ww hw 15 rfl)) (by decide) (t := .boolean) (t' := .double) (by decide) (by decide)))).other W4 (Or.inr (slot_ne (Or.inl (ww hw 73 rfl)) (Or.inr (ww hw 17 rfl)) (by decide) (t := .boolean) (t' := .int) (by decide) (by decide)))).ext E5).keep Kc6 (ninS (Nat.ne_of_lt (Nat.lt_of_lt_of_le ((F_t.other W3 (Or.inr (slot_ne (Or.inl (ww hw 73 rfl)) (Or.inl (ww hw 15 rfl)) (by decide) (t := .boolean) (t' := .double) (by decide) (by decide)))).other W4 (Or.inr (slot_ne (Or.inl (ww hw 73 rfl)) (Or.inr (ww hw 17 rfl)) (by decide) (t := .boolean) (t' := .int) (by decide) (by decide)))).lt (Nat.le_of_eq g5.symm))) nin0)).other W7 (Or.inr (slot_ne (Or.inl (ww hw 73 rfl)) (Or.inr (ww hw 32 rfl)) (by decide) (t := .boolean) (t' := (.object sH)) (by decide) (by decide)))).other W8 (Or.inr (slot_ne (Or.inl (ww hw 73 rfl)) (Or.inr (ww hw 34 rfl)) (by decide) (t := .boolean) (t' := (.object "java/util/function/DoubleUnaryOperator")) (by decide) (by decide)))).lt (Nat.le_of_eq g9.symm))) nin0)).other W11 (Or.inr (slot_ne (Or.inr (ww hw 17 rfl)) (Or.inr (ww hw 55 rfl)) (by decide) (t := .int) (t' := (.object sT)) (by decide) (by decide)))), ((((Fw7.other W8 (Or.inr (slot_ne (Or.inr (ww hw 32 rfl)) (Or.inr (ww hw 34 rfl)) (by decide) (t := (.object sH)) (t' := (.object "java/util/function/DoubleUnaryOperator")) (by decide) (by decide)))).ext E9).keep Kc10 (ninS (Nat.ne_of_lt (Nat.lt_of_lt_of_le ((((((F_t.other W3 (Or.inr (slot_ne (Or.inl (ww hw 73 rfl)) (Or.inl (ww hw 15 rfl)) (by decide) (t := .boolean) (t' := .double) (by decide) (by decide)))).other W4 (Or.inr (slot_ne (Or.inl (ww hw 73 rfl)) (Or.inr (ww hw 17 rfl)) (by decide) (t := .boolean) (t' := .int) (by decide) (by decide)))).ext E5).keep Kc6 (ninS (Nat.ne_of_lt (Nat.lt_of_lt_of_le ((F_t.other W3 (Or.inr (slot_ne (Or.inl (ww hw 73 rfl)) (Or.inl (ww hw 15 rfl)) (by decide) (t := .boolean) (t' := .double) (by decide) (by decide)))).other W4 (Or.inr (slot_ne (Or.inl (ww hw 73 rfl)) (Or.inr (ww hw 17 rfl)) (by decide) (t := .boolean) (t' := .int) (by decide) (by decide)))).lt (Nat.le_of_eq g5.symm))) nin0)).other W7 (Or.inr (slot_ne (Or.inl (ww hw 73 rfl)) (Or.inr (ww hw 32 rfl)) (by decide) (t := .boolean) (t' := (.object sH)) (by decide) (by decide)))).other W8 (Or.inr (slot_ne (Or.inl (ww hw 73 rfl)) (Or.inr (ww hw 34 rfl)) (by decide) (t := .boolean) (t' := (.object "java/util/function/DoubleUnaryOperator")) (by decide) (by decide)))).lt (Nat.le_of_eq g9.symm))) nin0)).other W11 (Or.inr (slot_ne (Or.inr (ww hw 32 rfl)) (Or.inr (ww hw 55 rfl)) (by decide) (t := (.object sH)) (t' := (.object sT)) (by decide) (by decide)))), (((Fw8.ext E9).keep Kc10 (ninS (Nat.ne_of_lt (Nat.lt_of_lt_of_le ((((((F_t.other W3 (Or.inr (slot_ne (Or.inl (ww hw 73 rfl)) (Or.inl (ww hw 15 rfl)) (by decide) (t := .boolean) (t' := .double) (by decide) (by decide)))).other W4 (Or.inr (slot_ne (Or.inl (ww hw 73 rfl)) (Or.inr (ww hw 17 rfl)) (by decide) (t := .boolean) (t' := .int) (by decide) (by decide)))).ext E5).keep Kc6 (ninS (Nat.ne_of_lt (Nat.lt_of_lt_of_le ((F_t.other W3 (Or.inr (slot_ne (Or.inl (ww hw 73 rfl)) (Or.inl (ww hw 15 rfl)) (by decide) (t := .boolean) (t' := .double) (by decide) (by decide)))).other W4 (Or.inr (slot_ne (Or.inl (ww hw 73 rfl)) (Or.inr (ww hw 17 rfl)) (by decide) (t := .boolean) (t' := .int) (by decide) (by decide)))).lt (Nat.le_of_eq g5.symm))) nin0)).other W7 (Or.inr (slot_ne (Or.inl (ww hw 73 rfl)) (Or.inr (ww hw 32 rfl)) (by decide) (t := .boolean) (t' := (.object sH)) (by decide) (by decide)))).other W8 (Or.inr (slot_ne (Or.inl (ww hw 73 rfl)) (Or.inr (ww hw 34 rfl)) (by decide) (t := .boolean) (t' := (.object "java/util/function/DoubleUnaryOperator")) (by decide) (by decide)))).lt (Nat.le_of_eq g9.symm))) nin0)).other W11 (Or.inr (slot_ne (Or.inr (ww hw 34 rfl)) (Or.inr (ww hw 55 rfl)) (by decide) (t := (.object "java/util/function/DoubleUnaryOperator")) (t' := (.object sT)) (by decide) (by decide)))), (((((((((F_t.other W3 (Or.inr (slot_ne (Or.inl (ww hw 73 rfl)) (Or.inl (ww hw 15 rfl)) (by decide) (t := .boolean) (t' := .double) (by decide) (by decide)))).other W4 (Or.inr (slot_ne (Or.inl (ww hw 73 rfl)) (Or.inr (ww hw 17 rfl)) (by decide) (t := .boolean) (t' := .int) (by decide) (by decide)))).ext E5).keep Kc6 (ninS (Nat.ne_of_lt (Nat.lt_of_lt_of_le ((F_t.other W3 (Or.inr (slot_ne (Or.inl (ww hw 73 rfl)) (Or.inl (ww hw 15 rfl)) (by decide) (t := .boolean) (t' := .double) (by decide) (by decide)))).other W4 (Or.inr (slot_ne (Or.inl (ww hw 73 rfl)) (Or.inr (ww hw 17 rfl)) (by decide) (t := .boolean) (t' := .int) (by decide) (by decide)))).lt (Nat.le_of_eq g5.symm))) nin0)).other W7 (Or.inr (slot_ne (Or.inl (ww hw 73 rfl)) (Or.inr (ww hw 32 rfl)) (by decide) (t := .boolean) (t' := (.object sH)) (by decide) (by decide)))).other W8 (Or.inr (slot_ne (Or.inl (ww hw 73 rfl)) (Or.inr (ww hw 34 rfl)) (by decide) (t := .boolean) (t' := (.object "java/util/function/DoubleUnaryOperator")) (by decide) (by decide)))).ext E9).keep Kc10 (ninS (Nat.ne_of_lt (Nat.lt_of_lt_of_le ((((((F_t.other W3 (Or.inr (slot_ne (Or.inl (ww hw 73 rfl)) (Or.inl (ww hw 15 rfl)) (by decide) (t := .boolean) (t' := .double) (by decide) (by decide)))).other W4 (Or.inr (slot_ne (Or.inl (ww hw 73 rfl)) (Or.inr (ww hw 17 rfl)) (by decide) (t := .boolean) (t' := .int) (by decide) (by decide)))).ext E5).keep Kc6 (ninS (Nat.ne_of_lt (Nat.lt_of_lt_of_le ((F_t.other W3 (Or.inr (slot_ne (Or.inl (ww hw 73 rfl)) (Or.inl (ww hw 15 rfl)) (by decide) (t := .boolean) (t' := .double) (by decide) (by decide)))).other W4 (Or.inr (slot_ne (Or.inl (ww hw 73 rfl)) (Or.inr (ww hw 17 rfl)) (by decide) (t := .boolean) (t' := .int) (by decide) (by decide)))).lt (Nat.le_of_eq g5.symm))) nin0)).other W7 (Or.inr (slot_ne (Or.inl (ww hw 73 rfl)) (Or.inr (ww hw 32 rfl)) (by decide) (t := .boolean) (t' := (.object sH)) (by decide) (by decide)))).other W8 (Or.inr (slot_ne (Or.inl (ww hw 73 rfl)) (Or.inr (ww hw 34 rfl)) (by decide) (t := .boolean) (t' := (.object "java/util/function/DoubleUnaryOperator")) (by decide) (by decide)))).lt (Nat.le_of_eq g9.symm))) nin0)).other W11 (Or.inr (slot_ne (Or.inl (ww hw 73 rfl)) (Or.inr (ww hw 55 rfl)) (by decide) (t := .boolean) (t' := (.object sT)) (by decide) (by decide)))), ((((((E_b5.keep Kc6).wr W7).wr W8).ext E9).keep Kc10).wr W11), (((((Fd6.other W7 (Or.inl (Ne.symm (Nat.ne_of_lt (Nat.lt_of_lt_of_le ((F_t.other W3 (Or.inr (slot_ne (Or.inl (ww hw 73 rfl)) (Or.inl (ww hw 15 rfl)) (by decide) (t := .boolean) (t' := .double) (by decide) (by decide)))).other W4 (Or.inr (slot_ne (Or.inl (ww hw 73 rfl)) (Or.inr (ww hw 17 rfl)) (by decide) (t := .boolean) (t' := .int) (by decide) (by decide)))).lt (Nat.le_of_eq g5.symm)))))).other W8 (Or.inl (Ne.symm (Nat.ne_of_lt (Nat.lt_of_lt_of_le ((F_t.other W3 (Or.inr (slot_ne (Or.inl (ww hw 73 rfl)) (Or.inl (ww hw 15 rfl)) (by decide) (t := .boolean) (t' := .double) (by decide) (by decide)))).other W4 (Or.inr (slot_ne (Or.inl (ww hw 73 rfl)) (Or.inr (ww hw 17 rfl)) (by decide) (t := .boolean) (t' := .int) (by decide) (by decide)))).lt (Nat.le_of_eq g5.symm)))))).ext E9).keep Kc10 (ninS (Nat.ne_of_lt (Nat.lt_of_lt_of_le (((E_b5.keep Kc6).wr W7).wr W8).lt (Nat.le_of_eq g9.symm))) nin0)).other W11 (Or.inl (Ne.symm (Nat.ne_of_lt (Nat.lt_of_lt_of_le ((F_t.other W3 (Or.inr (slot_ne (Or.inl (ww hw 73 rfl)) (Or.inl (ww hw 15 rfl)) (by decide) (t := .boolean) (t' := .double) (by decide) (by decide)))).other W4 (Or.inr (slot_ne (Or.inl (ww hw 73 rfl)) (Or.inr (ww hw 17 rfl)) (by decide) (t := .boolean) (t' := .int) (by decide) (by decide)))).lt (Nat.le_of_eq g5.symm)))))), (((((Fs6.other W7 (Or.inl (Ne.symm (Nat.ne_of_lt (Nat.lt_of_lt_of_le ((F_t.other W3 (Or.inr (slot_ne (Or.inl (ww hw 73 rfl)) (Or.inl (ww hw 15 rfl)) (by decide) (t := .boolean) (t' := .double) (by decide) (by decide)))).other W4 (Or.inr (slot_ne (Or.inl (ww hw 73 rfl)) (Or.inr (ww hw 17 rfl)) (by decide) (t := .boolean) (t' := .int) (by decide) (by decide)))).lt (Nat.le_of_eq g5.symm)))))).other W8 (Or.inl (Ne.symm (Nat.ne_of_lt (Nat.lt_of_lt_of_le ((F_t.other W3 (Or.inr (slot_ne (Or.inl (ww hw 73 rfl)) (Or.inl (ww hw 15 rfl)) (by decide) (t := .boolean) (t' := .double) (by decide) (by decide)))).other W4 (Or.inr (slot_ne (Or.inl (ww hw 73 rfl)) (Or.inr (ww hw 17 rfl)) (by decide) (t := .boolean) (t' := .int) (by decide) (by decide)))).lt (Nat.le_of_eq g5.symm)))))).ext E9).keep Kc10 (ninS (Nat.ne_of_lt (Nat.lt_of_lt_of_le (((E_b5.keep Kc6).wr W7).wr W8).lt (Nat.le_of_eq g9.symm))) nin0)).other W11 (Or.inl (Ne.symm (Nat.ne_of_lt (Nat.lt_of_lt_of_le ((F_t.other W3 (Or.inr (slot_ne (Or.inl (ww hw 73 rfl)) (Or.inl (ww hw 15 rfl)) (by decide) (t := .boolean) (t' := .double) (by decide) (by decide)))).other W4 (Or.inr (slot_ne (Or.inl (ww hw 73 rfl)) (Or.inr (ww hw 17 rfl)) (by decide) (t := .boolean) (t' := .int) (by decide) (by decide)))).lt (Nat.le_of_eq g5.symm)))))), (((((Fz6.other W7 (Or.inl (Ne.symm (Nat.ne_of_lt (Nat.lt_of_lt_of_le ((F_t.other W3 (Or.inr (slot_ne (Or.inl (ww hw 73 rfl)) (Or.inl (ww hw 15 rfl)) (by decide) (t := .boolean) (t' := .double) (by decide) (by decide)))).other W4 (Or.inr (slot_ne (Or.inl (ww hw 73 rfl)) (Or.inr (ww hw 17 rfl)) (by decide) (t := .boolean) (t' := .int) (by decide) (by decide)))).lt (Nat.le_of_eq g5.symm)))))).other W8 (Or.inl (Ne.symm (Nat.ne_of_lt (Nat.lt_of_lt_of_le ((F_t.other W3 (Or.inr (slot_ne (Or.inl (ww hw 73 rfl)) (Or.inl (ww hw 15 rfl)) (by decide) (t := .boolean) (t' := .double) (by decide) (by decide)))).other W4 (Or.inr (slot_ne (Or.inl (ww hw 73 rfl)) (Or.inr (ww hw 17 rfl)) (by decide) (t := .boolean) (t' := .int) (by decide) (by decide)))).lt (Nat.le_of_eq g5.symm)))))).ext E9).keep Kc10 (ninS (Nat.ne_of_lt (Nat.lt_of_lt_of_le (((E_b5.keep Kc6).wr W7).wr W8).lt (Nat.le_of_eq g9.symm))) nin0)).other W11 (Or.inl (Ne.symm (Nat.ne_of_lt (Nat.lt_of_lt_of_le ((F_t.other W3 (Or.inr (slot_ne (Or.inl (ww hw 73 rfl)) (Or.inl (ww hw 15 rfl)) (by decide) (t := .boolean) (t' := .double) (by decide) (by decide)))).other W4 (Or.inr (slot_ne (Or.inl (ww hw 73 rfl)) (Or.inr (ww hw 17 rfl)) (by decide) (t := .boolean) (t' := .int) (by decide) (by decide)))).lt (Nat.le_of_eq g5.symm)))))), ⟨_, (((((Vd6.other W7 (Ne.symm (Nat.ne_of_lt (Nat.lt_of_lt_of_le (((F_t.other W3 (Or.inr (slot_ne (Or.inl (ww hw 73 rfl)) (Or.inl (ww hw 15 rfl)) (by decide) (t := .boolean) (t' := .double) (by decide) (by decide)))).other W4 (Or.inr (slot_ne (Or.inl (ww hw 73 rfl)) (Or.inr (ww hw 17 rfl)) (by decide) (t := .boolean) (t' := .int) (by decide) (by decide)))).ext E5).lt hd6)))).other W8 (Ne.symm (Nat.ne_of_lt (Nat.lt_of_lt_of_le (((F_t.other W3 (Or.inr (slot_ne (Or.inl (ww hw 73 rfl)) (Or.inl (ww hw 15 rfl)) (by decide) (t := .boolean) (t' := .double) (by decide) (by decide)))).other W4 (Or.inr (slot_ne (Or.inl (ww hw 73 rfl)) (Or.inr (ww hw 17 rfl)) (by decide) (t := .boolean) (t' := .int) (by decide) (by decide)))).ext E5).lt hd6)))).ext E9).keep Kc10 (ninS (Nat.ne_of_lt (Nat.lt_of_lt_of_le ((Vd6.other W7 (Ne.symm (Nat.ne_of_lt (Nat.lt_of_lt_of_le (((F_t.other W3 (Or.inr (slot_ne (Or.inl (ww hw 73 rfl)) (Or.inl (ww hw 15 rfl)) (by decide) (t := .boolean) (t' := .double) (by decide) (by decide)))).other W4 (Or.inr (slot_ne (Or.inl (ww hw 73 rfl)) (Or.inr (ww hw 17 rfl)) (by decide) (t := .boolean) (t' := .int) (by decide) (by decide)))).ext E5).lt hd6)))).other W8 (Ne.symm (Nat.ne_of_lt (Nat.lt_of_lt_of_le (((F_t.other W3 (Or.inr (slot_ne (Or.inl (ww hw 73 rfl)) (Or.inl (ww hw 15 rfl)) (by decide) (t := .boolean) (t' := .double) (by decide) (by decide)))).other W4 (Or.inr (slot_ne (Or.inl (ww hw 73 rfl)) (Or.inr (ww hw 17 rfl)) (by decide) (t := .boolean) (t' := .int) (by decide) (by decide)))).ext E5).lt hd6)))).lt (Nat.le_of_eq g9.symm))) nin0)).other W11 (Ne.symm (Nat.ne_of_lt (Nat.lt_of_lt_of_le (((F_t.other W3 (Or.inr (slot_ne (Or.inl (ww hw 73 rfl)) (Or.inl (ww hw 15 rfl)) (by decide) (t := .boolean) (t' := .double) (by decide) (by decide)))).other W4 (Or.inr (slot_ne (Or.inl (ww hw 73 rfl)) (Or.inr (ww hw 17 rfl)) (by decide) (t := .boolean) (t' := .int) (by decide) (by decide)))).ext E5).lt hd6))))⟩, ⟨_, (((((Vs6.other W7 (Ne.symm (Nat.ne_of_lt (Nat.lt_of_lt_of_le (((F_t.other W3 (Or.inr (slot_ne (Or.inl (ww hw 73 rfl)) (Or.inl (ww hw 15 rfl)) (by decide) (t := .boolean) (t' := .double) (by decide) (by decide)))).other W4 (Or.inr (slot_ne (Or.inl (ww hw 73 rfl)) (Or.inr (ww hw 17 rfl)) (by decide) (t := .boolean) (t' := .int) (by decide) (by decide)))).ext E5).lt hs6)))).other W8 (Ne.symm (Nat.ne_of_lt (Nat.lt_of_lt_of_le (((F_t.other W3 (Or.inr (slot_ne (Or.inl (ww hw 73 rfl)) (Or.inl (ww hw 15 rfl)) (by decide) (t := .boolean) (t' := .double) (by decide) (by decide)))).other W4 (Or.inr (slot_ne (Or.inl (ww hw 73 rfl)) (Or.inr (ww hw 17 rfl)) (by decide) (t := .boolean) (t' := .int) (by decide) (by decide)))).ext E5).lt hs6)))).ext E9).keep Kc10 (ninS (Nat.ne_of_lt (Nat.lt_of_lt_of_le ((Vs6.other W7 (Ne.symm (Nat.ne_of_lt (Nat.lt_of_lt_of_le (((F_t.other W3 (Or.inr (slot_ne (Or.inl (ww hw 73 rfl)) (Or.inl (ww hw 15 rfl)) (by decide) (t := .boolean) (t' := .double) (by decide) (by decide)))).other W4 (Or.inr (slot_ne (Or.inl (ww hw 73 rfl)) (Or.inr (ww hw 17 rfl)) (by decide) (t := .boolean) (t' := .int) (by decide) (by decide)))).ext E5).lt hs6)))).other W8 (Ne.symm (Nat.ne_of_lt (Nat.lt_of_lt_of_le (((F_t.other W3 (Or.inr (slot_ne (Or.inl (ww hw 73 rfl)) (Or.inl (ww hw 15 rfl)) (by decide) (t := .boolean) (t' := .double) (by decide) (by decide)))).other W4 (Or.inr (slot_ne (Or.inl (ww hw 73 rfl)) (Or.inr (ww hw 17 rfl)) (by decide) (t := .boolean) (t' := .int) (by decide) (by decide)))).ext E5).lt hs6)))).lt (Nat.le_of_eq g9.symm))) nin0)).other W11 (Ne.symm (Nat.ne_of_lt (Nat.lt_of_lt_of_le (((F_t.other W3 (Or.inr (slot_ne (Or.inl (ww hw 73 rfl)) (Or.inl (ww hw 15 rfl)) (by decide) (t := .boolean) (t' := .double) (by decide) (by decide)))).other W4 (Or.inr (slot_ne (Or.inl (ww hw 73 rfl)) (Or.inr (ww hw 17 rfl)) (by decide) (t := .boolean) (t' := .int) (by decide) (by decide)))).ext E5).lt hs6))))⟩⟩
theorem ef_2_2 (m : MethodId) (x0 : Addr) : entryFrame m #[(.ref x0), (.int (2 : Int32)), .null, .null] 4 = mkF m 0 #[.val (.ref x0), .val (.int (2 : Int32)), .val .null, .val .null] [] := by first | (simp [entryFrame, mkF, argsToLocals, Value.category]; done) | rfl
def Q2_2 (Z : State) (a1 : Addr) (u_worstAsRead_a1 : Value) (u_capacity_a1 : Value) (u_best_a1 : Value) (u_asRead_a1 : Value) (u_ties_a1 : Value) (h0 : Heap) (n0 : Nat) (v : Option Value) (h : Heap) (L : List Loc) : Prop := ∃ hp da sa : Addr, v = none ∧ Fr n0 L ∧ Keep h0 h [a1] ∧ h0.size ≤ hp ∧ h0.size ≤ da ∧ h0.size ≤ sa ∧ hp ≠ da ∧ hp ≠ sa ∧ da ≠ sa ∧ Fld Z h a1 sB "capacity" "I" (.int (2 : Int32)) ∧ Fld Z h a1 sB "best" "Lcom/example/calpurnia/calpurnia/ranking/BestDocuments$Heap;" (.ref hp) ∧ Fld Z h a1 sB "asRead" "Ljava/util/function/DoubleUnaryOperator;" .null ∧ Fld Z h a1 sB "sorted" "Z" (.int (0 : Int32)) ∧ Exa Z h hp sH ∧ Fld Z h hp sH "documents" "[I" (.ref da) ∧ Fld Z h hp sH "scores" "[D" (.ref sa) ∧ Fld Z h hp sH "size" "I" (.int (0 : Int32)) ∧ (∃ D, own_AI Z h da (2 : Int32) D) ∧ (∃ S, own_AD Z h sa (2 : Int32) S)
set_option maxRecDepth 65536 in
set_option maxHeartbeats 40000000 in
theorem rm2_2 (l : Launch) (Z : State) (a0 : Array Value) (hw : ∀ d ∈ tables_1, d.before a0 Z = true) (ws : List Jvm.Cond) (a1 : Addr) (u_worstAsRead_a1 : Value) (u_capacity_a1 : Value) (u_best_a1 : Value) (u_asRead_a1 : Value) (u_ties_a1 : Value) (h0 : Heap) (n0 : Nat) (Z0 : n0 ≤ h0.size) (F_t : Fld Z h0 a1 sB "sorted" "Z" (.int (0 : Int32))) (E_a1 : Exa Z h0 a1 sB) (F_worstAsRead_a1 : Fld Z h0 a1 sB "worstAsRead" "D" u_worstAsRead_a1) (g_a1 : n0 ≤ a1) (F_capacity_a1 : Fld Z h0 a1 sB "capacity" "I" u_capacity_a1) (F_best_a1 : Fld Z h0 a1 sB "best" "Lcom/example/calpurnia/calpurnia/ranking/BestDocuments$Heap;" u_best_a1) (F_asRead_a1 : Fld Z h0 a1 sB "asRead" "Ljava/util/function/DoubleUnaryOperator;" u_asRead_a1) (F_ties_a1 : Fld Z h0 a1 sB "ties" "Lcom/example/calpurnia/calpurnia/ranking/BestDocuments$Ties;" u_ties_a1) :
    MetFree l (⟨sB, "<init>", "(ILjava/util/function/DoubleUnaryOperator;Lcom/example/calpurnia/calpurnia/ranking/BestDocuments$DocumentOrder;)V"⟩ : MethodName) (head1 (Jvm.Cond.code (⟨sB, "<init>", "(ILjava/util/function/DoubleUnaryOperator;Lcom/example/calpurnia/calpurnia/ranking/BestDocuments$DocumentOrder;)V"⟩ : MethodName) prog_186_method_2_code 4 none :: ws) ({ frames := 2, cells := 8, slots := 19, locals := 36 } : Room)) (fun a U => a = #[(.ref a1), (.int (2 : Int32)), .null, .null] ∧ Z.Warmed39 U.vm ∧ U.heap = h0) (fun _ _ _ _ _ => True) (fun _ U o U' => ∃ v L, o = .returned v ∧ Q2_2 Z a1 u_worstAsRead_a1 u_capacity_a1 u_best_a1 u_asRead_a1 u_ties_a1 h0 n0 v U'.heap L ∧ FrameEnd U o U' L ({ frames := 2, cells := 8, slots := 19, locals := 36 } : Room).cells ({ frames := 2, cells := 8, slots := 19, locals := 36 } : Room).slots) := by
  refine MetFree.of_bodySF (plainFor_of_name pn_2) hisR ?_
  intro p e s m args below meth c s₁ Bd hml0 hP hK
  obtain ⟨rfl, hZ, hh⟩ := hP
  have hx := Bd.exec
  have hby := Bd.bytes
  have hml : c.maxLocals = 4 := hml0
  have hown : s.vm.findClass sB = some m.cls := findClass_of_methodNamed Bd.named
  have hnm := (name_of_methodNamed Bd.named Bd.method).1
  have X0 : Stand p l e ({ frames := 2, cells := 8, slots := 19, locals := 36 } : Room) s m #[(.ref a1), (.int (2 : Int32)), .null, .null] below meth c s₁ [] 0 0 := Stand.of_body Bd
  have e0 : s₁.heap = h0 := by rw [← hh, Bd.state]; rfl
  have N0 := Fr.nil n0
  have pre0 : ∀ t, Steps p.tables e below (s₁.setTop (mkF m 0 #[.val (.ref a1), .val (.int (2 : Int32)), .val .null, .val .null] [])) t → Steps p.tables e below (s₁.setTop (entryFrame m #[(.ref a1), (.int (2 : Int32)), .null, .null] 4)) t := fun t k => castTop (ef_2_2 m a1) k

  obtain ⟨T2, X2, e2, st2⟩ := initO X0 hx hZ hown (ww hw 10 rfl) (ww hw 11 rfl) (ww hw 12 rfl) e0 (g := (mkF m 1 #[.val (.ref a1), .val (.int (2 : Int32)), .val .null, .val .null] [(.ref a1)])) rfl (by rw [hml]; rfl) rfl (hb hby d2_1) (by decide) (W := 0) (by show 2 * 0 + _ ≤ _; exact Nat.le_of_eq rfl) (by decide)
  obtain ⟨T3, h3, X3, e3, W3, st3⟩ := putF X2 hx hZ hown (host := "") (Or.inl (ww hw 14 rfl)) Via.refl e2 F_worstAsRead_a1 E_a1 (Or.inl (ww hw 15 rfl)) (ww hw 2 rfl) (ty := .double) (by decide) rfl rfl (g := (mkF m 8 #[.val (.ref a1), .val (.int (2 : Int32)), .val .null, .val .null] [(.double (9221120237041090560 : UInt64)), (.ref a1)])) rfl rfl (hb hby d2_8)
  have Fw3 := F_worstAsRead_a1.same W3
  have K3 : Keep h0 h3 [a1] := (Keep.refl h0 [a1]).wr W3 (Or.inl (List.mem_of_getElem? (i := 0) rfl))
  have N3 := Fr.snoc X3 N0 g_a1
  obtain ⟨T4, h4, X4, e4, W4, st4⟩ := putF X3 hx hZ hown (host := "") (Or.inl (ww hw 16 rfl)) Via.refl e3 (F_capacity_a1.other W3 (Or.inr (slot_ne (Or.inr (ww hw 17 rfl)) (Or.inl (ww hw 15 rfl)) (by decide) (t := .int) (t' := .double) (by decide) (by decide)))) (E_a1.wr W3) (Or.inr ⟨(ww hw 17 rfl), rfl, hnm⟩) (ww hw 2 rfl) (ty := .int) (by decide) rfl rfl (g := (mkF m 13 #[.val (.ref a1), .val (.int (2 : Int32)), .val .null, .val .null] [(.int (2 : Int32)), (.ref a1)])) rfl rfl (hb hby d2_13)
  have Fw4 := (F_capacity_a1.other W3 (Or.inr (slot_ne (Or.inr (ww hw 17 rfl)) (Or.inl (ww hw 15 rfl)) (by decide) (t := .int) (t' := .double) (by decide) (by decide)))).same W4
  have K4 : Keep h0 h4 [a1] := K3.wr W4 (Or.inl (List.mem_of_getElem? (i := 0) rfl))
  have N4 := Fr.snoc X4 N3 g_a1
  obtain ⟨T5, h5, X5, e5, E5, A5, D5, -, st5⟩ := newO X4 hx hZ hown (ww hw 18 rfl) (ww hw 19 rfl) (ww hw 20 rfl) e4 (g := (mkF m 17 #[.val (.ref a1), .val (.int (2 : Int32)), .val .null, .val .null] [(.ref a1)])) rfl (hb hby d2_17) (by decide) (by decide)
  obtain ⟨b5, g5⟩ : ∃ z, z = h4.size := ⟨_, rfl⟩
  rw [← g5] at A5 D5 st5
  have F_documents_b5 : Fld Z h5 b5 sH "documents" "[I" .null := D5 (Or.inl (ww hw 27 rfl)) (ty := (.array .int)) (by decide)
  have F_scores_b5 : Fld Z h5 b5 sH "scores" "[D" .null := D5 (Or.inl (ww hw 30 rfl)) (ty := (.array .double)) (by decide)
  have F_size_b5 : Fld Z h5 b5 sH "size" "I" (.int (0 : Int32)) := D5 (Or.inl (ww hw 62 rfl)) (ty := .int) (by decide)
  have E_b5 := A5
  have g_b5 : n0 ≤ b5 := Nat.le_trans (Nat.le_trans (Nat.le_trans Z0 (Keep.of_wr W3).1) (Keep.of_wr W4).1) (Nat.le_of_eq g5.symm)
  have sz_b5 : h0.size ≤ b5 := (Nat.le_trans K4.1 (Nat.le_of_eq g5.symm))
  have K5 : Keep h0 h5 [a1] := K4.ext E5
  obtain ⟨_, _, ⟨T6, L6, k6, n6⟩, -, X6, ⟨Lc6, hQ6, l6, y6, z6⟩, st6⟩ := X5.specialBack hx (y := (⟨sH, "<init>", "(I)V"⟩ : MethodName)) rfl hown (mvT hZ (ww hw 21 rfl)) (mvT hZ (ww hw 22 rfl)) (mvT hZ (ww hw 23 rfl)) (by decide) (backOf (W := 2) (rm4_2 l Z a0 hw [] b5 _ _ h5 n0 (Nat.le_trans (Nat.le_trans (Nat.le_trans Z0 (Keep.of_wr W3).1) (Keep.of_wr W4).1) E5.1) F_size_b5 E_b5 F_documents_b5 g_b5 F_scores_b5) hZ (ww hw 23 rfl) (ww hw 20 rfl) (by decide) (by decide)) (g := (mkF m 22 #[.val (.ref a1), .val (.int (2 : Int32)), .val .null, .val .null] [(.int (2 : Int32)), (.ref b5), (.ref b5), (.ref a1)])) rfl (by rw [hml]; rfl) (Steps.refl _) (a := b5) (argsL := [(.int (2 : Int32))]) (rest := [(.ref b5), (.ref a1)]) (lenOf pd_2_0 rfl) rfl (by show 2 * 0 + _ ≤ _; exact Nat.le_of_eq rfl) (hb hby d2_22) (fun _ _ => ⟨rfl, e5, (by decide : 1 + 2 ≤ _), (by decide : 3 + 4 ≤ _)⟩)
  dsimp only [Pt.U, Pt.locs, Pt.cells, Pt.slots] at X6 l6 y6 z6 st6 hQ6
  subst l6 y6 z6
  obtain ⟨da6, sa6, rfl, N6q, Kc6, hd6, hs6, nds6, Fd6, Fs6, Fz6, ⟨D6, Vd6⟩, ⟨S6, Vs6⟩⟩ := hQ6
  have N6 := Fr.app N4 N6q
  have g_da6 : n0 ≤ da6 := Nat.le_trans (Nat.le_trans (Nat.le_trans (Nat.le_trans Z0 (Keep.of_wr W3).1) (Keep.of_wr W4).1) E5.1) hd6
  have sz_da6 : h0.size ≤ da6 := Nat.le_trans K5.1 hd6
  have g_sa6 : n0 ≤ sa6 := Nat.le_trans (Nat.le_trans (Nat.le_trans (Nat.le_trans Z0 (Keep.of_wr W3).1) (Keep.of_wr W4).1) E5.1) hs6
  have sz_sa6 : h0.size ≤ sa6 := Nat.le_trans K5.1 hs6
  have K6 : Keep h0 T6.heap [a1] := K5.trans Kc6 (allS (Or.inr sz_b5) all0)
  obtain ⟨T7, h7, X7, e7, W7, st7⟩ := putF X6 hx hZ hown (host := "") (Or.inl (ww hw 31 rfl)) Via.refl rfl ((((F_best_a1.other W3 (Or.inr (slot_ne (Or.inr (ww hw 32 rfl)) (Or.inl (ww hw 15 rfl)) (by decide) (t := (.object sH)) (t' := .double) (by decide) (by decide)))).other W4 (Or.inr (slot_ne (Or.inr (ww hw 32 rfl)) (Or.inr (ww hw 17 rfl)) (by decide) (t := (.object sH)) (t' := .int) (by decide) (by decide)))).ext E5).keep Kc6 (ninS (Nat.ne_of_lt (Nat.lt_of_lt_of_le ((F_t.other W3 (Or.inr (slot_ne (Or.inl (ww hw 73 rfl)) (Or.inl (ww hw 15 rfl)) (by decide) (t := .boolean) (t' := .double) (by decide) (by decide)))).other W4 (Or.inr (slot_ne (Or.inl (ww hw 73 rfl)) (Or.inr (ww hw 17 rfl)) (by decide) (t := .boolean) (t' := .int) (by decide) (by decide)))).lt (Nat.le_of_eq g5.symm))) nin0)) ((((E_a1.wr W3).wr W4).ext E5).keep Kc6) (Or.inr ⟨(ww hw 32 rfl), rfl, hnm⟩) (ww hw 2 rfl) (ty := (.object sH)) (by decide) rfl rfl (g := (mkF m 25 #[.val (.ref a1), .val (.int (2 : Int32)), .val .null, .val .null] [(.ref b5), (.ref a1)])) rfl rfl (hb hby d2_25)
  have Fw7 := ((((F_best_a1.other W3 (Or.inr (slot_ne (Or.inr (ww hw 32 rfl)) (Or.inl (ww hw 15 rfl)) (by decide) (t := (.object sH)) (t' := .double) (by decide) (by decide)))).other W4 (Or.inr (slot_ne (Or.inr (ww hw 32 rfl)) (Or.inr (ww hw 17 rfl)) (by decide) (t := (.object sH)) (t' := .int) (by decide) (by decide)))).ext E5).keep Kc6 (ninS (Nat.ne_of_lt (Nat.lt_of_lt_of_le ((F_t.other W3 (Or.inr (slot_ne (Or.inl (ww hw 73 rfl)) (Or.inl (ww hw 15 rfl)) (by decide) (t := .boolean) (t' := .double) (by decide) (by decide)))).other W4 (Or.inr (slot_ne (Or.inl (ww hw 73 rfl)) (Or.inr (ww hw 17 rfl)) (by decide) (t := .boolean) (t' := .int) (by decide) (by decide)))).lt (Nat.le_of_eq g5.symm))) nin0)).same W7
  have K7 : Keep h0 h7 [a1] := K6.wr W7 (Or.inl (List.mem_of_getElem? (i := 0) rfl))
  have N7 := Fr.snoc X7 N6 g_a1
  obtain ⟨T8, h8, X8, e8, W8, st8⟩ := putF X7 hx hZ hown (host := "") (Or.inl (ww hw 33 rfl)) Via.refl e7 (((((F_asRead_a1.other W3 (Or.inr (slot_ne (Or.inr (ww hw 34 rfl)) (Or.inl (ww hw 15 rfl)) (by decide) (t := (.object "java/util/function/DoubleUnaryOperator")) (t' := .double) (by decide) (by decide)))).other W4 (Or.inr (slot_ne (Or.inr (ww hw 34 rfl)) (Or.inr (ww hw 17 rfl)) (by decide) (t := (.object "java/util/function/DoubleUnaryOperator")) (t' := .int) (by decide) (by decide)))).ext E5).keep Kc6 (ninS (Nat.ne_of_lt (Nat.lt_of_lt_of_le ((F_t.other W3 (Or.inr (slot_ne (Or.inl (ww hw 73 rfl)) (Or.inl (ww hw 15 rfl)) (by decide) (t := .boolean) (t' := .double) (by decide) (by decide)))).other W4 (Or.inr (slot_ne (Or.inl (ww hw 73 rfl)) (Or.inr (ww hw 17 rfl)) (by decide) (t := .boolean) (t' := .int) (by decide) (by decide)))).lt (Nat.le_of_eq g5.symm))) nin0)).other W7 (Or.inr (slot_ne (Or.inr (ww hw 34 rfl)) (Or.inr (ww hw 32 rfl)) (by decide) (t := (.object "java/util/function/DoubleUnaryOperator")) (t' := (.object sH)) (by decide) (by decide)))) (((((E_a1.wr W3).wr W4).ext E5).keep Kc6).wr W7) (Or.inr ⟨(ww hw 34 rfl), rfl, hnm⟩) (ww hw 2 rfl) (ty := (.object "java/util/function/DoubleUnaryOperator")) (by decide) rfl rfl (g := (mkF m 30 #[.val (.ref a1), .val (.int (2 : Int32)), .val .null, .val .null] [.null, (.ref a1)])) rfl rfl (hb hby d2_30)
  have Fw8 := (((((F_asRead_a1.other W3 (Or.inr (slot_ne (Or.inr (ww hw 34 rfl)) (Or.inl (ww hw 15 rfl)) (by decide) (t := (.object "java/util/function/DoubleUnaryOperator")) (t' := .double) (by decide) (by decide)))).other W4 (Or.inr (slot_ne (Or.inr (ww hw 34 rfl)) (Or.inr (ww hw 17 rfl)) (by decide) (t := (.object "java/util/function/DoubleUnaryOperator")) (t' := .int) (by decide) (by decide)))).ext E5).keep Kc6 (ninS (Nat.ne_of_lt (Nat.lt_of_lt_of_le ((F_t.other W3 (Or.inr (slot_ne (Or.inl (ww hw 73 rfl)) (Or.inl (ww hw 15 rfl)) (by decide) (t := .boolean) (t' := .double) (by decide) (by decide)))).other W4 (Or.inr (slot_ne (Or.inl (ww hw 73 rfl)) (Or.inr (ww hw 17 rfl)) (by decide) (t := .boolean) (t' := .int) (by decide) (by decide)))).lt (Nat.le_of_eq g5.symm))) nin0)).other W7 (Or.inr (slot_ne (Or.inr (ww hw 34 rfl)) (Or.inr (ww hw 32 rfl)) (by decide) (t := (.object "java/util/function/DoubleUnaryOperator")) (t' := (.object sH)) (by decide) (by decide)))).same W8
  have K8 : Keep h0 h8 [a1] := K7.wr W8 (Or.inl (List.mem_of_getElem? (i := 0) rfl))
  have N8 := Fr.snoc X8 N7 g_a1
  obtain ⟨T9, h9, X9, e9, E9, A9, D9, -, st9⟩ := newO X8 hx hZ hown (ww hw 35 rfl) (ww hw 36 rfl) (ww hw 37 rfl) e8 (g := (mkF m 34 #[.val (.ref a1), .val (.int (2 : Int32)), .val .null, .val .null] [(.ref a1)])) rfl (hb hby d2_34) (by decide) (by decide)
  obtain ⟨b9, g9⟩ : ∃ z, z = h8.size := ⟨_, rfl⟩
  rw [← g9] at A9 D9 st9
  have F_documents_b9 : Fld Z h9 b9 sT "documents" "[I" .null := D9 (Or.inl (ww hw 43 rfl)) (ty := (.array .int)) (by decide)
  have F_scores_b9 : Fld Z h9 b9 sT "scores" "[D" .null := D9 (Or.inl (ww hw 45 rfl)) (ty := (.array .double)) (by decide)
  have F_merged_b9 : Fld Z h9 b9 sT "merged" "[I" .null := D9 (Or.inl (ww hw 47 rfl)) (ty := (.array .int)) (by decide)
  have F_mergedScores_b9 : Fld Z h9 b9 sT "mergedScores" "[D" .null := D9 (Or.inl (ww hw 49 rfl)) (ty := (.array .double)) (by decide)
  have F_capacity_b9 : Fld Z h9 b9 sT "capacity" "I" (.int (0 : Int32)) := D9 (Or.inr (ww hw 51 rfl)) (ty := .int) (by decide)
  have F_order_b9 : Fld Z h9 b9 sT "order" "Lcom/example/calpurnia/calpurnia/ranking/BestDocuments$DocumentOrder;" .null := D9 (Or.inr (ww hw 53 rfl)) (ty := (.object "com/example/calpurnia/calpurnia/ranking/BestDocuments$DocumentOrder")) (by decide)
  have E_b9 := A9
  have g_b9 : n0 ≤ b9 := Nat.le_trans (Nat.le_trans (Nat.le_trans (Nat.le_trans (Nat.le_trans (Nat.le_trans (Nat.le_trans Z0 (Keep.of_wr W3).1) (Keep.of_wr W4).1) E5.1) Kc6.1) (Keep.of_wr W7).1) (Keep.of_wr W8).1) (Nat.le_of_eq g9.symm)
  have sz_b9 : h0.size ≤ b9 := (Nat.le_trans K8.1 (Nat.le_of_eq g9.symm))
  have K9 : Keep h0 h9 [a1] := K8.ext E9
  obtain ⟨_, _, ⟨T10, L10, k10, n10⟩, -, X10, ⟨Lc10, hQ10, l10, y10, z10⟩, st10⟩ := X9.specialBack hx (y := (⟨sT, "<init>", "(ILcom/example/calpurnia/calpurnia/ranking/BestDocuments$DocumentOrder;)V"⟩ : MethodName)) rfl hown (mvT hZ (ww hw 38 rfl)) (mvT hZ (ww hw 39 rfl)) (mvT hZ (ww hw 40 rfl)) (by decide) (backOf (W := 2) (rm5 l Z a0 hw [] b9 (2 : Int32) _ _ _ _ _ _ h9 n0 (Nat.le_trans (Nat.le_trans (Nat.le_trans (Nat.le_trans (Nat.le_trans (Nat.le_trans (Nat.le_trans Z0 (Keep.of_wr W3).1) (Keep.of_wr W4).1) E5.1) Kc6.1) (Keep.of_wr W7).1) (Keep.of_wr W8).1) E9.1) E_b9 F_documents_b9 g_b9 F_scores_b9 F_merged_b9 F_mergedScores_b9 F_capacity_b9 F_order_b9) hZ (ww hw 40 rfl) (ww hw 37 rfl) (by decide) (by decide)) (g := (mkF m 40 #[.val (.ref a1), .val (.int (2 : Int32)), .val .null, .val .null] [.null, (.int (2 : Int32)), (.ref b9), (.ref b9), (.ref a1)])) rfl (by rw [hml]; rfl) (Steps.refl _) (a := b9) (argsL := [(.int (2 : Int32)), .null]) (rest := [(.ref b9), (.ref a1)]) (lenOf pd_2_3 rfl) rfl (by show 2 * 0 + _ ≤ _; exact Nat.le_of_eq rfl) (hb hby d2_40) (fun _ _ => ⟨rfl, e9, (by decide : 4 + 4 ≤ _), (by decide : 17 + 0 ≤ _)⟩)
  dsimp only [Pt.U, Pt.locs, Pt.cells, Pt.slots] at X10 l10 y10 z10 st10 hQ10
  subst l10 y10 z10
  obtain ⟨rfl, N10q, Kc10⟩ := hQ10
  have N10 := Fr.app N8 N10q
  have K10 : Keep h0 T10.heap [a1] := K9.trans Kc10 (allS (Or.inr sz_b9) all0)
  obtain ⟨T11, h11, X11, e11, W11, st11⟩ := putF X10 hx hZ hown (host := "") (Or.inl (ww hw 54 rfl)) Via.refl rfl ((((((((F_ties_a1.other W3 (Or.inr (slot_ne (Or.inr (ww hw 55 rfl)) (Or.inl (ww hw 15 rfl)) (by decide) (t := (.object sT)) (t' := .double) (by decide) (by decide)))).other W4 (Or.inr (slot_ne (Or.inr (ww hw 55 rfl)) (Or.inr (ww hw 17 rfl)) (by decide) (t := (.object sT)) (t' := .int) (by decide) (by decide)))).ext E5).keep Kc6 (ninS (Nat.ne_of_lt (Nat.lt_of_lt_of_le ((F_t.other W3 (Or.inr (slot_ne (Or.inl (ww hw 73 rfl)) (Or.inl (ww hw 15 rfl)) (by decide) (t := .boolean) (t' := .double) (by decide) (by decide)))).other W4 (Or.inr (slot_ne (Or.inl (ww hw 73 rfl)) (Or.inr (ww hw 17 rfl)) (by decide) (t := .boolean) (t' := .int) (by decide) (by decide)))).lt (Nat.le_of_eq g5.symm))) nin0)).other W7 (Or.inr (slot_ne (Or.inr (ww hw 55 rfl)) (Or.inr (ww hw 32 rfl)) (by decide) (t := (.object sT)) (t' := (.object sH)) (by decide) (by decide)))).other W8 (Or.inr (slot_ne (Or.inr (ww hw 55 rfl)) (Or.inr (ww hw 34 rfl)) (by decide) (t := (.object sT)) (t' := (.object "java/util/function/DoubleUnaryOperator")) (by decide) (by decide)))).ext E9).keep Kc10 (ninS (Nat.ne_of_lt (Nat.lt_of_lt_of_le ((((((F_t.other W3 (Or.inr (slot_ne (Or.inl (ww hw 73 rfl)) (Or.inl (ww hw 15 rfl)) (by decide) (t := .boolean) (t' := .double) (by decide) (by decide)))).other W4 (Or.inr (slot_ne (Or.inl (ww hw 73 rfl)) (Or.inr (ww hw 17 rfl)) (by decide) (t := .boolean) (t' := .int) (by decide) (by decide)))).ext E5).keep Kc6 (ninS (Nat.ne_of_lt (Nat.lt_of_lt_of_le ((F_t.other W3 (Or.inr (slot_ne (Or.inl (ww hw 73 rfl)) (Or.inl (ww hw 15 rfl)) (by decide) (t := .boolean) (t' := .double) (by decide) (by decide)))).other W4 (Or.inr (slot_ne (Or.inl (ww hw 73 rfl)) (Or.inr (ww hw 17 rfl)) (by decide) (t := .boolean) (t' := .int) (by decide) (by decide)))).lt (Nat.le_of_eq g5.symm))) nin0)).other W7 (Or.inr (slot_ne (Or.inl (ww hw 73 rfl)) (Or.inr (ww hw 32 rfl)) (by decide) (t := .boolean) (t' := (.object sH)) (by decide) (by decide)))).other W8 (Or.inr (slot_ne (Or.inl (ww hw 73 rfl)) (Or.inr (ww hw 34 rfl)) (by decide) (t := .boolean) (t' := (.object "java/util/function/DoubleUnaryOperator")) (by decide) (by decide)))).lt (Nat.le_of_eq g9.symm))) nin0)) ((((((((E_a1.wr W3).wr W4).ext E5).keep Kc6).wr W7).wr W8).ext E9).keep Kc10) (Or.inr ⟨(ww hw 55 rfl), rfl, hnm⟩) (ww hw 2 rfl) (ty := (.object sT)) (by decide) rfl rfl (g := (mkF m 43 #[.val (.ref a1), .val (.int (2 : Int32)), .val .null, .val .null] [(.ref b9), (.ref a1)])) rfl rfl (hb hby d2_43)
  have Fw11 := ((((((((F_ties_a1.other W3 (Or.inr (slot_ne (Or.inr (ww hw 55 rfl)) (Or.inl (ww hw 15 rfl)) (by decide) (t := (.object sT)) (t' := .double) (by decide) (by decide)))).other W4 (Or.inr (slot_ne (Or.inr (ww hw 55 rfl)) (Or.inr (ww hw 17 rfl)) (by decide) (t := (.object sT)) (t' := .int) (by decide) (by decide)))).ext E5).keep Kc6 (ninS (Nat.ne_of_lt (Nat.lt_of_lt_of_le ((F_t.other W3 (Or.inr (slot_ne (Or.inl (ww hw 73 rfl)) (Or.inl (ww hw 15 rfl)) (by decide) (t := .boolean) (t' := .double) (by decide) (by decide)))).other W4 (Or.inr (slot_ne (Or.inl (ww hw 73 rfl)) (Or.inr (ww hw 17 rfl)) (by decide) (t := .boolean) (t' := .int) (by decide) (by decide)))).lt (Nat.le_of_eq g5.symm))) nin0)).other W7 (Or.inr (slot_ne (Or.inr (ww hw 55 rfl)) (Or.inr (ww hw 32 rfl)) (by decide) (t := (.object sT)) (t' := (.object sH)) (by decide) (by decide)))).other W8 (Or.inr (slot_ne (Or.inr (ww hw 55 rfl)) (Or.inr (ww hw 34 rfl)) (by decide) (t := (.object sT)) (t' := (.object "java/util/function/DoubleUnaryOperator")) (by decide) (by decide)))).ext E9).keep Kc10 (ninS (Nat.ne_of_lt (Nat.lt_of_lt_of_le ((((((F_t.other W3 (Or.inr (slot_ne (Or.inl (ww hw 73 rfl)) (Or.inl (ww hw 15 rfl)) (by decide) (t := .boolean) (t' := .double) (by decide) (by decide)))).other W4 (Or.inr (slot_ne (Or.inl (ww hw 73 rfl)) (Or.inr (ww hw 17 rfl)) (by decide) (t := .boolean) (t' := .int) (by decide) (by decide)))).ext E5).keep Kc6 (ninS (Nat.ne_of_lt (Nat.lt_of_lt_of_le ((F_t.other W3 (Or.inr (slot_ne (Or.inl (ww hw 73 rfl)) (Or.inl (ww hw 15 rfl)) (by decide) (t := .boolean) (t' := .double) (by decide) (by decide)))).other W4 (Or.inr (slot_ne (Or.inl (ww hw 73 rfl)) (Or.inr (ww hw 17 rfl)) (by decide) (t := .boolean) (t' := .int) (by decide) (by decide)))).lt (Nat.le_of_eq g5.symm))) nin0)).other W7 (Or.inr (slot_ne (Or.inl (ww hw 73 rfl)) (Or.inr (ww hw 32 rfl)) (by decide) (t := .boolean) (t' := (.object sH)) (by decide) (by decide)))).other W8 (Or.inr (slot_ne (Or.inl (ww hw 73 rfl)) (Or.inr (ww hw 34 rfl)) (by decide) (t := .boolean) (t' := (.object "java/util/function/DoubleUnaryOperator")) (by decide) (by decide)))).lt (Nat.le_of_eq g9.symm))) nin0)).same W11
  have K11 : Keep h0 h11 [a1] := K10.wr W11 (Or.inl (List.mem_of_getElem? (i := 0) rfl))
  have N11 := Fr.snoc X11 N10 g_a1
  obtain ⟨fs, hr, hrun, hended, hW, hsame⟩ := X11.leave (v := none) (fun _ => rfl)
  refine ⟨_, _, pre0 _ ?_, hrun, hended, _, _, rfl, ?_, ⟨_, rfl⟩, hW, hsame.mono (by decide) (by decide)⟩
  · show Steps _ _ _ (s₁.setTop (mkF m 0 #[.val (.ref a1), .val (.int (2 : Int32)), .val .null, .val .null] [])) _
    refine XS.aloadN X0.here hx rfl (hb hby d2_0) rfl rfl ?_
    refine st2 _ ?_
    refine XS.aloadN X2.here hx rfl (hb hby d2_4) rfl rfl ?_
    refine X2.ldc2DoubleC hx hown (mvT hZ (ww hw 13 rfl)) (g := (mkF m 5 #[.val (.ref a1), .val (.int (2 : Int32)), .val .null, .val .null] [(.ref a1)])) rfl (hb hby d2_5) _ ?_
    refine st3 _ ?_
    refine XS.aloadN X3.here hx rfl (hb hby d2_11) rfl rfl ?_
    refine XS.iloadN X3.here hx rfl (hb hby d2_12) rfl ?_
    refine st4 _ ?_
    refine XS.aloadN X4.here hx rfl (hb hby d2_16) rfl rfl ?_
    refine st5 _ ?_
    refine XS.dup X5.here hx rfl (hb hby d2_20) rfl rfl ?_
    refine XS.iloadN X5.here hx rfl (hb hby d2_21) rfl ?_
    refine st6.trans ?_
    refine st7 _ ?_
    refine XS.aloadN X7.here hx rfl (hb hby d2_28) rfl rfl ?_
    refine XS.aloadN X7.here hx rfl (hb hby d2_29) rfl rfl ?_
    refine st8 _ ?_
    refine XS.aloadN X8.here hx rfl (hb hby d2_33) rfl rfl ?_
    refine st9 _ ?_
    refine XS.dup X9.here hx rfl (hb hby d2_37) rfl rfl ?_
    refine XS.iloadN X9.here hx rfl (hb hby d2_38) rfl ?_
    refine XS.aloadN X9.here hx rfl (hb hby d2_39) rfl rfl ?_
    refine st10.trans ?_
    refine st11 _ ?_
    exact X11.returnOut hx Bd.returns (hb hby d2_46) hr
  · show Q2_2 Z a1 u_worstAsRead_a1 u_capacity_a1 u_best_a1 u_asRead_a1 u_ties_a1 h0 n0 _ T11.heap _
    rw [e11]
    exact ⟨b5, da6, sa6, rfl, N11, K11, sz_b5, sz_da6, sz_sa6, (Nat.ne_of_lt (Nat.lt_of_lt_of_le E_b5.lt hd6)), (Nat.ne_of_lt (Nat.lt_of_lt_of_le E_b5.lt hs6)), nds6, (((((((Fw4.ext E5).keep Kc6 (ninS (Nat.ne_of_lt (Nat.lt_of_lt_of_le ((F_t.other W3 (Or.inr (slot_ne (Or.inl (ww hw 73 rfl)) (Or.inl (ww hw 15 rfl)) (by decide) (t := .boolean) (t' := .double) (by decide) (by decide)))).other W4 (Or.inr (slot_ne (Or.inl (ww hw 73 rfl)) (Or.inr (ww hw 17 rfl)) (by decide) (t := .boolean) (t' := .int) (by decide) (by decide)))).lt (Nat.le_of_eq g5.symm))) nin0)).other W7 (Or.inr (slot_ne (Or.inr (ww hw 17 rfl)) (Or.inr (ww hw 32 rfl)) (by decide) (t := .int) (t' := (.object sH)) (by decide) (by decide)))).other W8 (Or.inr (slot_ne (Or.inr (ww hw 17 rfl)) (Or.inr (ww hw 34 rfl)) (by decide) (t := .int) (t' := (.object "java/util/function/DoubleUnaryOperator")) (by decide) (by decide)))).ext E9).keep Kc10 (ninS (Nat.ne_of_lt (Nat.lt_of_lt_of_le ((((((F_t.other W3 (Or.inr (slot_ne (Or.inl (ww hw 73 rfl)) (Or.inl (ww hw 15 rfl)) (by decide) (t := .boolean) (t' := .double) (by decide) (by decide)))).other W4 (Or.inr (slot_ne (Or.inl (ww hw 73 rfl)) (Or.inr (ww hw 17 rfl)) (by decide) (t := .boolean) (t' := .int) (by decide) (by decide)))).ext E5).keep Kc6 (ninS (Nat.ne_of_lt (Nat.lt_of_lt_of_le ((F_t.other W3 (Or.inr (slot_ne (Or.inl (ww hw 73 rfl)) (Or.inl (ww hw 15 rfl)) (by decide) (t := .boolean) (t' := .double) (by decide) (by decide)))).other W4 (Or.inr (slot_ne (Or.inl (ww hw 73 rfl)) (Or.inr (ww hw 17 rfl)) (by decide) (t := .boolean) (t' := .int) (by decide) (by decide)))).lt (Nat.le_of_eq g5.symm))) nin0)).other W7 (Or.inr (slot_ne (Or.inl (ww hw 73 rfl)) (Or.inr (ww hw 32 rfl)) (by decide) (t := .boolean) (t' := (.object sH)) (by decide) (by decide)))).other W8 (Or.inr (slot_ne (Or.inl (ww hw 73 rfl)) (Or.inr (ww hw 34 rfl)) (by decide) (t := .boolean) (t' := (.object "java/util/function/DoubleUnaryOperator")) (by decide) (by decide)))).lt (Nat.le_of_eq g9.symm))) nin0)).other W11 (Or.inr (slot_ne (Or.inr (ww hw 17 rfl)) (Or.inr (ww hw 55 rfl)) (by decide) (t := .int) (t' := (.object sT)) (by decide) (by decide)))), ((((Fw7.other W8 (Or.inr (slot_ne (Or.inr (ww hw 32 rfl)) (Or.inr (ww hw 34 rfl)) (by decide) (t := (.object sH)) (t' := (.object "java/util/function/DoubleUnaryOperator")) (by decide) (by decide)))).ext E9).keep Kc10 (ninS (Nat.ne_of_lt (Nat.lt_of_lt_of_le ((((((F_t.other W3 (Or.inr (slot_ne (Or.inl (ww hw 73 rfl)) (Or.inl (ww hw 15 rfl)) (by decide) (t := .boolean) (t' := .double) (by decide) (by decide)))).other W4 (Or.inr (slot_ne (Or.inl (ww hw 73 rfl)) (Or.inr (ww hw 17 rfl)) (by decide) (t := .boolean) (t' := .int) (by decide) (by decide)))).ext E5).keep Kc6 (ninS (Nat.ne_of_lt (Nat.lt_of_lt_of_le ((F_t.other W3 (Or.inr (slot_ne (Or.inl (ww hw 73 rfl)) (Or.inl (ww hw 15 rfl)) (by decide) (t := .boolean) (t' := .double) (by decide) (by decide)))).other W4 (Or.inr (slot_ne (Or.inl (ww hw 73 rfl)) (Or.inr (ww hw 17 rfl)) (by decide) (t := .boolean) (t' := .int) (by decide) (by decide)))).lt (Nat.le_of_eq g5.symm))) nin0)).other W7 (Or.inr (slot_ne (Or.inl (ww hw 73 rfl)) (Or.inr (ww hw 32 rfl)) (by decide) (t := .boolean) (t' := (.object sH)) (by decide) (by decide)))).other W8 (Or.inr (slot_ne (Or.inl (ww hw 73 rfl)) (Or.inr (ww hw 34 rfl)) (by decide) (t := .boolean) (t' := (.object "java/util/function/DoubleUnaryOperator")) (by decide) (by decide)))).lt (Nat.le_of_eq g9.symm))) nin0)).other W11 (Or.inr (slot_ne (Or.inr (ww hw 32 rfl)) (Or.inr (ww hw 55 rfl)) (by decide) (t := (.object sH)) (t' := (.object sT)) (by decide) (by decide)))), (((Fw8.ext E9).keep Kc10 (ninS (Nat.ne_of_lt (Nat.lt_of_lt_of_le ((((((F_t.other W3 (Or.inr (slot_ne (Or.inl (ww hw 73 rfl)) (Or.inl (ww hw 15 rfl)) (by decide) (t := .boolean) (t' := .double) (by decide) (by decide)))).other W4 (Or.inr (slot_ne (Or.inl (ww hw 73 rfl)) (Or.inr (ww hw 17 rfl)) (by decide) (t := .boolean) (t' := .int) (by decide) (by decide)))).ext E5).keep Kc6 (ninS (Nat.ne_of_lt (Nat.lt_of_lt_of_le ((F_t.other W3 (Or.inr (slot_ne (Or.inl (ww hw 73 rfl)) (Or.inl (ww hw 15 rfl)) (by decide) (t := .boolean) (t' := .double) (by decide) (by decide)))).other W4 (Or.inr (slot_ne (Or.inl (ww hw 73 rfl)) (Or.inr (ww hw 17 rfl)) (by decide) (t := .boolean) (t' := .int) (by decide) (by decide)))).lt (Nat.le_of_eq g5.symm))) nin0)).other W7 (Or.inr (slot_ne (Or.inl (ww hw 73 rfl)) (Or.inr (ww hw 32 rfl)) (by decide) (t := .boolean) (t' := (.object sH)) (by decide) (by decide)))).other W8 (Or.inr (slot_ne (Or.inl (ww hw 73 rfl)) (Or.inr (ww hw 34 rfl)) (by decide) (t := .boolean) (t' := (.object "java/util/function/DoubleUnaryOperator")) (by decide) (by decide)))).lt (Nat.le_of_eq g9.symm))) nin0)).other W11 (Or.inr (slot_ne (Or.inr (ww hw 34 rfl)) (Or.inr (ww hw 55 rfl)) (by decide) (t := (.object "java/util/function/DoubleUnaryOperator")) (t' := (.object sT)) (by decide) (by decide)))), (((((((((F_t.other W3 (Or.inr (slot_ne (Or.inl (ww hw 73 rfl)) (Or.inl (ww hw 15 rfl)) (by decide) (t := .boolean) (t' := .double) (by decide) (by decide)))).other W4 (Or.inr (slot_ne (Or.inl (ww hw 73 rfl)) (Or.inr (ww hw 17 rfl)) (by decide) (t := .boolean) (t' := .int) (by decide) (by decide)))).ext E5).keep Kc6 (ninS (Nat.ne_of_lt (Nat.lt_of_lt_of_le ((F_t.other W3 (Or.inr (slot_ne (Or.inl (ww hw 73 rfl)) (Or.inl (ww hw 15 rfl)) (by decide) (t := .boolean) (t' := .double) (by decide) (by decide)))).other W4 (Or.inr (slot_ne (Or.inl (ww hw 73 rfl)) (Or.inr (ww hw 17 rfl)) (by decide) (t := .boolean) (t' := .int) (by decide) (by decide)))).lt (Nat.le_of_eq g5.symm))) nin0)).other W7 (Or.inr (slot_ne (Or.inl (ww hw 73 rfl)) (Or.inr (ww hw 32 rfl)) (by decide) (t := .boolean) (t' := (.object sH)) (by decide) (by decide)))).other W8 (Or.inr (slot_ne (Or.inl (ww hw 73 rfl)) (Or.inr (ww hw 34 rfl)) (by decide) (t := .boolean) (t' := (.object "java/util/function/DoubleUnaryOperator")) (by decide) (by decide)))).ext E9).keep Kc10 (ninS (Nat.ne_of_lt (Nat.lt_of_lt_of_le ((((((F_t.other W3 (Or.inr (slot_ne (Or.inl (ww hw 73 rfl)) (Or.inl (ww hw 15 rfl)) (by decide) (t := .boolean) (t' := .double) (by decide) (by decide)))).other W4 (Or.inr (slot_ne (Or.inl (ww hw 73 rfl)) (Or.inr (ww hw 17 rfl)) (by decide) (t := .boolean) (t' := .int) (by decide) (by decide)))).ext E5).keep Kc6 (ninS (Nat.ne_of_lt (Nat.lt_of_lt_of_le ((F_t.other W3 (Or.inr (slot_ne (Or.inl (ww hw 73 rfl)) (Or.inl (ww hw 15 rfl)) (by decide) (t := .boolean) (t' := .double) (by decide) (by decide)))).other W4 (Or.inr (slot_ne (Or.inl (ww hw 73 rfl)) (Or.inr (ww hw 17 rfl)) (by decide) (t := .boolean) (t' := .int) (by decide) (by decide)))).lt (Nat.le_of_eq g5.symm))) nin0)).other W7 (Or.inr (slot_ne (Or.inl (ww hw 73 rfl)) (Or.inr (ww hw 32 rfl)) (by decide) (t := .boolean) (t' := (.object sH)) (by decide) (by decide)))).other W8 (Or.inr (slot_ne (Or.inl (ww hw 73 rfl)) (Or.inr (ww hw 34 rfl)) (by decide) (t := .boolean) (t' := (.object "java/util/function/DoubleUnaryOperator")) (by decide) (by decide)))).lt (Nat.le_of_eq g9.symm))) nin0)).other W11 (Or.inr (slot_ne (Or.inl (ww hw 73 rfl)) (Or.inr (ww hw 55 rfl)) (by decide) (t := .boolean) (t' := (.object sT)) (by decide) (by decide)))), ((((((E_b5.keep Kc6).wr W7).wr W8).ext E9).keep Kc10).wr W11), (((((Fd6.other W7 (Or.inl (Ne.symm (Nat.ne_of_lt (Nat.lt_of_lt_of_le ((F_t.other W3 (Or.inr (slot_ne (Or.inl (ww hw 73 rfl)) (Or.inl (ww hw 15 rfl)) (by decide) (t := .boolean) (t' := .double) (by decide) (by decide)))).other W4 (Or.inr (slot_ne (Or.inl (ww hw 73 rfl)) (Or.inr (ww hw 17 rfl)) (by decide) (t := .boolean) (t' := .int) (by decide) (by decide)))).lt (Nat.le_of_eq g5.symm)))))).other W8 (Or.inl (Ne.symm (Nat.ne_of_lt (Nat.lt_of_lt_of_le ((F_t.other W3 (Or.inr (slot_ne (Or.inl (ww hw 73 rfl)) (Or.inl (ww hw 15 rfl)) (by decide) (t := .boolean) (t' := .double) (by decide) (by decide)))).other W4 (Or.inr (slot_ne (Or.inl (ww hw 73 rfl)) (Or.inr (ww hw 17 rfl)) (by decide) (t := .boolean) (t' := .int) (by decide) (by decide)))).lt (Nat.le_of_eq g5.symm)))))).ext E9).keep Kc10 (ninS (Nat.ne_of_lt (Nat.lt_of_lt_of_le (((E_b5.keep Kc6).wr W7).wr W8).lt (Nat.le_of_eq g9.symm))) nin0)).other W11 (Or.inl (Ne.symm (Nat.ne_of_lt (Nat.lt_of_lt_of_le ((F_t.other W3 (Or.inr (slot_ne (Or.inl (ww hw 73 rfl)) (Or.inl (ww hw 15 rfl)) (by decide) (t := .boolean) (t' := .double) (by decide) (by decide)))).other W4 (Or.inr (slot_ne (Or.inl (ww hw 73 rfl)) (Or.inr (ww hw 17 rfl)) (by decide) (t := .boolean) (t' := .int) (by decide) (by decide)))).lt (Nat.le_of_eq g5.symm)))))), (((((Fs6.other W7 (Or.inl (Ne.symm (Nat.ne_of_lt (Nat.lt_of_lt_of_le ((F_t.other W3 (Or.inr (slot_ne (Or.inl (ww hw 73 rfl)) (Or.inl (ww hw 15 rfl)) (by decide) (t := .boolean) (t' := .double) (by decide) (by decide)))).other W4 (Or.inr (slot_ne (Or.inl (ww hw 73 rfl)) (Or.inr (ww hw 17 rfl)) (by decide) (t := .boolean) (t' := .int) (by decide) (by decide)))).lt (Nat.le_of_eq g5.symm)))))).other W8 (Or.inl (Ne.symm (Nat.ne_of_lt (Nat.lt_of_lt_of_le ((F_t.other W3 (Or.inr (slot_ne (Or.inl (ww hw 73 rfl)) (Or.inl (ww hw 15 rfl)) (by decide) (t := .boolean) (t' := .double) (by decide) (by decide)))).other W4 (Or.inr (slot_ne (Or.inl (ww hw 73 rfl)) (Or.inr (ww hw 17 rfl)) (by decide) (t := .boolean) (t' := .int) (by decide) (by decide)))).lt (Nat.le_of_eq g5.symm)))))).ext E9).keep Kc10 (ninS (Nat.ne_of_lt (Nat.lt_of_lt_of_le (((E_b5.keep Kc6).wr W7).wr W8).lt (Nat.le_of_eq g9.symm))) nin0)).other W11 (Or.inl (Ne.symm (Nat.ne_of_lt (Nat.lt_of_lt_of_le ((F_t.other W3 (Or.inr (slot_ne (Or.inl (ww hw 73 rfl)) (Or.inl (ww hw 15 rfl)) (by decide) (t := .boolean) (t' := .double) (by decide) (by decide)))).other W4 (Or.inr (slot_ne (Or.inl (ww hw 73 rfl)) (Or.inr (ww hw 17 rfl)) (by decide) (t := .boolean) (t' := .int) (by decide) (by decide)))).lt (Nat.le_of_eq g5.symm)))))), (((((Fz6.other W7 (Or.inl (Ne.symm (Nat.ne_of_lt (Nat.lt_of_lt_of_le ((F_t.other W3 (Or.inr (slot_ne (Or.inl (ww hw 73 rfl)) (Or.inl (ww hw 15 rfl)) (by decide) (t := .boolean) (t' := .double) (by decide) (by decide)))).other W4 (Or.inr (slot_ne (Or.inl (ww hw 73 rfl)) (Or.inr (ww hw 17 rfl)) (by decide) (t := .boolean) (t' := .int) (by decide) (by decide)))).lt (Nat.le_of_eq g5.symm)))))).other W8 (Or.inl (Ne.symm (Nat.ne_of_lt (Nat.lt_of_lt_of_le ((F_t.other W3 (Or.inr (slot_ne (Or.inl (ww hw 73 rfl)) (Or.inl (ww hw 15 rfl)) (by decide) (t := .boolean) (t' := .double) (by decide) (by decide)))).other W4 (Or.inr (slot_ne (Or.inl (ww hw 73 rfl)) (Or.inr (ww hw 17 rfl)) (by decide) (t := .boolean) (t' := .int) (by decide) (by decide)))).lt (Nat.le_of_eq g5.symm)))))).ext E9).keep Kc10 (ninS (Nat.ne_of_lt (Nat.lt_of_lt_of_le (((E_b5.keep Kc6).wr W7).wr W8).lt (Nat.le_of_eq g9.symm))) nin0)).other W11 (Or.inl (Ne.symm (Nat.ne_of_lt (Nat.lt_of_lt_of_le ((F_t.other W3 (Or.inr (slot_ne (Or.inl (ww hw 73 rfl)) (Or.inl (ww hw 15 rfl)) (by decide) (t := .boolean) (t' := .double) (by decide) (by decide)))).other W4 (Or.inr (slot_ne (Or.inl (ww hw 73 rfl)) (Or.inr (ww hw 17 rfl)) (by decide) (t := .boolean) (t' := .int) (by decide) (by decide)))).lt (Nat.le_of_eq g5.symm)))))), ⟨_, (((((Vd6.other W7 (Ne.symm (Nat.ne_of_lt (Nat.lt_of_lt_of_le (((F_t.other W3 (Or.inr (slot_ne (Or.inl (ww hw 73 rfl)) (Or.inl (ww hw 15 rfl)) (by decide) (t := .boolean) (t' := .double) (by decide) (by decide)))).other W4 (Or.inr (slot_ne (Or.inl (ww hw 73 rfl)) (Or.inr (ww hw 17 rfl)) (by decide) (t := .boolean) (t' := .int) (by decide) (by decide)))).ext E5).lt hd6)))).other W8 (Ne.symm (Nat.ne_of_lt (Nat.lt_of_lt_of_le (((F_t.other W3 (Or.inr (slot_ne (Or.inl (ww hw 73 rfl)) (Or.inl (ww hw 15 rfl)) (by decide) (t := .boolean) (t' := .double) (by decide) (by decide)))).other W4 (Or.inr (slot_ne (Or.inl (ww hw 73 rfl)) (Or.inr (ww hw 17 rfl)) (by decide) (t := .boolean) (t' := .int) (by decide) (by decide)))).ext E5).lt hd6)))).ext E9).keep Kc10 (ninS (Nat.ne_of_lt (Nat.lt_of_lt_of_le ((Vd6.other W7 (Ne.symm (Nat.ne_of_lt (Nat.lt_of_lt_of_le (((F_t.other W3 (Or.inr (slot_ne (Or.inl (ww hw 73 rfl)) (Or.inl (ww hw 15 rfl)) (by decide) (t := .boolean) (t' := .double) (by decide) (by decide)))).other W4 (Or.inr (slot_ne (Or.inl (ww hw 73 rfl)) (Or.inr (ww hw 17 rfl)) (by decide) (t := .boolean) (t' := .int) (by decide) (by decide)))).ext E5).lt hd6)))).other W8 (Ne.symm (Nat.ne_of_lt (Nat.lt_of_lt_of_le (((F_t.other W3 (Or.inr (slot_ne (Or.inl (ww hw 73 rfl)) (Or.inl (ww hw 15 rfl)) (by decide) (t := .boolean) (t' := .double) (by decide) (by decide)))).other W4 (Or.inr (slot_ne (Or.inl (ww hw 73 rfl)) (Or.inr (ww hw 17 rfl)) (by decide) (t := .boolean) (t' := .int) (by decide) (by decide)))).ext E5).lt hd6)))).lt (Nat.le_of_eq g9.symm))) nin0)).other W11 (Ne.symm (Nat.ne_of_lt (Nat.lt_of_lt_of_le (((F_t.other W3 (Or.inr (slot_ne (Or.inl (ww hw 73 rfl)) (Or.inl (ww hw 15 rfl)) (by decide) (t := .boolean) (t' := .double) (by decide) (by decide)))).other W4 (Or.inr (slot_ne (Or.inl (ww hw 73 rfl)) (Or.inr (ww hw 17 rfl)) (by decide) (t := .boolean) (t' := .int) (by decide) (by decide)))).ext E5).lt hd6))))⟩, ⟨_, (((((Vs6.other W7 (Ne.symm (Nat.ne_of_lt (Nat.lt_of_lt_of_le (((F_t.other W3 (Or.inr (slot_ne (Or.inl (ww hw 73 rfl)) (Or.inl (ww hw 15 rfl)) (by decide) (t := .boolean) (t' := .double) (by decide) (by decide)))).other W4 (Or.inr (slot_ne (Or.inl (ww hw 73 rfl)) (Or.inr (ww hw 17 rfl)) (by decide) (t := .boolean) (t' := .int) (by decide) (by decide)))).ext E5).lt hs6)))).other W8 (Ne.symm (Nat.ne_of_lt (Nat.lt_of_lt_of_le (((F_t.other W3 (Or.inr (slot_ne (Or.inl (ww hw 73 rfl)) (Or.inl (ww hw 15 rfl)) (by decide) (t := .boolean) (t' := .double) (by decide) (by decide)))).other W4 (Or.inr (slot_ne (Or.inl (ww hw 73 rfl)) (Or.inr (ww hw 17 rfl)) (by decide) (t := .boolean) (t' := .int) (by decide) (by decide)))).ext E5).lt hs6)))).ext E9).keep Kc10 (ninS (Nat.ne_of_lt (Nat.lt_of_lt_of_le ((Vs6.other W7 (Ne.symm (Nat.ne_of_lt (Nat.lt_of_lt_of_le (((F_t.other W3 (Or.inr (slot_ne (Or.inl (ww hw 73 rfl)) (Or.inl (ww hw 15 rfl)) (by decide) (t := .boolean) (t' := .double) (by decide) (by decide)))).other W4 (Or.inr (slot_ne (Or.inl (ww hw 73 rfl)) (Or.inr (ww hw 17 rfl)) (by decide) (t := .boolean) (t' := .int) (by decide) (by decide)))).ext E5).lt hs6)))).other W8 (Ne.symm (Nat.ne_of_lt (Nat.lt_of_lt_of_le (((F_t.other W3 (Or.inr (slot_ne (Or.inl (ww hw 73 rfl)) (Or.inl (ww hw 15 rfl)) (by decide) (t := .boolean) (t' := .double) (by decide) (by decide)))).other W4 (Or.inr (slot_ne (Or.inl (ww hw 73 rfl)) (Or.inr (ww hw 17 rfl)) (by decide) (t := .boolean) (t' := .int) (by decide) (by decide)))).ext E5).lt hs6)))).lt (Nat.le_of_eq g9.symm))) nin0)).other W11 (Ne.symm (Nat.ne_of_lt (Nat.lt_of_lt_of_le (((F_t.other W3 (Or.inr (slot_ne (Or.inl (ww hw 73 rfl)) (Or.inl (ww hw 15 rfl)) (by decide) (t := .boolean) (t' := .double) (by decide) (by decide)))).other W4 (Or.inr (slot_ne (Or.inl (ww hw 73 rfl)) (Or.inr (ww hw 17 rfl)) (by decide) (t := .boolean) (t' := .int) (by decide) (by decide)))).ext E5).lt hs6))))⟩⟩
theorem ef_2_3 (m : MethodId) (x0 : Addr) : entryFrame m #[(.ref x0), (.int (3 : Int32)), .null, .null] 4 = mkF m 0 #[.val (.ref x0), .val (.int (3 : Int32)), .val .null, .val .null] [] := by first | (simp [entryFrame, mkF, argsToLocals, Value.category]; done) | rfl
def Q2_3 (Z : State) (a1 : Addr) (u_worstAsRead_a1 : Value) (u_capacity_a1 : Value) (u_best_a1 : Value) (u_asRead_a1 : Value) (u_ties_a1 : Value) (h0 : Heap) (n0 : Nat) (v : Option Value) (h : Heap) (L : List Loc) : Prop := ∃ hp da sa : Addr, v = none ∧ Fr n0 L ∧ Keep h0 h [a1] ∧ h0.size ≤ hp ∧ h0.size ≤ da ∧ h0.size ≤ sa ∧ hp ≠ da ∧ hp ≠ sa ∧ da ≠ sa ∧ Fld Z h a1 sB "capacity" "I" (.int (3 : Int32)) ∧ Fld Z h a1 sB "best" "Lcom/example/calpurnia/calpurnia/ranking/BestDocuments$Heap;" (.ref hp) ∧ Fld Z h a1 sB "asRead" "Ljava/util/function/DoubleUnaryOperator;" .null ∧ Fld Z h a1 sB "sorted" "Z" (.int (0 : Int32)) ∧ Exa Z h hp sH ∧ Fld Z h hp sH "documents" "[I" (.ref da) ∧ Fld Z h hp sH "scores" "[D" (.ref sa) ∧ Fld Z h hp sH "size" "I" (.int (0 : Int32)) ∧ (∃ D, own_AI Z h da (3 : Int32) D) ∧ (∃ S, own_AD Z h sa (3 : Int32) S)
set_option maxRecDepth 65536 in
set_option maxHeartbeats 40000000 in
theorem rm2_3 (l : Launch) (Z : State) (a0 : Array Value) (hw : ∀ d ∈ tables_1, d.before a0 Z = true) (ws : List Jvm.Cond) (a1 : Addr) (u_worstAsRead_a1 : Value) (u_capacity_a1 : Value) (u_best_a1 : Value) (u_asRead_a1 : Value) (u_ties_a1 : Value) (h0 : Heap) (n0 : Nat) (Z0 : n0 ≤ h0.size) (F_t : Fld Z h0 a1 sB "sorted" "Z" (.int (0 : Int32))) (E_a1 : Exa Z h0 a1 sB) (F_worstAsRead_a1 : Fld Z h0 a1 sB "worstAsRead" "D" u_worstAsRead_a1) (g_a1 : n0 ≤ a1) (F_capacity_a1 : Fld Z h0 a1 sB "capacity" "I" u_capacity_a1) (F_best_a1 : Fld Z h0 a1 sB "best" "Lcom/example/calpurnia/calpurnia/ranking/BestDocuments$Heap;" u_best_a1) (F_asRead_a1 : Fld Z h0 a1 sB "asRead" "Ljava/util/function/DoubleUnaryOperator;" u_asRead_a1) (F_ties_a1 : Fld Z h0 a1 sB "ties" "Lcom/example/calpurnia/calpurnia/ranking/BestDocuments$Ties;" u_ties_a1) :
    MetFree l (⟨sB, "<init>", "(ILjava/util/function/DoubleUnaryOperator;Lcom/example/calpurnia/calpurnia/ranking/BestDocuments$DocumentOrder;)V"⟩ : MethodName) (head1 (Jvm.Cond.code (⟨sB, "<init>", "(ILjava/util/function/DoubleUnaryOperator;Lcom/example/calpurnia/calpurnia/ranking/BestDocuments$DocumentOrder;)V"⟩ : MethodName) prog_186_method_2_code 4 none :: ws) ({ frames := 2, cells := 8, slots := 19, locals := 36 } : Room)) (fun a U => a = #[(.ref a1), (.int (3 : Int32)), .null, .null] ∧ Z.Warmed39 U.vm ∧ U.heap = h0) (fun _ _ _ _ _ => True) (fun _ U o U' => ∃ v L, o = .returned v ∧ Q2_3 Z a1 u_worstAsRead_a1 u_capacity_a1 u_best_a1 u_asRead_a1 u_ties_a1 h0 n0 v U'.heap L ∧ FrameEnd U o U' L ({ frames := 2, cells := 8, slots := 19, locals := 36 } : Room).cells ({ frames := 2, cells := 8, slots := 19, locals := 36 } : Room).slots) := by
  refine MetFree.of_bodySF (plainFor_of_name pn_2) hisR ?_
  intro p e s m args below meth c s₁ Bd hml0 hP hK
  obtain ⟨rfl, hZ, hh⟩ := hP
  have hx := Bd.exec
  have hby := Bd.bytes
  have hml : c.maxLocals = 4 := hml0
  have hown : s.vm.findClass sB = some m.cls := findClass_of_methodNamed Bd.named
  have hnm := (name_of_methodNamed Bd.named Bd.method).1
  have X0 : Stand p l e ({ frames := 2, cells := 8, slots := 19, locals := 36 } : Room) s m #[(.ref a1), (.int (3 : Int32)), .null, .null] below meth c s₁ [] 0 0 := Stand.of_body Bd
  have e0 : s₁.heap = h0 := by rw [← hh, Bd.state]; rfl
  have N0 := Fr.nil n0
  have pre0 : ∀ t, Steps p.tables e below (s₁.setTop (mkF m 0 #[.val (.ref a1), .val (.int (3 : Int32)), .val .null, .val .null] [])) t → Steps p.tables e below (s₁.setTop (entryFrame m #[(.ref a1), (.int (3 : Int32)), .null, .null] 4)) t := fun t k => castTop (ef_2_3 m a1) k

  obtain ⟨T2, X2, e2, st2⟩ := initO X0 hx hZ hown (ww hw 10 rfl) (ww hw 11 rfl) (ww hw 12 rfl) e0 (g := (mkF m 1 #[.val (.ref a1), .val (.int (3 : Int32)), .val .null, .val .null] [(.ref a1)])) rfl (by rw [hml]; rfl) rfl (hb hby d2_1) (by decide) (W := 0) (by show 2 * 0 + _ ≤ _; exact Nat.le_of_eq rfl) (by decide)
  obtain ⟨T3, h3, X3, e3, W3, st3⟩ := putF X2 hx hZ hown (host := "") (Or.inl (ww hw 14 rfl)) Via.refl e2 F_worstAsRead_a1 E_a1 (Or.inl (ww hw 15 rfl)) (ww hw 2 rfl) (ty := .double) (by decide) rfl rfl (g := (mkF m 8 #[.val (.ref a1), .val (.int (3 : Int32)), .val .null, .val .null] [(.double (9221120237041090560 : UInt64)), (.ref a1)])) rfl rfl (hb hby d2_8)
  have Fw3 := F_worstAsRead_a1.same W3
  have K3 : Keep h0 h3 [a1] := (Keep.refl h0 [a1]).wr W3 (Or.inl (List.mem_of_getElem? (i := 0) rfl))
  have N3 := Fr.snoc X3 N0 g_a1
  obtain ⟨T4, h4, X4, e4, W4, st4⟩ := putF X3 hx hZ hown (host := "") (Or.inl (ww hw 16 rfl)) Via.refl e3 (F_capacity_a1.other W3 (Or.inr (slot_ne (Or.inr (ww hw 17 rfl)) (Or.inl (ww hw 15 rfl)) (by decide) (t := .int) (t' := .double) (by decide) (by decide)))) (E_a1.wr W3) (Or.inr ⟨(ww hw 17 rfl), rfl, hnm⟩) (ww hw 2 rfl) (ty := .int) (by decide) rfl rfl (g := (mkF m 13 #[.val (.ref a1), .val (.int (3 : Int32)), .val .null, .val .null] [(.int (3 : Int32)), (.ref a1)])) rfl rfl (hb hby d2_13)
  have Fw4 := (F_capacity_a1.other W3 (Or.inr (slot_ne (Or.inr (ww hw 17 rfl)) (Or.inl (ww hw 15 rfl)) (by decide) (t := .int) (t' := .double) (by decide) (by decide)))).same W4
  have K4 : Keep h0 h4 [a1] := K3.wr W4 (Or.inl (List.mem_of_getElem? (i := 0) rfl))
  have N4 := Fr.snoc X4 N3 g_a1
  obtain ⟨T5, h5, X5, e5, E5, A5, D5, -, st5⟩ := newO X4 hx hZ hown (ww hw 18 rfl) (ww hw 19 rfl) (ww hw 20 rfl) e4 (g := (mkF m 17 #[.val (.ref a1), .val (.int (3 : Int32)), .val .null, .val .null] [(.ref a1)])) rfl (hb hby d2_17) (by decide) (by decide)
  obtain ⟨b5, g5⟩ : ∃ z, z = h4.size := ⟨_, rfl⟩
  rw [← g5] at A5 D5 st5
  have F_documents_b5 : Fld Z h5 b5 sH "documents" "[I" .null := D5 (Or.inl (ww hw 27 rfl)) (ty := (.array .int)) (by decide)
  have F_scores_b5 : Fld Z h5 b5 sH "scores" "[D" .null := D5 (Or.inl (ww hw 30 rfl)) (ty := (.array .double)) (by decide)
  have F_size_b5 : Fld Z h5 b5 sH "size" "I" (.int (0 : Int32)) := D5 (Or.inl (ww hw 62 rfl)) (ty := .int) (by decide)
  have E_b5 := A5
  have g_b5 : n0 ≤ b5 := Nat.le_trans (Nat.le_trans (Nat.le_trans Z0 (Keep.of_wr W3).1) (Keep.of_wr W4).1) (Nat.le_of_eq g5.symm)
  have sz_b5 : h0.size ≤ b5 := (Nat.le_trans K4.1 (Nat.le_of_eq g5.symm))
  have K5 : Keep h0 h5 [a1] := K4.ext E5
  obtain ⟨_, _, ⟨T6, L6, k6, n6⟩, -, X6, ⟨Lc6, hQ6, l6, y6, z6⟩, st6⟩ := X5.specialBack hx (y := (⟨sH, "<init>", "(I)V"⟩ : MethodName)) rfl hown (mvT hZ (ww hw 21 rfl)) (mvT hZ (ww hw 22 rfl)) (mvT hZ (ww hw 23 rfl)) (by decide) (backOf (W := 2) (rm4_3 l Z a0 hw [] b5 _ _ h5 n0 (Nat.le_trans (Nat.le_trans (Nat.le_trans Z0 (Keep.of_wr W3).1) (Keep.of_wr W4).1) E5.1) F_size_b5 E_b5 F_documents_b5 g_b5 F_scores_b5) hZ (ww hw 23 rfl) (ww hw 20 rfl) (by decide) (by decide)) (g := (mkF m 22 #[.val (.ref a1), .val (.int (3 : Int32)), .val .null, .val .null] [(.int (3 : Int32)), (.ref b5), (.ref b5), (.ref a1)])) rfl (by rw [hml]; rfl) (Steps.refl _) (a := b5) (argsL := [(.int (3 : Int32))]) (rest := [(.ref b5), (.ref a1)]) (lenOf pd_2_0 rfl) rfl (by show 2 * 0 + _ ≤ _; exact Nat.le_of_eq rfl) (hb hby d2_22) (fun _ _ => ⟨rfl, e5, (by decide : 1 + 2 ≤ _), (by decide : 3 + 6 ≤ _)⟩)
  dsimp only [Pt.U, Pt.locs, Pt.cells, Pt.slots] at X6 l6 y6 z6 st6 hQ6
  subst l6 y6 z6
  obtain ⟨da6, sa6, rfl, N6q, Kc6, hd6, hs6, nds6, Fd6, Fs6, Fz6, ⟨D6, Vd6⟩, ⟨S6, Vs6⟩⟩ := hQ6
  have N6 := Fr.app N4 N6q
  have g_da6 : n0 ≤ da6 := Nat.le_trans (Nat.le_trans (Nat.le_trans (Nat.le_trans Z0 (Keep.of_wr W3).1) (Keep.of_wr W4).1) E5.1) hd6
  have sz_da6 : h0.size ≤ da6 := Nat.le_trans K5.1 hd6
  have g_sa6 : n0 ≤ sa6 := Nat.le_trans (Nat.le_trans (Nat.le_trans (Nat.le_trans Z0 (Keep.of_wr W3).1) (Keep.of_wr W4).1) E5.1) hs6
  have sz_sa6 : h0.size ≤ sa6 := Nat.le_trans K5.1 hs6
  have K6 : Keep h0 T6.heap [a1] := K5.trans Kc6 (allS (Or.inr sz_b5) all0)
  obtain ⟨T7, h7, X7, e7, W7, st7⟩ := putF X6 hx hZ hown (host := "") (Or.inl (ww hw 31 rfl)) Via.refl rfl ((((F_best_a1.other W3 (Or.inr (slot_ne (Or.inr (ww hw 32 rfl)) (Or.inl (ww hw 15 rfl)) (by decide) (t := (.object sH)) (t' := .double) (by decide) (by decide)))).other W4 (Or.inr (slot_ne (Or.inr (ww hw 32 rfl)) (Or.inr (ww hw 17 rfl)) (by decide) (t := (.object sH)) (t' := .int) (by decide) (by decide)))).ext E5).keep Kc6 (ninS (Nat.ne_of_lt (Nat.lt_of_lt_of_le ((F_t.other W3 (Or.inr (slot_ne (Or.inl (ww hw 73 rfl)) (Or.inl (ww hw 15 rfl)) (by decide) (t := .boolean) (t' := .double) (by decide) (by decide)))).other W4 (Or.inr (slot_ne (Or.inl (ww hw 73 rfl)) (Or.inr (ww hw 17 rfl)) (by decide) (t := .boolean) (t' := .int) (by decide) (by decide)))).lt (Nat.le_of_eq g5.symm))) nin0)) ((((E_a1.wr W3).wr W4).ext E5).keep Kc6) (Or.inr ⟨(ww hw 32 rfl), rfl, hnm⟩) (ww hw 2 rfl) (ty := (.object sH)) (by decide) rfl rfl (g := (mkF m 25 #[.val (.ref a1), .val (.int (3 : Int32)), .val .null, .val .null] [(.ref b5), (.ref a1)])) rfl rfl (hb hby d2_25)
  have Fw7 := ((((F_best_a1.other W3 (Or.inr (slot_ne (Or.inr (ww hw 32 rfl)) (Or.inl (ww hw 15 rfl)) (by decide) (t := (.object sH)) (t' := .double) (by decide) (by decide)))).other W4 (Or.inr (slot_ne (Or.inr (ww hw 32 rfl)) (Or.inr (ww hw 17 rfl)) (by decide) (t := (.object sH)) (t' := .int) (by decide) (by decide)))).ext E5).keep Kc6 (ninS (Nat.ne_of_lt (Nat.lt_of_lt_of_le ((F_t.other W3 (Or.inr (slot_ne (Or.inl (ww hw 73 rfl)) (Or.inl (ww hw 15 rfl)) (by decide) (t := .boolean) (t' := .double) (by decide) (by decide)))).other W4 (Or.inr (slot_ne (Or.inl (ww hw 73 rfl)) (Or.inr (ww hw 17 rfl)) (by decide) (t := .boolean) (t' := .int) (by decide) (by decide)))).lt (Nat.le_of_eq g5.symm))) nin0)).same W7
  have K7 : Keep h0 h7 [a1] := K6.wr W7 (Or.inl (List.mem_of_getElem? (i := 0) rfl))
  have N7 := Fr.snoc X7 N6 g_a1
  obtain ⟨T8, h8, X8, e8, W8, st8⟩ := putF X7 hx hZ hown (host := "") (Or.inl (ww hw 33 rfl)) Via.refl e7 (((((F_asRead_a1.other W3 (Or.inr (slot_ne (Or.inr (ww hw 34 rfl)) (Or.inl (ww hw 15 rfl)) (by decide) (t := (.object "java/util/function/DoubleUnaryOperator")) (t' := .double) (by decide) (by decide)))).other W4 (Or.inr (slot_ne (Or.inr (ww hw 34 rfl)) (Or.inr (ww hw 17 rfl)) (by decide) (t := (.object "java/util/function/DoubleUnaryOperator")) (t' := .int) (by decide) (by decide)))).ext E5).keep Kc6 (ninS (Nat.ne_of_lt (Nat.lt_of_lt_of_le ((F_t.other W3 (Or.inr (slot_ne (Or.inl (ww hw 73 rfl)) (Or.inl (ww hw 15 rfl)) (by decide) (t := .boolean) (t' := .double) (by decide) (by decide)))).other W4 (Or.inr (slot_ne (Or.inl (ww hw 73 rfl)) (Or.inr (ww hw 17 rfl)) (by decide) (t := .boolean) (t' := .int) (by decide) (by decide)))).lt (Nat.le_of_eq g5.symm))) nin0)).other W7 (Or.inr (slot_ne (Or.inr (ww hw 34 rfl)) (Or.inr (ww hw 32 rfl)) (by decide) (t := (.object "java/util/function/DoubleUnaryOperator")) (t' := (.object sH)) (by decide) (by decide)))) (((((E_a1.wr W3).wr W4).ext E5).keep Kc6).wr W7) (Or.inr ⟨(ww hw 34 rfl), rfl, hnm⟩) (ww hw 2 rfl) (ty := (.object "java/util/function/DoubleUnaryOperator")) (by decide) rfl rfl (g := (mkF m 30 #[.val (.ref a1), .val (.int (3 : Int32)), .val .null, .val .null] [.null, (.ref a1)])) rfl rfl (hb hby d2_30)
  have Fw8 := (((((F_asRead_a1.other W3 (Or.inr (slot_ne (Or.inr (ww hw 34 rfl)) (Or.inl (ww hw 15 rfl)) (by decide) (t := (.object "java/util/function/DoubleUnaryOperator")) (t' := .double) (by decide) (by decide)))).other W4 (Or.inr (slot_ne (Or.inr (ww hw 34 rfl)) (Or.inr (ww hw 17 rfl)) (by decide) (t := (.object "java/util/function/DoubleUnaryOperator")) (t' := .int) (by decide) (by decide)))).ext E5).keep Kc6 (ninS (Nat.ne_of_lt (Nat.lt_of_lt_of_le ((F_t.other W3 (Or.inr (slot_ne (Or.inl (ww hw 73 rfl)) (Or.inl (ww hw 15 rfl)) (by decide) (t := .boolean) (t' := .double) (by decide) (by decide)))).other W4 (Or.inr (slot_ne (Or.inl (ww hw 73 rfl)) (Or.inr (ww hw 17 rfl)) (by decide) (t := .boolean) (t' := .int) (by decide) (by decide)))).lt (Nat.le_of_eq g5.symm))) nin0)).other W7 (Or.inr (slot_ne (Or.inr (ww hw 34 rfl)) (Or.inr (ww hw 32 rfl)) (by decide) (t := (.object "java/util/function/DoubleUnaryOperator")) (t' := (.object sH)) (by decide) (by decide)))).same W8
  have K8 : Keep h0 h8 [a1] := K7.wr W8 (Or.inl (List.mem_of_getElem? (i := 0) rfl))
  have N8 := Fr.snoc X8 N7 g_a1
  obtain ⟨T9, h9, X9, e9, E9, A9, D9, -, st9⟩ := newO X8 hx hZ hown (ww hw 35 rfl) (ww hw 36 rfl) (ww hw 37 rfl) e8 (g := (mkF m 34 #[.val (.ref a1), .val (.int (3 : Int32)), .val .null, .val .null] [(.ref a1)])) rfl (hb hby d2_34) (by decide) (by decide)
  obtain ⟨b9, g9⟩ : ∃ z, z = h8.size := ⟨_, rfl⟩
  rw [← g9] at A9 D9 st9
  have F_documents_b9 : Fld Z h9 b9 sT "documents" "[I" .null := D9 (Or.inl (ww hw 43 rfl)) (ty := (.array .int)) (by decide)
  have F_scores_b9 : Fld Z h9 b9 sT "scores" "[D" .null := D9 (Or.inl (ww hw 45 rfl)) (ty := (.array .double)) (by decide)
  have F_merged_b9 : Fld Z h9 b9 sT "merged" "[I" .null := D9 (Or.inl (ww hw 47 rfl)) (ty := (.array .int)) (by decide)
  have F_mergedScores_b9 : Fld Z h9 b9 sT "mergedScores" "[D" .null := D9 (Or.inl (ww hw 49 rfl)) (ty := (.array .double)) (by decide)
  have F_capacity_b9 : Fld Z h9 b9 sT "capacity" "I" (.int (0 : Int32)) := D9 (Or.inr (ww hw 51 rfl)) (ty := .int) (by decide)
  have F_order_b9 : Fld Z h9 b9 sT "order" "Lcom/example/calpurnia/calpurnia/ranking/BestDocuments$DocumentOrder;" .null := D9 (Or.inr (ww hw 53 rfl)) (ty := (.object "com/example/calpurnia/calpurnia/ranking/BestDocuments$DocumentOrder")) (by decide)
  have E_b9 := A9
  have g_b9 : n0 ≤ b9 := Nat.le_trans (Nat.le_trans (Nat.le_trans (Nat.le_trans (Nat.le_trans (Nat.le_trans (Nat.le_trans Z0 (Keep.of_wr W3).1) (Keep.of_wr W4).1) E5.1) Kc6.1) (Keep.of_wr W7).1) (Keep.of_wr W8).1) (Nat.le_of_eq g9.symm)
  have sz_b9 : h0.size ≤ b9 := (Nat.le_trans K8.1 (Nat.le_of_eq g9.symm))
  have K9 : Keep h0 h9 [a1] := K8.ext E9
  obtain ⟨_, _, ⟨T10, L10, k10, n10⟩, -, X10, ⟨Lc10, hQ10, l10, y10, z10⟩, st10⟩ := X9.specialBack hx (y := (⟨sT, "<init>", "(ILcom/example/calpurnia/calpurnia/ranking/BestDocuments$DocumentOrder;)V"⟩ : MethodName)) rfl hown (mvT hZ (ww hw 38 rfl)) (mvT hZ (ww hw 39 rfl)) (mvT hZ (ww hw 40 rfl)) (by decide) (backOf (W := 2) (rm5 l Z a0 hw [] b9 (3 : Int32) _ _ _ _ _ _ h9 n0 (Nat.le_trans (Nat.le_trans (Nat.le_trans (Nat.le_trans (Nat.le_trans (Nat.le_trans (Nat.le_trans Z0 (Keep.of_wr W3).1) (Keep.of_wr W4).1) E5.1) Kc6.1) (Keep.of_wr W7).1) (Keep.of_wr W8).1) E9.1) E_b9 F_documents_b9 g_b9 F_scores_b9 F_merged_b9 F_mergedScores_b9 F_capacity_b9 F_order_b9) hZ (ww hw 40 rfl) (ww hw 37 rfl) (by decide) (by decide)) (g := (mkF m 40 #[.val (.ref a1), .val (.int (3 : Int32)), .val .null, .val .null] [.null, (.int (3 : Int32)), (.ref b9), (.ref b9), (.ref a1)])) rfl (by rw [hml]; rfl) (Steps.refl _) (a := b9) (argsL := [(.int (3 : Int32)), .null]) (rest := [(.ref b9), (.ref a1)]) (lenOf pd_2_3 rfl) rfl (by show 2 * 0 + _ ≤ _; exact Nat.le_of_eq rfl) (hb hby d2_40) (fun _ _ => ⟨rfl, e9, (by decide : 4 + 4 ≤ _), (by decide : 19 + 0 ≤ _)⟩)
  dsimp only [Pt.U, Pt.locs, Pt.cells, Pt.slots] at X10 l10 y10 z10 st10 hQ10
  subst l10 y10 z10
  obtain ⟨rfl, N10q, Kc10⟩ := hQ10
  have N10 := Fr.app N8 N10q
  have K10 : Keep h0 T10.heap [a1] := K9.trans Kc10 (allS (Or.inr sz_b9) all0)
  obtain ⟨T11, h11, X11, e11, W11, st11⟩ := putF X10 hx hZ hown (host := "") (Or.inl (ww hw 54 rfl)) Via.refl rfl ((((((((F_ties_a1.other W3 (Or.inr (slot_ne (Or.inr (ww hw 55 rfl)) (Or.inl (ww hw 15 rfl)) (by decide) (t := (.object sT)) (t' := .double) (by decide) (by decide)))).other W4 (Or.inr (slot_ne (Or.inr (ww hw 55 rfl)) (Or.inr (ww hw 17 rfl)) (by decide) (t := (.object sT)) (t' := .int) (by decide) (by decide)))).ext E5).keep Kc6 (ninS (Nat.ne_of_lt (Nat.lt_of_lt_of_le ((F_t.other W3 (Or.inr (slot_ne (Or.inl (ww hw 73 rfl)) (Or.inl (ww hw 15 rfl)) (by decide) (t := .boolean) (t' := .double) (by decide) (by decide)))).other W4 (Or.inr (slot_ne (Or.inl (ww hw 73 rfl)) (Or.inr (ww hw 17 rfl)) (by decide) (t := .boolean) (t' := .int) (by decide) (by decide)))).lt (Nat.le_of_eq g5.symm))) nin0)).other W7 (Or.inr (slot_ne (Or.inr (ww hw 55 rfl)) (Or.inr (ww hw 32 rfl)) (by decide) (t := (.object sT)) (t' := (.object sH)) (by decide) (by decide)))).other W8 (Or.inr (slot_ne (Or.inr (ww hw 55 rfl)) (Or.inr (ww hw 34 rfl)) (by decide) (t := (.object sT)) (t' := (.object "java/util/function/DoubleUnaryOperator")) (by decide) (by decide)))).ext E9).keep Kc10 (ninS (Nat.ne_of_lt (Nat.lt_of_lt_of_le ((((((F_t.other W3 (Or.inr (slot_ne (Or.inl (ww hw 73 rfl)) (Or.inl (ww hw 15 rfl)) (by decide) (t := .boolean) (t' := .double) (by decide) (by decide)))).other W4 (Or.inr (slot_ne (Or.inl (ww hw 73 rfl)) (Or.inr (ww hw 17 rfl)) (by decide) (t := .boolean) (t' := .int) (by decide) (by decide)))).ext E5).keep Kc6 (ninS (Nat.ne_of_lt (Nat.lt_of_lt_of_le ((F_t.other W3 (Or.inr (slot_ne (Or.inl (ww hw 73 rfl)) (Or.inl (ww hw 15 rfl)) (by decide) (t := .boolean) (t' := .double) (by decide) (by decide)))).other W4 (Or.inr (slot_ne (Or.inl (ww hw 73 rfl)) (Or.inr (ww hw 17 rfl)) (by decide) (t := .boolean) (t' := .int) (by decide) (by decide)))).lt (Nat.le_of_eq g5.symm))) nin0)).other W7 (Or.inr (slot_ne (Or.inl (ww hw 73 rfl)) (Or.inr (ww hw 32 rfl)) (by decide) (t := .boolean) (t' := (.object sH)) (by decide) (by decide)))).other W8 (Or.inr (slot_ne (Or.inl (ww hw 73 rfl)) (Or.inr (ww hw 34 rfl)) (by decide) (t := .boolean) (t' := (.object "java/util/function/DoubleUnaryOperator")) (by decide) (by decide)))).lt (Nat.le_of_eq g9.symm))) nin0)) ((((((((E_a1.wr W3).wr W4).ext E5).keep Kc6).wr W7).wr W8).ext E9).keep Kc10) (Or.inr ⟨(ww hw 55 rfl), rfl, hnm⟩) (ww hw 2 rfl) (ty := (.object sT)) (by decide) rfl rfl (g := (mkF m 43 #[.val (.ref a1), .val (.int (3 : Int32)), .val .null, .val .null] [(.ref b9), (.ref a1)])) rfl rfl (hb hby d2_43)
  have Fw11 := ((((((((F_ties_a1.other W3 (Or.inr (slot_ne (Or.inr (ww hw 55 rfl)) (Or.inl (ww hw 15 rfl)) (by decide) (t := (.object sT)) (t' := .double) (by decide) (by decide)))).other W4 (Or.inr (slot_ne (Or.inr (ww hw 55 rfl)) (Or.inr (ww hw 17 rfl)) (by decide) (t := (.object sT)) (t' := .int) (by decide) (by decide)))).ext E5).keep Kc6 (ninS (Nat.ne_of_lt (Nat.lt_of_lt_of_le ((F_t.other W3 (Or.inr (slot_ne (Or.inl (ww hw 73 rfl)) (Or.inl (ww hw 15 rfl)) (by decide) (t := .boolean) (t' := .double) (by decide) (by decide)))).other W4 (Or.inr (slot_ne (Or.inl (ww hw 73 rfl)) (Or.inr (ww hw 17 rfl)) (by decide) (t := .boolean) (t' := .int) (by decide) (by decide)))).lt (Nat.le_of_eq g5.symm))) nin0)).other W7 (Or.inr (slot_ne (Or.inr (ww hw 55 rfl)) (Or.inr (ww hw 32 rfl)) (by decide) (t := (.object sT)) (t' := (.object sH)) (by decide) (by decide)))).other W8 (Or.inr (slot_ne (Or.inr (ww hw 55 rfl)) (Or.inr (ww hw 34 rfl)) (by decide) (t := (.object sT)) (t' := (.object "java/util/function/DoubleUnaryOperator")) (by decide) (by decide)))).ext E9).keep Kc10 (ninS (Nat.ne_of_lt (Nat.lt_of_lt_of_le ((((((F_t.other W3 (Or.inr (slot_ne (Or.inl (ww hw 73 rfl)) (Or.inl (ww hw 15 rfl)) (by decide) (t := .boolean) (t' := .double) (by decide) (by decide)))).other W4 (Or.inr (slot_ne (Or.inl (ww hw 73 rfl)) (Or.inr (ww hw 17 rfl)) (by decide) (t := .boolean) (t' := .int) (by decide) (by decide)))).ext E5).keep Kc6 (ninS (Nat.ne_of_lt (Nat.lt_of_lt_of_le ((F_t.other W3 (Or.inr (slot_ne (Or.inl (ww hw 73 rfl)) (Or.inl (ww hw 15 rfl)) (by decide) (t := .boolean) (t' := .double) (by decide) (by decide)))).other W4 (Or.inr (slot_ne (Or.inl (ww hw 73 rfl)) (Or.inr (ww hw 17 rfl)) (by decide) (t := .boolean) (t' := .int) (by decide) (by decide)))).lt (Nat.le_of_eq g5.symm))) nin0)).other W7 (Or.inr (slot_ne (Or.inl (ww hw 73 rfl)) (Or.inr (ww hw 32 rfl)) (by decide) (t := .boolean) (t' := (.object sH)) (by decide) (by decide)))).other W8 (Or.inr (slot_ne (Or.inl (ww hw 73 rfl)) (Or.inr (ww hw 34 rfl)) (by decide) (t := .boolean) (t' := (.object "java/util/function/DoubleUnaryOperator")) (by decide) (by decide)))).lt (Nat.le_of_eq g9.symm))) nin0)).same W11
  have K11 : Keep h0 h11 [a1] := K10.wr W11 (Or.inl (List.mem_of_getElem? (i := 0) rfl))
  have N11 := Fr.snoc X11 N10 g_a1
  obtain ⟨fs, hr, hrun, hended, hW, hsame⟩ := X11.leave (v := none) (fun _ => rfl)
  refine ⟨_, _, pre0 _ ?_, hrun, hended, _, _, rfl, ?_, ⟨_, rfl⟩, hW, hsame.mono (by decide) (by decide)⟩
  · show Steps _ _ _ (s₁.setTop (mkF m 0 #[.val (.ref a1), .val (.int (3 : Int32)), .val .null, .val .null] [])) _
    refine XS.aloadN X0.here hx rfl (hb hby d2_0) rfl rfl ?_
    refine st2 _ ?_
    refine XS.aloadN X2.here hx rfl (hb hby d2_4) rfl rfl ?_
    refine X2.ldc2DoubleC hx hown (mvT hZ (ww hw 13 rfl)) (g := (mkF m 5 #[.val (.ref a1), .val (.int (3 : Int32)), .val .null, .val .null] [(.ref a1)])) rfl (hb hby d2_5) _ ?_
    refine st3 _ ?_
    refine XS.aloadN X3.here hx rfl (hb hby d2_11) rfl rfl ?_
    refine XS.iloadN X3.here hx rfl (hb hby d2_12) rfl ?_
    refine st4 _ ?_
    refine XS.aloadN X4.here hx rfl (hb hby d2_16) rfl rfl ?_
    refine st5 _ ?_
    refine XS.dup X5.here hx rfl (hb hby d2_20) rfl rfl ?_
    refine XS.iloadN X5.here hx rfl (hb hby d2_21) rfl ?_
    refine st6.trans ?_
    refine st7 _ ?_
    refine XS.aloadN X7.here hx rfl (hb hby d2_28) rfl rfl ?_
    refine XS.aloadN X7.here hx rfl (hb hby d2_29) rfl rfl ?_
    refine st8 _ ?_
    refine XS.aloadN X8.here hx rfl (hb hby d2_33) rfl rfl ?_
    refine st9 _ ?_
    refine XS.dup X9.here hx rfl (hb hby d2_37) rfl rfl ?_
    refine XS.iloadN X9.here hx rfl (hb hby d2_38) rfl ?_
    refine XS.aloadN X9.here hx rfl (hb hby d2_39) rfl rfl ?_
    refine st10.trans ?_
    refine st11 _ ?_
    exact X11.returnOut hx Bd.returns (hb hby d2_46) hr
  · show Q2_3 Z a1 u_worstAsRead_a1 u_capacity_a1 u_best_a1 u_asRead_a1 u_ties_a1 h0 n0 _ T11.heap _
    rw [e11]
    exact ⟨b5, da6, sa6, rfl, N11, K11, sz_b5, sz_da6, sz_sa6, (Nat.ne_of_lt (Nat.lt_of_lt_of_le E_b5.lt hd6)), (Nat.ne_of_lt (Nat.lt_of_lt_of_le E_b5.lt hs6)), nds6, (((((((Fw4.ext E5).keep Kc6 (ninS (Nat.ne_of_lt (Nat.lt_of_lt_of_le ((F_t.other W3 (Or.inr (slot_ne (Or.inl (ww hw 73 rfl)) (Or.inl (ww hw 15 rfl)) (by decide) (t := .boolean) (t' := .double) (by decide) (by decide)))).other W4 (Or.inr (slot_ne (Or.inl (ww hw 73 rfl)) (Or.inr (ww hw 17 rfl)) (by decide) (t := .boolean) (t' := .int) (by decide) (by decide)))).lt (Nat.le_of_eq g5.symm))) nin0)).other W7 (Or.inr (slot_ne (Or.inr (ww hw 17 rfl)) (Or.inr (ww hw 32 rfl)) (by decide) (t := .int) (t' := (.object sH)) (by decide) (by decide)))).other W8 (Or.inr (slot_ne (Or.inr (ww hw 17 rfl)) (Or.inr (ww hw 34 rfl)) (by decide) (t := .int) (t' := (.object "java/util/function/DoubleUnaryOperator")) (by decide) (by decide)))).ext E9).keep Kc10 (ninS (Nat.ne_of_lt (Nat.lt_of_lt_of_le ((((((F_t.other W3 (Or.inr (slot_ne (Or.inl (ww hw 73 rfl)) (Or.inl (ww hw 15 rfl)) (by decide) (t := .boolean) (t' := .double) (by decide) (by decide)))).other W4 (Or.inr (slot_ne (Or.inl (ww hw 73 rfl)) (Or.inr (ww hw 17 rfl)) (by decide) (t := .boolean) (t' := .int) (by decide) (by decide)))).ext E5).keep Kc6 (ninS (Nat.ne_of_lt (Nat.lt_of_lt_of_le ((F_t.other W3 (Or.inr (slot_ne (Or.inl (ww hw 73 rfl)) (Or.inl (ww hw 15 rfl)) (by decide) (t := .boolean) (t' := .double) (by decide) (by decide)))).other W4 (Or.inr (slot_ne (Or.inl (ww hw 73 rfl)) (Or.inr (ww hw 17 rfl)) (by decide) (t := .boolean) (t' := .int) (by decide) (by decide)))).lt (Nat.le_of_eq g5.symm))) nin0)).other W7 (Or.inr (slot_ne (Or.inl (ww hw 73 rfl)) (Or.inr (ww hw 32 rfl)) (by decide) (t := .boolean) (t' := (.object sH)) (by decide) (by decide)))).other W8 (Or.inr (slot_ne (Or.inl (ww hw 73 rfl)) (Or.inr (ww hw 34 rfl)) (by decide) (t := .boolean) (t' := (.object "java/util/function/DoubleUnaryOperator")) (by decide) (by decide)))).lt (Nat.le_of_eq g9.symm))) nin0)).other W11 (Or.inr (slot_ne (Or.inr (ww hw 17 rfl)) (Or.inr (ww hw 55 rfl)) (by decide) (t := .int) (t' := (.object sT)) (by decide) (by decide)))), ((((Fw7.other W8 (Or.inr (slot_ne (Or.inr (ww hw 32 rfl)) (Or.inr (ww hw 34 rfl)) (by decide) (t := (.object sH)) (t' := (.object "java/util/function/DoubleUnaryOperator")) (by decide) (by decide)))).ext E9).keep Kc10 (ninS (Nat.ne_of_lt (Nat.lt_of_lt_of_le ((((((F_t.other W3 (Or.inr (slot_ne (Or.inl (ww hw 73 rfl)) (Or.inl (ww hw 15 rfl)) (by decide) (t := .boolean) (t' := .double) (by decide) (by decide)))).other W4 (Or.inr (slot_ne (Or.inl (ww hw 73 rfl)) (Or.inr (ww hw 17 rfl)) (by decide) (t := .boolean) (t' := .int) (by decide) (by decide)))).ext E5).keep Kc6 (ninS (Nat.ne_of_lt (Nat.lt_of_lt_of_le ((F_t.other W3 (Or.inr (slot_ne (Or.inl (ww hw 73 rfl)) (Or.inl (ww hw 15 rfl)) (by decide) (t := .boolean) (t' := .double) (by decide) (by decide)))).other W4 (Or.inr (slot_ne (Or.inl (ww hw 73 rfl)) (Or.inr (ww hw 17 rfl)) (by decide) (t := .boolean) (t' := .int) (by decide) (by decide)))).lt (Nat.le_of_eq g5.symm))) nin0)).other W7 (Or.inr (slot_ne (Or.inl (ww hw 73 rfl)) (Or.inr (ww hw 32 rfl)) (by decide) (t := .boolean) (t' := (.object sH)) (by decide) (by decide)))).other W8 (Or.inr (slot_ne (Or.inl (ww hw 73 rfl)) (Or.inr (ww hw 34 rfl)) (by decide) (t := .boolean) (t' := (.object "java/util/function/DoubleUnaryOperator")) (by decide) (by decide)))).lt (Nat.le_of_eq g9.symm))) nin0)).other W11 (Or.inr (slot_ne (Or.inr (ww hw 32 rfl)) (Or.inr (ww hw 55 rfl)) (by decide) (t := (.object sH)) (t' := (.object sT)) (by decide) (by decide)))), (((Fw8.ext E9).keep Kc10 (ninS (Nat.ne_of_lt (Nat.lt_of_lt_of_le ((((((F_t.other W3 (Or.inr (slot_ne (Or.inl (ww hw 73 rfl)) (Or.inl (ww hw 15 rfl)) (by decide) (t := .boolean) (t' := .double) (by decide) (by decide)))).other W4 (Or.inr (slot_ne (Or.inl (ww hw 73 rfl)) (Or.inr (ww hw 17 rfl)) (by decide) (t := .boolean) (t' := .int) (by decide) (by decide)))).ext E5).keep Kc6 (ninS (Nat.ne_of_lt (Nat.lt_of_lt_of_le ((F_t.other W3 (Or.inr (slot_ne (Or.inl (ww hw 73 rfl)) (Or.inl (ww hw 15 rfl)) (by decide) (t := .boolean) (t' := .double) (by decide) (by decide)))).other W4 (Or.inr (slot_ne (Or.inl (ww hw 73 rfl)) (Or.inr (ww hw 17 rfl)) (by decide) (t := .boolean) (t' := .int) (by decide) (by decide)))).lt (Nat.le_of_eq g5.symm))) nin0)).other W7 (Or.inr (slot_ne (Or.inl (ww hw 73 rfl)) (Or.inr (ww hw 32 rfl)) (by decide) (t := .boolean) (t' := (.object sH)) (by decide) (by decide)))).other W8 (Or.inr (slot_ne (Or.inl (ww hw 73 rfl)) (Or.inr (ww hw 34 rfl)) (by decide) (t := .boolean) (t' := (.object "java/util/function/DoubleUnaryOperator")) (by decide) (by decide)))).lt (Nat.le_of_eq g9.symm))) nin0)).other W11 (Or.inr (slot_ne (Or.inr (ww hw 34 rfl)) (Or.inr (ww hw 55 rfl)) (by decide) (t := (.object "java/util/function/DoubleUnaryOperator")) (t' := (.object sT)) (by decide) (by decide)))), (((((((((F_t.other W3 (Or.inr (slot_ne (Or.inl (ww hw 73 rfl)) (Or.inl (ww hw 15 rfl)) (by decide) (t := .boolean) (t' := .double) (by decide) (by decide)))).other W4 (Or.inr (slot_ne (Or.inl (ww hw 73 rfl)) (Or.inr (ww hw 17 rfl)) (by decide) (t := .boolean) (t' := .int) (by decide) (by decide)))).ext E5).keep Kc6 (ninS (Nat.ne_of_lt (Nat.lt_of_lt_of_le ((F_t.other W3 (Or.inr (slot_ne (Or.inl (ww hw 73 rfl)) (Or.inl (ww hw 15 rfl)) (by decide) (t := .boolean) (t' := .double) (by decide) (by decide)))).other W4 (Or.inr (slot_ne (Or.inl (ww hw 73 rfl)) (Or.inr (ww hw 17 rfl)) (by decide) (t := .boolean) (t' := .int) (by decide) (by decide)))).lt (Nat.le_of_eq g5.symm))) nin0)).other W7 (Or.inr (slot_ne (Or.inl (ww hw 73 rfl)) (Or.inr (ww hw 32 rfl)) (by decide) (t := .boolean) (t' := (.object sH)) (by decide) (by decide)))).other W8 (Or.inr (slot_ne (Or.inl (ww hw 73 rfl)) (Or.inr (ww hw 34 rfl)) (by decide) (t := .boolean) (t' := (.object "java/util/function/DoubleUnaryOperator")) (by decide) (by decide)))).ext E9).keep Kc10 (ninS (Nat.ne_of_lt (Nat.lt_of_lt_of_le ((((((F_t.other W3 (Or.inr (slot_ne (Or.inl (ww hw 73 rfl)) (Or.inl (ww hw 15 rfl)) (by decide) (t := .boolean) (t' := .double) (by decide) (by decide)))).other W4 (Or.inr (slot_ne (Or.inl (ww hw 73 rfl)) (Or.inr (ww hw 17 rfl)) (by decide) (t := .boolean) (t' := .int) (by decide) (by decide)))).ext E5).keep Kc6 (ninS (Nat.ne_of_lt (Nat.lt_of_lt_of_le ((F_t.other W3 (Or.inr (slot_ne (Or.inl (ww hw 73 rfl)) (Or.inl (ww hw 15 rfl)) (by decide) (t := .boolean) (t' := .double) (by decide) (by decide)))).other W4 (Or.inr (slot_ne (Or.inl (ww hw 73 rfl)) (Or.inr (ww hw 17 rfl)) (by decide) (t := .boolean) (t' := .int) (by decide) (by decide)))).lt (Nat.le_of_eq g5.symm))) nin0)).other W7 (Or.inr (slot_ne (Or.inl (ww hw 73 rfl)) (Or.inr (ww hw 32 rfl)) (by decide) (t := .boolean) (t' := (.object sH)) (by decide) (by decide)))).other W8 (Or.inr (slot_ne (Or.inl (ww hw 73 rfl)) (Or.inr (ww hw 34 rfl)) (by decide) (t := .boolean) (t' := (.object "java/util/function/DoubleUnaryOperator")) (by decide) (by decide)))).lt (Nat.le_of_eq g9.symm))) nin0)).other W11 (Or.inr (slot_ne (Or.inl (ww hw 73 rfl)) (Or.inr (ww hw 55 rfl)) (by decide) (t := .boolean) (t' := (.object sT)) (by decide) (by decide)))), ((((((E_b5.keep Kc6).wr W7).wr W8).ext E9).keep Kc10).wr W11), (((((Fd6.other W7 (Or.inl (Ne.symm (Nat.ne_of_lt (Nat.lt_of_lt_of_le ((F_t.other W3 (Or.inr (slot_ne (Or.inl (ww hw 73 rfl)) (Or.inl (ww hw 15 rfl)) (by decide) (t := .boolean) (t' := .double) (by decide) (by decide)))).other W4 (Or.inr (slot_ne (Or.inl (ww hw 73 rfl)) (Or.inr (ww hw 17 rfl)) (by decide) (t := .boolean) (t' := .int) (by decide) (by decide)))).lt (Nat.le_of_eq g5.symm)))))).other W8 (Or.inl (Ne.symm (Nat.ne_of_lt (Nat.lt_of_lt_of_le ((F_t.other W3 (Or.inr (slot_ne (Or.inl (ww hw 73 rfl)) (Or.inl (ww hw 15 rfl)) (by decide) (t := .boolean) (t' := .double) (by decide) (by decide)))).other W4 (Or.inr (slot_ne (Or.inl (ww hw 73 rfl)) (Or.inr (ww hw 17 rfl)) (by decide) (t := .boolean) (t' := .int) (by decide) (by decide)))).lt (Nat.le_of_eq g5.symm)))))).ext E9).keep Kc10 (ninS (Nat.ne_of_lt (Nat.lt_of_lt_of_le (((E_b5.keep Kc6).wr W7).wr W8).lt (Nat.le_of_eq g9.symm))) nin0)).other W11 (Or.inl (Ne.symm (Nat.ne_of_lt (Nat.lt_of_lt_of_le ((F_t.other W3 (Or.inr (slot_ne (Or.inl (ww hw 73 rfl)) (Or.inl (ww hw 15 rfl)) (by decide) (t := .boolean) (t' := .double) (by decide) (by decide)))).other W4 (Or.inr (slot_ne (Or.inl (ww hw 73 rfl)) (Or.inr (ww hw 17 rfl)) (by decide) (t := .boolean) (t' := .int) (by decide) (by decide)))).lt (Nat.le_of_eq g5.symm)))))), (((((Fs6.other W7 (Or.inl (Ne.symm (Nat.ne_of_lt (Nat.lt_of_lt_of_le ((F_t.other W3 (Or.inr (slot_ne (Or.inl (ww hw 73 rfl)) (Or.inl (ww hw 15 rfl)) (by decide) (t := .boolean) (t' := .double) (by decide) (by decide)))).other W4 (Or.inr (slot_ne (Or.inl (ww hw 73 rfl)) (Or.inr (ww hw 17 rfl)) (by decide) (t := .boolean) (t' := .int) (by decide) (by decide)))).lt (Nat.le_of_eq g5.symm)))))).other W8 (Or.inl (Ne.symm (Nat.ne_of_lt (Nat.lt_of_lt_of_le ((F_t.other W3 (Or.inr (slot_ne (Or.inl (ww hw 73 rfl)) (Or.inl (ww hw 15 rfl)) (by decide) (t := .boolean) (t' := .double) (by decide) (by decide)))).other W4 (Or.inr (slot_ne (Or.inl (ww hw 73 rfl)) (Or.inr (ww hw 17 rfl)) (by decide) (t := .boolean) (t' := .int) (by decide) (by decide)))).lt (Nat.le_of_eq g5.symm)))))).ext E9).keep Kc10 (ninS (Nat.ne_of_lt (Nat.lt_of_lt_of_le (((E_b5.keep Kc6).wr W7).wr W8).lt (Nat.le_of_eq g9.symm))) nin0)).other W11 (Or.inl (Ne.symm (Nat.ne_of_lt (Nat.lt_of_lt_of_le ((F_t.other W3 (Or.inr (slot_ne (Or.inl (ww hw 73 rfl)) (Or.inl (ww hw 15 rfl)) (by decide) (t := .boolean) (t' := .double) (by decide) (by decide)))).other W4 (Or.inr (slot_ne (Or.inl (ww hw 73 rfl)) (Or.inr (ww hw 17 rfl)) (by decide) (t := .boolean) (t' := .int) (by decide) (by decide)))).lt (Nat.le_of_eq g5.symm)))))), (((((Fz6.other W7 (Or.inl (Ne.symm (Nat.ne_of_lt (Nat.lt_of_lt_of_le ((F_t.other W3 (Or.inr (slot_ne (Or.inl (ww hw 73 rfl)) (Or.inl (ww hw 15 rfl)) (by decide) (t := .boolean) (t' := .double) (by decide) (by decide)))).other W4 (Or.inr (slot_ne (Or.inl (ww hw 73 rfl)) (Or.inr (ww hw 17 rfl)) (by decide) (t := .boolean) (t' := .int) (by decide) (by decide)))).lt (Nat.le_of_eq g5.symm)))))).other W8 (Or.inl (Ne.symm (Nat.ne_of_lt (Nat.lt_of_lt_of_le ((F_t.other W3 (Or.inr (slot_ne (Or.inl (ww hw 73 rfl)) (Or.inl (ww hw 15 rfl)) (by decide) (t := .boolean) (t' := .double) (by decide) (by decide)))).other W4 (Or.inr (slot_ne (Or.inl (ww hw 73 rfl)) (Or.inr (ww hw 17 rfl)) (by decide) (t := .boolean) (t' := .int) (by decide) (by decide)))).lt (Nat.le_of_eq g5.symm)))))).ext E9).keep Kc10 (ninS (Nat.ne_of_lt (Nat.lt_of_lt_of_le (((E_b5.keep Kc6).wr W7).wr W8).lt (Nat.le_of_eq g9.symm))) nin0)).other W11 (Or.inl (Ne.symm (Nat.ne_of_lt (Nat.lt_of_lt_of_le ((F_t.other W3 (Or.inr (slot_ne (Or.inl (ww hw 73 rfl)) (Or.inl (ww hw 15 rfl)) (by decide) (t := .boolean) (t' := .double) (by decide) (by decide)))).other W4 (Or.inr (slot_ne (Or.inl (ww hw 73 rfl)) (Or.inr (ww hw 17 rfl)) (by decide) (t := .boolean) (t' := .int) (by decide) (by decide)))).lt (Nat.le_of_eq g5.symm)))))), ⟨_, (((((Vd6.other W7 (Ne.symm (Nat.ne_of_lt (Nat.lt_of_lt_of_le (((F_t.other W3 (Or.inr (slot_ne (Or.inl (ww hw 73 rfl)) (Or.inl (ww hw 15 rfl)) (by decide) (t := .boolean) (t' := .double) (by decide) (by decide)))).other W4 (Or.inr (slot_ne (Or.inl (ww hw 73 rfl)) (Or.inr (ww hw 17 rfl)) (by decide) (t := .boolean) (t' := .int) (by decide) (by decide)))).ext E5).lt hd6)))).other W8 (Ne.symm (Nat.ne_of_lt (Nat.lt_of_lt_of_le (((F_t.other W3 (Or.inr (slot_ne (Or.inl (ww hw 73 rfl)) (Or.inl (ww hw 15 rfl)) (by decide) (t := .boolean) (t' := .double) (by decide) (by decide)))).other W4 (Or.inr (slot_ne (Or.inl (ww hw 73 rfl)) (Or.inr (ww hw 17 rfl)) (by decide) (t := .boolean) (t' := .int) (by decide) (by decide)))).ext E5).lt hd6)))).ext E9).keep Kc10 (ninS (Nat.ne_of_lt (Nat.lt_of_lt_of_le ((Vd6.other W7 (Ne.symm (Nat.ne_of_lt (Nat.lt_of_lt_of_le (((F_t.other W3 (Or.inr (slot_ne (Or.inl (ww hw 73 rfl)) (Or.inl (ww hw 15 rfl)) (by decide) (t := .boolean) (t' := .double) (by decide) (by decide)))).other W4 (Or.inr (slot_ne (Or.inl (ww hw 73 rfl)) (Or.inr (ww hw 17 rfl)) (by decide) (t := .boolean) (t' := .int) (by decide) (by decide)))).ext E5).lt hd6)))).other W8 (Ne.symm (Nat.ne_of_lt (Nat.lt_of_lt_of_le (((F_t.other W3 (Or.inr (slot_ne (Or.inl (ww hw 73 rfl)) (Or.inl (ww hw 15 rfl)) (by decide) (t := .boolean) (t' := .double) (by decide) (by decide)))).other W4 (Or.inr (slot_ne (Or.inl (ww hw 73 rfl)) (Or.inr (ww hw 17 rfl)) (by decide) (t := .boolean) (t' := .int) (by decide) (by decide)))).ext E5).lt hd6)))).lt (Nat.le_of_eq g9.symm))) nin0)).other W11 (Ne.symm (Nat.ne_of_lt (Nat.lt_of_lt_of_le (((F_t.other W3 (Or.inr (slot_ne (Or.inl (ww hw 73 rfl)) (Or.inl (ww hw 15 rfl)) (by decide) (t := .boolean) (t' := .double) (by decide) (by decide)))).other W4 (Or.inr (slot_ne (Or.inl (ww hw 73 rfl)) (Or.inr (ww hw 17 rfl)) (by decide) (t := .boolean) (t' := .int) (by decide) (by decide)))).ext E5).lt hd6))))⟩, ⟨_, (((((Vs6.other W7 (Ne.symm (Nat.ne_of_lt (Nat.lt_of_lt_of_le (((F_t.other W3 (Or.inr (slot_ne (Or.inl (ww hw 73 rfl)) (Or.inl (ww hw 15 rfl)) (by decide) (t := .boolean) (t' := .double) (by decide) (by decide)))).other W4 (Or.inr (slot_ne (Or.inl (ww hw 73 rfl)) (Or.inr (ww hw 17 rfl)) (by decide) (t := .boolean) (t' := .int) (by decide) (by decide)))).ext E5).lt hs6)))).other W8 (Ne.symm (Nat.ne_of_lt (Nat.lt_of_lt_of_le (((F_t.other W3 (Or.inr (slot_ne (Or.inl (ww hw 73 rfl)) (Or.inl (ww hw 15 rfl)) (by decide) (t := .boolean) (t' := .double) (by decide) (by decide)))).other W4 (Or.inr (slot_ne (Or.inl (ww hw 73 rfl)) (Or.inr (ww hw 17 rfl)) (by decide) (t := .boolean) (t' := .int) (by decide) (by decide)))).ext E5).lt hs6)))).ext E9).keep Kc10 (ninS (Nat.ne_of_lt (Nat.lt_of_lt_of_le ((Vs6.other W7 (Ne.symm (Nat.ne_of_lt (Nat.lt_of_lt_of_le (((F_t.other W3 (Or.inr (slot_ne (Or.inl (ww hw 73 rfl)) (Or.inl (ww hw 15 rfl)) (by decide) (t := .boolean) (t' := .double) (by decide) (by decide)))).other W4 (Or.inr (slot_ne (Or.inl (ww hw 73 rfl)) (Or.inr (ww hw 17 rfl)) (by decide) (t := .boolean) (t' := .int) (by decide) (by decide)))).ext E5).lt hs6)))).other W8 (Ne.symm (Nat.ne_of_lt (Nat.lt_of_lt_of_le (((F_t.other W3 (Or.inr (slot_ne (Or.inl (ww hw 73 rfl)) (Or.inl (ww hw 15 rfl)) (by decide) (t := .boolean) (t' := .double) (by decide) (by decide)))).other W4 (Or.inr (slot_ne (Or.inl (ww hw 73 rfl)) (Or.inr (ww hw 17 rfl)) (by decide) (t := .boolean) (t' := .int) (by decide) (by decide)))).ext E5).lt hs6)))).lt (Nat.le_of_eq g9.symm))) nin0)).other W11 (Ne.symm (Nat.ne_of_lt (Nat.lt_of_lt_of_le (((F_t.other W3 (Or.inr (slot_ne (Or.inl (ww hw 73 rfl)) (Or.inl (ww hw 15 rfl)) (by decide) (t := .boolean) (t' := .double) (by decide) (by decide)))).other W4 (Or.inr (slot_ne (Or.inl (ww hw 73 rfl)) (Or.inr (ww hw 17 rfl)) (by decide) (t := .boolean) (t' := .int) (by decide) (by decide)))).ext E5).lt hs6))))⟩⟩
def own_B (Z : State) (h : Heap) (n0 : Nat) (a1 : Addr) (n z : Int32) : Prop := ∃ (hp da sa : Addr) (D : Nat → Int32) (S0 : Nat → UInt64), Exa Z h a1 sB ∧ Fld Z h a1 sB "capacity" "I" (.int n) ∧ Fld Z h a1 sB "best" "Lcom/example/calpurnia/calpurnia/ranking/BestDocuments$Heap;" (.ref hp) ∧ Fld Z h a1 sB "asRead" "Ljava/util/function/DoubleUnaryOperator;" .null ∧ Fld Z h a1 sB "sorted" "Z" (.int (0 : Int32)) ∧ Exa Z h hp sH ∧ Fld Z h hp sH "documents" "[I" (.ref da) ∧ Fld Z h hp sH "scores" "[D" (.ref sa) ∧ Fld Z h hp sH "size" "I" (.int z) ∧ own_AI Z h da n D ∧ own_AD Z h sa n S0 ∧ a1 ≠ hp ∧ a1 ≠ da ∧ a1 ≠ sa ∧ hp ≠ da ∧ hp ≠ sa ∧ da ≠ sa ∧ n0 ≤ hp ∧ n0 ≤ da ∧ n0 ≤ sa
theorem d1_0 : decode prog_186_method_1_code 0 = .ok (.aload_n 0, 1) := by decide +kernel
theorem d1_1 : decode prog_186_method_1_code 1 = .ok (.iload_n 1, 1) := by decide +kernel
theorem d1_2 : decode prog_186_method_1_code 2 = .ok (.aconst_null, 1) := by decide +kernel
theorem d1_3 : decode prog_186_method_1_code 3 = .ok (.aconst_null, 1) := by decide +kernel
theorem d1_4 : decode prog_186_method_1_code 4 = .ok (.invokespecial 1, 3) := by decide +kernel
theorem d1_7 : decode prog_186_method_1_code 7 = .ok (.return_, 1) := by decide +kernel
theorem pn_1 : plainName sB = true := by first | (simp [plainName, overriddenIn]; done) | decide +kernel
theorem pd_1_1 : parseMethodDescriptor "(ILjava/util/function/DoubleUnaryOperator;Lcom/example/calpurnia/calpurnia/ranking/BestDocuments$DocumentOrder;)V" = some ⟨[.int, (.object "java/util/function/DoubleUnaryOperator"), (.object "com/example/calpurnia/calpurnia/ranking/BestDocuments$DocumentOrder")], none⟩ := by decide +kernel
theorem ef_1_0 (m : MethodId) (x0 : Addr) : entryFrame m #[(.ref x0), (.int (0 : Int32))] 2 = mkF m 0 #[.val (.ref x0), .val (.int (0 : Int32))] [] := by first | (simp [entryFrame, mkF, argsToLocals, Value.category]; done) | rfl
def Q1_0 (Z : State) (a1 : Addr) (uw : Value) (uc : Value) (ub : Value) (ua : Value) (us : Value) (h0 : Heap) (n0 : Nat) (v : Option Value) (h : Heap) (L : List Loc) : Prop := v = none ∧ Fr n0 L ∧ Keep h0 h [a1] ∧ own_B Z h n0 a1 (0 : Int32) (0 : Int32)
set_option maxRecDepth 65536 in
set_option maxHeartbeats 40000000 in
theorem rm1_0 (l : Launch) (Z : State) (a0 : Array Value) (hw : ∀ d ∈ tables_1, d.before a0 Z = true) (ws : List Jvm.Cond) (a1 : Addr) (uw : Value) (uc : Value) (ub : Value) (ua : Value) (us : Value) (h0 : Heap) (n0 : Nat) (Z0 : n0 ≤ h0.size) (F_t : Fld Z h0 a1 sB "sorted" "Z" (.int (0 : Int32))) (E_a1 : Exa Z h0 a1 sB) (g_a1 : n0 ≤ a1) (F_w : Fld Z h0 a1 sB "worstAsRead" "D" uw) (F_c : Fld Z h0 a1 sB "capacity" "I" uc) (F_b : Fld Z h0 a1 sB "best" "Lcom/example/calpurnia/calpurnia/ranking/BestDocuments$Heap;" ub) (F_a : Fld Z h0 a1 sB "asRead" "Ljava/util/function/DoubleUnaryOperator;" ua) (F_s : Fld Z h0 a1 sB "ties" "Lcom/example/calpurnia/calpurnia/ranking/BestDocuments$Ties;" us) :
    MetFree l (⟨sB, "<init>", "(I)V"⟩ : MethodName) (head1 (Jvm.Cond.code (⟨sB, "<init>", "(I)V"⟩ : MethodName) prog_186_method_1_code 2 none :: ws) ({ frames := 3, cells := 8, slots := 19, locals := 60 } : Room)) (fun a U => a = #[(.ref a1), (.int (0 : Int32))] ∧ Z.Warmed39 U.vm ∧ U.heap = h0) (fun _ _ _ _ _ => True) (fun _ U o U' => ∃ v L, o = .returned v ∧ Q1_0 Z a1 uw uc ub ua us h0 n0 v U'.heap L ∧ FrameEnd U o U' L ({ frames := 3, cells := 8, slots := 19, locals := 60 } : Room).cells ({ frames := 3, cells := 8, slots := 19, locals := 60 } : Room).slots) := by
  refine MetFree.of_bodySF (plainFor_of_name pn_1) hisR ?_
  intro p e s m args below meth c s₁ Bd hml0 hP hK
  obtain ⟨rfl, hZ, hh⟩ := hP
  have hx := Bd.exec
  have hby := Bd.bytes
  have hml : c.maxLocals = 2 := hml0
  have hown : s.vm.findClass sB = some m.cls := findClass_of_methodNamed Bd.named
  have hnm := (name_of_methodNamed Bd.named Bd.method).1
  have X0 : Stand p l e ({ frames := 3, cells := 8, slots := 19, locals := 60 } : Room) s m #[(.ref a1), (.int (0 : Int32))] below meth c s₁ [] 0 0 := Stand.of_body Bd
  have e0 : s₁.heap = h0 := by rw [← hh, Bd.state]; rfl
  have N0 := Fr.nil n0
  have pre0 : ∀ t, Steps p.tables e below (s₁.setTop (mkF m 0 #[.val (.ref a1), .val (.int (0 : Int32))] [])) t → Steps p.tables e below (s₁.setTop (entryFrame m #[(.ref a1), (.int (0 : Int32))] 2)) t := fun t k => castTop (ef_1_0 m a1) k

  obtain ⟨_, _, ⟨T2, L2, k2, n2⟩, -, X2, ⟨Lc2, hQ2, l2, y2, z2⟩, st2⟩ := X0.specialBack hx (y := (⟨sB, "<init>", "(ILjava/util/function/DoubleUnaryOperator;Lcom/example/calpurnia/calpurnia/ranking/BestDocuments$DocumentOrder;)V"⟩ : MethodName)) rfl hown (mvT hZ (ww hw 7 rfl)) (mvT hZ (ww hw 8 rfl)) (mvT hZ (ww hw 9 rfl)) (by decide) (backOf (W := 0) (rm2_0 l Z a0 hw [] a1 _ _ _ _ _ h0 n0 Z0 F_t E_a1 F_w g_a1 F_c F_b F_a F_s) hZ (ww hw 9 rfl) (ww hw 3 rfl) (by decide) (by decide)) (g := (mkF m 4 #[.val (.ref a1), .val (.int (0 : Int32))] [.null, .null, (.int (0 : Int32)), (.ref a1)])) rfl (by rw [hml]; rfl) (Steps.refl _) (a := a1) (argsL := [(.int (0 : Int32)), .null, .null]) (rest := []) (lenOf pd_1_1 rfl) rfl (by show 2 * 0 + _ ≤ _; exact Nat.le_of_eq rfl) (hb hby d1_4) (fun _ _ => ⟨rfl, e0, (by decide : 0 + 8 ≤ _), (by decide : 0 + 19 ≤ _)⟩)
  dsimp only [Pt.U, Pt.locs, Pt.cells, Pt.slots] at X2 l2 y2 z2 st2 hQ2
  subst l2 y2 z2
  obtain ⟨hp2, da2, sa2, rfl, N2q, Kc2, hh2, hd2, hs2, nhd2, nhs2, nds2, Fc2, Fb2, Fa2, Ft2, Eh2, Fd2, Fs2, Fz2, ⟨D2, Vd2⟩, ⟨S2, Vs2⟩⟩ := hQ2
  have N2 := Fr.app N0 N2q
  have g_hp2 : n0 ≤ hp2 := Nat.le_trans Z0 hh2
  have sz_hp2 : h0.size ≤ hp2 := Nat.le_trans (Keep.refl h0 [a1]).1 hh2
  have g_da2 : n0 ≤ da2 := Nat.le_trans Z0 hd2
  have sz_da2 : h0.size ≤ da2 := Nat.le_trans (Keep.refl h0 [a1]).1 hd2
  have g_sa2 : n0 ≤ sa2 := Nat.le_trans Z0 hs2
  have sz_sa2 : h0.size ≤ sa2 := Nat.le_trans (Keep.refl h0 [a1]).1 hs2
  have K2 : Keep h0 T2.heap [a1] := (Keep.refl h0 [a1]).trans Kc2 (allS (Or.inl (List.mem_of_getElem? (i := 0) rfl)) all0)
  obtain ⟨fs, hr, hrun, hended, hW, hsame⟩ := X2.leave (v := none) (fun _ => rfl)
  refine ⟨_, _, pre0 _ ?_, hrun, hended, _, _, rfl, ?_, ⟨_, rfl⟩, hW, hsame.mono (by decide) (by decide)⟩
  · show Steps _ _ _ (s₁.setTop (mkF m 0 #[.val (.ref a1), .val (.int (0 : Int32))] [])) _
    refine XS.aloadN X0.here hx rfl (hb hby d1_0) rfl rfl ?_
    refine XS.iloadN X0.here hx rfl (hb hby d1_1) rfl ?_
    refine XS.aconstNull X0.here hx rfl (hb hby d1_2) ?_
    refine XS.aconstNull X0.here hx rfl (hb hby d1_3) ?_
    refine st2.trans ?_
    exact X2.returnOut hx Bd.returns (hb hby d1_7) hr
  · show Q1_0 Z a1 uw uc ub ua us h0 n0 _ T2.heap _
    exact ⟨rfl, N2, K2, hp2, da2, sa2, _, _, (E_a1.keep Kc2), Fc2, Fb2, Fa2, Ft2, Eh2, Fd2, Fs2, Fz2, Vd2, Vs2, (Nat.ne_of_lt (Nat.lt_of_lt_of_le E_a1.lt hh2)), (Nat.ne_of_lt (Nat.lt_of_lt_of_le E_a1.lt hd2)), (Nat.ne_of_lt (Nat.lt_of_lt_of_le E_a1.lt hs2)), nhd2, nhs2, nds2, g_hp2, g_da2, g_sa2⟩
theorem ef_1_1 (m : MethodId) (x0 : Addr) : entryFrame m #[(.ref x0), (.int (1 : Int32))] 2 = mkF m 0 #[.val (.ref x0), .val (.int (1 : Int32))] [] := by first | (simp [entryFrame, mkF, argsToLocals, Value.category]; done) | rfl
def Q1_1 (Z : State) (a1 : Addr) (uw : Value) (uc : Value) (ub : Value) (ua : Value) (us : Value) (h0 : Heap) (n0 : Nat) (v : Option Value) (h : Heap) (L : List Loc) : Prop := v = none ∧ Fr n0 L ∧ Keep h0 h [a1] ∧ own_B Z h n0 a1 (1 : Int32) (0 : Int32)
set_option maxRecDepth 65536 in
set_option maxHeartbeats 40000000 in
theorem rm1_1 (l : Launch) (Z : State) (a0 : Array Value) (hw : ∀ d ∈ tables_1, d.before a0 Z = true) (ws : List Jvm.Cond) (a1 : Addr) (uw : Value) (uc : Value) (ub : Value) (ua : Value) (us : Value) (h0 : Heap) (n0 : Nat) (Z0 : n0 ≤ h0.size) (F_t : Fld Z h0 a1 sB "sorted" "Z" (.int (0 : Int32))) (E_a1 : Exa Z h0 a1 sB) (g_a1 : n0 ≤ a1) (F_w : Fld Z h0 a1 sB "worstAsRead" "D" uw) (F_c : Fld Z h0 a1 sB "capacity" "I" uc) (F_b : Fld Z h0 a1 sB "best" "Lcom/example/calpurnia/calpurnia/ranking/BestDocuments$Heap;" ub) (F_a : Fld Z h0 a1 sB "asRead" "Ljava/util/function/DoubleUnaryOperator;" ua) (F_s : Fld Z h0 a1 sB "ties" "Lcom/example/calpurnia/calpurnia/ranking/BestDocuments$Ties;" us) :
    MetFree l (⟨sB, "<init>", "(I)V"⟩ : MethodName) (head1 (Jvm.Cond.code (⟨sB, "<init>", "(I)V"⟩ : MethodName) prog_186_method_1_code 2 none :: ws) ({ frames := 3, cells := 8, slots := 19, locals := 60 } : Room)) (fun a U => a = #[(.ref a1), (.int (1 : Int32))] ∧ Z.Warmed39 U.vm ∧ U.heap = h0) (fun _ _ _ _ _ => True) (fun _ U o U' => ∃ v L, o = .returned v ∧ Q1_1 Z a1 uw uc ub ua us h0 n0 v U'.heap L ∧ FrameEnd U o U' L ({ frames := 3, cells := 8, slots := 19, locals := 60 } : Room).cells ({ frames := 3, cells := 8, slots := 19, locals := 60 } : Room).slots) := by
  refine MetFree.of_bodySF (plainFor_of_name pn_1) hisR ?_
  intro p e s m args below meth c s₁ Bd hml0 hP hK
  obtain ⟨rfl, hZ, hh⟩ := hP
  have hx := Bd.exec
  have hby := Bd.bytes
  have hml : c.maxLocals = 2 := hml0
  have hown : s.vm.findClass sB = some m.cls := findClass_of_methodNamed Bd.named
  have hnm := (name_of_methodNamed Bd.named Bd.method).1
  have X0 : Stand p l e ({ frames := 3, cells := 8, slots := 19, locals := 60 } : Room) s m #[(.ref a1), (.int (1 : Int32))] below meth c s₁ [] 0 0 := Stand.of_body Bd
  have e0 : s₁.heap = h0 := by rw [← hh, Bd.state]; rfl
  have N0 := Fr.nil n0
  have pre0 : ∀ t, Steps p.tables e below (s₁.setTop (mkF m 0 #[.val (.ref a1), .val (.int (1 : Int32))] [])) t → Steps p.tables e below (s₁.setTop (entryFrame m #[(.ref a1), (.int (1 : Int32))] 2)) t := fun t k => castTop (ef_1_1 m a1) k

  obtain ⟨_, _, ⟨T2, L2, k2, n2⟩, -, X2, ⟨Lc2, hQ2, l2, y2, z2⟩, st2⟩ := X0.specialBack hx (y := (⟨sB, "<init>", "(ILjava/util/function/DoubleUnaryOperator;Lcom/example/calpurnia/calpurnia/ranking/BestDocuments$DocumentOrder;)V"⟩ : MethodName)) rfl hown (mvT hZ (ww hw 7 rfl)) (mvT hZ (ww hw 8 rfl)) (mvT hZ (ww hw 9 rfl)) (by decide) (backOf (W := 0) (rm2_1 l Z a0 hw [] a1 _ _ _ _ _ h0 n0 Z0 F_t E_a1 F_w g_a1 F_c F_b F_a F_s) hZ (ww hw 9 rfl) (ww hw 3 rfl) (by decide) (by decide)) (g := (mkF m 4 #[.val (.ref a1), .val (.int (1 : Int32))] [.null, .null, (.int (1 : Int32)), (.ref a1)])) rfl (by rw [hml]; rfl) (Steps.refl _) (a := a1) (argsL := [(.int (1 : Int32)), .null, .null]) (rest := []) (lenOf pd_1_1 rfl) rfl (by show 2 * 0 + _ ≤ _; exact Nat.le_of_eq rfl) (hb hby d1_4) (fun _ _ => ⟨rfl, e0, (by decide : 0 + 8 ≤ _), (by decide : 0 + 19 ≤ _)⟩)
  dsimp only [Pt.U, Pt.locs, Pt.cells, Pt.slots] at X2 l2 y2 z2 st2 hQ2
  subst l2 y2 z2
  obtain ⟨hp2, da2, sa2, rfl, N2q, Kc2, hh2, hd2, hs2, nhd2, nhs2, nds2, Fc2, Fb2, Fa2, Ft2, Eh2, Fd2, Fs2, Fz2, ⟨D2, Vd2⟩, ⟨S2, Vs2⟩⟩ := hQ2
  have N2 := Fr.app N0 N2q
  have g_hp2 : n0 ≤ hp2 := Nat.le_trans Z0 hh2
  have sz_hp2 : h0.size ≤ hp2 := Nat.le_trans (Keep.refl h0 [a1]).1 hh2
  have g_da2 : n0 ≤ da2 := Nat.le_trans Z0 hd2
  have sz_da2 : h0.size ≤ da2 := Nat.le_trans (Keep.refl h0 [a1]).1 hd2
  have g_sa2 : n0 ≤ sa2 := Nat.le_trans Z0 hs2
  have sz_sa2 : h0.size ≤ sa2 := Nat.le_trans (Keep.refl h0 [a1]).1 hs2
  have K2 : Keep h0 T2.heap [a1] := (Keep.refl h0 [a1]).trans Kc2 (allS (Or.inl (List.mem_of_getElem? (i := 0) rfl)) all0)
  obtain ⟨fs, hr, hrun, hended, hW, hsame⟩ := X2.leave (v := none) (fun _ => rfl)
  refine ⟨_, _, pre0 _ ?_, hrun, hended, _, _, rfl, ?_, ⟨_, rfl⟩, hW, hsame.mono (by decide) (by decide)⟩
  · show Steps _ _ _ (s₁.setTop (mkF m 0 #[.val (.ref a1), .val (.int (1 : Int32))] [])) _
    refine XS.aloadN X0.here hx rfl (hb hby d1_0) rfl rfl ?_
    refine XS.iloadN X0.here hx rfl (hb hby d1_1) rfl ?_
    refine XS.aconstNull X0.here hx rfl (hb hby d1_2) ?_
    refine XS.aconstNull X0.here hx rfl (hb hby d1_3) ?_
    refine st2.trans ?_
    exact X2.returnOut hx Bd.returns (hb hby d1_7) hr
  · show Q1_1 Z a1 uw uc ub ua us h0 n0 _ T2.heap _
    exact ⟨rfl, N2, K2, hp2, da2, sa2, _, _, (E_a1.keep Kc2), Fc2, Fb2, Fa2, Ft2, Eh2, Fd2, Fs2, Fz2, Vd2, Vs2, (Nat.ne_of_lt (Nat.lt_of_lt_of_le E_a1.lt hh2)), (Nat.ne_of_lt (Nat.lt_of_lt_of_le E_a1.lt hd2)), (Nat.ne_of_lt (Nat.lt_of_lt_of_le E_a1.lt hs2)), nhd2, nhs2, nds2, g_hp2, g_da2, g_sa2⟩
theorem ef_1_2 (m : MethodId) (x0 : Addr) : entryFrame m #[(.ref x0), (.int (2 : Int32))] 2 = mkF m 0 #[.val (.ref x0), .val (.int (2 : Int32))] [] := by first | (simp [entryFrame, mkF, argsToLocals, Value.category]; done) | rfl
def Q1_2 (Z : State) (a1 : Addr) (uw : Value) (uc : Value) (ub : Value) (ua : Value) (us : Value) (h0 : Heap) (n0 : Nat) (v : Option Value) (h : Heap) (L : List Loc) : Prop := v = none ∧ Fr n0 L ∧ Keep h0 h [a1] ∧ own_B Z h n0 a1 (2 : Int32) (0 : Int32)
set_option maxRecDepth 65536 in
set_option maxHeartbeats 40000000 in
theorem rm1_2 (l : Launch) (Z : State) (a0 : Array Value) (hw : ∀ d ∈ tables_1, d.before a0 Z = true) (ws : List Jvm.Cond) (a1 : Addr) (uw : Value) (uc : Value) (ub : Value) (ua : Value) (us : Value) (h0 : Heap) (n0 : Nat) (Z0 : n0 ≤ h0.size) (F_t : Fld Z h0 a1 sB "sorted" "Z" (.int (0 : Int32))) (E_a1 : Exa Z h0 a1 sB) (g_a1 : n0 ≤ a1) (F_w : Fld Z h0 a1 sB "worstAsRead" "D" uw) (F_c : Fld Z h0 a1 sB "capacity" "I" uc) (F_b : Fld Z h0 a1 sB "best" "Lcom/example/calpurnia/calpurnia/ranking/BestDocuments$Heap;" ub) (F_a : Fld Z h0 a1 sB "asRead" "Ljava/util/function/DoubleUnaryOperator;" ua) (F_s : Fld Z h0 a1 sB "ties" "Lcom/example/calpurnia/calpurnia/ranking/BestDocuments$Ties;" us) :
    MetFree l (⟨sB, "<init>", "(I)V"⟩ : MethodName) (head1 (Jvm.Cond.code (⟨sB, "<init>", "(I)V"⟩ : MethodName) prog_186_method_1_code 2 none :: ws) ({ frames := 3, cells := 8, slots := 19, locals := 60 } : Room)) (fun a U => a = #[(.ref a1), (.int (2 : Int32))] ∧ Z.Warmed39 U.vm ∧ U.heap = h0) (fun _ _ _ _ _ => True) (fun _ U o U' => ∃ v L, o = .returned v ∧ Q1_2 Z a1 uw uc ub ua us h0 n0 v U'.heap L ∧ FrameEnd U o U' L ({ frames := 3, cells := 8, slots := 19, locals := 60 } : Room).cells ({ frames := 3, cells := 8, slots := 19, locals := 60 } : Room).slots) := by
  refine MetFree.of_bodySF (plainFor_of_name pn_1) hisR ?_
  intro p e s m args below meth c s₁ Bd hml0 hP hK
  obtain ⟨rfl, hZ, hh⟩ := hP
  have hx := Bd.exec
  have hby := Bd.bytes
  have hml : c.maxLocals = 2 := hml0
  have hown : s.vm.findClass sB = some m.cls := findClass_of_methodNamed Bd.named
  have hnm := (name_of_methodNamed Bd.named Bd.method).1
  have X0 : Stand p l e ({ frames := 3, cells := 8, slots := 19, locals := 60 } : Room) s m #[(.ref a1), (.int (2 : Int32))] below meth c s₁ [] 0 0 := Stand.of_body Bd
  have e0 : s₁.heap = h0 := by rw [← hh, Bd.state]; rfl
  have N0 := Fr.nil n0
  have pre0 : ∀ t, Steps p.tables e below (s₁.setTop (mkF m 0 #[.val (.ref a1), .val (.int (2 : Int32))] [])) t → Steps p.tables e below (s₁.setTop (entryFrame m #[(.ref a1), (.int (2 : Int32))] 2)) t := fun t k => castTop (ef_1_2 m a1) k

  obtain ⟨_, _, ⟨T2, L2, k2, n2⟩, -, X2, ⟨Lc2, hQ2, l2, y2, z2⟩, st2⟩ := X0.specialBack hx (y := (⟨sB, "<init>", "(ILjava/util/function/DoubleUnaryOperator;Lcom/example/calpurnia/calpurnia/ranking/BestDocuments$DocumentOrder;)V"⟩ : MethodName)) rfl hown (mvT hZ (ww hw 7 rfl)) (mvT hZ (ww hw 8 rfl)) (mvT hZ (ww hw 9 rfl)) (by decide) (backOf (W := 0) (rm2_2 l Z a0 hw [] a1 _ _ _ _ _ h0 n0 Z0 F_t E_a1 F_w g_a1 F_c F_b F_a F_s) hZ (ww hw 9 rfl) (ww hw 3 rfl) (by decide) (by decide)) (g := (mkF m 4 #[.val (.ref a1), .val (.int (2 : Int32))] [.null, .null, (.int (2 : Int32)), (.ref a1)])) rfl (by rw [hml]; rfl) (Steps.refl _) (a := a1) (argsL := [(.int (2 : Int32)), .null, .null]) (rest := []) (lenOf pd_1_1 rfl) rfl (by show 2 * 0 + _ ≤ _; exact Nat.le_of_eq rfl) (hb hby d1_4) (fun _ _ => ⟨rfl, e0, (by decide : 0 + 8 ≤ _), (by decide : 0 + 19 ≤ _)⟩)
  dsimp only [Pt.U, Pt.locs, Pt.cells, Pt.slots] at X2 l2 y2 z2 st2 hQ2
  subst l2 y2 z2
  obtain ⟨hp2, da2, sa2, rfl, N2q, Kc2, hh2, hd2, hs2, nhd2, nhs2, nds2, Fc2, Fb2, Fa2, Ft2, Eh2, Fd2, Fs2, Fz2, ⟨D2, Vd2⟩, ⟨S2, Vs2⟩⟩ := hQ2
  have N2 := Fr.app N0 N2q
  have g_hp2 : n0 ≤ hp2 := Nat.le_trans Z0 hh2
  have sz_hp2 : h0.size ≤ hp2 := Nat.le_trans (Keep.refl h0 [a1]).1 hh2
  have g_da2 : n0 ≤ da2 := Nat.le_trans Z0 hd2
  have sz_da2 : h0.size ≤ da2 := Nat.le_trans (Keep.refl h0 [a1]).1 hd2
  have g_sa2 : n0 ≤ sa2 := Nat.le_trans Z0 hs2
  have sz_sa2 : h0.size ≤ sa2 := Nat.le_trans (Keep.refl h0 [a1]).1 hs2
  have K2 : Keep h0 T2.heap [a1] := (Keep.refl h0 [a1]).trans Kc2 (allS (Or.inl (List.mem_of_getElem? (i := 0) rfl)) all0)
  obtain ⟨fs, hr, hrun, hended, hW, hsame⟩ := X2.leave (v := none) (fun _ => rfl)
  refine ⟨_, _, pre0 _ ?_, hrun, hended, _, _, rfl, ?_, ⟨_, rfl⟩, hW, hsame.mono (by decide) (by decide)⟩
  · show Steps _ _ _ (s₁.setTop (mkF m 0 #[.val (.ref a1), .val (.int (2 : Int32))] [])) _
    refine XS.aloadN X0.here hx rfl (hb hby d1_0) rfl rfl ?_
    refine XS.iloadN X0.here hx rfl (hb hby d1_1) rfl ?_
    refine XS.aconstNull X0.here hx rfl (hb hby d1_2) ?_
    refine XS.aconstNull X0.here hx rfl (hb hby d1_3) ?_
    refine st2.trans ?_
    exact X2.returnOut hx Bd.returns (hb hby d1_7) hr
  · show Q1_2 Z a1 uw uc ub ua us h0 n0 _ T2.heap _
    exact ⟨rfl, N2, K2, hp2, da2, sa2, _, _, (E_a1.keep Kc2), Fc2, Fb2, Fa2, Ft2, Eh2, Fd2, Fs2, Fz2, Vd2, Vs2, (Nat.ne_of_lt (Nat.lt_of_lt_of_le E_a1.lt hh2)), (Nat.ne_of_lt (Nat.lt_of_lt_of_le E_a1.lt hd2)), (Nat.ne_of_lt (Nat.lt_of_lt_of_le E_a1.lt hs2)), nhd2, nhs2, nds2, g_hp2, g_da2, g_sa2⟩
theorem ef_1_3 (m : MethodId) (x0 : Addr) : entryFrame m #[(.ref x0), (.int (3 : Int32))] 2 = mkF m 0 #[.val (.ref x0), .val (.int (3 : Int32))] [] := by first | (simp [entryFrame, mkF, argsToLocals, Value.category]; done) | rfl
def Q1_3 (Z : State) (a1 : Addr) (uw : Value) (uc : Value) (ub : Value) (ua : Value) (us : Value) (h0 : Heap) (n0 : Nat) (v : Option Value) (h : Heap) (L : List Loc) : Prop := v = none ∧ Fr n0 L ∧ Keep h0 h [a1] ∧ own_B Z h n0 a1 (3 : Int32) (0 : Int32)
set_option maxRecDepth 65536 in
set_option maxHeartbeats 40000000 in
theorem rm1_3 (l : Launch) (Z : State) (a0 : Array Value) (hw : ∀ d ∈ tables_1, d.before a0 Z = true) (ws : List Jvm.Cond) (a1 : Addr) (uw : Value) (uc : Value) (ub : Value) (ua : Value) (us : Value) (h0 : Heap) (n0 : Nat) (Z0 : n0 ≤ h0.size) (F_t : Fld Z h0 a1 sB "sorted" "Z" (.int (0 : Int32))) (E_a1 : Exa Z h0 a1 sB) (g_a1 : n0 ≤ a1) (F_w : Fld Z h0 a1 sB "worstAsRead" "D" uw) (F_c : Fld Z h0 a1 sB "capacity" "I" uc) (F_b : Fld Z h0 a1 sB "best" "Lcom/example/calpurnia/calpurnia/ranking/BestDocuments$Heap;" ub) (F_a : Fld Z h0 a1 sB "asRead" "Ljava/util/function/DoubleUnaryOperator;" ua) (F_s : Fld Z h0 a1 sB "ties" "Lcom/example/calpurnia/calpurnia/ranking/BestDocuments$Ties;" us) :
    MetFree l (⟨sB, "<init>", "(I)V"⟩ : MethodName) (head1 (Jvm.Cond.code (⟨sB, "<init>", "(I)V"⟩ : MethodName) prog_186_method_1_code 2 none :: ws) ({ frames := 3, cells := 8, slots := 19, locals := 60 } : Room)) (fun a U => a = #[(.ref a1), (.int (3 : Int32))] ∧ Z.Warmed39 U.vm ∧ U.heap = h0) (fun _ _ _ _ _ => True) (fun _ U o U' => ∃ v L, o = .returned v ∧ Q1_3 Z a1 uw uc ub ua us h0 n0 v U'.heap L ∧ FrameEnd U o U' L ({ frames := 3, cells := 8, slots := 19, locals := 60 } : Room).cells ({ frames := 3, cells := 8, slots := 19, locals := 60 } : Room).slots) := by
  refine MetFree.of_bodySF (plainFor_of_name pn_1) hisR ?_
  intro p e s m args below meth c s₁ Bd hml0 hP hK
  obtain ⟨rfl, hZ, hh⟩ := hP
  have hx := Bd.exec
  have hby := Bd.bytes
  have hml : c.maxLocals = 2 := hml0
  have hown : s.vm.findClass sB = some m.cls := findClass_of_methodNamed Bd.named
  have hnm := (name_of_methodNamed Bd.named Bd.method).1
  have X0 : Stand p l e ({ frames := 3, cells := 8, slots := 19, locals := 60 } : Room) s m #[(.ref a1), (.int (3 : Int32))] below meth c s₁ [] 0 0 := Stand.of_body Bd
  have e0 : s₁.heap = h0 := by rw [← hh, Bd.state]; rfl
  have N0 := Fr.nil n0
  have pre0 : ∀ t, Steps p.tables e below (s₁.setTop (mkF m 0 #[.val (.ref a1), .val (.int (3 : Int32))] [])) t → Steps p.tables e below (s₁.setTop (entryFrame m #[(.ref a1), (.int (3 : Int32))] 2)) t := fun t k => castTop (ef_1_3 m a1) k

  obtain ⟨_, _, ⟨T2, L2, k2, n2⟩, -, X2, ⟨Lc2, hQ2, l2, y2, z2⟩, st2⟩ := X0.specialBack hx (y := (⟨sB, "<init>", "(ILjava/util/function/DoubleUnaryOperator;Lcom/example/calpurnia/calpurnia/ranking/BestDocuments$DocumentOrder;)V"⟩ : MethodName)) rfl hown (mvT hZ (ww hw 7 rfl)) (mvT hZ (ww hw 8 rfl)) (mvT hZ (ww hw 9 rfl)) (by decide) (backOf (W := 0) (rm2_3 l Z a0 hw [] a1 _ _ _ _ _ h0 n0 Z0 F_t E_a1 F_w g_a1 F_c F_b F_a F_s) hZ (ww hw 9 rfl) (ww hw 3 rfl) (by decide) (by decide)) (g := (mkF m 4 #[.val (.ref a1), .val (.int (3 : Int32))] [.null, .null, (.int (3 : Int32)), (.ref a1)])) rfl (by rw [hml]; rfl) (Steps.refl _) (a := a1) (argsL := [(.int (3 : Int32)), .null, .null]) (rest := []) (lenOf pd_1_1 rfl) rfl (by show 2 * 0 + _ ≤ _; exact Nat.le_of_eq rfl) (hb hby d1_4) (fun _ _ => ⟨rfl, e0, (by decide : 0 + 8 ≤ _), (by decide : 0 + 19 ≤ _)⟩)
  dsimp only [Pt.U, Pt.locs, Pt.cells, Pt.slots] at X2 l2 y2 z2 st2 hQ2
  subst l2 y2 z2
  obtain ⟨hp2, da2, sa2, rfl, N2q, Kc2, hh2, hd2, hs2, nhd2, nhs2, nds2, Fc2, Fb2, Fa2, Ft2, Eh2, Fd2, Fs2, Fz2, ⟨D2, Vd2⟩, ⟨S2, Vs2⟩⟩ := hQ2
  have N2 := Fr.app N0 N2q
  have g_hp2 : n0 ≤ hp2 := Nat.le_trans Z0 hh2
  have sz_hp2 : h0.size ≤ hp2 := Nat.le_trans (Keep.refl h0 [a1]).1 hh2
  have g_da2 : n0 ≤ da2 := Nat.le_trans Z0 hd2
  have sz_da2 : h0.size ≤ da2 := Nat.le_trans (Keep.refl h0 [a1]).1 hd2
  have g_sa2 : n0 ≤ sa2 := Nat.le_trans Z0 hs2
  have sz_sa2 : h0.size ≤ sa2 := Nat.le_trans (Keep.refl h0 [a1]).1 hs2
  have K2 : Keep h0 T2.heap [a1] := (Keep.refl h0 [a1]).trans Kc2 (allS (Or.inl (List.mem_of_getElem? (i := 0) rfl)) all0)
  obtain ⟨fs, hr, hrun, hended, hW, hsame⟩ := X2.leave (v := none) (fun _ => rfl)
  refine ⟨_, _, pre0 _ ?_, hrun, hended, _, _, rfl, ?_, ⟨_, rfl⟩, hW, hsame.mono (by decide) (by decide)⟩
  · show Steps _ _ _ (s₁.setTop (mkF m 0 #[.val (.ref a1), .val (.int (3 : Int32))] [])) _
    refine XS.aloadN X0.here hx rfl (hb hby d1_0) rfl rfl ?_
    refine XS.iloadN X0.here hx rfl (hb hby d1_1) rfl ?_
    refine XS.aconstNull X0.here hx rfl (hb hby d1_2) ?_
    refine XS.aconstNull X0.here hx rfl (hb hby d1_3) ?_
    refine st2.trans ?_
    exact X2.returnOut hx Bd.returns (hb hby d1_7) hr
  · show Q1_3 Z a1 uw uc ub ua us h0 n0 _ T2.heap _
    exact ⟨rfl, N2, K2, hp2, da2, sa2, _, _, (E_a1.keep Kc2), Fc2, Fb2, Fa2, Ft2, Eh2, Fd2, Fs2, Fz2, Vd2, Vs2, (Nat.ne_of_lt (Nat.lt_of_lt_of_le E_a1.lt hh2)), (Nat.ne_of_lt (Nat.lt_of_lt_of_le E_a1.lt hd2)), (Nat.ne_of_lt (Nat.lt_of_lt_of_le E_a1.lt hs2)), nhd2, nhs2, nds2, g_hp2, g_da2, g_sa2⟩
def own_g (c i : Int32) : Int32 := if i < c then 0 else 1
def own_sz (c i : Int32) : Int32 := if c < i then c else i
def own_c4 (c : Int32) : Prop := c = 0 ∨ c = 1 ∨ c = 2 ∨ c = 3
def own_QI (Z : State) (a1 : Addr) (c : Int32) (h0 : Heap) (n0 : Nat) (v : Option Value) (h : Heap) (L : List Loc) : Prop := v = none ∧ Fr n0 L ∧ Keep h0 h [a1] ∧ own_B Z h n0 a1 c (0 : Int32)
theorem rm1 (l : Launch) (Z : State) (a0 : Array Value) (hw : ∀ d ∈ tables_1, d.before a0 Z = true) (ws : List Jvm.Cond) (a1 : Addr) (uw : Value) (uc : Value) (ub : Value) (ua : Value) (us : Value) (h0 : Heap) (n0 : Nat) (Z0 : n0 ≤ h0.size) (F_t : Fld Z h0 a1 sB "sorted" "Z" (.int (0 : Int32))) (E_a1 : Exa Z h0 a1 sB) (g_a1 : n0 ≤ a1) (F_w : Fld Z h0 a1 sB "worstAsRead" "D" uw) (F_c : Fld Z h0 a1 sB "capacity" "I" uc) (F_b : Fld Z h0 a1 sB "best" "Lcom/example/calpurnia/calpurnia/ranking/BestDocuments$Heap;" ub) (F_a : Fld Z h0 a1 sB "asRead" "Ljava/util/function/DoubleUnaryOperator;" ua) (F_s : Fld Z h0 a1 sB "ties" "Lcom/example/calpurnia/calpurnia/ranking/BestDocuments$Ties;" us) (c : Int32) (hc : own_c4 c) :
    MetFree l (⟨sB, "<init>", "(I)V"⟩ : MethodName) (head1 (Jvm.Cond.code (⟨sB, "<init>", "(I)V"⟩ : MethodName) prog_186_method_1_code 2 none :: ws) ({ frames := 3, cells := 8, slots := 19, locals := 60 } : Room)) (fun a U => a = #[(.ref a1), (.int c)] ∧ Z.Warmed39 U.vm ∧ U.heap = h0) (fun _ _ _ _ _ => True) (fun _ U o U' => ∃ v L, o = .returned v ∧ own_QI Z a1 c h0 n0 v U'.heap L ∧ FrameEnd U o U' L ({ frames := 3, cells := 8, slots := 19, locals := 60 } : Room).cells ({ frames := 3, cells := 8, slots := 19, locals := 60 } : Room).slots) := by
  rcases hc with rfl | rfl | rfl | rfl
  · exact rm1_0 l Z a0 hw ws a1 uw uc ub ua us h0 n0 Z0 F_t E_a1 g_a1 F_w F_c F_b F_a F_s
  · exact rm1_1 l Z a0 hw ws a1 uw uc ub ua us h0 n0 Z0 F_t E_a1 g_a1 F_w F_c F_b F_a F_s
  · exact rm1_2 l Z a0 hw ws a1 uw uc ub ua us h0 n0 Z0 F_t E_a1 g_a1 F_w F_c F_b F_a F_s
  · exact rm1_3 l Z a0 hw ws a1 uw uc ub ua us h0 n0 Z0 F_t E_a1 g_a1 F_w F_c F_b F_a F_s
theorem own_szl {c i : Int32} (q : i < c) : ¬ own_sz c i = c := by
  unfold own_sz
  intro e
  rw [Int32.lt_iff_toInt_lt] at q
  split at e
  · rename_i h
    rw [Int32.lt_iff_toInt_lt] at h
    omega
  · subst e
    omega
theorem own_szg {c i : Int32} (q : ¬ i < c) : own_sz c i = c := by
  unfold own_sz
  split
  · rfl
  · rename_i h
    apply Int32.toInt_inj.mp
    rw [Int32.lt_iff_toInt_lt] at q h
    omega
theorem own_nw0 {Z : State} {h : Heap} {a : Addr} {n : Int32} {S0 : Nat → UInt64} (F : own_AD Z h a n S0) (q : ((0 : Int32)).toNatClampNeg < n.toNatClampNeg) : Jvm.Free.Fl.NoNaN64 (S0 ((0 : Int32)).toNatClampNeg) := by
  obtain ⟨cl, A, S, H⟩ := F
  exact (H _ (by rw [S]; exact q)).2
theorem rm6 (l : Launch) (Z : State) (a0 : Array Value) (hw : ∀ d ∈ tables_1, d.before a0 Z = true) (ws : List Jvm.Cond) (a1 : Addr) (c i : Int32) (h0 : Heap) (n0 : Nat) (Z0 : n0 ≤ h0.size) (BB : own_B Z h0 n0 a1 c (own_sz c i)) :
    MetFree l (⟨sB, "full", "()Z"⟩ : MethodName) (head1 (Jvm.Cond.code (⟨sB, "full", "()Z"⟩ : MethodName) prog_186_method_3_code 1 (some .boolean) :: ws) ({ frames := 0, cells := 0, slots := 0, locals := 0 } : Room)) (fun a U => a = #[(.ref a1)] ∧ Z.Warmed39 U.vm ∧ U.heap = h0) (fun _ _ _ _ _ => True) (fun _ U o U' => ∃ v L, o = .returned v ∧ own_Qc (own_g c i) h0 n0 v U'.heap L ∧ FrameEnd U o U' L ({ frames := 0, cells := 0, slots := 0, locals := 0 } : Room).cells ({ frames := 0, cells := 0, slots := 0, locals := 0 } : Room).slots) := by
  obtain ⟨hp, da, sa, D, S0, E_a1, F_c, F_b, F_a, F_t, E_hp, F_d, F_s, F_z, V_da, V_sa, nbh, nbd, nbs, nhd, nhs, nds, g_hp, g_da, g_sa⟩ := BB
  unfold own_g
  by_cases q : i < c
  · rw [if_pos q]
    exact rm6_0 l Z a0 hw ws a1 hp (own_sz c i) c h0 n0 Z0 F_b F_z F_c (own_szl q)
  · rw [if_neg q]
    exact rm6_1 l Z a0 hw ws a1 hp (own_sz c i) c h0 n0 Z0 F_b F_z F_c (own_szg q)
def own_QO (Z : State) (a1 : Addr) (n z : Int32) (h0 : Heap) (n0 : Nat) (v : Option Value) (h : Heap) (L : List Loc) : Prop := v = none ∧ Fr n0 L ∧ (∃ hp da sa : Addr, Keep h0 h [hp, da, sa]) ∧ Exa Z h a1 sB ∧ own_B Z h n0 a1 n z
theorem rmO_0_0 (l : Launch) (Z : State) (a0 : Array Value) (hw : ∀ d ∈ tables_1, d.before a0 Z = true) (ws : List Jvm.Cond) (a1 : Addr) (p2 : Int32) (y3 : UInt64) (h0 : Heap) (n0 : Nat) (Z0 : n0 ≤ h0.size) (BB : own_B Z h0 n0 a1 (0 : Int32) (0 : Int32)) (nn_y3 : Jvm.Free.Fl.NoNaN64 y3) :
    MetFree l (⟨sB, "offer", "(ID)V"⟩ : MethodName) (head1 (Jvm.Cond.code (⟨sB, "offer", "(ID)V"⟩ : MethodName) prog_186_method_6_code 7 none :: ws) ({ frames := 7, cells := 0, slots := 0, locals := 190 } : Room)) (fun a U => a = #[(.ref a1), (.int p2), (.double y3)] ∧ Z.Warmed39 U.vm ∧ U.heap = h0) (fun _ _ _ _ _ => True) (fun _ U o U' => ∃ v L, o = .returned v ∧ own_QO Z a1 (0 : Int32) (0 : Int32) h0 n0 v U'.heap L ∧ FrameEnd U o U' L ({ frames := 7, cells := 0, slots := 0, locals := 190 } : Room).cells ({ frames := 7, cells := 0, slots := 0, locals := 190 } : Room).slots) := by
  obtain ⟨hp, da, sa, D, S0, E_a1, F_c, F_b, F_a, F_t, E_hp, F_d, F_s, F_z, V_da, V_sa, nbh, nbd, nbs, nhd, nhs, nds, g_hp, g_da, g_sa⟩ := BB
  refine Jvm.Free.MetFree.imp (rm8_0_0_0 l Z a0 hw ws a1 p2 y3 hp da sa D S0 h0 n0 Z0 E_a1 F_c F_b F_a F_t E_hp F_d F_s F_z V_da V_sa nbh nbd nbs nhd nhs nds g_hp g_da g_sa nn_y3) ?_
  rintro a s o s' ⟨v, L, ho, ⟨r1, r2, K, Gd, Gs, Gz, ⟨D', VD⟩, ⟨S', VS⟩⟩, hf⟩
  exact ⟨v, L, ho, ⟨r1, r2, ⟨hp, da, sa, K⟩, E_a1.keep K, hp, da, sa, D', S', E_a1.keep K, F_c.keep K (by simp [nbh, nbd, nbs]), F_b.keep K (by simp [nbh, nbd, nbs]), F_a.keep K (by simp [nbh, nbd, nbs]), F_t.keep K (by simp [nbh, nbd, nbs]), E_hp.keep K, Gd, Gs, Gz, VD, VS, nbh, nbd, nbs, nhd, nhs, nds, g_hp, g_da, g_sa⟩, hf⟩
theorem rmO_1_0 (l : Launch) (Z : State) (a0 : Array Value) (hw : ∀ d ∈ tables_1, d.before a0 Z = true) (ws : List Jvm.Cond) (a1 : Addr) (p2 : Int32) (y3 : UInt64) (h0 : Heap) (n0 : Nat) (Z0 : n0 ≤ h0.size) (BB : own_B Z h0 n0 a1 (1 : Int32) (0 : Int32)) (nn_y3 : Jvm.Free.Fl.NoNaN64 y3) :
    MetFree l (⟨sB, "offer", "(ID)V"⟩ : MethodName) (head1 (Jvm.Cond.code (⟨sB, "offer", "(ID)V"⟩ : MethodName) prog_186_method_6_code 7 none :: ws) ({ frames := 7, cells := 0, slots := 0, locals := 190 } : Room)) (fun a U => a = #[(.ref a1), (.int p2), (.double y3)] ∧ Z.Warmed39 U.vm ∧ U.heap = h0) (fun _ _ _ _ _ => True) (fun _ U o U' => ∃ v L, o = .returned v ∧ own_QO Z a1 (1 : Int32) (1 : Int32) h0 n0 v U'.heap L ∧ FrameEnd U o U' L ({ frames := 7, cells := 0, slots := 0, locals := 190 } : Room).cells ({ frames := 7, cells := 0, slots := 0, locals := 190 } : Room).slots) := by
  obtain ⟨hp, da, sa, D, S0, E_a1, F_c, F_b, F_a, F_t, E_hp, F_d, F_s, F_z, V_da, V_sa, nbh, nbd, nbs, nhd, nhs, nds, g_hp, g_da, g_sa⟩ := BB
  refine Jvm.Free.MetFree.imp (rm8_1_0_0 l Z a0 hw ws a1 p2 y3 hp da sa D S0 h0 n0 Z0 E_a1 F_c F_b F_a F_t E_hp F_d F_s F_z V_da V_sa nbh nbd nbs nhd nhs nds g_hp g_da g_sa nn_y3) ?_
  rintro a s o s' ⟨v, L, ho, ⟨r1, r2, K, Gd, Gs, Gz, ⟨D', VD⟩, ⟨S', VS⟩⟩, hf⟩
  exact ⟨v, L, ho, ⟨r1, r2, ⟨hp, da, sa, K⟩, E_a1.keep K, hp, da, sa, D', S', E_a1.keep K, F_c.keep K (by simp [nbh, nbd, nbs]), F_b.keep K (by simp [nbh, nbd, nbs]), F_a.keep K (by simp [nbh, nbd, nbs]), F_t.keep K (by simp [nbh, nbd, nbs]), E_hp.keep K, Gd, Gs, Gz, VD, VS, nbh, nbd, nbs, nhd, nhs, nds, g_hp, g_da, g_sa⟩, hf⟩
theorem rmO_1_1 (l : Launch) (Z : State) (a0 : Array Value) (hw : ∀ d ∈ tables_1, d.before a0 Z = true) (ws : List Jvm.Cond) (a1 : Addr) (p2 : Int32) (y3 : UInt64) (h0 : Heap) (n0 : Nat) (Z0 : n0 ≤ h0.size) (BB : own_B Z h0 n0 a1 (1 : Int32) (1 : Int32)) (nn_y3 : Jvm.Free.Fl.NoNaN64 y3) :
    MetFree l (⟨sB, "offer", "(ID)V"⟩ : MethodName) (head1 (Jvm.Cond.code (⟨sB, "offer", "(ID)V"⟩ : MethodName) prog_186_method_6_code 7 none :: ws) ({ frames := 7, cells := 0, slots := 0, locals := 190 } : Room)) (fun a U => a = #[(.ref a1), (.int p2), (.double y3)] ∧ Z.Warmed39 U.vm ∧ U.heap = h0) (fun _ _ _ _ _ => True) (fun _ U o U' => ∃ v L, o = .returned v ∧ own_QO Z a1 (1 : Int32) (1 : Int32) h0 n0 v U'.heap L ∧ FrameEnd U o U' L ({ frames := 7, cells := 0, slots := 0, locals := 190 } : Room).cells ({ frames := 7, cells := 0, slots := 0, locals := 190 } : Room).slots) := by
  obtain ⟨hp, da, sa, D, S0, E_a1, F_c, F_b, F_a, F_t, E_hp, F_d, F_s, F_z, V_da, V_sa, nbh, nbd, nbs, nhd, nhs, nds, g_hp, g_da, g_sa⟩ := BB
  refine Jvm.Free.MetFree.imp (rm8_1_1 l Z a0 hw ws a1 p2 y3 hp da sa D S0 h0 n0 Z0 E_a1 F_c F_b F_a F_t E_hp F_d F_s F_z V_da V_sa nbh nbd nbs nhd nhs nds g_hp g_da g_sa nn_y3 (own_nw0 V_sa (by decide))) ?_
  rintro a s o s' ⟨v, L, ho, ⟨r1, r2, K, Gd, Gs, Gz, ⟨D', VD⟩, ⟨S', VS⟩⟩, hf⟩
  exact ⟨v, L, ho, ⟨r1, r2, ⟨hp, da, sa, K⟩, E_a1.keep K, hp, da, sa, D', S', E_a1.keep K, F_c.keep K (by simp [nbh, nbd, nbs]), F_b.keep K (by simp [nbh, nbd, nbs]), F_a.keep K (by simp [nbh, nbd, nbs]), F_t.keep K (by simp [nbh, nbd, nbs]), E_hp.keep K, Gd, Gs, Gz, VD, VS, nbh, nbd, nbs, nhd, nhs, nds, g_hp, g_da, g_sa⟩, hf⟩
theorem rmO_2_0 (l : Launch) (Z : State) (a0 : Array Value) (hw : ∀ d ∈ tables_1, d.before a0 Z = true) (ws : List Jvm.Cond) (a1 : Addr) (p2 : Int32) (y3 : UInt64) (h0 : Heap) (n0 : Nat) (Z0 : n0 ≤ h0.size) (BB : own_B Z h0 n0 a1 (2 : Int32) (0 : Int32)) (nn_y3 : Jvm.Free.Fl.NoNaN64 y3) :
    MetFree l (⟨sB, "offer", "(ID)V"⟩ : MethodName) (head1 (Jvm.Cond.code (⟨sB, "offer", "(ID)V"⟩ : MethodName) prog_186_method_6_code 7 none :: ws) ({ frames := 7, cells := 0, slots := 0, locals := 190 } : Room)) (fun a U => a = #[(.ref a1), (.int p2), (.double y3)] ∧ Z.Warmed39 U.vm ∧ U.heap = h0) (fun _ _ _ _ _ => True) (fun _ U o U' => ∃ v L, o = .returned v ∧ own_QO Z a1 (2 : Int32) (1 : Int32) h0 n0 v U'.heap L ∧ FrameEnd U o U' L ({ frames := 7, cells := 0, slots := 0, locals := 190 } : Room).cells ({ frames := 7, cells := 0, slots := 0, locals := 190 } : Room).slots) := by
  obtain ⟨hp, da, sa, D, S0, E_a1, F_c, F_b, F_a, F_t, E_hp, F_d, F_s, F_z, V_da, V_sa, nbh, nbd, nbs, nhd, nhs, nds, g_hp, g_da, g_sa⟩ := BB
  refine Jvm.Free.MetFree.imp (rm8_2_0_0 l Z a0 hw ws a1 p2 y3 hp da sa D S0 h0 n0 Z0 E_a1 F_c F_b F_a F_t E_hp F_d F_s F_z V_da V_sa nbh nbd nbs nhd nhs nds g_hp g_da g_sa nn_y3) ?_
  rintro a s o s' ⟨v, L, ho, ⟨r1, r2, K, Gd, Gs, Gz, ⟨D', VD⟩, ⟨S', VS⟩⟩, hf⟩
  exact ⟨v, L, ho, ⟨r1, r2, ⟨hp, da, sa, K⟩, E_a1.keep K, hp, da, sa, D', S', E_a1.keep K, F_c.keep K (by simp [nbh, nbd, nbs]), F_b.keep K (by simp [nbh, nbd, nbs]), F_a.keep K (by simp [nbh, nbd, nbs]), F_t.keep K (by simp [nbh, nbd, nbs]), E_hp.keep K, Gd, Gs, Gz, VD, VS, nbh, nbd, nbs, nhd, nhs, nds, g_hp, g_da, g_sa⟩, hf⟩
theorem rmO_2_1 (l : Launch) (Z : State) (a0 : Array Value) (hw : ∀ d ∈ tables_1, d.before a0 Z = true) (ws : List Jvm.Cond) (a1 : Addr) (p2 : Int32) (y3 : UInt64) (h0 : Heap) (n0 : Nat) (Z0 : n0 ≤ h0.size) (BB : own_B Z h0 n0 a1 (2 : Int32) (1 : Int32)) (nn_y3 : Jvm.Free.Fl.NoNaN64 y3) :
    MetFree l (⟨sB, "offer", "(ID)V"⟩ : MethodName) (head1 (Jvm.Cond.code (⟨sB, "offer", "(ID)V"⟩ : MethodName) prog_186_method_6_code 7 none :: ws) ({ frames := 7, cells := 0, slots := 0, locals := 190 } : Room)) (fun a U => a = #[(.ref a1), (.int p2), (.double y3)] ∧ Z.Warmed39 U.vm ∧ U.heap = h0) (fun _ _ _ _ _ => True) (fun _ U o U' => ∃ v L, o = .returned v ∧ own_QO Z a1 (2 : Int32) (2 : Int32) h0 n0 v U'.heap L ∧ FrameEnd U o U' L ({ frames := 7, cells := 0, slots := 0, locals := 190 } : Room).cells ({ frames := 7, cells := 0, slots := 0, locals := 190 } : Room).slots) := by
  obtain ⟨hp, da, sa, D, S0, E_a1, F_c, F_b, F_a, F_t, E_hp, F_d, F_s, F_z, V_da, V_sa, nbh, nbd, nbs, nhd, nhs, nds, g_hp, g_da, g_sa⟩ := BB
  refine Jvm.Free.MetFree.imp (rm8_2_1_0 l Z a0 hw ws a1 p2 y3 hp da sa D S0 h0 n0 Z0 E_a1 F_c F_b F_a F_t E_hp F_d F_s F_z V_da V_sa nbh nbd nbs nhd nhs nds g_hp g_da g_sa nn_y3) ?_
  rintro a s o s' ⟨v, L, ho, ⟨r1, r2, K, Gd, Gs, Gz, ⟨D', VD⟩, ⟨S', VS⟩⟩, hf⟩
  exact ⟨v, L, ho, ⟨r1, r2, ⟨hp, da, sa, K⟩, E_a1.keep K, hp, da, sa, D', S', E_a1.keep K, F_c.keep K (by simp [nbh, nbd, nbs]), F_b.keep K (by simp [nbh, nbd, nbs]), F_a.keep K (by simp [nbh, nbd, nbs]), F_t.keep K (by simp [nbh, nbd, nbs]), E_hp.keep K, Gd, Gs, Gz, VD, VS, nbh, nbd, nbs, nhd, nhs, nds, g_hp, g_da, g_sa⟩, hf⟩
theorem rmO_2_2 (l : Launch) (Z : State) (a0 : Array Value) (hw : ∀ d ∈ tables_1, d.before a0 Z = true) (ws : List Jvm.Cond) (a1 : Addr) (p2 : Int32) (y3 : UInt64) (h0 : Heap) (n0 : Nat) (Z0 : n0 ≤ h0.size) (BB : own_B Z h0 n0 a1 (2 : Int32) (2 : Int32)) (nn_y3 : Jvm.Free.Fl.NoNaN64 y3) :
    MetFree l (⟨sB, "offer", "(ID)V"⟩ : MethodName) (head1 (Jvm.Cond.code (⟨sB, "offer", "(ID)V"⟩ : MethodName) prog_186_method_6_code 7 none :: ws) ({ frames := 7, cells := 0, slots := 0, locals := 190 } : Room)) (fun a U => a = #[(.ref a1), (.int p2), (.double y3)] ∧ Z.Warmed39 U.vm ∧ U.heap = h0) (fun _ _ _ _ _ => True) (fun _ U o U' => ∃ v L, o = .returned v ∧ own_QO Z a1 (2 : Int32) (2 : Int32) h0 n0 v U'.heap L ∧ FrameEnd U o U' L ({ frames := 7, cells := 0, slots := 0, locals := 190 } : Room).cells ({ frames := 7, cells := 0, slots := 0, locals := 190 } : Room).slots) := by
  obtain ⟨hp, da, sa, D, S0, E_a1, F_c, F_b, F_a, F_t, E_hp, F_d, F_s, F_z, V_da, V_sa, nbh, nbd, nbs, nhd, nhs, nds, g_hp, g_da, g_sa⟩ := BB
  refine Jvm.Free.MetFree.imp (rm8_2_2 l Z a0 hw ws a1 p2 y3 hp da sa D S0 h0 n0 Z0 E_a1 F_c F_b F_a F_t E_hp F_d F_s F_z V_da V_sa nbh nbd nbs nhd nhs nds g_hp g_da g_sa nn_y3 (own_nw0 V_sa (by decide))) ?_
  rintro a s o s' ⟨v, L, ho, ⟨r1, r2, K, Gd, Gs, Gz, ⟨D', VD⟩, ⟨S', VS⟩⟩, hf⟩
  exact ⟨v, L, ho, ⟨r1, r2, ⟨hp, da, sa, K⟩, E_a1.keep K, hp, da, sa, D', S', E_a1.keep K, F_c.keep K (by simp [nbh, nbd, nbs]), F_b.keep K (by simp [nbh, nbd, nbs]), F_a.keep K (by simp [nbh, nbd, nbs]), F_t.keep K (by simp [nbh, nbd, nbs]), E_hp.keep K, Gd, Gs, Gz, VD, VS, nbh, nbd, nbs, nhd, nhs, nds, g_hp, g_da, g_sa⟩, hf⟩
theorem rmO_3_0 (l : Launch) (Z : State) (a0 : Array Value) (hw : ∀ d ∈ tables_1, d.before a0 Z = true) (ws : List Jvm.Cond) (a1 : Addr) (p2 : Int32) (y3 : UInt64) (h0 : Heap) (n0 : Nat) (Z0 : n0 ≤ h0.size) (BB : own_B Z h0 n0 a1 (3 : Int32) (0 : Int32)) (nn_y3 : Jvm.Free.Fl.NoNaN64 y3) :
    MetFree l (⟨sB, "offer", "(ID)V"⟩ : MethodName) (head1 (Jvm.Cond.code (⟨sB, "offer", "(ID)V"⟩ : MethodName) prog_186_method_6_code 7 none :: ws) ({ frames := 7, cells := 0, slots := 0, locals := 190 } : Room)) (fun a U => a = #[(.ref a1), (.int p2), (.double y3)] ∧ Z.Warmed39 U.vm ∧ U.heap = h0) (fun _ _ _ _ _ => True) (fun _ U o U' => ∃ v L, o = .returned v ∧ own_QO Z a1 (3 : Int32) (1 : Int32) h0 n0 v U'.heap L ∧ FrameEnd U o U' L ({ frames := 7, cells := 0, slots := 0, locals := 190 } : Room).cells ({ frames := 7, cells := 0, slots := 0, locals := 190 } : Room).slots) := by
  obtain ⟨hp, da, sa, D, S0, E_a1, F_c, F_b, F_a, F_t, E_hp, F_d, F_s, F_z, V_da, V_sa, nbh, nbd, nbs, nhd, nhs, nds, g_hp, g_da, g_sa⟩ := BB
  refine Jvm.Free.MetFree.imp (rm8_3_0_0 l Z a0 hw ws a1 p2 y3 hp da sa D S0 h0 n0 Z0 E_a1 F_c F_b F_a F_t E_hp F_d F_s F_z V_da V_sa nbh nbd nbs nhd nhs nds g_hp g_da g_sa nn_y3) ?_
  rintro a s o s' ⟨v, L, ho, ⟨r1, r2, K, Gd, Gs, Gz, ⟨D', VD⟩, ⟨S', VS⟩⟩, hf⟩
  exact ⟨v, L, ho, ⟨r1, r2, ⟨hp, da, sa, K⟩, E_a1.keep K, hp, da, sa, D', S', E_a1.keep K, F_c.keep K (by simp [nbh, nbd, nbs]), F_b.keep K (by simp [nbh, nbd, nbs]), F_a.keep K (by simp [nbh, nbd, nbs]), F_t.keep K (by simp [nbh, nbd, nbs]), E_hp.keep K, Gd, Gs, Gz, VD, VS, nbh, nbd, nbs, nhd, nhs, nds, g_hp, g_da, g_sa⟩, hf⟩
theorem rmO_3_1 (l : Launch) (Z : State) (a0 : Array Value) (hw : ∀ d ∈ tables_1, d.before a0 Z = true) (ws : List Jvm.Cond) (a1 : Addr) (p2 : Int32) (y3 : UInt64) (h0 : Heap) (n0 : Nat) (Z0 : n0 ≤ h0.size) (BB : own_B Z h0 n0 a1 (3 : Int32) (1 : Int32)) (nn_y3 : Jvm.Free.Fl.NoNaN64 y3) :
    MetFree l (⟨sB, "offer", "(ID)V"⟩ : MethodName) (head1 (Jvm.Cond.code (⟨sB, "offer", "(ID)V"⟩ : MethodName) prog_186_method_6_code 7 none :: ws) ({ frames := 7, cells := 0, slots := 0, locals := 190 } : Room)) (fun a U => a = #[(.ref a1), (.int p2), (.double y3)] ∧ Z.Warmed39 U.vm ∧ U.heap = h0) (fun _ _ _ _ _ => True) (fun _ U o U' => ∃ v L, o = .returned v ∧ own_QO Z a1 (3 : Int32) (2 : Int32) h0 n0 v U'.heap L ∧ FrameEnd U o U' L ({ frames := 7, cells := 0, slots := 0, locals := 190 } : Room).cells ({ frames := 7, cells := 0, slots := 0, locals := 190 } : Room).slots) := by
  obtain ⟨hp, da, sa, D, S0, E_a1, F_c, F_b, F_a, F_t, E_hp, F_d, F_s, F_z, V_da, V_sa, nbh, nbd, nbs, nhd, nhs, nds, g_hp, g_da, g_sa⟩ := BB
  refine Jvm.Free.MetFree.imp (rm8_3_1_0 l Z a0 hw ws a1 p2 y3 hp da sa D S0 h0 n0 Z0 E_a1 F_c F_b F_a F_t E_hp F_d F_s F_z V_da V_sa nbh nbd nbs nhd nhs nds g_hp g_da g_sa nn_y3) ?_
  rintro a s o s' ⟨v, L, ho, ⟨r1, r2, K, Gd, Gs, Gz, ⟨D', VD⟩, ⟨S', VS⟩⟩, hf⟩
  exact ⟨v, L, ho, ⟨r1, r2, ⟨hp, da, sa, K⟩, E_a1.keep K, hp, da, sa, D', S', E_a1.keep K, F_c.keep K (by simp [nbh, nbd, nbs]), F_b.keep K (by simp [nbh, nbd, nbs]), F_a.keep K (by simp [nbh, nbd, nbs]), F_t.keep K (by simp [nbh, nbd, nbs]), E_hp.keep K, Gd, Gs, Gz, VD, VS, nbh, nbd, nbs, nhd, nhs, nds, g_hp, g_da, g_sa⟩, hf⟩
theorem rmO_3_2 (l : Launch) (Z : State) (a0 : Array Value) (hw : ∀ d ∈ tables_1, d.before a0 Z = true) (ws : List Jvm.Cond) (a1 : Addr) (p2 : Int32) (y3 : UInt64) (h0 : Heap) (n0 : Nat) (Z0 : n0 ≤ h0.size) (BB : own_B Z h0 n0 a1 (3 : Int32) (2 : Int32)) (nn_y3 : Jvm.Free.Fl.NoNaN64 y3) :
    MetFree l (⟨sB, "offer", "(ID)V"⟩ : MethodName) (head1 (Jvm.Cond.code (⟨sB, "offer", "(ID)V"⟩ : MethodName) prog_186_method_6_code 7 none :: ws) ({ frames := 7, cells := 0, slots := 0, locals := 190 } : Room)) (fun a U => a = #[(.ref a1), (.int p2), (.double y3)] ∧ Z.Warmed39 U.vm ∧ U.heap = h0) (fun _ _ _ _ _ => True) (fun _ U o U' => ∃ v L, o = .returned v ∧ own_QO Z a1 (3 : Int32) (3 : Int32) h0 n0 v U'.heap L ∧ FrameEnd U o U' L ({ frames := 7, cells := 0, slots := 0, locals := 190 } : Room).cells ({ frames := 7, cells := 0, slots := 0, locals := 190 } : Room).slots) := by
  obtain ⟨hp, da, sa, D, S0, E_a1, F_c, F_b, F_a, F_t, E_hp, F_d, F_s, F_z, V_da, V_sa, nbh, nbd, nbs, nhd, nhs, nds, g_hp, g_da, g_sa⟩ := BB
  refine Jvm.Free.MetFree.imp (rm8_3_2_0 l Z a0 hw ws a1 p2 y3 hp da sa D S0 h0 n0 Z0 E_a1 F_c F_b F_a F_t E_hp F_d F_s F_z V_da V_sa nbh nbd nbs nhd nhs nds g_hp g_da g_sa nn_y3) ?_
  rintro a s o s' ⟨v, L, ho, ⟨r1, r2, K, Gd, Gs, Gz, ⟨D', VD⟩, ⟨S', VS⟩⟩, hf⟩
  exact ⟨v, L, ho, ⟨r1, r2, ⟨hp, da, sa, K⟩, E_a1.keep K, hp, da, sa, D', S', E_a1.keep K, F_c.keep K (by simp [nbh, nbd, nbs]), F_b.keep K (by simp [nbh, nbd, nbs]), F_a.keep K (by simp [nbh, nbd, nbs]), F_t.keep K (by simp [nbh, nbd, nbs]), E_hp.keep K, Gd, Gs, Gz, VD, VS, nbh, nbd, nbs, nhd, nhs, nds, g_hp, g_da, g_sa⟩, hf⟩
theorem rmO_3_3 (l : Launch) (Z : State) (a0 : Array Value) (hw : ∀ d ∈ tables_1, d.before a0 Z = true) (ws : List Jvm.Cond) (a1 : Addr) (p2 : Int32) (y3 : UInt64) (h0 : Heap) (n0 : Nat) (Z0 : n0 ≤ h0.size) (BB : own_B Z h0 n0 a1 (3 : Int32) (3 : Int32)) (nn_y3 : Jvm.Free.Fl.NoNaN64 y3) :
    MetFree l (⟨sB, "offer", "(ID)V"⟩ : MethodName) (head1 (Jvm.Cond.code (⟨sB, "offer", "(ID)V"⟩ : MethodName) prog_186_method_6_code 7 none :: ws) ({ frames := 7, cells := 0, slots := 0, locals := 190 } : Room)) (fun a U => a = #[(.ref a1), (.int p2), (.double y3)] ∧ Z.Warmed39 U.vm ∧ U.heap = h0) (fun _ _ _ _ _ => True) (fun _ U o U' => ∃ v L, o = .returned v ∧ own_QO Z a1 (3 : Int32) (3 : Int32) h0 n0 v U'.heap L ∧ FrameEnd U o U' L ({ frames := 7, cells := 0, slots := 0, locals := 190 } : Room).cells ({ frames := 7, cells := 0, slots := 0, locals := 190 } : Room).slots) := by
  obtain ⟨hp, da, sa, D, S0, E_a1, F_c, F_b, F_a, F_t, E_hp, F_d, F_s, F_z, V_da, V_sa, nbh, nbd, nbs, nhd, nhs, nds, g_hp, g_da, g_sa⟩ := BB
  refine Jvm.Free.MetFree.imp (rm8_3_3 l Z a0 hw ws a1 p2 y3 hp da sa D S0 h0 n0 Z0 E_a1 F_c F_b F_a F_t E_hp F_d F_s F_z V_da V_sa nbh nbd nbs nhd nhs nds g_hp g_da g_sa nn_y3 (own_nw0 V_sa (by decide))) ?_
  rintro a s o s' ⟨v, L, ho, ⟨r1, r2, K, Gd, Gs, Gz, ⟨D', VD⟩, ⟨S', VS⟩⟩, hf⟩
  exact ⟨v, L, ho, ⟨r1, r2, ⟨hp, da, sa, K⟩, E_a1.keep K, hp, da, sa, D', S', E_a1.keep K, F_c.keep K (by simp [nbh, nbd, nbs]), F_b.keep K (by simp [nbh, nbd, nbs]), F_a.keep K (by simp [nbh, nbd, nbs]), F_t.keep K (by simp [nbh, nbd, nbs]), E_hp.keep K, Gd, Gs, Gz, VD, VS, nbh, nbd, nbs, nhd, nhs, nds, g_hp, g_da, g_sa⟩, hf⟩
theorem rm8 (l : Launch) (Z : State) (a0 : Array Value) (hw : ∀ d ∈ tables_1, d.before a0 Z = true) (ws : List Jvm.Cond) (a1 : Addr) (p2 : Int32) (y3 : UInt64) (c i j : Int32) (h0 : Heap) (n0 : Nat) (Z0 : n0 ≤ h0.size) (hc : own_c4 c) (hi : own_c4 i) (hj : j = i + 1) (BB : own_B Z h0 n0 a1 c (own_sz c i)) (nn_y3 : Jvm.Free.Fl.NoNaN64 y3) :
    MetFree l (⟨sB, "offer", "(ID)V"⟩ : MethodName) (head1 (Jvm.Cond.code (⟨sB, "offer", "(ID)V"⟩ : MethodName) prog_186_method_6_code 7 none :: ws) ({ frames := 7, cells := 0, slots := 0, locals := 190 } : Room)) (fun a U => a = #[(.ref a1), (.int p2), (.double y3)] ∧ Z.Warmed39 U.vm ∧ U.heap = h0) (fun _ _ _ _ _ => True) (fun _ U o U' => ∃ v L, o = .returned v ∧ own_QO Z a1 c (own_sz c j) h0 n0 v U'.heap L ∧ FrameEnd U o U' L ({ frames := 7, cells := 0, slots := 0, locals := 190 } : Room).cells ({ frames := 7, cells := 0, slots := 0, locals := 190 } : Room).slots) := by
  subst hj
  rcases hc with rfl | rfl | rfl | rfl <;> rcases hi with rfl | rfl | rfl | rfl
  · have e1 : own_sz (0 : Int32) (0 : Int32) = (0 : Int32) := by decide
    have e2 : own_sz (0 : Int32) ((0 : Int32) + 1) = (0 : Int32) := by decide
    rw [e1] at BB
    rw [e2]
    exact rmO_0_0 l Z a0 hw ws a1 p2 y3 h0 n0 Z0 BB nn_y3
  · have e1 : own_sz (0 : Int32) (1 : Int32) = (0 : Int32) := by decide
    have e2 : own_sz (0 : Int32) ((1 : Int32) + 1) = (0 : Int32) := by decide
    rw [e1] at BB
    rw [e2]
    exact rmO_0_0 l Z a0 hw ws a1 p2 y3 h0 n0 Z0 BB nn_y3
  · have e1 : own_sz (0 : Int32) (2 : Int32) = (0 : Int32) := by decide
    have e2 : own_sz (0 : Int32) ((2 : Int32) + 1) = (0 : Int32) := by decide
    rw [e1] at BB
    rw [e2]
    exact rmO_0_0 l Z a0 hw ws a1 p2 y3 h0 n0 Z0 BB nn_y3
  · have e1 : own_sz (0 : Int32) (3 : Int32) = (0 : Int32) := by decide
    have e2 : own_sz (0 : Int32) ((3 : Int32) + 1) = (0 : Int32) := by decide
    rw [e1] at BB
    rw [e2]
    exact rmO_0_0 l Z a0 hw ws a1 p2 y3 h0 n0 Z0 BB nn_y3
  · have e1 : own_sz (1 : Int32) (0 : Int32) = (0 : Int32) := by decide
    have e2 : own_sz (1 : Int32) ((0 : Int32) + 1) = (1 : Int32) := by decide
    rw [e1] at BB
    rw [e2]
    exact rmO_1_0 l Z a0 hw ws a1 p2 y3 h0 n0 Z0 BB nn_y3
  · have e1 : own_sz (1 : Int32) (1 : Int32) = (1 : Int32) := by decide
    have e2 : own_sz (1 : Int32) ((1 : Int32) + 1) = (1 : Int32) := by decide
    rw [e1] at BB
    rw [e2]
    exact rmO_1_1 l Z a0 hw ws a1 p2 y3 h0 n0 Z0 BB nn_y3
  · have e1 : own_sz (1 : Int32) (2 : Int32) = (1 : Int32) := by decide
    have e2 : own_sz (1 : Int32) ((2 : Int32) + 1) = (1 : Int32) := by decide
    rw [e1] at BB
    rw [e2]
    exact rmO_1_1 l Z a0 hw ws a1 p2 y3 h0 n0 Z0 BB nn_y3
  · have e1 : own_sz (1 : Int32) (3 : Int32) = (1 : Int32) := by decide
    have e2 : own_sz (1 : Int32) ((3 : Int32) + 1) = (1 : Int32) := by decide
    rw [e1] at BB
    rw [e2]
    exact rmO_1_1 l Z a0 hw ws a1 p2 y3 h0 n0 Z0 BB nn_y3
  · have e1 : own_sz (2 : Int32) (0 : Int32) = (0 : Int32) := by decide
    have e2 : own_sz (2 : Int32) ((0 : Int32) + 1) = (1 : Int32) := by decide
    rw [e1] at BB
    rw [e2]
    exact rmO_2_0 l Z a0 hw ws a1 p2 y3 h0 n0 Z0 BB nn_y3
  · have e1 : own_sz (2 : Int32) (1 : Int32) = (1 : Int32) := by decide
    have e2 : own_sz (2 : Int32) ((1 : Int32) + 1) = (2 : Int32) := by decide
    rw [e1] at BB
    rw [e2]
    exact rmO_2_1 l Z a0 hw ws a1 p2 y3 h0 n0 Z0 BB nn_y3
  · have e1 : own_sz (2 : Int32) (2 : Int32) = (2 : Int32) := by decide
    have e2 : own_sz (2 : Int32) ((2 : Int32) + 1) = (2 : Int32) := by decide
    rw [e1] at BB
    rw [e2]
    exact rmO_2_2 l Z a0 hw ws a1 p2 y3 h0 n0 Z0 BB nn_y3
  · have e1 : own_sz (2 : Int32) (3 : Int32) = (2 : Int32) := by decide
    have e2 : own_sz (2 : Int32) ((3 : Int32) + 1) = (2 : Int32) := by decide
    rw [e1] at BB
    rw [e2]
    exact rmO_2_2 l Z a0 hw ws a1 p2 y3 h0 n0 Z0 BB nn_y3
  · have e1 : own_sz (3 : Int32) (0 : Int32) = (0 : Int32) := by decide
    have e2 : own_sz (3 : Int32) ((0 : Int32) + 1) = (1 : Int32) := by decide
    rw [e1] at BB
    rw [e2]
    exact rmO_3_0 l Z a0 hw ws a1 p2 y3 h0 n0 Z0 BB nn_y3
  · have e1 : own_sz (3 : Int32) (1 : Int32) = (1 : Int32) := by decide
    have e2 : own_sz (3 : Int32) ((1 : Int32) + 1) = (2 : Int32) := by decide
    rw [e1] at BB
    rw [e2]
    exact rmO_3_1 l Z a0 hw ws a1 p2 y3 h0 n0 Z0 BB nn_y3
  · have e1 : own_sz (3 : Int32) (2 : Int32) = (2 : Int32) := by decide
    have e2 : own_sz (3 : Int32) ((2 : Int32) + 1) = (3 : Int32) := by decide
    rw [e1] at BB
    rw [e2]
    exact rmO_3_2 l Z a0 hw ws a1 p2 y3 h0 n0 Z0 BB nn_y3
  · have e1 : own_sz (3 : Int32) (3 : Int32) = (3 : Int32) := by decide
    have e2 : own_sz (3 : Int32) ((3 : Int32) + 1) = (3 : Int32) := by decide
    rw [e1] at BB
    rw [e2]
    exact rmO_3_3 l Z a0 hw ws a1 p2 y3 h0 n0 Z0 BB nn_y3
theorem d7_0 : decode method_3_code 0 = .ok (.iload_n 0, 1) := by decide +kernel
theorem d7_1 : decode method_3_code 1 = .ok (.sipush 255, 3) := by decide +kernel
theorem d7_4 : decode method_3_code 4 = .ok (.iand, 1) := by decide +kernel
theorem d7_5 : decode method_3_code 5 = .ok (.sipush 128, 3) := by decide +kernel
theorem d7_8 : decode method_3_code 8 = .ok (.isub, 1) := by decide +kernel
theorem d7_9 : decode method_3_code 9 = .ok (.i2d, 1) := by decide +kernel
theorem d7_10 : decode method_3_code 10 = .ok (.dreturn, 1) := by decide +kernel
theorem pn_7 : plainName "com/example/calpurnia/calpurnia/ranking/BestDocumentsFullPinLaw" = true := by first | (simp [plainName, overriddenIn]; done) | decide +kernel
theorem ef_7 (m : MethodId) (x0 : Int32) : entryFrame m #[(.int x0)] 1 = mkF m 0 #[.val (.int x0)] [] := by first | (simp [entryFrame, mkF, argsToLocals, Value.category]; done) | rfl
def Q7 (Z : State) (p1 : Int32) (h0 : Heap) (n0 : Nat) (v : Option Value) (h : Heap) (L : List Loc) : Prop := v = some (.double (FP.i2d ((p1 &&& (255 : Int32)) - (128 : Int32)))) ∧ Fr n0 L ∧ h = h0
set_option maxRecDepth 65536 in
set_option maxHeartbeats 40000000 in
theorem rm7 (l : Launch) (Z : State) (a0 : Array Value) (hw : ∀ d ∈ tables_1, d.before a0 Z = true) (ws : List Jvm.Cond) (p1 : Int32) (h0 : Heap) (n0 : Nat) (Z0 : n0 ≤ h0.size) :
    MetFree l (⟨"com/example/calpurnia/calpurnia/ranking/BestDocumentsFullPinLaw", "score", "(I)D"⟩ : MethodName) (head1 (Jvm.Cond.code (⟨"com/example/calpurnia/calpurnia/ranking/BestDocumentsFullPinLaw", "score", "(I)D"⟩ : MethodName) method_3_code 1 (some .double) :: ws) ({ frames := 0, cells := 0, slots := 0, locals := 0 } : Room)) (fun a U => a = #[(.int p1)] ∧ Z.Warmed39 U.vm ∧ U.heap = h0) (fun _ _ _ _ _ => True) (fun _ U o U' => ∃ v L, o = .returned v ∧ Q7 Z p1 h0 n0 v U'.heap L ∧ FrameEnd U o U' L ({ frames := 0, cells := 0, slots := 0, locals := 0 } : Room).cells ({ frames := 0, cells := 0, slots := 0, locals := 0 } : Room).slots) := by
  refine MetFree.of_bodySF (plainFor_of_name pn_7) hisR ?_
  intro p e s m args below meth c s₁ Bd hml0 hP hK
  obtain ⟨rfl, hZ, hh⟩ := hP
  have hx := Bd.exec
  have hby := Bd.bytes
  have hml : c.maxLocals = 1 := hml0
  have hown : s.vm.findClass "com/example/calpurnia/calpurnia/ranking/BestDocumentsFullPinLaw" = some m.cls := findClass_of_methodNamed Bd.named
  have hnm := (name_of_methodNamed Bd.named Bd.method).1
  have X0 : Stand p l e ({ frames := 0, cells := 0, slots := 0, locals := 0 } : Room) s m #[(.int p1)] below meth c s₁ [] 0 0 := Stand.of_body Bd
  have e0 : s₁.heap = h0 := by rw [← hh, Bd.state]; rfl
  have N0 := Fr.nil n0
  have pre0 : ∀ t, Steps p.tables e below (s₁.setTop (mkF m 0 #[.val (.int p1)] [])) t → Steps p.tables e below (s₁.setTop (entryFrame m #[(.int p1)] 1)) t := fun t k => castTop (ef_7 m p1) k


  obtain ⟨fs, hr, hrun, hended, hW, hsame⟩ := X0.leave (v := some (.double (FP.i2d ((p1 &&& (255 : Int32)) - (128 : Int32))))) (fun h => by rw [Bd.returns] at h; cases h)
  refine ⟨_, _, pre0 _ ?_, hrun, hended, _, _, rfl, ?_, ⟨_, rfl⟩, hW, hsame.mono (by decide) (by decide)⟩
  · show Steps _ _ _ (s₁.setTop (mkF m 0 #[.val (.int p1)] [])) _
    refine XS.iloadN X0.here hx rfl (hb hby d7_0) rfl ?_
    refine XS.sipush X0.here hx rfl (hb hby d7_1) ?_
    refine XS.iand X0.here hx rfl (hb hby d7_4) rfl ?_
    refine XS.sipush X0.here hx rfl (hb hby d7_5) ?_
    refine XS.isub X0.here hx rfl (hb hby d7_8) rfl ?_
    refine XS.i2dS X0.here hx rfl (hb hby d7_9) rfl rfl ?_
    exact own_retD X0 hx Bd.returns (hb hby d7_10) hr
  · show Q7 Z p1 h0 n0 _ s₁.heap _
    rw [e0]
    exact ⟨rfl, N0, rfl⟩
theorem own_os {s0 s1 s2 s3 s4 s5 s6 s8 s9 s10 s11 : Slot} {k v : Int32} (h : One s11) : storeLocals #[s0, s1, s2, s3, s4, s5, s6, .val (.int k), s8, s9, s10, s11] 11 (.int v) = some #[s0, s1, s2, s3, s4, s5, s6, .val (.int k), s8, s9, s10, .val (.int v)] := by
  rcases h with rfl | ⟨w, rfl, hw⟩
  · rfl
  · cases w <;> first | rfl | (simp [Value.category] at hw)
theorem own_z0 {k : Int32} (hk : own_c4 k) (q : ¬ (0 : Int32) < k) : k = 0 := by
  rcases hk with rfl | rfl | rfl | rfl
  · rfl
  all_goals exact absurd (by decide) q
theorem own_j35 {p : Program} {l : Launch} {e : Env} {R : Room} {s : State} {m : MethodId} {args : Array Value} {below : List Frame} {meth : Method} {c : Code} {T0 : State} {locs : List Loc} {cells slots : Nat} {Z : State} {a0 : Array Value} {h0 : Heap} (s0 s1 s2 s3 s4 s5 s6 : Slot) (k : Int32) (s8 s9 s10 s11 : Slot) (f : Int32) (h11 : One s11) (hk : own_c4 k) (hf : f = own_g k (0 : Int32)) (X0 : Stand p l e R s m args below meth c T0 locs cells slots) (hx : p.tables.exec = Jvm.exec) (hZ : Z.Warmed39 s.vm) (hw : ∀ d ∈ tables_1, d.before a0 Z = true) (hby : c.code = code) (hml : c.maxLocals = 12) (hown : s.vm.findClass "com/example/calpurnia/calpurnia/ranking/BestDocumentsFullPinLaw" = some m.cls) (e0 : T0.heap = h0) :
    ∃ (T' : State), Stand p l e R s m args below meth c T' locs cells slots ∧ T'.heap = h0 ∧ ∀ target, Steps p.tables e below (T'.setTop (mkF m 55 #[s0, s1, s2, s3, s4, s5, s6, .val (.int k), s8, s9, s10, .val (.int (1 : Int32))] [])) target → Steps p.tables e below (T0.setTop (mkF m 35 #[s0, s1, s2, s3, s4, s5, s6, .val (.int k), s8, s9, s10, s11] [.int f])) target := by
  refine ⟨T0, X0, e0, fun target kt => ?_⟩
  by_cases q : (0 : Int32) < k
  · have f0 : f = 0 := by rw [hf]; exact if_pos q
    subst f0
    refine XS.iload X0.here hx rfl (hb hby at_35) rfl ?_
    refine XS.ifYes X0.here hx rfl (pc0 := 37) (pc' := 44) rfl (hb hby at_37) rfl ((if0 _ _).trans (feq (fun z => by subst z; exact absurd q (by decide))).2) (by decide) (by decide) ?_
    refine XS.iconst X0.here hx rfl (hb hby at_44) ?_
    refine XS.icmpNo X0.here hx rfl (hb hby at_45) rfl (teq (rfl : (0 : Int32) = 0)).2 ?_
    refine XS.iconst X0.here hx rfl (hb hby at_48) ?_
    refine XS.goto X0.here hx rfl (pc0 := 49) (pc' := 53) rfl (hb hby at_49) (by decide) (by decide) ?_
    refine XS.istore X0.here hx rfl (hb hby at_53) rfl (l' := #[s0, s1, s2, s3, s4, s5, s6, .val (.int k), s8, s9, s10, .val (.int (1 : Int32))]) (own_os h11) ?_
    exact kt
  · have f1 : f = 1 := by rw [hf]; exact if_neg q
    subst f1
    refine XS.iload X0.here hx rfl (hb hby at_35) rfl ?_
    refine XS.ifNo X0.here hx rfl (hb hby at_37) rfl ((if0 _ _).trans (teq (own_z0 hk q)).2) ?_
    refine XS.iconst X0.here hx rfl (hb hby at_40) ?_
    refine XS.goto X0.here hx rfl (pc0 := 41) (pc' := 45) rfl (hb hby at_41) (by decide) (by decide) ?_
    refine XS.icmpNo X0.here hx rfl (hb hby at_45) rfl (teq (rfl : (1 : Int32) = 1)).2 ?_
    refine XS.iconst X0.here hx rfl (hb hby at_48) ?_
    refine XS.goto X0.here hx rfl (pc0 := 49) (pc' := 53) rfl (hb hby at_49) (by decide) (by decide) ?_
    refine XS.istore X0.here hx rfl (hb hby at_53) rfl (l' := #[s0, s1, s2, s3, s4, s5, s6, .val (.int k), s8, s9, s10, .val (.int (1 : Int32))]) (own_os h11) ?_
    exact kt
theorem own_j81 {p : Program} {l : Launch} {e : Env} {R : Room} {s : State} {m : MethodId} {args : Array Value} {below : List Frame} {meth : Method} {c : Code} {T0 : State} {locs : List Loc} {cells slots : Nat} {Z : State} {a0 : Array Value} {h0 : Heap} (s0 s1 s2 s3 s4 s5 s6 : Slot) (k : Int32) (s8 s9 s10 s11 : Slot) (f : Int32) (h11 : One s11) (hk : own_c4 k) (hf : f = own_g k (1 : Int32)) (X0 : Stand p l e R s m args below meth c T0 locs cells slots) (hx : p.tables.exec = Jvm.exec) (hZ : Z.Warmed39 s.vm) (hw : ∀ d ∈ tables_1, d.before a0 Z = true) (hby : c.code = code) (hml : c.maxLocals = 12) (hown : s.vm.findClass "com/example/calpurnia/calpurnia/ranking/BestDocumentsFullPinLaw" = some m.cls) (e0 : T0.heap = h0) :
    ∃ (T' : State), Stand p l e R s m args below meth c T' locs cells slots ∧ T'.heap = h0 ∧ ∀ target, Steps p.tables e below (T'.setTop (mkF m 102 #[s0, s1, s2, s3, s4, s5, s6, .val (.int k), s8, s9, s10, .val (.int (1 : Int32))] [])) target → Steps p.tables e below (T0.setTop (mkF m 81 #[s0, s1, s2, s3, s4, s5, s6, .val (.int k), s8, s9, s10, s11] [.int f])) target := by
  refine ⟨T0, X0, e0, fun target kt => ?_⟩
  by_cases q : (1 : Int32) < k
  · have f0 : f = 0 := by rw [hf]; exact if_pos q
    subst f0
    refine XS.iconst X0.here hx rfl (hb hby at_81) ?_
    refine XS.iload X0.here hx rfl (hb hby at_82) rfl ?_
    refine XS.icmpYes X0.here hx rfl (pc0 := 84) (pc' := 91) rfl (hb hby at_84) rfl (tlt q).1 (by decide) (by decide) ?_
    refine XS.iconst X0.here hx rfl (hb hby at_91) ?_
    refine XS.icmpNo X0.here hx rfl (hb hby at_92) rfl (teq (rfl : (0 : Int32) = 0)).2 ?_
    refine XS.iconst X0.here hx rfl (hb hby at_95) ?_
    refine XS.goto X0.here hx rfl (pc0 := 96) (pc' := 100) rfl (hb hby at_96) (by decide) (by decide) ?_
    refine XS.istore X0.here hx rfl (hb hby at_100) rfl (l' := #[s0, s1, s2, s3, s4, s5, s6, .val (.int k), s8, s9, s10, .val (.int (1 : Int32))]) (own_os h11) ?_
    exact kt
  · have f1 : f = 1 := by rw [hf]; exact if_neg q
    subst f1
    refine XS.iconst X0.here hx rfl (hb hby at_81) ?_
    refine XS.iload X0.here hx rfl (hb hby at_82) rfl ?_
    refine XS.icmpNo X0.here hx rfl (hb hby at_84) rfl (flt q).1 ?_
    refine XS.iconst X0.here hx rfl (hb hby at_87) ?_
    refine XS.goto X0.here hx rfl (pc0 := 88) (pc' := 92) rfl (hb hby at_88) (by decide) (by decide) ?_
    refine XS.icmpNo X0.here hx rfl (hb hby at_92) rfl (teq (rfl : (1 : Int32) = 1)).2 ?_
    refine XS.iconst X0.here hx rfl (hb hby at_95) ?_
    refine XS.goto X0.here hx rfl (pc0 := 96) (pc' := 100) rfl (hb hby at_96) (by decide) (by decide) ?_
    refine XS.istore X0.here hx rfl (hb hby at_100) rfl (l' := #[s0, s1, s2, s3, s4, s5, s6, .val (.int k), s8, s9, s10, .val (.int (1 : Int32))]) (own_os h11) ?_
    exact kt
theorem own_j132 {p : Program} {l : Launch} {e : Env} {R : Room} {s : State} {m : MethodId} {args : Array Value} {below : List Frame} {meth : Method} {c : Code} {T0 : State} {locs : List Loc} {cells slots : Nat} {Z : State} {a0 : Array Value} {h0 : Heap} (s0 s1 s2 s3 s4 s5 s6 : Slot) (k : Int32) (s8 s9 s10 s11 : Slot) (f : Int32) (h11 : One s11) (hk : own_c4 k) (hf : f = own_g k (2 : Int32)) (X0 : Stand p l e R s m args below meth c T0 locs cells slots) (hx : p.tables.exec = Jvm.exec) (hZ : Z.Warmed39 s.vm) (hw : ∀ d ∈ tables_1, d.before a0 Z = true) (hby : c.code = code) (hml : c.maxLocals = 12) (hown : s.vm.findClass "com/example/calpurnia/calpurnia/ranking/BestDocumentsFullPinLaw" = some m.cls) (e0 : T0.heap = h0) :
    ∃ (T' : State), Stand p l e R s m args below meth c T' locs cells slots ∧ T'.heap = h0 ∧ ∀ target, Steps p.tables e below (T'.setTop (mkF m 153 #[s0, s1, s2, s3, s4, s5, s6, .val (.int k), s8, s9, s10, .val (.int (1 : Int32))] [])) target → Steps p.tables e below (T0.setTop (mkF m 132 #[s0, s1, s2, s3, s4, s5, s6, .val (.int k), s8, s9, s10, s11] [.int f])) target := by
  refine ⟨T0, X0, e0, fun target kt => ?_⟩
  by_cases q : (2 : Int32) < k
  · have f0 : f = 0 := by rw [hf]; exact if_pos q
    subst f0
    refine XS.iconst X0.here hx rfl (hb hby at_132) ?_
    refine XS.iload X0.here hx rfl (hb hby at_133) rfl ?_
    refine XS.icmpYes X0.here hx rfl (pc0 := 135) (pc' := 142) rfl (hb hby at_135) rfl (tlt q).1 (by decide) (by decide) ?_
    refine XS.iconst X0.here hx rfl (hb hby at_142) ?_
    refine XS.icmpNo X0.here hx rfl (hb hby at_143) rfl (teq (rfl : (0 : Int32) = 0)).2 ?_
    refine XS.iconst X0.here hx rfl (hb hby at_146) ?_
    refine XS.goto X0.here hx rfl (pc0 := 147) (pc' := 151) rfl (hb hby at_147) (by decide) (by decide) ?_
    refine XS.istore X0.here hx rfl (hb hby at_151) rfl (l' := #[s0, s1, s2, s3, s4, s5, s6, .val (.int k), s8, s9, s10, .val (.int (1 : Int32))]) (own_os h11) ?_
    exact kt
  · have f1 : f = 1 := by rw [hf]; exact if_neg q
    subst f1
    refine XS.iconst X0.here hx rfl (hb hby at_132) ?_
    refine XS.iload X0.here hx rfl (hb hby at_133) rfl ?_
    refine XS.icmpNo X0.here hx rfl (hb hby at_135) rfl (flt q).1 ?_
    refine XS.iconst X0.here hx rfl (hb hby at_138) ?_
    refine XS.goto X0.here hx rfl (pc0 := 139) (pc' := 143) rfl (hb hby at_139) (by decide) (by decide) ?_
    refine XS.icmpNo X0.here hx rfl (hb hby at_143) rfl (teq (rfl : (1 : Int32) = 1)).2 ?_
    refine XS.iconst X0.here hx rfl (hb hby at_146) ?_
    refine XS.goto X0.here hx rfl (pc0 := 147) (pc' := 151) rfl (hb hby at_147) (by decide) (by decide) ?_
    refine XS.istore X0.here hx rfl (hb hby at_151) rfl (l' := #[s0, s1, s2, s3, s4, s5, s6, .val (.int k), s8, s9, s10, .val (.int (1 : Int32))]) (own_os h11) ?_
    exact kt
theorem own_j184 {p : Program} {l : Launch} {e : Env} {R : Room} {s : State} {m : MethodId} {args : Array Value} {below : List Frame} {meth : Method} {c : Code} {T0 : State} {locs : List Loc} {cells slots : Nat} {Z : State} {a0 : Array Value} {h0 : Heap} (s0 s1 s2 s3 s4 s5 s6 : Slot) (k : Int32) (s8 s9 s10 s11 : Slot) (f : Int32) (h11 : One s11) (hk : own_c4 k) (hf : f = own_g k (3 : Int32)) (X0 : Stand p l e R s m args below meth c T0 locs cells slots) (hx : p.tables.exec = Jvm.exec) (hZ : Z.Warmed39 s.vm) (hw : ∀ d ∈ tables_1, d.before a0 Z = true) (hby : c.code = code) (hml : c.maxLocals = 12) (hown : s.vm.findClass "com/example/calpurnia/calpurnia/ranking/BestDocumentsFullPinLaw" = some m.cls) (e0 : T0.heap = h0) :
    ∃ (T' : State), Stand p l e R s m args below meth c T' locs cells slots ∧ T'.heap = h0 ∧ ∀ target, Steps p.tables e below (T'.setTop (mkF m 205 #[s0, s1, s2, s3, s4, s5, s6, .val (.int k), s8, s9, s10, .val (.int (1 : Int32))] [])) target → Steps p.tables e below (T0.setTop (mkF m 184 #[s0, s1, s2, s3, s4, s5, s6, .val (.int k), s8, s9, s10, s11] [.int f])) target := by
  refine ⟨T0, X0, e0, fun target kt => ?_⟩
  by_cases q : (3 : Int32) < k
  · have f0 : f = 0 := by rw [hf]; exact if_pos q
    subst f0
    refine XS.iconst X0.here hx rfl (hb hby at_184) ?_
    refine XS.iload X0.here hx rfl (hb hby at_185) rfl ?_
    refine XS.icmpYes X0.here hx rfl (pc0 := 187) (pc' := 194) rfl (hb hby at_187) rfl (tlt q).1 (by decide) (by decide) ?_
    refine XS.iconst X0.here hx rfl (hb hby at_194) ?_
    refine XS.icmpNo X0.here hx rfl (hb hby at_195) rfl (teq (rfl : (0 : Int32) = 0)).2 ?_
    refine XS.iconst X0.here hx rfl (hb hby at_198) ?_
    refine XS.goto X0.here hx rfl (pc0 := 199) (pc' := 203) rfl (hb hby at_199) (by decide) (by decide) ?_
    refine XS.istore X0.here hx rfl (hb hby at_203) rfl (l' := #[s0, s1, s2, s3, s4, s5, s6, .val (.int k), s8, s9, s10, .val (.int (1 : Int32))]) (own_os h11) ?_
    exact kt
  · have f1 : f = 1 := by rw [hf]; exact if_neg q
    subst f1
    refine XS.iconst X0.here hx rfl (hb hby at_184) ?_
    refine XS.iload X0.here hx rfl (hb hby at_185) rfl ?_
    refine XS.icmpNo X0.here hx rfl (hb hby at_187) rfl (flt q).1 ?_
    refine XS.iconst X0.here hx rfl (hb hby at_190) ?_
    refine XS.goto X0.here hx rfl (pc0 := 191) (pc' := 195) rfl (hb hby at_191) (by decide) (by decide) ?_
    refine XS.icmpNo X0.here hx rfl (hb hby at_195) rfl (teq (rfl : (1 : Int32) = 1)).2 ?_
    refine XS.iconst X0.here hx rfl (hb hby at_198) ?_
    refine XS.goto X0.here hx rfl (pc0 := 199) (pc' := 203) rfl (hb hby at_199) (by decide) (by decide) ?_
    refine XS.istore X0.here hx rfl (hb hby at_203) rfl (l' := #[s0, s1, s2, s3, s4, s5, s6, .val (.int k), s8, s9, s10, .val (.int (1 : Int32))]) (own_os h11) ?_
    exact kt
theorem own_j239 {p : Program} {l : Launch} {e : Env} {R : Room} {s : State} {m : MethodId} {args : Array Value} {below : List Frame} {meth : Method} {c : Code} {T0 : State} {locs : List Loc} {cells slots : Nat} {Z : State} {a0 : Array Value} {h0 : Heap} (s0 s1 s2 s3 s4 s5 s6 : Slot) (k : Int32) (s8 s9 s10 s11 : Slot) (f : Int32) (h11 : One s11) (hk : own_c4 k) (hf : f = own_g k (4 : Int32)) (X0 : Stand p l e R s m args below meth c T0 locs cells slots) (hx : p.tables.exec = Jvm.exec) (hZ : Z.Warmed39 s.vm) (hw : ∀ d ∈ tables_1, d.before a0 Z = true) (hby : c.code = code) (hml : c.maxLocals = 12) (hown : s.vm.findClass "com/example/calpurnia/calpurnia/ranking/BestDocumentsFullPinLaw" = some m.cls) (e0 : T0.heap = h0) :
    ∃ (T' : State), Stand p l e R s m args below meth c T' locs cells slots ∧ T'.heap = h0 ∧ ∀ target, Steps p.tables e below (T'.setTop (mkF m 260 #[s0, s1, s2, s3, s4, s5, s6, .val (.int k), s8, s9, s10, .val (.int (1 : Int32))] [])) target → Steps p.tables e below (T0.setTop (mkF m 239 #[s0, s1, s2, s3, s4, s5, s6, .val (.int k), s8, s9, s10, s11] [.int f])) target := by
  refine ⟨T0, X0, e0, fun target kt => ?_⟩
  by_cases q : (4 : Int32) < k
  · have f0 : f = 0 := by rw [hf]; exact if_pos q
    subst f0
    refine XS.iconst X0.here hx rfl (hb hby at_239) ?_
    refine XS.iload X0.here hx rfl (hb hby at_240) rfl ?_
    refine XS.icmpYes X0.here hx rfl (pc0 := 242) (pc' := 249) rfl (hb hby at_242) rfl (tlt q).1 (by decide) (by decide) ?_
    refine XS.iconst X0.here hx rfl (hb hby at_249) ?_
    refine XS.icmpNo X0.here hx rfl (hb hby at_250) rfl (teq (rfl : (0 : Int32) = 0)).2 ?_
    refine XS.iconst X0.here hx rfl (hb hby at_253) ?_
    refine XS.goto X0.here hx rfl (pc0 := 254) (pc' := 258) rfl (hb hby at_254) (by decide) (by decide) ?_
    refine XS.istore X0.here hx rfl (hb hby at_258) rfl (l' := #[s0, s1, s2, s3, s4, s5, s6, .val (.int k), s8, s9, s10, .val (.int (1 : Int32))]) (own_os h11) ?_
    exact kt
  · have f1 : f = 1 := by rw [hf]; exact if_neg q
    subst f1
    refine XS.iconst X0.here hx rfl (hb hby at_239) ?_
    refine XS.iload X0.here hx rfl (hb hby at_240) rfl ?_
    refine XS.icmpNo X0.here hx rfl (hb hby at_242) rfl (flt q).1 ?_
    refine XS.iconst X0.here hx rfl (hb hby at_245) ?_
    refine XS.goto X0.here hx rfl (pc0 := 246) (pc' := 250) rfl (hb hby at_246) (by decide) (by decide) ?_
    refine XS.icmpNo X0.here hx rfl (hb hby at_250) rfl (teq (rfl : (1 : Int32) = 1)).2 ?_
    refine XS.iconst X0.here hx rfl (hb hby at_253) ?_
    refine XS.goto X0.here hx rfl (pc0 := 254) (pc' := 258) rfl (hb hby at_254) (by decide) (by decide) ?_
    refine XS.istore X0.here hx rfl (hb hby at_258) rfl (l' := #[s0, s1, s2, s3, s4, s5, s6, .val (.int k), s8, s9, s10, .val (.int (1 : Int32))]) (own_os h11) ?_
    exact kt
theorem own_s0 {c : Int32} (h : own_c4 c) : own_sz c (0 : Int32) = 0 := by
  rcases h with rfl | rfl | rfl | rfl <;> decide
theorem own_m3 (p : Int32) : own_c4 (p &&& (3 : Int32)) := by
  have e := c_mask p 3 2 (by decide) (by decide)
  have k : ((2 ^ 2 : Nat) : Int) = 4 := rfl
  rw [k] at e
  have z0 : (0 : Int32).toInt = 0 := rfl
  have z1 : (1 : Int32).toInt = 1 := rfl
  have z2 : (2 : Int32).toInt = 2 := rfl
  have z3 : (3 : Int32).toInt = 3 := rfl
  unfold own_c4
  rw [← Int32.toInt_inj, ← Int32.toInt_inj, ← Int32.toInt_inj, ← Int32.toInt_inj, z0, z1, z2, z3]
  omega
theorem own_i0 : own_c4 (0 : Int32) := Or.inl rfl
theorem own_i1 : own_c4 (1 : Int32) := Or.inr (Or.inl rfl)
theorem own_i2 : own_c4 (2 : Int32) := Or.inr (Or.inr (Or.inl rfl))
theorem own_i3 : own_c4 (3 : Int32) := Or.inr (Or.inr (Or.inr rfl))
theorem pn_0 : plainName "com/example/calpurnia/calpurnia/ranking/BestDocumentsFullPinLaw" = true := by first | (simp [plainName, overriddenIn]; done) | decide +kernel
theorem pd_0_0 : parseMethodDescriptor "(I)V" = some ⟨[.int], none⟩ := by decide +kernel
theorem pd_0_4 : parseMethodDescriptor "()Z" = some ⟨[], some .boolean⟩ := by decide +kernel
theorem ef_0 (m : MethodId) (x0 : Int32) (x1 : Int32) (x2 : Int32) (x3 : Int32) (x4 : Int32) (x5 : Int64) : entryFrame m #[(.int x0), (.int x1), (.int x2), (.int x3), (.int x4), (.long x5)] maxLocals = mkF m 0 #[.val (.int x0), .val (.int x1), .val (.int x2), .val (.int x3), .val (.int x4), .val (.long x5), .second, .unset, .unset, .unset, .unset, .unset] [] := by first | (simp [entryFrame, mkF, argsToLocals, Value.category, maxLocals]; done) | rfl
def Q0 (Z : State) (p1 : Int32) (p2 : Int32) (p3 : Int32) (p4 : Int32) (p5 : Int32) (q6 : Int64) (h0 : Heap) (n0 : Nat) (v : Option Value) (h : Heap) (L : List Loc) : Prop := v = some (.int (1 : Int32)) ∧ Fr n0 L
set_option maxRecDepth 65536 in
set_option maxHeartbeats 40000000 in
theorem rm0_0 (l : Launch) (Z : State) (a0 : Array Value) (hw : ∀ d ∈ tables_1, d.before a0 Z = true) (ws : List Jvm.Cond) (p1 : Int32) (p2 : Int32) (p3 : Int32) (p4 : Int32) (p5 : Int32) (q6 : Int64) (h0 : Heap) (n0 : Nat) (Z0 : n0 ≤ h0.size) (hc57 : ¬ ((0 : Int32) < ((p2 &&& (7 : Int32)) % (5 : Int32)))) (hc105 : ¬ ((1 : Int32) < ((p2 &&& (7 : Int32)) % (5 : Int32)))) (hc156 : ¬ ((2 : Int32) < ((p2 &&& (7 : Int32)) % (5 : Int32)))) (hc208 : ¬ ((3 : Int32) < ((p2 &&& (7 : Int32)) % (5 : Int32)))) :
    MetFree l x (head1 (Jvm.Cond.code x code maxLocals ret :: ws) room_1) (fun a U => a = #[(.int p1), (.int p2), (.int p3), (.int p4), (.int p5), (.long q6)] ∧ Z.Warmed39 U.vm ∧ U.heap = h0) (fun _ _ _ _ _ => True) (fun _ U o U' => ∃ v L, o = .returned v ∧ Q0 Z p1 p2 p3 p4 p5 q6 h0 n0 v U'.heap L ∧ FrameEnd U o U' L room_1.cells room_1.slots) := by
  refine MetFree.of_bodySF (plainFor_of_name pn_0) hisR ?_
  intro p e s m args below meth c s₁ Bd hml0 hP hK
  obtain ⟨rfl, hZ, hh⟩ := hP
  have hx := Bd.exec
  have hby := Bd.bytes
  have hml : c.maxLocals = 12 := hml0
  have hown : s.vm.findClass "com/example/calpurnia/calpurnia/ranking/BestDocumentsFullPinLaw" = some m.cls := findClass_of_methodNamed Bd.named
  have hnm := (name_of_methodNamed Bd.named Bd.method).1
  have X0 : Stand p l e room_1 s m #[(.int p1), (.int p2), (.int p3), (.int p4), (.int p5), (.long q6)] below meth c s₁ [] 0 0 := Stand.of_body Bd
  have e0 : s₁.heap = h0 := by rw [← hh, Bd.state]; rfl
  have N0 := Fr.nil n0
  have pre0 : ∀ t, Steps p.tables e below (s₁.setTop (mkF m 0 #[.val (.int p1), .val (.int p2), .val (.int p3), .val (.int p4), .val (.int p5), .val (.long q6), .second, .unset, .unset, .unset, .unset, .unset] [])) t → Steps p.tables e below (s₁.setTop (entryFrame m #[(.int p1), (.int p2), (.int p3), (.int p4), (.int p5), (.long q6)] maxLocals)) t := fun t k => castTop (ef_0 m p1 p2 p3 p4 p5 q6) k
  have hC : own_c4 (p1 &&& (3 : Int32)) := own_m3 p1
  obtain ⟨T7, h7, X7, e7, E7, A7, D7, -, st7⟩ := newO X0 hx hZ hown (ww hw 1 rfl) (ww hw 2 rfl) (ww hw 3 rfl) e0 (g := (mkF m 19 #[.val (.int p1), .val (.int p2), .val (.int p3), .val (.int p4), .val (.int p5), .val (.long q6), .second, .val (.int (p1 &&& (3 : Int32))), .val (.int ((p2 &&& (7 : Int32)) % (5 : Int32))), .val (.int (p3 &&& (1073741823 : Int32))), .unset, .unset] [])) rfl (hb hby at_19) (by decide) (by decide)
  obtain ⟨b7, g7⟩ : ∃ z, z = h0.size := ⟨_, rfl⟩
  rw [← g7] at A7 D7 st7
  have F_worstAsRead_b7 : Fld Z h7 b7 sB "worstAsRead" "D" (.double 0) := D7 (Or.inl (ww hw 15 rfl)) (ty := .double) (by decide)
  have F_capacity_b7 : Fld Z h7 b7 sB "capacity" "I" (.int (0 : Int32)) := D7 (Or.inr (ww hw 17 rfl)) (ty := .int) (by decide)
  have F_best_b7 : Fld Z h7 b7 sB "best" "Lcom/example/calpurnia/calpurnia/ranking/BestDocuments$Heap;" .null := D7 (Or.inr (ww hw 32 rfl)) (ty := (.object sH)) (by decide)
  have F_asRead_b7 : Fld Z h7 b7 sB "asRead" "Ljava/util/function/DoubleUnaryOperator;" .null := D7 (Or.inr (ww hw 34 rfl)) (ty := (.object "java/util/function/DoubleUnaryOperator")) (by decide)
  have F_ties_b7 : Fld Z h7 b7 sB "ties" "Lcom/example/calpurnia/calpurnia/ranking/BestDocuments$Ties;" .null := D7 (Or.inr (ww hw 55 rfl)) (ty := (.object sT)) (by decide)
  have F_sorted_b7 : Fld Z h7 b7 sB "sorted" "Z" (.int (0 : Int32)) := D7 (Or.inl (ww hw 73 rfl)) (ty := .boolean) (by decide)
  have E_b7 := A7
  have g_b7 : n0 ≤ b7 := Nat.le_trans Z0 (Nat.le_of_eq g7.symm)
  have sz_b7 : h0.size ≤ b7 := (Nat.le_trans (Keep.refl h0 []).1 (Nat.le_of_eq g7.symm))
  obtain ⟨_, _, ⟨T8, L8, k8, n8⟩, -, X8, ⟨Lc8, hQ8, l8, y8, z8⟩, st8⟩ := X7.specialBack hx (y := (⟨sB, "<init>", "(I)V"⟩ : MethodName)) rfl hown (mvT hZ (ww hw 4 rfl)) (mvT hZ (ww hw 5 rfl)) (mvT hZ (ww hw 6 rfl)) (by decide) (backOf (W := 1) (rm1 l Z a0 hw [] b7 _ _ _ _ _ h7 n0 (Nat.le_trans Z0 E7.1) F_sorted_b7 E_b7 g_b7 F_worstAsRead_b7 F_capacity_b7 F_best_b7 F_asRead_b7 F_ties_b7 _ hC) hZ (ww hw 6 rfl) (ww hw 3 rfl) (by decide) (by decide)) (g := (mkF m 25 #[.val (.int p1), .val (.int p2), .val (.int p3), .val (.int p4), .val (.int p5), .val (.long q6), .second, .val (.int (p1 &&& (3 : Int32))), .val (.int ((p2 &&& (7 : Int32)) % (5 : Int32))), .val (.int (p3 &&& (1073741823 : Int32))), .unset, .unset] [(.int (p1 &&& (3 : Int32))), (.ref b7), (.ref b7)])) rfl (by rw [hml]; rfl) (Steps.refl _) (a := b7) (argsL := [(.int (p1 &&& (3 : Int32)))]) (rest := [(.ref b7)]) (lenOf pd_0_0 rfl) rfl (by show 2 * 0 + _ ≤ _; exact Nat.le_of_eq rfl) (hb hby at_25) (fun _ _ => ⟨rfl, e7, (by decide : 1 + 8 ≤ _), (by decide : 8 + 19 ≤ _)⟩)
  dsimp only [Pt.U, Pt.locs, Pt.cells, Pt.slots] at X8 l8 y8 z8 st8 hQ8
  subst l8 y8 z8
  obtain ⟨rfl, N8q, Kc8, Bc8⟩ := hQ8
  have N8 := Fr.app N0 N8q
  have BB : own_B Z T8.heap n0 b7 (p1 &&& (3 : Int32)) (own_sz (p1 &&& (3 : Int32)) (0 : Int32)) := by rw [own_s0 hC]; exact Bc8
  obtain ⟨cq9, kq9, q9a, q9b, q9c⟩ := isOf hZ rfl (E_b7.keep Kc8)
  obtain ⟨_, _, ⟨T9, L9, k9, n9⟩, -, X9, ⟨Lc9, hQ9, l9, y9, z9⟩, st9⟩ := X8.virtualBack hx (y := (⟨sB, "full", "()Z"⟩ : MethodName)) (z := (⟨sB, "full", "()Z"⟩ : MethodName)) hown (mvT hZ (ww hw 56 rfl)) (mvT hZ (ww hw 57 rfl)) (notFace_of_selects (args := #[]) (mvT hZ (ww hw 59 rfl))) (mvT hZ (ww hw 59 rfl)) (mvT hZ (ww hw 58 rfl)) (by decide) (backOf (W := 0) (rm6 l Z a0 hw [] b7 _ (0 : Int32) T8.heap n0 (Nat.le_trans (Nat.le_trans Z0 E7.1) Kc8.1) BB) hZ (ww hw 60 rfl) (ww hw 3 rfl) (by decide) (by decide)) q9a q9c (g := (mkF m 32 #[.val (.int p1), .val (.int p2), .val (.int p3), .val (.int p4), .val (.int p5), .val (.long q6), .second, .val (.int (p1 &&& (3 : Int32))), .val (.int ((p2 &&& (7 : Int32)) % (5 : Int32))), .val (.int (p3 &&& (1073741823 : Int32))), .val (.ref b7), .unset] [(.ref b7)])) rfl (by rw [hml]; rfl) (Steps.refl _) (argsL := []) (rest := []) (lenOf pd_0_4 rfl) rfl (by show 2 * 0 + _ ≤ _; exact Nat.le_of_eq rfl) (hb hby at_32) (fun _ _ => ⟨rfl, rfl, (by decide : 9 + 0 ≤ _), (by decide : 27 + 0 ≤ _)⟩)
  dsimp only [Pt.U, Pt.locs, Pt.cells, Pt.slots] at X9 l9 y9 z9 st9 hQ9
  subst l9 y9 z9
  obtain ⟨rfl, N9q, eh9⟩ := hQ9
  have N9 := Fr.app N8 N9q
  obtain ⟨T10, X10, e10, st10⟩ := own_j35 (.val (.int p1)) (.val (.int p2)) (.val (.int p3)) (.val (.int p4)) (.val (.int p5)) (.val (.long q6)) (.second) (p1 &&& (3 : Int32)) (.val (.int ((p2 &&& (7 : Int32)) % (5 : Int32)))) (.val (.int (p3 &&& (1073741823 : Int32)))) (.val (.ref b7)) (.unset) (own_g (p1 &&& (3 : Int32)) (0 : Int32)) (by first | exact One.u | exact One.val rfl) hC rfl X9 hx hZ hw hby hml hown eh9
  obtain ⟨fs, hr, hrun, hended, hW, hsame⟩ := X10.leave (v := some (.int (1 : Int32))) (fun h => by rw [Bd.returns] at h; cases h)
  refine ⟨_, _, pre0 _ ?_, hrun, hended, _, _, rfl, ?_, ⟨_, rfl⟩, hW, hsame.mono (by decide) (by decide)⟩
  · show Steps _ _ _ (s₁.setTop (mkF m 0 #[.val (.int p1), .val (.int p2), .val (.int p3), .val (.int p4), .val (.int p5), .val (.long q6), .second, .unset, .unset, .unset, .unset, .unset] [])) _
    refine XS.iloadN X0.here hx rfl (hb hby at_0) rfl ?_
    refine XS.iconst X0.here hx rfl (hb hby at_1) ?_
    refine XS.iand X0.here hx rfl (hb hby at_2) rfl ?_
    refine XS.istore X0.here hx rfl (hb hby at_3) rfl (l' := #[.val (.int p1), .val (.int p2), .val (.int p3), .val (.int p4), .val (.int p5), .val (.long q6), .second, .val (.int (p1 &&& (3 : Int32))), .unset, .unset, .unset, .unset]) rfl ?_
    refine XS.iloadN X0.here hx rfl (hb hby at_5) rfl ?_
    refine XS.bipush X0.here hx rfl (hb hby at_6) ?_
    refine XS.iand X0.here hx rfl (hb hby at_8) rfl ?_
    refine XS.iconst X0.here hx rfl (hb hby at_9) ?_
    refine iremM (g := (mkF m 10 #[.val (.int p1), .val (.int p2), .val (.int p3), .val (.int p4), .val (.int p5), .val (.long q6), .second, .val (.int (p1 &&& (3 : Int32))), .unset, .unset, .unset, .unset] [(.int (5 : Int32)), (.int (p2 &&& (7 : Int32)))])) X0 hx rfl (hb hby at_10) rfl (by decide) ?_
    refine XS.istore X0.here hx rfl (hb hby at_11) rfl (l' := #[.val (.int p1), .val (.int p2), .val (.int p3), .val (.int p4), .val (.int p5), .val (.long q6), .second, .val (.int (p1 &&& (3 : Int32))), .val (.int ((p2 &&& (7 : Int32)) % (5 : Int32))), .unset, .unset, .unset]) rfl ?_
    refine XS.iloadN X0.here hx rfl (hb hby at_13) rfl ?_
    refine X0.ldcInt hx hown (mvT hZ (ww hw 0 rfl)) (g := (mkF m 14 #[.val (.int p1), .val (.int p2), .val (.int p3), .val (.int p4), .val (.int p5), .val (.long q6), .second, .val (.int (p1 &&& (3 : Int32))), .val (.int ((p2 &&& (7 : Int32)) % (5 : Int32))), .unset, .unset, .unset] [(.int p3)])) rfl (hb hby at_14) _ ?_
    refine XS.iand X0.here hx rfl (hb hby at_16) rfl ?_
    refine XS.istore X0.here hx rfl (hb hby at_17) rfl (l' := #[.val (.int p1), .val (.int p2), .val (.int p3), .val (.int p4), .val (.int p5), .val (.long q6), .second, .val (.int (p1 &&& (3 : Int32))), .val (.int ((p2 &&& (7 : Int32)) % (5 : Int32))), .val (.int (p3 &&& (1073741823 : Int32))), .unset, .unset]) rfl ?_
    refine st7 _ ?_
    refine XS.dup X7.here hx rfl (hb hby at_22) rfl rfl ?_
    refine XS.iload X7.here hx rfl (hb hby at_23) rfl ?_
    refine st8.trans ?_
    refine XS.astore X8.here hx rfl (hb hby at_28) rfl rfl (l' := #[.val (.int p1), .val (.int p2), .val (.int p3), .val (.int p4), .val (.int p5), .val (.long q6), .second, .val (.int (p1 &&& (3 : Int32))), .val (.int ((p2 &&& (7 : Int32)) % (5 : Int32))), .val (.int (p3 &&& (1073741823 : Int32))), .val (.ref b7), .unset]) rfl ?_
    refine XS.aload X8.here hx rfl (hb hby at_30) rfl rfl ?_
    refine st9.trans ?_
    refine st10 _ ?_
    refine XS.iload X10.here hx rfl (hb hby at_55) rfl ?_
    refine XS.ifYes X10.here hx rfl (pc0 := 57) (pc' := 102) rfl (hb hby at_57) rfl ((if0 _ _).trans (flt hc57).2.2.2) (by decide) (by decide) ?_
    refine XS.iload X10.here hx rfl (hb hby at_102) rfl ?_
    refine XS.iconst X10.here hx rfl (hb hby at_104) ?_
    refine XS.icmpYes X10.here hx rfl (pc0 := 105) (pc' := 153) rfl (hb hby at_105) rfl (flt hc105).2.2.2 (by decide) (by decide) ?_
    refine XS.iload X10.here hx rfl (hb hby at_153) rfl ?_
    refine XS.iconst X10.here hx rfl (hb hby at_155) ?_
    refine XS.icmpYes X10.here hx rfl (pc0 := 156) (pc' := 205) rfl (hb hby at_156) rfl (flt hc156).2.2.2 (by decide) (by decide) ?_
    refine XS.iload X10.here hx rfl (hb hby at_205) rfl ?_
    refine XS.iconst X10.here hx rfl (hb hby at_207) ?_
    refine XS.icmpYes X10.here hx rfl (pc0 := 208) (pc' := 260) rfl (hb hby at_208) rfl (flt hc208).2.2.2 (by decide) (by decide) ?_
    refine XS.iload X10.here hx rfl (hb hby at_260) rfl ?_
    exact retN X10 hx (t := .boolean) Bd.returns (by simp) (hb hby at_262) hr
  · show Q0 Z p1 p2 p3 p4 p5 q6 h0 n0 _ T10.heap _
    rw [e10]
    exact ⟨rfl, N9⟩
theorem pd_0_5 : parseMethodDescriptor "(I)D" = some ⟨[.int], some .double⟩ := by decide +kernel
theorem pd_0_6 : parseMethodDescriptor "(ID)V" = some ⟨[.int, .double], none⟩ := by decide +kernel
set_option maxRecDepth 65536 in
set_option maxHeartbeats 40000000 in
theorem rm0_1 (l : Launch) (Z : State) (a0 : Array Value) (hw : ∀ d ∈ tables_1, d.before a0 Z = true) (ws : List Jvm.Cond) (p1 : Int32) (p2 : Int32) (p3 : Int32) (p4 : Int32) (p5 : Int32) (q6 : Int64) (h0 : Heap) (n0 : Nat) (Z0 : n0 ≤ h0.size) (hc57 : (0 : Int32) < ((p2 &&& (7 : Int32)) % (5 : Int32))) (hc105 : ¬ ((1 : Int32) < ((p2 &&& (7 : Int32)) % (5 : Int32)))) (hc156 : ¬ ((2 : Int32) < ((p2 &&& (7 : Int32)) % (5 : Int32)))) (hc208 : ¬ ((3 : Int32) < ((p2 &&& (7 : Int32)) % (5 : Int32)))) :
    MetFree l x (head1 (Jvm.Cond.code x code maxLocals ret :: ws) room_1) (fun a U => a = #[(.int p1), (.int p2), (.int p3), (.int p4), (.int p5), (.long q6)] ∧ Z.Warmed39 U.vm ∧ U.heap = h0) (fun _ _ _ _ _ => True) (fun _ U o U' => ∃ v L, o = .returned v ∧ Q0 Z p1 p2 p3 p4 p5 q6 h0 n0 v U'.heap L ∧ FrameEnd U o U' L room_1.cells room_1.slots) := by
  refine MetFree.of_bodySF (plainFor_of_name pn_0) hisR ?_
  intro p e s m args below meth c s₁ Bd hml0 hP hK
  obtain ⟨rfl, hZ, hh⟩ := hP
  have hx := Bd.exec
  have hby := Bd.bytes
  have hml : c.maxLocals = 12 := hml0
  have hown : s.vm.findClass "com/example/calpurnia/calpurnia/ranking/BestDocumentsFullPinLaw" = some m.cls := findClass_of_methodNamed Bd.named
  have hnm := (name_of_methodNamed Bd.named Bd.method).1
  have X0 : Stand p l e room_1 s m #[(.int p1), (.int p2), (.int p3), (.int p4), (.int p5), (.long q6)] below meth c s₁ [] 0 0 := Stand.of_body Bd
  have e0 : s₁.heap = h0 := by rw [← hh, Bd.state]; rfl
  have N0 := Fr.nil n0
  have pre0 : ∀ t, Steps p.tables e below (s₁.setTop (mkF m 0 #[.val (.int p1), .val (.int p2), .val (.int p3), .val (.int p4), .val (.int p5), .val (.long q6), .second, .unset, .unset, .unset, .unset, .unset] [])) t → Steps p.tables e below (s₁.setTop (entryFrame m #[(.int p1), (.int p2), (.int p3), (.int p4), (.int p5), (.long q6)] maxLocals)) t := fun t k => castTop (ef_0 m p1 p2 p3 p4 p5 q6) k
  have hC : own_c4 (p1 &&& (3 : Int32)) := own_m3 p1
  obtain ⟨T7, h7, X7, e7, E7, A7, D7, -, st7⟩ := newO X0 hx hZ hown (ww hw 1 rfl) (ww hw 2 rfl) (ww hw 3 rfl) e0 (g := (mkF m 19 #[.val (.int p1), .val (.int p2), .val (.int p3), .val (.int p4), .val (.int p5), .val (.long q6), .second, .val (.int (p1 &&& (3 : Int32))), .val (.int ((p2 &&& (7 : Int32)) % (5 : Int32))), .val (.int (p3 &&& (1073741823 : Int32))), .unset, .unset] [])) rfl (hb hby at_19) (by decide) (by decide)
  obtain ⟨b7, g7⟩ : ∃ z, z = h0.size := ⟨_, rfl⟩
  rw [← g7] at A7 D7 st7
  have F_worstAsRead_b7 : Fld Z h7 b7 sB "worstAsRead" "D" (.double 0) := D7 (Or.inl (ww hw 15 rfl)) (ty := .double) (by decide)
  have F_capacity_b7 : Fld Z h7 b7 sB "capacity" "I" (.int (0 : Int32)) := D7 (Or.inr (ww hw 17 rfl)) (ty := .int) (by decide)
  have F_best_b7 : Fld Z h7 b7 sB "best" "Lcom/example/calpurnia/calpurnia/ranking/BestDocuments$Heap;" .null := D7 (Or.inr (ww hw 32 rfl)) (ty := (.object sH)) (by decide)
  have F_asRead_b7 : Fld Z h7 b7 sB "asRead" "Ljava/util/function/DoubleUnaryOperator;" .null := D7 (Or.inr (ww hw 34 rfl)) (ty := (.object "java/util/function/DoubleUnaryOperator")) (by decide)
  have F_ties_b7 : Fld Z h7 b7 sB "ties" "Lcom/example/calpurnia/calpurnia/ranking/BestDocuments$Ties;" .null := D7 (Or.inr (ww hw 55 rfl)) (ty := (.object sT)) (by decide)
  have F_sorted_b7 : Fld Z h7 b7 sB "sorted" "Z" (.int (0 : Int32)) := D7 (Or.inl (ww hw 73 rfl)) (ty := .boolean) (by decide)
  have E_b7 := A7
  have g_b7 : n0 ≤ b7 := Nat.le_trans Z0 (Nat.le_of_eq g7.symm)
  have sz_b7 : h0.size ≤ b7 := (Nat.le_trans (Keep.refl h0 []).1 (Nat.le_of_eq g7.symm))
  obtain ⟨_, _, ⟨T8, L8, k8, n8⟩, -, X8, ⟨Lc8, hQ8, l8, y8, z8⟩, st8⟩ := X7.specialBack hx (y := (⟨sB, "<init>", "(I)V"⟩ : MethodName)) rfl hown (mvT hZ (ww hw 4 rfl)) (mvT hZ (ww hw 5 rfl)) (mvT hZ (ww hw 6 rfl)) (by decide) (backOf (W := 1) (rm1 l Z a0 hw [] b7 _ _ _ _ _ h7 n0 (Nat.le_trans Z0 E7.1) F_sorted_b7 E_b7 g_b7 F_worstAsRead_b7 F_capacity_b7 F_best_b7 F_asRead_b7 F_ties_b7 _ hC) hZ (ww hw 6 rfl) (ww hw 3 rfl) (by decide) (by decide)) (g := (mkF m 25 #[.val (.int p1), .val (.int p2), .val (.int p3), .val (.int p4), .val (.int p5), .val (.long q6), .second, .val (.int (p1 &&& (3 : Int32))), .val (.int ((p2 &&& (7 : Int32)) % (5 : Int32))), .val (.int (p3 &&& (1073741823 : Int32))), .unset, .unset] [(.int (p1 &&& (3 : Int32))), (.ref b7), (.ref b7)])) rfl (by rw [hml]; rfl) (Steps.refl _) (a := b7) (argsL := [(.int (p1 &&& (3 : Int32)))]) (rest := [(.ref b7)]) (lenOf pd_0_0 rfl) rfl (by show 2 * 0 + _ ≤ _; exact Nat.le_of_eq rfl) (hb hby at_25) (fun _ _ => ⟨rfl, e7, (by decide : 1 + 8 ≤ _), (by decide : 8 + 19 ≤ _)⟩)
  dsimp only [Pt.U, Pt.locs, Pt.cells, Pt.slots] at X8 l8 y8 z8 st8 hQ8
  subst l8 y8 z8
  obtain ⟨rfl, N8q, Kc8, Bc8⟩ := hQ8
  have N8 := Fr.app N0 N8q
  have BB : own_B Z T8.heap n0 b7 (p1 &&& (3 : Int32)) (own_sz (p1 &&& (3 : Int32)) (0 : Int32)) := by rw [own_s0 hC]; exact Bc8
  obtain ⟨cq9, kq9, q9a, q9b, q9c⟩ := isOf hZ rfl (E_b7.keep Kc8)
  obtain ⟨_, _, ⟨T9, L9, k9, n9⟩, -, X9, ⟨Lc9, hQ9, l9, y9, z9⟩, st9⟩ := X8.virtualBack hx (y := (⟨sB, "full", "()Z"⟩ : MethodName)) (z := (⟨sB, "full", "()Z"⟩ : MethodName)) hown (mvT hZ (ww hw 56 rfl)) (mvT hZ (ww hw 57 rfl)) (notFace_of_selects (args := #[]) (mvT hZ (ww hw 59 rfl))) (mvT hZ (ww hw 59 rfl)) (mvT hZ (ww hw 58 rfl)) (by decide) (backOf (W := 0) (rm6 l Z a0 hw [] b7 _ (0 : Int32) T8.heap n0 (Nat.le_trans (Nat.le_trans Z0 E7.1) Kc8.1) BB) hZ (ww hw 60 rfl) (ww hw 3 rfl) (by decide) (by decide)) q9a q9c (g := (mkF m 32 #[.val (.int p1), .val (.int p2), .val (.int p3), .val (.int p4), .val (.int p5), .val (.long q6), .second, .val (.int (p1 &&& (3 : Int32))), .val (.int ((p2 &&& (7 : Int32)) % (5 : Int32))), .val (.int (p3 &&& (1073741823 : Int32))), .val (.ref b7), .unset] [(.ref b7)])) rfl (by rw [hml]; rfl) (Steps.refl _) (argsL := []) (rest := []) (lenOf pd_0_4 rfl) rfl (by show 2 * 0 + _ ≤ _; exact Nat.le_of_eq rfl) (hb hby at_32) (fun _ _ => ⟨rfl, rfl, (by decide : 9 + 0 ≤ _), (by decide : 27 + 0 ≤ _)⟩)
  dsimp only [Pt.U, Pt.locs, Pt.cells, Pt.slots] at X9 l9 y9 z9 st9 hQ9
  subst l9 y9 z9
  obtain ⟨rfl, N9q, eh9⟩ := hQ9
  have N9 := Fr.app N8 N9q
  obtain ⟨T10, X10, e10, st10⟩ := own_j35 (.val (.int p1)) (.val (.int p2)) (.val (.int p3)) (.val (.int p4)) (.val (.int p5)) (.val (.long q6)) (.second) (p1 &&& (3 : Int32)) (.val (.int ((p2 &&& (7 : Int32)) % (5 : Int32)))) (.val (.int (p3 &&& (1073741823 : Int32)))) (.val (.ref b7)) (.unset) (own_g (p1 &&& (3 : Int32)) (0 : Int32)) (by first | exact One.u | exact One.val rfl) hC rfl X9 hx hZ hw hby hml hown eh9
  obtain ⟨_, _, ⟨T11, L11, k11, n11⟩, -, X11, ⟨Lc11, hQ11, l11, y11, z11⟩, st11⟩ := Jvm.LawKit.callS X10 hx (y := (⟨"com/example/calpurnia/calpurnia/ranking/BestDocumentsFullPinLaw", "score", "(I)D"⟩ : MethodName)) hown (mvT hZ (ww hw 63 rfl)) (mvT hZ (ww hw 64 rfl)) (mvT hZ (ww hw 65 rfl)) (mvT hZ (ww hw 66 rfl)) (by decide) (backOf (W := 2) (rm7 l Z a0 hw [] p4  T8.heap n0 (Nat.le_trans (Nat.le_trans Z0 E7.1) Kc8.1)) hZ (ww hw 66 rfl) (ww hw 65 rfl) (by decide) (by decide)) (g := (mkF m 65 #[.val (.int p1), .val (.int p2), .val (.int p3), .val (.int p4), .val (.int p5), .val (.long q6), .second, .val (.int (p1 &&& (3 : Int32))), .val (.int ((p2 &&& (7 : Int32)) % (5 : Int32))), .val (.int (p3 &&& (1073741823 : Int32))), .val (.ref b7), .val (.int (1 : Int32))] [(.int p4), (.int (p3 &&& (1073741823 : Int32))), (.ref b7)])) rfl (by rw [hml]; rfl) (argsL := [(.int p4)]) (rest := [(.int (p3 &&& (1073741823 : Int32))), (.ref b7)]) (lenOf pd_0_5 rfl) rfl (by show 2 * 0 + _ ≤ _; exact Nat.le_of_eq rfl) (hb hby at_65) (fun _ _ => ⟨rfl, e10, (by decide : 9 + 0 ≤ _), (by decide : 27 + 0 ≤ _)⟩)
  dsimp only [Pt.U, Pt.locs, Pt.cells, Pt.slots] at X11 l11 y11 z11 st11 hQ11
  subst l11 y11 z11
  obtain ⟨rfl, N11q, eh11⟩ := hQ11
  have N11 := Fr.app N9 N11q
  obtain ⟨cq12, kq12, q12a, q12b, q12c⟩ := isOf hZ eh11 (E_b7.keep Kc8)
  obtain ⟨_, _, ⟨T12, L12, k12, n12⟩, -, X12, ⟨Lc12, hQ12, l12, y12, z12⟩, st12⟩ := X11.virtualBack hx (y := (⟨sB, "offer", "(ID)V"⟩ : MethodName)) (z := (⟨sB, "offer", "(ID)V"⟩ : MethodName)) hown (mvT hZ (ww hw 67 rfl)) (mvT hZ (ww hw 68 rfl)) (notFace_of_selects (args := #[]) (mvT hZ (ww hw 70 rfl))) (mvT hZ (ww hw 70 rfl)) (mvT hZ (ww hw 69 rfl)) (by decide) (backOf (W := 0) (rm8 l Z a0 hw [] b7 (p3 &&& (1073741823 : Int32)) (FP.i2d ((p4 &&& (255 : Int32)) - (128 : Int32))) _ (0 : Int32) (1 : Int32) T8.heap n0 (Nat.le_trans (Nat.le_trans Z0 E7.1) Kc8.1) hC own_i0 (by decide) BB (Jvm.Free.Fl.i2d_fin _).noNaN) hZ (ww hw 71 rfl) (ww hw 3 rfl) (by decide) (by decide)) q12a q12c (g := (mkF m 68 #[.val (.int p1), .val (.int p2), .val (.int p3), .val (.int p4), .val (.int p5), .val (.long q6), .second, .val (.int (p1 &&& (3 : Int32))), .val (.int ((p2 &&& (7 : Int32)) % (5 : Int32))), .val (.int (p3 &&& (1073741823 : Int32))), .val (.ref b7), .val (.int (1 : Int32))] [(.double (FP.i2d ((p4 &&& (255 : Int32)) - (128 : Int32)))), (.int (p3 &&& (1073741823 : Int32))), (.ref b7)])) rfl (by rw [hml]; rfl) (Steps.refl _) (argsL := [(.int (p3 &&& (1073741823 : Int32))), (.double (FP.i2d ((p4 &&& (255 : Int32)) - (128 : Int32))))]) (rest := []) (lenOf pd_0_6 rfl) rfl (by show 2 * 0 + _ ≤ _; exact Nat.le_of_eq rfl) (hb hby at_68) (fun _ _ => ⟨rfl, eh11, (by decide : 9 + 0 ≤ _), (by decide : 27 + 0 ≤ _)⟩)
  dsimp only [Pt.U, Pt.locs, Pt.cells, Pt.slots] at X12 l12 y12 z12 st12 hQ12
  subst l12 y12 z12
  obtain ⟨rfl, N12q, ⟨hp12, da12, sa12, Kc12⟩, Ec12, Bc12⟩ := hQ12
  have N12 := Fr.app N11 N12q
  have BB := Bc12
  obtain ⟨cq13, kq13, q13a, q13b, q13c⟩ := isOf hZ rfl Ec12
  obtain ⟨_, _, ⟨T13, L13, k13, n13⟩, -, X13, ⟨Lc13, hQ13, l13, y13, z13⟩, st13⟩ := X12.virtualBack hx (y := (⟨sB, "full", "()Z"⟩ : MethodName)) (z := (⟨sB, "full", "()Z"⟩ : MethodName)) hown (mvT hZ (ww hw 56 rfl)) (mvT hZ (ww hw 57 rfl)) (notFace_of_selects (args := #[]) (mvT hZ (ww hw 59 rfl))) (mvT hZ (ww hw 59 rfl)) (mvT hZ (ww hw 58 rfl)) (by decide) (backOf (W := 0) (rm6 l Z a0 hw [] b7 _ (1 : Int32) T12.heap n0 (Nat.le_trans (Nat.le_trans (Nat.le_trans Z0 E7.1) Kc8.1) Kc12.1) BB) hZ (ww hw 60 rfl) (ww hw 3 rfl) (by decide) (by decide)) q13a q13c (g := (mkF m 78 #[.val (.int p1), .val (.int p2), .val (.int p3), .val (.int p4), .val (.int p5), .val (.long q6), .second, .val (.int (p1 &&& (3 : Int32))), .val (.int ((p2 &&& (7 : Int32)) % (5 : Int32))), .val (.int (p3 &&& (1073741823 : Int32))), .val (.ref b7), .val (.int (1 : Int32))] [(.ref b7)])) rfl (by rw [hml]; rfl) (Steps.refl _) (argsL := []) (rest := []) (lenOf pd_0_4 rfl) rfl (by show 2 * 0 + _ ≤ _; exact Nat.le_of_eq rfl) (hb hby at_78) (fun _ _ => ⟨rfl, rfl, (by decide : 9 + 0 ≤ _), (by decide : 27 + 0 ≤ _)⟩)
  dsimp only [Pt.U, Pt.locs, Pt.cells, Pt.slots] at X13 l13 y13 z13 st13 hQ13
  subst l13 y13 z13
  obtain ⟨rfl, N13q, eh13⟩ := hQ13
  have N13 := Fr.app N12 N13q
  obtain ⟨T14, X14, e14, st14⟩ := own_j81 (.val (.int p1)) (.val (.int p2)) (.val (.int p3)) (.val (.int p4)) (.val (.int p5)) (.val (.long q6)) (.second) (p1 &&& (3 : Int32)) (.val (.int ((p2 &&& (7 : Int32)) % (5 : Int32)))) (.val (.int (p3 &&& (1073741823 : Int32)))) (.val (.ref b7)) (.val (.int (1 : Int32))) (own_g (p1 &&& (3 : Int32)) (1 : Int32)) (by first | exact One.u | exact One.val rfl) hC rfl X13 hx hZ hw hby hml hown eh13
  obtain ⟨fs, hr, hrun, hended, hW, hsame⟩ := X14.leave (v := some (.int (1 : Int32))) (fun h => by rw [Bd.returns] at h; cases h)
  refine ⟨_, _, pre0 _ ?_, hrun, hended, _, _, rfl, ?_, ⟨_, rfl⟩, hW, hsame.mono (by decide) (by decide)⟩
  · show Steps _ _ _ (s₁.setTop (mkF m 0 #[.val (.int p1), .val (.int p2), .val (.int p3), .val (.int p4), .val (.int p5), .val (.long q6), .second, .unset, .unset, .unset, .unset, .unset] [])) _
    refine XS.iloadN X0.here hx rfl (hb hby at_0) rfl ?_
    refine XS.iconst X0.here hx rfl (hb hby at_1) ?_
    refine XS.iand X0.here hx rfl (hb hby at_2) rfl ?_
    refine XS.istore X0.here hx rfl (hb hby at_3) rfl (l' := #[.val (.int p1), .val (.int p2), .val (.int p3), .val (.int p4), .val (.int p5), .val (.long q6), .second, .val (.int (p1 &&& (3 : Int32))), .unset, .unset, .unset, .unset]) rfl ?_
    refine XS.iloadN X0.here hx rfl (hb hby at_5) rfl ?_
    refine XS.bipush X0.here hx rfl (hb hby at_6) ?_
    refine XS.iand X0.here hx rfl (hb hby at_8) rfl ?_
    refine XS.iconst X0.here hx rfl (hb hby at_9) ?_
    refine iremM (g := (mkF m 10 #[.val (.int p1), .val (.int p2), .val (.int p3), .val (.int p4), .val (.int p5), .val (.long q6), .second, .val (.int (p1 &&& (3 : Int32))), .unset, .unset, .unset, .unset] [(.int (5 : Int32)), (.int (p2 &&& (7 : Int32)))])) X0 hx rfl (hb hby at_10) rfl (by decide) ?_
    refine XS.istore X0.here hx rfl (hb hby at_11) rfl (l' := #[.val (.int p1), .val (.int p2), .val (.int p3), .val (.int p4), .val (.int p5), .val (.long q6), .second, .val (.int (p1 &&& (3 : Int32))), .val (.int ((p2 &&& (7 : Int32)) % (5 : Int32))), .unset, .unset, .unset]) rfl ?_
    refine XS.iloadN X0.here hx rfl (hb hby at_13) rfl ?_
    refine X0.ldcInt hx hown (mvT hZ (ww hw 0 rfl)) (g := (mkF m 14 #[.val (.int p1), .val (.int p2), .val (.int p3), .val (.int p4), .val (.int p5), .val (.long q6), .second, .val (.int (p1 &&& (3 : Int32))), .val (.int ((p2 &&& (7 : Int32)) % (5 : Int32))), .unset, .unset, .unset] [(.int p3)])) rfl (hb hby at_14) _ ?_
    refine XS.iand X0.here hx rfl (hb hby at_16) rfl ?_
    refine XS.istore X0.here hx rfl (hb hby at_17) rfl (l' := #[.val (.int p1), .val (.int p2), .val (.int p3), .val (.int p4), .val (.int p5), .val (.long q6), .second, .val (.int (p1 &&& (3 : Int32))), .val (.int ((p2 &&& (7 : Int32)) % (5 : Int32))), .val (.int (p3 &&& (1073741823 : Int32))), .unset, .unset]) rfl ?_
    refine st7 _ ?_
    refine XS.dup X7.here hx rfl (hb hby at_22) rfl rfl ?_
    refine XS.iload X7.here hx rfl (hb hby at_23) rfl ?_
    refine st8.trans ?_
    refine XS.astore X8.here hx rfl (hb hby at_28) rfl rfl (l' := #[.val (.int p1), .val (.int p2), .val (.int p3), .val (.int p4), .val (.int p5), .val (.long q6), .second, .val (.int (p1 &&& (3 : Int32))), .val (.int ((p2 &&& (7 : Int32)) % (5 : Int32))), .val (.int (p3 &&& (1073741823 : Int32))), .val (.ref b7), .unset]) rfl ?_
    refine XS.aload X8.here hx rfl (hb hby at_30) rfl rfl ?_
    refine st9.trans ?_
    refine st10 _ ?_
    refine XS.iload X10.here hx rfl (hb hby at_55) rfl ?_
    refine XS.ifNo X10.here hx rfl (hb hby at_57) rfl ((if0 _ _).trans (tlt hc57).2.2.2) ?_
    refine XS.aload X10.here hx rfl (hb hby at_60) rfl rfl ?_
    refine XS.iload X10.here hx rfl (hb hby at_62) rfl ?_
    refine XS.iloadN X10.here hx rfl (hb hby at_64) rfl ?_
    refine st11 _ ?_
    refine st12.trans ?_
    refine XS.iload X12.here hx rfl (hb hby at_71) rfl ?_
    refine XS.ifNo X12.here hx rfl (hb hby at_73) rfl ((if0 _ _).trans (feq (by decide : ¬ ((1 : Int32) = (0 : Int32)))).1) ?_
    refine XS.aload X12.here hx rfl (hb hby at_76) rfl rfl ?_
    refine st13.trans ?_
    refine st14 _ ?_
    refine XS.iload X14.here hx rfl (hb hby at_102) rfl ?_
    refine XS.iconst X14.here hx rfl (hb hby at_104) ?_
    refine XS.icmpYes X14.here hx rfl (pc0 := 105) (pc' := 153) rfl (hb hby at_105) rfl (flt hc105).2.2.2 (by decide) (by decide) ?_
    refine XS.iload X14.here hx rfl (hb hby at_153) rfl ?_
    refine XS.iconst X14.here hx rfl (hb hby at_155) ?_
    refine XS.icmpYes X14.here hx rfl (pc0 := 156) (pc' := 205) rfl (hb hby at_156) rfl (flt hc156).2.2.2 (by decide) (by decide) ?_
    refine XS.iload X14.here hx rfl (hb hby at_205) rfl ?_
    refine XS.iconst X14.here hx rfl (hb hby at_207) ?_
    refine XS.icmpYes X14.here hx rfl (pc0 := 208) (pc' := 260) rfl (hb hby at_208) rfl (flt hc208).2.2.2 (by decide) (by decide) ?_
    refine XS.iload X14.here hx rfl (hb hby at_260) rfl ?_
    exact retN X14 hx (t := .boolean) Bd.returns (by simp) (hb hby at_262) hr
  · show Q0 Z p1 p2 p3 p4 p5 q6 h0 n0 _ T14.heap _
    rw [e14]
    exact ⟨rfl, N13⟩
set_option maxRecDepth 65536 in
set_option maxHeartbeats 40000000 in
theorem rm0_2 (l : Launch) (Z : State) (a0 : Array Value) (hw : ∀ d ∈ tables_1, d.before a0 Z = true) (ws : List Jvm.Cond) (p1 : Int32) (p2 : Int32) (p3 : Int32) (p4 : Int32) (p5 : Int32) (q6 : Int64) (h0 : Heap) (n0 : Nat) (Z0 : n0 ≤ h0.size) (hc57 : (0 : Int32) < ((p2 &&& (7 : Int32)) % (5 : Int32))) (hc105 : (1 : Int32) < ((p2 &&& (7 : Int32)) % (5 : Int32))) (hc156 : ¬ ((2 : Int32) < ((p2 &&& (7 : Int32)) % (5 : Int32)))) (hc208 : ¬ ((3 : Int32) < ((p2 &&& (7 : Int32)) % (5 : Int32)))) :
    MetFree l x (head1 (Jvm.Cond.code x code maxLocals ret :: ws) room_1) (fun a U => a = #[(.int p1), (.int p2), (.int p3), (.int p4), (.int p5), (.long q6)] ∧ Z.Warmed39 U.vm ∧ U.heap = h0) (fun _ _ _ _ _ => True) (fun _ U o U' => ∃ v L, o = .returned v ∧ Q0 Z p1 p2 p3 p4 p5 q6 h0 n0 v U'.heap L ∧ FrameEnd U o U' L room_1.cells room_1.slots) := by
  refine MetFree.of_bodySF (plainFor_of_name pn_0) hisR ?_
  intro p e s m args below meth c s₁ Bd hml0 hP hK
  obtain ⟨rfl, hZ, hh⟩ := hP
  have hx := Bd.exec
  have hby := Bd.bytes
  have hml : c.maxLocals = 12 := hml0
  have hown : s.vm.findClass "com/example/calpurnia/calpurnia/ranking/BestDocumentsFullPinLaw" = some m.cls := findClass_of_methodNamed Bd.named
  have hnm := (name_of_methodNamed Bd.named Bd.method).1
  have X0 : Stand p l e room_1 s m #[(.int p1), (.int p2), (.int p3), (.int p4), (.int p5), (.long q6)] below meth c s₁ [] 0 0 := Stand.of_body Bd
  have e0 : s₁.heap = h0 := by rw [← hh, Bd.state]; rfl
  have N0 := Fr.nil n0
  have pre0 : ∀ t, Steps p.tables e below (s₁.setTop (mkF m 0 #[.val (.int p1), .val (.int p2), .val (.int p3), .val (.int p4), .val (.int p5), .val (.long q6), .second, .unset, .unset, .unset, .unset, .unset] [])) t → Steps p.tables e below (s₁.setTop (entryFrame m #[(.int p1), (.int p2), (.int p3), (.int p4), (.int p5), (.long q6)] maxLocals)) t := fun t k => castTop (ef_0 m p1 p2 p3 p4 p5 q6) k
  have hC : own_c4 (p1 &&& (3 : Int32)) := own_m3 p1
  obtain ⟨T7, h7, X7, e7, E7, A7, D7, -, st7⟩ := newO X0 hx hZ hown (ww hw 1 rfl) (ww hw 2 rfl) (ww hw 3 rfl) e0 (g := (mkF m 19 #[.val (.int p1), .val (.int p2), .val (.int p3), .val (.int p4), .val (.int p5), .val (.long q6), .second, .val (.int (p1 &&& (3 : Int32))), .val (.int ((p2 &&& (7 : Int32)) % (5 : Int32))), .val (.int (p3 &&& (1073741823 : Int32))), .unset, .unset] [])) rfl (hb hby at_19) (by decide) (by decide)
  obtain ⟨b7, g7⟩ : ∃ z, z = h0.size := ⟨_, rfl⟩
  rw [← g7] at A7 D7 st7
  have F_worstAsRead_b7 : Fld Z h7 b7 sB "worstAsRead" "D" (.double 0) := D7 (Or.inl (ww hw 15 rfl)) (ty := .double) (by decide)
  have F_capacity_b7 : Fld Z h7 b7 sB "capacity" "I" (.int (0 : Int32)) := D7 (Or.inr (ww hw 17 rfl)) (ty := .int) (by decide)
  have F_best_b7 : Fld Z h7 b7 sB "best" "Lcom/example/calpurnia/calpurnia/ranking/BestDocuments$Heap;" .null := D7 (Or.inr (ww hw 32 rfl)) (ty := (.object sH)) (by decide)
  have F_asRead_b7 : Fld Z h7 b7 sB "asRead" "Ljava/util/function/DoubleUnaryOperator;" .null := D7 (Or.inr (ww hw 34 rfl)) (ty := (.object "java/util/function/DoubleUnaryOperator")) (by decide)
  have F_ties_b7 : Fld Z h7 b7 sB "ties" "Lcom/example/calpurnia/calpurnia/ranking/BestDocuments$Ties;" .null := D7 (Or.inr (ww hw 55 rfl)) (ty := (.object sT)) (by decide)
  have F_sorted_b7 : Fld Z h7 b7 sB "sorted" "Z" (.int (0 : Int32)) := D7 (Or.inl (ww hw 73 rfl)) (ty := .boolean) (by decide)
  have E_b7 := A7
  have g_b7 : n0 ≤ b7 := Nat.le_trans Z0 (Nat.le_of_eq g7.symm)
  have sz_b7 : h0.size ≤ b7 := (Nat.le_trans (Keep.refl h0 []).1 (Nat.le_of_eq g7.symm))
  obtain ⟨_, _, ⟨T8, L8, k8, n8⟩, -, X8, ⟨Lc8, hQ8, l8, y8, z8⟩, st8⟩ := X7.specialBack hx (y := (⟨sB, "<init>", "(I)V"⟩ : MethodName)) rfl hown (mvT hZ (ww hw 4 rfl)) (mvT hZ (ww hw 5 rfl)) (mvT hZ (ww hw 6 rfl)) (by decide) (backOf (W := 1) (rm1 l Z a0 hw [] b7 _ _ _ _ _ h7 n0 (Nat.le_trans Z0 E7.1) F_sorted_b7 E_b7 g_b7 F_worstAsRead_b7 F_capacity_b7 F_best_b7 F_asRead_b7 F_ties_b7 _ hC) hZ (ww hw 6 rfl) (ww hw 3 rfl) (by decide) (by decide)) (g := (mkF m 25 #[.val (.int p1), .val (.int p2), .val (.int p3), .val (.int p4), .val (.int p5), .val (.long q6), .second, .val (.int (p1 &&& (3 : Int32))), .val (.int ((p2 &&& (7 : Int32)) % (5 : Int32))), .val (.int (p3 &&& (1073741823 : Int32))), .unset, .unset] [(.int (p1 &&& (3 : Int32))), (.ref b7), (.ref b7)])) rfl (by rw [hml]; rfl) (Steps.refl _) (a := b7) (argsL := [(.int (p1 &&& (3 : Int32)))]) (rest := [(.ref b7)]) (lenOf pd_0_0 rfl) rfl (by show 2 * 0 + _ ≤ _; exact Nat.le_of_eq rfl) (hb hby at_25) (fun _ _ => ⟨rfl, e7, (by decide : 1 + 8 ≤ _), (by decide : 8 + 19 ≤ _)⟩)
  dsimp only [Pt.U, Pt.locs, Pt.cells, Pt.slots] at X8 l8 y8 z8 st8 hQ8
  subst l8 y8 z8
  obtain ⟨rfl, N8q, Kc8, Bc8⟩ := hQ8
  have N8 := Fr.app N0 N8q
  have BB : own_B Z T8.heap n0 b7 (p1 &&& (3 : Int32)) (own_sz (p1 &&& (3 : Int32)) (0 : Int32)) := by rw [own_s0 hC]; exact Bc8
  obtain ⟨cq9, kq9, q9a, q9b, q9c⟩ := isOf hZ rfl (E_b7.keep Kc8)
  obtain ⟨_, _, ⟨T9, L9, k9, n9⟩, -, X9, ⟨Lc9, hQ9, l9, y9, z9⟩, st9⟩ := X8.virtualBack hx (y := (⟨sB, "full", "()Z"⟩ : MethodName)) (z := (⟨sB, "full", "()Z"⟩ : MethodName)) hown (mvT hZ (ww hw 56 rfl)) (mvT hZ (ww hw 57 rfl)) (notFace_of_selects (args := #[]) (mvT hZ (ww hw 59 rfl))) (mvT hZ (ww hw 59 rfl)) (mvT hZ (ww hw 58 rfl)) (by decide) (backOf (W := 0) (rm6 l Z a0 hw [] b7 _ (0 : Int32) T8.heap n0 (Nat.le_trans (Nat.le_trans Z0 E7.1) Kc8.1) BB) hZ (ww hw 60 rfl) (ww hw 3 rfl) (by decide) (by decide)) q9a q9c (g := (mkF m 32 #[.val (.int p1), .val (.int p2), .val (.int p3), .val (.int p4), .val (.int p5), .val (.long q6), .second, .val (.int (p1 &&& (3 : Int32))), .val (.int ((p2 &&& (7 : Int32)) % (5 : Int32))), .val (.int (p3 &&& (1073741823 : Int32))), .val (.ref b7), .unset] [(.ref b7)])) rfl (by rw [hml]; rfl) (Steps.refl _) (argsL := []) (rest := []) (lenOf pd_0_4 rfl) rfl (by show 2 * 0 + _ ≤ _; exact Nat.le_of_eq rfl) (hb hby at_32) (fun _ _ => ⟨rfl, rfl, (by decide : 9 + 0 ≤ _), (by decide : 27 + 0 ≤ _)⟩)
  dsimp only [Pt.U, Pt.locs, Pt.cells, Pt.slots] at X9 l9 y9 z9 st9 hQ9
  subst l9 y9 z9
  obtain ⟨rfl, N9q, eh9⟩ := hQ9
  have N9 := Fr.app N8 N9q
  obtain ⟨T10, X10, e10, st10⟩ := own_j35 (.val (.int p1)) (.val (.int p2)) (.val (.int p3)) (.val (.int p4)) (.val (.int p5)) (.val (.long q6)) (.second) (p1 &&& (3 : Int32)) (.val (.int ((p2 &&& (7 : Int32)) % (5 : Int32)))) (.val (.int (p3 &&& (1073741823 : Int32)))) (.val (.ref b7)) (.unset) (own_g (p1 &&& (3 : Int32)) (0 : Int32)) (by first | exact One.u | exact One.val rfl) hC rfl X9 hx hZ hw hby hml hown eh9
  obtain ⟨_, _, ⟨T11, L11, k11, n11⟩, -, X11, ⟨Lc11, hQ11, l11, y11, z11⟩, st11⟩ := Jvm.LawKit.callS X10 hx (y := (⟨"com/example/calpurnia/calpurnia/ranking/BestDocumentsFullPinLaw", "score", "(I)D"⟩ : MethodName)) hown (mvT hZ (ww hw 63 rfl)) (mvT hZ (ww hw 64 rfl)) (mvT hZ (ww hw 65 rfl)) (mvT hZ (ww hw 66 rfl)) (by decide) (backOf (W := 2) (rm7 l Z a0 hw [] p4  T8.heap n0 (Nat.le_trans (Nat.le_trans Z0 E7.1) Kc8.1)) hZ (ww hw 66 rfl) (ww hw 65 rfl) (by decide) (by decide)) (g := (mkF m 65 #[.val (.int p1), .val (.int p2), .val (.int p3), .val (.int p4), .val (.int p5), .val (.long q6), .second, .val (.int (p1 &&& (3 : Int32))), .val (.int ((p2 &&& (7 : Int32)) % (5 : Int32))), .val (.int (p3 &&& (1073741823 : Int32))), .val (.ref b7), .val (.int (1 : Int32))] [(.int p4), (.int (p3 &&& (1073741823 : Int32))), (.ref b7)])) rfl (by rw [hml]; rfl) (argsL := [(.int p4)]) (rest := [(.int (p3 &&& (1073741823 : Int32))), (.ref b7)]) (lenOf pd_0_5 rfl) rfl (by show 2 * 0 + _ ≤ _; exact Nat.le_of_eq rfl) (hb hby at_65) (fun _ _ => ⟨rfl, e10, (by decide : 9 + 0 ≤ _), (by decide : 27 + 0 ≤ _)⟩)
  dsimp only [Pt.U, Pt.locs, Pt.cells, Pt.slots] at X11 l11 y11 z11 st11 hQ11
  subst l11 y11 z11
  obtain ⟨rfl, N11q, eh11⟩ := hQ11
  have N11 := Fr.app N9 N11q
  obtain ⟨cq12, kq12, q12a, q12b, q12c⟩ := isOf hZ eh11 (E_b7.keep Kc8)
  obtain ⟨_, _, ⟨T12, L12, k12, n12⟩, -, X12, ⟨Lc12, hQ12, l12, y12, z12⟩, st12⟩ := X11.virtualBack hx (y := (⟨sB, "offer", "(ID)V"⟩ : MethodName)) (z := (⟨sB, "offer", "(ID)V"⟩ : MethodName)) hown (mvT hZ (ww hw 67 rfl)) (mvT hZ (ww hw 68 rfl)) (notFace_of_selects (args := #[]) (mvT hZ (ww hw 70 rfl))) (mvT hZ (ww hw 70 rfl)) (mvT hZ (ww hw 69 rfl)) (by decide) (backOf (W := 0) (rm8 l Z a0 hw [] b7 (p3 &&& (1073741823 : Int32)) (FP.i2d ((p4 &&& (255 : Int32)) - (128 : Int32))) _ (0 : Int32) (1 : Int32) T8.heap n0 (Nat.le_trans (Nat.le_trans Z0 E7.1) Kc8.1) hC own_i0 (by decide) BB (Jvm.Free.Fl.i2d_fin _).noNaN) hZ (ww hw 71 rfl) (ww hw 3 rfl) (by decide) (by decide)) q12a q12c (g := (mkF m 68 #[.val (.int p1), .val (.int p2), .val (.int p3), .val (.int p4), .val (.int p5), .val (.long q6), .second, .val (.int (p1 &&& (3 : Int32))), .val (.int ((p2 &&& (7 : Int32)) % (5 : Int32))), .val (.int (p3 &&& (1073741823 : Int32))), .val (.ref b7), .val (.int (1 : Int32))] [(.double (FP.i2d ((p4 &&& (255 : Int32)) - (128 : Int32)))), (.int (p3 &&& (1073741823 : Int32))), (.ref b7)])) rfl (by rw [hml]; rfl) (Steps.refl _) (argsL := [(.int (p3 &&& (1073741823 : Int32))), (.double (FP.i2d ((p4 &&& (255 : Int32)) - (128 : Int32))))]) (rest := []) (lenOf pd_0_6 rfl) rfl (by show 2 * 0 + _ ≤ _; exact Nat.le_of_eq rfl) (hb hby at_68) (fun _ _ => ⟨rfl, eh11, (by decide : 9 + 0 ≤ _), (by decide : 27 + 0 ≤ _)⟩)
  dsimp only [Pt.U, Pt.locs, Pt.cells, Pt.slots] at X12 l12 y12 z12 st12 hQ12
  subst l12 y12 z12
  obtain ⟨rfl, N12q, ⟨hp12, da12, sa12, Kc12⟩, Ec12, Bc12⟩ := hQ12
  have N12 := Fr.app N11 N12q
  have BB := Bc12
  obtain ⟨cq13, kq13, q13a, q13b, q13c⟩ := isOf hZ rfl Ec12
  obtain ⟨_, _, ⟨T13, L13, k13, n13⟩, -, X13, ⟨Lc13, hQ13, l13, y13, z13⟩, st13⟩ := X12.virtualBack hx (y := (⟨sB, "full", "()Z"⟩ : MethodName)) (z := (⟨sB, "full", "()Z"⟩ : MethodName)) hown (mvT hZ (ww hw 56 rfl)) (mvT hZ (ww hw 57 rfl)) (notFace_of_selects (args := #[]) (mvT hZ (ww hw 59 rfl))) (mvT hZ (ww hw 59 rfl)) (mvT hZ (ww hw 58 rfl)) (by decide) (backOf (W := 0) (rm6 l Z a0 hw [] b7 _ (1 : Int32) T12.heap n0 (Nat.le_trans (Nat.le_trans (Nat.le_trans Z0 E7.1) Kc8.1) Kc12.1) BB) hZ (ww hw 60 rfl) (ww hw 3 rfl) (by decide) (by decide)) q13a q13c (g := (mkF m 78 #[.val (.int p1), .val (.int p2), .val (.int p3), .val (.int p4), .val (.int p5), .val (.long q6), .second, .val (.int (p1 &&& (3 : Int32))), .val (.int ((p2 &&& (7 : Int32)) % (5 : Int32))), .val (.int (p3 &&& (1073741823 : Int32))), .val (.ref b7), .val (.int (1 : Int32))] [(.ref b7)])) rfl (by rw [hml]; rfl) (Steps.refl _) (argsL := []) (rest := []) (lenOf pd_0_4 rfl) rfl (by show 2 * 0 + _ ≤ _; exact Nat.le_of_eq rfl) (hb hby at_78) (fun _ _ => ⟨rfl, rfl, (by decide : 9 + 0 ≤ _), (by decide : 27 + 0 ≤ _)⟩)
  dsimp only [Pt.U, Pt.locs, Pt.cells, Pt.slots] at X13 l13 y13 z13 st13 hQ13
  subst l13 y13 z13
  obtain ⟨rfl, N13q, eh13⟩ := hQ13
  have N13 := Fr.app N12 N13q
  obtain ⟨T14, X14, e14, st14⟩ := own_j81 (.val (.int p1)) (.val (.int p2)) (.val (.int p3)) (.val (.int p4)) (.val (.int p5)) (.val (.long q6)) (.second) (p1 &&& (3 : Int32)) (.val (.int ((p2 &&& (7 : Int32)) % (5 : Int32)))) (.val (.int (p3 &&& (1073741823 : Int32)))) (.val (.ref b7)) (.val (.int (1 : Int32))) (own_g (p1 &&& (3 : Int32)) (1 : Int32)) (by first | exact One.u | exact One.val rfl) hC rfl X13 hx hZ hw hby hml hown eh13
  obtain ⟨_, _, ⟨T15, L15, k15, n15⟩, -, X15, ⟨Lc15, hQ15, l15, y15, z15⟩, st15⟩ := Jvm.LawKit.callS X14 hx (y := (⟨"com/example/calpurnia/calpurnia/ranking/BestDocumentsFullPinLaw", "score", "(I)D"⟩ : MethodName)) hown (mvT hZ (ww hw 63 rfl)) (mvT hZ (ww hw 64 rfl)) (mvT hZ (ww hw 65 rfl)) (mvT hZ (ww hw 66 rfl)) (by decide) (backOf (W := 2) (rm7 l Z a0 hw [] p5  T12.heap n0 (Nat.le_trans (Nat.le_trans (Nat.le_trans Z0 E7.1) Kc8.1) Kc12.1)) hZ (ww hw 66 rfl) (ww hw 65 rfl) (by decide) (by decide)) (g := (mkF m 116 #[.val (.int p1), .val (.int p2), .val (.int p3), .val (.int p4), .val (.int p5), .val (.long q6), .second, .val (.int (p1 &&& (3 : Int32))), .val (.int ((p2 &&& (7 : Int32)) % (5 : Int32))), .val (.int (p3 &&& (1073741823 : Int32))), .val (.ref b7), .val (.int (1 : Int32))] [(.int p5), (.int ((p3 &&& (1073741823 : Int32)) + (1 : Int32))), (.ref b7)])) rfl (by rw [hml]; rfl) (argsL := [(.int p5)]) (rest := [(.int ((p3 &&& (1073741823 : Int32)) + (1 : Int32))), (.ref b7)]) (lenOf pd_0_5 rfl) rfl (by show 2 * 0 + _ ≤ _; exact Nat.le_of_eq rfl) (hb hby at_116) (fun _ _ => ⟨rfl, e14, (by decide : 9 + 0 ≤ _), (by decide : 27 + 0 ≤ _)⟩)
  dsimp only [Pt.U, Pt.locs, Pt.cells, Pt.slots] at X15 l15 y15 z15 st15 hQ15
  subst l15 y15 z15
  obtain ⟨rfl, N15q, eh15⟩ := hQ15
  have N15 := Fr.app N13 N15q
  obtain ⟨cq16, kq16, q16a, q16b, q16c⟩ := isOf hZ eh15 Ec12
  obtain ⟨_, _, ⟨T16, L16, k16, n16⟩, -, X16, ⟨Lc16, hQ16, l16, y16, z16⟩, st16⟩ := X15.virtualBack hx (y := (⟨sB, "offer", "(ID)V"⟩ : MethodName)) (z := (⟨sB, "offer", "(ID)V"⟩ : MethodName)) hown (mvT hZ (ww hw 67 rfl)) (mvT hZ (ww hw 68 rfl)) (notFace_of_selects (args := #[]) (mvT hZ (ww hw 70 rfl))) (mvT hZ (ww hw 70 rfl)) (mvT hZ (ww hw 69 rfl)) (by decide) (backOf (W := 0) (rm8 l Z a0 hw [] b7 ((p3 &&& (1073741823 : Int32)) + (1 : Int32)) (FP.i2d ((p5 &&& (255 : Int32)) - (128 : Int32))) _ (1 : Int32) (2 : Int32) T12.heap n0 (Nat.le_trans (Nat.le_trans (Nat.le_trans Z0 E7.1) Kc8.1) Kc12.1) hC own_i1 (by decide) BB (Jvm.Free.Fl.i2d_fin _).noNaN) hZ (ww hw 71 rfl) (ww hw 3 rfl) (by decide) (by decide)) q16a q16c (g := (mkF m 119 #[.val (.int p1), .val (.int p2), .val (.int p3), .val (.int p4), .val (.int p5), .val (.long q6), .second, .val (.int (p1 &&& (3 : Int32))), .val (.int ((p2 &&& (7 : Int32)) % (5 : Int32))), .val (.int (p3 &&& (1073741823 : Int32))), .val (.ref b7), .val (.int (1 : Int32))] [(.double (FP.i2d ((p5 &&& (255 : Int32)) - (128 : Int32)))), (.int ((p3 &&& (1073741823 : Int32)) + (1 : Int32))), (.ref b7)])) rfl (by rw [hml]; rfl) (Steps.refl _) (argsL := [(.int ((p3 &&& (1073741823 : Int32)) + (1 : Int32))), (.double (FP.i2d ((p5 &&& (255 : Int32)) - (128 : Int32))))]) (rest := []) (lenOf pd_0_6 rfl) rfl (by show 2 * 0 + _ ≤ _; exact Nat.le_of_eq rfl) (hb hby at_119) (fun _ _ => ⟨rfl, eh15, (by decide : 9 + 0 ≤ _), (by decide : 27 + 0 ≤ _)⟩)
  dsimp only [Pt.U, Pt.locs, Pt.cells, Pt.slots] at X16 l16 y16 z16 st16 hQ16
  subst l16 y16 z16
  obtain ⟨rfl, N16q, ⟨hp16, da16, sa16, Kc16⟩, Ec16, Bc16⟩ := hQ16
  have N16 := Fr.app N15 N16q
  have BB := Bc16
  obtain ⟨cq17, kq17, q17a, q17b, q17c⟩ := isOf hZ rfl Ec16
  obtain ⟨_, _, ⟨T17, L17, k17, n17⟩, -, X17, ⟨Lc17, hQ17, l17, y17, z17⟩, st17⟩ := X16.virtualBack hx (y := (⟨sB, "full", "()Z"⟩ : MethodName)) (z := (⟨sB, "full", "()Z"⟩ : MethodName)) hown (mvT hZ (ww hw 56 rfl)) (mvT hZ (ww hw 57 rfl)) (notFace_of_selects (args := #[]) (mvT hZ (ww hw 59 rfl))) (mvT hZ (ww hw 59 rfl)) (mvT hZ (ww hw 58 rfl)) (by decide) (backOf (W := 0) (rm6 l Z a0 hw [] b7 _ (2 : Int32) T16.heap n0 (Nat.le_trans (Nat.le_trans (Nat.le_trans (Nat.le_trans Z0 E7.1) Kc8.1) Kc12.1) Kc16.1) BB) hZ (ww hw 60 rfl) (ww hw 3 rfl) (by decide) (by decide)) q17a q17c (g := (mkF m 129 #[.val (.int p1), .val (.int p2), .val (.int p3), .val (.int p4), .val (.int p5), .val (.long q6), .second, .val (.int (p1 &&& (3 : Int32))), .val (.int ((p2 &&& (7 : Int32)) % (5 : Int32))), .val (.int (p3 &&& (1073741823 : Int32))), .val (.ref b7), .val (.int (1 : Int32))] [(.ref b7)])) rfl (by rw [hml]; rfl) (Steps.refl _) (argsL := []) (rest := []) (lenOf pd_0_4 rfl) rfl (by show 2 * 0 + _ ≤ _; exact Nat.le_of_eq rfl) (hb hby at_129) (fun _ _ => ⟨rfl, rfl, (by decide : 9 + 0 ≤ _), (by decide : 27 + 0 ≤ _)⟩)
  dsimp only [Pt.U, Pt.locs, Pt.cells, Pt.slots] at X17 l17 y17 z17 st17 hQ17
  subst l17 y17 z17
  obtain ⟨rfl, N17q, eh17⟩ := hQ17
  have N17 := Fr.app N16 N17q
  obtain ⟨T18, X18, e18, st18⟩ := own_j132 (.val (.int p1)) (.val (.int p2)) (.val (.int p3)) (.val (.int p4)) (.val (.int p5)) (.val (.long q6)) (.second) (p1 &&& (3 : Int32)) (.val (.int ((p2 &&& (7 : Int32)) % (5 : Int32)))) (.val (.int (p3 &&& (1073741823 : Int32)))) (.val (.ref b7)) (.val (.int (1 : Int32))) (own_g (p1 &&& (3 : Int32)) (2 : Int32)) (by first | exact One.u | exact One.val rfl) hC rfl X17 hx hZ hw hby hml hown eh17
  obtain ⟨fs, hr, hrun, hended, hW, hsame⟩ := X18.leave (v := some (.int (1 : Int32))) (fun h => by rw [Bd.returns] at h; cases h)
  refine ⟨_, _, pre0 _ ?_, hrun, hended, _, _, rfl, ?_, ⟨_, rfl⟩, hW, hsame.mono (by decide) (by decide)⟩
  · show Steps _ _ _ (s₁.setTop (mkF m 0 #[.val (.int p1), .val (.int p2), .val (.int p3), .val (.int p4), .val (.int p5), .val (.long q6), .second, .unset, .unset, .unset, .unset, .unset] [])) _
    refine XS.iloadN X0.here hx rfl (hb hby at_0) rfl ?_
    refine XS.iconst X0.here hx rfl (hb hby at_1) ?_
    refine XS.iand X0.here hx rfl (hb hby at_2) rfl ?_
    refine XS.istore X0.here hx rfl (hb hby at_3) rfl (l' := #[.val (.int p1), .val (.int p2), .val (.int p3), .val (.int p4), .val (.int p5), .val (.long q6), .second, .val (.int (p1 &&& (3 : Int32))), .unset, .unset, .unset, .unset]) rfl ?_
    refine XS.iloadN X0.here hx rfl (hb hby at_5) rfl ?_
    refine XS.bipush X0.here hx rfl (hb hby at_6) ?_
    refine XS.iand X0.here hx rfl (hb hby at_8) rfl ?_
    refine XS.iconst X0.here hx rfl (hb hby at_9) ?_
    refine iremM (g := (mkF m 10 #[.val (.int p1), .val (.int p2), .val (.int p3), .val (.int p4), .val (.int p5), .val (.long q6), .second, .val (.int (p1 &&& (3 : Int32))), .unset, .unset, .unset, .unset] [(.int (5 : Int32)), (.int (p2 &&& (7 : Int32)))])) X0 hx rfl (hb hby at_10) rfl (by decide) ?_
    refine XS.istore X0.here hx rfl (hb hby at_11) rfl (l' := #[.val (.int p1), .val (.int p2), .val (.int p3), .val (.int p4), .val (.int p5), .val (.long q6), .second, .val (.int (p1 &&& (3 : Int32))), .val (.int ((p2 &&& (7 : Int32)) % (5 : Int32))), .unset, .unset, .unset]) rfl ?_
    refine XS.iloadN X0.here hx rfl (hb hby at_13) rfl ?_
    refine X0.ldcInt hx hown (mvT hZ (ww hw 0 rfl)) (g := (mkF m 14 #[.val (.int p1), .val (.int p2), .val (.int p3), .val (.int p4), .val (.int p5), .val (.long q6), .second, .val (.int (p1 &&& (3 : Int32))), .val (.int ((p2 &&& (7 : Int32)) % (5 : Int32))), .unset, .unset, .unset] [(.int p3)])) rfl (hb hby at_14) _ ?_
    refine XS.iand X0.here hx rfl (hb hby at_16) rfl ?_
    refine XS.istore X0.here hx rfl (hb hby at_17) rfl (l' := #[.val (.int p1), .val (.int p2), .val (.int p3), .val (.int p4), .val (.int p5), .val (.long q6), .second, .val (.int (p1 &&& (3 : Int32))), .val (.int ((p2 &&& (7 : Int32)) % (5 : Int32))), .val (.int (p3 &&& (1073741823 : Int32))), .unset, .unset]) rfl ?_
    refine st7 _ ?_
    refine XS.dup X7.here hx rfl (hb hby at_22) rfl rfl ?_
    refine XS.iload X7.here hx rfl (hb hby at_23) rfl ?_
    refine st8.trans ?_
    refine XS.astore X8.here hx rfl (hb hby at_28) rfl rfl (l' := #[.val (.int p1), .val (.int p2), .val (.int p3), .val (.int p4), .val (.int p5), .val (.long q6), .second, .val (.int (p1 &&& (3 : Int32))), .val (.int ((p2 &&& (7 : Int32)) % (5 : Int32))), .val (.int (p3 &&& (1073741823 : Int32))), .val (.ref b7), .unset]) rfl ?_
    refine XS.aload X8.here hx rfl (hb hby at_30) rfl rfl ?_
    refine st9.trans ?_
    refine st10 _ ?_
    refine XS.iload X10.here hx rfl (hb hby at_55) rfl ?_
    refine XS.ifNo X10.here hx rfl (hb hby at_57) rfl ((if0 _ _).trans (tlt hc57).2.2.2) ?_
    refine XS.aload X10.here hx rfl (hb hby at_60) rfl rfl ?_
    refine XS.iload X10.here hx rfl (hb hby at_62) rfl ?_
    refine XS.iloadN X10.here hx rfl (hb hby at_64) rfl ?_
    refine st11 _ ?_
    refine st12.trans ?_
    refine XS.iload X12.here hx rfl (hb hby at_71) rfl ?_
    refine XS.ifNo X12.here hx rfl (hb hby at_73) rfl ((if0 _ _).trans (feq (by decide : ¬ ((1 : Int32) = (0 : Int32)))).1) ?_
    refine XS.aload X12.here hx rfl (hb hby at_76) rfl rfl ?_
    refine st13.trans ?_
    refine st14 _ ?_
    refine XS.iload X14.here hx rfl (hb hby at_102) rfl ?_
    refine XS.iconst X14.here hx rfl (hb hby at_104) ?_
    refine XS.icmpNo X14.here hx rfl (hb hby at_105) rfl (tlt hc105).2.2.2 ?_
    refine XS.aload X14.here hx rfl (hb hby at_108) rfl rfl ?_
    refine XS.iload X14.here hx rfl (hb hby at_110) rfl ?_
    refine XS.iconst X14.here hx rfl (hb hby at_112) ?_
    refine XS.iadd X14.here hx rfl (hb hby at_113) rfl ?_
    refine XS.iload X14.here hx rfl (hb hby at_114) rfl ?_
    refine st15 _ ?_
    refine st16.trans ?_
    refine XS.iload X16.here hx rfl (hb hby at_122) rfl ?_
    refine XS.ifNo X16.here hx rfl (hb hby at_124) rfl ((if0 _ _).trans (feq (by decide : ¬ ((1 : Int32) = (0 : Int32)))).1) ?_
    refine XS.aload X16.here hx rfl (hb hby at_127) rfl rfl ?_
    refine st17.trans ?_
    refine st18 _ ?_
    refine XS.iload X18.here hx rfl (hb hby at_153) rfl ?_
    refine XS.iconst X18.here hx rfl (hb hby at_155) ?_
    refine XS.icmpYes X18.here hx rfl (pc0 := 156) (pc' := 205) rfl (hb hby at_156) rfl (flt hc156).2.2.2 (by decide) (by decide) ?_
    refine XS.iload X18.here hx rfl (hb hby at_205) rfl ?_
    refine XS.iconst X18.here hx rfl (hb hby at_207) ?_
    refine XS.icmpYes X18.here hx rfl (pc0 := 208) (pc' := 260) rfl (hb hby at_208) rfl (flt hc208).2.2.2 (by decide) (by decide) ?_
    refine XS.iload X18.here hx rfl (hb hby at_260) rfl ?_
    exact retN X18 hx (t := .boolean) Bd.returns (by simp) (hb hby at_262) hr
  · show Q0 Z p1 p2 p3 p4 p5 q6 h0 n0 _ T18.heap _
    rw [e18]
    exact ⟨rfl, N17⟩
set_option maxRecDepth 65536 in
set_option maxHeartbeats 40000000 in
theorem rm0_3 (l : Launch) (Z : State) (a0 : Array Value) (hw : ∀ d ∈ tables_1, d.before a0 Z = true) (ws : List Jvm.Cond) (p1 : Int32) (p2 : Int32) (p3 : Int32) (p4 : Int32) (p5 : Int32) (q6 : Int64) (h0 : Heap) (n0 : Nat) (Z0 : n0 ≤ h0.size) (hc57 : (0 : Int32) < ((p2 &&& (7 : Int32)) % (5 : Int32))) (hc105 : (1 : Int32) < ((p2 &&& (7 : Int32)) % (5 : Int32))) (hc156 : (2 : Int32) < ((p2 &&& (7 : Int32)) % (5 : Int32))) (hc208 : ¬ ((3 : Int32) < ((p2 &&& (7 : Int32)) % (5 : Int32)))) :
    MetFree l x (head1 (Jvm.Cond.code x code maxLocals ret :: ws) room_1) (fun a U => a = #[(.int p1), (.int p2), (.int p3), (.int p4), (.int p5), (.long q6)] ∧ Z.Warmed39 U.vm ∧ U.heap = h0) (fun _ _ _ _ _ => True) (fun _ U o U' => ∃ v L, o = .returned v ∧ Q0 Z p1 p2 p3 p4 p5 q6 h0 n0 v U'.heap L ∧ FrameEnd U o U' L room_1.cells room_1.slots) := by
  refine MetFree.of_bodySF (plainFor_of_name pn_0) hisR ?_
  intro p e s m args below meth c s₁ Bd hml0 hP hK
  obtain ⟨rfl, hZ, hh⟩ := hP
  have hx := Bd.exec
  have hby := Bd.bytes
  have hml : c.maxLocals = 12 := hml0
  have hown : s.vm.findClass "com/example/calpurnia/calpurnia/ranking/BestDocumentsFullPinLaw" = some m.cls := findClass_of_methodNamed Bd.named
  have hnm := (name_of_methodNamed Bd.named Bd.method).1
  have X0 : Stand p l e room_1 s m #[(.int p1), (.int p2), (.int p3), (.int p4), (.int p5), (.long q6)] below meth c s₁ [] 0 0 := Stand.of_body Bd
  have e0 : s₁.heap = h0 := by rw [← hh, Bd.state]; rfl
  have N0 := Fr.nil n0
  have pre0 : ∀ t, Steps p.tables e below (s₁.setTop (mkF m 0 #[.val (.int p1), .val (.int p2), .val (.int p3), .val (.int p4), .val (.int p5), .val (.long q6), .second, .unset, .unset, .unset, .unset, .unset] [])) t → Steps p.tables e below (s₁.setTop (entryFrame m #[(.int p1), (.int p2), (.int p3), (.int p4), (.int p5), (.long q6)] maxLocals)) t := fun t k => castTop (ef_0 m p1 p2 p3 p4 p5 q6) k
  have hC : own_c4 (p1 &&& (3 : Int32)) := own_m3 p1
  obtain ⟨T7, h7, X7, e7, E7, A7, D7, -, st7⟩ := newO X0 hx hZ hown (ww hw 1 rfl) (ww hw 2 rfl) (ww hw 3 rfl) e0 (g := (mkF m 19 #[.val (.int p1), .val (.int p2), .val (.int p3), .val (.int p4), .val (.int p5), .val (.long q6), .second, .val (.int (p1 &&& (3 : Int32))), .val (.int ((p2 &&& (7 : Int32)) % (5 : Int32))), .val (.int (p3 &&& (1073741823 : Int32))), .unset, .unset] [])) rfl (hb hby at_19) (by decide) (by decide)
  obtain ⟨b7, g7⟩ : ∃ z, z = h0.size := ⟨_, rfl⟩
  rw [← g7] at A7 D7 st7
  have F_worstAsRead_b7 : Fld Z h7 b7 sB "worstAsRead" "D" (.double 0) := D7 (Or.inl (ww hw 15 rfl)) (ty := .double) (by decide)
  have F_capacity_b7 : Fld Z h7 b7 sB "capacity" "I" (.int (0 : Int32)) := D7 (Or.inr (ww hw 17 rfl)) (ty := .int) (by decide)
  have F_best_b7 : Fld Z h7 b7 sB "best" "Lcom/example/calpurnia/calpurnia/ranking/BestDocuments$Heap;" .null := D7 (Or.inr (ww hw 32 rfl)) (ty := (.object sH)) (by decide)
  have F_asRead_b7 : Fld Z h7 b7 sB "asRead" "Ljava/util/function/DoubleUnaryOperator;" .null := D7 (Or.inr (ww hw 34 rfl)) (ty := (.object "java/util/function/DoubleUnaryOperator")) (by decide)
  have F_ties_b7 : Fld Z h7 b7 sB "ties" "Lcom/example/calpurnia/calpurnia/ranking/BestDocuments$Ties;" .null := D7 (Or.inr (ww hw 55 rfl)) (ty := (.object sT)) (by decide)
  have F_sorted_b7 : Fld Z h7 b7 sB "sorted" "Z" (.int (0 : Int32)) := D7 (Or.inl (ww hw 73 rfl)) (ty := .boolean) (by decide)
  have E_b7 := A7
  have g_b7 : n0 ≤ b7 := Nat.le_trans Z0 (Nat.le_of_eq g7.symm)
  have sz_b7 : h0.size ≤ b7 := (Nat.le_trans (Keep.refl h0 []).1 (Nat.le_of_eq g7.symm))
  obtain ⟨_, _, ⟨T8, L8, k8, n8⟩, -, X8, ⟨Lc8, hQ8, l8, y8, z8⟩, st8⟩ := X7.specialBack hx (y := (⟨sB, "<init>", "(I)V"⟩ : MethodName)) rfl hown (mvT hZ (ww hw 4 rfl)) (mvT hZ (ww hw 5 rfl)) (mvT hZ (ww hw 6 rfl)) (by decide) (backOf (W := 1) (rm1 l Z a0 hw [] b7 _ _ _ _ _ h7 n0 (Nat.le_trans Z0 E7.1) F_sorted_b7 E_b7 g_b7 F_worstAsRead_b7 F_capacity_b7 F_best_b7 F_asRead_b7 F_ties_b7 _ hC) hZ (ww hw 6 rfl) (ww hw 3 rfl) (by decide) (by decide)) (g := (mkF m 25 #[.val (.int p1), .val (.int p2), .val (.int p3), .val (.int p4), .val (.int p5), .val (.long q6), .second, .val (.int (p1 &&& (3 : Int32))), .val (.int ((p2 &&& (7 : Int32)) % (5 : Int32))), .val (.int (p3 &&& (1073741823 : Int32))), .unset, .unset] [(.int (p1 &&& (3 : Int32))), (.ref b7), (.ref b7)])) rfl (by rw [hml]; rfl) (Steps.refl _) (a := b7) (argsL := [(.int (p1 &&& (3 : Int32)))]) (rest := [(.ref b7)]) (lenOf pd_0_0 rfl) rfl (by show 2 * 0 + _ ≤ _; exact Nat.le_of_eq rfl) (hb hby at_25) (fun _ _ => ⟨rfl, e7, (by decide : 1 + 8 ≤ _), (by decide : 8 + 19 ≤ _)⟩)
  dsimp only [Pt.U, Pt.locs, Pt.cells, Pt.slots] at X8 l8 y8 z8 st8 hQ8
  subst l8 y8 z8
  obtain ⟨rfl, N8q, Kc8, Bc8⟩ := hQ8
  have N8 := Fr.app N0 N8q
  have BB : own_B Z T8.heap n0 b7 (p1 &&& (3 : Int32)) (own_sz (p1 &&& (3 : Int32)) (0 : Int32)) := by rw [own_s0 hC]; exact Bc8
  obtain ⟨cq9, kq9, q9a, q9b, q9c⟩ := isOf hZ rfl (E_b7.keep Kc8)
  obtain ⟨_, _, ⟨T9, L9, k9, n9⟩, -, X9, ⟨Lc9, hQ9, l9, y9, z9⟩, st9⟩ := X8.virtualBack hx (y := (⟨sB, "full", "()Z"⟩ : MethodName)) (z := (⟨sB, "full", "()Z"⟩ : MethodName)) hown (mvT hZ (ww hw 56 rfl)) (mvT hZ (ww hw 57 rfl)) (notFace_of_selects (args := #[]) (mvT hZ (ww hw 59 rfl))) (mvT hZ (ww hw 59 rfl)) (mvT hZ (ww hw 58 rfl)) (by decide) (backOf (W := 0) (rm6 l Z a0 hw [] b7 _ (0 : Int32) T8.heap n0 (Nat.le_trans (Nat.le_trans Z0 E7.1) Kc8.1) BB) hZ (ww hw 60 rfl) (ww hw 3 rfl) (by decide) (by decide)) q9a q9c (g := (mkF m 32 #[.val (.int p1), .val (.int p2), .val (.int p3), .val (.int p4), .val (.int p5), .val (.long q6), .second, .val (.int (p1 &&& (3 : Int32))), .val (.int ((p2 &&& (7 : Int32)) % (5 : Int32))), .val (.int (p3 &&& (1073741823 : Int32))), .val (.ref b7), .unset] [(.ref b7)])) rfl (by rw [hml]; rfl) (Steps.refl _) (argsL := []) (rest := []) (lenOf pd_0_4 rfl) rfl (by show 2 * 0 + _ ≤ _; exact Nat.le_of_eq rfl) (hb hby at_32) (fun _ _ => ⟨rfl, rfl, (by decide : 9 + 0 ≤ _), (by decide : 27 + 0 ≤ _)⟩)
  dsimp only [Pt.U, Pt.locs, Pt.cells, Pt.slots] at X9 l9 y9 z9 st9 hQ9
  subst l9 y9 z9
  obtain ⟨rfl, N9q, eh9⟩ := hQ9
  have N9 := Fr.app N8 N9q
  obtain ⟨T10, X10, e10, st10⟩ := own_j35 (.val (.int p1)) (.val (.int p2)) (.val (.int p3)) (.val (.int p4)) (.val (.int p5)) (.val (.long q6)) (.second) (p1 &&& (3 : Int32)) (.val (.int ((p2 &&& (7 : Int32)) % (5 : Int32)))) (.val (.int (p3 &&& (1073741823 : Int32)))) (.val (.ref b7)) (.unset) (own_g (p1 &&& (3 : Int32)) (0 : Int32)) (by first | exact One.u | exact One.val rfl) hC rfl X9 hx hZ hw hby hml hown eh9
  obtain ⟨_, _, ⟨T11, L11, k11, n11⟩, -, X11, ⟨Lc11, hQ11, l11, y11, z11⟩, st11⟩ := Jvm.LawKit.callS X10 hx (y := (⟨"com/example/calpurnia/calpurnia/ranking/BestDocumentsFullPinLaw", "score", "(I)D"⟩ : MethodName)) hown (mvT hZ (ww hw 63 rfl)) (mvT hZ (ww hw 64 rfl)) (mvT hZ (ww hw 65 rfl)) (mvT hZ (ww hw 66 rfl)) (by decide) (backOf (W := 2) (rm7 l Z a0 hw [] p4  T8.heap n0 (Nat.le_trans (Nat.le_trans Z0 E7.1) Kc8.1)) hZ (ww hw 66 rfl) (ww hw 65 rfl) (by decide) (by decide)) (g := (mkF m 65 #[.val (.int p1), .val (.int p2), .val (.int p3), .val (.int p4), .val (.int p5), .val (.long q6), .second, .val (.int (p1 &&& (3 : Int32))), .val (.int ((p2 &&& (7 : Int32)) % (5 : Int32))), .val (.int (p3 &&& (1073741823 : Int32))), .val (.ref b7), .val (.int (1 : Int32))] [(.int p4), (.int (p3 &&& (1073741823 : Int32))), (.ref b7)])) rfl (by rw [hml]; rfl) (argsL := [(.int p4)]) (rest := [(.int (p3 &&& (1073741823 : Int32))), (.ref b7)]) (lenOf pd_0_5 rfl) rfl (by show 2 * 0 + _ ≤ _; exact Nat.le_of_eq rfl) (hb hby at_65) (fun _ _ => ⟨rfl, e10, (by decide : 9 + 0 ≤ _), (by decide : 27 + 0 ≤ _)⟩)
  dsimp only [Pt.U, Pt.locs, Pt.cells, Pt.slots] at X11 l11 y11 z11 st11 hQ11
  subst l11 y11 z11
  obtain ⟨rfl, N11q, eh11⟩ := hQ11
  have N11 := Fr.app N9 N11q
  obtain ⟨cq12, kq12, q12a, q12b, q12c⟩ := isOf hZ eh11 (E_b7.keep Kc8)
  obtain ⟨_, _, ⟨T12, L12, k12, n12⟩, -, X12, ⟨Lc12, hQ12, l12, y12, z12⟩, st12⟩ := X11.virtualBack hx (y := (⟨sB, "offer", "(ID)V"⟩ : MethodName)) (z := (⟨sB, "offer", "(ID)V"⟩ : MethodName)) hown (mvT hZ (ww hw 67 rfl)) (mvT hZ (ww hw 68 rfl)) (notFace_of_selects (args := #[]) (mvT hZ (ww hw 70 rfl))) (mvT hZ (ww hw 70 rfl)) (mvT hZ (ww hw 69 rfl)) (by decide) (backOf (W := 0) (rm8 l Z a0 hw [] b7 (p3 &&& (1073741823 : Int32)) (FP.i2d ((p4 &&& (255 : Int32)) - (128 : Int32))) _ (0 : Int32) (1 : Int32) T8.heap n0 (Nat.le_trans (Nat.le_trans Z0 E7.1) Kc8.1) hC own_i0 (by decide) BB (Jvm.Free.Fl.i2d_fin _).noNaN) hZ (ww hw 71 rfl) (ww hw 3 rfl) (by decide) (by decide)) q12a q12c (g := (mkF m 68 #[.val (.int p1), .val (.int p2), .val (.int p3), .val (.int p4), .val (.int p5), .val (.long q6), .second, .val (.int (p1 &&& (3 : Int32))), .val (.int ((p2 &&& (7 : Int32)) % (5 : Int32))), .val (.int (p3 &&& (1073741823 : Int32))), .val (.ref b7), .val (.int (1 : Int32))] [(.double (FP.i2d ((p4 &&& (255 : Int32)) - (128 : Int32)))), (.int (p3 &&& (1073741823 : Int32))), (.ref b7)])) rfl (by rw [hml]; rfl) (Steps.refl _) (argsL := [(.int (p3 &&& (1073741823 : Int32))), (.double (FP.i2d ((p4 &&& (255 : Int32)) - (128 : Int32))))]) (rest := []) (lenOf pd_0_6 rfl) rfl (by show 2 * 0 + _ ≤ _; exact Nat.le_of_eq rfl) (hb hby at_68) (fun _ _ => ⟨rfl, eh11, (by decide : 9 + 0 ≤ _), (by decide : 27 + 0 ≤ _)⟩)
  dsimp only [Pt.U, Pt.locs, Pt.cells, Pt.slots] at X12 l12 y12 z12 st12 hQ12
  subst l12 y12 z12
  obtain ⟨rfl, N12q, ⟨hp12, da12, sa12, Kc12⟩, Ec12, Bc12⟩ := hQ12
  have N12 := Fr.app N11 N12q
  have BB := Bc12
  obtain ⟨cq13, kq13, q13a, q13b, q13c⟩ := isOf hZ rfl Ec12
  obtain ⟨_, _, ⟨T13, L13, k13, n13⟩, -, X13, ⟨Lc13, hQ13, l13, y13, z13⟩, st13⟩ := X12.virtualBack hx (y := (⟨sB, "full", "()Z"⟩ : MethodName)) (z := (⟨sB, "full", "()Z"⟩ : MethodName)) hown (mvT hZ (ww hw 56 rfl)) (mvT hZ (ww hw 57 rfl)) (notFace_of_selects (args := #[]) (mvT hZ (ww hw 59 rfl))) (mvT hZ (ww hw 59 rfl)) (mvT hZ (ww hw 58 rfl)) (by decide) (backOf (W := 0) (rm6 l Z a0 hw [] b7 _ (1 : Int32) T12.heap n0 (Nat.le_trans (Nat.le_trans (Nat.le_trans Z0 E7.1) Kc8.1) Kc12.1) BB) hZ (ww hw 60 rfl) (ww hw 3 rfl) (by decide) (by decide)) q13a q13c (g := (mkF m 78 #[.val (.int p1), .val (.int p2), .val (.int p3), .val (.int p4), .val (.int p5), .val (.long q6), .second, .val (.int (p1 &&& (3 : Int32))), .val (.int ((p2 &&& (7 : Int32)) % (5 : Int32))), .val (.int (p3 &&& (1073741823 : Int32))), .val (.ref b7), .val (.int (1 : Int32))] [(.ref b7)])) rfl (by rw [hml]; rfl) (Steps.refl _) (argsL := []) (rest := []) (lenOf pd_0_4 rfl) rfl (by show 2 * 0 + _ ≤ _; exact Nat.le_of_eq rfl) (hb hby at_78) (fun _ _ => ⟨rfl, rfl, (by decide : 9 + 0 ≤ _), (by decide : 27 + 0 ≤ _)⟩)
  dsimp only [Pt.U, Pt.locs, Pt.cells, Pt.slots] at X13 l13 y13 z13 st13 hQ13
  subst l13 y13 z13
  obtain ⟨rfl, N13q, eh13⟩ := hQ13
  have N13 := Fr.app N12 N13q
  obtain ⟨T14, X14, e14, st14⟩ := own_j81 (.val (.int p1)) (.val (.int p2)) (.val (.int p3)) (.val (.int p4)) (.val (.int p5)) (.val (.long q6)) (.second) (p1 &&& (3 : Int32)) (.val (.int ((p2 &&& (7 : Int32)) % (5 : Int32)))) (.val (.int (p3 &&& (1073741823 : Int32)))) (.val (.ref b7)) (.val (.int (1 : Int32))) (own_g (p1 &&& (3 : Int32)) (1 : Int32)) (by first | exact One.u | exact One.val rfl) hC rfl X13 hx hZ hw hby hml hown eh13
  obtain ⟨_, _, ⟨T15, L15, k15, n15⟩, -, X15, ⟨Lc15, hQ15, l15, y15, z15⟩, st15⟩ := Jvm.LawKit.callS X14 hx (y := (⟨"com/example/calpurnia/calpurnia/ranking/BestDocumentsFullPinLaw", "score", "(I)D"⟩ : MethodName)) hown (mvT hZ (ww hw 63 rfl)) (mvT hZ (ww hw 64 rfl)) (mvT hZ (ww hw 65 rfl)) (mvT hZ (ww hw 66 rfl)) (by decide) (backOf (W := 2) (rm7 l Z a0 hw [] p5  T12.heap n0 (Nat.le_trans (Nat.le_trans (Nat.le_trans Z0 E7.1) Kc8.1) Kc12.1)) hZ (ww hw 66 rfl) (ww hw 65 rfl) (by decide) (by decide)) (g := (mkF m 116 #[.val (.int p1), .val (.int p2), .val (.int p3), .val (.int p4), .val (.int p5), .val (.long q6), .second, .val (.int (p1 &&& (3 : Int32))), .val (.int ((p2 &&& (7 : Int32)) % (5 : Int32))), .val (.int (p3 &&& (1073741823 : Int32))), .val (.ref b7), .val (.int (1 : Int32))] [(.int p5), (.int ((p3 &&& (1073741823 : Int32)) + (1 : Int32))), (.ref b7)])) rfl (by rw [hml]; rfl) (argsL := [(.int p5)]) (rest := [(.int ((p3 &&& (1073741823 : Int32)) + (1 : Int32))), (.ref b7)]) (lenOf pd_0_5 rfl) rfl (by show 2 * 0 + _ ≤ _; exact Nat.le_of_eq rfl) (hb hby at_116) (fun _ _ => ⟨rfl, e14, (by decide : 9 + 0 ≤ _), (by decide : 27 + 0 ≤ _)⟩)
  dsimp only [Pt.U, Pt.locs, Pt.cells, Pt.slots] at X15 l15 y15 z15 st15 hQ15
  subst l15 y15 z15
  obtain ⟨rfl, N15q, eh15⟩ := hQ15
  have N15 := Fr.app N13 N15q
  obtain ⟨cq16, kq16, q16a, q16b, q16c⟩ := isOf hZ eh15 Ec12
  obtain ⟨_, _, ⟨T16, L16, k16, n16⟩, -, X16, ⟨Lc16, hQ16, l16, y16, z16⟩, st16⟩ := X15.virtualBack hx (y := (⟨sB, "offer", "(ID)V"⟩ : MethodName)) (z := (⟨sB, "offer", "(ID)V"⟩ : MethodName)) hown (mvT hZ (ww hw 67 rfl)) (mvT hZ (ww hw 68 rfl)) (notFace_of_selects (args := #[]) (mvT hZ (ww hw 70 rfl))) (mvT hZ (ww hw 70 rfl)) (mvT hZ (ww hw 69 rfl)) (by decide) (backOf (W := 0) (rm8 l Z a0 hw [] b7 ((p3 &&& (1073741823 : Int32)) + (1 : Int32)) (FP.i2d ((p5 &&& (255 : Int32)) - (128 : Int32))) _ (1 : Int32) (2 : Int32) T12.heap n0 (Nat.le_trans (Nat.le_trans (Nat.le_trans Z0 E7.1) Kc8.1) Kc12.1) hC own_i1 (by decide) BB (Jvm.Free.Fl.i2d_fin _).noNaN) hZ (ww hw 71 rfl) (ww hw 3 rfl) (by decide) (by decide)) q16a q16c (g := (mkF m 119 #[.val (.int p1), .val (.int p2), .val (.int p3), .val (.int p4), .val (.int p5), .val (.long q6), .second, .val (.int (p1 &&& (3 : Int32))), .val (.int ((p2 &&& (7 : Int32)) % (5 : Int32))), .val (.int (p3 &&& (1073741823 : Int32))), .val (.ref b7), .val (.int (1 : Int32))] [(.double (FP.i2d ((p5 &&& (255 : Int32)) - (128 : Int32)))), (.int ((p3 &&& (1073741823 : Int32)) + (1 : Int32))), (.ref b7)])) rfl (by rw [hml]; rfl) (Steps.refl _) (argsL := [(.int ((p3 &&& (1073741823 : Int32)) + (1 : Int32))), (.double (FP.i2d ((p5 &&& (255 : Int32)) - (128 : Int32))))]) (rest := []) (lenOf pd_0_6 rfl) rfl (by show 2 * 0 + _ ≤ _; exact Nat.le_of_eq rfl) (hb hby at_119) (fun _ _ => ⟨rfl, eh15, (by decide : 9 + 0 ≤ _), (by decide : 27 + 0 ≤ _)⟩)
  dsimp only [Pt.U, Pt.locs, Pt.cells, Pt.slots] at X16 l16 y16 z16 st16 hQ16
  subst l16 y16 z16
  obtain ⟨rfl, N16q, ⟨hp16, da16, sa16, Kc16⟩, Ec16, Bc16⟩ := hQ16
  have N16 := Fr.app N15 N16q
  have BB := Bc16
  obtain ⟨cq17, kq17, q17a, q17b, q17c⟩ := isOf hZ rfl Ec16
  obtain ⟨_, _, ⟨T17, L17, k17, n17⟩, -, X17, ⟨Lc17, hQ17, l17, y17, z17⟩, st17⟩ := X16.virtualBack hx (y := (⟨sB, "full", "()Z"⟩ : MethodName)) (z := (⟨sB, "full", "()Z"⟩ : MethodName)) hown (mvT hZ (ww hw 56 rfl)) (mvT hZ (ww hw 57 rfl)) (notFace_of_selects (args := #[]) (mvT hZ (ww hw 59 rfl))) (mvT hZ (ww hw 59 rfl)) (mvT hZ (ww hw 58 rfl)) (by decide) (backOf (W := 0) (rm6 l Z a0 hw [] b7 _ (2 : Int32) T16.heap n0 (Nat.le_trans (Nat.le_trans (Nat.le_trans (Nat.le_trans Z0 E7.1) Kc8.1) Kc12.1) Kc16.1) BB) hZ (ww hw 60 rfl) (ww hw 3 rfl) (by decide) (by decide)) q17a q17c (g := (mkF m 129 #[.val (.int p1), .val (.int p2), .val (.int p3), .val (.int p4), .val (.int p5), .val (.long q6), .second, .val (.int (p1 &&& (3 : Int32))), .val (.int ((p2 &&& (7 : Int32)) % (5 : Int32))), .val (.int (p3 &&& (1073741823 : Int32))), .val (.ref b7), .val (.int (1 : Int32))] [(.ref b7)])) rfl (by rw [hml]; rfl) (Steps.refl _) (argsL := []) (rest := []) (lenOf pd_0_4 rfl) rfl (by show 2 * 0 + _ ≤ _; exact Nat.le_of_eq rfl) (hb hby at_129) (fun _ _ => ⟨rfl, rfl, (by decide : 9 + 0 ≤ _), (by decide : 27 + 0 ≤ _)⟩)
  dsimp only [Pt.U, Pt.locs, Pt.cells, Pt.slots] at X17 l17 y17 z17 st17 hQ17
  subst l17 y17 z17
  obtain ⟨rfl, N17q, eh17⟩ := hQ17
  have N17 := Fr.app N16 N17q
  obtain ⟨T18, X18, e18, st18⟩ := own_j132 (.val (.int p1)) (.val (.int p2)) (.val (.int p3)) (.val (.int p4)) (.val (.int p5)) (.val (.long q6)) (.second) (p1 &&& (3 : Int32)) (.val (.int ((p2 &&& (7 : Int32)) % (5 : Int32)))) (.val (.int (p3 &&& (1073741823 : Int32)))) (.val (.ref b7)) (.val (.int (1 : Int32))) (own_g (p1 &&& (3 : Int32)) (2 : Int32)) (by first | exact One.u | exact One.val rfl) hC rfl X17 hx hZ hw hby hml hown eh17
  obtain ⟨_, _, ⟨T19, L19, k19, n19⟩, -, X19, ⟨Lc19, hQ19, l19, y19, z19⟩, st19⟩ := Jvm.LawKit.callS X18 hx (y := (⟨"com/example/calpurnia/calpurnia/ranking/BestDocumentsFullPinLaw", "score", "(I)D"⟩ : MethodName)) hown (mvT hZ (ww hw 63 rfl)) (mvT hZ (ww hw 64 rfl)) (mvT hZ (ww hw 65 rfl)) (mvT hZ (ww hw 66 rfl)) (by decide) (backOf (W := 2) (rm7 l Z a0 hw [] (q6.toInt32)  T16.heap n0 (Nat.le_trans (Nat.le_trans (Nat.le_trans (Nat.le_trans Z0 E7.1) Kc8.1) Kc12.1) Kc16.1)) hZ (ww hw 66 rfl) (ww hw 65 rfl) (by decide) (by decide)) (g := (mkF m 168 #[.val (.int p1), .val (.int p2), .val (.int p3), .val (.int p4), .val (.int p5), .val (.long q6), .second, .val (.int (p1 &&& (3 : Int32))), .val (.int ((p2 &&& (7 : Int32)) % (5 : Int32))), .val (.int (p3 &&& (1073741823 : Int32))), .val (.ref b7), .val (.int (1 : Int32))] [(.int (q6.toInt32)), (.int ((p3 &&& (1073741823 : Int32)) + (2 : Int32))), (.ref b7)])) rfl (by rw [hml]; rfl) (argsL := [(.int (q6.toInt32))]) (rest := [(.int ((p3 &&& (1073741823 : Int32)) + (2 : Int32))), (.ref b7)]) (lenOf pd_0_5 rfl) rfl (by show 2 * 0 + _ ≤ _; exact Nat.le_of_eq rfl) (hb hby at_168) (fun _ _ => ⟨rfl, e18, (by decide : 9 + 0 ≤ _), (by decide : 27 + 0 ≤ _)⟩)
  dsimp only [Pt.U, Pt.locs, Pt.cells, Pt.slots] at X19 l19 y19 z19 st19 hQ19
  subst l19 y19 z19
  obtain ⟨rfl, N19q, eh19⟩ := hQ19
  have N19 := Fr.app N17 N19q
  obtain ⟨cq20, kq20, q20a, q20b, q20c⟩ := isOf hZ eh19 Ec16
  obtain ⟨_, _, ⟨T20, L20, k20, n20⟩, -, X20, ⟨Lc20, hQ20, l20, y20, z20⟩, st20⟩ := X19.virtualBack hx (y := (⟨sB, "offer", "(ID)V"⟩ : MethodName)) (z := (⟨sB, "offer", "(ID)V"⟩ : MethodName)) hown (mvT hZ (ww hw 67 rfl)) (mvT hZ (ww hw 68 rfl)) (notFace_of_selects (args := #[]) (mvT hZ (ww hw 70 rfl))) (mvT hZ (ww hw 70 rfl)) (mvT hZ (ww hw 69 rfl)) (by decide) (backOf (W := 0) (rm8 l Z a0 hw [] b7 ((p3 &&& (1073741823 : Int32)) + (2 : Int32)) (FP.i2d (((q6.toInt32) &&& (255 : Int32)) - (128 : Int32))) _ (2 : Int32) (3 : Int32) T16.heap n0 (Nat.le_trans (Nat.le_trans (Nat.le_trans (Nat.le_trans Z0 E7.1) Kc8.1) Kc12.1) Kc16.1) hC own_i2 (by decide) BB (Jvm.Free.Fl.i2d_fin _).noNaN) hZ (ww hw 71 rfl) (ww hw 3 rfl) (by decide) (by decide)) q20a q20c (g := (mkF m 171 #[.val (.int p1), .val (.int p2), .val (.int p3), .val (.int p4), .val (.int p5), .val (.long q6), .second, .val (.int (p1 &&& (3 : Int32))), .val (.int ((p2 &&& (7 : Int32)) % (5 : Int32))), .val (.int (p3 &&& (1073741823 : Int32))), .val (.ref b7), .val (.int (1 : Int32))] [(.double (FP.i2d (((q6.toInt32) &&& (255 : Int32)) - (128 : Int32)))), (.int ((p3 &&& (1073741823 : Int32)) + (2 : Int32))), (.ref b7)])) rfl (by rw [hml]; rfl) (Steps.refl _) (argsL := [(.int ((p3 &&& (1073741823 : Int32)) + (2 : Int32))), (.double (FP.i2d (((q6.toInt32) &&& (255 : Int32)) - (128 : Int32))))]) (rest := []) (lenOf pd_0_6 rfl) rfl (by show 2 * 0 + _ ≤ _; exact Nat.le_of_eq rfl) (hb hby at_171) (fun _ _ => ⟨rfl, eh19, (by decide : 9 + 0 ≤ _), (by decide : 27 + 0 ≤ _)⟩)
  dsimp only [Pt.U, Pt.locs, Pt.cells, Pt.slots] at X20 l20 y20 z20 st20 hQ20
  subst l20 y20 z20
  obtain ⟨rfl, N20q, ⟨hp20, da20, sa20, Kc20⟩, Ec20, Bc20⟩ := hQ20
  have N20 := Fr.app N19 N20q
  have BB := Bc20
  obtain ⟨cq21, kq21, q21a, q21b, q21c⟩ := isOf hZ rfl Ec20
  obtain ⟨_, _, ⟨T21, L21, k21, n21⟩, -, X21, ⟨Lc21, hQ21, l21, y21, z21⟩, st21⟩ := X20.virtualBack hx (y := (⟨sB, "full", "()Z"⟩ : MethodName)) (z := (⟨sB, "full", "()Z"⟩ : MethodName)) hown (mvT hZ (ww hw 56 rfl)) (mvT hZ (ww hw 57 rfl)) (notFace_of_selects (args := #[]) (mvT hZ (ww hw 59 rfl))) (mvT hZ (ww hw 59 rfl)) (mvT hZ (ww hw 58 rfl)) (by decide) (backOf (W := 0) (rm6 l Z a0 hw [] b7 _ (3 : Int32) T20.heap n0 (Nat.le_trans (Nat.le_trans (Nat.le_trans (Nat.le_trans (Nat.le_trans Z0 E7.1) Kc8.1) Kc12.1) Kc16.1) Kc20.1) BB) hZ (ww hw 60 rfl) (ww hw 3 rfl) (by decide) (by decide)) q21a q21c (g := (mkF m 181 #[.val (.int p1), .val (.int p2), .val (.int p3), .val (.int p4), .val (.int p5), .val (.long q6), .second, .val (.int (p1 &&& (3 : Int32))), .val (.int ((p2 &&& (7 : Int32)) % (5 : Int32))), .val (.int (p3 &&& (1073741823 : Int32))), .val (.ref b7), .val (.int (1 : Int32))] [(.ref b7)])) rfl (by rw [hml]; rfl) (Steps.refl _) (argsL := []) (rest := []) (lenOf pd_0_4 rfl) rfl (by show 2 * 0 + _ ≤ _; exact Nat.le_of_eq rfl) (hb hby at_181) (fun _ _ => ⟨rfl, rfl, (by decide : 9 + 0 ≤ _), (by decide : 27 + 0 ≤ _)⟩)
  dsimp only [Pt.U, Pt.locs, Pt.cells, Pt.slots] at X21 l21 y21 z21 st21 hQ21
  subst l21 y21 z21
  obtain ⟨rfl, N21q, eh21⟩ := hQ21
  have N21 := Fr.app N20 N21q
  obtain ⟨T22, X22, e22, st22⟩ := own_j184 (.val (.int p1)) (.val (.int p2)) (.val (.int p3)) (.val (.int p4)) (.val (.int p5)) (.val (.long q6)) (.second) (p1 &&& (3 : Int32)) (.val (.int ((p2 &&& (7 : Int32)) % (5 : Int32)))) (.val (.int (p3 &&& (1073741823 : Int32)))) (.val (.ref b7)) (.val (.int (1 : Int32))) (own_g (p1 &&& (3 : Int32)) (3 : Int32)) (by first | exact One.u | exact One.val rfl) hC rfl X21 hx hZ hw hby hml hown eh21
  obtain ⟨fs, hr, hrun, hended, hW, hsame⟩ := X22.leave (v := some (.int (1 : Int32))) (fun h => by rw [Bd.returns] at h; cases h)
  refine ⟨_, _, pre0 _ ?_, hrun, hended, _, _, rfl, ?_, ⟨_, rfl⟩, hW, hsame.mono (by decide) (by decide)⟩
  · show Steps _ _ _ (s₁.setTop (mkF m 0 #[.val (.int p1), .val (.int p2), .val (.int p3), .val (.int p4), .val (.int p5), .val (.long q6), .second, .unset, .unset, .unset, .unset, .unset] [])) _
    refine XS.iloadN X0.here hx rfl (hb hby at_0) rfl ?_
    refine XS.iconst X0.here hx rfl (hb hby at_1) ?_
    refine XS.iand X0.here hx rfl (hb hby at_2) rfl ?_
    refine XS.istore X0.here hx rfl (hb hby at_3) rfl (l' := #[.val (.int p1), .val (.int p2), .val (.int p3), .val (.int p4), .val (.int p5), .val (.long q6), .second, .val (.int (p1 &&& (3 : Int32))), .unset, .unset, .unset, .unset]) rfl ?_
    refine XS.iloadN X0.here hx rfl (hb hby at_5) rfl ?_
    refine XS.bipush X0.here hx rfl (hb hby at_6) ?_
    refine XS.iand X0.here hx rfl (hb hby at_8) rfl ?_
    refine XS.iconst X0.here hx rfl (hb hby at_9) ?_
    refine iremM (g := (mkF m 10 #[.val (.int p1), .val (.int p2), .val (.int p3), .val (.int p4), .val (.int p5), .val (.long q6), .second, .val (.int (p1 &&& (3 : Int32))), .unset, .unset, .unset, .unset] [(.int (5 : Int32)), (.int (p2 &&& (7 : Int32)))])) X0 hx rfl (hb hby at_10) rfl (by decide) ?_
    refine XS.istore X0.here hx rfl (hb hby at_11) rfl (l' := #[.val (.int p1), .val (.int p2), .val (.int p3), .val (.int p4), .val (.int p5), .val (.long q6), .second, .val (.int (p1 &&& (3 : Int32))), .val (.int ((p2 &&& (7 : Int32)) % (5 : Int32))), .unset, .unset, .unset]) rfl ?_
    refine XS.iloadN X0.here hx rfl (hb hby at_13) rfl ?_
    refine X0.ldcInt hx hown (mvT hZ (ww hw 0 rfl)) (g := (mkF m 14 #[.val (.int p1), .val (.int p2), .val (.int p3), .val (.int p4), .val (.int p5), .val (.long q6), .second, .val (.int (p1 &&& (3 : Int32))), .val (.int ((p2 &&& (7 : Int32)) % (5 : Int32))), .unset, .unset, .unset] [(.int p3)])) rfl (hb hby at_14) _ ?_
    refine XS.iand X0.here hx rfl (hb hby at_16) rfl ?_
    refine XS.istore X0.here hx rfl (hb hby at_17) rfl (l' := #[.val (.int p1), .val (.int p2), .val (.int p3), .val (.int p4), .val (.int p5), .val (.long q6), .second, .val (.int (p1 &&& (3 : Int32))), .val (.int ((p2 &&& (7 : Int32)) % (5 : Int32))), .val (.int (p3 &&& (1073741823 : Int32))), .unset, .unset]) rfl ?_
    refine st7 _ ?_
    refine XS.dup X7.here hx rfl (hb hby at_22) rfl rfl ?_
    refine XS.iload X7.here hx rfl (hb hby at_23) rfl ?_
    refine st8.trans ?_
    refine XS.astore X8.here hx rfl (hb hby at_28) rfl rfl (l' := #[.val (.int p1), .val (.int p2), .val (.int p3), .val (.int p4), .val (.int p5), .val (.long q6), .second, .val (.int (p1 &&& (3 : Int32))), .val (.int ((p2 &&& (7 : Int32)) % (5 : Int32))), .val (.int (p3 &&& (1073741823 : Int32))), .val (.ref b7), .unset]) rfl ?_
    refine XS.aload X8.here hx rfl (hb hby at_30) rfl rfl ?_
    refine st9.trans ?_
    refine st10 _ ?_
    refine XS.iload X10.here hx rfl (hb hby at_55) rfl ?_
    refine XS.ifNo X10.here hx rfl (hb hby at_57) rfl ((if0 _ _).trans (tlt hc57).2.2.2) ?_
    refine XS.aload X10.here hx rfl (hb hby at_60) rfl rfl ?_
    refine XS.iload X10.here hx rfl (hb hby at_62) rfl ?_
    refine XS.iloadN X10.here hx rfl (hb hby at_64) rfl ?_
    refine st11 _ ?_
    refine st12.trans ?_
    refine XS.iload X12.here hx rfl (hb hby at_71) rfl ?_
    refine XS.ifNo X12.here hx rfl (hb hby at_73) rfl ((if0 _ _).trans (feq (by decide : ¬ ((1 : Int32) = (0 : Int32)))).1) ?_
    refine XS.aload X12.here hx rfl (hb hby at_76) rfl rfl ?_
    refine st13.trans ?_
    refine st14 _ ?_
    refine XS.iload X14.here hx rfl (hb hby at_102) rfl ?_
    refine XS.iconst X14.here hx rfl (hb hby at_104) ?_
    refine XS.icmpNo X14.here hx rfl (hb hby at_105) rfl (tlt hc105).2.2.2 ?_
    refine XS.aload X14.here hx rfl (hb hby at_108) rfl rfl ?_
    refine XS.iload X14.here hx rfl (hb hby at_110) rfl ?_
    refine XS.iconst X14.here hx rfl (hb hby at_112) ?_
    refine XS.iadd X14.here hx rfl (hb hby at_113) rfl ?_
    refine XS.iload X14.here hx rfl (hb hby at_114) rfl ?_
    refine st15 _ ?_
    refine st16.trans ?_
    refine XS.iload X16.here hx rfl (hb hby at_122) rfl ?_
    refine XS.ifNo X16.here hx rfl (hb hby at_124) rfl ((if0 _ _).trans (feq (by decide : ¬ ((1 : Int32) = (0 : Int32)))).1) ?_
    refine XS.aload X16.here hx rfl (hb hby at_127) rfl rfl ?_
    refine st17.trans ?_
    refine st18 _ ?_
    refine XS.iload X18.here hx rfl (hb hby at_153) rfl ?_
    refine XS.iconst X18.here hx rfl (hb hby at_155) ?_
    refine XS.icmpNo X18.here hx rfl (hb hby at_156) rfl (tlt hc156).2.2.2 ?_
    refine XS.aload X18.here hx rfl (hb hby at_159) rfl rfl ?_
    refine XS.iload X18.here hx rfl (hb hby at_161) rfl ?_
    refine XS.iconst X18.here hx rfl (hb hby at_163) ?_
    refine XS.iadd X18.here hx rfl (hb hby at_164) rfl ?_
    refine XS.lload X18.here hx rfl (hb hby at_165) rfl ?_
    refine XS.l2i X18.here hx rfl (hb hby at_167) rfl ?_
    refine st19 _ ?_
    refine st20.trans ?_
    refine XS.iload X20.here hx rfl (hb hby at_174) rfl ?_
    refine XS.ifNo X20.here hx rfl (hb hby at_176) rfl ((if0 _ _).trans (feq (by decide : ¬ ((1 : Int32) = (0 : Int32)))).1) ?_
    refine XS.aload X20.here hx rfl (hb hby at_179) rfl rfl ?_
    refine st21.trans ?_
    refine st22 _ ?_
    refine XS.iload X22.here hx rfl (hb hby at_205) rfl ?_
    refine XS.iconst X22.here hx rfl (hb hby at_207) ?_
    refine XS.icmpYes X22.here hx rfl (pc0 := 208) (pc' := 260) rfl (hb hby at_208) rfl (flt hc208).2.2.2 (by decide) (by decide) ?_
    refine XS.iload X22.here hx rfl (hb hby at_260) rfl ?_
    exact retN X22 hx (t := .boolean) Bd.returns (by simp) (hb hby at_262) hr
  · show Q0 Z p1 p2 p3 p4 p5 q6 h0 n0 _ T22.heap _
    rw [e22]
    exact ⟨rfl, N21⟩
set_option maxRecDepth 65536 in
set_option maxHeartbeats 40000000 in
theorem rm0_4 (l : Launch) (Z : State) (a0 : Array Value) (hw : ∀ d ∈ tables_1, d.before a0 Z = true) (ws : List Jvm.Cond) (p1 : Int32) (p2 : Int32) (p3 : Int32) (p4 : Int32) (p5 : Int32) (q6 : Int64) (h0 : Heap) (n0 : Nat) (Z0 : n0 ≤ h0.size) (hc57 : (0 : Int32) < ((p2 &&& (7 : Int32)) % (5 : Int32))) (hc105 : (1 : Int32) < ((p2 &&& (7 : Int32)) % (5 : Int32))) (hc156 : (2 : Int32) < ((p2 &&& (7 : Int32)) % (5 : Int32))) (hc208 : (3 : Int32) < ((p2 &&& (7 : Int32)) % (5 : Int32))) :
    MetFree l x (head1 (Jvm.Cond.code x code maxLocals ret :: ws) room_1) (fun a U => a = #[(.int p1), (.int p2), (.int p3), (.int p4), (.int p5), (.long q6)] ∧ Z.Warmed39 U.vm ∧ U.heap = h0) (fun _ _ _ _ _ => True) (fun _ U o U' => ∃ v L, o = .returned v ∧ Q0 Z p1 p2 p3 p4 p5 q6 h0 n0 v U'.heap L ∧ FrameEnd U o U' L room_1.cells room_1.slots) := by
  refine MetFree.of_bodySF (plainFor_of_name pn_0) hisR ?_
  intro p e s m args below meth c s₁ Bd hml0 hP hK
  obtain ⟨rfl, hZ, hh⟩ := hP
  have hx := Bd.exec
  have hby := Bd.bytes
  have hml : c.maxLocals = 12 := hml0
  have hown : s.vm.findClass "com/example/calpurnia/calpurnia/ranking/BestDocumentsFullPinLaw" = some m.cls := findClass_of_methodNamed Bd.named
  have hnm := (name_of_methodNamed Bd.named Bd.method).1
  have X0 : Stand p l e room_1 s m #[(.int p1), (.int p2), (.int p3), (.int p4), (.int p5), (.long q6)] below meth c s₁ [] 0 0 := Stand.of_body Bd
  have e0 : s₁.heap = h0 := by rw [← hh, Bd.state]; rfl
  have N0 := Fr.nil n0
  have pre0 : ∀ t, Steps p.tables e below (s₁.setTop (mkF m 0 #[.val (.int p1), .val (.int p2), .val (.int p3), .val (.int p4), .val (.int p5), .val (.long q6), .second, .unset, .unset, .unset, .unset, .unset] [])) t → Steps p.tables e below (s₁.setTop (entryFrame m #[(.int p1), (.int p2), (.int p3), (.int p4), (.int p5), (.long q6)] maxLocals)) t := fun t k => castTop (ef_0 m p1 p2 p3 p4 p5 q6) k
  have hC : own_c4 (p1 &&& (3 : Int32)) := own_m3 p1
  obtain ⟨T7, h7, X7, e7, E7, A7, D7, -, st7⟩ := newO X0 hx hZ hown (ww hw 1 rfl) (ww hw 2 rfl) (ww hw 3 rfl) e0 (g := (mkF m 19 #[.val (.int p1), .val (.int p2), .val (.int p3), .val (.int p4), .val (.int p5), .val (.long q6), .second, .val (.int (p1 &&& (3 : Int32))), .val (.int ((p2 &&& (7 : Int32)) % (5 : Int32))), .val (.int (p3 &&& (1073741823 : Int32))), .unset, .unset] [])) rfl (hb hby at_19) (by decide) (by decide)
  obtain ⟨b7, g7⟩ : ∃ z, z = h0.size := ⟨_, rfl⟩
  rw [← g7] at A7 D7 st7
  have F_worstAsRead_b7 : Fld Z h7 b7 sB "worstAsRead" "D" (.double 0) := D7 (Or.inl (ww hw 15 rfl)) (ty := .double) (by decide)
  have F_capacity_b7 : Fld Z h7 b7 sB "capacity" "I" (.int (0 : Int32)) := D7 (Or.inr (ww hw 17 rfl)) (ty := .int) (by decide)
  have F_best_b7 : Fld Z h7 b7 sB "best" "Lcom/example/calpurnia/calpurnia/ranking/BestDocuments$Heap;" .null := D7 (Or.inr (ww hw 32 rfl)) (ty := (.object sH)) (by decide)
  have F_asRead_b7 : Fld Z h7 b7 sB "asRead" "Ljava/util/function/DoubleUnaryOperator;" .null := D7 (Or.inr (ww hw 34 rfl)) (ty := (.object "java/util/function/DoubleUnaryOperator")) (by decide)
  have F_ties_b7 : Fld Z h7 b7 sB "ties" "Lcom/example/calpurnia/calpurnia/ranking/BestDocuments$Ties;" .null := D7 (Or.inr (ww hw 55 rfl)) (ty := (.object sT)) (by decide)
  have F_sorted_b7 : Fld Z h7 b7 sB "sorted" "Z" (.int (0 : Int32)) := D7 (Or.inl (ww hw 73 rfl)) (ty := .boolean) (by decide)
  have E_b7 := A7
  have g_b7 : n0 ≤ b7 := Nat.le_trans Z0 (Nat.le_of_eq g7.symm)
  have sz_b7 : h0.size ≤ b7 := (Nat.le_trans (Keep.refl h0 []).1 (Nat.le_of_eq g7.symm))
  obtain ⟨_, _, ⟨T8, L8, k8, n8⟩, -, X8, ⟨Lc8, hQ8, l8, y8, z8⟩, st8⟩ := X7.specialBack hx (y := (⟨sB, "<init>", "(I)V"⟩ : MethodName)) rfl hown (mvT hZ (ww hw 4 rfl)) (mvT hZ (ww hw 5 rfl)) (mvT hZ (ww hw 6 rfl)) (by decide) (backOf (W := 1) (rm1 l Z a0 hw [] b7 _ _ _ _ _ h7 n0 (Nat.le_trans Z0 E7.1) F_sorted_b7 E_b7 g_b7 F_worstAsRead_b7 F_capacity_b7 F_best_b7 F_asRead_b7 F_ties_b7 _ hC) hZ (ww hw 6 rfl) (ww hw 3 rfl) (by decide) (by decide)) (g := (mkF m 25 #[.val (.int p1), .val (.int p2), .val (.int p3), .val (.int p4), .val (.int p5), .val (.long q6), .second, .val (.int (p1 &&& (3 : Int32))), .val (.int ((p2 &&& (7 : Int32)) % (5 : Int32))), .val (.int (p3 &&& (1073741823 : Int32))), .unset, .unset] [(.int (p1 &&& (3 : Int32))), (.ref b7), (.ref b7)])) rfl (by rw [hml]; rfl) (Steps.refl _) (a := b7) (argsL := [(.int (p1 &&& (3 : Int32)))]) (rest := [(.ref b7)]) (lenOf pd_0_0 rfl) rfl (by show 2 * 0 + _ ≤ _; exact Nat.le_of_eq rfl) (hb hby at_25) (fun _ _ => ⟨rfl, e7, (by decide : 1 + 8 ≤ _), (by decide : 8 + 19 ≤ _)⟩)
  dsimp only [Pt.U, Pt.locs, Pt.cells, Pt.slots] at X8 l8 y8 z8 st8 hQ8
  subst l8 y8 z8
  obtain ⟨rfl, N8q, Kc8, Bc8⟩ := hQ8
  have N8 := Fr.app N0 N8q
  have BB : own_B Z T8.heap n0 b7 (p1 &&& (3 : Int32)) (own_sz (p1 &&& (3 : Int32)) (0 : Int32)) := by rw [own_s0 hC]; exact Bc8
  obtain ⟨cq9, kq9, q9a, q9b, q9c⟩ := isOf hZ rfl (E_b7.keep Kc8)
  obtain ⟨_, _, ⟨T9, L9, k9, n9⟩, -, X9, ⟨Lc9, hQ9, l9, y9, z9⟩, st9⟩ := X8.virtualBack hx (y := (⟨sB, "full", "()Z"⟩ : MethodName)) (z := (⟨sB, "full", "()Z"⟩ : MethodName)) hown (mvT hZ (ww hw 56 rfl)) (mvT hZ (ww hw 57 rfl)) (notFace_of_selects (args := #[]) (mvT hZ (ww hw 59 rfl))) (mvT hZ (ww hw 59 rfl)) (mvT hZ (ww hw 58 rfl)) (by decide) (backOf (W := 0) (rm6 l Z a0 hw [] b7 _ (0 : Int32) T8.heap n0 (Nat.le_trans (Nat.le_trans Z0 E7.1) Kc8.1) BB) hZ (ww hw 60 rfl) (ww hw 3 rfl) (by decide) (by decide)) q9a q9c (g := (mkF m 32 #[.val (.int p1), .val (.int p2), .val (.int p3), .val (.int p4), .val (.int p5), .val (.long q6), .second, .val (.int (p1 &&& (3 : Int32))), .val (.int ((p2 &&& (7 : Int32)) % (5 : Int32))), .val (.int (p3 &&& (1073741823 : Int32))), .val (.ref b7), .unset] [(.ref b7)])) rfl (by rw [hml]; rfl) (Steps.refl _) (argsL := []) (rest := []) (lenOf pd_0_4 rfl) rfl (by show 2 * 0 + _ ≤ _; exact Nat.le_of_eq rfl) (hb hby at_32) (fun _ _ => ⟨rfl, rfl, (by decide : 9 + 0 ≤ _), (by decide : 27 + 0 ≤ _)⟩)
  dsimp only [Pt.U, Pt.locs, Pt.cells, Pt.slots] at X9 l9 y9 z9 st9 hQ9
  subst l9 y9 z9
  obtain ⟨rfl, N9q, eh9⟩ := hQ9
  have N9 := Fr.app N8 N9q
  obtain ⟨T10, X10, e10, st10⟩ := own_j35 (.val (.int p1)) (.val (.int p2)) (.val (.int p3)) (.val (.int p4)) (.val (.int p5)) (.val (.long q6)) (.second) (p1 &&& (3 : Int32)) (.val (.int ((p2 &&& (7 : Int32)) % (5 : Int32)))) (.val (.int (p3 &&& (1073741823 : Int32)))) (.val (.ref b7)) (.unset) (own_g (p1 &&& (3 : Int32)) (0 : Int32)) (by first | exact One.u | exact One.val rfl) hC rfl X9 hx hZ hw hby hml hown eh9
  obtain ⟨_, _, ⟨T11, L11, k11, n11⟩, -, X11, ⟨Lc11, hQ11, l11, y11, z11⟩, st11⟩ := Jvm.LawKit.callS X10 hx (y := (⟨"com/example/calpurnia/calpurnia/ranking/BestDocumentsFullPinLaw", "score", "(I)D"⟩ : MethodName)) hown (mvT hZ (ww hw 63 rfl)) (mvT hZ (ww hw 64 rfl)) (mvT hZ (ww hw 65 rfl)) (mvT hZ (ww hw 66 rfl)) (by decide) (backOf (W := 2) (rm7 l Z a0 hw [] p4  T8.heap n0 (Nat.le_trans (Nat.le_trans Z0 E7.1) Kc8.1)) hZ (ww hw 66 rfl) (ww hw 65 rfl) (by decide) (by decide)) (g := (mkF m 65 #[.val (.int p1), .val (.int p2), .val (.int p3), .val (.int p4), .val (.int p5), .val (.long q6), .second, .val (.int (p1 &&& (3 : Int32))), .val (.int ((p2 &&& (7 : Int32)) % (5 : Int32))), .val (.int (p3 &&& (1073741823 : Int32))), .val (.ref b7), .val (.int (1 : Int32))] [(.int p4), (.int (p3 &&& (1073741823 : Int32))), (.ref b7)])) rfl (by rw [hml]; rfl) (argsL := [(.int p4)]) (rest := [(.int (p3 &&& (1073741823 : Int32))), (.ref b7)]) (lenOf pd_0_5 rfl) rfl (by show 2 * 0 + _ ≤ _; exact Nat.le_of_eq rfl) (hb hby at_65) (fun _ _ => ⟨rfl, e10, (by decide : 9 + 0 ≤ _), (by decide : 27 + 0 ≤ _)⟩)
  dsimp only [Pt.U, Pt.locs, Pt.cells, Pt.slots] at X11 l11 y11 z11 st11 hQ11
  subst l11 y11 z11
  obtain ⟨rfl, N11q, eh11⟩ := hQ11
  have N11 := Fr.app N9 N11q
  obtain ⟨cq12, kq12, q12a, q12b, q12c⟩ := isOf hZ eh11 (E_b7.keep Kc8)
  obtain ⟨_, _, ⟨T12, L12, k12, n12⟩, -, X12, ⟨Lc12, hQ12, l12, y12, z12⟩, st12⟩ := X11.virtualBack hx (y := (⟨sB, "offer", "(ID)V"⟩ : MethodName)) (z := (⟨sB, "offer", "(ID)V"⟩ : MethodName)) hown (mvT hZ (ww hw 67 rfl)) (mvT hZ (ww hw 68 rfl)) (notFace_of_selects (args := #[]) (mvT hZ (ww hw 70 rfl))) (mvT hZ (ww hw 70 rfl)) (mvT hZ (ww hw 69 rfl)) (by decide) (backOf (W := 0) (rm8 l Z a0 hw [] b7 (p3 &&& (1073741823 : Int32)) (FP.i2d ((p4 &&& (255 : Int32)) - (128 : Int32))) _ (0 : Int32) (1 : Int32) T8.heap n0 (Nat.le_trans (Nat.le_trans Z0 E7.1) Kc8.1) hC own_i0 (by decide) BB (Jvm.Free.Fl.i2d_fin _).noNaN) hZ (ww hw 71 rfl) (ww hw 3 rfl) (by decide) (by decide)) q12a q12c (g := (mkF m 68 #[.val (.int p1), .val (.int p2), .val (.int p3), .val (.int p4), .val (.int p5), .val (.long q6), .second, .val (.int (p1 &&& (3 : Int32))), .val (.int ((p2 &&& (7 : Int32)) % (5 : Int32))), .val (.int (p3 &&& (1073741823 : Int32))), .val (.ref b7), .val (.int (1 : Int32))] [(.double (FP.i2d ((p4 &&& (255 : Int32)) - (128 : Int32)))), (.int (p3 &&& (1073741823 : Int32))), (.ref b7)])) rfl (by rw [hml]; rfl) (Steps.refl _) (argsL := [(.int (p3 &&& (1073741823 : Int32))), (.double (FP.i2d ((p4 &&& (255 : Int32)) - (128 : Int32))))]) (rest := []) (lenOf pd_0_6 rfl) rfl (by show 2 * 0 + _ ≤ _; exact Nat.le_of_eq rfl) (hb hby at_68) (fun _ _ => ⟨rfl, eh11, (by decide : 9 + 0 ≤ _), (by decide : 27 + 0 ≤ _)⟩)
  dsimp only [Pt.U, Pt.locs, Pt.cells, Pt.slots] at X12 l12 y12 z12 st12 hQ12
  subst l12 y12 z12
  obtain ⟨rfl, N12q, ⟨hp12, da12, sa12, Kc12⟩, Ec12, Bc12⟩ := hQ12
  have N12 := Fr.app N11 N12q
  have BB := Bc12
  obtain ⟨cq13, kq13, q13a, q13b, q13c⟩ := isOf hZ rfl Ec12
  obtain ⟨_, _, ⟨T13, L13, k13, n13⟩, -, X13, ⟨Lc13, hQ13, l13, y13, z13⟩, st13⟩ := X12.virtualBack hx (y := (⟨sB, "full", "()Z"⟩ : MethodName)) (z := (⟨sB, "full", "()Z"⟩ : MethodName)) hown (mvT hZ (ww hw 56 rfl)) (mvT hZ (ww hw 57 rfl)) (notFace_of_selects (args := #[]) (mvT hZ (ww hw 59 rfl))) (mvT hZ (ww hw 59 rfl)) (mvT hZ (ww hw 58 rfl)) (by decide) (backOf (W := 0) (rm6 l Z a0 hw [] b7 _ (1 : Int32) T12.heap n0 (Nat.le_trans (Nat.le_trans (Nat.le_trans Z0 E7.1) Kc8.1) Kc12.1) BB) hZ (ww hw 60 rfl) (ww hw 3 rfl) (by decide) (by decide)) q13a q13c (g := (mkF m 78 #[.val (.int p1), .val (.int p2), .val (.int p3), .val (.int p4), .val (.int p5), .val (.long q6), .second, .val (.int (p1 &&& (3 : Int32))), .val (.int ((p2 &&& (7 : Int32)) % (5 : Int32))), .val (.int (p3 &&& (1073741823 : Int32))), .val (.ref b7), .val (.int (1 : Int32))] [(.ref b7)])) rfl (by rw [hml]; rfl) (Steps.refl _) (argsL := []) (rest := []) (lenOf pd_0_4 rfl) rfl (by show 2 * 0 + _ ≤ _; exact Nat.le_of_eq rfl) (hb hby at_78) (fun _ _ => ⟨rfl, rfl, (by decide : 9 + 0 ≤ _), (by decide : 27 + 0 ≤ _)⟩)
  dsimp only [Pt.U, Pt.locs, Pt.cells, Pt.slots] at X13 l13 y13 z13 st13 hQ13
  subst l13 y13 z13
  obtain ⟨rfl, N13q, eh13⟩ := hQ13
  have N13 := Fr.app N12 N13q
  obtain ⟨T14, X14, e14, st14⟩ := own_j81 (.val (.int p1)) (.val (.int p2)) (.val (.int p3)) (.val (.int p4)) (.val (.int p5)) (.val (.long q6)) (.second) (p1 &&& (3 : Int32)) (.val (.int ((p2 &&& (7 : Int32)) % (5 : Int32)))) (.val (.int (p3 &&& (1073741823 : Int32)))) (.val (.ref b7)) (.val (.int (1 : Int32))) (own_g (p1 &&& (3 : Int32)) (1 : Int32)) (by first | exact One.u | exact One.val rfl) hC rfl X13 hx hZ hw hby hml hown eh13
  obtain ⟨_, _, ⟨T15, L15, k15, n15⟩, -, X15, ⟨Lc15, hQ15, l15, y15, z15⟩, st15⟩ := Jvm.LawKit.callS X14 hx (y := (⟨"com/example/calpurnia/calpurnia/ranking/BestDocumentsFullPinLaw", "score", "(I)D"⟩ : MethodName)) hown (mvT hZ (ww hw 63 rfl)) (mvT hZ (ww hw 64 rfl)) (mvT hZ (ww hw 65 rfl)) (mvT hZ (ww hw 66 rfl)) (by decide) (backOf (W := 2) (rm7 l Z a0 hw [] p5  T12.heap n0 (Nat.le_trans (Nat.le_trans (Nat.le_trans Z0 E7.1) Kc8.1) Kc12.1)) hZ (ww hw 66 rfl) (ww hw 65 rfl) (by decide) (by decide)) (g := (mkF m 116 #[.val (.int p1), .val (.int p2), .val (.int p3), .val (.int p4), .val (.int p5), .val (.long q6), .second, .val (.int (p1 &&& (3 : Int32))), .val (.int ((p2 &&& (7 : Int32)) % (5 : Int32))), .val (.int (p3 &&& (1073741823 : Int32))), .val (.ref b7), .val (.int (1 : Int32))] [(.int p5), (.int ((p3 &&& (1073741823 : Int32)) + (1 : Int32))), (.ref b7)])) rfl (by rw [hml]; rfl) (argsL := [(.int p5)]) (rest := [(.int ((p3 &&& (1073741823 : Int32)) + (1 : Int32))), (.ref b7)]) (lenOf pd_0_5 rfl) rfl (by show 2 * 0 + _ ≤ _; exact Nat.le_of_eq rfl) (hb hby at_116) (fun _ _ => ⟨rfl, e14, (by decide : 9 + 0 ≤ _), (by decide : 27 + 0 ≤ _)⟩)
  dsimp only [Pt.U, Pt.locs, Pt.cells, Pt.slots] at X15 l15 y15 z15 st15 hQ15
  subst l15 y15 z15
  obtain ⟨rfl, N15q, eh15⟩ := hQ15
  have N15 := Fr.app N13 N15q
  obtain ⟨cq16, kq16, q16a, q16b, q16c⟩ := isOf hZ eh15 Ec12
  obtain ⟨_, _, ⟨T16, L16, k16, n16⟩, -, X16, ⟨Lc16, hQ16, l16, y16, z16⟩, st16⟩ := X15.virtualBack hx (y := (⟨sB, "offer", "(ID)V"⟩ : MethodName)) (z := (⟨sB, "offer", "(ID)V"⟩ : MethodName)) hown (mvT hZ (ww hw 67 rfl)) (mvT hZ (ww hw 68 rfl)) (notFace_of_selects (args := #[]) (mvT hZ (ww hw 70 rfl))) (mvT hZ (ww hw 70 rfl)) (mvT hZ (ww hw 69 rfl)) (by decide) (backOf (W := 0) (rm8 l Z a0 hw [] b7 ((p3 &&& (1073741823 : Int32)) + (1 : Int32)) (FP.i2d ((p5 &&& (255 : Int32)) - (128 : Int32))) _ (1 : Int32) (2 : Int32) T12.heap n0 (Nat.le_trans (Nat.le_trans (Nat.le_trans Z0 E7.1) Kc8.1) Kc12.1) hC own_i1 (by decide) BB (Jvm.Free.Fl.i2d_fin _).noNaN) hZ (ww hw 71 rfl) (ww hw 3 rfl) (by decide) (by decide)) q16a q16c (g := (mkF m 119 #[.val (.int p1), .val (.int p2), .val (.int p3), .val (.int p4), .val (.int p5), .val (.long q6), .second, .val (.int (p1 &&& (3 : Int32))), .val (.int ((p2 &&& (7 : Int32)) % (5 : Int32))), .val (.int (p3 &&& (1073741823 : Int32))), .val (.ref b7), .val (.int (1 : Int32))] [(.double (FP.i2d ((p5 &&& (255 : Int32)) - (128 : Int32)))), (.int ((p3 &&& (1073741823 : Int32)) + (1 : Int32))), (.ref b7)])) rfl (by rw [hml]; rfl) (Steps.refl _) (argsL := [(.int ((p3 &&& (1073741823 : Int32)) + (1 : Int32))), (.double (FP.i2d ((p5 &&& (255 : Int32)) - (128 : Int32))))]) (rest := []) (lenOf pd_0_6 rfl) rfl (by show 2 * 0 + _ ≤ _; exact Nat.le_of_eq rfl) (hb hby at_119) (fun _ _ => ⟨rfl, eh15, (by decide : 9 + 0 ≤ _), (by decide : 27 + 0 ≤ _)⟩)
  dsimp only [Pt.U, Pt.locs, Pt.cells, Pt.slots] at X16 l16 y16 z16 st16 hQ16
  subst l16 y16 z16
  obtain ⟨rfl, N16q, ⟨hp16, da16, sa16, Kc16⟩, Ec16, Bc16⟩ := hQ16
  have N16 := Fr.app N15 N16q
  have BB := Bc16
  obtain ⟨cq17, kq17, q17a, q17b, q17c⟩ := isOf hZ rfl Ec16
  obtain ⟨_, _, ⟨T17, L17, k17, n17⟩, -, X17, ⟨Lc17, hQ17, l17, y17, z17⟩, st17⟩ := X16.virtualBack hx (y := (⟨sB, "full", "()Z"⟩ : MethodName)) (z := (⟨sB, "full", "()Z"⟩ : MethodName)) hown (mvT hZ (ww hw 56 rfl)) (mvT hZ (ww hw 57 rfl)) (notFace_of_selects (args := #[]) (mvT hZ (ww hw 59 rfl))) (mvT hZ (ww hw 59 rfl)) (mvT hZ (ww hw 58 rfl)) (by decide) (backOf (W := 0) (rm6 l Z a0 hw [] b7 _ (2 : Int32) T16.heap n0 (Nat.le_trans (Nat.le_trans (Nat.le_trans (Nat.le_trans Z0 E7.1) Kc8.1) Kc12.1) Kc16.1) BB) hZ (ww hw 60 rfl) (ww hw 3 rfl) (by decide) (by decide)) q17a q17c (g := (mkF m 129 #[.val (.int p1), .val (.int p2), .val (.int p3), .val (.int p4), .val (.int p5), .val (.long q6), .second, .val (.int (p1 &&& (3 : Int32))), .val (.int ((p2 &&& (7 : Int32)) % (5 : Int32))), .val (.int (p3 &&& (1073741823 : Int32))), .val (.ref b7), .val (.int (1 : Int32))] [(.ref b7)])) rfl (by rw [hml]; rfl) (Steps.refl _) (argsL := []) (rest := []) (lenOf pd_0_4 rfl) rfl (by show 2 * 0 + _ ≤ _; exact Nat.le_of_eq rfl) (hb hby at_129) (fun _ _ => ⟨rfl, rfl, (by decide : 9 + 0 ≤ _), (by decide : 27 + 0 ≤ _)⟩)
  dsimp only [Pt.U, Pt.locs, Pt.cells, Pt.slots] at X17 l17 y17 z17 st17 hQ17
  subst l17 y17 z17
  obtain ⟨rfl, N17q, eh17⟩ := hQ17
  have N17 := Fr.app N16 N17q
  obtain ⟨T18, X18, e18, st18⟩ := own_j132 (.val (.int p1)) (.val (.int p2)) (.val (.int p3)) (.val (.int p4)) (.val (.int p5)) (.val (.long q6)) (.second) (p1 &&& (3 : Int32)) (.val (.int ((p2 &&& (7 : Int32)) % (5 : Int32)))) (.val (.int (p3 &&& (1073741823 : Int32)))) (.val (.ref b7)) (.val (.int (1 : Int32))) (own_g (p1 &&& (3 : Int32)) (2 : Int32)) (by first | exact One.u | exact One.val rfl) hC rfl X17 hx hZ hw hby hml hown eh17
  obtain ⟨_, _, ⟨T19, L19, k19, n19⟩, -, X19, ⟨Lc19, hQ19, l19, y19, z19⟩, st19⟩ := Jvm.LawKit.callS X18 hx (y := (⟨"com/example/calpurnia/calpurnia/ranking/BestDocumentsFullPinLaw", "score", "(I)D"⟩ : MethodName)) hown (mvT hZ (ww hw 63 rfl)) (mvT hZ (ww hw 64 rfl)) (mvT hZ (ww hw 65 rfl)) (mvT hZ (ww hw 66 rfl)) (by decide) (backOf (W := 2) (rm7 l Z a0 hw [] (q6.toInt32)  T16.heap n0 (Nat.le_trans (Nat.le_trans (Nat.le_trans (Nat.le_trans Z0 E7.1) Kc8.1) Kc12.1) Kc16.1)) hZ (ww hw 66 rfl) (ww hw 65 rfl) (by decide) (by decide)) (g := (mkF m 168 #[.val (.int p1), .val (.int p2), .val (.int p3), .val (.int p4), .val (.int p5), .val (.long q6), .second, .val (.int (p1 &&& (3 : Int32))), .val (.int ((p2 &&& (7 : Int32)) % (5 : Int32))), .val (.int (p3 &&& (1073741823 : Int32))), .val (.ref b7), .val (.int (1 : Int32))] [(.int (q6.toInt32)), (.int ((p3 &&& (1073741823 : Int32)) + (2 : Int32))), (.ref b7)])) rfl (by rw [hml]; rfl) (argsL := [(.int (q6.toInt32))]) (rest := [(.int ((p3 &&& (1073741823 : Int32)) + (2 : Int32))), (.ref b7)]) (lenOf pd_0_5 rfl) rfl (by show 2 * 0 + _ ≤ _; exact Nat.le_of_eq rfl) (hb hby at_168) (fun _ _ => ⟨rfl, e18, (by decide : 9 + 0 ≤ _), (by decide : 27 + 0 ≤ _)⟩)
  dsimp only [Pt.U, Pt.locs, Pt.cells, Pt.slots] at X19 l19 y19 z19 st19 hQ19
  subst l19 y19 z19
  obtain ⟨rfl, N19q, eh19⟩ := hQ19
  have N19 := Fr.app N17 N19q
  obtain ⟨cq20, kq20, q20a, q20b, q20c⟩ := isOf hZ eh19 Ec16
  obtain ⟨_, _, ⟨T20, L20, k20, n20⟩, -, X20, ⟨Lc20, hQ20, l20, y20, z20⟩, st20⟩ := X19.virtualBack hx (y := (⟨sB, "offer", "(ID)V"⟩ : MethodName)) (z := (⟨sB, "offer", "(ID)V"⟩ : MethodName)) hown (mvT hZ (ww hw 67 rfl)) (mvT hZ (ww hw 68 rfl)) (notFace_of_selects (args := #[]) (mvT hZ (ww hw 70 rfl))) (mvT hZ (ww hw 70 rfl)) (mvT hZ (ww hw 69 rfl)) (by decide) (backOf (W := 0) (rm8 l Z a0 hw [] b7 ((p3 &&& (1073741823 : Int32)) + (2 : Int32)) (FP.i2d (((q6.toInt32) &&& (255 : Int32)) - (128 : Int32))) _ (2 : Int32) (3 : Int32) T16.heap n0 (Nat.le_trans (Nat.le_trans (Nat.le_trans (Nat.le_trans Z0 E7.1) Kc8.1) Kc12.1) Kc16.1) hC own_i2 (by decide) BB (Jvm.Free.Fl.i2d_fin _).noNaN) hZ (ww hw 71 rfl) (ww hw 3 rfl) (by decide) (by decide)) q20a q20c (g := (mkF m 171 #[.val (.int p1), .val (.int p2), .val (.int p3), .val (.int p4), .val (.int p5), .val (.long q6), .second, .val (.int (p1 &&& (3 : Int32))), .val (.int ((p2 &&& (7 : Int32)) % (5 : Int32))), .val (.int (p3 &&& (1073741823 : Int32))), .val (.ref b7), .val (.int (1 : Int32))] [(.double (FP.i2d (((q6.toInt32) &&& (255 : Int32)) - (128 : Int32)))), (.int ((p3 &&& (1073741823 : Int32)) + (2 : Int32))), (.ref b7)])) rfl (by rw [hml]; rfl) (Steps.refl _) (argsL := [(.int ((p3 &&& (1073741823 : Int32)) + (2 : Int32))), (.double (FP.i2d (((q6.toInt32) &&& (255 : Int32)) - (128 : Int32))))]) (rest := []) (lenOf pd_0_6 rfl) rfl (by show 2 * 0 + _ ≤ _; exact Nat.le_of_eq rfl) (hb hby at_171) (fun _ _ => ⟨rfl, eh19, (by decide : 9 + 0 ≤ _), (by decide : 27 + 0 ≤ _)⟩)
  dsimp only [Pt.U, Pt.locs, Pt.cells, Pt.slots] at X20 l20 y20 z20 st20 hQ20
  subst l20 y20 z20
  obtain ⟨rfl, N20q, ⟨hp20, da20, sa20, Kc20⟩, Ec20, Bc20⟩ := hQ20
  have N20 := Fr.app N19 N20q
  have BB := Bc20
  obtain ⟨cq21, kq21, q21a, q21b, q21c⟩ := isOf hZ rfl Ec20
  obtain ⟨_, _, ⟨T21, L21, k21, n21⟩, -, X21, ⟨Lc21, hQ21, l21, y21, z21⟩, st21⟩ := X20.virtualBack hx (y := (⟨sB, "full", "()Z"⟩ : MethodName)) (z := (⟨sB, "full", "()Z"⟩ : MethodName)) hown (mvT hZ (ww hw 56 rfl)) (mvT hZ (ww hw 57 rfl)) (notFace_of_selects (args := #[]) (mvT hZ (ww hw 59 rfl))) (mvT hZ (ww hw 59 rfl)) (mvT hZ (ww hw 58 rfl)) (by decide) (backOf (W := 0) (rm6 l Z a0 hw [] b7 _ (3 : Int32) T20.heap n0 (Nat.le_trans (Nat.le_trans (Nat.le_trans (Nat.le_trans (Nat.le_trans Z0 E7.1) Kc8.1) Kc12.1) Kc16.1) Kc20.1) BB) hZ (ww hw 60 rfl) (ww hw 3 rfl) (by decide) (by decide)) q21a q21c (g := (mkF m 181 #[.val (.int p1), .val (.int p2), .val (.int p3), .val (.int p4), .val (.int p5), .val (.long q6), .second, .val (.int (p1 &&& (3 : Int32))), .val (.int ((p2 &&& (7 : Int32)) % (5 : Int32))), .val (.int (p3 &&& (1073741823 : Int32))), .val (.ref b7), .val (.int (1 : Int32))] [(.ref b7)])) rfl (by rw [hml]; rfl) (Steps.refl _) (argsL := []) (rest := []) (lenOf pd_0_4 rfl) rfl (by show 2 * 0 + _ ≤ _; exact Nat.le_of_eq rfl) (hb hby at_181) (fun _ _ => ⟨rfl, rfl, (by decide : 9 + 0 ≤ _), (by decide : 27 + 0 ≤ _)⟩)
  dsimp only [Pt.U, Pt.locs, Pt.cells, Pt.slots] at X21 l21 y21 z21 st21 hQ21
  subst l21 y21 z21
  obtain ⟨rfl, N21q, eh21⟩ := hQ21
  have N21 := Fr.app N20 N21q
  obtain ⟨T22, X22, e22, st22⟩ := own_j184 (.val (.int p1)) (.val (.int p2)) (.val (.int p3)) (.val (.int p4)) (.val (.int p5)) (.val (.long q6)) (.second) (p1 &&& (3 : Int32)) (.val (.int ((p2 &&& (7 : Int32)) % (5 : Int32)))) (.val (.int (p3 &&& (1073741823 : Int32)))) (.val (.ref b7)) (.val (.int (1 : Int32))) (own_g (p1 &&& (3 : Int32)) (3 : Int32)) (by first | exact One.u | exact One.val rfl) hC rfl X21 hx hZ hw hby hml hown eh21
  obtain ⟨_, _, ⟨T23, L23, k23, n23⟩, -, X23, ⟨Lc23, hQ23, l23, y23, z23⟩, st23⟩ := Jvm.LawKit.callS X22 hx (y := (⟨"com/example/calpurnia/calpurnia/ranking/BestDocumentsFullPinLaw", "score", "(I)D"⟩ : MethodName)) hown (mvT hZ (ww hw 63 rfl)) (mvT hZ (ww hw 64 rfl)) (mvT hZ (ww hw 65 rfl)) (mvT hZ (ww hw 66 rfl)) (by decide) (backOf (W := 2) (rm7 l Z a0 hw [] (((q6.toUInt64 >>> ((32 : Int32) &&& 0x3f).toInt64.toUInt64).toInt64).toInt32)  T20.heap n0 (Nat.le_trans (Nat.le_trans (Nat.le_trans (Nat.le_trans (Nat.le_trans Z0 E7.1) Kc8.1) Kc12.1) Kc16.1) Kc20.1)) hZ (ww hw 66 rfl) (ww hw 65 rfl) (by decide) (by decide)) (g := (mkF m 223 #[.val (.int p1), .val (.int p2), .val (.int p3), .val (.int p4), .val (.int p5), .val (.long q6), .second, .val (.int (p1 &&& (3 : Int32))), .val (.int ((p2 &&& (7 : Int32)) % (5 : Int32))), .val (.int (p3 &&& (1073741823 : Int32))), .val (.ref b7), .val (.int (1 : Int32))] [(.int (((q6.toUInt64 >>> ((32 : Int32) &&& 0x3f).toInt64.toUInt64).toInt64).toInt32)), (.int ((p3 &&& (1073741823 : Int32)) + (3 : Int32))), (.ref b7)])) rfl (by rw [hml]; rfl) (argsL := [(.int (((q6.toUInt64 >>> ((32 : Int32) &&& 0x3f).toInt64.toUInt64).toInt64).toInt32))]) (rest := [(.int ((p3 &&& (1073741823 : Int32)) + (3 : Int32))), (.ref b7)]) (lenOf pd_0_5 rfl) rfl (by show 2 * 0 + _ ≤ _; exact Nat.le_of_eq rfl) (hb hby at_223) (fun _ _ => ⟨rfl, e22, (by decide : 9 + 0 ≤ _), (by decide : 27 + 0 ≤ _)⟩)
  dsimp only [Pt.U, Pt.locs, Pt.cells, Pt.slots] at X23 l23 y23 z23 st23 hQ23
  subst l23 y23 z23
  obtain ⟨rfl, N23q, eh23⟩ := hQ23
  have N23 := Fr.app N21 N23q
  obtain ⟨cq24, kq24, q24a, q24b, q24c⟩ := isOf hZ eh23 Ec20
  obtain ⟨_, _, ⟨T24, L24, k24, n24⟩, -, X24, ⟨Lc24, hQ24, l24, y24, z24⟩, st24⟩ := X23.virtualBack hx (y := (⟨sB, "offer", "(ID)V"⟩ : MethodName)) (z := (⟨sB, "offer", "(ID)V"⟩ : MethodName)) hown (mvT hZ (ww hw 67 rfl)) (mvT hZ (ww hw 68 rfl)) (notFace_of_selects (args := #[]) (mvT hZ (ww hw 70 rfl))) (mvT hZ (ww hw 70 rfl)) (mvT hZ (ww hw 69 rfl)) (by decide) (backOf (W := 0) (rm8 l Z a0 hw [] b7 ((p3 &&& (1073741823 : Int32)) + (3 : Int32)) (FP.i2d (((((q6.toUInt64 >>> ((32 : Int32) &&& 0x3f).toInt64.toUInt64).toInt64).toInt32) &&& (255 : Int32)) - (128 : Int32))) _ (3 : Int32) (4 : Int32) T20.heap n0 (Nat.le_trans (Nat.le_trans (Nat.le_trans (Nat.le_trans (Nat.le_trans Z0 E7.1) Kc8.1) Kc12.1) Kc16.1) Kc20.1) hC own_i3 (by decide) BB (Jvm.Free.Fl.i2d_fin _).noNaN) hZ (ww hw 71 rfl) (ww hw 3 rfl) (by decide) (by decide)) q24a q24c (g := (mkF m 226 #[.val (.int p1), .val (.int p2), .val (.int p3), .val (.int p4), .val (.int p5), .val (.long q6), .second, .val (.int (p1 &&& (3 : Int32))), .val (.int ((p2 &&& (7 : Int32)) % (5 : Int32))), .val (.int (p3 &&& (1073741823 : Int32))), .val (.ref b7), .val (.int (1 : Int32))] [(.double (FP.i2d (((((q6.toUInt64 >>> ((32 : Int32) &&& 0x3f).toInt64.toUInt64).toInt64).toInt32) &&& (255 : Int32)) - (128 : Int32)))), (.int ((p3 &&& (1073741823 : Int32)) + (3 : Int32))), (.ref b7)])) rfl (by rw [hml]; rfl) (Steps.refl _) (argsL := [(.int ((p3 &&& (1073741823 : Int32)) + (3 : Int32))), (.double (FP.i2d (((((q6.toUInt64 >>> ((32 : Int32) &&& 0x3f).toInt64.toUInt64).toInt64).toInt32) &&& (255 : Int32)) - (128 : Int32))))]) (rest := []) (lenOf pd_0_6 rfl) rfl (by show 2 * 0 + _ ≤ _; exact Nat.le_of_eq rfl) (hb hby at_226) (fun _ _ => ⟨rfl, eh23, (by decide : 9 + 0 ≤ _), (by decide : 27 + 0 ≤ _)⟩)
  dsimp only [Pt.U, Pt.locs, Pt.cells, Pt.slots] at X24 l24 y24 z24 st24 hQ24
  subst l24 y24 z24
  obtain ⟨rfl, N24q, ⟨hp24, da24, sa24, Kc24⟩, Ec24, Bc24⟩ := hQ24
  have N24 := Fr.app N23 N24q
  have BB := Bc24
  obtain ⟨cq25, kq25, q25a, q25b, q25c⟩ := isOf hZ rfl Ec24
  obtain ⟨_, _, ⟨T25, L25, k25, n25⟩, -, X25, ⟨Lc25, hQ25, l25, y25, z25⟩, st25⟩ := X24.virtualBack hx (y := (⟨sB, "full", "()Z"⟩ : MethodName)) (z := (⟨sB, "full", "()Z"⟩ : MethodName)) hown (mvT hZ (ww hw 56 rfl)) (mvT hZ (ww hw 57 rfl)) (notFace_of_selects (args := #[]) (mvT hZ (ww hw 59 rfl))) (mvT hZ (ww hw 59 rfl)) (mvT hZ (ww hw 58 rfl)) (by decide) (backOf (W := 0) (rm6 l Z a0 hw [] b7 _ (4 : Int32) T24.heap n0 (Nat.le_trans (Nat.le_trans (Nat.le_trans (Nat.le_trans (Nat.le_trans (Nat.le_trans Z0 E7.1) Kc8.1) Kc12.1) Kc16.1) Kc20.1) Kc24.1) BB) hZ (ww hw 60 rfl) (ww hw 3 rfl) (by decide) (by decide)) q25a q25c (g := (mkF m 236 #[.val (.int p1), .val (.int p2), .val (.int p3), .val (.int p4), .val (.int p5), .val (.long q6), .second, .val (.int (p1 &&& (3 : Int32))), .val (.int ((p2 &&& (7 : Int32)) % (5 : Int32))), .val (.int (p3 &&& (1073741823 : Int32))), .val (.ref b7), .val (.int (1 : Int32))] [(.ref b7)])) rfl (by rw [hml]; rfl) (Steps.refl _) (argsL := []) (rest := []) (lenOf pd_0_4 rfl) rfl (by show 2 * 0 + _ ≤ _; exact Nat.le_of_eq rfl) (hb hby at_236) (fun _ _ => ⟨rfl, rfl, (by decide : 9 + 0 ≤ _), (by decide : 27 + 0 ≤ _)⟩)
  dsimp only [Pt.U, Pt.locs, Pt.cells, Pt.slots] at X25 l25 y25 z25 st25 hQ25
  subst l25 y25 z25
  obtain ⟨rfl, N25q, eh25⟩ := hQ25
  have N25 := Fr.app N24 N25q
  obtain ⟨T26, X26, e26, st26⟩ := own_j239 (.val (.int p1)) (.val (.int p2)) (.val (.int p3)) (.val (.int p4)) (.val (.int p5)) (.val (.long q6)) (.second) (p1 &&& (3 : Int32)) (.val (.int ((p2 &&& (7 : Int32)) % (5 : Int32)))) (.val (.int (p3 &&& (1073741823 : Int32)))) (.val (.ref b7)) (.val (.int (1 : Int32))) (own_g (p1 &&& (3 : Int32)) (4 : Int32)) (by first | exact One.u | exact One.val rfl) hC rfl X25 hx hZ hw hby hml hown eh25
  obtain ⟨fs, hr, hrun, hended, hW, hsame⟩ := X26.leave (v := some (.int (1 : Int32))) (fun h => by rw [Bd.returns] at h; cases h)
  refine ⟨_, _, pre0 _ ?_, hrun, hended, _, _, rfl, ?_, ⟨_, rfl⟩, hW, hsame.mono (by decide) (by decide)⟩
  · show Steps _ _ _ (s₁.setTop (mkF m 0 #[.val (.int p1), .val (.int p2), .val (.int p3), .val (.int p4), .val (.int p5), .val (.long q6), .second, .unset, .unset, .unset, .unset, .unset] [])) _
    refine XS.iloadN X0.here hx rfl (hb hby at_0) rfl ?_
    refine XS.iconst X0.here hx rfl (hb hby at_1) ?_
    refine XS.iand X0.here hx rfl (hb hby at_2) rfl ?_
    refine XS.istore X0.here hx rfl (hb hby at_3) rfl (l' := #[.val (.int p1), .val (.int p2), .val (.int p3), .val (.int p4), .val (.int p5), .val (.long q6), .second, .val (.int (p1 &&& (3 : Int32))), .unset, .unset, .unset, .unset]) rfl ?_
    refine XS.iloadN X0.here hx rfl (hb hby at_5) rfl ?_
    refine XS.bipush X0.here hx rfl (hb hby at_6) ?_
    refine XS.iand X0.here hx rfl (hb hby at_8) rfl ?_
    refine XS.iconst X0.here hx rfl (hb hby at_9) ?_
    refine iremM (g := (mkF m 10 #[.val (.int p1), .val (.int p2), .val (.int p3), .val (.int p4), .val (.int p5), .val (.long q6), .second, .val (.int (p1 &&& (3 : Int32))), .unset, .unset, .unset, .unset] [(.int (5 : Int32)), (.int (p2 &&& (7 : Int32)))])) X0 hx rfl (hb hby at_10) rfl (by decide) ?_
    refine XS.istore X0.here hx rfl (hb hby at_11) rfl (l' := #[.val (.int p1), .val (.int p2), .val (.int p3), .val (.int p4), .val (.int p5), .val (.long q6), .second, .val (.int (p1 &&& (3 : Int32))), .val (.int ((p2 &&& (7 : Int32)) % (5 : Int32))), .unset, .unset, .unset]) rfl ?_
    refine XS.iloadN X0.here hx rfl (hb hby at_13) rfl ?_
    refine X0.ldcInt hx hown (mvT hZ (ww hw 0 rfl)) (g := (mkF m 14 #[.val (.int p1), .val (.int p2), .val (.int p3), .val (.int p4), .val (.int p5), .val (.long q6), .second, .val (.int (p1 &&& (3 : Int32))), .val (.int ((p2 &&& (7 : Int32)) % (5 : Int32))), .unset, .unset, .unset] [(.int p3)])) rfl (hb hby at_14) _ ?_
    refine XS.iand X0.here hx rfl (hb hby at_16) rfl ?_
    refine XS.istore X0.here hx rfl (hb hby at_17) rfl (l' := #[.val (.int p1), .val (.int p2), .val (.int p3), .val (.int p4), .val (.int p5), .val (.long q6), .second, .val (.int (p1 &&& (3 : Int32))), .val (.int ((p2 &&& (7 : Int32)) % (5 : Int32))), .val (.int (p3 &&& (1073741823 : Int32))), .unset, .unset]) rfl ?_
    refine st7 _ ?_
    refine XS.dup X7.here hx rfl (hb hby at_22) rfl rfl ?_
    refine XS.iload X7.here hx rfl (hb hby at_23) rfl ?_
    refine st8.trans ?_
    refine XS.astore X8.here hx rfl (hb hby at_28) rfl rfl (l' := #[.val (.int p1), .val (.int p2), .val (.int p3), .val (.int p4), .val (.int p5), .val (.long q6), .second, .val (.int (p1 &&& (3 : Int32))), .val (.int ((p2 &&& (7 : Int32)) % (5 : Int32))), .val (.int (p3 &&& (1073741823 : Int32))), .val (.ref b7), .unset]) rfl ?_
    refine XS.aload X8.here hx rfl (hb hby at_30) rfl rfl ?_
    refine st9.trans ?_
    refine st10 _ ?_
    refine XS.iload X10.here hx rfl (hb hby at_55) rfl ?_
    refine XS.ifNo X10.here hx rfl (hb hby at_57) rfl ((if0 _ _).trans (tlt hc57).2.2.2) ?_
    refine XS.aload X10.here hx rfl (hb hby at_60) rfl rfl ?_
    refine XS.iload X10.here hx rfl (hb hby at_62) rfl ?_
    refine XS.iloadN X10.here hx rfl (hb hby at_64) rfl ?_
    refine st11 _ ?_
    refine st12.trans ?_
    refine XS.iload X12.here hx rfl (hb hby at_71) rfl ?_
    refine XS.ifNo X12.here hx rfl (hb hby at_73) rfl ((if0 _ _).trans (feq (by decide : ¬ ((1 : Int32) = (0 : Int32)))).1) ?_
    refine XS.aload X12.here hx rfl (hb hby at_76) rfl rfl ?_
    refine st13.trans ?_
    refine st14 _ ?_
    refine XS.iload X14.here hx rfl (hb hby at_102) rfl ?_
    refine XS.iconst X14.here hx rfl (hb hby at_104) ?_
    refine XS.icmpNo X14.here hx rfl (hb hby at_105) rfl (tlt hc105).2.2.2 ?_
    refine XS.aload X14.here hx rfl (hb hby at_108) rfl rfl ?_
    refine XS.iload X14.here hx rfl (hb hby at_110) rfl ?_
    refine XS.iconst X14.here hx rfl (hb hby at_112) ?_
    refine XS.iadd X14.here hx rfl (hb hby at_113) rfl ?_
    refine XS.iload X14.here hx rfl (hb hby at_114) rfl ?_
    refine st15 _ ?_
    refine st16.trans ?_
    refine XS.iload X16.here hx rfl (hb hby at_122) rfl ?_
    refine XS.ifNo X16.here hx rfl (hb hby at_124) rfl ((if0 _ _).trans (feq (by decide : ¬ ((1 : Int32) = (0 : Int32)))).1) ?_
    refine XS.aload X16.here hx rfl (hb hby at_127) rfl rfl ?_
    refine st17.trans ?_
    refine st18 _ ?_
    refine XS.iload X18.here hx rfl (hb hby at_153) rfl ?_
    refine XS.iconst X18.here hx rfl (hb hby at_155) ?_
    refine XS.icmpNo X18.here hx rfl (hb hby at_156) rfl (tlt hc156).2.2.2 ?_
    refine XS.aload X18.here hx rfl (hb hby at_159) rfl rfl ?_
    refine XS.iload X18.here hx rfl (hb hby at_161) rfl ?_
    refine XS.iconst X18.here hx rfl (hb hby at_163) ?_
    refine XS.iadd X18.here hx rfl (hb hby at_164) rfl ?_
    refine XS.lload X18.here hx rfl (hb hby at_165) rfl ?_
    refine XS.l2i X18.here hx rfl (hb hby at_167) rfl ?_
    refine st19 _ ?_
    refine st20.trans ?_
    refine XS.iload X20.here hx rfl (hb hby at_174) rfl ?_
    refine XS.ifNo X20.here hx rfl (hb hby at_176) rfl ((if0 _ _).trans (feq (by decide : ¬ ((1 : Int32) = (0 : Int32)))).1) ?_
    refine XS.aload X20.here hx rfl (hb hby at_179) rfl rfl ?_
    refine st21.trans ?_
    refine st22 _ ?_
    refine XS.iload X22.here hx rfl (hb hby at_205) rfl ?_
    refine XS.iconst X22.here hx rfl (hb hby at_207) ?_
    refine XS.icmpNo X22.here hx rfl (hb hby at_208) rfl (tlt hc208).2.2.2 ?_
    refine XS.aload X22.here hx rfl (hb hby at_211) rfl rfl ?_
    refine XS.iload X22.here hx rfl (hb hby at_213) rfl ?_
    refine XS.iconst X22.here hx rfl (hb hby at_215) ?_
    refine XS.iadd X22.here hx rfl (hb hby at_216) rfl ?_
    refine XS.lload X22.here hx rfl (hb hby at_217) rfl ?_
    refine XS.bipush X22.here hx rfl (hb hby at_219) ?_
    refine XS.lushr X22.here hx rfl (hb hby at_221) rfl ?_
    refine XS.l2i X22.here hx rfl (hb hby at_222) rfl ?_
    refine st23 _ ?_
    refine st24.trans ?_
    refine XS.iload X24.here hx rfl (hb hby at_229) rfl ?_
    refine XS.ifNo X24.here hx rfl (hb hby at_231) rfl ((if0 _ _).trans (feq (by decide : ¬ ((1 : Int32) = (0 : Int32)))).1) ?_
    refine XS.aload X24.here hx rfl (hb hby at_234) rfl rfl ?_
    refine st25.trans ?_
    refine st26 _ ?_
    refine XS.iload X26.here hx rfl (hb hby at_260) rfl ?_
    exact retN X26 hx (t := .boolean) Bd.returns (by simp) (hb hby at_262) hr
  · show Q0 Z p1 p2 p3 p4 p5 q6 h0 n0 _ T26.heap _
    rw [e26]
    exact ⟨rfl, N25⟩
theorem own_nl {a b k : Int32} (h : ¬ a < k) (q : a < b) : ¬ b < k := by
  intro z
  rw [Int32.lt_iff_toInt_lt] at h q z
  omega
theorem rm0 (l : Launch) (Z : State) (a0 : Array Value) (hw : ∀ d ∈ tables_1, d.before a0 Z = true) (ws : List Jvm.Cond) (p1 : Int32) (p2 : Int32) (p3 : Int32) (p4 : Int32) (p5 : Int32) (q6 : Int64) (h0 : Heap) (n0 : Nat) (Z0 : n0 ≤ h0.size) :
    MetFree l x (head1 (Jvm.Cond.code x code maxLocals ret :: ws) room_1) (fun a U => a = #[(.int p1), (.int p2), (.int p3), (.int p4), (.int p5), (.long q6)] ∧ Z.Warmed39 U.vm ∧ U.heap = h0) (fun _ _ _ _ _ => True) (fun _ U o U' => ∃ v L, o = .returned v ∧ Q0 Z p1 p2 p3 p4 p5 q6 h0 n0 v U'.heap L ∧ FrameEnd U o U' L room_1.cells room_1.slots) := by
  by_cases c0 : (0 : Int32) < ((p2 &&& (7 : Int32)) % (5 : Int32))
  rotate_left
  · exact rm0_0 l Z a0 hw ws p1 p2 p3 p4 p5 q6 h0 n0 Z0 c0 (own_nl c0 (by decide)) (own_nl c0 (by decide)) (own_nl c0 (by decide))
  by_cases c1 : (1 : Int32) < ((p2 &&& (7 : Int32)) % (5 : Int32))
  rotate_left
  · exact rm0_1 l Z a0 hw ws p1 p2 p3 p4 p5 q6 h0 n0 Z0 c0 c1 (own_nl c1 (by decide)) (own_nl c1 (by decide))
  by_cases c2 : (2 : Int32) < ((p2 &&& (7 : Int32)) % (5 : Int32))
  rotate_left
  · exact rm0_2 l Z a0 hw ws p1 p2 p3 p4 p5 q6 h0 n0 Z0 c0 c1 c2 (own_nl c2 (by decide))
  by_cases c3 : (3 : Int32) < ((p2 &&& (7 : Int32)) % (5 : Int32))
  rotate_left
  · exact rm0_3 l Z a0 hw ws p1 p2 p3 p4 p5 q6 h0 n0 Z0 c0 c1 c2 c3
  exact rm0_4 l Z a0 hw ws p1 p2 p3 p4 p5 q6 h0 n0 Z0 c0 c1 c2 c3
set_option maxRecDepth 65536 in
set_option maxHeartbeats 40000000 in
theorem comes_1 {Post : Tables → Env → Array Value → State → Outcome → State → Prop} (hpost : ∀ tb e args s v u, (limb_1_1.after args s (.returned v) u = true ∧ limb_1_2.after args s (.returned v) u = true ∧ True) → FrameEnd s (.returned v) u (Jvm.fieldLocs frame_1_writes args s ++ Jvm.arrayLocs frame_1_arrays args s ++ Jvm.staticLocs frame_1_statics s) 32 128 → Post tb e args s (.returned v) u) :
    ArmFor flags0 classFile x code maxLocals ret World_1 tables_1 room_1 Calls_1 rest_1 Pre_1 Post := by
  intro l hfl _ _ p e ha hc hk s m args below hf hA hF happ hP
  obtain ⟨hcalls, hrest, hpre⟩ := hP
  obtain ⟨-, -, -, hnamed, -, -, -, hat⟩ := (Spec.applies_iff hf).mp happ
  obtain ⟨hg, hn⟩ := and_e (Cond.before_iff.mp (show (Jvm.Cond.and given_1 narrow_1).before args s = true from hpre))
  obtain ⟨g27, g28⟩ := and_e hg
  obtain ⟨g29, g30⟩ := and_e g28
  obtain ⟨g31, g32⟩ := and_e g30
  obtain ⟨g33, g34⟩ := and_e g32
  obtain ⟨g35, g36⟩ := and_e g34
  obtain ⟨g37, g38⟩ := and_e g36
  obtain ⟨w0, w1, w2, w3, w4, w5, rfl⟩ : ∃ w0 w1 w2 w3 w4 w5 : Value, args = #[w0, w1, w2, w3, w4, w5] := by
    have hs : args.size = 6 := by simpa [Cond.value, given_1] using g27
    obtain ⟨L⟩ := args
    match L, hs with
    | [w0, w1, w2, w3, w4, w5], _ => exact ⟨w0, w1, w2, w3, w4, w5, rfl⟩
  have hw := fun d (hd : d ∈ tables_1) => atoms_spec (ws := Jvm.Cond.code x code maxLocals ret :: tables_1) hat d (List.mem_cons_of_mem _ hd)
  have hfit : Fit s := fun {y c} hc i hi => by
    obtain ⟨ha, rfl⟩ := Array.getElem?_eq_some_iff.mp hc
    have q := List.all_eq_true.mp ((Array.all_eq_true_iff_forall_mem.mp hF) _ (Array.getElem_mem ha)) i (List.mem_range.mpr hi)
    simpa [Array.getElem?_eq_getElem hi] using q
  obtain ⟨i0, ei0⟩ := is_v g29
  obtain rfl : w0 = (.int i0) := Option.some.inj ei0
  obtain ⟨i1, ei1⟩ := is_v g31
  obtain rfl : w1 = (.int i1) := Option.some.inj ei1
  obtain ⟨i2, ei2⟩ := is_v g33
  obtain rfl : w2 = (.int i2) := Option.some.inj ei2
  obtain ⟨i3, ei3⟩ := is_v g35
  obtain rfl : w3 = (.int i3) := Option.some.inj ei3
  obtain ⟨i4, ei4⟩ := is_v g37
  obtain rfl : w4 = (.int i4) := Option.some.inj ei4
  obtain ⟨i5, ei5⟩ := isL_v g38
  obtain rfl : w5 = (.long i5) := Option.some.inj ei5
  obtain ⟨n, o, h1, h2, h3, _, L, rfl, ⟨rfl, N⟩, hq⟩ := rm0 l s _ hw tables_1 i0 i1 i2 i3 i4 i5 s.heap s.heap.size (Nat.le_refl _) p e ha hc hk s m _ below hf ((Spec.applies_iff_loose hf).mp happ).1 ⟨rfl, State.Warmed39.refl s, rfl⟩ trivial
  refine ⟨n, _, h1, h2, h3, hpost _ _ _ _ _ _ ⟨Cond.after_iff.mpr rfl, Cond.after_iff.mpr (eq_i res_at (Term.int_eval (1)) rfl), trivial⟩ ⟨hq.1, hq.2.1, (hq.2.2.sift fun y hy => Or.inr (N y hy)).mono (by decide) (by decide)⟩⟩
theorem main_1_1 : Claimed_1_1 := comes_1 fun _ _ _ _ _ _ h hF => ⟨h.1, hF⟩
theorem main_1_2 : Claimed_1_2 := comes_1 fun _ _ _ _ _ _ h hF => ⟨h.2.1, hF⟩
end Jvm.Pilot.@@N@@
namespace Jvm.Pilot.@@N@@
open Jvm Jvm.ClassFile Sem Op Lib Jvm.Free Jvm.Stand Jvm.Pilot.@@N@@.Jvm.D
/-! MADE BY PROGRAM (witnessworld.py) out of the Statement's table words and the real class files: 18 classes; the members and pool entries that the words name. The judged class is class 1, her method 1. -/
namespace start1
open Jvm.ClassFile
def u (s : String) : CpInfo := .utf8 (stringToUtf16 s)
/-- a pool by its gaps: so many unusable entries, then the entry; so many at the end -/
def gap : Nat → List CpInfo → List CpInfo
  | 0, r => r
  | n + 1, r => .unusable :: gap n r
def poolList (es : List (Nat × CpInfo)) (last : Nat) : List CpInfo := es.foldr (fun e r => gap e.1 (e.2 :: r)) (gap last [])
def pool (es : List (Nat × CpInfo)) (last : Nat) : Array CpInfo := ⟨poolList es last⟩
def fileOf (pool : Array CpInfo) (this : Nat) (attrs : Array Attribute := #[]) (ms : Array MethodInfo := #[]) (fl : Nat := 33) (sup : Nat := 0) (ifs : Array Nat := #[]) (fds : Array FieldInfo := #[]) : ClassFile where
  minorVersion := 0
  majorVersion := 65
  constantPool := pool
  accessFlags := fl
  thisClass := this
  superClass := sup
  interfaces := ifs
  fields := fds
  methods := ms
  attributes := attrs
def plain (name : String) (sup : Option ClassId) : Class where
  name := name
  kind := .ordinary
  loader := none
  accessFlags := 33
  super := sup
  interfaces := #[]
  cf := none
  fields := #[]
  methods := #[]
  instanceTypes := #[]
  staticTypes := #[]
  resolved := #[]
  callSites := []
  init := .initialized
  statics := none
  mirror := none

def pool0 : Array CpInfo := pool [(5, u "<init>"), (0, u "()V"), (1, .class_ 10), (1, u "java/lang/Object")] 113

def k0c0 : Code := { maxStack := 0, maxLocals := 1, code := object_method_1_code, exceptionTable := #[], attributes := #[] }
def k0m0 : Method := { name := "<init>", desc := "()V", sig := { parameters := [], returnType := none }, accessFlags := 1, code := some k0c0 }
/-- java/lang/Object -/
def k0 : Class := { plain "java/lang/Object" none with
  accessFlags := 33
  interfaces := #[]
  cf := some (fileOf pool0 8 #[] #[{ accessFlags := 1, nameIndex := 5, descriptorIndex := 6, attributes := #[] }] 33 0 #[] #[])
  fields := #[]
  methods := #[k0m0]
  instanceTypes := #[]
  staticTypes := #[]
  resolved := Array.replicate 124 none
  statics := none }

def pool1 : Array CpInfo := pool [(2, .class_ 4), (1, u "java/lang/Object"), (0, u "<init>"), (0, u "()V"), (0, .integer 1073741823), (0, .class_ 9), (0, u "com/example/calpurnia/calpurnia/ranking/BestDocuments"), (0, .methodref 8 11), (0, .nameAndType 5 12), (0, u "(I)V"), (0, .methodref 8 14), (0, .nameAndType 15 16), (0, u "full"), (0, u "()Z"), (0, .methodref 18 19), (0, .class_ 20), (0, .nameAndType 21 22), (0, u "com/example/calpurnia/calpurnia/ranking/BestDocumentsFullPinLaw"), (0, u "score"), (0, u "(I)D"), (0, .methodref 8 24), (0, .nameAndType 25 26), (0, u "offer"), (0, u "(ID)V"), (2, u "law"), (0, u "(IIIIIJ)Z")] 3

def k1m0 : Method := { name := "<init>", desc := "()V", sig := { parameters := [], returnType := none }, accessFlags := 1, code := none }
def k1c1 : Code := { maxStack := 5, maxLocals := 12, code := code, exceptionTable := #[], attributes := #[] }
def k1m1 : Method := { name := "law", desc := "(IIIIIJ)Z", sig := { parameters := [.int, .int, .int, .int, .int, .long], returnType := some .boolean }, accessFlags := 9, code := some k1c1 }
def k1c2 : Code := { maxStack := 2, maxLocals := 1, code := method_3_code, exceptionTable := #[], attributes := #[] }
def k1m2 : Method := { name := "score", desc := "(I)D", sig := { parameters := [.int], returnType := some .double }, accessFlags := 10, code := some k1c2 }
/-- com/example/calpurnia/calpurnia/ranking/BestDocumentsFullPinLaw -/
def k1 : Class := { plain "com/example/calpurnia/calpurnia/ranking/BestDocumentsFullPinLaw" (some 0) with
  accessFlags := 49
  interfaces := #[]
  cf := some (fileOf pool1 18 #[] #[{ accessFlags := 1, nameIndex := 5, descriptorIndex := 6, attributes := #[] }, { accessFlags := 9, nameIndex := 29, descriptorIndex := 30, attributes := #[] }, { accessFlags := 10, nameIndex := 21, descriptorIndex := 22, attributes := #[] }] 49 2 #[] #[])
  fields := #[]
  methods := #[k1m0, k1m1, k1m2]
  instanceTypes := #[]
  staticTypes := #[]
  resolved := Array.replicate 34 none
  statics := none }

def pool2 : Array CpInfo := pool [(1, .methodref 2 3), (0, .class_ 4), (0, .nameAndType 5 6), (0, u "com/example/calpurnia/calpurnia/ranking/BestDocuments"), (0, u "<init>"), (0, u "(ILjava/util/function/DoubleUnaryOperator;Lcom/example/calpurnia/calpurnia/ranking/BestDocuments$DocumentOrder;)V"), (0, .methodref 8 9), (0, .class_ 10), (0, .nameAndType 5 11), (0, u "java/lang/Object"), (0, u "()V"), (0, .class_ 13), (0, u "java/lang/Double"), (0, .double 9221120237041090560), (1, .fieldref 2 17), (0, .nameAndType 18 19), (0, u "worstAsRead"), (0, u "D"), (0, .fieldref 2 21), (0, .nameAndType 22 23), (0, u "capacity"), (0, u "I"), (0, .class_ 25), (0, u "com/example/calpurnia/calpurnia/ranking/BestDocuments$Heap"), (0, .methodref 24 27), (0, .nameAndType 5 28), (0, u "(I)V"), (0, .fieldref 2 30), (0, .nameAndType 31 32), (0, u "best"), (0, u "Lcom/example/calpurnia/calpurnia/ranking/BestDocuments$Heap;"), (0, .fieldref 2 34), (0, .nameAndType 35 36), (0, u "asRead"), (0, u "Ljava/util/function/DoubleUnaryOperator;"), (0, .class_ 38), (0, u "com/example/calpurnia/calpurnia/ranking/BestDocuments$Ties"), (0, .methodref 37 40), (0, .nameAndType 5 41), (0, u "(ILcom/example/calpurnia/calpurnia/ranking/BestDocuments$DocumentOrder;)V"), (0, .fieldref 2 43), (0, .nameAndType 44 45), (0, u "ties"), (0, u "Lcom/example/calpurnia/calpurnia/ranking/BestDocuments$Ties;"), (0, .fieldref 24 47), (0, .nameAndType 48 23), (0, u "size"), (0, .methodref 2 50), (0, .nameAndType 51 52), (0, u "full"), (0, u "()Z"), (9, .methodref 24 63), (0, .nameAndType 64 65), (0, u "worstScore"), (0, u "()D"), (3, u "(D)Z"), (0, .fieldref 2 71), (0, .nameAndType 72 73), (0, u "sorted"), (0, u "Z"), (2, .methodref 24 77), (0, .nameAndType 78 79), (0, u "add"), (0, u "(ID)V"), (3, .methodref 12 84), (0, .nameAndType 85 86), (0, u "compare"), (0, u "(DD)I"), (0, .methodref 24 88), (0, .nameAndType 89 90), (0, u "worstDocument"), (0, u "()I"), (0, .methodref 24 92), (0, .nameAndType 93 79), (0, u "replaceWorst"), (1, .methodref 2 96), (0, .nameAndType 97 69), (0, u "keepsAsTie"), (13, u "highestReadLower"), (2, u "lowestReadAsWorst"), (24, u "offer"), (7, .class_ 148), (0, u "com/example/calpurnia/calpurnia/ranking/BestDocuments$DocumentOrder")] 18

def k2c0 : Code := { maxStack := 4, maxLocals := 2, code := prog_186_method_1_code, exceptionTable := #[], attributes := #[] }
def k2m0 : Method := { name := "<init>", desc := "(I)V", sig := { parameters := [.int], returnType := none }, accessFlags := 0, code := some k2c0 }
def k2c1 : Code := { maxStack := 5, maxLocals := 4, code := prog_186_method_2_code, exceptionTable := #[], attributes := #[] }
def k2m1 : Method := { name := "<init>", desc := "(ILjava/util/function/DoubleUnaryOperator;Lcom/example/calpurnia/calpurnia/ranking/BestDocuments$DocumentOrder;)V", sig := { parameters := [.int, (.object "java/util/function/DoubleUnaryOperator"), (.object "com/example/calpurnia/calpurnia/ranking/BestDocuments$DocumentOrder")], returnType := none }, accessFlags := 0, code := some k2c1 }
def k2c2 : Code := { maxStack := 2, maxLocals := 1, code := prog_186_method_3_code, exceptionTable := #[], attributes := #[] }
def k2m2 : Method := { name := "full", desc := "()Z", sig := { parameters := [], returnType := some .boolean }, accessFlags := 0, code := some k2c2 }
def k2c3 : Code := { maxStack := 3, maxLocals := 3, code := prog_186_method_5_code, exceptionTable := #[], attributes := #[] }
def k2m3 : Method := { name := "keepsAsTie", desc := "(D)Z", sig := { parameters := [.double], returnType := some .boolean }, accessFlags := 0, code := some k2c3 }
def k2c4 : Code := { maxStack := 4, maxLocals := 7, code := prog_186_method_6_code, exceptionTable := #[], attributes := #[] }
def k2m4 : Method := { name := "offer", desc := "(ID)V", sig := { parameters := [.int, .double], returnType := none }, accessFlags := 0, code := some k2c4 }
/-- com/example/calpurnia/calpurnia/ranking/BestDocuments -/
def k2 : Class := { plain "com/example/calpurnia/calpurnia/ranking/BestDocuments" (some 0) with
  accessFlags := 48
  interfaces := #[]
  cf := some (fileOf pool2 2 #[.nestMembers #[37, 24, 147]] #[{ accessFlags := 0, nameIndex := 5, descriptorIndex := 28, attributes := #[] }, { accessFlags := 0, nameIndex := 5, descriptorIndex := 6, attributes := #[] }, { accessFlags := 0, nameIndex := 51, descriptorIndex := 52, attributes := #[] }, { accessFlags := 0, nameIndex := 97, descriptorIndex := 69, attributes := #[] }, { accessFlags := 0, nameIndex := 139, descriptorIndex := 79, attributes := #[] }] 48 8 #[] #[{ accessFlags := 18, nameIndex := 22, descriptorIndex := 23, attributes := #[] }, { accessFlags := 18, nameIndex := 31, descriptorIndex := 32, attributes := #[] }, { accessFlags := 18, nameIndex := 35, descriptorIndex := 36, attributes := #[] }, { accessFlags := 18, nameIndex := 44, descriptorIndex := 45, attributes := #[] }, { accessFlags := 2, nameIndex := 18, descriptorIndex := 19, attributes := #[] }, { accessFlags := 2, nameIndex := 111, descriptorIndex := 19, attributes := #[] }, { accessFlags := 2, nameIndex := 114, descriptorIndex := 19, attributes := #[] }, { accessFlags := 2, nameIndex := 72, descriptorIndex := 73, attributes := #[] }])
  fields := #[{ name := "capacity", type := .int, accessFlags := 18, slot := 0, constantValue := 0 }, { name := "best", type := (.object "com/example/calpurnia/calpurnia/ranking/BestDocuments$Heap"), accessFlags := 18, slot := 1, constantValue := 0 }, { name := "asRead", type := (.object "java/util/function/DoubleUnaryOperator"), accessFlags := 18, slot := 2, constantValue := 0 }, { name := "ties", type := (.object "com/example/calpurnia/calpurnia/ranking/BestDocuments$Ties"), accessFlags := 18, slot := 3, constantValue := 0 }, { name := "worstAsRead", type := .double, accessFlags := 2, slot := 4, constantValue := 0 }, { name := "highestReadLower", type := .double, accessFlags := 2, slot := 5, constantValue := 0 }, { name := "lowestReadAsWorst", type := .double, accessFlags := 2, slot := 6, constantValue := 0 }, { name := "sorted", type := .boolean, accessFlags := 2, slot := 7, constantValue := 0 }]
  methods := #[k2m0, k2m1, k2m2, k2m3, k2m4]
  instanceTypes := #[.int, (.object "com/example/calpurnia/calpurnia/ranking/BestDocuments$Heap"), (.object "java/util/function/DoubleUnaryOperator"), (.object "com/example/calpurnia/calpurnia/ranking/BestDocuments$Ties"), .double, .double, .double, .boolean]
  staticTypes := #[]
  resolved := (Array.replicate 167 none).setIfInBounds 46 (some (.field 3 3))
  statics := none }

def pool3 : Array CpInfo := pool [(1, .methodref 2 3), (0, .class_ 4), (0, .nameAndType 5 6), (0, u "java/lang/Object"), (0, u "<init>"), (0, u "()V"), (0, .fieldref 8 9), (0, .class_ 10), (0, .nameAndType 11 12), (0, u "com/example/calpurnia/calpurnia/ranking/BestDocuments$Heap"), (0, u "documents"), (0, u "[I"), (0, .fieldref 8 14), (0, .nameAndType 15 16), (0, u "scores"), (0, u "[D"), (0, .fieldref 8 18), (0, .nameAndType 19 20), (0, u "size"), (0, u "I"), (0, .methodref 8 22), (0, .nameAndType 23 24), (0, u "ranksBelow"), (0, u "(IDI)Z"), (0, .methodref 8 26), (0, .nameAndType 27 28), (0, u "move"), (0, u "(II)V"), (0, .methodref 8 30), (0, .nameAndType 31 32), (0, u "put"), (0, u "(IID)V"), (0, .methodref 8 34), (0, .nameAndType 35 36), (0, u "siftDown"), (0, u "(IDI)V"), (19, .class_ 58), (1, u "java/lang/Double"), (15, .methodref 8 75), (0, .nameAndType 23 76), (0, u "(IDID)Z"), (0, .methodref 56 78), (0, .nameAndType 79 80), (0, u "compare"), (0, u "(DD)I"), (0, u "FEWEST_SORTED_BY_BYTES"), (2, u "(I)V"), (2, u "add"), (0, u "(ID)V"), (1, u "worstDocument"), (0, u "()I"), (0, u "worstScore"), (0, u "()D"), (0, u "replaceWorst"), (8, .class_ 104), (0, u "com/example/calpurnia/calpurnia/ranking/BestDocuments")] 2

def k3c0 : Code := { maxStack := 2, maxLocals := 2, code := prog_188_method_1_code, exceptionTable := #[], attributes := #[] }
def k3m0 : Method := { name := "<init>", desc := "(I)V", sig := { parameters := [.int], returnType := none }, accessFlags := 0, code := some k3c0 }
def k3c1 : Code := { maxStack := 6, maxLocals := 5, code := prog_188_method_2_code, exceptionTable := #[], attributes := #[] }
def k3m1 : Method := { name := "add", desc := "(ID)V", sig := { parameters := [.int, .double], returnType := none }, accessFlags := 0, code := some k3c1 }
def k3c2 : Code := { maxStack := 2, maxLocals := 1, code := prog_188_method_3_code, exceptionTable := #[], attributes := #[] }
def k3m2 : Method := { name := "worstDocument", desc := "()I", sig := { parameters := [], returnType := some .int }, accessFlags := 0, code := some k3c2 }
def k3c3 : Code := { maxStack := 2, maxLocals := 1, code := prog_188_method_4_code, exceptionTable := #[], attributes := #[] }
def k3m3 : Method := { name := "worstScore", desc := "()D", sig := { parameters := [], returnType := some .double }, accessFlags := 0, code := some k3c3 }
def k3c4 : Code := { maxStack := 5, maxLocals := 4, code := prog_188_method_5_code, exceptionTable := #[], attributes := #[] }
def k3m4 : Method := { name := "replaceWorst", desc := "(ID)V", sig := { parameters := [.int, .double], returnType := none }, accessFlags := 0, code := some k3c4 }
def k3c5 : Code := { maxStack := 6, maxLocals := 7, code := prog_188_method_12_code, exceptionTable := #[], attributes := #[] }
def k3m5 : Method := { name := "siftDown", desc := "(IDI)V", sig := { parameters := [.int, .double, .int], returnType := none }, accessFlags := 2, code := some k3c5 }
def k3c6 : Code := { maxStack := 6, maxLocals := 5, code := prog_188_method_13_code, exceptionTable := #[], attributes := #[] }
def k3m6 : Method := { name := "ranksBelow", desc := "(IDI)Z", sig := { parameters := [.int, .double, .int], returnType := some .boolean }, accessFlags := 2, code := some k3c6 }
def k3c7 : Code := { maxStack := 4, maxLocals := 7, code := prog_188_method_14_code, exceptionTable := #[], attributes := #[] }
def k3m7 : Method := { name := "ranksBelow", desc := "(IDID)Z", sig := { parameters := [.int, .double, .int, .double], returnType := some .boolean }, accessFlags := 10, code := some k3c7 }
def k3c8 : Code := { maxStack := 5, maxLocals := 3, code := prog_188_method_15_code, exceptionTable := #[], attributes := #[] }
def k3m8 : Method := { name := "move", desc := "(II)V", sig := { parameters := [.int, .int], returnType := none }, accessFlags := 2, code := some k3c8 }
def k3c9 : Code := { maxStack := 4, maxLocals := 5, code := prog_188_method_16_code, exceptionTable := #[], attributes := #[] }
def k3m9 : Method := { name := "put", desc := "(IID)V", sig := { parameters := [.int, .int, .double], returnType := none }, accessFlags := 2, code := some k3c9 }
/-- com/example/calpurnia/calpurnia/ranking/BestDocuments$Heap -/
def k3 : Class := { plain "com/example/calpurnia/calpurnia/ranking/BestDocuments$Heap" (some 0) with
  accessFlags := 48
  interfaces := #[]
  cf := some (fileOf pool3 8 #[.nestHost 103] #[{ accessFlags := 0, nameIndex := 5, descriptorIndex := 84, attributes := #[] }, { accessFlags := 0, nameIndex := 87, descriptorIndex := 88, attributes := #[] }, { accessFlags := 0, nameIndex := 90, descriptorIndex := 91, attributes := #[] }, { accessFlags := 0, nameIndex := 92, descriptorIndex := 93, attributes := #[] }, { accessFlags := 0, nameIndex := 94, descriptorIndex := 88, attributes := #[] }, { accessFlags := 2, nameIndex := 35, descriptorIndex := 36, attributes := #[] }, { accessFlags := 2, nameIndex := 23, descriptorIndex := 24, attributes := #[] }, { accessFlags := 10, nameIndex := 23, descriptorIndex := 76, attributes := #[] }, { accessFlags := 2, nameIndex := 27, descriptorIndex := 28, attributes := #[] }, { accessFlags := 2, nameIndex := 31, descriptorIndex := 32, attributes := #[] }] 48 2 #[] #[{ accessFlags := 26, nameIndex := 81, descriptorIndex := 20, attributes := #[] }, { accessFlags := 2, nameIndex := 11, descriptorIndex := 12, attributes := #[] }, { accessFlags := 2, nameIndex := 15, descriptorIndex := 16, attributes := #[] }, { accessFlags := 2, nameIndex := 19, descriptorIndex := 20, attributes := #[] }])
  fields := #[{ name := "FEWEST_SORTED_BY_BYTES", type := .int, accessFlags := 26, slot := 0, constantValue := 0 }, { name := "documents", type := (.array .int), accessFlags := 2, slot := 0, constantValue := 0 }, { name := "scores", type := (.array .double), accessFlags := 2, slot := 1, constantValue := 0 }, { name := "size", type := .int, accessFlags := 2, slot := 2, constantValue := 0 }]
  methods := #[k3m0, k3m1, k3m2, k3m3, k3m4, k3m5, k3m6, k3m7, k3m8, k3m9]
  instanceTypes := #[(.array .int), (.array .double), .int]
  staticTypes := #[.int]
  resolved := Array.replicate 107 none
  statics := none }

def pool4 : Array CpInfo := pool [(1, .methodref 2 3), (0, .class_ 4), (0, .nameAndType 5 6), (0, u "java/lang/Object"), (0, u "<init>"), (0, u "()V"), (0, .fieldref 8 9), (0, .class_ 10), (0, .nameAndType 11 12), (0, u "com/example/calpurnia/calpurnia/ranking/BestDocuments$Ties"), (0, u "documents"), (0, u "[I"), (0, .fieldref 8 14), (0, .nameAndType 15 16), (0, u "scores"), (0, u "[D"), (0, .fieldref 8 18), (0, .nameAndType 19 12), (0, u "merged"), (0, .fieldref 8 21), (0, .nameAndType 22 16), (0, u "mergedScores"), (0, .fieldref 8 24), (0, .nameAndType 25 26), (0, u "capacity"), (0, u "I"), (0, .fieldref 8 28), (0, .nameAndType 29 30), (0, u "order"), (0, u "Lcom/example/calpurnia/calpurnia/ranking/BestDocuments$DocumentOrder;"), (2, u "kept"), (12, u "addedInReverse"), (0, u "Z"), (2, u "size"), (27, u "keptInOrder"), (32, u "(ILcom/example/calpurnia/calpurnia/ranking/BestDocuments$DocumentOrder;)V"), (13, .class_ 126), (0, u "com/example/calpurnia/calpurnia/ranking/BestDocuments")] 3

def k4c0 : Code := { maxStack := 2, maxLocals := 3, code := prog_189_method_1_code, exceptionTable := #[], attributes := #[] }
def k4m0 : Method := { name := "<init>", desc := "(ILcom/example/calpurnia/calpurnia/ranking/BestDocuments$DocumentOrder;)V", sig := { parameters := [.int, (.object "com/example/calpurnia/calpurnia/ranking/BestDocuments$DocumentOrder")], returnType := none }, accessFlags := 0, code := some k4c0 }
/-- com/example/calpurnia/calpurnia/ranking/BestDocuments$Ties -/
def k4 : Class := { plain "com/example/calpurnia/calpurnia/ranking/BestDocuments$Ties" (some 0) with
  accessFlags := 48
  interfaces := #[]
  cf := some (fileOf pool4 8 #[.nestHost 125] #[{ accessFlags := 0, nameIndex := 5, descriptorIndex := 111, attributes := #[] }] 48 2 #[] #[{ accessFlags := 18, nameIndex := 25, descriptorIndex := 26, attributes := #[] }, { accessFlags := 18, nameIndex := 29, descriptorIndex := 30, attributes := #[] }, { accessFlags := 2, nameIndex := 11, descriptorIndex := 12, attributes := #[] }, { accessFlags := 2, nameIndex := 15, descriptorIndex := 16, attributes := #[] }, { accessFlags := 2, nameIndex := 19, descriptorIndex := 12, attributes := #[] }, { accessFlags := 2, nameIndex := 22, descriptorIndex := 16, attributes := #[] }, { accessFlags := 2, nameIndex := 50, descriptorIndex := 26, attributes := #[] }, { accessFlags := 2, nameIndex := 33, descriptorIndex := 26, attributes := #[] }, { accessFlags := 2, nameIndex := 78, descriptorIndex := 47, attributes := #[] }, { accessFlags := 2, nameIndex := 46, descriptorIndex := 47, attributes := #[] }])
  fields := #[{ name := "capacity", type := .int, accessFlags := 18, slot := 0, constantValue := 0 }, { name := "order", type := (.object "com/example/calpurnia/calpurnia/ranking/BestDocuments$DocumentOrder"), accessFlags := 18, slot := 1, constantValue := 0 }, { name := "documents", type := (.array .int), accessFlags := 2, slot := 2, constantValue := 0 }, { name := "scores", type := (.array .double), accessFlags := 2, slot := 3, constantValue := 0 }, { name := "merged", type := (.array .int), accessFlags := 2, slot := 4, constantValue := 0 }, { name := "mergedScores", type := (.array .double), accessFlags := 2, slot := 5, constantValue := 0 }, { name := "size", type := .int, accessFlags := 2, slot := 6, constantValue := 0 }, { name := "kept", type := .int, accessFlags := 2, slot := 7, constantValue := 0 }, { name := "keptInOrder", type := .boolean, accessFlags := 2, slot := 8, constantValue := 0 }, { name := "addedInReverse", type := .boolean, accessFlags := 2, slot := 9, constantValue := 0 }]
  methods := #[k4m0]
  instanceTypes := #[.int, (.object "com/example/calpurnia/calpurnia/ranking/BestDocuments$DocumentOrder"), (.array .int), (.array .double), (.array .int), (.array .double), .int, .int, .boolean, .boolean]
  staticTypes := #[]
  resolved := Array.replicate 130 none
  statics := none }

def pool5 : Array CpInfo := pool [(1, .class_ 2), (0, u "java/io/Serializable"), (0, .class_ 4), (0, u "java/lang/Object")] 2

/-- java/io/Serializable -/
def k5 : Class := { plain "java/io/Serializable" (some 0) with
  accessFlags := 1537
  interfaces := #[]
  cf := some (fileOf pool5 1 #[] #[] 1537 3 #[] #[])
  fields := #[]
  methods := #[]
  instanceTypes := #[]
  staticTypes := #[]
  resolved := Array.replicate 7 none
  statics := none }

def pool6 : Array CpInfo := pool [(2, .class_ 4), (1, u "java/lang/Object"), (0, u "<init>"), (0, u "()V"), (1, .class_ 10), (1, u "java/lang/Number"), (2, .class_ 14), (0, u "java/io/Serializable"), (0, u "serialVersionUID"), (0, u "J")] 20

def k6m0 : Method := { name := "<init>", desc := "()V", sig := { parameters := [], returnType := none }, accessFlags := 1, code := none }
/-- java/lang/Number -/
def k6 : Class := { plain "java/lang/Number" (some 0) with
  accessFlags := 1057
  interfaces := #[5]
  cf := some (fileOf pool6 8 #[] #[{ accessFlags := 1, nameIndex := 5, descriptorIndex := 6, attributes := #[] }] 1057 2 #[13] #[{ accessFlags := 26, nameIndex := 15, descriptorIndex := 16, attributes := #[] }])
  fields := #[{ name := "serialVersionUID", type := .long, accessFlags := 26, slot := 0, constantValue := 0 }]
  methods := #[k6m0]
  instanceTypes := #[]
  staticTypes := #[.long]
  resolved := Array.replicate 37 none
  statics := none }

def pool7 : Array CpInfo := pool [(1, .class_ 2), (0, u "java/lang/Comparable"), (0, .class_ 4), (0, u "java/lang/Object")] 7

/-- java/lang/Comparable -/
def k7 : Class := { plain "java/lang/Comparable" (some 0) with
  accessFlags := 1537
  interfaces := #[]
  cf := some (fileOf pool7 1 #[] #[] 1537 3 #[] #[])
  fields := #[]
  methods := #[]
  instanceTypes := #[]
  staticTypes := #[]
  resolved := Array.replicate 12 none
  statics := none }

def pool8 : Array CpInfo := pool [(1, .class_ 2), (0, u "java/lang/constant/Constable"), (0, .class_ 4), (0, u "java/lang/Object")] 6

/-- java/lang/constant/Constable -/
def k8 : Class := { plain "java/lang/constant/Constable" (some 0) with
  accessFlags := 1537
  interfaces := #[]
  cf := some (fileOf pool8 1 #[] #[] 1537 3 #[] #[])
  fields := #[]
  methods := #[]
  instanceTypes := #[]
  staticTypes := #[]
  resolved := Array.replicate 11 none
  statics := none }

def pool9 : Array CpInfo := pool [(1, .class_ 2), (0, u "java/lang/constant/ConstantDesc"), (0, .class_ 4), (0, u "java/lang/Object")] 32

/-- java/lang/constant/ConstantDesc -/
def k9 : Class := { plain "java/lang/constant/ConstantDesc" (some 0) with
  accessFlags := 1537
  interfaces := #[]
  cf := some (fileOf pool9 1 #[] #[] 1537 3 #[] #[])
  fields := #[]
  methods := #[]
  instanceTypes := #[]
  staticTypes := #[]
  resolved := Array.replicate 37 none
  statics := none }

def pool10 : Array CpInfo := pool [(1, .class_ 2), (0, u "java/lang/Double"), (11, u "(D)Z"), (31, .methodref 1 47), (0, .nameAndType 48 49), (0, u "doubleToLongBits"), (0, u "(D)J"), (64, .class_ 116), (1, u "java/lang/Number"), (3, u "value"), (0, u "D"), (0, .methodref 1 123), (0, .nameAndType 124 14), (0, u "isNaN"), (9, .methodref 1 135), (0, .nameAndType 136 49), (0, u "doubleToRawLongBits"), (4, u "compare"), (0, u "(DD)I"), (30, u "TYPE"), (0, u "Ljava/lang/Class;"), (0, .class_ 176), (0, u "java/lang/Comparable"), (0, .class_ 178), (0, u "java/lang/constant/Constable"), (0, .class_ 180), (0, u "java/lang/constant/ConstantDesc"), (0, u "POSITIVE_INFINITY"), (3, u "NEGATIVE_INFINITY"), (2, u "NaN"), (2, u "MAX_VALUE"), (0, u "MIN_NORMAL"), (0, u "MIN_VALUE"), (2, u "SIZE"), (0, u "I"), (1, u "PRECISION"), (1, u "MAX_EXPONENT"), (1, u "MIN_EXPONENT"), (1, u "BYTES"), (3, u "serialVersionUID"), (0, u "J")] 79

def k10c0 : Code := { maxStack := 4, maxLocals := 2, code := jdk_117_method_6_code, exceptionTable := #[], attributes := #[] }
def k10m0 : Method := { name := "isNaN", desc := "(D)Z", sig := { parameters := [.double], returnType := some .boolean }, accessFlags := 9, code := some k10c0 }
def k10c1 : Code := { maxStack := 2, maxLocals := 2, code := jdk_117_method_23_code, exceptionTable := #[], attributes := #[] }
def k10m1 : Method := { name := "doubleToLongBits", desc := "(D)J", sig := { parameters := [.double], returnType := some .long }, accessFlags := 9, code := some k10c1 }
def k10m2 : Method := { name := "doubleToRawLongBits", desc := "(D)J", sig := { parameters := [.double], returnType := some .long }, accessFlags := 265, code := none }
def k10c3 : Code := { maxStack := 4, maxLocals := 8, code := jdk_117_method_27_code, exceptionTable := #[], attributes := #[] }
def k10m3 : Method := { name := "compare", desc := "(DD)I", sig := { parameters := [.double, .double], returnType := some .int }, accessFlags := 9, code := some k10c3 }
/-- java/lang/Double -/
def k10 : Class := { plain "java/lang/Double" (some 6) with
  accessFlags := 49
  interfaces := #[7, 8, 9]
  cf := some (fileOf pool10 1 #[] #[{ accessFlags := 9, nameIndex := 124, descriptorIndex := 14, attributes := #[] }, { accessFlags := 9, nameIndex := 48, descriptorIndex := 49, attributes := #[] }, { accessFlags := 265, nameIndex := 136, descriptorIndex := 49, attributes := #[] }, { accessFlags := 9, nameIndex := 141, descriptorIndex := 142, attributes := #[] }] 49 114 #[175, 177, 179] #[{ accessFlags := 25, nameIndex := 181, descriptorIndex := 121, attributes := #[] }, { accessFlags := 25, nameIndex := 185, descriptorIndex := 121, attributes := #[] }, { accessFlags := 25, nameIndex := 188, descriptorIndex := 121, attributes := #[] }, { accessFlags := 25, nameIndex := 191, descriptorIndex := 121, attributes := #[] }, { accessFlags := 25, nameIndex := 192, descriptorIndex := 121, attributes := #[] }, { accessFlags := 25, nameIndex := 193, descriptorIndex := 121, attributes := #[] }, { accessFlags := 25, nameIndex := 196, descriptorIndex := 197, attributes := #[] }, { accessFlags := 25, nameIndex := 199, descriptorIndex := 197, attributes := #[] }, { accessFlags := 25, nameIndex := 201, descriptorIndex := 197, attributes := #[] }, { accessFlags := 25, nameIndex := 203, descriptorIndex := 197, attributes := #[] }, { accessFlags := 25, nameIndex := 205, descriptorIndex := 197, attributes := #[] }, { accessFlags := 25, nameIndex := 173, descriptorIndex := 174, attributes := #[] }, { accessFlags := 18, nameIndex := 120, descriptorIndex := 121, attributes := #[] }, { accessFlags := 26, nameIndex := 209, descriptorIndex := 210, attributes := #[] }])
  fields := #[{ name := "POSITIVE_INFINITY", type := .double, accessFlags := 25, slot := 0, constantValue := 0 }, { name := "NEGATIVE_INFINITY", type := .double, accessFlags := 25, slot := 1, constantValue := 0 }, { name := "NaN", type := .double, accessFlags := 25, slot := 2, constantValue := 0 }, { name := "MAX_VALUE", type := .double, accessFlags := 25, slot := 3, constantValue := 0 }, { name := "MIN_NORMAL", type := .double, accessFlags := 25, slot := 4, constantValue := 0 }, { name := "MIN_VALUE", type := .double, accessFlags := 25, slot := 5, constantValue := 0 }, { name := "SIZE", type := .int, accessFlags := 25, slot := 6, constantValue := 0 }, { name := "PRECISION", type := .int, accessFlags := 25, slot := 7, constantValue := 0 }, { name := "MAX_EXPONENT", type := .int, accessFlags := 25, slot := 8, constantValue := 0 }, { name := "MIN_EXPONENT", type := .int, accessFlags := 25, slot := 9, constantValue := 0 }, { name := "BYTES", type := .int, accessFlags := 25, slot := 10, constantValue := 0 }, { name := "TYPE", type := (.object "java/lang/Class"), accessFlags := 25, slot := 11, constantValue := 0 }, { name := "value", type := .double, accessFlags := 18, slot := 0, constantValue := 0 }, { name := "serialVersionUID", type := .long, accessFlags := 26, slot := 12, constantValue := 0 }]
  methods := #[k10m0, k10m1, k10m2, k10m3]
  instanceTypes := #[.double]
  staticTypes := #[.double, .double, .double, .double, .double, .double, .int, .int, .int, .int, .int, (.object "java/lang/Class"), .long]
  resolved := Array.replicate 290 none
  statics := none }

def pool11 : Array CpInfo := pool [(1, u "java/lang/Cloneable"), (0, .class_ 1), (0, u "java/lang/Object"), (0, .class_ 3)] 3

/-- java/lang/Cloneable -/
def k11 : Class := { plain "java/lang/Cloneable" (some 0) with
  accessFlags := 1537
  interfaces := #[]
  cf := some (fileOf pool11 2 #[] #[] 1537 4 #[] #[])
  fields := #[]
  methods := #[]
  instanceTypes := #[]
  staticTypes := #[]
  resolved := Array.replicate 8 none
  statics := none }

/-- the primitive byte -/
def k12 : Class := { plain "byte" none with kind := .primitive 'B', accessFlags := 0x411 }
/-- [B -/
def k13 : Class := { plain "[B" (some 0) with kind := .array 12 .byte, interfaces := #[11, 5], accessFlags := 1041 }

/-- the primitive double -/
def k14 : Class := { plain "double" none with kind := .primitive 'D', accessFlags := 0x411 }
/-- [D -/
def k15 : Class := { plain "[D" (some 0) with kind := .array 14 .double, interfaces := #[11, 5], accessFlags := 1041 }

/-- the primitive int -/
def k16 : Class := { plain "int" none with kind := .primitive 'I', accessFlags := 0x411 }
/-- [I -/
def k17 : Class := { plain "[I" (some 0) with kind := .array 16 .int, interfaces := #[11, 5], accessFlags := 1041 }

def heap : Heap := #[]
def classes : Array Class := #[k0, k1, k2, k3, k4, k5, k6, k7, k8, k9, k10, k11, k12, k13, k14, k15, k16, k17]
def interned : List (Array UInt16 × Addr) := []
def slotsUsed : Nat := 0
def theMethod : MethodId := ⟨1, 1⟩
def args0 : Array Value := #[.int 5, .int 6, .int 7, .int 8, .int 9, .long 10]
def aboutOver (below : List Frame) : State where
  vm := { classes := classes, interned := interned.toArray }
  heap := heap
  slotsUsed := slotsUsed
  threads := #[{ frames := .invoking theMethod args0 :: below }]
def below0 : List Frame := [.native { method := ⟨0, 0⟩, args := #[] }]
def about1 : State := aboutOver below0
def p0 : Program := .bare "" "" ""
def e0 : Env := launch0.env 0 0 0
theorem w_frames : about1.frames = Frame.invoking theMethod args0 :: below0 := rfl
set_option maxRecDepth 65536 in
theorem w_args : argsFit about1.vm theMethod args0 = true := by decide +kernel
set_option maxRecDepth 65536 in
theorem w_heap : heapFits about1 = true := by decide +kernel
set_option maxRecDepth 65536 in
theorem w_runnable : about1.curStatus? = some .runnable := by decide +kernel
set_option maxRecDepth 65536 in
theorem w_alone : about1.alone = true := by decide +kernel
set_option maxRecDepth 65536 in
theorem w_named : about1.methodNamed? x = some theMethod := by decide +kernel
set_option maxRecDepth 65536 in
theorem w_hears : about1.hears theMethod below0 = true := by decide +kernel
set_option maxRecDepth 65536 in
theorem w_ripe : about1.ripe theMethod args0 below0 = true := by decide +kernel
theorem w_running : about1.status = .running := rfl
set_option maxRecDepth 65536 in
theorem w_room : about1.hasRoom e0.platform room_1 = true :=
  launch0.hasRoom_least _ room_1 (by decide +kernel) (by decide +kernel) (by decide +kernel) (by decide +kernel) (by decide +kernel) (by decide +kernel)
theorem allAtoms_all (ts : List Jvm.Cond) (a : Array Jvm.Value) (st : Jvm.State) : (allAtoms ts).before a st = ts.all (fun c => c.before a st) := by
  induction ts with
  | nil => rfl
  | cons c t ih =>
    show (Jvm.Cond.and c (allAtoms t)).before a st = _
    rw [Jvm.Cond.before_and, ih, List.all_cons]
def words1 : List Jvm.Cond := Jvm.Cond.code x code maxLocals ret :: tables_1
/-- a 'code' word, met by the world's own term for the bytes: nothing is compared byte by byte -/
theorem code_word {y : MethodName} {bytes : ByteArray} {mx : Nat} {rt : Option FieldType} {a : Array Value} {s : State} {m : MethodId} {meth : Method} {c : Code} (h1 : s.methodNamed? y = some m) (h2 : s.vm.method? m = some meth) (h3 : meth.code = some c) (h4 : c.code = bytes)
    (h5 : (c.maxLocals == mx && c.exceptionTable.isEmpty && decide (c.maxStack ≤ mostOperands) && decide (meth.sig.returnType = rt) && !meth.locks && decide (parseMethodDescriptor y.desc = some meth.sig)) = true) : (Jvm.Cond.code y bytes mx rt).before a s = true := by
  simp only [Bool.and_eq_true, beq_iff_eq, Bool.not_eq_true', decide_eq_true_eq] at h5
  obtain ⟨⟨⟨⟨⟨g1, g2⟩, g3⟩, g4⟩, g5⟩, g6⟩ := h5
  simp [Cond.before, Cond.holds, Cond.value, h1, h2, h3, h4, g1, g2, g3, g4, g5, g6]
def isCode : Jvm.Cond → Bool
  | .code _ _ _ _ => true
  | _ => false
theorem all_split {L : List Jvm.Cond} {P : Jvm.Cond → Bool} (h1 : L.all (fun c => isCode c || P c) = true) (h2 : ∀ c ∈ L.filter isCode, P c = true) : L.all P = true := by
  refine List.all_eq_true.mpr fun c hc => ?_
  have h := List.all_eq_true.mp h1 c hc
  rcases Bool.eq_false_or_eq_true (isCode c) with hi | hi
  · exact h2 c (List.mem_filter.mpr ⟨hc, hi⟩)
  · simpa [hi] using h
set_option maxRecDepth 65536 in
theorem w_c0 : (Jvm.Cond.code x code maxLocals ret).before args0 about1 = true := code_word (m := ⟨1, 1⟩) (meth := k1m1) (c := k1c1) (by decide +kernel) rfl rfl rfl (by decide +kernel)
set_option maxRecDepth 65536 in
theorem w_c1 : (Jvm.Cond.code ({ cls := "com/example/calpurnia/calpurnia/ranking/BestDocuments", name := "<init>", desc := "(I)V" } : Jvm.MethodName) prog_186_method_1_code (2 : Nat) (Option.none : Option Jvm.ClassFile.FieldType)).before args0 about1 = true := code_word (m := ⟨2, 0⟩) (meth := k2m0) (c := k2c0) (by decide +kernel) rfl rfl rfl (by decide +kernel)
set_option maxRecDepth 65536 in
theorem w_c2 : (Jvm.Cond.code ({ cls := "com/example/calpurnia/calpurnia/ranking/BestDocuments", name := "<init>", desc := "(ILjava/util/function/DoubleUnaryOperator;Lcom/example/calpurnia/calpurnia/ranking/BestDocuments$DocumentOrder;)V" } : Jvm.MethodName) prog_186_method_2_code (4 : Nat) (Option.none : Option Jvm.ClassFile.FieldType)).before args0 about1 = true := code_word (m := ⟨2, 1⟩) (meth := k2m1) (c := k2c1) (by decide +kernel) rfl rfl rfl (by decide +kernel)
set_option maxRecDepth 65536 in
theorem w_c3 : (Jvm.Cond.code ({ cls := "java/lang/Object", name := "<init>", desc := "()V" } : Jvm.MethodName) object_method_1_code (1 : Nat) (Option.none : Option Jvm.ClassFile.FieldType)).before args0 about1 = true := code_word (m := ⟨0, 0⟩) (meth := k0m0) (c := k0c0) (by decide +kernel) rfl rfl rfl (by decide +kernel)
set_option maxRecDepth 65536 in
theorem w_c4 : (Jvm.Cond.code ({ cls := "com/example/calpurnia/calpurnia/ranking/BestDocuments$Heap", name := "<init>", desc := "(I)V" } : Jvm.MethodName) prog_188_method_1_code (2 : Nat) (Option.none : Option Jvm.ClassFile.FieldType)).before args0 about1 = true := code_word (m := ⟨3, 0⟩) (meth := k3m0) (c := k3c0) (by decide +kernel) rfl rfl rfl (by decide +kernel)
set_option maxRecDepth 65536 in
theorem w_c5 : (Jvm.Cond.code ({ cls := "com/example/calpurnia/calpurnia/ranking/BestDocuments$Ties", name := "<init>", desc := "(ILcom/example/calpurnia/calpurnia/ranking/BestDocuments$DocumentOrder;)V" } : Jvm.MethodName) prog_189_method_1_code (3 : Nat) (Option.none : Option Jvm.ClassFile.FieldType)).before args0 about1 = true := code_word (m := ⟨4, 0⟩) (meth := k4m0) (c := k4c0) (by decide +kernel) rfl rfl rfl (by decide +kernel)
set_option maxRecDepth 65536 in
theorem w_c6 : (Jvm.Cond.code ({ cls := "com/example/calpurnia/calpurnia/ranking/BestDocuments", name := "full", desc := "()Z" } : Jvm.MethodName) prog_186_method_3_code (1 : Nat) (Option.some Jvm.ClassFile.FieldType.boolean)).before args0 about1 = true := code_word (m := ⟨2, 2⟩) (meth := k2m2) (c := k2c2) (by decide +kernel) rfl rfl rfl (by decide +kernel)
set_option maxRecDepth 65536 in
theorem w_c7 : (Jvm.Cond.code ({ cls := "com/example/calpurnia/calpurnia/ranking/BestDocumentsFullPinLaw", name := "score", desc := "(I)D" } : Jvm.MethodName) method_3_code (1 : Nat) (Option.some Jvm.ClassFile.FieldType.double)).before args0 about1 = true := code_word (m := ⟨1, 2⟩) (meth := k1m2) (c := k1c2) (by decide +kernel) rfl rfl rfl (by decide +kernel)
set_option maxRecDepth 65536 in
theorem w_c8 : (Jvm.Cond.code ({ cls := "com/example/calpurnia/calpurnia/ranking/BestDocuments", name := "offer", desc := "(ID)V" } : Jvm.MethodName) prog_186_method_6_code (7 : Nat) (Option.none : Option Jvm.ClassFile.FieldType)).before args0 about1 = true := code_word (m := ⟨2, 4⟩) (meth := k2m4) (c := k2c4) (by decide +kernel) rfl rfl rfl (by decide +kernel)
set_option maxRecDepth 65536 in
theorem w_c9 : (Jvm.Cond.code ({ cls := "com/example/calpurnia/calpurnia/ranking/BestDocuments$Heap", name := "add", desc := "(ID)V" } : Jvm.MethodName) prog_188_method_2_code (5 : Nat) (Option.none : Option Jvm.ClassFile.FieldType)).before args0 about1 = true := code_word (m := ⟨3, 1⟩) (meth := k3m1) (c := k3c1) (by decide +kernel) rfl rfl rfl (by decide +kernel)
set_option maxRecDepth 65536 in
theorem w_c10 : (Jvm.Cond.code ({ cls := "com/example/calpurnia/calpurnia/ranking/BestDocuments$Heap", name := "put", desc := "(IID)V" } : Jvm.MethodName) prog_188_method_16_code (5 : Nat) (Option.none : Option Jvm.ClassFile.FieldType)).before args0 about1 = true := code_word (m := ⟨3, 9⟩) (meth := k3m9) (c := k3c9) (by decide +kernel) rfl rfl rfl (by decide +kernel)
set_option maxRecDepth 65536 in
theorem w_c11 : (Jvm.Cond.code ({ cls := "com/example/calpurnia/calpurnia/ranking/BestDocuments$Heap", name := "ranksBelow", desc := "(IDI)Z" } : Jvm.MethodName) prog_188_method_13_code (5 : Nat) (Option.some Jvm.ClassFile.FieldType.boolean)).before args0 about1 = true := code_word (m := ⟨3, 6⟩) (meth := k3m6) (c := k3c6) (by decide +kernel) rfl rfl rfl (by decide +kernel)
set_option maxRecDepth 65536 in
theorem w_c12 : (Jvm.Cond.code ({ cls := "com/example/calpurnia/calpurnia/ranking/BestDocuments$Heap", name := "ranksBelow", desc := "(IDID)Z" } : Jvm.MethodName) prog_188_method_14_code (7 : Nat) (Option.some Jvm.ClassFile.FieldType.boolean)).before args0 about1 = true := code_word (m := ⟨3, 7⟩) (meth := k3m7) (c := k3c7) (by decide +kernel) rfl rfl rfl (by decide +kernel)
set_option maxRecDepth 65536 in
theorem w_c13 : (Jvm.Cond.code ({ cls := "java/lang/Double", name := "compare", desc := "(DD)I" } : Jvm.MethodName) jdk_117_method_27_code (8 : Nat) (Option.some Jvm.ClassFile.FieldType.int)).before args0 about1 = true := code_word (m := ⟨10, 3⟩) (meth := k10m3) (c := k10c3) (by decide +kernel) rfl rfl rfl (by decide +kernel)
set_option maxRecDepth 65536 in
theorem w_c14 : (Jvm.Cond.code ({ cls := "com/example/calpurnia/calpurnia/ranking/BestDocuments$Heap", name := "move", desc := "(II)V" } : Jvm.MethodName) prog_188_method_15_code (3 : Nat) (Option.none : Option Jvm.ClassFile.FieldType)).before args0 about1 = true := code_word (m := ⟨3, 8⟩) (meth := k3m8) (c := k3c8) (by decide +kernel) rfl rfl rfl (by decide +kernel)
set_option maxRecDepth 65536 in
theorem w_c15 : (Jvm.Cond.code ({ cls := "com/example/calpurnia/calpurnia/ranking/BestDocuments$Heap", name := "worstScore", desc := "()D" } : Jvm.MethodName) prog_188_method_4_code (1 : Nat) (Option.some Jvm.ClassFile.FieldType.double)).before args0 about1 = true := code_word (m := ⟨3, 3⟩) (meth := k3m3) (c := k3c3) (by decide +kernel) rfl rfl rfl (by decide +kernel)
set_option maxRecDepth 65536 in
theorem w_c16 : (Jvm.Cond.code ({ cls := "com/example/calpurnia/calpurnia/ranking/BestDocuments", name := "keepsAsTie", desc := "(D)Z" } : Jvm.MethodName) prog_186_method_5_code (3 : Nat) (Option.some Jvm.ClassFile.FieldType.boolean)).before args0 about1 = true := code_word (m := ⟨2, 3⟩) (meth := k2m3) (c := k2c3) (by decide +kernel) rfl rfl rfl (by decide +kernel)
set_option maxRecDepth 65536 in
theorem w_c17 : (Jvm.Cond.code ({ cls := "com/example/calpurnia/calpurnia/ranking/BestDocuments$Heap", name := "worstDocument", desc := "()I" } : Jvm.MethodName) prog_188_method_3_code (1 : Nat) (Option.some Jvm.ClassFile.FieldType.int)).before args0 about1 = true := code_word (m := ⟨3, 2⟩) (meth := k3m2) (c := k3c2) (by decide +kernel) rfl rfl rfl (by decide +kernel)
set_option maxRecDepth 65536 in
theorem w_c18 : (Jvm.Cond.code ({ cls := "com/example/calpurnia/calpurnia/ranking/BestDocuments$Heap", name := "replaceWorst", desc := "(ID)V" } : Jvm.MethodName) prog_188_method_5_code (4 : Nat) (Option.none : Option Jvm.ClassFile.FieldType)).before args0 about1 = true := code_word (m := ⟨3, 4⟩) (meth := k3m4) (c := k3c4) (by decide +kernel) rfl rfl rfl (by decide +kernel)
set_option maxRecDepth 65536 in
theorem w_c19 : (Jvm.Cond.code ({ cls := "com/example/calpurnia/calpurnia/ranking/BestDocuments$Heap", name := "siftDown", desc := "(IDI)V" } : Jvm.MethodName) prog_188_method_12_code (7 : Nat) (Option.none : Option Jvm.ClassFile.FieldType)).before args0 about1 = true := code_word (m := ⟨3, 5⟩) (meth := k3m5) (c := k3c5) (by decide +kernel) rfl rfl rfl (by decide +kernel)
set_option maxRecDepth 65536 in
theorem w_c20 : (Jvm.Cond.code ({ cls := "java/lang/Double", name := "doubleToLongBits", desc := "(D)J" } : Jvm.MethodName) jdk_117_method_23_code (2 : Nat) (Option.some Jvm.ClassFile.FieldType.long)).before args0 about1 = true := code_word (m := ⟨10, 1⟩) (meth := k10m1) (c := k10c1) (by decide +kernel) rfl rfl rfl (by decide +kernel)
set_option maxRecDepth 65536 in
theorem w_c21 : (Jvm.Cond.code ({ cls := "java/lang/Double", name := "isNaN", desc := "(D)Z" } : Jvm.MethodName) jdk_117_method_6_code (2 : Nat) (Option.some Jvm.ClassFile.FieldType.boolean)).before args0 about1 = true := code_word (m := ⟨10, 0⟩) (meth := k10m0) (c := k10c0) (by decide +kernel) rfl rfl rfl (by decide +kernel)
def codes1 : List Jvm.Cond := [Jvm.Cond.code x code maxLocals ret, Jvm.Cond.code ({ cls := "com/example/calpurnia/calpurnia/ranking/BestDocuments", name := "<init>", desc := "(I)V" } : Jvm.MethodName) prog_186_method_1_code (2 : Nat) (Option.none : Option Jvm.ClassFile.FieldType), Jvm.Cond.code ({ cls := "com/example/calpurnia/calpurnia/ranking/BestDocuments", name := "<init>", desc := "(ILjava/util/function/DoubleUnaryOperator;Lcom/example/calpurnia/calpurnia/ranking/BestDocuments$DocumentOrder;)V" } : Jvm.MethodName) prog_186_method_2_code (4 : Nat) (Option.none : Option Jvm.ClassFile.FieldType), Jvm.Cond.code ({ cls := "java/lang/Object", name := "<init>", desc := "()V" } : Jvm.MethodName) object_method_1_code (1 : Nat) (Option.none : Option Jvm.ClassFile.FieldType), Jvm.Cond.code ({ cls := "com/example/calpurnia/calpurnia/ranking/BestDocuments$Heap", name := "<init>", desc := "(I)V" } : Jvm.MethodName) prog_188_method_1_code (2 : Nat) (Option.none : Option Jvm.ClassFile.FieldType), Jvm.Cond.code ({ cls := "com/example/calpurnia/calpurnia/ranking/BestDocuments$Ties", name := "<init>", desc := "(ILcom/example/calpurnia/calpurnia/ranking/BestDocuments$DocumentOrder;)V" } : Jvm.MethodName) prog_189_method_1_code (3 : Nat) (Option.none : Option Jvm.ClassFile.FieldType), Jvm.Cond.code ({ cls := "com/example/calpurnia/calpurnia/ranking/BestDocuments", name := "full", desc := "()Z" } : Jvm.MethodName) prog_186_method_3_code (1 : Nat) (Option.some Jvm.ClassFile.FieldType.boolean), Jvm.Cond.code ({ cls := "com/example/calpurnia/calpurnia/ranking/BestDocumentsFullPinLaw", name := "score", desc := "(I)D" } : Jvm.MethodName) method_3_code (1 : Nat) (Option.some Jvm.ClassFile.FieldType.double), Jvm.Cond.code ({ cls := "com/example/calpurnia/calpurnia/ranking/BestDocuments", name := "offer", desc := "(ID)V" } : Jvm.MethodName) prog_186_method_6_code (7 : Nat) (Option.none : Option Jvm.ClassFile.FieldType), Jvm.Cond.code ({ cls := "com/example/calpurnia/calpurnia/ranking/BestDocuments$Heap", name := "add", desc := "(ID)V" } : Jvm.MethodName) prog_188_method_2_code (5 : Nat) (Option.none : Option Jvm.ClassFile.FieldType), Jvm.Cond.code ({ cls := "com/example/calpurnia/calpurnia/ranking/BestDocuments$Heap", name := "put", desc := "(IID)V" } : Jvm.MethodName) prog_188_method_16_code (5 : Nat) (Option.none : Option Jvm.ClassFile.FieldType), Jvm.Cond.code ({ cls := "com/example/calpurnia/calpurnia/ranking/BestDocuments$Heap", name := "ranksBelow", desc := "(IDI)Z" } : Jvm.MethodName) prog_188_method_13_code (5 : Nat) (Option.some Jvm.ClassFile.FieldType.boolean), Jvm.Cond.code ({ cls := "com/example/calpurnia/calpurnia/ranking/BestDocuments$Heap", name := "ranksBelow", desc := "(IDID)Z" } : Jvm.MethodName) prog_188_method_14_code (7 : Nat) (Option.some Jvm.ClassFile.FieldType.boolean), Jvm.Cond.code ({ cls := "java/lang/Double", name := "compare", desc := "(DD)I" } : Jvm.MethodName) jdk_117_method_27_code (8 : Nat) (Option.some Jvm.ClassFile.FieldType.int), Jvm.Cond.code ({ cls := "com/example/calpurnia/calpurnia/ranking/BestDocuments$Heap", name := "move", desc := "(II)V" } : Jvm.MethodName) prog_188_method_15_code (3 : Nat) (Option.none : Option Jvm.ClassFile.FieldType), Jvm.Cond.code ({ cls := "com/example/calpurnia/calpurnia/ranking/BestDocuments$Heap", name := "worstScore", desc := "()D" } : Jvm.MethodName) prog_188_method_4_code (1 : Nat) (Option.some Jvm.ClassFile.FieldType.double), Jvm.Cond.code ({ cls := "com/example/calpurnia/calpurnia/ranking/BestDocuments", name := "keepsAsTie", desc := "(D)Z" } : Jvm.MethodName) prog_186_method_5_code (3 : Nat) (Option.some Jvm.ClassFile.FieldType.boolean), Jvm.Cond.code ({ cls := "com/example/calpurnia/calpurnia/ranking/BestDocuments$Heap", name := "worstDocument", desc := "()I" } : Jvm.MethodName) prog_188_method_3_code (1 : Nat) (Option.some Jvm.ClassFile.FieldType.int), Jvm.Cond.code ({ cls := "com/example/calpurnia/calpurnia/ranking/BestDocuments$Heap", name := "replaceWorst", desc := "(ID)V" } : Jvm.MethodName) prog_188_method_5_code (4 : Nat) (Option.none : Option Jvm.ClassFile.FieldType), Jvm.Cond.code ({ cls := "com/example/calpurnia/calpurnia/ranking/BestDocuments$Heap", name := "siftDown", desc := "(IDI)V" } : Jvm.MethodName) prog_188_method_12_code (7 : Nat) (Option.none : Option Jvm.ClassFile.FieldType), Jvm.Cond.code ({ cls := "java/lang/Double", name := "doubleToLongBits", desc := "(D)J" } : Jvm.MethodName) jdk_117_method_23_code (2 : Nat) (Option.some Jvm.ClassFile.FieldType.long), Jvm.Cond.code ({ cls := "java/lang/Double", name := "isNaN", desc := "(D)Z" } : Jvm.MethodName) jdk_117_method_6_code (2 : Nat) (Option.some Jvm.ClassFile.FieldType.boolean)]
set_option maxRecDepth 65536 in
theorem codes_eq : words1.filter isCode = codes1 := rfl
theorem w_codes : ∀ c ∈ words1.filter isCode, c.before args0 about1 = true := by
  rw [codes_eq]
  intro c hc
  simp only [codes1, List.mem_cons, List.not_mem_nil, or_false] at hc
  rcases hc with rfl | rfl | rfl | rfl | rfl | rfl | rfl | rfl | rfl | rfl | rfl | rfl | rfl | rfl | rfl | rfl | rfl | rfl | rfl | rfl | rfl | rfl
  · exact w_c0
  · exact w_c1
  · exact w_c2
  · exact w_c3
  · exact w_c4
  · exact w_c5
  · exact w_c6
  · exact w_c7
  · exact w_c8
  · exact w_c9
  · exact w_c10
  · exact w_c11
  · exact w_c12
  · exact w_c13
  · exact w_c14
  · exact w_c15
  · exact w_c16
  · exact w_c17
  · exact w_c18
  · exact w_c19
  · exact w_c20
  · exact w_c21
set_option maxRecDepth 65536 in
theorem w_t1 : (words1.take 24).all (fun c => isCode c || c.before args0 about1) = true := by decide +kernel
set_option maxRecDepth 65536 in
theorem w_t2 : ((words1.drop 24).take 24).all (fun c => isCode c || c.before args0 about1) = true := by decide +kernel
set_option maxRecDepth 65536 in
theorem w_t3 : (((words1.drop 24).drop 24).take 24).all (fun c => isCode c || c.before args0 about1) = true := by decide +kernel
set_option maxRecDepth 65536 in
theorem w_t4 : ((((words1.drop 24).drop 24).drop 24).take 24).all (fun c => isCode c || c.before args0 about1) = true := by decide +kernel
set_option maxRecDepth 65536 in
theorem w_t5 : (((((words1.drop 24).drop 24).drop 24).drop 24).take 24).all (fun c => isCode c || c.before args0 about1) = true := by decide +kernel
set_option maxRecDepth 65536 in
theorem w_t6 : (((((words1.drop 24).drop 24).drop 24).drop 24).drop 24).all (fun c => isCode c || c.before args0 about1) = true := by decide +kernel
theorem w_tables : (allAtoms (Jvm.Cond.code x code maxLocals ret :: tables_1)).before args0 about1 = true := by
  rw [allAtoms_all]
  show words1.all (fun c => c.before args0 about1) = true
  refine all_split ?_ w_codes
  rw [← List.take_append_drop 24 words1, List.all_append, w_t1, ← List.take_append_drop 24 (words1.drop 24), List.all_append, w_t2, ← List.take_append_drop 24 ((words1.drop 24).drop 24), List.all_append, w_t3, ← List.take_append_drop 24 (((words1.drop 24).drop 24).drop 24), List.all_append, w_t4, ← List.take_append_drop 24 ((((words1.drop 24).drop 24).drop 24).drop 24), List.all_append, w_t5, w_t6]
  rfl
set_option maxRecDepth 65536 in
theorem w_case : (Jvm.Cond.and given_1 narrow_1).before args0 about1 = true := by decide +kernel
theorem w_applies : (headSpec (Jvm.Cond.code x code maxLocals ret :: tables_1) room_1).applies x e0.platform about1 = true :=
  (Spec.applies_iff w_frames).mpr ⟨w_running, w_runnable, w_alone, w_named, w_hears, w_ripe, w_room, w_tables⟩
theorem atStart : AtStart classFile x code maxLocals ret World_1 tables_1 room_1 Calls_1 rest_1 Pre_1 launch0 p0 e0 about1 theMethod args0 below0 :=
  ⟨lists_1, trivial, launch0.admits_env _ _ _, launch0.least_env, fairChoices_fair.cas, fairChoices_fair.clock, w_frames, w_args, w_heap, w_applies, trivial, trivial, w_case⟩
end start1
theorem witness_1 : WitnessClaimed_1 := ⟨start1.p0, start1.e0, start1.about1, start1.theMethod, start1.args0, start1.below0, start1.atStart⟩
end Jvm.Pilot.@@N@@
