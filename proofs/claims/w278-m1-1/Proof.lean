import JvmDerived
import JvmDerived.Pilot.@@N@@Statement
import JvmDerived.Pilot.@@N@@Code
set_option linter.unusedVariables false
set_option linter.unusedSimpArgs false
@@BLOCK:NumsL.lean.txt@@
namespace Jvm.RoadKit
open Sem ClassFile Op Lib Jvm.Stand Jvm.Free Jvm.LawKit
section New
variable {p : Program} {l : Launch} {e : Env} {R : Room} {s : State} {m : MethodId} {args : Array Value} {below : List Frame} {meth : Method} {c : Code} {T : State} {locs : List Loc} {cells slots : Nat}
theorem retI (X : Stand p l e R s m args below meth c T locs cells slots) (hx : p.tables.exec = Jvm.exec) {pc : Nat} {Ls : Array Slot} {z : Int32} {rest : List Value} (hret : meth.sig.returnType = some .int) (hd : decode c.code pc = .ok (.ireturn, 1)) {fs : List Frame}
    (hl : ∀ (f : JFrame) (acts : List Action), f.method = m → f.locked = none → f.entered = [] → (doReturn e (T.setTop f) acts (some (.int z))).1 = T.setFrames fs) : Steps p.tables e below (T.setTop (mkF m pc Ls (.int z :: rest))) (T.setFrames fs) := by
  have hm' : T.vm.method? m = some meth := X.method'
  have hn : narrow .int (.int z) = .int z := rfl
  show Steps _ _ _ (T.setTop { method := m, pc := pc, locals := Ls, stack := _ :: rest, locked := none }) _
  jvm_step X.here [X.here.top, hx, hd, hm', hret, hn]
  first | (intro acts; rw [hl _ acts rfl rfl rfl]) | rw [hl _ _ rfl rfl rfl]
  exact Steps.refl _
end New
end Jvm.RoadKit
namespace Jvm.Pilot.@@N@@
open Jvm Jvm.ClassFile Sem Op Lib Jvm.Free Jvm.Stand Jvm.LawKit Jvm.RoadKit Bundle Jvm.Pilot.@@N@@.Jvm.D
theorem ww {Z : State} {a0 : Array Value} (hw : ∀ d ∈ tables_1, d.before a0 Z = true) (i : Nat) {d : Jvm.Cond} (h : tables_1[i]? = some d) : d.before a0 Z = true := hw _ (List.mem_of_getElem? h)
theorem own_nst {Z : State} {h : Heap} {x : Addr} {C : String} (E : Exa Z h x C) : ∀ cl : Cell, h[x]? = some cl → cl.vm.isStatics = false := by
  intro cl hc
  obtain ⟨c1, k, h1, h2, h3, h4, h5⟩ := E
  cases h1.symm.trans hc
  exact h4
theorem own_stak {Z : State} {h h' : Heap} {ws : List Addr} {C n d : String} {w : Value} (F : Sta Z h C n d w) (K : Keep h h' ws) (q : ∀ x ∈ ws, ∀ cl : Cell, h[x]? = some cl → cl.vm.isStatics = false) : Sta Z h' C n d w := by
  obtain ⟨cf, i, k, f, st, cell, h1, h2, h3, h4, h5, h6, h7⟩ := F
  refine ⟨cf, i, k, f, st, cell, h1, h2, h3, h4, K.2.1 st cell h5 (fun hm => ?_), h6, h7⟩
  rw [q st hm cell h5] at h6
  cases h6
theorem d4_0 : decode jdk_71_method_1_code 0 = .ok (.aload_n 0, 1) := by decide +kernel
theorem d4_1 : decode jdk_71_method_1_code 1 = .ok (.invokespecial 1, 3) := by decide +kernel
theorem d4_4 : decode jdk_71_method_1_code 4 = .ok (.return_, 1) := by decide +kernel
theorem pn_4 : plainName "java/util/AbstractMap" = true := by first | (simp [plainName, overriddenIn]; done) | decide +kernel
theorem ef_4 (m : MethodId) (x0 : Addr) : entryFrame m #[(.ref x0)] 1 = mkF m 0 #[.val (.ref x0)] [] := by first | (simp [entryFrame, mkF, argsToLocals, Value.category]; done) | rfl
-- 2. THE CONTRACT: what this body leaves is yours
def Q4 (Z : State) (a1 : Addr) (h0 : Heap) (n0 : Nat) (v : Option Value) (h : Heap) (L : List Loc) : Prop := v = none ∧ Fr n0 L ∧ h = h0
set_option maxRecDepth 65536 in
set_option maxHeartbeats 40000000 in
theorem rm4 (l : Launch) (Z : State) (a0 : Array Value) (hw : ∀ d ∈ tables_1, d.before a0 Z = true) (ws : List Jvm.Cond) (a1 : Addr) (h0 : Heap) (n0 : Nat) (Z0 : n0 ≤ h0.size) :
    MetFree l (⟨"java/util/AbstractMap", "<init>", "()V"⟩ : MethodName) (head1 (Jvm.Cond.code (⟨"java/util/AbstractMap", "<init>", "()V"⟩ : MethodName) jdk_71_method_1_code 1 none :: ws) ({ frames := 1, cells := 0, slots := 0, locals := 12 } : Room)) (fun a U => a = #[(.ref a1)] ∧ Z.Warmed39 U.vm ∧ U.heap = h0) (fun _ _ _ _ _ => True) (fun _ U o U' => ∃ v L, o = .returned v ∧ Q4 Z a1 h0 n0 v U'.heap L ∧ FrameEnd U o U' L ({ frames := 1, cells := 0, slots := 0, locals := 12 } : Room).cells ({ frames := 1, cells := 0, slots := 0, locals := 12 } : Room).slots) := by
  refine MetFree.of_bodySF (plainFor_of_name pn_4) hisR ?_
  intro p e s m args below meth c s₁ Bd hml0 hP hK
  obtain ⟨rfl, hZ, hh⟩ := hP
  have hx := Bd.exec
  have hby := Bd.bytes
  have hml : c.maxLocals = 1 := hml0
  have hown : s.vm.findClass "java/util/AbstractMap" = some m.cls := findClass_of_methodNamed Bd.named
  have hnm := (name_of_methodNamed Bd.named Bd.method).1
  have X0 : Stand p l e ({ frames := 1, cells := 0, slots := 0, locals := 12 } : Room) s m #[(.ref a1)] below meth c s₁ [] 0 0 := Stand.of_body Bd
  have e0 : s₁.heap = h0 := by rw [← hh, Bd.state]; rfl
  have N0 := Fr.nil n0
  have pre0 : ∀ t, Steps p.tables e below (s₁.setTop (mkF m 0 #[.val (.ref a1)] [])) t → Steps p.tables e below (s₁.setTop (entryFrame m #[(.ref a1)] 1)) t := fun t k => castTop (ef_4 m a1) k
  obtain ⟨T2, X2, e2, st2⟩ := initO X0 hx hZ hown (ww hw 21 rfl) (ww hw 7 rfl) (ww hw 8 rfl) e0 (g := (mkF m 1 #[.val (.ref a1)] [(.ref a1)])) rfl (by rw [hml]; rfl) rfl (hb hby d4_1) (by decide) (W := 0) (by show 2 * 0 + _ ≤ _; exact Nat.le_of_eq rfl) (by decide)
  obtain ⟨fs, hr, hrun, hended, hW, hsame⟩ := X2.leave (v := none) (fun _ => rfl)
  refine ⟨_, _, pre0 _ ?_, hrun, hended, _, _, rfl, ?_, ⟨_, rfl⟩, hW, hsame.mono (by decide) (by decide)⟩
  · show Steps _ _ _ (s₁.setTop (mkF m 0 #[.val (.ref a1)] [])) _
    refine XS.aloadN X0.here hx rfl (hb hby d4_0) rfl rfl ?_
    show Steps _ _ _ (s₁.setTop (mkF m 1 #[.val (.ref a1)] [(.ref a1)])) _
    refine st2 _ ?_
    show Steps _ _ _ (T2.setTop (mkF m 4 #[.val (.ref a1)] [])) _
    exact X2.returnOut hx Bd.returns (hb hby d4_4) hr
  · show Q4 Z a1 h0 n0 _ T2.heap _
    rw [e2]
    exact ⟨rfl, N0, rfl⟩
theorem d3_0 : decode jdk_69_method_7_code 0 = .ok (.aload_n 0, 1) := by decide +kernel
theorem d3_1 : decode jdk_69_method_7_code 1 = .ok (.invokespecial 43, 3) := by decide +kernel
theorem d3_4 : decode jdk_69_method_7_code 4 = .ok (.aload_n 0, 1) := by decide +kernel
theorem d3_5 : decode jdk_69_method_7_code 5 = .ok (.ldc 92, 2) := by decide +kernel
theorem d3_7 : decode jdk_69_method_7_code 7 = .ok (.putfield 81, 3) := by decide +kernel
theorem d3_10 : decode jdk_69_method_7_code 10 = .ok (.return_, 1) := by decide +kernel
theorem pn_3 : plainName "java/util/HashMap" = true := by first | (simp [plainName, overriddenIn]; done) | decide +kernel
theorem pd_3_1 : parseMethodDescriptor "()V" = some ⟨[], none⟩ := by decide +kernel
theorem ef_3 (m : MethodId) (x0 : Addr) : entryFrame m #[(.ref x0)] 1 = mkF m 0 #[.val (.ref x0)] [] := by first | (simp [entryFrame, mkF, argsToLocals, Value.category]; done) | rfl
-- 2. THE CONTRACT: what this body leaves is yours
def Q3 (Z : State) (a1 : Addr) (u_loadFactor_a1 : Value) (h0 : Heap) (n0 : Nat) (v : Option Value) (h : Heap) (L : List Loc) : Prop := v = none ∧ Fr n0 L ∧ Keep h0 h [a1] ∧ Exa Z h a1 "java/util/HashMap" ∧ Fld Z h a1 "java/util/HashMap" "loadFactor" "F" (.float (1061158912 : UInt32))
-- its room: frames: the greatest, locals: the greatest, cells 0 + .., slots 0 + ..: rm4: frames + 1; locals 0 + 1 + 11 + its room's locals; its cells and slots besides
set_option maxRecDepth 65536 in
set_option maxHeartbeats 40000000 in
theorem rm3 (l : Launch) (Z : State) (a0 : Array Value) (hw : ∀ d ∈ tables_1, d.before a0 Z = true) (ws : List Jvm.Cond) (a1 : Addr) (u_loadFactor_a1 : Value) (h0 : Heap) (n0 : Nat) (Z0 : n0 ≤ h0.size) (E_a1 : Exa Z h0 a1 "java/util/HashMap") (F_loadFactor_a1 : Fld Z h0 a1 "java/util/HashMap" "loadFactor" "F" u_loadFactor_a1) (g_a1 : n0 ≤ a1) :
    MetFree l (⟨"java/util/HashMap", "<init>", "()V"⟩ : MethodName) (head1 (Jvm.Cond.code (⟨"java/util/HashMap", "<init>", "()V"⟩ : MethodName) jdk_69_method_7_code 1 none :: ws) ({ frames := 2, cells := 0, slots := 0, locals := 24 } : Room)) (fun a U => a = #[(.ref a1)] ∧ Z.Warmed39 U.vm ∧ U.heap = h0) (fun _ _ _ _ _ => True) (fun _ U o U' => ∃ v L, o = .returned v ∧ Q3 Z a1 u_loadFactor_a1 h0 n0 v U'.heap L ∧ FrameEnd U o U' L ({ frames := 2, cells := 0, slots := 0, locals := 24 } : Room).cells ({ frames := 2, cells := 0, slots := 0, locals := 24 } : Room).slots) := by
  refine MetFree.of_bodySF (plainFor_of_name pn_3) hisR ?_
  intro p e s m args below meth c s₁ Bd hml0 hP hK
  obtain ⟨rfl, hZ, hh⟩ := hP
  have hx := Bd.exec
  have hby := Bd.bytes
  have hml : c.maxLocals = 1 := hml0
  have hown : s.vm.findClass "java/util/HashMap" = some m.cls := findClass_of_methodNamed Bd.named
  have hnm := (name_of_methodNamed Bd.named Bd.method).1
  have X0 : Stand p l e ({ frames := 2, cells := 0, slots := 0, locals := 24 } : Room) s m #[(.ref a1)] below meth c s₁ [] 0 0 := Stand.of_body Bd
  have e0 : s₁.heap = h0 := by rw [← hh, Bd.state]; rfl
  have N0 := Fr.nil n0
  have pre0 : ∀ t, Steps p.tables e below (s₁.setTop (mkF m 0 #[.val (.ref a1)] [])) t → Steps p.tables e below (s₁.setTop (entryFrame m #[(.ref a1)] 1)) t := fun t k => castTop (ef_3 m a1) k
  obtain ⟨_, _, ⟨T2, L2, k2, n2⟩, -, X2, ⟨Lc2, hQ2, l2, y2, z2⟩, st2⟩ := X0.specialBack hx (y := (⟨"java/util/AbstractMap", "<init>", "()V"⟩ : MethodName)) rfl hown (mvT hZ (ww hw 15 rfl)) (mvT hZ (ww hw 16 rfl)) (mvT hZ (ww hw 20 rfl)) (by decide) (backOf (W := 0) (rm4 l Z a0 hw [] a1  h0 n0 Z0) hZ (ww hw 20 rfl) (ww hw 19 rfl) (by decide) (by decide)) (g := (mkF m 1 #[.val (.ref a1)] [(.ref a1)])) rfl (by rw [hml]; rfl) (Steps.refl _) (a := a1) (argsL := []) (rest := []) (lenOf pd_3_1 rfl) rfl (by show 2 * 0 + _ ≤ _; exact Nat.le_of_eq rfl) (hb hby d3_1) (fun _ _ => ⟨rfl, e0, (by decide : 0 + 0 ≤ _), (by decide : 0 + 0 ≤ _)⟩)
  dsimp only [Pt.U, Pt.locs, Pt.cells, Pt.slots] at X2 l2 y2 z2 st2 hQ2
  subst l2 y2 z2
  obtain ⟨rfl, N2q, eh2⟩ := hQ2
  have N2 := Fr.app N0 N2q
  obtain ⟨T3, h3, X3, e3, W3, st3⟩ := putF X2 hx hZ hown (host := "") (Or.inl (ww hw 23 rfl)) Via.refl eh2 F_loadFactor_a1 E_a1 (Or.inr ⟨(ww hw 24 rfl), rfl, hnm⟩) (ww hw 10 rfl) (ty := .float) (by decide) rfl rfl (g := (mkF m 7 #[.val (.ref a1)] [(.float (1061158912 : UInt32)), (.ref a1)])) rfl rfl (hb hby d3_7)
  have Fw3 := F_loadFactor_a1.same W3
  have K3 : Keep h0 h3 [a1] := (Keep.refl h0 [a1]).wr W3 (Or.inl (List.mem_of_getElem? (i := 0) rfl))
  have N3 := Fr.snoc X3 N2 g_a1
  obtain ⟨fs, hr, hrun, hended, hW, hsame⟩ := X3.leave (v := none) (fun _ => rfl)
  refine ⟨_, _, pre0 _ ?_, hrun, hended, _, _, rfl, ?_, ⟨_, rfl⟩, hW, hsame.mono (by decide) (by decide)⟩
  · show Steps _ _ _ (s₁.setTop (mkF m 0 #[.val (.ref a1)] [])) _
    refine XS.aloadN X0.here hx rfl (hb hby d3_0) rfl rfl ?_
    show Steps _ _ _ (s₁.setTop (mkF m 1 #[.val (.ref a1)] [(.ref a1)])) _
    refine st2.trans ?_
    show Steps _ _ _ (T2.setTop (mkF m 4 #[.val (.ref a1)] [])) _
    refine XS.aloadN X2.here hx rfl (hb hby d3_4) rfl rfl ?_
    show Steps _ _ _ (T2.setTop (mkF m 5 #[.val (.ref a1)] [(.ref a1)])) _
    refine X2.ldcFloatC hx hown (mvT hZ (ww hw 22 rfl)) (g := (mkF m 5 #[.val (.ref a1)] [(.ref a1)])) rfl (hb hby d3_5) _ ?_
    show Steps _ _ _ (T2.setTop (mkF m 7 #[.val (.ref a1)] [(.float (1061158912 : UInt32)), (.ref a1)])) _
    refine st3 _ ?_
    show Steps _ _ _ (T3.setTop (mkF m 10 #[.val (.ref a1)] [])) _
    exact X3.returnOut hx Bd.returns (hb hby d3_10) hr
  · show Q3 Z a1 u_loadFactor_a1 h0 n0 _ T3.heap _
    rw [e3]
    exact ⟨rfl, N3, K3, (E_a1.wr W3), Fw3⟩
theorem d1_0 : decode prog_61_method_1_code 0 = .ok (.aload_n 0, 1) := by decide +kernel
theorem d1_1 : decode prog_61_method_1_code 1 = .ok (.invokespecial 1, 3) := by decide +kernel
theorem d1_4 : decode prog_61_method_1_code 4 = .ok (.aload_n 0, 1) := by decide +kernel
theorem d1_5 : decode prog_61_method_1_code 5 = .ok (.new 7, 3) := by decide +kernel
theorem d1_8 : decode prog_61_method_1_code 8 = .ok (.dup, 1) := by decide +kernel
theorem d1_9 : decode prog_61_method_1_code 9 = .ok (.invokespecial 9, 3) := by decide +kernel
theorem d1_12 : decode prog_61_method_1_code 12 = .ok (.putfield 10, 3) := by decide +kernel
theorem d1_15 : decode prog_61_method_1_code 15 = .ok (.aload_n 0, 1) := by decide +kernel
theorem d1_16 : decode prog_61_method_1_code 16 = .ok (.aconst_null, 1) := by decide +kernel
theorem d1_17 : decode prog_61_method_1_code 17 = .ok (.putfield 16, 3) := by decide +kernel
theorem d1_20 : decode prog_61_method_1_code 20 = .ok (.aload_n 0, 1) := by decide +kernel
theorem d1_21 : decode prog_61_method_1_code 21 = .ok (.aload_n 0, 1) := by decide +kernel
theorem d1_22 : decode prog_61_method_1_code 22 = .ok (.putfield 20, 3) := by decide +kernel
theorem d1_25 : decode prog_61_method_1_code 25 = .ok (.aload_n 0, 1) := by decide +kernel
theorem d1_26 : decode prog_61_method_1_code 26 = .ok (.aload_n 1, 1) := by decide +kernel
theorem d1_27 : decode prog_61_method_1_code 27 = .ok (.putfield 23, 3) := by decide +kernel
theorem d1_30 : decode prog_61_method_1_code 30 = .ok (.aload_n 0, 1) := by decide +kernel
theorem d1_31 : decode prog_61_method_1_code 31 = .ok (.aload_n 2, 1) := by decide +kernel
theorem d1_32 : decode prog_61_method_1_code 32 = .ok (.putfield 26, 3) := by decide +kernel
theorem d1_35 : decode prog_61_method_1_code 35 = .ok (.aload_n 0, 1) := by decide +kernel
theorem d1_36 : decode prog_61_method_1_code 36 = .ok (.aconst_null, 1) := by decide +kernel
theorem d1_37 : decode prog_61_method_1_code 37 = .ok (.putfield 30, 3) := by decide +kernel
theorem d1_40 : decode prog_61_method_1_code 40 = .ok (.aload_n 0, 1) := by decide +kernel
theorem d1_41 : decode prog_61_method_1_code 41 = .ok (.iconst 0, 1) := by decide +kernel
theorem d1_42 : decode prog_61_method_1_code 42 = .ok (.putfield 33, 3) := by decide +kernel
theorem d1_45 : decode prog_61_method_1_code 45 = .ok (.return_, 1) := by decide +kernel
theorem pn_1 : plainName "com/example/transom/transom/Scope" = true := by first | (simp [plainName, overriddenIn]; done) | decide +kernel
theorem pd_1_1 : parseMethodDescriptor "()V" = some ⟨[], none⟩ := by decide +kernel
theorem ef_1 (m : MethodId) (x0 : Addr) : entryFrame m #[(.ref x0), .null, .null] 3 = mkF m 0 #[.val (.ref x0), .val .null, .val .null] [] := by first | (simp [entryFrame, mkF, argsToLocals, Value.category]; done) | rfl
-- 2. THE CONTRACT: what this body leaves is yours
def Q1 (Z : State) (a1 : Addr) (u_values_a1 : Value) (u_parent_a1 : Value) (u_top_a1 : Value) (u_model_a1 : Value) (u_template_a1 : Value) (u_renderer_a1 : Value) (u_calls_a1 : Value) (h0 : Heap) (n0 : Nat) (v : Option Value) (h : Heap) (L : List Loc) : Prop := v = none ∧ Fr n0 L ∧ Keep h0 h [a1] ∧ Exa Z h a1 "com/example/transom/transom/Scope" ∧ Fld Z h a1 "com/example/transom/transom/Scope" "top" "Lcom/example/transom/transom/Scope;" (.ref a1) ∧ Fld Z h a1 "com/example/transom/transom/Scope" "model" "Ljava/util/Map;" .null ∧ Fld Z h a1 "com/example/transom/transom/Scope" "template" "Lcom/example/transom/transom/Template;" .null ∧ Fld Z h a1 "com/example/transom/transom/Scope" "renderer" "Lcom/example/transom/transom/Scope;" .null ∧ Fld Z h a1 "com/example/transom/transom/Scope" "calls" "I" (.int (0 : Int32)) ∧ Fld Z h a1 "com/example/transom/transom/Scope" "jump" "Lcom/example/transom/transom/Scope$Jump;" .null
-- its room: frames: the greatest, locals: the greatest, cells 1 + .., slots 8 + ..: rm3: frames + 1; locals 2 + 1 + 11 + its room's locals; its cells and slots besides; Object.<init>: frames 1, locals 12
set_option maxRecDepth 65536 in
set_option maxHeartbeats 40000000 in
theorem rm1 (l : Launch) (Z : State) (a0 : Array Value) (hw : ∀ d ∈ tables_1, d.before a0 Z = true) (ws : List Jvm.Cond) (a1 : Addr) (u_values_a1 : Value) (u_parent_a1 : Value) (u_top_a1 : Value) (u_model_a1 : Value) (u_template_a1 : Value) (u_renderer_a1 : Value) (u_calls_a1 : Value) (h0 : Heap) (n0 : Nat) (Z0 : n0 ≤ h0.size) (F_jump_a1 : Fld Z h0 a1 "com/example/transom/transom/Scope" "jump" "Lcom/example/transom/transom/Scope$Jump;" .null) (E_a1 : Exa Z h0 a1 "com/example/transom/transom/Scope") (F_values_a1 : Fld Z h0 a1 "com/example/transom/transom/Scope" "values" "Ljava/util/Map;" u_values_a1) (g_a1 : n0 ≤ a1) (F_parent_a1 : Fld Z h0 a1 "com/example/transom/transom/Scope" "parent" "Lcom/example/transom/transom/Scope;" u_parent_a1) (F_top_a1 : Fld Z h0 a1 "com/example/transom/transom/Scope" "top" "Lcom/example/transom/transom/Scope;" u_top_a1) (F_model_a1 : Fld Z h0 a1 "com/example/transom/transom/Scope" "model" "Ljava/util/Map;" u_model_a1) (F_template_a1 : Fld Z h0 a1 "com/example/transom/transom/Scope" "template" "Lcom/example/transom/transom/Template;" u_template_a1) (F_renderer_a1 : Fld Z h0 a1 "com/example/transom/transom/Scope" "renderer" "Lcom/example/transom/transom/Scope;" u_renderer_a1) (F_calls_a1 : Fld Z h0 a1 "com/example/transom/transom/Scope" "calls" "I" u_calls_a1) :
    MetFree l (⟨"com/example/transom/transom/Scope", "<init>", "(Ljava/util/Map;Lcom/example/transom/transom/Template;)V"⟩ : MethodName) (head1 (Jvm.Cond.code (⟨"com/example/transom/transom/Scope", "<init>", "(Ljava/util/Map;Lcom/example/transom/transom/Template;)V"⟩ : MethodName) prog_61_method_1_code 3 none :: ws) ({ frames := 3, cells := 1, slots := 8, locals := 60 } : Room)) (fun a U => a = #[(.ref a1), .null, .null] ∧ Z.Warmed39 U.vm ∧ U.heap = h0) (fun _ _ _ _ _ => True) (fun _ U o U' => ∃ v L, o = .returned v ∧ Q1 Z a1 u_values_a1 u_parent_a1 u_top_a1 u_model_a1 u_template_a1 u_renderer_a1 u_calls_a1 h0 n0 v U'.heap L ∧ FrameEnd U o U' L ({ frames := 3, cells := 1, slots := 8, locals := 60 } : Room).cells ({ frames := 3, cells := 1, slots := 8, locals := 60 } : Room).slots) := by
  refine MetFree.of_bodySF (plainFor_of_name pn_1) hisR ?_
  intro p e s m args below meth c s₁ Bd hml0 hP hK
  obtain ⟨rfl, hZ, hh⟩ := hP
  have hx := Bd.exec
  have hby := Bd.bytes
  have hml : c.maxLocals = 3 := hml0
  have hown : s.vm.findClass "com/example/transom/transom/Scope" = some m.cls := findClass_of_methodNamed Bd.named
  have hnm := (name_of_methodNamed Bd.named Bd.method).1
  have X0 : Stand p l e ({ frames := 3, cells := 1, slots := 8, locals := 60 } : Room) s m #[(.ref a1), .null, .null] below meth c s₁ [] 0 0 := Stand.of_body Bd
  have e0 : s₁.heap = h0 := by rw [← hh, Bd.state]; rfl
  have N0 := Fr.nil n0
  have pre0 : ∀ t, Steps p.tables e below (s₁.setTop (mkF m 0 #[.val (.ref a1), .val .null, .val .null] [])) t → Steps p.tables e below (s₁.setTop (entryFrame m #[(.ref a1), .null, .null] 3)) t := fun t k => castTop (ef_1 m a1) k
  obtain ⟨T2, X2, e2, st2⟩ := initO X0 hx hZ hown (ww hw 6 rfl) (ww hw 7 rfl) (ww hw 8 rfl) e0 (g := (mkF m 1 #[.val (.ref a1), .val .null, .val .null] [(.ref a1)])) rfl (by rw [hml]; rfl) rfl (hb hby d1_1) (by decide) (W := 0) (by show 2 * 0 + _ ≤ _; exact Nat.le_of_eq rfl) (by decide)
  obtain ⟨T3, h3, X3, e3, E3, A3, D3, -, st3⟩ := newO X2 hx hZ hown (ww hw 9 rfl) (ww hw 10 rfl) (ww hw 11 rfl) e2 (g := (mkF m 5 #[.val (.ref a1), .val .null, .val .null] [(.ref a1)])) rfl (hb hby d1_5) (by decide) (by decide)
  obtain ⟨b3, g3⟩ : ∃ z, z = h0.size := ⟨_, rfl⟩
  rw [← g3] at A3 D3 st3
  have F_loadFactor_b3 : Fld Z h3 b3 "java/util/HashMap" "loadFactor" "F" (.float 0) := D3 (Or.inr (ww hw 24 rfl)) (ty := .float) (by decide)
  have E_b3 := A3
  have g_b3 : n0 ≤ b3 := Nat.le_trans Z0 (Nat.le_of_eq g3.symm)
  have sz_b3 : h0.size ≤ b3 := (Nat.le_trans (Keep.refl h0 [a1]).1 (Nat.le_of_eq g3.symm))
  have K3 : Keep h0 h3 [a1] := (Keep.refl h0 [a1]).ext E3
  obtain ⟨_, _, ⟨T4, L4, k4, n4⟩, -, X4, ⟨Lc4, hQ4, l4, y4, z4⟩, st4⟩ := X3.specialBack hx (y := (⟨"java/util/HashMap", "<init>", "()V"⟩ : MethodName)) rfl hown (mvT hZ (ww hw 12 rfl)) (mvT hZ (ww hw 13 rfl)) (mvT hZ (ww hw 14 rfl)) (by decide) (backOf (W := 2) (rm3 l Z a0 hw [] b3 _ h3 n0 (Nat.le_trans Z0 E3.1) E_b3 F_loadFactor_b3 g_b3) hZ (ww hw 14 rfl) (ww hw 11 rfl) (by decide) (by decide)) (g := (mkF m 9 #[.val (.ref a1), .val .null, .val .null] [(.ref b3), (.ref b3), (.ref a1)])) rfl (by rw [hml]; rfl) (Steps.refl _) (a := b3) (argsL := []) (rest := [(.ref b3), (.ref a1)]) (lenOf pd_1_1 rfl) rfl (by show 2 * 0 + _ ≤ _; exact Nat.le_of_eq rfl) (hb hby d1_9) (fun _ _ => ⟨rfl, e3, (by decide : 1 + 0 ≤ _), (by decide : 8 + 0 ≤ _)⟩)
  dsimp only [Pt.U, Pt.locs, Pt.cells, Pt.slots] at X4 l4 y4 z4 st4 hQ4
  subst l4 y4 z4
  obtain ⟨rfl, N4q, Kc4, Ec4, Fl4⟩ := hQ4
  have N4 := Fr.app N0 N4q
  have K4 : Keep h0 T4.heap [a1] := K3.trans Kc4 (allS (Or.inr sz_b3) all0)
  obtain ⟨T5, h5, X5, e5, W5, st5⟩ := putF X4 hx hZ hown (host := "") (Or.inl (ww hw 25 rfl)) Via.refl rfl ((F_values_a1.ext E3).keep Kc4 (ninS (Nat.ne_of_lt (Nat.lt_of_lt_of_le F_jump_a1.lt (Nat.le_of_eq g3.symm))) nin0)) ((E_a1.ext E3).keep Kc4) (Or.inr ⟨(ww hw 26 rfl), rfl, hnm⟩) (ww hw 1 rfl) (ty := (.object "java/util/Map")) (by decide) rfl rfl (g := (mkF m 12 #[.val (.ref a1), .val .null, .val .null] [(.ref b3), (.ref a1)])) rfl rfl (hb hby d1_12)
  have Fw5 := ((F_values_a1.ext E3).keep Kc4 (ninS (Nat.ne_of_lt (Nat.lt_of_lt_of_le F_jump_a1.lt (Nat.le_of_eq g3.symm))) nin0)).same W5
  have K5 : Keep h0 h5 [a1] := K4.wr W5 (Or.inl (List.mem_of_getElem? (i := 0) rfl))
  have N5 := Fr.snoc X5 N4 g_a1
  obtain ⟨T6, h6, X6, e6, W6, st6⟩ := putF X5 hx hZ hown (host := "") (Or.inl (ww hw 27 rfl)) Via.refl e5 (((F_parent_a1.ext E3).keep Kc4 (ninS (Nat.ne_of_lt (Nat.lt_of_lt_of_le F_jump_a1.lt (Nat.le_of_eq g3.symm))) nin0)).other W5 (Or.inr (slot_ne (Or.inr (ww hw 28 rfl)) (Or.inr (ww hw 26 rfl)) (by decide) (t := (.object "com/example/transom/transom/Scope")) (t' := (.object "java/util/Map")) (by decide) (by decide)))) (((E_a1.ext E3).keep Kc4).wr W5) (Or.inr ⟨(ww hw 28 rfl), rfl, hnm⟩) (ww hw 1 rfl) (ty := (.object "com/example/transom/transom/Scope")) (by decide) rfl rfl (g := (mkF m 17 #[.val (.ref a1), .val .null, .val .null] [.null, (.ref a1)])) rfl rfl (hb hby d1_17)
  have Fw6 := (((F_parent_a1.ext E3).keep Kc4 (ninS (Nat.ne_of_lt (Nat.lt_of_lt_of_le F_jump_a1.lt (Nat.le_of_eq g3.symm))) nin0)).other W5 (Or.inr (slot_ne (Or.inr (ww hw 28 rfl)) (Or.inr (ww hw 26 rfl)) (by decide) (t := (.object "com/example/transom/transom/Scope")) (t' := (.object "java/util/Map")) (by decide) (by decide)))).same W6
  have K6 : Keep h0 h6 [a1] := K5.wr W6 (Or.inl (List.mem_of_getElem? (i := 0) rfl))
  have N6 := Fr.snoc X6 N5 g_a1
  obtain ⟨T7, h7, X7, e7, W7, st7⟩ := putF X6 hx hZ hown (host := "") (Or.inl (ww hw 29 rfl)) Via.refl e6 ((((F_top_a1.ext E3).keep Kc4 (ninS (Nat.ne_of_lt (Nat.lt_of_lt_of_le F_jump_a1.lt (Nat.le_of_eq g3.symm))) nin0)).other W5 (Or.inr (slot_ne (Or.inr (ww hw 30 rfl)) (Or.inr (ww hw 26 rfl)) (by decide) (t := (.object "com/example/transom/transom/Scope")) (t' := (.object "java/util/Map")) (by decide) (by decide)))).other W6 (Or.inr (slot_ne (Or.inr (ww hw 30 rfl)) (Or.inr (ww hw 28 rfl)) (by decide) (t := (.object "com/example/transom/transom/Scope")) (t' := (.object "com/example/transom/transom/Scope")) (by decide) (by decide)))) ((((E_a1.ext E3).keep Kc4).wr W5).wr W6) (Or.inr ⟨(ww hw 30 rfl), rfl, hnm⟩) (ww hw 1 rfl) (ty := (.object "com/example/transom/transom/Scope")) (by decide) rfl rfl (g := (mkF m 22 #[.val (.ref a1), .val .null, .val .null] [(.ref a1), (.ref a1)])) rfl rfl (hb hby d1_22)
  have Fw7 := ((((F_top_a1.ext E3).keep Kc4 (ninS (Nat.ne_of_lt (Nat.lt_of_lt_of_le F_jump_a1.lt (Nat.le_of_eq g3.symm))) nin0)).other W5 (Or.inr (slot_ne (Or.inr (ww hw 30 rfl)) (Or.inr (ww hw 26 rfl)) (by decide) (t := (.object "com/example/transom/transom/Scope")) (t' := (.object "java/util/Map")) (by decide) (by decide)))).other W6 (Or.inr (slot_ne (Or.inr (ww hw 30 rfl)) (Or.inr (ww hw 28 rfl)) (by decide) (t := (.object "com/example/transom/transom/Scope")) (t' := (.object "com/example/transom/transom/Scope")) (by decide) (by decide)))).same W7
  have K7 : Keep h0 h7 [a1] := K6.wr W7 (Or.inl (List.mem_of_getElem? (i := 0) rfl))
  have N7 := Fr.snoc X7 N6 g_a1
  obtain ⟨T8, h8, X8, e8, W8, st8⟩ := putF X7 hx hZ hown (host := "") (Or.inl (ww hw 31 rfl)) Via.refl e7 (((((F_model_a1.ext E3).keep Kc4 (ninS (Nat.ne_of_lt (Nat.lt_of_lt_of_le F_jump_a1.lt (Nat.le_of_eq g3.symm))) nin0)).other W5 (Or.inr (slot_ne (Or.inr (ww hw 32 rfl)) (Or.inr (ww hw 26 rfl)) (by decide) (t := (.object "java/util/Map")) (t' := (.object "java/util/Map")) (by decide) (by decide)))).other W6 (Or.inr (slot_ne (Or.inr (ww hw 32 rfl)) (Or.inr (ww hw 28 rfl)) (by decide) (t := (.object "java/util/Map")) (t' := (.object "com/example/transom/transom/Scope")) (by decide) (by decide)))).other W7 (Or.inr (slot_ne (Or.inr (ww hw 32 rfl)) (Or.inr (ww hw 30 rfl)) (by decide) (t := (.object "java/util/Map")) (t' := (.object "com/example/transom/transom/Scope")) (by decide) (by decide)))) (((((E_a1.ext E3).keep Kc4).wr W5).wr W6).wr W7) (Or.inr ⟨(ww hw 32 rfl), rfl, hnm⟩) (ww hw 1 rfl) (ty := (.object "java/util/Map")) (by decide) rfl rfl (g := (mkF m 27 #[.val (.ref a1), .val .null, .val .null] [.null, (.ref a1)])) rfl rfl (hb hby d1_27)
  have Fw8 := (((((F_model_a1.ext E3).keep Kc4 (ninS (Nat.ne_of_lt (Nat.lt_of_lt_of_le F_jump_a1.lt (Nat.le_of_eq g3.symm))) nin0)).other W5 (Or.inr (slot_ne (Or.inr (ww hw 32 rfl)) (Or.inr (ww hw 26 rfl)) (by decide) (t := (.object "java/util/Map")) (t' := (.object "java/util/Map")) (by decide) (by decide)))).other W6 (Or.inr (slot_ne (Or.inr (ww hw 32 rfl)) (Or.inr (ww hw 28 rfl)) (by decide) (t := (.object "java/util/Map")) (t' := (.object "com/example/transom/transom/Scope")) (by decide) (by decide)))).other W7 (Or.inr (slot_ne (Or.inr (ww hw 32 rfl)) (Or.inr (ww hw 30 rfl)) (by decide) (t := (.object "java/util/Map")) (t' := (.object "com/example/transom/transom/Scope")) (by decide) (by decide)))).same W8
  have K8 : Keep h0 h8 [a1] := K7.wr W8 (Or.inl (List.mem_of_getElem? (i := 0) rfl))
  have N8 := Fr.snoc X8 N7 g_a1
  obtain ⟨T9, h9, X9, e9, W9, st9⟩ := putF X8 hx hZ hown (host := "") (Or.inl (ww hw 33 rfl)) Via.refl e8 ((((((F_template_a1.ext E3).keep Kc4 (ninS (Nat.ne_of_lt (Nat.lt_of_lt_of_le F_jump_a1.lt (Nat.le_of_eq g3.symm))) nin0)).other W5 (Or.inr (slot_ne (Or.inr (ww hw 34 rfl)) (Or.inr (ww hw 26 rfl)) (by decide) (t := (.object "com/example/transom/transom/Template")) (t' := (.object "java/util/Map")) (by decide) (by decide)))).other W6 (Or.inr (slot_ne (Or.inr (ww hw 34 rfl)) (Or.inr (ww hw 28 rfl)) (by decide) (t := (.object "com/example/transom/transom/Template")) (t' := (.object "com/example/transom/transom/Scope")) (by decide) (by decide)))).other W7 (Or.inr (slot_ne (Or.inr (ww hw 34 rfl)) (Or.inr (ww hw 30 rfl)) (by decide) (t := (.object "com/example/transom/transom/Template")) (t' := (.object "com/example/transom/transom/Scope")) (by decide) (by decide)))).other W8 (Or.inr (slot_ne (Or.inr (ww hw 34 rfl)) (Or.inr (ww hw 32 rfl)) (by decide) (t := (.object "com/example/transom/transom/Template")) (t' := (.object "java/util/Map")) (by decide) (by decide)))) ((((((E_a1.ext E3).keep Kc4).wr W5).wr W6).wr W7).wr W8) (Or.inr ⟨(ww hw 34 rfl), rfl, hnm⟩) (ww hw 1 rfl) (ty := (.object "com/example/transom/transom/Template")) (by decide) rfl rfl (g := (mkF m 32 #[.val (.ref a1), .val .null, .val .null] [.null, (.ref a1)])) rfl rfl (hb hby d1_32)
  have Fw9 := ((((((F_template_a1.ext E3).keep Kc4 (ninS (Nat.ne_of_lt (Nat.lt_of_lt_of_le F_jump_a1.lt (Nat.le_of_eq g3.symm))) nin0)).other W5 (Or.inr (slot_ne (Or.inr (ww hw 34 rfl)) (Or.inr (ww hw 26 rfl)) (by decide) (t := (.object "com/example/transom/transom/Template")) (t' := (.object "java/util/Map")) (by decide) (by decide)))).other W6 (Or.inr (slot_ne (Or.inr (ww hw 34 rfl)) (Or.inr (ww hw 28 rfl)) (by decide) (t := (.object "com/example/transom/transom/Template")) (t' := (.object "com/example/transom/transom/Scope")) (by decide) (by decide)))).other W7 (Or.inr (slot_ne (Or.inr (ww hw 34 rfl)) (Or.inr (ww hw 30 rfl)) (by decide) (t := (.object "com/example/transom/transom/Template")) (t' := (.object "com/example/transom/transom/Scope")) (by decide) (by decide)))).other W8 (Or.inr (slot_ne (Or.inr (ww hw 34 rfl)) (Or.inr (ww hw 32 rfl)) (by decide) (t := (.object "com/example/transom/transom/Template")) (t' := (.object "java/util/Map")) (by decide) (by decide)))).same W9
  have K9 : Keep h0 h9 [a1] := K8.wr W9 (Or.inl (List.mem_of_getElem? (i := 0) rfl))
  have N9 := Fr.snoc X9 N8 g_a1
  obtain ⟨T10, h10, X10, e10, W10, st10⟩ := putF X9 hx hZ hown (host := "") (Or.inl (ww hw 35 rfl)) Via.refl e9 (((((((F_renderer_a1.ext E3).keep Kc4 (ninS (Nat.ne_of_lt (Nat.lt_of_lt_of_le F_jump_a1.lt (Nat.le_of_eq g3.symm))) nin0)).other W5 (Or.inr (slot_ne (Or.inr (ww hw 36 rfl)) (Or.inr (ww hw 26 rfl)) (by decide) (t := (.object "com/example/transom/transom/Scope")) (t' := (.object "java/util/Map")) (by decide) (by decide)))).other W6 (Or.inr (slot_ne (Or.inr (ww hw 36 rfl)) (Or.inr (ww hw 28 rfl)) (by decide) (t := (.object "com/example/transom/transom/Scope")) (t' := (.object "com/example/transom/transom/Scope")) (by decide) (by decide)))).other W7 (Or.inr (slot_ne (Or.inr (ww hw 36 rfl)) (Or.inr (ww hw 30 rfl)) (by decide) (t := (.object "com/example/transom/transom/Scope")) (t' := (.object "com/example/transom/transom/Scope")) (by decide) (by decide)))).other W8 (Or.inr (slot_ne (Or.inr (ww hw 36 rfl)) (Or.inr (ww hw 32 rfl)) (by decide) (t := (.object "com/example/transom/transom/Scope")) (t' := (.object "java/util/Map")) (by decide) (by decide)))).other W9 (Or.inr (slot_ne (Or.inr (ww hw 36 rfl)) (Or.inr (ww hw 34 rfl)) (by decide) (t := (.object "com/example/transom/transom/Scope")) (t' := (.object "com/example/transom/transom/Template")) (by decide) (by decide)))) (((((((E_a1.ext E3).keep Kc4).wr W5).wr W6).wr W7).wr W8).wr W9) (Or.inr ⟨(ww hw 36 rfl), rfl, hnm⟩) (ww hw 1 rfl) (ty := (.object "com/example/transom/transom/Scope")) (by decide) rfl rfl (g := (mkF m 37 #[.val (.ref a1), .val .null, .val .null] [.null, (.ref a1)])) rfl rfl (hb hby d1_37)
  have Fw10 := (((((((F_renderer_a1.ext E3).keep Kc4 (ninS (Nat.ne_of_lt (Nat.lt_of_lt_of_le F_jump_a1.lt (Nat.le_of_eq g3.symm))) nin0)).other W5 (Or.inr (slot_ne (Or.inr (ww hw 36 rfl)) (Or.inr (ww hw 26 rfl)) (by decide) (t := (.object "com/example/transom/transom/Scope")) (t' := (.object "java/util/Map")) (by decide) (by decide)))).other W6 (Or.inr (slot_ne (Or.inr (ww hw 36 rfl)) (Or.inr (ww hw 28 rfl)) (by decide) (t := (.object "com/example/transom/transom/Scope")) (t' := (.object "com/example/transom/transom/Scope")) (by decide) (by decide)))).other W7 (Or.inr (slot_ne (Or.inr (ww hw 36 rfl)) (Or.inr (ww hw 30 rfl)) (by decide) (t := (.object "com/example/transom/transom/Scope")) (t' := (.object "com/example/transom/transom/Scope")) (by decide) (by decide)))).other W8 (Or.inr (slot_ne (Or.inr (ww hw 36 rfl)) (Or.inr (ww hw 32 rfl)) (by decide) (t := (.object "com/example/transom/transom/Scope")) (t' := (.object "java/util/Map")) (by decide) (by decide)))).other W9 (Or.inr (slot_ne (Or.inr (ww hw 36 rfl)) (Or.inr (ww hw 34 rfl)) (by decide) (t := (.object "com/example/transom/transom/Scope")) (t' := (.object "com/example/transom/transom/Template")) (by decide) (by decide)))).same W10
  have K10 : Keep h0 h10 [a1] := K9.wr W10 (Or.inl (List.mem_of_getElem? (i := 0) rfl))
  have N10 := Fr.snoc X10 N9 g_a1
  obtain ⟨T11, h11, X11, e11, W11, st11⟩ := putF X10 hx hZ hown (host := "") (Or.inl (ww hw 37 rfl)) Via.refl e10 ((((((((F_calls_a1.ext E3).keep Kc4 (ninS (Nat.ne_of_lt (Nat.lt_of_lt_of_le F_jump_a1.lt (Nat.le_of_eq g3.symm))) nin0)).other W5 (Or.inr (slot_ne (Or.inr (ww hw 38 rfl)) (Or.inr (ww hw 26 rfl)) (by decide) (t := .int) (t' := (.object "java/util/Map")) (by decide) (by decide)))).other W6 (Or.inr (slot_ne (Or.inr (ww hw 38 rfl)) (Or.inr (ww hw 28 rfl)) (by decide) (t := .int) (t' := (.object "com/example/transom/transom/Scope")) (by decide) (by decide)))).other W7 (Or.inr (slot_ne (Or.inr (ww hw 38 rfl)) (Or.inr (ww hw 30 rfl)) (by decide) (t := .int) (t' := (.object "com/example/transom/transom/Scope")) (by decide) (by decide)))).other W8 (Or.inr (slot_ne (Or.inr (ww hw 38 rfl)) (Or.inr (ww hw 32 rfl)) (by decide) (t := .int) (t' := (.object "java/util/Map")) (by decide) (by decide)))).other W9 (Or.inr (slot_ne (Or.inr (ww hw 38 rfl)) (Or.inr (ww hw 34 rfl)) (by decide) (t := .int) (t' := (.object "com/example/transom/transom/Template")) (by decide) (by decide)))).other W10 (Or.inr (slot_ne (Or.inr (ww hw 38 rfl)) (Or.inr (ww hw 36 rfl)) (by decide) (t := .int) (t' := (.object "com/example/transom/transom/Scope")) (by decide) (by decide)))) ((((((((E_a1.ext E3).keep Kc4).wr W5).wr W6).wr W7).wr W8).wr W9).wr W10) (Or.inr ⟨(ww hw 38 rfl), rfl, hnm⟩) (ww hw 1 rfl) (ty := .int) (by decide) rfl rfl (g := (mkF m 42 #[.val (.ref a1), .val .null, .val .null] [(.int (0 : Int32)), (.ref a1)])) rfl rfl (hb hby d1_42)
  have Fw11 := ((((((((F_calls_a1.ext E3).keep Kc4 (ninS (Nat.ne_of_lt (Nat.lt_of_lt_of_le F_jump_a1.lt (Nat.le_of_eq g3.symm))) nin0)).other W5 (Or.inr (slot_ne (Or.inr (ww hw 38 rfl)) (Or.inr (ww hw 26 rfl)) (by decide) (t := .int) (t' := (.object "java/util/Map")) (by decide) (by decide)))).other W6 (Or.inr (slot_ne (Or.inr (ww hw 38 rfl)) (Or.inr (ww hw 28 rfl)) (by decide) (t := .int) (t' := (.object "com/example/transom/transom/Scope")) (by decide) (by decide)))).other W7 (Or.inr (slot_ne (Or.inr (ww hw 38 rfl)) (Or.inr (ww hw 30 rfl)) (by decide) (t := .int) (t' := (.object "com/example/transom/transom/Scope")) (by decide) (by decide)))).other W8 (Or.inr (slot_ne (Or.inr (ww hw 38 rfl)) (Or.inr (ww hw 32 rfl)) (by decide) (t := .int) (t' := (.object "java/util/Map")) (by decide) (by decide)))).other W9 (Or.inr (slot_ne (Or.inr (ww hw 38 rfl)) (Or.inr (ww hw 34 rfl)) (by decide) (t := .int) (t' := (.object "com/example/transom/transom/Template")) (by decide) (by decide)))).other W10 (Or.inr (slot_ne (Or.inr (ww hw 38 rfl)) (Or.inr (ww hw 36 rfl)) (by decide) (t := .int) (t' := (.object "com/example/transom/transom/Scope")) (by decide) (by decide)))).same W11
  have K11 : Keep h0 h11 [a1] := K10.wr W11 (Or.inl (List.mem_of_getElem? (i := 0) rfl))
  have N11 := Fr.snoc X11 N10 g_a1
  obtain ⟨fs, hr, hrun, hended, hW, hsame⟩ := X11.leave (v := none) (fun _ => rfl)
  refine ⟨_, _, pre0 _ ?_, hrun, hended, _, _, rfl, ?_, ⟨_, rfl⟩, hW, hsame.mono (by decide) (by decide)⟩
  · show Steps _ _ _ (s₁.setTop (mkF m 0 #[.val (.ref a1), .val .null, .val .null] [])) _
    refine XS.aloadN X0.here hx rfl (hb hby d1_0) rfl rfl ?_
    show Steps _ _ _ (s₁.setTop (mkF m 1 #[.val (.ref a1), .val .null, .val .null] [(.ref a1)])) _
    refine st2 _ ?_
    show Steps _ _ _ (T2.setTop (mkF m 4 #[.val (.ref a1), .val .null, .val .null] [])) _
    refine XS.aloadN X2.here hx rfl (hb hby d1_4) rfl rfl ?_
    show Steps _ _ _ (T2.setTop (mkF m 5 #[.val (.ref a1), .val .null, .val .null] [(.ref a1)])) _
    refine st3 _ ?_
    show Steps _ _ _ (T3.setTop (mkF m 8 #[.val (.ref a1), .val .null, .val .null] [(.ref b3), (.ref a1)])) _
    refine XS.dup X3.here hx rfl (hb hby d1_8) rfl rfl ?_
    show Steps _ _ _ (T3.setTop (mkF m 9 #[.val (.ref a1), .val .null, .val .null] [(.ref b3), (.ref b3), (.ref a1)])) _
    refine st4.trans ?_
    show Steps _ _ _ (T4.setTop (mkF m 12 #[.val (.ref a1), .val .null, .val .null] [(.ref b3), (.ref a1)])) _
    refine st5 _ ?_
    show Steps _ _ _ (T5.setTop (mkF m 15 #[.val (.ref a1), .val .null, .val .null] [])) _
    refine XS.aloadN X5.here hx rfl (hb hby d1_15) rfl rfl ?_
    show Steps _ _ _ (T5.setTop (mkF m 16 #[.val (.ref a1), .val .null, .val .null] [(.ref a1)])) _
    refine XS.aconstNull X5.here hx rfl (hb hby d1_16) ?_
    show Steps _ _ _ (T5.setTop (mkF m 17 #[.val (.ref a1), .val .null, .val .null] [.null, (.ref a1)])) _
    refine st6 _ ?_
    show Steps _ _ _ (T6.setTop (mkF m 20 #[.val (.ref a1), .val .null, .val .null] [])) _
    refine XS.aloadN X6.here hx rfl (hb hby d1_20) rfl rfl ?_
    show Steps _ _ _ (T6.setTop (mkF m 21 #[.val (.ref a1), .val .null, .val .null] [(.ref a1)])) _
    refine XS.aloadN X6.here hx rfl (hb hby d1_21) rfl rfl ?_
    show Steps _ _ _ (T6.setTop (mkF m 22 #[.val (.ref a1), .val .null, .val .null] [(.ref a1), (.ref a1)])) _
    refine st7 _ ?_
    show Steps _ _ _ (T7.setTop (mkF m 25 #[.val (.ref a1), .val .null, .val .null] [])) _
    refine XS.aloadN X7.here hx rfl (hb hby d1_25) rfl rfl ?_
    show Steps _ _ _ (T7.setTop (mkF m 26 #[.val (.ref a1), .val .null, .val .null] [(.ref a1)])) _
    refine XS.aloadN X7.here hx rfl (hb hby d1_26) rfl rfl ?_
    show Steps _ _ _ (T7.setTop (mkF m 27 #[.val (.ref a1), .val .null, .val .null] [.null, (.ref a1)])) _
    refine st8 _ ?_
    show Steps _ _ _ (T8.setTop (mkF m 30 #[.val (.ref a1), .val .null, .val .null] [])) _
    refine XS.aloadN X8.here hx rfl (hb hby d1_30) rfl rfl ?_
    show Steps _ _ _ (T8.setTop (mkF m 31 #[.val (.ref a1), .val .null, .val .null] [(.ref a1)])) _
    refine XS.aloadN X8.here hx rfl (hb hby d1_31) rfl rfl ?_
    show Steps _ _ _ (T8.setTop (mkF m 32 #[.val (.ref a1), .val .null, .val .null] [.null, (.ref a1)])) _
    refine st9 _ ?_
    show Steps _ _ _ (T9.setTop (mkF m 35 #[.val (.ref a1), .val .null, .val .null] [])) _
    refine XS.aloadN X9.here hx rfl (hb hby d1_35) rfl rfl ?_
    show Steps _ _ _ (T9.setTop (mkF m 36 #[.val (.ref a1), .val .null, .val .null] [(.ref a1)])) _
    refine XS.aconstNull X9.here hx rfl (hb hby d1_36) ?_
    show Steps _ _ _ (T9.setTop (mkF m 37 #[.val (.ref a1), .val .null, .val .null] [.null, (.ref a1)])) _
    refine st10 _ ?_
    show Steps _ _ _ (T10.setTop (mkF m 40 #[.val (.ref a1), .val .null, .val .null] [])) _
    refine XS.aloadN X10.here hx rfl (hb hby d1_40) rfl rfl ?_
    show Steps _ _ _ (T10.setTop (mkF m 41 #[.val (.ref a1), .val .null, .val .null] [(.ref a1)])) _
    refine XS.iconst X10.here hx rfl (hb hby d1_41) ?_
    show Steps _ _ _ (T10.setTop (mkF m 42 #[.val (.ref a1), .val .null, .val .null] [(.int (0 : Int32)), (.ref a1)])) _
    refine st11 _ ?_
    show Steps _ _ _ (T11.setTop (mkF m 45 #[.val (.ref a1), .val .null, .val .null] [])) _
    exact X11.returnOut hx Bd.returns (hb hby d1_45) hr
  · show Q1 Z a1 u_values_a1 u_parent_a1 u_top_a1 u_model_a1 u_template_a1 u_renderer_a1 u_calls_a1 h0 n0 _ T11.heap _
    rw [e11]
    exact ⟨rfl, N11, K11, (((((((((E_a1.ext E3).keep Kc4).wr W5).wr W6).wr W7).wr W8).wr W9).wr W10).wr W11), ((((Fw7.other W8 (Or.inr (slot_ne (Or.inr (ww hw 30 rfl)) (Or.inr (ww hw 32 rfl)) (by decide) (t := (.object "com/example/transom/transom/Scope")) (t' := (.object "java/util/Map")) (by decide) (by decide)))).other W9 (Or.inr (slot_ne (Or.inr (ww hw 30 rfl)) (Or.inr (ww hw 34 rfl)) (by decide) (t := (.object "com/example/transom/transom/Scope")) (t' := (.object "com/example/transom/transom/Template")) (by decide) (by decide)))).other W10 (Or.inr (slot_ne (Or.inr (ww hw 30 rfl)) (Or.inr (ww hw 36 rfl)) (by decide) (t := (.object "com/example/transom/transom/Scope")) (t' := (.object "com/example/transom/transom/Scope")) (by decide) (by decide)))).other W11 (Or.inr (slot_ne (Or.inr (ww hw 30 rfl)) (Or.inr (ww hw 38 rfl)) (by decide) (t := (.object "com/example/transom/transom/Scope")) (t' := .int) (by decide) (by decide)))), (((Fw8.other W9 (Or.inr (slot_ne (Or.inr (ww hw 32 rfl)) (Or.inr (ww hw 34 rfl)) (by decide) (t := (.object "java/util/Map")) (t' := (.object "com/example/transom/transom/Template")) (by decide) (by decide)))).other W10 (Or.inr (slot_ne (Or.inr (ww hw 32 rfl)) (Or.inr (ww hw 36 rfl)) (by decide) (t := (.object "java/util/Map")) (t' := (.object "com/example/transom/transom/Scope")) (by decide) (by decide)))).other W11 (Or.inr (slot_ne (Or.inr (ww hw 32 rfl)) (Or.inr (ww hw 38 rfl)) (by decide) (t := (.object "java/util/Map")) (t' := .int) (by decide) (by decide)))), ((Fw9.other W10 (Or.inr (slot_ne (Or.inr (ww hw 34 rfl)) (Or.inr (ww hw 36 rfl)) (by decide) (t := (.object "com/example/transom/transom/Template")) (t' := (.object "com/example/transom/transom/Scope")) (by decide) (by decide)))).other W11 (Or.inr (slot_ne (Or.inr (ww hw 34 rfl)) (Or.inr (ww hw 38 rfl)) (by decide) (t := (.object "com/example/transom/transom/Template")) (t' := .int) (by decide) (by decide)))), (Fw10.other W11 (Or.inr (slot_ne (Or.inr (ww hw 36 rfl)) (Or.inr (ww hw 38 rfl)) (by decide) (t := (.object "com/example/transom/transom/Scope")) (t' := .int) (by decide) (by decide)))), Fw11, (((((((((F_jump_a1.ext E3).keep Kc4 (ninS (Nat.ne_of_lt (Nat.lt_of_lt_of_le F_jump_a1.lt (Nat.le_of_eq g3.symm))) nin0)).other W5 (Or.inr (slot_ne (Or.inl (ww hw 51 rfl)) (Or.inr (ww hw 26 rfl)) (by decide) (t := (.object "com/example/transom/transom/Scope$Jump")) (t' := (.object "java/util/Map")) (by decide) (by decide)))).other W6 (Or.inr (slot_ne (Or.inl (ww hw 51 rfl)) (Or.inr (ww hw 28 rfl)) (by decide) (t := (.object "com/example/transom/transom/Scope$Jump")) (t' := (.object "com/example/transom/transom/Scope")) (by decide) (by decide)))).other W7 (Or.inr (slot_ne (Or.inl (ww hw 51 rfl)) (Or.inr (ww hw 30 rfl)) (by decide) (t := (.object "com/example/transom/transom/Scope$Jump")) (t' := (.object "com/example/transom/transom/Scope")) (by decide) (by decide)))).other W8 (Or.inr (slot_ne (Or.inl (ww hw 51 rfl)) (Or.inr (ww hw 32 rfl)) (by decide) (t := (.object "com/example/transom/transom/Scope$Jump")) (t' := (.object "java/util/Map")) (by decide) (by decide)))).other W9 (Or.inr (slot_ne (Or.inl (ww hw 51 rfl)) (Or.inr (ww hw 34 rfl)) (by decide) (t := (.object "com/example/transom/transom/Scope$Jump")) (t' := (.object "com/example/transom/transom/Template")) (by decide) (by decide)))).other W10 (Or.inr (slot_ne (Or.inl (ww hw 51 rfl)) (Or.inr (ww hw 36 rfl)) (by decide) (t := (.object "com/example/transom/transom/Scope$Jump")) (t' := (.object "com/example/transom/transom/Scope")) (by decide) (by decide)))).other W11 (Or.inr (slot_ne (Or.inl (ww hw 51 rfl)) (Or.inr (ww hw 38 rfl)) (by decide) (t := (.object "com/example/transom/transom/Scope$Jump")) (t' := .int) (by decide) (by decide))))⟩
theorem d6_0 : decode prog_61_method_3_code 0 = .ok (.aload_n 0, 1) := by decide +kernel
theorem d6_1 : decode prog_61_method_3_code 1 = .ok (.invokespecial 1, 3) := by decide +kernel
theorem d6_4 : decode prog_61_method_3_code 4 = .ok (.aload_n 0, 1) := by decide +kernel
theorem d6_5 : decode prog_61_method_3_code 5 = .ok (.new 7, 3) := by decide +kernel
theorem d6_8 : decode prog_61_method_3_code 8 = .ok (.dup, 1) := by decide +kernel
theorem d6_9 : decode prog_61_method_3_code 9 = .ok (.invokespecial 9, 3) := by decide +kernel
theorem d6_12 : decode prog_61_method_3_code 12 = .ok (.putfield 10, 3) := by decide +kernel
theorem d6_15 : decode prog_61_method_3_code 15 = .ok (.aload_n 0, 1) := by decide +kernel
theorem d6_16 : decode prog_61_method_3_code 16 = .ok (.aload_n 1, 1) := by decide +kernel
theorem d6_17 : decode prog_61_method_3_code 17 = .ok (.putfield 16, 3) := by decide +kernel
theorem d6_20 : decode prog_61_method_3_code 20 = .ok (.aload_n 0, 1) := by decide +kernel
theorem d6_21 : decode prog_61_method_3_code 21 = .ok (.aload_n 1, 1) := by decide +kernel
theorem d6_22 : decode prog_61_method_3_code 22 = .ok (.getfield 20, 3) := by decide +kernel
theorem d6_25 : decode prog_61_method_3_code 25 = .ok (.putfield 20, 3) := by decide +kernel
theorem d6_28 : decode prog_61_method_3_code 28 = .ok (.aload_n 0, 1) := by decide +kernel
theorem d6_29 : decode prog_61_method_3_code 29 = .ok (.aload_n 1, 1) := by decide +kernel
theorem d6_30 : decode prog_61_method_3_code 30 = .ok (.getfield 23, 3) := by decide +kernel
theorem d6_33 : decode prog_61_method_3_code 33 = .ok (.putfield 23, 3) := by decide +kernel
theorem d6_36 : decode prog_61_method_3_code 36 = .ok (.aload_n 0, 1) := by decide +kernel
theorem d6_37 : decode prog_61_method_3_code 37 = .ok (.aload_n 2, 1) := by decide +kernel
theorem d6_38 : decode prog_61_method_3_code 38 = .ok (.putfield 26, 3) := by decide +kernel
theorem d6_41 : decode prog_61_method_3_code 41 = .ok (.aload_n 0, 1) := by decide +kernel
theorem d6_42 : decode prog_61_method_3_code 42 = .ok (.aload_n 3, 1) := by decide +kernel
theorem d6_43 : decode prog_61_method_3_code 43 = .ok (.putfield 30, 3) := by decide +kernel
theorem d6_46 : decode prog_61_method_3_code 46 = .ok (.aload_n 0, 1) := by decide +kernel
theorem d6_47 : decode prog_61_method_3_code 47 = .ok (.iload 4, 2) := by decide +kernel
theorem d6_49 : decode prog_61_method_3_code 49 = .ok (.putfield 33, 3) := by decide +kernel
theorem d6_52 : decode prog_61_method_3_code 52 = .ok (.return_, 1) := by decide +kernel
theorem pn_6 : plainName "com/example/transom/transom/Scope" = true := by first | (simp [plainName, overriddenIn]; done) | decide +kernel
theorem pd_6_1 : parseMethodDescriptor "()V" = some ⟨[], none⟩ := by decide +kernel
theorem ef_6 (m : MethodId) (x0 : Addr) (x1 : Addr) (x4 : Int32) : entryFrame m #[(.ref x0), (.ref x1), .null, .null, (.int x4)] 5 = mkF m 0 #[.val (.ref x0), .val (.ref x1), .val .null, .val .null, .val (.int x4)] [] := by first | (simp [entryFrame, mkF, argsToLocals, Value.category]; done) | rfl
-- 2. THE CONTRACT: what this body leaves is yours
def Q6 (Z : State) (a1 : Addr) (a2 : Addr) (p3 : Int32) (u_values_a1 : Value) (u_parent_a1 : Value) (w9 : Addr) (u_top_a1 : Value) (u_model_a1 : Value) (u_template_a1 : Value) (u_renderer_a1 : Value) (u_calls_a1 : Value) (h0 : Heap) (n0 : Nat) (v : Option Value) (h : Heap) (L : List Loc) : Prop := v = none ∧ Fr n0 L ∧ Keep h0 h [a1] ∧ Exa Z h a1 "com/example/transom/transom/Scope" ∧ Fld Z h a1 "com/example/transom/transom/Scope" "top" "Lcom/example/transom/transom/Scope;" (.ref w9)
-- its room: frames: the greatest, locals: the greatest, cells 1 + .., slots 8 + ..: rm3: frames + 1; locals 2 + 1 + 11 + its room's locals; its cells and slots besides; Object.<init>: frames 1, locals 12
set_option maxRecDepth 65536 in
set_option maxHeartbeats 40000000 in
theorem rm6 (l : Launch) (Z : State) (a0 : Array Value) (hw : ∀ d ∈ tables_1, d.before a0 Z = true) (ws : List Jvm.Cond) (a1 : Addr) (a2 : Addr) (p3 : Int32) (u_values_a1 : Value) (u_parent_a1 : Value) (w9 : Addr) (u_top_a1 : Value) (u_model_a1 : Value) (u_template_a1 : Value) (u_renderer_a1 : Value) (u_calls_a1 : Value) (h0 : Heap) (n0 : Nat) (Z0 : n0 ≤ h0.size) (ne21 : a2 ≠ a1) (E_a1 : Exa Z h0 a1 "com/example/transom/transom/Scope") (F_values_a1 : Fld Z h0 a1 "com/example/transom/transom/Scope" "values" "Ljava/util/Map;" u_values_a1) (g_a1 : n0 ≤ a1) (F_parent_a1 : Fld Z h0 a1 "com/example/transom/transom/Scope" "parent" "Lcom/example/transom/transom/Scope;" u_parent_a1) (F_top_a2 : Fld Z h0 a2 "com/example/transom/transom/Scope" "top" "Lcom/example/transom/transom/Scope;" (.ref w9)) (F_top_a1 : Fld Z h0 a1 "com/example/transom/transom/Scope" "top" "Lcom/example/transom/transom/Scope;" u_top_a1) (F_model_a2 : Fld Z h0 a2 "com/example/transom/transom/Scope" "model" "Ljava/util/Map;" .null) (F_model_a1 : Fld Z h0 a1 "com/example/transom/transom/Scope" "model" "Ljava/util/Map;" u_model_a1) (F_template_a1 : Fld Z h0 a1 "com/example/transom/transom/Scope" "template" "Lcom/example/transom/transom/Template;" u_template_a1) (F_renderer_a1 : Fld Z h0 a1 "com/example/transom/transom/Scope" "renderer" "Lcom/example/transom/transom/Scope;" u_renderer_a1) (F_calls_a1 : Fld Z h0 a1 "com/example/transom/transom/Scope" "calls" "I" u_calls_a1) :
    MetFree l (⟨"com/example/transom/transom/Scope", "<init>", "(Lcom/example/transom/transom/Scope;Lcom/example/transom/transom/Template;Lcom/example/transom/transom/Scope;I)V"⟩ : MethodName) (head1 (Jvm.Cond.code (⟨"com/example/transom/transom/Scope", "<init>", "(Lcom/example/transom/transom/Scope;Lcom/example/transom/transom/Template;Lcom/example/transom/transom/Scope;I)V"⟩ : MethodName) prog_61_method_3_code 5 none :: ws) ({ frames := 3, cells := 1, slots := 8, locals := 60 } : Room)) (fun a U => a = #[(.ref a1), (.ref a2), .null, .null, (.int p3)] ∧ Z.Warmed39 U.vm ∧ U.heap = h0) (fun _ _ _ _ _ => True) (fun _ U o U' => ∃ v L, o = .returned v ∧ Q6 Z a1 a2 p3 u_values_a1 u_parent_a1 w9 u_top_a1 u_model_a1 u_template_a1 u_renderer_a1 u_calls_a1 h0 n0 v U'.heap L ∧ FrameEnd U o U' L ({ frames := 3, cells := 1, slots := 8, locals := 60 } : Room).cells ({ frames := 3, cells := 1, slots := 8, locals := 60 } : Room).slots) := by
  refine MetFree.of_bodySF (plainFor_of_name pn_6) hisR ?_
  intro p e s m args below meth c s₁ Bd hml0 hP hK
  obtain ⟨rfl, hZ, hh⟩ := hP
  have hx := Bd.exec
  have hby := Bd.bytes
  have hml : c.maxLocals = 5 := hml0
  have hown : s.vm.findClass "com/example/transom/transom/Scope" = some m.cls := findClass_of_methodNamed Bd.named
  have hnm := (name_of_methodNamed Bd.named Bd.method).1
  have X0 : Stand p l e ({ frames := 3, cells := 1, slots := 8, locals := 60 } : Room) s m #[(.ref a1), (.ref a2), .null, .null, (.int p3)] below meth c s₁ [] 0 0 := Stand.of_body Bd
  have e0 : s₁.heap = h0 := by rw [← hh, Bd.state]; rfl
  have N0 := Fr.nil n0
  have pre0 : ∀ t, Steps p.tables e below (s₁.setTop (mkF m 0 #[.val (.ref a1), .val (.ref a2), .val .null, .val .null, .val (.int p3)] [])) t → Steps p.tables e below (s₁.setTop (entryFrame m #[(.ref a1), (.ref a2), .null, .null, (.int p3)] 5)) t := fun t k => castTop (ef_6 m a1 a2 p3) k
  obtain ⟨T4, X4, e4, st4⟩ := initO X0 hx hZ hown (ww hw 6 rfl) (ww hw 7 rfl) (ww hw 8 rfl) e0 (g := (mkF m 1 #[.val (.ref a1), .val (.ref a2), .val .null, .val .null, .val (.int p3)] [(.ref a1)])) rfl (by rw [hml]; rfl) rfl (hb hby d6_1) (by decide) (W := 0) (by show 2 * 0 + _ ≤ _; exact Nat.le_of_eq rfl) (by decide)
  obtain ⟨T5, h5, X5, e5, E5, A5, D5, -, st5⟩ := newO X4 hx hZ hown (ww hw 9 rfl) (ww hw 10 rfl) (ww hw 11 rfl) e4 (g := (mkF m 5 #[.val (.ref a1), .val (.ref a2), .val .null, .val .null, .val (.int p3)] [(.ref a1)])) rfl (hb hby d6_5) (by decide) (by decide)
  obtain ⟨b5, g5⟩ : ∃ z, z = h0.size := ⟨_, rfl⟩
  rw [← g5] at A5 D5 st5
  have F_loadFactor_b5 : Fld Z h5 b5 "java/util/HashMap" "loadFactor" "F" (.float 0) := D5 (Or.inr (ww hw 24 rfl)) (ty := .float) (by decide)
  have E_b5 := A5
  have g_b5 : n0 ≤ b5 := Nat.le_trans Z0 (Nat.le_of_eq g5.symm)
  have sz_b5 : h0.size ≤ b5 := (Nat.le_trans (Keep.refl h0 [a1]).1 (Nat.le_of_eq g5.symm))
  have K5 : Keep h0 h5 [a1] := (Keep.refl h0 [a1]).ext E5
  obtain ⟨_, _, ⟨T6, L6, k6, n6⟩, -, X6, ⟨Lc6, hQ6, l6, y6, z6⟩, st6⟩ := X5.specialBack hx (y := (⟨"java/util/HashMap", "<init>", "()V"⟩ : MethodName)) rfl hown (mvT hZ (ww hw 12 rfl)) (mvT hZ (ww hw 13 rfl)) (mvT hZ (ww hw 14 rfl)) (by decide) (backOf (W := 2) (rm3 l Z a0 hw [] b5 _ h5 n0 (Nat.le_trans Z0 E5.1) E_b5 F_loadFactor_b5 g_b5) hZ (ww hw 14 rfl) (ww hw 11 rfl) (by decide) (by decide)) (g := (mkF m 9 #[.val (.ref a1), .val (.ref a2), .val .null, .val .null, .val (.int p3)] [(.ref b5), (.ref b5), (.ref a1)])) rfl (by rw [hml]; rfl) (Steps.refl _) (a := b5) (argsL := []) (rest := [(.ref b5), (.ref a1)]) (lenOf pd_6_1 rfl) rfl (by show 2 * 0 + _ ≤ _; exact Nat.le_of_eq rfl) (hb hby d6_9) (fun _ _ => ⟨rfl, e5, (by decide : 1 + 0 ≤ _), (by decide : 8 + 0 ≤ _)⟩)
  dsimp only [Pt.U, Pt.locs, Pt.cells, Pt.slots] at X6 l6 y6 z6 st6 hQ6
  subst l6 y6 z6
  obtain ⟨rfl, N6q, Kc6, Ec6, Fl6⟩ := hQ6
  have N6 := Fr.app N0 N6q
  have K6 : Keep h0 T6.heap [a1] := K5.trans Kc6 (allS (Or.inr sz_b5) all0)
  obtain ⟨T7, h7, X7, e7, W7, st7⟩ := putF X6 hx hZ hown (host := "") (Or.inl (ww hw 25 rfl)) Via.refl rfl ((F_values_a1.ext E5).keep Kc6 (ninS (Nat.ne_of_lt (Nat.lt_of_lt_of_le E_a1.lt (Nat.le_of_eq g5.symm))) nin0)) ((E_a1.ext E5).keep Kc6) (Or.inr ⟨(ww hw 26 rfl), rfl, hnm⟩) (ww hw 1 rfl) (ty := (.object "java/util/Map")) (by decide) rfl rfl (g := (mkF m 12 #[.val (.ref a1), .val (.ref a2), .val .null, .val .null, .val (.int p3)] [(.ref b5), (.ref a1)])) rfl rfl (hb hby d6_12)
  have Fw7 := ((F_values_a1.ext E5).keep Kc6 (ninS (Nat.ne_of_lt (Nat.lt_of_lt_of_le E_a1.lt (Nat.le_of_eq g5.symm))) nin0)).same W7
  have K7 : Keep h0 h7 [a1] := K6.wr W7 (Or.inl (List.mem_of_getElem? (i := 0) rfl))
  have N7 := Fr.snoc X7 N6 g_a1
  obtain ⟨T8, h8, X8, e8, W8, st8⟩ := putF X7 hx hZ hown (host := "") (Or.inl (ww hw 27 rfl)) Via.refl e7 (((F_parent_a1.ext E5).keep Kc6 (ninS (Nat.ne_of_lt (Nat.lt_of_lt_of_le E_a1.lt (Nat.le_of_eq g5.symm))) nin0)).other W7 (Or.inr (slot_ne (Or.inr (ww hw 28 rfl)) (Or.inr (ww hw 26 rfl)) (by decide) (t := (.object "com/example/transom/transom/Scope")) (t' := (.object "java/util/Map")) (by decide) (by decide)))) (((E_a1.ext E5).keep Kc6).wr W7) (Or.inr ⟨(ww hw 28 rfl), rfl, hnm⟩) (ww hw 1 rfl) (ty := (.object "com/example/transom/transom/Scope")) (by decide) rfl rfl (g := (mkF m 17 #[.val (.ref a1), .val (.ref a2), .val .null, .val .null, .val (.int p3)] [(.ref a2), (.ref a1)])) rfl rfl (hb hby d6_17)
  have Fw8 := (((F_parent_a1.ext E5).keep Kc6 (ninS (Nat.ne_of_lt (Nat.lt_of_lt_of_le E_a1.lt (Nat.le_of_eq g5.symm))) nin0)).other W7 (Or.inr (slot_ne (Or.inr (ww hw 28 rfl)) (Or.inr (ww hw 26 rfl)) (by decide) (t := (.object "com/example/transom/transom/Scope")) (t' := (.object "java/util/Map")) (by decide) (by decide)))).same W8
  have K8 : Keep h0 h8 [a1] := K7.wr W8 (Or.inl (List.mem_of_getElem? (i := 0) rfl))
  have N8 := Fr.snoc X8 N7 g_a1
  obtain ⟨T10, X10, e10, st10⟩ := getF X8 hx hZ hown (host := "") (Or.inl (ww hw 29 rfl)) Via.refl e8 ((((F_top_a2.ext E5).keep Kc6 (ninS (Nat.ne_of_lt (Nat.lt_of_lt_of_le F_top_a2.lt (Nat.le_of_eq g5.symm))) nin0)).other W7 (Or.inl ne21)).other W8 (Or.inl ne21)) (g := (mkF m 22 #[.val (.ref a1), .val (.ref a2), .val .null, .val .null, .val (.int p3)] [(.ref a2), (.ref a1)])) rfl rfl (hb hby d6_22)
  obtain ⟨T11, h11, X11, e11, W11, st11⟩ := putF X10 hx hZ hown (host := "") (Or.inl (ww hw 29 rfl)) Via.refl e10 ((((F_top_a1.ext E5).keep Kc6 (ninS (Nat.ne_of_lt (Nat.lt_of_lt_of_le E_a1.lt (Nat.le_of_eq g5.symm))) nin0)).other W7 (Or.inr (slot_ne (Or.inr (ww hw 30 rfl)) (Or.inr (ww hw 26 rfl)) (by decide) (t := (.object "com/example/transom/transom/Scope")) (t' := (.object "java/util/Map")) (by decide) (by decide)))).other W8 (Or.inr (slot_ne (Or.inr (ww hw 30 rfl)) (Or.inr (ww hw 28 rfl)) (by decide) (t := (.object "com/example/transom/transom/Scope")) (t' := (.object "com/example/transom/transom/Scope")) (by decide) (by decide)))) ((((E_a1.ext E5).keep Kc6).wr W7).wr W8) (Or.inr ⟨(ww hw 30 rfl), rfl, hnm⟩) (ww hw 1 rfl) (ty := (.object "com/example/transom/transom/Scope")) (by decide) rfl rfl (g := (mkF m 25 #[.val (.ref a1), .val (.ref a2), .val .null, .val .null, .val (.int p3)] [(.ref w9), (.ref a1)])) rfl rfl (hb hby d6_25)
  have Fw11 := ((((F_top_a1.ext E5).keep Kc6 (ninS (Nat.ne_of_lt (Nat.lt_of_lt_of_le E_a1.lt (Nat.le_of_eq g5.symm))) nin0)).other W7 (Or.inr (slot_ne (Or.inr (ww hw 30 rfl)) (Or.inr (ww hw 26 rfl)) (by decide) (t := (.object "com/example/transom/transom/Scope")) (t' := (.object "java/util/Map")) (by decide) (by decide)))).other W8 (Or.inr (slot_ne (Or.inr (ww hw 30 rfl)) (Or.inr (ww hw 28 rfl)) (by decide) (t := (.object "com/example/transom/transom/Scope")) (t' := (.object "com/example/transom/transom/Scope")) (by decide) (by decide)))).same W11
  have K11 : Keep h0 h11 [a1] := K8.wr W11 (Or.inl (List.mem_of_getElem? (i := 0) rfl))
  have N11 := Fr.snoc X11 N8 g_a1
  obtain ⟨T12, X12, e12, st12⟩ := getF X11 hx hZ hown (host := "") (Or.inl (ww hw 31 rfl)) Via.refl e11 (((((F_model_a2.ext E5).keep Kc6 (ninS (Nat.ne_of_lt (Nat.lt_of_lt_of_le F_top_a2.lt (Nat.le_of_eq g5.symm))) nin0)).other W7 (Or.inl ne21)).other W8 (Or.inl ne21)).other W11 (Or.inl ne21)) (g := (mkF m 30 #[.val (.ref a1), .val (.ref a2), .val .null, .val .null, .val (.int p3)] [(.ref a2), (.ref a1)])) rfl rfl (hb hby d6_30)
  obtain ⟨T13, h13, X13, e13, W13, st13⟩ := putF X12 hx hZ hown (host := "") (Or.inl (ww hw 31 rfl)) Via.refl e12 (((((F_model_a1.ext E5).keep Kc6 (ninS (Nat.ne_of_lt (Nat.lt_of_lt_of_le E_a1.lt (Nat.le_of_eq g5.symm))) nin0)).other W7 (Or.inr (slot_ne (Or.inr (ww hw 32 rfl)) (Or.inr (ww hw 26 rfl)) (by decide) (t := (.object "java/util/Map")) (t' := (.object "java/util/Map")) (by decide) (by decide)))).other W8 (Or.inr (slot_ne (Or.inr (ww hw 32 rfl)) (Or.inr (ww hw 28 rfl)) (by decide) (t := (.object "java/util/Map")) (t' := (.object "com/example/transom/transom/Scope")) (by decide) (by decide)))).other W11 (Or.inr (slot_ne (Or.inr (ww hw 32 rfl)) (Or.inr (ww hw 30 rfl)) (by decide) (t := (.object "java/util/Map")) (t' := (.object "com/example/transom/transom/Scope")) (by decide) (by decide)))) (((((E_a1.ext E5).keep Kc6).wr W7).wr W8).wr W11) (Or.inr ⟨(ww hw 32 rfl), rfl, hnm⟩) (ww hw 1 rfl) (ty := (.object "java/util/Map")) (by decide) rfl rfl (g := (mkF m 33 #[.val (.ref a1), .val (.ref a2), .val .null, .val .null, .val (.int p3)] [.null, (.ref a1)])) rfl rfl (hb hby d6_33)
  have Fw13 := (((((F_model_a1.ext E5).keep Kc6 (ninS (Nat.ne_of_lt (Nat.lt_of_lt_of_le E_a1.lt (Nat.le_of_eq g5.symm))) nin0)).other W7 (Or.inr (slot_ne (Or.inr (ww hw 32 rfl)) (Or.inr (ww hw 26 rfl)) (by decide) (t := (.object "java/util/Map")) (t' := (.object "java/util/Map")) (by decide) (by decide)))).other W8 (Or.inr (slot_ne (Or.inr (ww hw 32 rfl)) (Or.inr (ww hw 28 rfl)) (by decide) (t := (.object "java/util/Map")) (t' := (.object "com/example/transom/transom/Scope")) (by decide) (by decide)))).other W11 (Or.inr (slot_ne (Or.inr (ww hw 32 rfl)) (Or.inr (ww hw 30 rfl)) (by decide) (t := (.object "java/util/Map")) (t' := (.object "com/example/transom/transom/Scope")) (by decide) (by decide)))).same W13
  have K13 : Keep h0 h13 [a1] := K11.wr W13 (Or.inl (List.mem_of_getElem? (i := 0) rfl))
  have N13 := Fr.snoc X13 N11 g_a1
  obtain ⟨T14, h14, X14, e14, W14, st14⟩ := putF X13 hx hZ hown (host := "") (Or.inl (ww hw 33 rfl)) Via.refl e13 ((((((F_template_a1.ext E5).keep Kc6 (ninS (Nat.ne_of_lt (Nat.lt_of_lt_of_le E_a1.lt (Nat.le_of_eq g5.symm))) nin0)).other W7 (Or.inr (slot_ne (Or.inr (ww hw 34 rfl)) (Or.inr (ww hw 26 rfl)) (by decide) (t := (.object "com/example/transom/transom/Template")) (t' := (.object "java/util/Map")) (by decide) (by decide)))).other W8 (Or.inr (slot_ne (Or.inr (ww hw 34 rfl)) (Or.inr (ww hw 28 rfl)) (by decide) (t := (.object "com/example/transom/transom/Template")) (t' := (.object "com/example/transom/transom/Scope")) (by decide) (by decide)))).other W11 (Or.inr (slot_ne (Or.inr (ww hw 34 rfl)) (Or.inr (ww hw 30 rfl)) (by decide) (t := (.object "com/example/transom/transom/Template")) (t' := (.object "com/example/transom/transom/Scope")) (by decide) (by decide)))).other W13 (Or.inr (slot_ne (Or.inr (ww hw 34 rfl)) (Or.inr (ww hw 32 rfl)) (by decide) (t := (.object "com/example/transom/transom/Template")) (t' := (.object "java/util/Map")) (by decide) (by decide)))) ((((((E_a1.ext E5).keep Kc6).wr W7).wr W8).wr W11).wr W13) (Or.inr ⟨(ww hw 34 rfl), rfl, hnm⟩) (ww hw 1 rfl) (ty := (.object "com/example/transom/transom/Template")) (by decide) rfl rfl (g := (mkF m 38 #[.val (.ref a1), .val (.ref a2), .val .null, .val .null, .val (.int p3)] [.null, (.ref a1)])) rfl rfl (hb hby d6_38)
  have Fw14 := ((((((F_template_a1.ext E5).keep Kc6 (ninS (Nat.ne_of_lt (Nat.lt_of_lt_of_le E_a1.lt (Nat.le_of_eq g5.symm))) nin0)).other W7 (Or.inr (slot_ne (Or.inr (ww hw 34 rfl)) (Or.inr (ww hw 26 rfl)) (by decide) (t := (.object "com/example/transom/transom/Template")) (t' := (.object "java/util/Map")) (by decide) (by decide)))).other W8 (Or.inr (slot_ne (Or.inr (ww hw 34 rfl)) (Or.inr (ww hw 28 rfl)) (by decide) (t := (.object "com/example/transom/transom/Template")) (t' := (.object "com/example/transom/transom/Scope")) (by decide) (by decide)))).other W11 (Or.inr (slot_ne (Or.inr (ww hw 34 rfl)) (Or.inr (ww hw 30 rfl)) (by decide) (t := (.object "com/example/transom/transom/Template")) (t' := (.object "com/example/transom/transom/Scope")) (by decide) (by decide)))).other W13 (Or.inr (slot_ne (Or.inr (ww hw 34 rfl)) (Or.inr (ww hw 32 rfl)) (by decide) (t := (.object "com/example/transom/transom/Template")) (t' := (.object "java/util/Map")) (by decide) (by decide)))).same W14
  have K14 : Keep h0 h14 [a1] := K13.wr W14 (Or.inl (List.mem_of_getElem? (i := 0) rfl))
  have N14 := Fr.snoc X14 N13 g_a1
  obtain ⟨T15, h15, X15, e15, W15, st15⟩ := putF X14 hx hZ hown (host := "") (Or.inl (ww hw 35 rfl)) Via.refl e14 (((((((F_renderer_a1.ext E5).keep Kc6 (ninS (Nat.ne_of_lt (Nat.lt_of_lt_of_le E_a1.lt (Nat.le_of_eq g5.symm))) nin0)).other W7 (Or.inr (slot_ne (Or.inr (ww hw 36 rfl)) (Or.inr (ww hw 26 rfl)) (by decide) (t := (.object "com/example/transom/transom/Scope")) (t' := (.object "java/util/Map")) (by decide) (by decide)))).other W8 (Or.inr (slot_ne (Or.inr (ww hw 36 rfl)) (Or.inr (ww hw 28 rfl)) (by decide) (t := (.object "com/example/transom/transom/Scope")) (t' := (.object "com/example/transom/transom/Scope")) (by decide) (by decide)))).other W11 (Or.inr (slot_ne (Or.inr (ww hw 36 rfl)) (Or.inr (ww hw 30 rfl)) (by decide) (t := (.object "com/example/transom/transom/Scope")) (t' := (.object "com/example/transom/transom/Scope")) (by decide) (by decide)))).other W13 (Or.inr (slot_ne (Or.inr (ww hw 36 rfl)) (Or.inr (ww hw 32 rfl)) (by decide) (t := (.object "com/example/transom/transom/Scope")) (t' := (.object "java/util/Map")) (by decide) (by decide)))).other W14 (Or.inr (slot_ne (Or.inr (ww hw 36 rfl)) (Or.inr (ww hw 34 rfl)) (by decide) (t := (.object "com/example/transom/transom/Scope")) (t' := (.object "com/example/transom/transom/Template")) (by decide) (by decide)))) (((((((E_a1.ext E5).keep Kc6).wr W7).wr W8).wr W11).wr W13).wr W14) (Or.inr ⟨(ww hw 36 rfl), rfl, hnm⟩) (ww hw 1 rfl) (ty := (.object "com/example/transom/transom/Scope")) (by decide) rfl rfl (g := (mkF m 43 #[.val (.ref a1), .val (.ref a2), .val .null, .val .null, .val (.int p3)] [.null, (.ref a1)])) rfl rfl (hb hby d6_43)
  have Fw15 := (((((((F_renderer_a1.ext E5).keep Kc6 (ninS (Nat.ne_of_lt (Nat.lt_of_lt_of_le E_a1.lt (Nat.le_of_eq g5.symm))) nin0)).other W7 (Or.inr (slot_ne (Or.inr (ww hw 36 rfl)) (Or.inr (ww hw 26 rfl)) (by decide) (t := (.object "com/example/transom/transom/Scope")) (t' := (.object "java/util/Map")) (by decide) (by decide)))).other W8 (Or.inr (slot_ne (Or.inr (ww hw 36 rfl)) (Or.inr (ww hw 28 rfl)) (by decide) (t := (.object "com/example/transom/transom/Scope")) (t' := (.object "com/example/transom/transom/Scope")) (by decide) (by decide)))).other W11 (Or.inr (slot_ne (Or.inr (ww hw 36 rfl)) (Or.inr (ww hw 30 rfl)) (by decide) (t := (.object "com/example/transom/transom/Scope")) (t' := (.object "com/example/transom/transom/Scope")) (by decide) (by decide)))).other W13 (Or.inr (slot_ne (Or.inr (ww hw 36 rfl)) (Or.inr (ww hw 32 rfl)) (by decide) (t := (.object "com/example/transom/transom/Scope")) (t' := (.object "java/util/Map")) (by decide) (by decide)))).other W14 (Or.inr (slot_ne (Or.inr (ww hw 36 rfl)) (Or.inr (ww hw 34 rfl)) (by decide) (t := (.object "com/example/transom/transom/Scope")) (t' := (.object "com/example/transom/transom/Template")) (by decide) (by decide)))).same W15
  have K15 : Keep h0 h15 [a1] := K14.wr W15 (Or.inl (List.mem_of_getElem? (i := 0) rfl))
  have N15 := Fr.snoc X15 N14 g_a1
  obtain ⟨T16, h16, X16, e16, W16, st16⟩ := putF X15 hx hZ hown (host := "") (Or.inl (ww hw 37 rfl)) Via.refl e15 ((((((((F_calls_a1.ext E5).keep Kc6 (ninS (Nat.ne_of_lt (Nat.lt_of_lt_of_le E_a1.lt (Nat.le_of_eq g5.symm))) nin0)).other W7 (Or.inr (slot_ne (Or.inr (ww hw 38 rfl)) (Or.inr (ww hw 26 rfl)) (by decide) (t := .int) (t' := (.object "java/util/Map")) (by decide) (by decide)))).other W8 (Or.inr (slot_ne (Or.inr (ww hw 38 rfl)) (Or.inr (ww hw 28 rfl)) (by decide) (t := .int) (t' := (.object "com/example/transom/transom/Scope")) (by decide) (by decide)))).other W11 (Or.inr (slot_ne (Or.inr (ww hw 38 rfl)) (Or.inr (ww hw 30 rfl)) (by decide) (t := .int) (t' := (.object "com/example/transom/transom/Scope")) (by decide) (by decide)))).other W13 (Or.inr (slot_ne (Or.inr (ww hw 38 rfl)) (Or.inr (ww hw 32 rfl)) (by decide) (t := .int) (t' := (.object "java/util/Map")) (by decide) (by decide)))).other W14 (Or.inr (slot_ne (Or.inr (ww hw 38 rfl)) (Or.inr (ww hw 34 rfl)) (by decide) (t := .int) (t' := (.object "com/example/transom/transom/Template")) (by decide) (by decide)))).other W15 (Or.inr (slot_ne (Or.inr (ww hw 38 rfl)) (Or.inr (ww hw 36 rfl)) (by decide) (t := .int) (t' := (.object "com/example/transom/transom/Scope")) (by decide) (by decide)))) ((((((((E_a1.ext E5).keep Kc6).wr W7).wr W8).wr W11).wr W13).wr W14).wr W15) (Or.inr ⟨(ww hw 38 rfl), rfl, hnm⟩) (ww hw 1 rfl) (ty := .int) (by decide) rfl rfl (g := (mkF m 49 #[.val (.ref a1), .val (.ref a2), .val .null, .val .null, .val (.int p3)] [(.int p3), (.ref a1)])) rfl rfl (hb hby d6_49)
  have Fw16 := ((((((((F_calls_a1.ext E5).keep Kc6 (ninS (Nat.ne_of_lt (Nat.lt_of_lt_of_le E_a1.lt (Nat.le_of_eq g5.symm))) nin0)).other W7 (Or.inr (slot_ne (Or.inr (ww hw 38 rfl)) (Or.inr (ww hw 26 rfl)) (by decide) (t := .int) (t' := (.object "java/util/Map")) (by decide) (by decide)))).other W8 (Or.inr (slot_ne (Or.inr (ww hw 38 rfl)) (Or.inr (ww hw 28 rfl)) (by decide) (t := .int) (t' := (.object "com/example/transom/transom/Scope")) (by decide) (by decide)))).other W11 (Or.inr (slot_ne (Or.inr (ww hw 38 rfl)) (Or.inr (ww hw 30 rfl)) (by decide) (t := .int) (t' := (.object "com/example/transom/transom/Scope")) (by decide) (by decide)))).other W13 (Or.inr (slot_ne (Or.inr (ww hw 38 rfl)) (Or.inr (ww hw 32 rfl)) (by decide) (t := .int) (t' := (.object "java/util/Map")) (by decide) (by decide)))).other W14 (Or.inr (slot_ne (Or.inr (ww hw 38 rfl)) (Or.inr (ww hw 34 rfl)) (by decide) (t := .int) (t' := (.object "com/example/transom/transom/Template")) (by decide) (by decide)))).other W15 (Or.inr (slot_ne (Or.inr (ww hw 38 rfl)) (Or.inr (ww hw 36 rfl)) (by decide) (t := .int) (t' := (.object "com/example/transom/transom/Scope")) (by decide) (by decide)))).same W16
  have K16 : Keep h0 h16 [a1] := K15.wr W16 (Or.inl (List.mem_of_getElem? (i := 0) rfl))
  have N16 := Fr.snoc X16 N15 g_a1
  obtain ⟨fs, hr, hrun, hended, hW, hsame⟩ := X16.leave (v := none) (fun _ => rfl)
  refine ⟨_, _, pre0 _ ?_, hrun, hended, _, _, rfl, ?_, ⟨_, rfl⟩, hW, hsame.mono (by decide) (by decide)⟩
  · show Steps _ _ _ (s₁.setTop (mkF m 0 #[.val (.ref a1), .val (.ref a2), .val .null, .val .null, .val (.int p3)] [])) _
    refine XS.aloadN X0.here hx rfl (hb hby d6_0) rfl rfl ?_
    show Steps _ _ _ (s₁.setTop (mkF m 1 #[.val (.ref a1), .val (.ref a2), .val .null, .val .null, .val (.int p3)] [(.ref a1)])) _
    refine st4 _ ?_
    show Steps _ _ _ (T4.setTop (mkF m 4 #[.val (.ref a1), .val (.ref a2), .val .null, .val .null, .val (.int p3)] [])) _
    refine XS.aloadN X4.here hx rfl (hb hby d6_4) rfl rfl ?_
    show Steps _ _ _ (T4.setTop (mkF m 5 #[.val (.ref a1), .val (.ref a2), .val .null, .val .null, .val (.int p3)] [(.ref a1)])) _
    refine st5 _ ?_
    show Steps _ _ _ (T5.setTop (mkF m 8 #[.val (.ref a1), .val (.ref a2), .val .null, .val .null, .val (.int p3)] [(.ref b5), (.ref a1)])) _
    refine XS.dup X5.here hx rfl (hb hby d6_8) rfl rfl ?_
    show Steps _ _ _ (T5.setTop (mkF m 9 #[.val (.ref a1), .val (.ref a2), .val .null, .val .null, .val (.int p3)] [(.ref b5), (.ref b5), (.ref a1)])) _
    refine st6.trans ?_
    show Steps _ _ _ (T6.setTop (mkF m 12 #[.val (.ref a1), .val (.ref a2), .val .null, .val .null, .val (.int p3)] [(.ref b5), (.ref a1)])) _
    refine st7 _ ?_
    show Steps _ _ _ (T7.setTop (mkF m 15 #[.val (.ref a1), .val (.ref a2), .val .null, .val .null, .val (.int p3)] [])) _
    refine XS.aloadN X7.here hx rfl (hb hby d6_15) rfl rfl ?_
    show Steps _ _ _ (T7.setTop (mkF m 16 #[.val (.ref a1), .val (.ref a2), .val .null, .val .null, .val (.int p3)] [(.ref a1)])) _
    refine XS.aloadN X7.here hx rfl (hb hby d6_16) rfl rfl ?_
    show Steps _ _ _ (T7.setTop (mkF m 17 #[.val (.ref a1), .val (.ref a2), .val .null, .val .null, .val (.int p3)] [(.ref a2), (.ref a1)])) _
    refine st8 _ ?_
    show Steps _ _ _ (T8.setTop (mkF m 20 #[.val (.ref a1), .val (.ref a2), .val .null, .val .null, .val (.int p3)] [])) _
    refine XS.aloadN X8.here hx rfl (hb hby d6_20) rfl rfl ?_
    show Steps _ _ _ (T8.setTop (mkF m 21 #[.val (.ref a1), .val (.ref a2), .val .null, .val .null, .val (.int p3)] [(.ref a1)])) _
    refine XS.aloadN X8.here hx rfl (hb hby d6_21) rfl rfl ?_
    show Steps _ _ _ (T8.setTop (mkF m 22 #[.val (.ref a1), .val (.ref a2), .val .null, .val .null, .val (.int p3)] [(.ref a2), (.ref a1)])) _
    refine st10 _ ?_
    show Steps _ _ _ (T10.setTop (mkF m 25 #[.val (.ref a1), .val (.ref a2), .val .null, .val .null, .val (.int p3)] [(.ref w9), (.ref a1)])) _
    refine st11 _ ?_
    show Steps _ _ _ (T11.setTop (mkF m 28 #[.val (.ref a1), .val (.ref a2), .val .null, .val .null, .val (.int p3)] [])) _
    refine XS.aloadN X11.here hx rfl (hb hby d6_28) rfl rfl ?_
    show Steps _ _ _ (T11.setTop (mkF m 29 #[.val (.ref a1), .val (.ref a2), .val .null, .val .null, .val (.int p3)] [(.ref a1)])) _
    refine XS.aloadN X11.here hx rfl (hb hby d6_29) rfl rfl ?_
    show Steps _ _ _ (T11.setTop (mkF m 30 #[.val (.ref a1), .val (.ref a2), .val .null, .val .null, .val (.int p3)] [(.ref a2), (.ref a1)])) _
    refine st12 _ ?_
    show Steps _ _ _ (T12.setTop (mkF m 33 #[.val (.ref a1), .val (.ref a2), .val .null, .val .null, .val (.int p3)] [.null, (.ref a1)])) _
    refine st13 _ ?_
    show Steps _ _ _ (T13.setTop (mkF m 36 #[.val (.ref a1), .val (.ref a2), .val .null, .val .null, .val (.int p3)] [])) _
    refine XS.aloadN X13.here hx rfl (hb hby d6_36) rfl rfl ?_
    show Steps _ _ _ (T13.setTop (mkF m 37 #[.val (.ref a1), .val (.ref a2), .val .null, .val .null, .val (.int p3)] [(.ref a1)])) _
    refine XS.aloadN X13.here hx rfl (hb hby d6_37) rfl rfl ?_
    show Steps _ _ _ (T13.setTop (mkF m 38 #[.val (.ref a1), .val (.ref a2), .val .null, .val .null, .val (.int p3)] [.null, (.ref a1)])) _
    refine st14 _ ?_
    show Steps _ _ _ (T14.setTop (mkF m 41 #[.val (.ref a1), .val (.ref a2), .val .null, .val .null, .val (.int p3)] [])) _
    refine XS.aloadN X14.here hx rfl (hb hby d6_41) rfl rfl ?_
    show Steps _ _ _ (T14.setTop (mkF m 42 #[.val (.ref a1), .val (.ref a2), .val .null, .val .null, .val (.int p3)] [(.ref a1)])) _
    refine XS.aloadN X14.here hx rfl (hb hby d6_42) rfl rfl ?_
    show Steps _ _ _ (T14.setTop (mkF m 43 #[.val (.ref a1), .val (.ref a2), .val .null, .val .null, .val (.int p3)] [.null, (.ref a1)])) _
    refine st15 _ ?_
    show Steps _ _ _ (T15.setTop (mkF m 46 #[.val (.ref a1), .val (.ref a2), .val .null, .val .null, .val (.int p3)] [])) _
    refine XS.aloadN X15.here hx rfl (hb hby d6_46) rfl rfl ?_
    show Steps _ _ _ (T15.setTop (mkF m 47 #[.val (.ref a1), .val (.ref a2), .val .null, .val .null, .val (.int p3)] [(.ref a1)])) _
    refine XS.iload X15.here hx rfl (hb hby d6_47) rfl ?_
    show Steps _ _ _ (T15.setTop (mkF m 49 #[.val (.ref a1), .val (.ref a2), .val .null, .val .null, .val (.int p3)] [(.int p3), (.ref a1)])) _
    refine st16 _ ?_
    show Steps _ _ _ (T16.setTop (mkF m 52 #[.val (.ref a1), .val (.ref a2), .val .null, .val .null, .val (.int p3)] [])) _
    exact X16.returnOut hx Bd.returns (hb hby d6_52) hr
  · show Q6 Z a1 a2 p3 u_values_a1 u_parent_a1 w9 u_top_a1 u_model_a1 u_template_a1 u_renderer_a1 u_calls_a1 h0 n0 _ T16.heap _
    rw [e16]
    exact ⟨rfl, N16, K16, (((((((((E_a1.ext E5).keep Kc6).wr W7).wr W8).wr W11).wr W13).wr W14).wr W15).wr W16), ((((Fw11.other W13 (Or.inr (slot_ne (Or.inr (ww hw 30 rfl)) (Or.inr (ww hw 32 rfl)) (by decide) (t := (.object "com/example/transom/transom/Scope")) (t' := (.object "java/util/Map")) (by decide) (by decide)))).other W14 (Or.inr (slot_ne (Or.inr (ww hw 30 rfl)) (Or.inr (ww hw 34 rfl)) (by decide) (t := (.object "com/example/transom/transom/Scope")) (t' := (.object "com/example/transom/transom/Template")) (by decide) (by decide)))).other W15 (Or.inr (slot_ne (Or.inr (ww hw 30 rfl)) (Or.inr (ww hw 36 rfl)) (by decide) (t := (.object "com/example/transom/transom/Scope")) (t' := (.object "com/example/transom/transom/Scope")) (by decide) (by decide)))).other W16 (Or.inr (slot_ne (Or.inr (ww hw 30 rfl)) (Or.inr (ww hw 38 rfl)) (by decide) (t := (.object "com/example/transom/transom/Scope")) (t' := .int) (by decide) (by decide))))⟩
theorem d5_0 : decode prog_61_method_2_code 0 = .ok (.aload_n 0, 1) := by decide +kernel
theorem d5_1 : decode prog_61_method_2_code 1 = .ok (.aload_n 1, 1) := by decide +kernel
theorem d5_2 : decode prog_61_method_2_code 2 = .ok (.aload_n 1, 1) := by decide +kernel
theorem d5_3 : decode prog_61_method_2_code 3 = .ok (.getfield 26, 3) := by decide +kernel
theorem d5_6 : decode prog_61_method_2_code 6 = .ok (.aload_n 1, 1) := by decide +kernel
theorem d5_7 : decode prog_61_method_2_code 7 = .ok (.getfield 30, 3) := by decide +kernel
theorem d5_10 : decode prog_61_method_2_code 10 = .ok (.aload_n 1, 1) := by decide +kernel
theorem d5_11 : decode prog_61_method_2_code 11 = .ok (.getfield 33, 3) := by decide +kernel
theorem d5_14 : decode prog_61_method_2_code 14 = .ok (.invokespecial 37, 3) := by decide +kernel
theorem d5_17 : decode prog_61_method_2_code 17 = .ok (.return_, 1) := by decide +kernel
theorem pn_5 : plainName "com/example/transom/transom/Scope" = true := by first | (simp [plainName, overriddenIn]; done) | decide +kernel
theorem pd_5_3 : parseMethodDescriptor "(Lcom/example/transom/transom/Scope;Lcom/example/transom/transom/Template;Lcom/example/transom/transom/Scope;I)V" = some ⟨[(.object "com/example/transom/transom/Scope"), (.object "com/example/transom/transom/Template"), (.object "com/example/transom/transom/Scope"), .int], none⟩ := by decide +kernel
theorem ef_5 (m : MethodId) (x0 : Addr) (x1 : Addr) : entryFrame m #[(.ref x0), (.ref x1)] 2 = mkF m 0 #[.val (.ref x0), .val (.ref x1)] [] := by first | (simp [entryFrame, mkF, argsToLocals, Value.category]; done) | rfl
-- 2. THE CONTRACT: what this body leaves is yours
def Q5 (Z : State) (a1 : Addr) (a2 : Addr) (w9 : Addr) (w5 : Int32) (h0 : Heap) (n0 : Nat) (v : Option Value) (h : Heap) (L : List Loc) : Prop := v = none ∧ Fr n0 L ∧ Keep h0 h [a1] ∧ Exa Z h a1 "com/example/transom/transom/Scope" ∧ Fld Z h a1 "com/example/transom/transom/Scope" "top" "Lcom/example/transom/transom/Scope;" (.ref w9)
-- its room: frames: the greatest, locals: the greatest, cells 1 + .., slots 8 + ..: rm6: frames + 1; locals 0 + 5 + 11 + its room's locals; its cells and slots besides
set_option maxRecDepth 65536 in
set_option maxHeartbeats 40000000 in
theorem rm5 (l : Launch) (Z : State) (a0 : Array Value) (hw : ∀ d ∈ tables_1, d.before a0 Z = true) (ws : List Jvm.Cond) (a1 : Addr) (a2 : Addr) (w9 : Addr) (w5 : Int32) (h0 : Heap) (n0 : Nat) (Z0 : n0 ≤ h0.size) (ne21 : a2 ≠ a1) (E_a1 : Exa Z h0 a1 "com/example/transom/transom/Scope") (F_values_a1 : Fld Z h0 a1 "com/example/transom/transom/Scope" "values" "Ljava/util/Map;" .null) (F_parent_a1 : Fld Z h0 a1 "com/example/transom/transom/Scope" "parent" "Lcom/example/transom/transom/Scope;" .null) (F_top_a1 : Fld Z h0 a1 "com/example/transom/transom/Scope" "top" "Lcom/example/transom/transom/Scope;" .null) (F_model_a1 : Fld Z h0 a1 "com/example/transom/transom/Scope" "model" "Ljava/util/Map;" .null) (F_template_a1 : Fld Z h0 a1 "com/example/transom/transom/Scope" "template" "Lcom/example/transom/transom/Template;" .null) (F_renderer_a1 : Fld Z h0 a1 "com/example/transom/transom/Scope" "renderer" "Lcom/example/transom/transom/Scope;" .null) (F_calls_a1 : Fld Z h0 a1 "com/example/transom/transom/Scope" "calls" "I" (.int (0 : Int32))) (g_a1 : n0 ≤ a1) (F_top_a2 : Fld Z h0 a2 "com/example/transom/transom/Scope" "top" "Lcom/example/transom/transom/Scope;" (.ref w9)) (F_model_a2 : Fld Z h0 a2 "com/example/transom/transom/Scope" "model" "Ljava/util/Map;" .null) (F_template_a2 : Fld Z h0 a2 "com/example/transom/transom/Scope" "template" "Lcom/example/transom/transom/Template;" .null) (F_renderer_a2 : Fld Z h0 a2 "com/example/transom/transom/Scope" "renderer" "Lcom/example/transom/transom/Scope;" .null) (F_calls_a2 : Fld Z h0 a2 "com/example/transom/transom/Scope" "calls" "I" (.int w5)) :
    MetFree l (⟨"com/example/transom/transom/Scope", "<init>", "(Lcom/example/transom/transom/Scope;)V"⟩ : MethodName) (head1 (Jvm.Cond.code (⟨"com/example/transom/transom/Scope", "<init>", "(Lcom/example/transom/transom/Scope;)V"⟩ : MethodName) prog_61_method_2_code 2 none :: ws) ({ frames := 4, cells := 1, slots := 8, locals := 90 } : Room)) (fun a U => a = #[(.ref a1), (.ref a2)] ∧ Z.Warmed39 U.vm ∧ U.heap = h0) (fun _ _ _ _ _ => True) (fun _ U o U' => ∃ v L, o = .returned v ∧ Q5 Z a1 a2 w9 w5 h0 n0 v U'.heap L ∧ FrameEnd U o U' L ({ frames := 4, cells := 1, slots := 8, locals := 90 } : Room).cells ({ frames := 4, cells := 1, slots := 8, locals := 90 } : Room).slots) := by
  refine MetFree.of_bodySF (plainFor_of_name pn_5) hisR ?_
  intro p e s m args below meth c s₁ Bd hml0 hP hK
  obtain ⟨rfl, hZ, hh⟩ := hP
  have hx := Bd.exec
  have hby := Bd.bytes
  have hml : c.maxLocals = 2 := hml0
  have hown : s.vm.findClass "com/example/transom/transom/Scope" = some m.cls := findClass_of_methodNamed Bd.named
  have hnm := (name_of_methodNamed Bd.named Bd.method).1
  have X0 : Stand p l e ({ frames := 4, cells := 1, slots := 8, locals := 90 } : Room) s m #[(.ref a1), (.ref a2)] below meth c s₁ [] 0 0 := Stand.of_body Bd
  have e0 : s₁.heap = h0 := by rw [← hh, Bd.state]; rfl
  have N0 := Fr.nil n0
  have pre0 : ∀ t, Steps p.tables e below (s₁.setTop (mkF m 0 #[.val (.ref a1), .val (.ref a2)] [])) t → Steps p.tables e below (s₁.setTop (entryFrame m #[(.ref a1), (.ref a2)] 2)) t := fun t k => castTop (ef_5 m a1 a2) k
  obtain ⟨T3, X3, e3, st3⟩ := getF X0 hx hZ hown (host := "") (Or.inl (ww hw 33 rfl)) Via.refl e0 F_template_a2 (g := (mkF m 3 #[.val (.ref a1), .val (.ref a2)] [(.ref a2), (.ref a2), (.ref a1)])) rfl rfl (hb hby d5_3)
  obtain ⟨T4, X4, e4, st4⟩ := getF X3 hx hZ hown (host := "") (Or.inl (ww hw 35 rfl)) Via.refl e3 F_renderer_a2 (g := (mkF m 7 #[.val (.ref a1), .val (.ref a2)] [(.ref a2), .null, (.ref a2), (.ref a1)])) rfl rfl (hb hby d5_7)
  obtain ⟨T6, X6, e6, st6⟩ := getF X4 hx hZ hown (host := "") (Or.inl (ww hw 37 rfl)) Via.refl e4 F_calls_a2 (g := (mkF m 11 #[.val (.ref a1), .val (.ref a2)] [(.ref a2), .null, .null, (.ref a2), (.ref a1)])) rfl rfl (hb hby d5_11)
  obtain ⟨_, _, ⟨T7, L7, k7, n7⟩, -, X7, ⟨Lc7, hQ7, l7, y7, z7⟩, st7⟩ := X6.specialBack hx (y := (⟨"com/example/transom/transom/Scope", "<init>", "(Lcom/example/transom/transom/Scope;Lcom/example/transom/transom/Template;Lcom/example/transom/transom/Scope;I)V"⟩ : MethodName)) rfl hown (mvT hZ (ww hw 42 rfl)) (mvT hZ (ww hw 43 rfl)) (mvT hZ (ww hw 44 rfl)) (by decide) (backOf (W := 0) (rm6 l Z a0 hw [] a1 a2 w5 _ _ w9 _ _ _ _ _ h0 n0 Z0 ne21 E_a1 F_values_a1 g_a1 F_parent_a1 F_top_a2 F_top_a1 F_model_a2 F_model_a1 F_template_a1 F_renderer_a1 F_calls_a1) hZ (ww hw 44 rfl) (ww hw 2 rfl) (by decide) (by decide)) (g := (mkF m 14 #[.val (.ref a1), .val (.ref a2)] [(.int w5), .null, .null, (.ref a2), (.ref a1)])) rfl (by rw [hml]; rfl) (Steps.refl _) (a := a1) (argsL := [(.ref a2), .null, .null, (.int w5)]) (rest := []) (lenOf pd_5_3 rfl) rfl (by show 2 * 0 + _ ≤ _; exact Nat.le_of_eq rfl) (hb hby d5_14) (fun _ _ => ⟨rfl, e6, (by decide : 0 + 1 ≤ _), (by decide : 0 + 8 ≤ _)⟩)
  dsimp only [Pt.U, Pt.locs, Pt.cells, Pt.slots] at X7 l7 y7 z7 st7 hQ7
  subst l7 y7 z7
  obtain ⟨rfl, N7q, Kc7, Ec7, Ft7⟩ := hQ7
  have N7 := Fr.app N0 N7q
  have K7 : Keep h0 T7.heap [a1] := (Keep.refl h0 [a1]).trans Kc7 (allS (Or.inl (List.mem_of_getElem? (i := 0) rfl)) all0)
  obtain ⟨fs, hr, hrun, hended, hW, hsame⟩ := X7.leave (v := none) (fun _ => rfl)
  refine ⟨_, _, pre0 _ ?_, hrun, hended, _, _, rfl, ?_, ⟨_, rfl⟩, hW, hsame.mono (by decide) (by decide)⟩
  · show Steps _ _ _ (s₁.setTop (mkF m 0 #[.val (.ref a1), .val (.ref a2)] [])) _
    refine XS.aloadN X0.here hx rfl (hb hby d5_0) rfl rfl ?_
    show Steps _ _ _ (s₁.setTop (mkF m 1 #[.val (.ref a1), .val (.ref a2)] [(.ref a1)])) _
    refine XS.aloadN X0.here hx rfl (hb hby d5_1) rfl rfl ?_
    show Steps _ _ _ (s₁.setTop (mkF m 2 #[.val (.ref a1), .val (.ref a2)] [(.ref a2), (.ref a1)])) _
    refine XS.aloadN X0.here hx rfl (hb hby d5_2) rfl rfl ?_
    show Steps _ _ _ (s₁.setTop (mkF m 3 #[.val (.ref a1), .val (.ref a2)] [(.ref a2), (.ref a2), (.ref a1)])) _
    refine st3 _ ?_
    show Steps _ _ _ (T3.setTop (mkF m 6 #[.val (.ref a1), .val (.ref a2)] [.null, (.ref a2), (.ref a1)])) _
    refine XS.aloadN X3.here hx rfl (hb hby d5_6) rfl rfl ?_
    show Steps _ _ _ (T3.setTop (mkF m 7 #[.val (.ref a1), .val (.ref a2)] [(.ref a2), .null, (.ref a2), (.ref a1)])) _
    refine st4 _ ?_
    show Steps _ _ _ (T4.setTop (mkF m 10 #[.val (.ref a1), .val (.ref a2)] [.null, .null, (.ref a2), (.ref a1)])) _
    refine XS.aloadN X4.here hx rfl (hb hby d5_10) rfl rfl ?_
    show Steps _ _ _ (T4.setTop (mkF m 11 #[.val (.ref a1), .val (.ref a2)] [(.ref a2), .null, .null, (.ref a2), (.ref a1)])) _
    refine st6 _ ?_
    show Steps _ _ _ (T6.setTop (mkF m 14 #[.val (.ref a1), .val (.ref a2)] [(.int w5), .null, .null, (.ref a2), (.ref a1)])) _
    refine st7.trans ?_
    show Steps _ _ _ (T7.setTop (mkF m 17 #[.val (.ref a1), .val (.ref a2)] [])) _
    exact X7.returnOut hx Bd.returns (hb hby d5_17) hr
  · show Q5 Z a1 a2 w9 w5 h0 n0 _ T7.heap _
    exact ⟨rfl, N7, K7, Ec7, Ft7⟩
def Qi (r : Int32) (h0 : Heap) (n0 : Nat) (v : Option Value) (h : Heap) (L : List Loc) : Prop := v = some (.int r) ∧ Fr n0 L ∧ h = h0
def Qj (Z : State) (w : Addr) (r : Option Value) (j : Value) (h0 : Heap) (n0 : Nat) (v : Option Value) (h : Heap) (L : List Loc) : Prop := v = r ∧ Fr n0 L ∧ Keep h0 h [w] ∧ Fld Z h w "com/example/transom/transom/Scope" "jump" "Lcom/example/transom/transom/Scope$Jump;" j ∧ Fld Z h w "com/example/transom/transom/Scope" "top" "Lcom/example/transom/transom/Scope;" (.ref w)
theorem d7_0 : decode prog_61_method_12_code 0 = .ok (.aload_n 0, 1) := by decide +kernel
theorem d7_1 : decode prog_61_method_12_code 1 = .ok (.getfield 20, 3) := by decide +kernel
theorem d7_4 : decode prog_61_method_12_code 4 = .ok (.getfield 76, 3) := by decide +kernel
theorem d7_7 : decode prog_61_method_12_code 7 = .ok (.ifnull 7, 3) := by decide +kernel
theorem d7_14 : decode prog_61_method_12_code 14 = .ok (.iconst 0, 1) := by decide +kernel
theorem d7_15 : decode prog_61_method_12_code 15 = .ok (.ireturn, 1) := by decide +kernel
theorem pn_7 : plainName "com/example/transom/transom/Scope" = true := by first | (simp [plainName, overriddenIn]; done) | decide +kernel
theorem ef_7 (m : MethodId) (x0 : Addr) : entryFrame m #[(.ref x0)] 1 = mkF m 0 #[.val (.ref x0)] [] := by first | (simp [entryFrame, mkF, argsToLocals, Value.category]; done) | rfl
-- 2. THE CONTRACT: what this body leaves is yours
set_option maxRecDepth 65536 in
set_option maxHeartbeats 40000000 in
theorem rmJn (l : Launch) (Z : State) (a0 : Array Value) (hw : ∀ d ∈ tables_1, d.before a0 Z = true) (ws : List Jvm.Cond) (a1 : Addr) (w2 : Addr) (h0 : Heap) (n0 : Nat) (Z0 : n0 ≤ h0.size) (F_top_a1 : Fld Z h0 a1 "com/example/transom/transom/Scope" "top" "Lcom/example/transom/transom/Scope;" (.ref w2)) (F_jump_w2 : Fld Z h0 w2 "com/example/transom/transom/Scope" "jump" "Lcom/example/transom/transom/Scope$Jump;" .null) :
    MetFree l (⟨"com/example/transom/transom/Scope", "jumping", "()Z"⟩ : MethodName) (head1 (Jvm.Cond.code (⟨"com/example/transom/transom/Scope", "jumping", "()Z"⟩ : MethodName) prog_61_method_12_code 1 (some .boolean) :: ws) ({ frames := 0, cells := 0, slots := 0, locals := 0 } : Room)) (fun a U => a = #[(.ref a1)] ∧ Z.Warmed39 U.vm ∧ U.heap = h0) (fun _ _ _ _ _ => True) (fun _ U o U' => ∃ v L, o = .returned v ∧ Qi (0 : Int32) h0 n0 v U'.heap L ∧ FrameEnd U o U' L ({ frames := 0, cells := 0, slots := 0, locals := 0 } : Room).cells ({ frames := 0, cells := 0, slots := 0, locals := 0 } : Room).slots) := by
  refine MetFree.of_bodySF (plainFor_of_name pn_7) hisR ?_
  intro p e s m args below meth c s₁ Bd hml0 hP hK
  obtain ⟨rfl, hZ, hh⟩ := hP
  have hx := Bd.exec
  have hby := Bd.bytes
  have hml : c.maxLocals = 1 := hml0
  have hown : s.vm.findClass "com/example/transom/transom/Scope" = some m.cls := findClass_of_methodNamed Bd.named
  have hnm := (name_of_methodNamed Bd.named Bd.method).1
  have X0 : Stand p l e ({ frames := 0, cells := 0, slots := 0, locals := 0 } : Room) s m #[(.ref a1)] below meth c s₁ [] 0 0 := Stand.of_body Bd
  have e0 : s₁.heap = h0 := by rw [← hh, Bd.state]; rfl
  have N0 := Fr.nil n0
  have pre0 : ∀ t, Steps p.tables e below (s₁.setTop (mkF m 0 #[.val (.ref a1)] [])) t → Steps p.tables e below (s₁.setTop (entryFrame m #[(.ref a1)] 1)) t := fun t k => castTop (ef_7 m a1) k
  obtain ⟨T3, X3, e3, st3⟩ := getF X0 hx hZ hown (host := "") (Or.inl (ww hw 29 rfl)) Via.refl e0 F_top_a1 (g := (mkF m 1 #[.val (.ref a1)] [(.ref a1)])) rfl rfl (hb hby d7_1)
  obtain ⟨T4, X4, e4, st4⟩ := getF X3 hx hZ hown (host := "") (Or.inl (ww hw 50 rfl)) Via.refl e3 F_jump_w2 (g := (mkF m 4 #[.val (.ref a1)] [(.ref w2)])) rfl rfl (hb hby d7_4)
  obtain ⟨fs, hr, hrun, hended, hW, hsame⟩ := X4.leave (v := some (.int (0 : Int32))) (fun h => by rw [Bd.returns] at h; cases h)
  refine ⟨_, _, pre0 _ ?_, hrun, hended, _, _, rfl, ?_, ⟨_, rfl⟩, hW, hsame.mono (by decide) (by decide)⟩
  · show Steps _ _ _ (s₁.setTop (mkF m 0 #[.val (.ref a1)] [])) _
    refine XS.aloadN X0.here hx rfl (hb hby d7_0) rfl rfl ?_
    show Steps _ _ _ (s₁.setTop (mkF m 1 #[.val (.ref a1)] [(.ref a1)])) _
    refine st3 _ ?_
    show Steps _ _ _ (T3.setTop (mkF m 4 #[.val (.ref a1)] [(.ref w2)])) _
    refine st4 _ ?_
    show Steps _ _ _ (T4.setTop (mkF m 7 #[.val (.ref a1)] [.null])) _
    refine XS.ifnullYes X4.here hx rfl (pc0 := 7) (pc' := 14) rfl (hb hby d7_7) rfl (by decide) (by decide) ?_
    show Steps _ _ _ (T4.setTop (mkF m 14 #[.val (.ref a1)] [])) _
    refine XS.iconst X4.here hx rfl (hb hby d7_14) ?_
    show Steps _ _ _ (T4.setTop (mkF m 15 #[.val (.ref a1)] [(.int (0 : Int32))])) _
    exact retN X4 hx (t := .boolean) Bd.returns (by simp) (hb hby d7_15) hr
  · show Qi (0 : Int32) h0 n0 _ T4.heap _
    rw [e4]
    exact ⟨rfl, N0, rfl⟩
theorem d7_10 : decode prog_61_method_12_code 10 = .ok (.iconst 1, 1) := by decide +kernel
theorem d7_11 : decode prog_61_method_12_code 11 = .ok (.goto 4, 3) := by decide +kernel
-- 2. THE CONTRACT: what this body leaves is yours
set_option maxRecDepth 65536 in
set_option maxHeartbeats 40000000 in
theorem rmJr (l : Launch) (Z : State) (a0 : Array Value) (hw : ∀ d ∈ tables_1, d.before a0 Z = true) (ws : List Jvm.Cond) (a1 : Addr) (w2 : Addr) (w4 : Addr) (h0 : Heap) (n0 : Nat) (Z0 : n0 ≤ h0.size) (F_top_a1 : Fld Z h0 a1 "com/example/transom/transom/Scope" "top" "Lcom/example/transom/transom/Scope;" (.ref w2)) (F_jump_w2 : Fld Z h0 w2 "com/example/transom/transom/Scope" "jump" "Lcom/example/transom/transom/Scope$Jump;" (.ref w4)) :
    MetFree l (⟨"com/example/transom/transom/Scope", "jumping", "()Z"⟩ : MethodName) (head1 (Jvm.Cond.code (⟨"com/example/transom/transom/Scope", "jumping", "()Z"⟩ : MethodName) prog_61_method_12_code 1 (some .boolean) :: ws) ({ frames := 0, cells := 0, slots := 0, locals := 0 } : Room)) (fun a U => a = #[(.ref a1)] ∧ Z.Warmed39 U.vm ∧ U.heap = h0) (fun _ _ _ _ _ => True) (fun _ U o U' => ∃ v L, o = .returned v ∧ Qi (1 : Int32) h0 n0 v U'.heap L ∧ FrameEnd U o U' L ({ frames := 0, cells := 0, slots := 0, locals := 0 } : Room).cells ({ frames := 0, cells := 0, slots := 0, locals := 0 } : Room).slots) := by
  refine MetFree.of_bodySF (plainFor_of_name pn_7) hisR ?_
  intro p e s m args below meth c s₁ Bd hml0 hP hK
  obtain ⟨rfl, hZ, hh⟩ := hP
  have hx := Bd.exec
  have hby := Bd.bytes
  have hml : c.maxLocals = 1 := hml0
  have hown : s.vm.findClass "com/example/transom/transom/Scope" = some m.cls := findClass_of_methodNamed Bd.named
  have hnm := (name_of_methodNamed Bd.named Bd.method).1
  have X0 : Stand p l e ({ frames := 0, cells := 0, slots := 0, locals := 0 } : Room) s m #[(.ref a1)] below meth c s₁ [] 0 0 := Stand.of_body Bd
  have e0 : s₁.heap = h0 := by rw [← hh, Bd.state]; rfl
  have N0 := Fr.nil n0
  have pre0 : ∀ t, Steps p.tables e below (s₁.setTop (mkF m 0 #[.val (.ref a1)] [])) t → Steps p.tables e below (s₁.setTop (entryFrame m #[(.ref a1)] 1)) t := fun t k => castTop (ef_7 m a1) k
  obtain ⟨T3, X3, e3, st3⟩ := getF X0 hx hZ hown (host := "") (Or.inl (ww hw 29 rfl)) Via.refl e0 F_top_a1 (g := (mkF m 1 #[.val (.ref a1)] [(.ref a1)])) rfl rfl (hb hby d7_1)
  obtain ⟨T5, X5, e5, st5⟩ := getF X3 hx hZ hown (host := "") (Or.inl (ww hw 50 rfl)) Via.refl e3 F_jump_w2 (g := (mkF m 4 #[.val (.ref a1)] [(.ref w2)])) rfl rfl (hb hby d7_4)
  obtain ⟨fs, hr, hrun, hended, hW, hsame⟩ := X5.leave (v := some (.int (1 : Int32))) (fun h => by rw [Bd.returns] at h; cases h)
  refine ⟨_, _, pre0 _ ?_, hrun, hended, _, _, rfl, ?_, ⟨_, rfl⟩, hW, hsame.mono (by decide) (by decide)⟩
  · show Steps _ _ _ (s₁.setTop (mkF m 0 #[.val (.ref a1)] [])) _
    refine XS.aloadN X0.here hx rfl (hb hby d7_0) rfl rfl ?_
    show Steps _ _ _ (s₁.setTop (mkF m 1 #[.val (.ref a1)] [(.ref a1)])) _
    refine st3 _ ?_
    show Steps _ _ _ (T3.setTop (mkF m 4 #[.val (.ref a1)] [(.ref w2)])) _
    refine st5 _ ?_
    show Steps _ _ _ (T5.setTop (mkF m 7 #[.val (.ref a1)] [(.ref w4)])) _
    refine XS.ifnullNo X5.here hx rfl (hb hby d7_7) rfl ?_
    show Steps _ _ _ (T5.setTop (mkF m 10 #[.val (.ref a1)] [])) _
    refine XS.iconst X5.here hx rfl (hb hby d7_10) ?_
    show Steps _ _ _ (T5.setTop (mkF m 11 #[.val (.ref a1)] [(.int (1 : Int32))])) _
    refine XS.goto X5.here hx rfl (pc0 := 11) (pc' := 15) rfl (hb hby d7_11) (by decide) (by decide) ?_
    show Steps _ _ _ (T5.setTop (mkF m 15 #[.val (.ref a1)] [(.int (1 : Int32))])) _
    exact retN X5 hx (t := .boolean) Bd.returns (by simp) (hb hby d7_15) hr
  · show Qi (1 : Int32) h0 n0 _ T5.heap _
    rw [e5]
    exact ⟨rfl, N0, rfl⟩
theorem d9_0 : decode prog_61_method_11_code 0 = .ok (.aload_n 0, 1) := by decide +kernel
theorem d9_1 : decode prog_61_method_11_code 1 = .ok (.getfield 20, 3) := by decide +kernel
theorem d9_4 : decode prog_61_method_11_code 4 = .ok (.aload_n 1, 1) := by decide +kernel
theorem d9_5 : decode prog_61_method_11_code 5 = .ok (.putfield 76, 3) := by decide +kernel
theorem d9_8 : decode prog_61_method_11_code 8 = .ok (.return_, 1) := by decide +kernel
theorem pn_9 : plainName "com/example/transom/transom/Scope" = true := by first | (simp [plainName, overriddenIn]; done) | decide +kernel
theorem ef_9 (m : MethodId) (x0 : Addr) (x1 : Addr) : entryFrame m #[(.ref x0), (.ref x1)] 2 = mkF m 0 #[.val (.ref x0), .val (.ref x1)] [] := by first | (simp [entryFrame, mkF, argsToLocals, Value.category]; done) | rfl
-- 2. THE CONTRACT: what this body leaves is yours
set_option maxRecDepth 65536 in
set_option maxHeartbeats 40000000 in
theorem rmS (l : Launch) (Z : State) (a0 : Array Value) (hw : ∀ d ∈ tables_1, d.before a0 Z = true) (ws : List Jvm.Cond) (a1 : Addr) (a2 : Addr) (w3 : Addr) (u_jump_w3 : Value) (h0 : Heap) (n0 : Nat) (Z0 : n0 ≤ h0.size) (F_top_w3 : Fld Z h0 w3 "com/example/transom/transom/Scope" "top" "Lcom/example/transom/transom/Scope;" (.ref w3)) (F_top_a1 : Fld Z h0 a1 "com/example/transom/transom/Scope" "top" "Lcom/example/transom/transom/Scope;" (.ref w3)) (E_w3 : Exa Z h0 w3 "com/example/transom/transom/Scope") (F_jump_w3 : Fld Z h0 w3 "com/example/transom/transom/Scope" "jump" "Lcom/example/transom/transom/Scope$Jump;" u_jump_w3) (g_w3 : n0 ≤ w3) :
    MetFree l (⟨"com/example/transom/transom/Scope", "jump", "(Lcom/example/transom/transom/Scope$Jump;)V"⟩ : MethodName) (head1 (Jvm.Cond.code (⟨"com/example/transom/transom/Scope", "jump", "(Lcom/example/transom/transom/Scope$Jump;)V"⟩ : MethodName) prog_61_method_11_code 2 none :: ws) ({ frames := 0, cells := 0, slots := 0, locals := 0 } : Room)) (fun a U => a = #[(.ref a1), (.ref a2)] ∧ Z.Warmed39 U.vm ∧ U.heap = h0) (fun _ _ _ _ _ => True) (fun _ U o U' => ∃ v L, o = .returned v ∧ Qj Z w3 none (.ref a2) h0 n0 v U'.heap L ∧ FrameEnd U o U' L ({ frames := 0, cells := 0, slots := 0, locals := 0 } : Room).cells ({ frames := 0, cells := 0, slots := 0, locals := 0 } : Room).slots) := by
  refine MetFree.of_bodySF (plainFor_of_name pn_9) hisR ?_
  intro p e s m args below meth c s₁ Bd hml0 hP hK
  obtain ⟨rfl, hZ, hh⟩ := hP
  have hx := Bd.exec
  have hby := Bd.bytes
  have hml : c.maxLocals = 2 := hml0
  have hown : s.vm.findClass "com/example/transom/transom/Scope" = some m.cls := findClass_of_methodNamed Bd.named
  have hnm := (name_of_methodNamed Bd.named Bd.method).1
  have X0 : Stand p l e ({ frames := 0, cells := 0, slots := 0, locals := 0 } : Room) s m #[(.ref a1), (.ref a2)] below meth c s₁ [] 0 0 := Stand.of_body Bd
  have e0 : s₁.heap = h0 := by rw [← hh, Bd.state]; rfl
  have N0 := Fr.nil n0
  have pre0 : ∀ t, Steps p.tables e below (s₁.setTop (mkF m 0 #[.val (.ref a1), .val (.ref a2)] [])) t → Steps p.tables e below (s₁.setTop (entryFrame m #[(.ref a1), (.ref a2)] 2)) t := fun t k => castTop (ef_9 m a1 a2) k
  obtain ⟨T4, X4, e4, st4⟩ := getF X0 hx hZ hown (host := "") (Or.inl (ww hw 29 rfl)) Via.refl e0 F_top_a1 (g := (mkF m 1 #[.val (.ref a1), .val (.ref a2)] [(.ref a1)])) rfl rfl (hb hby d9_1)
  obtain ⟨T5, h5, X5, e5, W5, st5⟩ := putF X4 hx hZ hown (host := "") (Or.inl (ww hw 50 rfl)) Via.refl e4 F_jump_w3 E_w3 (Or.inl (ww hw 51 rfl)) (ww hw 1 rfl) (ty := (.object "com/example/transom/transom/Scope$Jump")) (by decide) rfl rfl (g := (mkF m 5 #[.val (.ref a1), .val (.ref a2)] [(.ref a2), (.ref w3)])) rfl rfl (hb hby d9_5)
  have Fw5 := F_jump_w3.same W5
  have K5 : Keep h0 h5 [w3] := (Keep.refl h0 [w3]).wr W5 (Or.inl (List.mem_of_getElem? (i := 0) rfl))
  have N5 := Fr.snoc X5 N0 g_w3
  obtain ⟨fs, hr, hrun, hended, hW, hsame⟩ := X5.leave (v := none) (fun _ => rfl)
  refine ⟨_, _, pre0 _ ?_, hrun, hended, _, _, rfl, ?_, ⟨_, rfl⟩, hW, hsame.mono (by decide) (by decide)⟩
  · show Steps _ _ _ (s₁.setTop (mkF m 0 #[.val (.ref a1), .val (.ref a2)] [])) _
    refine XS.aloadN X0.here hx rfl (hb hby d9_0) rfl rfl ?_
    show Steps _ _ _ (s₁.setTop (mkF m 1 #[.val (.ref a1), .val (.ref a2)] [(.ref a1)])) _
    refine st4 _ ?_
    show Steps _ _ _ (T4.setTop (mkF m 4 #[.val (.ref a1), .val (.ref a2)] [(.ref w3)])) _
    refine XS.aloadN X4.here hx rfl (hb hby d9_4) rfl rfl ?_
    show Steps _ _ _ (T4.setTop (mkF m 5 #[.val (.ref a1), .val (.ref a2)] [(.ref a2), (.ref w3)])) _
    refine st5 _ ?_
    show Steps _ _ _ (T5.setTop (mkF m 8 #[.val (.ref a1), .val (.ref a2)] [])) _
    exact X5.returnOut hx Bd.returns (hb hby d9_8) hr
  · show Qj Z w3 none (.ref a2) h0 n0 _ T5.heap _
    rw [e5]
    exact ⟨rfl, N5, K5, Fw5, (F_top_w3.other W5 (Or.inr (slot_ne (Or.inr (ww hw 30 rfl)) (Or.inl (ww hw 51 rfl)) (by decide) (t := (.object "com/example/transom/transom/Scope")) (t' := (.object "com/example/transom/transom/Scope$Jump")) (by decide) (by decide))))⟩
theorem d8_0 : decode prog_61_method_13_code 0 = .ok (.aload_n 0, 1) := by decide +kernel
theorem d8_1 : decode prog_61_method_13_code 1 = .ok (.getfield 20, 3) := by decide +kernel
theorem d8_4 : decode prog_61_method_13_code 4 = .ok (.getfield 76, 3) := by decide +kernel
theorem d8_7 : decode prog_61_method_13_code 7 = .ok (.astore_n 1, 1) := by decide +kernel
theorem d8_8 : decode prog_61_method_13_code 8 = .ok (.aload_n 0, 1) := by decide +kernel
theorem d8_9 : decode prog_61_method_13_code 9 = .ok (.getfield 20, 3) := by decide +kernel
theorem d8_12 : decode prog_61_method_13_code 12 = .ok (.aconst_null, 1) := by decide +kernel
theorem d8_13 : decode prog_61_method_13_code 13 = .ok (.putfield 76, 3) := by decide +kernel
theorem d8_16 : decode prog_61_method_13_code 16 = .ok (.aload_n 1, 1) := by decide +kernel
theorem d8_17 : decode prog_61_method_13_code 17 = .ok (.areturn, 1) := by decide +kernel
theorem pn_8 : plainName "com/example/transom/transom/Scope" = true := by first | (simp [plainName, overriddenIn]; done) | decide +kernel
theorem ef_8 (m : MethodId) (x0 : Addr) : entryFrame m #[(.ref x0)] 2 = mkF m 0 #[.val (.ref x0), .unset] [] := by first | (simp [entryFrame, mkF, argsToLocals, Value.category]; done) | rfl
-- 2. THE CONTRACT: what this body leaves is yours
set_option maxRecDepth 65536 in
set_option maxHeartbeats 40000000 in
theorem rmLn (l : Launch) (Z : State) (a0 : Array Value) (hw : ∀ d ∈ tables_1, d.before a0 Z = true) (ws : List Jvm.Cond) (a1 : Addr) (w2 : Addr) (h0 : Heap) (n0 : Nat) (Z0 : n0 ≤ h0.size) (F_top_w2 : Fld Z h0 w2 "com/example/transom/transom/Scope" "top" "Lcom/example/transom/transom/Scope;" (.ref w2)) (F_top_a1 : Fld Z h0 a1 "com/example/transom/transom/Scope" "top" "Lcom/example/transom/transom/Scope;" (.ref w2)) (F_jump_w2 : Fld Z h0 w2 "com/example/transom/transom/Scope" "jump" "Lcom/example/transom/transom/Scope$Jump;" .null) (E_w2 : Exa Z h0 w2 "com/example/transom/transom/Scope") (g_w2 : n0 ≤ w2) :
    MetFree l (⟨"com/example/transom/transom/Scope", "land", "()Lcom/example/transom/transom/Scope$Jump;"⟩ : MethodName) (head1 (Jvm.Cond.code (⟨"com/example/transom/transom/Scope", "land", "()Lcom/example/transom/transom/Scope$Jump;"⟩ : MethodName) prog_61_method_13_code 2 (some (.object "com/example/transom/transom/Scope$Jump")) :: ws) ({ frames := 0, cells := 0, slots := 0, locals := 0 } : Room)) (fun a U => a = #[(.ref a1)] ∧ Z.Warmed39 U.vm ∧ U.heap = h0) (fun _ _ _ _ _ => True) (fun _ U o U' => ∃ v L, o = .returned v ∧ Qj Z w2 (some .null) .null h0 n0 v U'.heap L ∧ FrameEnd U o U' L ({ frames := 0, cells := 0, slots := 0, locals := 0 } : Room).cells ({ frames := 0, cells := 0, slots := 0, locals := 0 } : Room).slots) := by
  refine MetFree.of_bodySF (plainFor_of_name pn_8) hisR ?_
  intro p e s m args below meth c s₁ Bd hml0 hP hK
  obtain ⟨rfl, hZ, hh⟩ := hP
  have hx := Bd.exec
  have hby := Bd.bytes
  have hml : c.maxLocals = 2 := hml0
  have hown : s.vm.findClass "com/example/transom/transom/Scope" = some m.cls := findClass_of_methodNamed Bd.named
  have hnm := (name_of_methodNamed Bd.named Bd.method).1
  have X0 : Stand p l e ({ frames := 0, cells := 0, slots := 0, locals := 0 } : Room) s m #[(.ref a1)] below meth c s₁ [] 0 0 := Stand.of_body Bd
  have e0 : s₁.heap = h0 := by rw [← hh, Bd.state]; rfl
  have N0 := Fr.nil n0
  have pre0 : ∀ t, Steps p.tables e below (s₁.setTop (mkF m 0 #[.val (.ref a1), .unset] [])) t → Steps p.tables e below (s₁.setTop (entryFrame m #[(.ref a1)] 2)) t := fun t k => castTop (ef_8 m a1) k
  obtain ⟨T3, X3, e3, st3⟩ := getF X0 hx hZ hown (host := "") (Or.inl (ww hw 29 rfl)) Via.refl e0 F_top_a1 (g := (mkF m 1 #[.val (.ref a1), .unset] [(.ref a1)])) rfl rfl (hb hby d8_1)
  obtain ⟨T4, X4, e4, st4⟩ := getF X3 hx hZ hown (host := "") (Or.inl (ww hw 50 rfl)) Via.refl e3 F_jump_w2 (g := (mkF m 4 #[.val (.ref a1), .unset] [(.ref w2)])) rfl rfl (hb hby d8_4)
  obtain ⟨T5, X5, e5, st5⟩ := getF X4 hx hZ hown (host := "") (Or.inl (ww hw 29 rfl)) Via.refl e4 F_top_a1 (g := (mkF m 9 #[.val (.ref a1), .val .null] [(.ref a1)])) rfl rfl (hb hby d8_9)
  obtain ⟨T6, h6, X6, e6, W6, st6⟩ := putF X5 hx hZ hown (host := "") (Or.inl (ww hw 50 rfl)) Via.refl e5 F_jump_w2 E_w2 (Or.inl (ww hw 51 rfl)) (ww hw 1 rfl) (ty := (.object "com/example/transom/transom/Scope$Jump")) (by decide) rfl rfl (g := (mkF m 13 #[.val (.ref a1), .val .null] [.null, (.ref w2)])) rfl rfl (hb hby d8_13)
  have Fw6 := F_jump_w2.same W6
  have K6 : Keep h0 h6 [w2] := (Keep.refl h0 [w2]).wr W6 (Or.inl (List.mem_of_getElem? (i := 0) rfl))
  have N6 := Fr.snoc X6 N0 g_w2
  obtain ⟨fs, hr, hrun, hended, hW, hsame⟩ := X6.leave (v := some .null) (fun h => by rw [Bd.returns] at h; cases h)
  refine ⟨_, _, pre0 _ ?_, hrun, hended, _, _, rfl, ?_, ⟨_, rfl⟩, hW, hsame.mono (by decide) (by decide)⟩
  · show Steps _ _ _ (s₁.setTop (mkF m 0 #[.val (.ref a1), .unset] [])) _
    refine XS.aloadN X0.here hx rfl (hb hby d8_0) rfl rfl ?_
    show Steps _ _ _ (s₁.setTop (mkF m 1 #[.val (.ref a1), .unset] [(.ref a1)])) _
    refine st3 _ ?_
    show Steps _ _ _ (T3.setTop (mkF m 4 #[.val (.ref a1), .unset] [(.ref w2)])) _
    refine st4 _ ?_
    show Steps _ _ _ (T4.setTop (mkF m 7 #[.val (.ref a1), .unset] [.null])) _
    refine XS.astoreN X4.here hx rfl (hb hby d8_7) rfl rfl (l' := #[.val (.ref a1), .val .null]) rfl ?_
    show Steps _ _ _ (T4.setTop (mkF m 8 #[.val (.ref a1), .val .null] [])) _
    refine XS.aloadN X4.here hx rfl (hb hby d8_8) rfl rfl ?_
    show Steps _ _ _ (T4.setTop (mkF m 9 #[.val (.ref a1), .val .null] [(.ref a1)])) _
    refine st5 _ ?_
    show Steps _ _ _ (T5.setTop (mkF m 12 #[.val (.ref a1), .val .null] [(.ref w2)])) _
    refine XS.aconstNull X5.here hx rfl (hb hby d8_12) ?_
    show Steps _ _ _ (T5.setTop (mkF m 13 #[.val (.ref a1), .val .null] [.null, (.ref w2)])) _
    refine st6 _ ?_
    show Steps _ _ _ (T6.setTop (mkF m 16 #[.val (.ref a1), .val .null] [])) _
    refine XS.aloadN X6.here hx rfl (hb hby d8_16) rfl rfl ?_
    show Steps _ _ _ (T6.setTop (mkF m 17 #[.val (.ref a1), .val .null] [.null])) _
    jvm_step X6.here [X6.here.top, hx, (hb hby d8_17), X6.method', Bd.returns, Value.isRef, FieldType.isReference]
    first | (intro acts; rw [hr _ acts rfl rfl rfl]) | rw [hr _ _ rfl rfl rfl]
    exact Steps.refl _
  · show Qj Z w2 (some .null) .null h0 n0 _ T6.heap _
    rw [e6]
    exact ⟨rfl, N6, K6, Fw6, (F_top_w2.other W6 (Or.inr (slot_ne (Or.inr (ww hw 30 rfl)) (Or.inl (ww hw 51 rfl)) (by decide) (t := (.object "com/example/transom/transom/Scope")) (t' := (.object "com/example/transom/transom/Scope$Jump")) (by decide) (by decide))))⟩
-- 2. THE CONTRACT: what this body leaves is yours
set_option maxRecDepth 65536 in
set_option maxHeartbeats 40000000 in
theorem rmLr (l : Launch) (Z : State) (a0 : Array Value) (hw : ∀ d ∈ tables_1, d.before a0 Z = true) (ws : List Jvm.Cond) (a1 : Addr) (w2 : Addr) (w4 : Addr) (h0 : Heap) (n0 : Nat) (Z0 : n0 ≤ h0.size) (F_top_w2 : Fld Z h0 w2 "com/example/transom/transom/Scope" "top" "Lcom/example/transom/transom/Scope;" (.ref w2)) (F_top_a1 : Fld Z h0 a1 "com/example/transom/transom/Scope" "top" "Lcom/example/transom/transom/Scope;" (.ref w2)) (F_jump_w2 : Fld Z h0 w2 "com/example/transom/transom/Scope" "jump" "Lcom/example/transom/transom/Scope$Jump;" (.ref w4)) (E_w2 : Exa Z h0 w2 "com/example/transom/transom/Scope") (g_w2 : n0 ≤ w2) :
    MetFree l (⟨"com/example/transom/transom/Scope", "land", "()Lcom/example/transom/transom/Scope$Jump;"⟩ : MethodName) (head1 (Jvm.Cond.code (⟨"com/example/transom/transom/Scope", "land", "()Lcom/example/transom/transom/Scope$Jump;"⟩ : MethodName) prog_61_method_13_code 2 (some (.object "com/example/transom/transom/Scope$Jump")) :: ws) ({ frames := 0, cells := 0, slots := 0, locals := 0 } : Room)) (fun a U => a = #[(.ref a1)] ∧ Z.Warmed39 U.vm ∧ U.heap = h0) (fun _ _ _ _ _ => True) (fun _ U o U' => ∃ v L, o = .returned v ∧ Qj Z w2 (some (.ref w4)) .null h0 n0 v U'.heap L ∧ FrameEnd U o U' L ({ frames := 0, cells := 0, slots := 0, locals := 0 } : Room).cells ({ frames := 0, cells := 0, slots := 0, locals := 0 } : Room).slots) := by
  refine MetFree.of_bodySF (plainFor_of_name pn_8) hisR ?_
  intro p e s m args below meth c s₁ Bd hml0 hP hK
  obtain ⟨rfl, hZ, hh⟩ := hP
  have hx := Bd.exec
  have hby := Bd.bytes
  have hml : c.maxLocals = 2 := hml0
  have hown : s.vm.findClass "com/example/transom/transom/Scope" = some m.cls := findClass_of_methodNamed Bd.named
  have hnm := (name_of_methodNamed Bd.named Bd.method).1
  have X0 : Stand p l e ({ frames := 0, cells := 0, slots := 0, locals := 0 } : Room) s m #[(.ref a1)] below meth c s₁ [] 0 0 := Stand.of_body Bd
  have e0 : s₁.heap = h0 := by rw [← hh, Bd.state]; rfl
  have N0 := Fr.nil n0
  have pre0 : ∀ t, Steps p.tables e below (s₁.setTop (mkF m 0 #[.val (.ref a1), .unset] [])) t → Steps p.tables e below (s₁.setTop (entryFrame m #[(.ref a1)] 2)) t := fun t k => castTop (ef_8 m a1) k
  obtain ⟨T3, X3, e3, st3⟩ := getF X0 hx hZ hown (host := "") (Or.inl (ww hw 29 rfl)) Via.refl e0 F_top_a1 (g := (mkF m 1 #[.val (.ref a1), .unset] [(.ref a1)])) rfl rfl (hb hby d8_1)
  obtain ⟨T5, X5, e5, st5⟩ := getF X3 hx hZ hown (host := "") (Or.inl (ww hw 50 rfl)) Via.refl e3 F_jump_w2 (g := (mkF m 4 #[.val (.ref a1), .unset] [(.ref w2)])) rfl rfl (hb hby d8_4)
  obtain ⟨T6, X6, e6, st6⟩ := getF X5 hx hZ hown (host := "") (Or.inl (ww hw 29 rfl)) Via.refl e5 F_top_a1 (g := (mkF m 9 #[.val (.ref a1), .val (.ref w4)] [(.ref a1)])) rfl rfl (hb hby d8_9)
  obtain ⟨T7, h7, X7, e7, W7, st7⟩ := putF X6 hx hZ hown (host := "") (Or.inl (ww hw 50 rfl)) Via.refl e6 F_jump_w2 E_w2 (Or.inl (ww hw 51 rfl)) (ww hw 1 rfl) (ty := (.object "com/example/transom/transom/Scope$Jump")) (by decide) rfl rfl (g := (mkF m 13 #[.val (.ref a1), .val (.ref w4)] [.null, (.ref w2)])) rfl rfl (hb hby d8_13)
  have Fw7 := F_jump_w2.same W7
  have K7 : Keep h0 h7 [w2] := (Keep.refl h0 [w2]).wr W7 (Or.inl (List.mem_of_getElem? (i := 0) rfl))
  have N7 := Fr.snoc X7 N0 g_w2
  obtain ⟨fs, hr, hrun, hended, hW, hsame⟩ := X7.leave (v := some (.ref w4)) (fun h => by rw [Bd.returns] at h; cases h)
  refine ⟨_, _, pre0 _ ?_, hrun, hended, _, _, rfl, ?_, ⟨_, rfl⟩, hW, hsame.mono (by decide) (by decide)⟩
  · show Steps _ _ _ (s₁.setTop (mkF m 0 #[.val (.ref a1), .unset] [])) _
    refine XS.aloadN X0.here hx rfl (hb hby d8_0) rfl rfl ?_
    show Steps _ _ _ (s₁.setTop (mkF m 1 #[.val (.ref a1), .unset] [(.ref a1)])) _
    refine st3 _ ?_
    show Steps _ _ _ (T3.setTop (mkF m 4 #[.val (.ref a1), .unset] [(.ref w2)])) _
    refine st5 _ ?_
    show Steps _ _ _ (T5.setTop (mkF m 7 #[.val (.ref a1), .unset] [(.ref w4)])) _
    refine XS.astoreN X5.here hx rfl (hb hby d8_7) rfl rfl (l' := #[.val (.ref a1), .val (.ref w4)]) rfl ?_
    show Steps _ _ _ (T5.setTop (mkF m 8 #[.val (.ref a1), .val (.ref w4)] [])) _
    refine XS.aloadN X5.here hx rfl (hb hby d8_8) rfl rfl ?_
    show Steps _ _ _ (T5.setTop (mkF m 9 #[.val (.ref a1), .val (.ref w4)] [(.ref a1)])) _
    refine st6 _ ?_
    show Steps _ _ _ (T6.setTop (mkF m 12 #[.val (.ref a1), .val (.ref w4)] [(.ref w2)])) _
    refine XS.aconstNull X6.here hx rfl (hb hby d8_12) ?_
    show Steps _ _ _ (T6.setTop (mkF m 13 #[.val (.ref a1), .val (.ref w4)] [.null, (.ref w2)])) _
    refine st7 _ ?_
    show Steps _ _ _ (T7.setTop (mkF m 16 #[.val (.ref a1), .val (.ref w4)] [])) _
    refine XS.aloadN X7.here hx rfl (hb hby d8_16) rfl rfl ?_
    show Steps _ _ _ (T7.setTop (mkF m 17 #[.val (.ref a1), .val (.ref w4)] [(.ref w4)])) _
    jvm_step X7.here [X7.here.top, hx, (hb hby d8_17), X7.method', Bd.returns, Value.isRef, FieldType.isReference]
    first | (intro acts; rw [hr _ acts rfl rfl rfl]) | rw [hr _ _ rfl rfl rfl]
    exact Steps.refl _
  · show Qj Z w2 (some (.ref w4)) .null h0 n0 _ T7.heap _
    rw [e7]
    exact ⟨rfl, N7, K7, Fw7, (F_top_w2.other W7 (Or.inr (slot_ne (Or.inr (ww hw 30 rfl)) (Or.inl (ww hw 51 rfl)) (by decide) (t := (.object "com/example/transom/transom/Scope")) (t' := (.object "com/example/transom/transom/Scope$Jump")) (by decide) (by decide))))⟩
theorem pn_0 : plainName "com/example/transom/transom/ScopeLandPinLaw" = true := by first | (simp [plainName, overriddenIn]; done) | decide +kernel
theorem pd_0_0 : parseMethodDescriptor "(Ljava/util/Map;Lcom/example/transom/transom/Template;)V" = some ⟨[(.object "java/util/Map"), (.object "com/example/transom/transom/Template")], none⟩ := by decide +kernel
theorem pd_0_2 : parseMethodDescriptor "(Lcom/example/transom/transom/Scope;)V" = some ⟨[(.object "com/example/transom/transom/Scope")], none⟩ := by decide +kernel
theorem pd_0_6 : parseMethodDescriptor "(Lcom/example/transom/transom/Scope$Jump;)V" = some ⟨[(.object "com/example/transom/transom/Scope$Jump")], none⟩ := by decide +kernel
theorem pd_0_4 : parseMethodDescriptor "()Z" = some ⟨[], some .boolean⟩ := by decide +kernel
theorem pd_0_5 : parseMethodDescriptor "()Lcom/example/transom/transom/Scope$Jump;" = some ⟨[], some (.object "com/example/transom/transom/Scope$Jump")⟩ := by decide +kernel
theorem ef_0 (m : MethodId) (x0 : Int32) (x1 : Int32) (x2 : Int32) : entryFrame m #[(.int x0), (.int x1), (.int x2)] maxLocals = mkF m 0 #[.val (.int x0), .val (.int x1), .val (.int x2), .unset, .unset, .unset, .unset, .unset, .unset, .unset, .unset, .unset, .unset] [] := by first | (simp [entryFrame, mkF, argsToLocals, Value.category, maxLocals]; done) | rfl
-- 2. THE CONTRACT: what this body leaves is yours
def Q0 (Z : State) (p1 : Int32) (p2 : Int32) (p3 : Int32) (uB : Addr) (uC : Addr) (h0 : Heap) (n0 : Nat) (v : Option Value) (h : Heap) (L : List Loc) : Prop := v = some (.int (1 : Int32)) ∧ Fr n0 L
-- its room: frames: the greatest, locals: the greatest, cells 4 + .., slots 32 + ..: rm1: frames + 1; locals 1 + 3 + 11 + its room's locals; its cells and slots besides; rm5: frames + 1; locals 1 + 2 + 11 + its room's locals; its cells and slots besides; rm9: frames + 1; locals 0 + 2 + 11 + its room's locals; its cells and slots besides; rm7: frames + 1; locals 0 + 1 + 11 + its room's locals; its cells and slots besides; rm8: frames + 1; locals 0 + 2 + 11 + its room's locals; its cells and slots besides; rm7: frames + 1; locals 0 + 1 + 11 + its room's locals; its cells and slots besides; rm7: frames + 1; locals 0 + 1 + 11 + its room's locals; its cells and slots besides; rm8: frames + 1; locals 0 + 2 + 11 + its room's locals; its cells and slots besides
set_option maxRecDepth 65536 in
set_option maxHeartbeats 40000000 in
theorem rm0_tt1 (l : Launch) (Z : State) (a0 : Array Value) (hw : ∀ d ∈ tables_1, d.before a0 Z = true) (ws : List Jvm.Cond) (p1 : Int32) (p2 : Int32) (p3 : Int32) (uB : Addr) (uC : Addr) (h0 : Heap) (n0 : Nat) (Z0 : n0 ≤ h0.size) (S_BREAK : Sta Z h0 "com/example/transom/transom/Scope$Jump" "BREAK" "Lcom/example/transom/transom/Scope$Jump;" (.ref uB)) (S_CONTINUE : Sta Z h0 "com/example/transom/transom/Scope$Jump" "CONTINUE" "Lcom/example/transom/transom/Scope$Jump;" (.ref uC)) (hc23 : (p2 &&& (1 : Int32)) = (0 : Int32)) (hc37 : (p3 &&& (1 : Int32)) = (0 : Int32)) (hc59 : (p1 &&& (3 : Int32)) = (1 : Int32)) (hc190 : ¬ ((1 : Int32) = (0 : Int32))) (hc202 : ¬ ((1 : Int32) = (0 : Int32))) :
    MetFree l x (head1 (Jvm.Cond.code x code maxLocals ret :: ws) room_1) (fun a U => a = #[(.int p1), (.int p2), (.int p3)] ∧ Z.Warmed39 U.vm ∧ U.heap = h0) (fun _ _ _ _ _ => True) (fun _ U o U' => ∃ v L, o = .returned v ∧ Q0 Z p1 p2 p3 uB uC h0 n0 v U'.heap L ∧ FrameEnd U o U' L room_1.cells room_1.slots) := by
  refine MetFree.of_bodySF (plainFor_of_name pn_0) hisR ?_
  intro p e s m args below meth c s₁ Bd hml0 hP hK
  obtain ⟨rfl, hZ, hh⟩ := hP
  have hx := Bd.exec
  have hby := Bd.bytes
  have hml : c.maxLocals = 13 := hml0
  have hown : s.vm.findClass "com/example/transom/transom/ScopeLandPinLaw" = some m.cls := findClass_of_methodNamed Bd.named
  have hnm := (name_of_methodNamed Bd.named Bd.method).1
  have X0 : Stand p l e room_1 s m #[(.int p1), (.int p2), (.int p3)] below meth c s₁ [] 0 0 := Stand.of_body Bd
  have e0 : s₁.heap = h0 := by rw [← hh, Bd.state]; rfl
  have N0 := Fr.nil n0
  have pre0 : ∀ t, Steps p.tables e below (s₁.setTop (mkF m 0 #[.val (.int p1), .val (.int p2), .val (.int p3), .unset, .unset, .unset, .unset, .unset, .unset, .unset, .unset, .unset, .unset] [])) t → Steps p.tables e below (s₁.setTop (entryFrame m #[(.int p1), (.int p2), (.int p3)] maxLocals)) t := fun t k => castTop (ef_0 m p1 p2 p3) k
  obtain ⟨T4, h4, X4, e4, E4, A4, D4, -, st4⟩ := newO X0 hx hZ hown (ww hw 0 rfl) (ww hw 1 rfl) (ww hw 2 rfl) e0 (g := (mkF m 0 #[.val (.int p1), .val (.int p2), .val (.int p3), .unset, .unset, .unset, .unset, .unset, .unset, .unset, .unset, .unset, .unset] [])) rfl (hb hby at_0) (by decide) (by decide)
  obtain ⟨b4, g4⟩ : ∃ z, z = h0.size := ⟨_, rfl⟩
  rw [← g4] at A4 D4 st4
  have F_values_b4 : Fld Z h4 b4 "com/example/transom/transom/Scope" "values" "Ljava/util/Map;" .null := D4 (Or.inr (ww hw 26 rfl)) (ty := (.object "java/util/Map")) (by decide)
  have F_parent_b4 : Fld Z h4 b4 "com/example/transom/transom/Scope" "parent" "Lcom/example/transom/transom/Scope;" .null := D4 (Or.inr (ww hw 28 rfl)) (ty := (.object "com/example/transom/transom/Scope")) (by decide)
  have F_top_b4 : Fld Z h4 b4 "com/example/transom/transom/Scope" "top" "Lcom/example/transom/transom/Scope;" .null := D4 (Or.inr (ww hw 30 rfl)) (ty := (.object "com/example/transom/transom/Scope")) (by decide)
  have F_model_b4 : Fld Z h4 b4 "com/example/transom/transom/Scope" "model" "Ljava/util/Map;" .null := D4 (Or.inr (ww hw 32 rfl)) (ty := (.object "java/util/Map")) (by decide)
  have F_template_b4 : Fld Z h4 b4 "com/example/transom/transom/Scope" "template" "Lcom/example/transom/transom/Template;" .null := D4 (Or.inr (ww hw 34 rfl)) (ty := (.object "com/example/transom/transom/Template")) (by decide)
  have F_renderer_b4 : Fld Z h4 b4 "com/example/transom/transom/Scope" "renderer" "Lcom/example/transom/transom/Scope;" .null := D4 (Or.inr (ww hw 36 rfl)) (ty := (.object "com/example/transom/transom/Scope")) (by decide)
  have F_calls_b4 : Fld Z h4 b4 "com/example/transom/transom/Scope" "calls" "I" (.int (0 : Int32)) := D4 (Or.inr (ww hw 38 rfl)) (ty := .int) (by decide)
  have F_jump_b4 : Fld Z h4 b4 "com/example/transom/transom/Scope" "jump" "Lcom/example/transom/transom/Scope$Jump;" .null := D4 (Or.inl (ww hw 51 rfl)) (ty := (.object "com/example/transom/transom/Scope$Jump")) (by decide)
  have E_b4 := A4
  have g_b4 : n0 ≤ b4 := Nat.le_trans Z0 (Nat.le_of_eq g4.symm)
  have sz_b4 : h0.size ≤ b4 := (Nat.le_trans (Keep.refl h0 []).1 (Nat.le_of_eq g4.symm))
  have K4 : Keep h0 h4 [] := (Keep.refl h0 []).ext E4
  obtain ⟨_, _, ⟨T5, L5, k5, n5⟩, -, X5, ⟨Lc5, hQ5, l5, y5, z5⟩, st5⟩ := X4.specialBack hx (y := (⟨"com/example/transom/transom/Scope", "<init>", "(Ljava/util/Map;Lcom/example/transom/transom/Template;)V"⟩ : MethodName)) rfl hown (mvT hZ (ww hw 3 rfl)) (mvT hZ (ww hw 4 rfl)) (mvT hZ (ww hw 5 rfl)) (by decide) (backOf (W := 1) (rm1 l Z a0 hw [] b4 _ _ _ _ _ _ _  h4 n0 (Nat.le_trans Z0 E4.1) F_jump_b4 E_b4 F_values_b4 g_b4 F_parent_b4 F_top_b4 F_model_b4 F_template_b4 F_renderer_b4 F_calls_b4) hZ (ww hw 5 rfl) (ww hw 2 rfl) (by decide) (by decide)) (g := (mkF m 6 #[.val (.int p1), .val (.int p2), .val (.int p3), .unset, .unset, .unset, .unset, .unset, .unset, .unset, .unset, .unset, .unset] [.null, .null, (.ref b4), (.ref b4)])) rfl (by rw [hml]; rfl) (Steps.refl _) (a := b4) (argsL := [.null, .null]) (rest := [(.ref b4)]) (lenOf pd_0_0 rfl) rfl (by show 2 * 0 + _ ≤ _; exact Nat.le_of_eq rfl) (hb hby at_6) (fun _ _ => ⟨rfl, e4, (by decide : 1 + 1 ≤ _), (by decide : 8 + 8 ≤ _)⟩)
  dsimp only [Pt.U, Pt.locs, Pt.cells, Pt.slots] at X5 l5 y5 z5 st5 hQ5
  subst l5 y5 z5
  obtain ⟨rfl, N5q, Kc5, Ec5, Ftop5, Fmodel5, Ftemplate5, Frenderer5, Fcalls5, Fjump5⟩ := hQ5
  have N5 := Fr.app N0 N5q
  have S_BREAK_5 := own_stak (S_BREAK.ext E4) Kc5 (allS (own_nst E_b4) all0)
  have S_CONTINUE_5 := own_stak (S_CONTINUE.ext E4) Kc5 (allS (own_nst E_b4) all0)
  have K5 : Keep h0 T5.heap [] := K4.trans Kc5 (allS (Or.inr sz_b4) all0)
  obtain ⟨T6, h6, X6, e6, E6, A6, D6, -, st6⟩ := newO X5 hx hZ hown (ww hw 0 rfl) (ww hw 1 rfl) (ww hw 2 rfl) rfl (g := (mkF m 10 #[.val (.int p1), .val (.int p2), .val (.int p3), .val (.ref b4), .unset, .unset, .unset, .unset, .unset, .unset, .unset, .unset, .unset] [])) rfl (hb hby at_10) (by decide) (by decide)
  obtain ⟨b6, g6⟩ : ∃ z, z = T5.heap.size := ⟨_, rfl⟩
  rw [← g6] at A6 D6 st6
  have F_values_b6 : Fld Z h6 b6 "com/example/transom/transom/Scope" "values" "Ljava/util/Map;" .null := D6 (Or.inr (ww hw 26 rfl)) (ty := (.object "java/util/Map")) (by decide)
  have F_parent_b6 : Fld Z h6 b6 "com/example/transom/transom/Scope" "parent" "Lcom/example/transom/transom/Scope;" .null := D6 (Or.inr (ww hw 28 rfl)) (ty := (.object "com/example/transom/transom/Scope")) (by decide)
  have F_top_b6 : Fld Z h6 b6 "com/example/transom/transom/Scope" "top" "Lcom/example/transom/transom/Scope;" .null := D6 (Or.inr (ww hw 30 rfl)) (ty := (.object "com/example/transom/transom/Scope")) (by decide)
  have F_model_b6 : Fld Z h6 b6 "com/example/transom/transom/Scope" "model" "Ljava/util/Map;" .null := D6 (Or.inr (ww hw 32 rfl)) (ty := (.object "java/util/Map")) (by decide)
  have F_template_b6 : Fld Z h6 b6 "com/example/transom/transom/Scope" "template" "Lcom/example/transom/transom/Template;" .null := D6 (Or.inr (ww hw 34 rfl)) (ty := (.object "com/example/transom/transom/Template")) (by decide)
  have F_renderer_b6 : Fld Z h6 b6 "com/example/transom/transom/Scope" "renderer" "Lcom/example/transom/transom/Scope;" .null := D6 (Or.inr (ww hw 36 rfl)) (ty := (.object "com/example/transom/transom/Scope")) (by decide)
  have F_calls_b6 : Fld Z h6 b6 "com/example/transom/transom/Scope" "calls" "I" (.int (0 : Int32)) := D6 (Or.inr (ww hw 38 rfl)) (ty := .int) (by decide)
  have F_jump_b6 : Fld Z h6 b6 "com/example/transom/transom/Scope" "jump" "Lcom/example/transom/transom/Scope$Jump;" .null := D6 (Or.inl (ww hw 51 rfl)) (ty := (.object "com/example/transom/transom/Scope$Jump")) (by decide)
  have E_b6 := A6
  have g_b6 : n0 ≤ b6 := Nat.le_trans (Nat.le_trans (Nat.le_trans Z0 E4.1) Kc5.1) (Nat.le_of_eq g6.symm)
  have sz_b6 : h0.size ≤ b6 := (Nat.le_trans K5.1 (Nat.le_of_eq g6.symm))
  have K6 : Keep h0 h6 [] := K5.ext E6
  obtain ⟨_, _, ⟨T7, L7, k7, n7⟩, -, X7, ⟨Lc7, hQ7, l7, y7, z7⟩, st7⟩ := X6.specialBack hx (y := (⟨"com/example/transom/transom/Scope", "<init>", "(Lcom/example/transom/transom/Scope;)V"⟩ : MethodName)) rfl hown (mvT hZ (ww hw 39 rfl)) (mvT hZ (ww hw 40 rfl)) (mvT hZ (ww hw 41 rfl)) (by decide) (backOf (W := 1) (rm5 l Z a0 hw [] b6 b4 b4 (0 : Int32) h6 n0 (Nat.le_trans (Nat.le_trans (Nat.le_trans Z0 E4.1) Kc5.1) E6.1) (Nat.ne_of_lt (Nat.lt_of_lt_of_le (E_b4.keep Kc5).lt (Nat.le_of_eq g6.symm))) E_b6 F_values_b6 F_parent_b6 F_top_b6 F_model_b6 F_template_b6 F_renderer_b6 F_calls_b6 g_b6 (Ftop5.ext E6) (Fmodel5.ext E6) (Ftemplate5.ext E6) (Frenderer5.ext E6) (Fcalls5.ext E6)) hZ (ww hw 41 rfl) (ww hw 2 rfl) (by decide) (by decide)) (g := (mkF m 15 #[.val (.int p1), .val (.int p2), .val (.int p3), .val (.ref b4), .unset, .unset, .unset, .unset, .unset, .unset, .unset, .unset, .unset] [(.ref b4), (.ref b6), (.ref b6)])) rfl (by rw [hml]; rfl) (Steps.refl _) (a := b6) (argsL := [(.ref b4)]) (rest := [(.ref b6)]) (lenOf pd_0_2 rfl) rfl (by show 2 * 0 + _ ≤ _; exact Nat.le_of_eq rfl) (hb hby at_15) (fun _ _ => ⟨rfl, e6, (by decide : 3 + 1 ≤ _), (by decide : 24 + 8 ≤ _)⟩)
  dsimp only [Pt.U, Pt.locs, Pt.cells, Pt.slots] at X7 l7 y7 z7 st7 hQ7
  subst l7 y7 z7
  obtain ⟨rfl, N7q, Kc7, Ec7, Ft7⟩ := hQ7
  have N7 := Fr.app N5 N7q
  have S_BREAK_7 := own_stak (S_BREAK_5.ext E6) Kc7 (allS (own_nst E_b6) all0)
  have S_CONTINUE_7 := own_stak (S_CONTINUE_5.ext E6) Kc7 (allS (own_nst E_b6) all0)
  have K7 : Keep h0 T7.heap [] := K6.trans Kc7 (allS (Or.inr sz_b6) all0)
  obtain ⟨T8, X8, e8, st8⟩ := getS2 X7 hx hZ hown (host := "") (Or.inl (ww hw 57 rfl)) Via.refl rfl S_BREAK_7 (g := (mkF m 64 #[.val (.int p1), .val (.int p2), .val (.int p3), .val (.ref b4), .val (.ref b6), .val (.ref b4), .val (.ref b4), .val (.int (p1 &&& (3 : Int32))), .val .null, .unset, .unset, .unset, .unset] [(.ref b4)])) rfl (hb hby at_64)
  obtain ⟨cq9, kq9, q9a, q9b, q9c⟩ := isOf hZ e8 (((E_b4.keep Kc5).ext E6).keep Kc7)
  obtain ⟨_, _, ⟨T9, L9, k9, n9⟩, -, X9, ⟨Lc9, hQ9, l9, y9, z9⟩, st9⟩ := X8.virtualBack hx (y := (⟨"com/example/transom/transom/Scope", "jump", "(Lcom/example/transom/transom/Scope$Jump;)V"⟩ : MethodName)) (z := (⟨"com/example/transom/transom/Scope", "jump", "(Lcom/example/transom/transom/Scope$Jump;)V"⟩ : MethodName)) hown (mvT hZ (ww hw 60 rfl)) (mvT hZ (ww hw 61 rfl)) (notFace_of_selects (args := #[]) (mvT hZ (ww hw 63 rfl))) (mvT hZ (ww hw 63 rfl)) (mvT hZ (ww hw 62 rfl)) (by decide) (backOf (W := 0) (rmS l Z a0 hw [] b4 uB b4 _ T7.heap n0 (Nat.le_trans (Nat.le_trans (Nat.le_trans (Nat.le_trans Z0 E4.1) Kc5.1) E6.1) Kc7.1) ((Ftop5.ext E6).keep Kc7 (ninS (Nat.ne_of_lt (Nat.lt_of_lt_of_le (E_b4.keep Kc5).lt (Nat.le_of_eq g6.symm))) nin0)) ((Ftop5.ext E6).keep Kc7 (ninS (Nat.ne_of_lt (Nat.lt_of_lt_of_le (E_b4.keep Kc5).lt (Nat.le_of_eq g6.symm))) nin0)) (((E_b4.keep Kc5).ext E6).keep Kc7) ((Fjump5.ext E6).keep Kc7 (ninS (Nat.ne_of_lt (Nat.lt_of_lt_of_le (E_b4.keep Kc5).lt (Nat.le_of_eq g6.symm))) nin0)) g_b4) hZ (ww hw 64 rfl) (ww hw 2 rfl) (by decide) (by decide)) q9a q9c (g := (mkF m 67 #[.val (.int p1), .val (.int p2), .val (.int p3), .val (.ref b4), .val (.ref b6), .val (.ref b4), .val (.ref b4), .val (.int (p1 &&& (3 : Int32))), .val .null, .unset, .unset, .unset, .unset] [(.ref uB), (.ref b4)])) rfl (by rw [hml]; rfl) (Steps.refl _) (argsL := [(.ref uB)]) (rest := []) (lenOf pd_0_6 rfl) rfl (by show 2 * 0 + _ ≤ _; exact Nat.le_of_eq rfl) (hb hby at_67) (fun _ _ => ⟨rfl, e8, (by decide : 4 + 0 ≤ _), (by decide : 32 + 0 ≤ _)⟩)
  dsimp only [Pt.U, Pt.locs, Pt.cells, Pt.slots] at X9 l9 y9 z9 st9 hQ9
  subst l9 y9 z9
  obtain ⟨rfl, N9q, Kc9, Fj9, Ft9⟩ := hQ9
  have N9 := Fr.app N7 N9q
  have S_BREAK_9 := own_stak S_BREAK_7 Kc9 (allS (own_nst (((E_b4.keep Kc5).ext E6).keep Kc7)) all0)
  have S_CONTINUE_9 := own_stak S_CONTINUE_7 Kc9 (allS (own_nst (((E_b4.keep Kc5).ext E6).keep Kc7)) all0)
  have K9 : Keep h0 T9.heap [] := K7.trans Kc9 (allS (Or.inr sz_b4) all0)
  obtain ⟨T10, X10, e10, st10⟩ := getS2 X9 hx hZ hown (host := "") (Or.inl (ww hw 57 rfl)) Via.refl rfl S_BREAK_9 (g := (mkF m 70 #[.val (.int p1), .val (.int p2), .val (.int p3), .val (.ref b4), .val (.ref b6), .val (.ref b4), .val (.ref b4), .val (.int (p1 &&& (3 : Int32))), .val .null, .unset, .unset, .unset, .unset] [])) rfl (hb hby at_70)
  obtain ⟨cq11, kq11, q11a, q11b, q11c⟩ := isOf hZ e10 ((((E_b4.keep Kc5).ext E6).keep Kc7).keep Kc9)
  obtain ⟨_, _, ⟨T11, L11, k11, n11⟩, -, X11, ⟨Lc11, hQ11, l11, y11, z11⟩, st11⟩ := X10.virtualBack hx (y := (⟨"com/example/transom/transom/Scope", "jumping", "()Z"⟩ : MethodName)) (z := (⟨"com/example/transom/transom/Scope", "jumping", "()Z"⟩ : MethodName)) hown (mvT hZ (ww hw 45 rfl)) (mvT hZ (ww hw 46 rfl)) (notFace_of_selects (args := #[]) (mvT hZ (ww hw 48 rfl))) (mvT hZ (ww hw 48 rfl)) (mvT hZ (ww hw 47 rfl)) (by decide) (backOf (W := 0) (rmJr l Z a0 hw [] b4 b4 uB T9.heap n0 (Nat.le_trans (Nat.le_trans (Nat.le_trans (Nat.le_trans (Nat.le_trans Z0 E4.1) Kc5.1) E6.1) Kc7.1) Kc9.1) Ft9 Fj9) hZ (ww hw 49 rfl) (ww hw 2 rfl) (by decide) (by decide)) q11a q11c (g := (mkF m 129 #[.val (.int p1), .val (.int p2), .val (.int p3), .val (.ref b4), .val (.ref b6), .val (.ref b4), .val (.ref b4), .val (.int (p1 &&& (3 : Int32))), .val (.ref uB), .unset, .unset, .unset, .unset] [(.ref b4)])) rfl (by rw [hml]; rfl) (Steps.refl _) (argsL := []) (rest := []) (lenOf pd_0_4 rfl) rfl (by show 2 * 0 + _ ≤ _; exact Nat.le_of_eq rfl) (hb hby at_129) (fun _ _ => ⟨rfl, e10, (by decide : 4 + 0 ≤ _), (by decide : 32 + 0 ≤ _)⟩)
  dsimp only [Pt.U, Pt.locs, Pt.cells, Pt.slots] at X11 l11 y11 z11 st11 hQ11
  subst l11 y11 z11
  obtain ⟨rfl, N11q, eh11⟩ := hQ11
  have N11 := Fr.app N9 N11q
  obtain ⟨cq12, kq12, q12a, q12b, q12c⟩ := isOf hZ eh11 ((((E_b4.keep Kc5).ext E6).keep Kc7).keep Kc9)
  obtain ⟨_, _, ⟨T12, L12, k12, n12⟩, -, X12, ⟨Lc12, hQ12, l12, y12, z12⟩, st12⟩ := X11.virtualBack hx (y := (⟨"com/example/transom/transom/Scope", "land", "()Lcom/example/transom/transom/Scope$Jump;"⟩ : MethodName)) (z := (⟨"com/example/transom/transom/Scope", "land", "()Lcom/example/transom/transom/Scope$Jump;"⟩ : MethodName)) hown (mvT hZ (ww hw 52 rfl)) (mvT hZ (ww hw 53 rfl)) (notFace_of_selects (args := #[]) (mvT hZ (ww hw 55 rfl))) (mvT hZ (ww hw 55 rfl)) (mvT hZ (ww hw 54 rfl)) (by decide) (backOf (W := 0) (rmLr l Z a0 hw [] b4 b4 uB T9.heap n0 (Nat.le_trans (Nat.le_trans (Nat.le_trans (Nat.le_trans (Nat.le_trans Z0 E4.1) Kc5.1) E6.1) Kc7.1) Kc9.1) Ft9 Ft9 Fj9 ((((E_b4.keep Kc5).ext E6).keep Kc7).keep Kc9) g_b4) hZ (ww hw 56 rfl) (ww hw 2 rfl) (by decide) (by decide)) q12a q12c (g := (mkF m 154 #[.val (.int p1), .val (.int p2), .val (.int p3), .val (.ref b4), .val (.ref b6), .val (.ref b4), .val (.ref b4), .val (.int (p1 &&& (3 : Int32))), .val (.ref uB), .val (.int (1 : Int32)), .unset, .unset, .unset] [(.ref b4)])) rfl (by rw [hml]; rfl) (Steps.refl _) (argsL := []) (rest := []) (lenOf pd_0_5 rfl) rfl (by show 2 * 0 + _ ≤ _; exact Nat.le_of_eq rfl) (hb hby at_154) (fun _ _ => ⟨rfl, eh11, (by decide : 4 + 0 ≤ _), (by decide : 32 + 0 ≤ _)⟩)
  dsimp only [Pt.U, Pt.locs, Pt.cells, Pt.slots] at X12 l12 y12 z12 st12 hQ12
  subst l12 y12 z12
  obtain ⟨rfl, N12q, Kc12, Fj12, Ft12⟩ := hQ12
  have N12 := Fr.app N11 N12q
  have S_BREAK_12 := own_stak S_BREAK_9 Kc12 (allS (own_nst ((((E_b4.keep Kc5).ext E6).keep Kc7).keep Kc9)) all0)
  have S_CONTINUE_12 := own_stak S_CONTINUE_9 Kc12 (allS (own_nst ((((E_b4.keep Kc5).ext E6).keep Kc7).keep Kc9)) all0)
  have K12 : Keep h0 T12.heap [] := K9.trans Kc12 (allS (Or.inr sz_b4) all0)
  obtain ⟨cq13, kq13, q13a, q13b, q13c⟩ := isOf hZ rfl (((((E_b4.keep Kc5).ext E6).keep Kc7).keep Kc9).keep Kc12)
  obtain ⟨_, _, ⟨T13, L13, k13, n13⟩, -, X13, ⟨Lc13, hQ13, l13, y13, z13⟩, st13⟩ := X12.virtualBack hx (y := (⟨"com/example/transom/transom/Scope", "jumping", "()Z"⟩ : MethodName)) (z := (⟨"com/example/transom/transom/Scope", "jumping", "()Z"⟩ : MethodName)) hown (mvT hZ (ww hw 45 rfl)) (mvT hZ (ww hw 46 rfl)) (notFace_of_selects (args := #[]) (mvT hZ (ww hw 48 rfl))) (mvT hZ (ww hw 48 rfl)) (mvT hZ (ww hw 47 rfl)) (by decide) (backOf (W := 0) (rmJn l Z a0 hw [] b4 b4 T12.heap n0 (Nat.le_trans (Nat.le_trans (Nat.le_trans (Nat.le_trans (Nat.le_trans (Nat.le_trans Z0 E4.1) Kc5.1) E6.1) Kc7.1) Kc9.1) Kc12.1) Ft12 Fj12) hZ (ww hw 49 rfl) (ww hw 2 rfl) (by decide) (by decide)) q13a q13c (g := (mkF m 160 #[.val (.int p1), .val (.int p2), .val (.int p3), .val (.ref b4), .val (.ref b6), .val (.ref b4), .val (.ref b4), .val (.int (p1 &&& (3 : Int32))), .val (.ref uB), .val (.int (1 : Int32)), .val (.ref uB), .unset, .unset] [(.ref b4)])) rfl (by rw [hml]; rfl) (Steps.refl _) (argsL := []) (rest := []) (lenOf pd_0_4 rfl) rfl (by show 2 * 0 + _ ≤ _; exact Nat.le_of_eq rfl) (hb hby at_160) (fun _ _ => ⟨rfl, rfl, (by decide : 4 + 0 ≤ _), (by decide : 32 + 0 ≤ _)⟩)
  dsimp only [Pt.U, Pt.locs, Pt.cells, Pt.slots] at X13 l13 y13 z13 st13 hQ13
  subst l13 y13 z13
  obtain ⟨rfl, N13q, eh13⟩ := hQ13
  have N13 := Fr.app N12 N13q
  obtain ⟨cq14, kq14, q14a, q14b, q14c⟩ := isOf hZ eh13 (((E_b6.keep Kc7).keep Kc9).keep Kc12)
  obtain ⟨_, _, ⟨T14, L14, k14, n14⟩, -, X14, ⟨Lc14, hQ14, l14, y14, z14⟩, st14⟩ := X13.virtualBack hx (y := (⟨"com/example/transom/transom/Scope", "jumping", "()Z"⟩ : MethodName)) (z := (⟨"com/example/transom/transom/Scope", "jumping", "()Z"⟩ : MethodName)) hown (mvT hZ (ww hw 45 rfl)) (mvT hZ (ww hw 46 rfl)) (notFace_of_selects (args := #[]) (mvT hZ (ww hw 48 rfl))) (mvT hZ (ww hw 48 rfl)) (mvT hZ (ww hw 47 rfl)) (by decide) (backOf (W := 0) (rmJn l Z a0 hw [] b6 b4 T12.heap n0 (Nat.le_trans (Nat.le_trans (Nat.le_trans (Nat.le_trans (Nat.le_trans (Nat.le_trans Z0 E4.1) Kc5.1) E6.1) Kc7.1) Kc9.1) Kc12.1) ((Ft7.keep Kc9 (ninS (Ne.symm (Nat.ne_of_lt (Nat.lt_of_lt_of_le (E_b4.keep Kc5).lt (Nat.le_of_eq g6.symm)))) nin0)).keep Kc12 (ninS (Ne.symm (Nat.ne_of_lt (Nat.lt_of_lt_of_le (E_b4.keep Kc5).lt (Nat.le_of_eq g6.symm)))) nin0)) Fj12) hZ (ww hw 49 rfl) (ww hw 2 rfl) (by decide) (by decide)) q14a q14c (g := (mkF m 168 #[.val (.int p1), .val (.int p2), .val (.int p3), .val (.ref b4), .val (.ref b6), .val (.ref b4), .val (.ref b4), .val (.int (p1 &&& (3 : Int32))), .val (.ref uB), .val (.int (1 : Int32)), .val (.ref uB), .unset, .unset] [(.ref b6)])) rfl (by rw [hml]; rfl) (Steps.refl _) (argsL := []) (rest := []) (lenOf pd_0_4 rfl) rfl (by show 2 * 0 + _ ≤ _; exact Nat.le_of_eq rfl) (hb hby at_168) (fun _ _ => ⟨rfl, eh13, (by decide : 4 + 0 ≤ _), (by decide : 32 + 0 ≤ _)⟩)
  dsimp only [Pt.U, Pt.locs, Pt.cells, Pt.slots] at X14 l14 y14 z14 st14 hQ14
  subst l14 y14 z14
  obtain ⟨rfl, N14q, eh14⟩ := hQ14
  have N14 := Fr.app N13 N14q
  obtain ⟨cq15, kq15, q15a, q15b, q15c⟩ := isOf hZ eh14 (((((E_b4.keep Kc5).ext E6).keep Kc7).keep Kc9).keep Kc12)
  obtain ⟨_, _, ⟨T15, L15, k15, n15⟩, -, X15, ⟨Lc15, hQ15, l15, y15, z15⟩, st15⟩ := X14.virtualBack hx (y := (⟨"com/example/transom/transom/Scope", "land", "()Lcom/example/transom/transom/Scope$Jump;"⟩ : MethodName)) (z := (⟨"com/example/transom/transom/Scope", "land", "()Lcom/example/transom/transom/Scope$Jump;"⟩ : MethodName)) hown (mvT hZ (ww hw 52 rfl)) (mvT hZ (ww hw 53 rfl)) (notFace_of_selects (args := #[]) (mvT hZ (ww hw 55 rfl))) (mvT hZ (ww hw 55 rfl)) (mvT hZ (ww hw 54 rfl)) (by decide) (backOf (W := 0) (rmLn l Z a0 hw [] b4 b4 T12.heap n0 (Nat.le_trans (Nat.le_trans (Nat.le_trans (Nat.le_trans (Nat.le_trans (Nat.le_trans Z0 E4.1) Kc5.1) E6.1) Kc7.1) Kc9.1) Kc12.1) Ft12 Ft12 Fj12 (((((E_b4.keep Kc5).ext E6).keep Kc7).keep Kc9).keep Kc12) g_b4) hZ (ww hw 56 rfl) (ww hw 2 rfl) (by decide) (by decide)) q15a q15c (g := (mkF m 183 #[.val (.int p1), .val (.int p2), .val (.int p3), .val (.ref b4), .val (.ref b6), .val (.ref b4), .val (.ref b4), .val (.int (p1 &&& (3 : Int32))), .val (.ref uB), .val (.int (1 : Int32)), .val (.ref uB), .val (.int (1 : Int32)), .unset] [(.ref b4)])) rfl (by rw [hml]; rfl) (Steps.refl _) (argsL := []) (rest := []) (lenOf pd_0_5 rfl) rfl (by show 2 * 0 + _ ≤ _; exact Nat.le_of_eq rfl) (hb hby at_183) (fun _ _ => ⟨rfl, eh14, (by decide : 4 + 0 ≤ _), (by decide : 32 + 0 ≤ _)⟩)
  dsimp only [Pt.U, Pt.locs, Pt.cells, Pt.slots] at X15 l15 y15 z15 st15 hQ15
  subst l15 y15 z15
  obtain ⟨rfl, N15q, Kc15, Fj15, Ft15⟩ := hQ15
  have N15 := Fr.app N14 N15q
  have S_BREAK_15 := own_stak S_BREAK_12 Kc15 (allS (own_nst (((((E_b4.keep Kc5).ext E6).keep Kc7).keep Kc9).keep Kc12)) all0)
  have S_CONTINUE_15 := own_stak S_CONTINUE_12 Kc15 (allS (own_nst (((((E_b4.keep Kc5).ext E6).keep Kc7).keep Kc9).keep Kc12)) all0)
  have K15 : Keep h0 T15.heap [] := K12.trans Kc15 (allS (Or.inr sz_b4) all0)
  obtain ⟨fs, hr, hrun, hended, hW, hsame⟩ := X15.leave (v := some (.int (1 : Int32))) (fun h => by rw [Bd.returns] at h; cases h)
  refine ⟨_, _, pre0 _ ?_, hrun, hended, _, _, rfl, ?_, ⟨_, rfl⟩, hW, hsame.mono (by decide) (by decide)⟩
  · show Steps _ _ _ (s₁.setTop (mkF m 0 #[.val (.int p1), .val (.int p2), .val (.int p3), .unset, .unset, .unset, .unset, .unset, .unset, .unset, .unset, .unset, .unset] [])) _
    refine st4 _ ?_
    show Steps _ _ _ (T4.setTop (mkF m 3 #[.val (.int p1), .val (.int p2), .val (.int p3), .unset, .unset, .unset, .unset, .unset, .unset, .unset, .unset, .unset, .unset] [(.ref b4)])) _
    refine XS.dup X4.here hx rfl (hb hby at_3) rfl rfl ?_
    show Steps _ _ _ (T4.setTop (mkF m 4 #[.val (.int p1), .val (.int p2), .val (.int p3), .unset, .unset, .unset, .unset, .unset, .unset, .unset, .unset, .unset, .unset] [(.ref b4), (.ref b4)])) _
    refine XS.aconstNull X4.here hx rfl (hb hby at_4) ?_
    show Steps _ _ _ (T4.setTop (mkF m 5 #[.val (.int p1), .val (.int p2), .val (.int p3), .unset, .unset, .unset, .unset, .unset, .unset, .unset, .unset, .unset, .unset] [.null, (.ref b4), (.ref b4)])) _
    refine XS.aconstNull X4.here hx rfl (hb hby at_5) ?_
    show Steps _ _ _ (T4.setTop (mkF m 6 #[.val (.int p1), .val (.int p2), .val (.int p3), .unset, .unset, .unset, .unset, .unset, .unset, .unset, .unset, .unset, .unset] [.null, .null, (.ref b4), (.ref b4)])) _
    refine st5.trans ?_
    show Steps _ _ _ (T5.setTop (mkF m 9 #[.val (.int p1), .val (.int p2), .val (.int p3), .unset, .unset, .unset, .unset, .unset, .unset, .unset, .unset, .unset, .unset] [(.ref b4)])) _
    refine XS.astoreN X5.here hx rfl (hb hby at_9) rfl rfl (l' := #[.val (.int p1), .val (.int p2), .val (.int p3), .val (.ref b4), .unset, .unset, .unset, .unset, .unset, .unset, .unset, .unset, .unset]) rfl ?_
    show Steps _ _ _ (T5.setTop (mkF m 10 #[.val (.int p1), .val (.int p2), .val (.int p3), .val (.ref b4), .unset, .unset, .unset, .unset, .unset, .unset, .unset, .unset, .unset] [])) _
    refine st6 _ ?_
    show Steps _ _ _ (T6.setTop (mkF m 13 #[.val (.int p1), .val (.int p2), .val (.int p3), .val (.ref b4), .unset, .unset, .unset, .unset, .unset, .unset, .unset, .unset, .unset] [(.ref b6)])) _
    refine XS.dup X6.here hx rfl (hb hby at_13) rfl rfl ?_
    show Steps _ _ _ (T6.setTop (mkF m 14 #[.val (.int p1), .val (.int p2), .val (.int p3), .val (.ref b4), .unset, .unset, .unset, .unset, .unset, .unset, .unset, .unset, .unset] [(.ref b6), (.ref b6)])) _
    refine XS.aloadN X6.here hx rfl (hb hby at_14) rfl rfl ?_
    show Steps _ _ _ (T6.setTop (mkF m 15 #[.val (.int p1), .val (.int p2), .val (.int p3), .val (.ref b4), .unset, .unset, .unset, .unset, .unset, .unset, .unset, .unset, .unset] [(.ref b4), (.ref b6), (.ref b6)])) _
    refine st7.trans ?_
    show Steps _ _ _ (T7.setTop (mkF m 18 #[.val (.int p1), .val (.int p2), .val (.int p3), .val (.ref b4), .unset, .unset, .unset, .unset, .unset, .unset, .unset, .unset, .unset] [(.ref b6)])) _
    refine XS.astore X7.here hx rfl (hb hby at_18) rfl rfl (l' := #[.val (.int p1), .val (.int p2), .val (.int p3), .val (.ref b4), .val (.ref b6), .unset, .unset, .unset, .unset, .unset, .unset, .unset, .unset]) rfl ?_
    show Steps _ _ _ (T7.setTop (mkF m 20 #[.val (.int p1), .val (.int p2), .val (.int p3), .val (.ref b4), .val (.ref b6), .unset, .unset, .unset, .unset, .unset, .unset, .unset, .unset] [])) _
    refine XS.iloadN X7.here hx rfl (hb hby at_20) rfl ?_
    show Steps _ _ _ (T7.setTop (mkF m 21 #[.val (.int p1), .val (.int p2), .val (.int p3), .val (.ref b4), .val (.ref b6), .unset, .unset, .unset, .unset, .unset, .unset, .unset, .unset] [(.int p2)])) _
    refine XS.iconst X7.here hx rfl (hb hby at_21) ?_
    show Steps _ _ _ (T7.setTop (mkF m 22 #[.val (.int p1), .val (.int p2), .val (.int p3), .val (.ref b4), .val (.ref b6), .unset, .unset, .unset, .unset, .unset, .unset, .unset, .unset] [(.int (1 : Int32)), (.int p2)])) _
    refine XS.iand X7.here hx rfl (hb hby at_22) rfl ?_
    show Steps _ _ _ (T7.setTop (mkF m 23 #[.val (.int p1), .val (.int p2), .val (.int p3), .val (.ref b4), .val (.ref b6), .unset, .unset, .unset, .unset, .unset, .unset, .unset, .unset] [(.int (p2 &&& (1 : Int32)))])) _
    refine XS.ifYes X7.here hx rfl (pc0 := 23) (pc' := 31) rfl (hb hby at_23) rfl ((if0 _ _).trans (teq hc23).1) (by decide) (by decide) ?_
    show Steps _ _ _ (T7.setTop (mkF m 31 #[.val (.int p1), .val (.int p2), .val (.int p3), .val (.ref b4), .val (.ref b6), .unset, .unset, .unset, .unset, .unset, .unset, .unset, .unset] [])) _
    refine XS.aloadN X7.here hx rfl (hb hby at_31) rfl rfl ?_
    show Steps _ _ _ (T7.setTop (mkF m 32 #[.val (.int p1), .val (.int p2), .val (.int p3), .val (.ref b4), .val (.ref b6), .unset, .unset, .unset, .unset, .unset, .unset, .unset, .unset] [(.ref b4)])) _
    refine XS.astore X7.here hx rfl (hb hby at_32) rfl rfl (l' := #[.val (.int p1), .val (.int p2), .val (.int p3), .val (.ref b4), .val (.ref b6), .val (.ref b4), .unset, .unset, .unset, .unset, .unset, .unset, .unset]) rfl ?_
    show Steps _ _ _ (T7.setTop (mkF m 34 #[.val (.int p1), .val (.int p2), .val (.int p3), .val (.ref b4), .val (.ref b6), .val (.ref b4), .unset, .unset, .unset, .unset, .unset, .unset, .unset] [])) _
    refine XS.iloadN X7.here hx rfl (hb hby at_34) rfl ?_
    show Steps _ _ _ (T7.setTop (mkF m 35 #[.val (.int p1), .val (.int p2), .val (.int p3), .val (.ref b4), .val (.ref b6), .val (.ref b4), .unset, .unset, .unset, .unset, .unset, .unset, .unset] [(.int p3)])) _
    refine XS.iconst X7.here hx rfl (hb hby at_35) ?_
    show Steps _ _ _ (T7.setTop (mkF m 36 #[.val (.int p1), .val (.int p2), .val (.int p3), .val (.ref b4), .val (.ref b6), .val (.ref b4), .unset, .unset, .unset, .unset, .unset, .unset, .unset] [(.int (1 : Int32)), (.int p3)])) _
    refine XS.iand X7.here hx rfl (hb hby at_36) rfl ?_
    show Steps _ _ _ (T7.setTop (mkF m 37 #[.val (.int p1), .val (.int p2), .val (.int p3), .val (.ref b4), .val (.ref b6), .val (.ref b4), .unset, .unset, .unset, .unset, .unset, .unset, .unset] [(.int (p3 &&& (1 : Int32)))])) _
    refine XS.ifYes X7.here hx rfl (pc0 := 37) (pc' := 45) rfl (hb hby at_37) rfl ((if0 _ _).trans (teq hc37).1) (by decide) (by decide) ?_
    show Steps _ _ _ (T7.setTop (mkF m 45 #[.val (.int p1), .val (.int p2), .val (.int p3), .val (.ref b4), .val (.ref b6), .val (.ref b4), .unset, .unset, .unset, .unset, .unset, .unset, .unset] [])) _
    refine XS.aloadN X7.here hx rfl (hb hby at_45) rfl rfl ?_
    show Steps _ _ _ (T7.setTop (mkF m 46 #[.val (.int p1), .val (.int p2), .val (.int p3), .val (.ref b4), .val (.ref b6), .val (.ref b4), .unset, .unset, .unset, .unset, .unset, .unset, .unset] [(.ref b4)])) _
    refine XS.astore X7.here hx rfl (hb hby at_46) rfl rfl (l' := #[.val (.int p1), .val (.int p2), .val (.int p3), .val (.ref b4), .val (.ref b6), .val (.ref b4), .val (.ref b4), .unset, .unset, .unset, .unset, .unset, .unset]) rfl ?_
    show Steps _ _ _ (T7.setTop (mkF m 48 #[.val (.int p1), .val (.int p2), .val (.int p3), .val (.ref b4), .val (.ref b6), .val (.ref b4), .val (.ref b4), .unset, .unset, .unset, .unset, .unset, .unset] [])) _
    refine XS.iloadN X7.here hx rfl (hb hby at_48) rfl ?_
    show Steps _ _ _ (T7.setTop (mkF m 49 #[.val (.int p1), .val (.int p2), .val (.int p3), .val (.ref b4), .val (.ref b6), .val (.ref b4), .val (.ref b4), .unset, .unset, .unset, .unset, .unset, .unset] [(.int p1)])) _
    refine XS.iconst X7.here hx rfl (hb hby at_49) ?_
    show Steps _ _ _ (T7.setTop (mkF m 50 #[.val (.int p1), .val (.int p2), .val (.int p3), .val (.ref b4), .val (.ref b6), .val (.ref b4), .val (.ref b4), .unset, .unset, .unset, .unset, .unset, .unset] [(.int (3 : Int32)), (.int p1)])) _
    refine XS.iand X7.here hx rfl (hb hby at_50) rfl ?_
    show Steps _ _ _ (T7.setTop (mkF m 51 #[.val (.int p1), .val (.int p2), .val (.int p3), .val (.ref b4), .val (.ref b6), .val (.ref b4), .val (.ref b4), .unset, .unset, .unset, .unset, .unset, .unset] [(.int (p1 &&& (3 : Int32)))])) _
    refine XS.istore X7.here hx rfl (hb hby at_51) rfl (l' := #[.val (.int p1), .val (.int p2), .val (.int p3), .val (.ref b4), .val (.ref b6), .val (.ref b4), .val (.ref b4), .val (.int (p1 &&& (3 : Int32))), .unset, .unset, .unset, .unset, .unset]) rfl ?_
    show Steps _ _ _ (T7.setTop (mkF m 53 #[.val (.int p1), .val (.int p2), .val (.int p3), .val (.ref b4), .val (.ref b6), .val (.ref b4), .val (.ref b4), .val (.int (p1 &&& (3 : Int32))), .unset, .unset, .unset, .unset, .unset] [])) _
    refine XS.aconstNull X7.here hx rfl (hb hby at_53) ?_
    show Steps _ _ _ (T7.setTop (mkF m 54 #[.val (.int p1), .val (.int p2), .val (.int p3), .val (.ref b4), .val (.ref b6), .val (.ref b4), .val (.ref b4), .val (.int (p1 &&& (3 : Int32))), .unset, .unset, .unset, .unset, .unset] [.null])) _
    refine XS.astore X7.here hx rfl (hb hby at_54) rfl rfl (l' := #[.val (.int p1), .val (.int p2), .val (.int p3), .val (.ref b4), .val (.ref b6), .val (.ref b4), .val (.ref b4), .val (.int (p1 &&& (3 : Int32))), .val .null, .unset, .unset, .unset, .unset]) rfl ?_
    show Steps _ _ _ (T7.setTop (mkF m 56 #[.val (.int p1), .val (.int p2), .val (.int p3), .val (.ref b4), .val (.ref b6), .val (.ref b4), .val (.ref b4), .val (.int (p1 &&& (3 : Int32))), .val .null, .unset, .unset, .unset, .unset] [])) _
    refine XS.iload X7.here hx rfl (hb hby at_56) rfl ?_
    show Steps _ _ _ (T7.setTop (mkF m 58 #[.val (.int p1), .val (.int p2), .val (.int p3), .val (.ref b4), .val (.ref b6), .val (.ref b4), .val (.ref b4), .val (.int (p1 &&& (3 : Int32))), .val .null, .unset, .unset, .unset, .unset] [(.int (p1 &&& (3 : Int32)))])) _
    refine XS.iconst X7.here hx rfl (hb hby at_58) ?_
    show Steps _ _ _ (T7.setTop (mkF m 59 #[.val (.int p1), .val (.int p2), .val (.int p3), .val (.ref b4), .val (.ref b6), .val (.ref b4), .val (.ref b4), .val (.int (p1 &&& (3 : Int32))), .val .null, .unset, .unset, .unset, .unset] [(.int (1 : Int32)), (.int (p1 &&& (3 : Int32)))])) _
    refine XS.icmpNo X7.here hx rfl (hb hby at_59) rfl (teq hc59).2 ?_
    show Steps _ _ _ (T7.setTop (mkF m 62 #[.val (.int p1), .val (.int p2), .val (.int p3), .val (.ref b4), .val (.ref b6), .val (.ref b4), .val (.ref b4), .val (.int (p1 &&& (3 : Int32))), .val .null, .unset, .unset, .unset, .unset] [])) _
    refine XS.aload X7.here hx rfl (hb hby at_62) rfl rfl ?_
    show Steps _ _ _ (T7.setTop (mkF m 64 #[.val (.int p1), .val (.int p2), .val (.int p3), .val (.ref b4), .val (.ref b6), .val (.ref b4), .val (.ref b4), .val (.int (p1 &&& (3 : Int32))), .val .null, .unset, .unset, .unset, .unset] [(.ref b4)])) _
    refine st8 _ ?_
    show Steps _ _ _ (T8.setTop (mkF m 67 #[.val (.int p1), .val (.int p2), .val (.int p3), .val (.ref b4), .val (.ref b6), .val (.ref b4), .val (.ref b4), .val (.int (p1 &&& (3 : Int32))), .val .null, .unset, .unset, .unset, .unset] [(.ref uB), (.ref b4)])) _
    refine st9.trans ?_
    show Steps _ _ _ (T9.setTop (mkF m 70 #[.val (.int p1), .val (.int p2), .val (.int p3), .val (.ref b4), .val (.ref b6), .val (.ref b4), .val (.ref b4), .val (.int (p1 &&& (3 : Int32))), .val .null, .unset, .unset, .unset, .unset] [])) _
    refine st10 _ ?_
    show Steps _ _ _ (T10.setTop (mkF m 73 #[.val (.int p1), .val (.int p2), .val (.int p3), .val (.ref b4), .val (.ref b6), .val (.ref b4), .val (.ref b4), .val (.int (p1 &&& (3 : Int32))), .val .null, .unset, .unset, .unset, .unset] [(.ref uB)])) _
    refine XS.astore X10.here hx rfl (hb hby at_73) rfl rfl (l' := #[.val (.int p1), .val (.int p2), .val (.int p3), .val (.ref b4), .val (.ref b6), .val (.ref b4), .val (.ref b4), .val (.int (p1 &&& (3 : Int32))), .val (.ref uB), .unset, .unset, .unset, .unset]) rfl ?_
    show Steps _ _ _ (T10.setTop (mkF m 75 #[.val (.int p1), .val (.int p2), .val (.int p3), .val (.ref b4), .val (.ref b6), .val (.ref b4), .val (.ref b4), .val (.int (p1 &&& (3 : Int32))), .val (.ref uB), .unset, .unset, .unset, .unset] [])) _
    refine XS.goto X10.here hx rfl (pc0 := 75) (pc' := 127) rfl (hb hby at_75) (by decide) (by decide) ?_
    show Steps _ _ _ (T10.setTop (mkF m 127 #[.val (.int p1), .val (.int p2), .val (.int p3), .val (.ref b4), .val (.ref b6), .val (.ref b4), .val (.ref b4), .val (.int (p1 &&& (3 : Int32))), .val (.ref uB), .unset, .unset, .unset, .unset] [])) _
    refine XS.aload X10.here hx rfl (hb hby at_127) rfl rfl ?_
    show Steps _ _ _ (T10.setTop (mkF m 129 #[.val (.int p1), .val (.int p2), .val (.int p3), .val (.ref b4), .val (.ref b6), .val (.ref b4), .val (.ref b4), .val (.int (p1 &&& (3 : Int32))), .val (.ref uB), .unset, .unset, .unset, .unset] [(.ref b4)])) _
    refine st11.trans ?_
    show Steps _ _ _ (T11.setTop (mkF m 132 #[.val (.int p1), .val (.int p2), .val (.int p3), .val (.ref b4), .val (.ref b6), .val (.ref b4), .val (.ref b4), .val (.int (p1 &&& (3 : Int32))), .val (.ref uB), .unset, .unset, .unset, .unset] [(.int (1 : Int32))])) _
    refine XS.aload X11.here hx rfl (hb hby at_132) rfl rfl ?_
    show Steps _ _ _ (T11.setTop (mkF m 134 #[.val (.int p1), .val (.int p2), .val (.int p3), .val (.ref b4), .val (.ref b6), .val (.ref b4), .val (.ref b4), .val (.int (p1 &&& (3 : Int32))), .val (.ref uB), .unset, .unset, .unset, .unset] [(.ref uB), (.int (1 : Int32))])) _
    refine XS.ifnullNo X11.here hx rfl (hb hby at_134) rfl ?_
    show Steps _ _ _ (T11.setTop (mkF m 137 #[.val (.int p1), .val (.int p2), .val (.int p3), .val (.ref b4), .val (.ref b6), .val (.ref b4), .val (.ref b4), .val (.int (p1 &&& (3 : Int32))), .val (.ref uB), .unset, .unset, .unset, .unset] [(.int (1 : Int32))])) _
    refine XS.iconst X11.here hx rfl (hb hby at_137) ?_
    show Steps _ _ _ (T11.setTop (mkF m 138 #[.val (.int p1), .val (.int p2), .val (.int p3), .val (.ref b4), .val (.ref b6), .val (.ref b4), .val (.ref b4), .val (.int (p1 &&& (3 : Int32))), .val (.ref uB), .unset, .unset, .unset, .unset] [(.int (1 : Int32)), (.int (1 : Int32))])) _
    refine XS.goto X11.here hx rfl (pc0 := 138) (pc' := 142) rfl (hb hby at_138) (by decide) (by decide) ?_
    show Steps _ _ _ (T11.setTop (mkF m 142 #[.val (.int p1), .val (.int p2), .val (.int p3), .val (.ref b4), .val (.ref b6), .val (.ref b4), .val (.ref b4), .val (.int (p1 &&& (3 : Int32))), .val (.ref uB), .unset, .unset, .unset, .unset] [(.int (1 : Int32)), (.int (1 : Int32))])) _
    refine XS.icmpNo X11.here hx rfl (hb hby at_142) rfl (teq (rfl : (1 : Int32) = (1 : Int32))).2 ?_
    show Steps _ _ _ (T11.setTop (mkF m 145 #[.val (.int p1), .val (.int p2), .val (.int p3), .val (.ref b4), .val (.ref b6), .val (.ref b4), .val (.ref b4), .val (.int (p1 &&& (3 : Int32))), .val (.ref uB), .unset, .unset, .unset, .unset] [])) _
    refine XS.iconst X11.here hx rfl (hb hby at_145) ?_
    show Steps _ _ _ (T11.setTop (mkF m 146 #[.val (.int p1), .val (.int p2), .val (.int p3), .val (.ref b4), .val (.ref b6), .val (.ref b4), .val (.ref b4), .val (.int (p1 &&& (3 : Int32))), .val (.ref uB), .unset, .unset, .unset, .unset] [(.int (1 : Int32))])) _
    refine XS.goto X11.here hx rfl (pc0 := 146) (pc' := 150) rfl (hb hby at_146) (by decide) (by decide) ?_
    show Steps _ _ _ (T11.setTop (mkF m 150 #[.val (.int p1), .val (.int p2), .val (.int p3), .val (.ref b4), .val (.ref b6), .val (.ref b4), .val (.ref b4), .val (.int (p1 &&& (3 : Int32))), .val (.ref uB), .unset, .unset, .unset, .unset] [(.int (1 : Int32))])) _
    refine XS.istore X11.here hx rfl (hb hby at_150) rfl (l' := #[.val (.int p1), .val (.int p2), .val (.int p3), .val (.ref b4), .val (.ref b6), .val (.ref b4), .val (.ref b4), .val (.int (p1 &&& (3 : Int32))), .val (.ref uB), .val (.int (1 : Int32)), .unset, .unset, .unset]) rfl ?_
    show Steps _ _ _ (T11.setTop (mkF m 152 #[.val (.int p1), .val (.int p2), .val (.int p3), .val (.ref b4), .val (.ref b6), .val (.ref b4), .val (.ref b4), .val (.int (p1 &&& (3 : Int32))), .val (.ref uB), .val (.int (1 : Int32)), .unset, .unset, .unset] [])) _
    refine XS.aload X11.here hx rfl (hb hby at_152) rfl rfl ?_
    show Steps _ _ _ (T11.setTop (mkF m 154 #[.val (.int p1), .val (.int p2), .val (.int p3), .val (.ref b4), .val (.ref b6), .val (.ref b4), .val (.ref b4), .val (.int (p1 &&& (3 : Int32))), .val (.ref uB), .val (.int (1 : Int32)), .unset, .unset, .unset] [(.ref b4)])) _
    refine st12.trans ?_
    show Steps _ _ _ (T12.setTop (mkF m 157 #[.val (.int p1), .val (.int p2), .val (.int p3), .val (.ref b4), .val (.ref b6), .val (.ref b4), .val (.ref b4), .val (.int (p1 &&& (3 : Int32))), .val (.ref uB), .val (.int (1 : Int32)), .unset, .unset, .unset] [(.ref uB)])) _
    refine XS.astore X12.here hx rfl (hb hby at_157) rfl rfl (l' := #[.val (.int p1), .val (.int p2), .val (.int p3), .val (.ref b4), .val (.ref b6), .val (.ref b4), .val (.ref b4), .val (.int (p1 &&& (3 : Int32))), .val (.ref uB), .val (.int (1 : Int32)), .val (.ref uB), .unset, .unset]) rfl ?_
    show Steps _ _ _ (T12.setTop (mkF m 159 #[.val (.int p1), .val (.int p2), .val (.int p3), .val (.ref b4), .val (.ref b6), .val (.ref b4), .val (.ref b4), .val (.int (p1 &&& (3 : Int32))), .val (.ref uB), .val (.int (1 : Int32)), .val (.ref uB), .unset, .unset] [])) _
    refine XS.aloadN X12.here hx rfl (hb hby at_159) rfl rfl ?_
    show Steps _ _ _ (T12.setTop (mkF m 160 #[.val (.int p1), .val (.int p2), .val (.int p3), .val (.ref b4), .val (.ref b6), .val (.ref b4), .val (.ref b4), .val (.int (p1 &&& (3 : Int32))), .val (.ref uB), .val (.int (1 : Int32)), .val (.ref uB), .unset, .unset] [(.ref b4)])) _
    refine st13.trans ?_
    show Steps _ _ _ (T13.setTop (mkF m 163 #[.val (.int p1), .val (.int p2), .val (.int p3), .val (.ref b4), .val (.ref b6), .val (.ref b4), .val (.ref b4), .val (.int (p1 &&& (3 : Int32))), .val (.ref uB), .val (.int (1 : Int32)), .val (.ref uB), .unset, .unset] [(.int (0 : Int32))])) _
    refine XS.ifNo X13.here hx rfl (hb hby at_163) rfl ((if0 _ _).trans (teq (rfl : (0 : Int32) = (0 : Int32))).2) ?_
    show Steps _ _ _ (T13.setTop (mkF m 166 #[.val (.int p1), .val (.int p2), .val (.int p3), .val (.ref b4), .val (.ref b6), .val (.ref b4), .val (.ref b4), .val (.int (p1 &&& (3 : Int32))), .val (.ref uB), .val (.int (1 : Int32)), .val (.ref uB), .unset, .unset] [])) _
    refine XS.aload X13.here hx rfl (hb hby at_166) rfl rfl ?_
    show Steps _ _ _ (T13.setTop (mkF m 168 #[.val (.int p1), .val (.int p2), .val (.int p3), .val (.ref b4), .val (.ref b6), .val (.ref b4), .val (.ref b4), .val (.int (p1 &&& (3 : Int32))), .val (.ref uB), .val (.int (1 : Int32)), .val (.ref uB), .unset, .unset] [(.ref b6)])) _
    refine st14.trans ?_
    show Steps _ _ _ (T14.setTop (mkF m 171 #[.val (.int p1), .val (.int p2), .val (.int p3), .val (.ref b4), .val (.ref b6), .val (.ref b4), .val (.ref b4), .val (.int (p1 &&& (3 : Int32))), .val (.ref uB), .val (.int (1 : Int32)), .val (.ref uB), .unset, .unset] [(.int (0 : Int32))])) _
    refine XS.ifNo X14.here hx rfl (hb hby at_171) rfl ((if0 _ _).trans (teq (rfl : (0 : Int32) = (0 : Int32))).2) ?_
    show Steps _ _ _ (T14.setTop (mkF m 174 #[.val (.int p1), .val (.int p2), .val (.int p3), .val (.ref b4), .val (.ref b6), .val (.ref b4), .val (.ref b4), .val (.int (p1 &&& (3 : Int32))), .val (.ref uB), .val (.int (1 : Int32)), .val (.ref uB), .unset, .unset] [])) _
    refine XS.iconst X14.here hx rfl (hb hby at_174) ?_
    show Steps _ _ _ (T14.setTop (mkF m 175 #[.val (.int p1), .val (.int p2), .val (.int p3), .val (.ref b4), .val (.ref b6), .val (.ref b4), .val (.ref b4), .val (.int (p1 &&& (3 : Int32))), .val (.ref uB), .val (.int (1 : Int32)), .val (.ref uB), .unset, .unset] [(.int (1 : Int32))])) _
    refine XS.goto X14.here hx rfl (pc0 := 175) (pc' := 179) rfl (hb hby at_175) (by decide) (by decide) ?_
    show Steps _ _ _ (T14.setTop (mkF m 179 #[.val (.int p1), .val (.int p2), .val (.int p3), .val (.ref b4), .val (.ref b6), .val (.ref b4), .val (.ref b4), .val (.int (p1 &&& (3 : Int32))), .val (.ref uB), .val (.int (1 : Int32)), .val (.ref uB), .unset, .unset] [(.int (1 : Int32))])) _
    refine XS.istore X14.here hx rfl (hb hby at_179) rfl (l' := #[.val (.int p1), .val (.int p2), .val (.int p3), .val (.ref b4), .val (.ref b6), .val (.ref b4), .val (.ref b4), .val (.int (p1 &&& (3 : Int32))), .val (.ref uB), .val (.int (1 : Int32)), .val (.ref uB), .val (.int (1 : Int32)), .unset]) rfl ?_
    show Steps _ _ _ (T14.setTop (mkF m 181 #[.val (.int p1), .val (.int p2), .val (.int p3), .val (.ref b4), .val (.ref b6), .val (.ref b4), .val (.ref b4), .val (.int (p1 &&& (3 : Int32))), .val (.ref uB), .val (.int (1 : Int32)), .val (.ref uB), .val (.int (1 : Int32)), .unset] [])) _
    refine XS.aload X14.here hx rfl (hb hby at_181) rfl rfl ?_
    show Steps _ _ _ (T14.setTop (mkF m 183 #[.val (.int p1), .val (.int p2), .val (.int p3), .val (.ref b4), .val (.ref b6), .val (.ref b4), .val (.ref b4), .val (.int (p1 &&& (3 : Int32))), .val (.ref uB), .val (.int (1 : Int32)), .val (.ref uB), .val (.int (1 : Int32)), .unset] [(.ref b4)])) _
    refine st15.trans ?_
    show Steps _ _ _ (T15.setTop (mkF m 186 #[.val (.int p1), .val (.int p2), .val (.int p3), .val (.ref b4), .val (.ref b6), .val (.ref b4), .val (.ref b4), .val (.int (p1 &&& (3 : Int32))), .val (.ref uB), .val (.int (1 : Int32)), .val (.ref uB), .val (.int (1 : Int32)), .unset] [.null])) _
    refine XS.astore X15.here hx rfl (hb hby at_186) rfl rfl (l' := #[.val (.int p1), .val (.int p2), .val (.int p3), .val (.ref b4), .val (.ref b6), .val (.ref b4), .val (.ref b4), .val (.int (p1 &&& (3 : Int32))), .val (.ref uB), .val (.int (1 : Int32)), .val (.ref uB), .val (.int (1 : Int32)), .val .null]) rfl ?_
    show Steps _ _ _ (T15.setTop (mkF m 188 #[.val (.int p1), .val (.int p2), .val (.int p3), .val (.ref b4), .val (.ref b6), .val (.ref b4), .val (.ref b4), .val (.int (p1 &&& (3 : Int32))), .val (.ref uB), .val (.int (1 : Int32)), .val (.ref uB), .val (.int (1 : Int32)), .val .null] [])) _
    refine XS.iload X15.here hx rfl (hb hby at_188) rfl ?_
    show Steps _ _ _ (T15.setTop (mkF m 190 #[.val (.int p1), .val (.int p2), .val (.int p3), .val (.ref b4), .val (.ref b6), .val (.ref b4), .val (.ref b4), .val (.int (p1 &&& (3 : Int32))), .val (.ref uB), .val (.int (1 : Int32)), .val (.ref uB), .val (.int (1 : Int32)), .val .null] [(.int (1 : Int32))])) _
    refine XS.ifNo X15.here hx rfl (hb hby at_190) rfl ((if0 _ _).trans (feq hc190).1) ?_
    show Steps _ _ _ (T15.setTop (mkF m 193 #[.val (.int p1), .val (.int p2), .val (.int p3), .val (.ref b4), .val (.ref b6), .val (.ref b4), .val (.ref b4), .val (.int (p1 &&& (3 : Int32))), .val (.ref uB), .val (.int (1 : Int32)), .val (.ref uB), .val (.int (1 : Int32)), .val .null] [])) _
    refine XS.aload X15.here hx rfl (hb hby at_193) rfl rfl ?_
    show Steps _ _ _ (T15.setTop (mkF m 195 #[.val (.int p1), .val (.int p2), .val (.int p3), .val (.ref b4), .val (.ref b6), .val (.ref b4), .val (.ref b4), .val (.int (p1 &&& (3 : Int32))), .val (.ref uB), .val (.int (1 : Int32)), .val (.ref uB), .val (.int (1 : Int32)), .val .null] [(.ref uB)])) _
    refine XS.aload X15.here hx rfl (hb hby at_195) rfl rfl ?_
    show Steps _ _ _ (T15.setTop (mkF m 197 #[.val (.int p1), .val (.int p2), .val (.int p3), .val (.ref b4), .val (.ref b6), .val (.ref b4), .val (.ref b4), .val (.int (p1 &&& (3 : Int32))), .val (.ref uB), .val (.int (1 : Int32)), .val (.ref uB), .val (.int (1 : Int32)), .val .null] [(.ref uB), (.ref uB)])) _
    refine Jvm.RoadKit.acmp (g := (mkF m 197 #[.val (.int p1), .val (.int p2), .val (.int p3), .val (.ref b4), .val (.ref b6), .val (.ref b4), .val (.ref b4), .val (.int (p1 &&& (3 : Int32))), .val (.ref uB), .val (.int (1 : Int32)), .val (.ref uB), .val (.int (1 : Int32)), .val .null] [(.ref uB), (.ref uB)])) X15 hx rfl rfl rfl (pc0 := 197) (pc' := 200) (same := true) rfl (hb hby at_197) rfl (decide_eq_true rfl) (by decide) (by decide) ?_
    show Steps _ _ _ (T15.setTop (mkF m 200 #[.val (.int p1), .val (.int p2), .val (.int p3), .val (.ref b4), .val (.ref b6), .val (.ref b4), .val (.ref b4), .val (.int (p1 &&& (3 : Int32))), .val (.ref uB), .val (.int (1 : Int32)), .val (.ref uB), .val (.int (1 : Int32)), .val .null] [])) _
    refine XS.iload X15.here hx rfl (hb hby at_200) rfl ?_
    show Steps _ _ _ (T15.setTop (mkF m 202 #[.val (.int p1), .val (.int p2), .val (.int p3), .val (.ref b4), .val (.ref b6), .val (.ref b4), .val (.ref b4), .val (.int (p1 &&& (3 : Int32))), .val (.ref uB), .val (.int (1 : Int32)), .val (.ref uB), .val (.int (1 : Int32)), .val .null] [(.int (1 : Int32))])) _
    refine XS.ifNo X15.here hx rfl (hb hby at_202) rfl ((if0 _ _).trans (feq hc202).1) ?_
    show Steps _ _ _ (T15.setTop (mkF m 205 #[.val (.int p1), .val (.int p2), .val (.int p3), .val (.ref b4), .val (.ref b6), .val (.ref b4), .val (.ref b4), .val (.int (p1 &&& (3 : Int32))), .val (.ref uB), .val (.int (1 : Int32)), .val (.ref uB), .val (.int (1 : Int32)), .val .null] [])) _
    refine XS.aload X15.here hx rfl (hb hby at_205) rfl rfl ?_
    show Steps _ _ _ (T15.setTop (mkF m 207 #[.val (.int p1), .val (.int p2), .val (.int p3), .val (.ref b4), .val (.ref b6), .val (.ref b4), .val (.ref b4), .val (.int (p1 &&& (3 : Int32))), .val (.ref uB), .val (.int (1 : Int32)), .val (.ref uB), .val (.int (1 : Int32)), .val .null] [.null])) _
    refine XS.ifnonnullNo X15.here hx rfl (hb hby at_207) rfl ?_
    show Steps _ _ _ (T15.setTop (mkF m 210 #[.val (.int p1), .val (.int p2), .val (.int p3), .val (.ref b4), .val (.ref b6), .val (.ref b4), .val (.ref b4), .val (.int (p1 &&& (3 : Int32))), .val (.ref uB), .val (.int (1 : Int32)), .val (.ref uB), .val (.int (1 : Int32)), .val .null] [])) _
    refine XS.iconst X15.here hx rfl (hb hby at_210) ?_
    show Steps _ _ _ (T15.setTop (mkF m 211 #[.val (.int p1), .val (.int p2), .val (.int p3), .val (.ref b4), .val (.ref b6), .val (.ref b4), .val (.ref b4), .val (.int (p1 &&& (3 : Int32))), .val (.ref uB), .val (.int (1 : Int32)), .val (.ref uB), .val (.int (1 : Int32)), .val .null] [(.int (1 : Int32))])) _
    refine XS.goto X15.here hx rfl (pc0 := 211) (pc' := 215) rfl (hb hby at_211) (by decide) (by decide) ?_
    show Steps _ _ _ (T15.setTop (mkF m 215 #[.val (.int p1), .val (.int p2), .val (.int p3), .val (.ref b4), .val (.ref b6), .val (.ref b4), .val (.ref b4), .val (.int (p1 &&& (3 : Int32))), .val (.ref uB), .val (.int (1 : Int32)), .val (.ref uB), .val (.int (1 : Int32)), .val .null] [(.int (1 : Int32))])) _
    exact retN X15 hx (t := .boolean) Bd.returns (by simp) (hb hby at_215) hr
  · show Q0 Z p1 p2 p3 uB uC h0 n0 _ T15.heap _
    exact ⟨rfl, N15⟩
-- 2. THE CONTRACT: what this body leaves is yours
-- its room: frames: the greatest, locals: the greatest, cells 4 + .., slots 32 + ..: rm1: frames + 1; locals 1 + 3 + 11 + its room's locals; its cells and slots besides; rm5: frames + 1; locals 1 + 2 + 11 + its room's locals; its cells and slots besides; rm9: frames + 1; locals 0 + 2 + 11 + its room's locals; its cells and slots besides; rm7: frames + 1; locals 0 + 1 + 11 + its room's locals; its cells and slots besides; rm8: frames + 1; locals 0 + 2 + 11 + its room's locals; its cells and slots besides; rm7: frames + 1; locals 0 + 1 + 11 + its room's locals; its cells and slots besides; rm7: frames + 1; locals 0 + 1 + 11 + its room's locals; its cells and slots besides; rm8: frames + 1; locals 0 + 2 + 11 + its room's locals; its cells and slots besides
set_option maxRecDepth 65536 in
set_option maxHeartbeats 40000000 in
theorem rm0_tt2 (l : Launch) (Z : State) (a0 : Array Value) (hw : ∀ d ∈ tables_1, d.before a0 Z = true) (ws : List Jvm.Cond) (p1 : Int32) (p2 : Int32) (p3 : Int32) (uB : Addr) (uC : Addr) (h0 : Heap) (n0 : Nat) (Z0 : n0 ≤ h0.size) (S_BREAK : Sta Z h0 "com/example/transom/transom/Scope$Jump" "BREAK" "Lcom/example/transom/transom/Scope$Jump;" (.ref uB)) (S_CONTINUE : Sta Z h0 "com/example/transom/transom/Scope$Jump" "CONTINUE" "Lcom/example/transom/transom/Scope$Jump;" (.ref uC)) (hc23 : (p2 &&& (1 : Int32)) = (0 : Int32)) (hc37 : (p3 &&& (1 : Int32)) = (0 : Int32)) (hc59 : ¬ ((p1 &&& (3 : Int32)) = (1 : Int32))) (hc81 : (p1 &&& (3 : Int32)) = (2 : Int32)) (hc190 : ¬ ((1 : Int32) = (0 : Int32))) (hc202 : ¬ ((1 : Int32) = (0 : Int32))) :
    MetFree l x (head1 (Jvm.Cond.code x code maxLocals ret :: ws) room_1) (fun a U => a = #[(.int p1), (.int p2), (.int p3)] ∧ Z.Warmed39 U.vm ∧ U.heap = h0) (fun _ _ _ _ _ => True) (fun _ U o U' => ∃ v L, o = .returned v ∧ Q0 Z p1 p2 p3 uB uC h0 n0 v U'.heap L ∧ FrameEnd U o U' L room_1.cells room_1.slots) := by
  refine MetFree.of_bodySF (plainFor_of_name pn_0) hisR ?_
  intro p e s m args below meth c s₁ Bd hml0 hP hK
  obtain ⟨rfl, hZ, hh⟩ := hP
  have hx := Bd.exec
  have hby := Bd.bytes
  have hml : c.maxLocals = 13 := hml0
  have hown : s.vm.findClass "com/example/transom/transom/ScopeLandPinLaw" = some m.cls := findClass_of_methodNamed Bd.named
  have hnm := (name_of_methodNamed Bd.named Bd.method).1
  have X0 : Stand p l e room_1 s m #[(.int p1), (.int p2), (.int p3)] below meth c s₁ [] 0 0 := Stand.of_body Bd
  have e0 : s₁.heap = h0 := by rw [← hh, Bd.state]; rfl
  have N0 := Fr.nil n0
  have pre0 : ∀ t, Steps p.tables e below (s₁.setTop (mkF m 0 #[.val (.int p1), .val (.int p2), .val (.int p3), .unset, .unset, .unset, .unset, .unset, .unset, .unset, .unset, .unset, .unset] [])) t → Steps p.tables e below (s₁.setTop (entryFrame m #[(.int p1), (.int p2), (.int p3)] maxLocals)) t := fun t k => castTop (ef_0 m p1 p2 p3) k
  obtain ⟨T4, h4, X4, e4, E4, A4, D4, -, st4⟩ := newO X0 hx hZ hown (ww hw 0 rfl) (ww hw 1 rfl) (ww hw 2 rfl) e0 (g := (mkF m 0 #[.val (.int p1), .val (.int p2), .val (.int p3), .unset, .unset, .unset, .unset, .unset, .unset, .unset, .unset, .unset, .unset] [])) rfl (hb hby at_0) (by decide) (by decide)
  obtain ⟨b4, g4⟩ : ∃ z, z = h0.size := ⟨_, rfl⟩
  rw [← g4] at A4 D4 st4
  have F_values_b4 : Fld Z h4 b4 "com/example/transom/transom/Scope" "values" "Ljava/util/Map;" .null := D4 (Or.inr (ww hw 26 rfl)) (ty := (.object "java/util/Map")) (by decide)
  have F_parent_b4 : Fld Z h4 b4 "com/example/transom/transom/Scope" "parent" "Lcom/example/transom/transom/Scope;" .null := D4 (Or.inr (ww hw 28 rfl)) (ty := (.object "com/example/transom/transom/Scope")) (by decide)
  have F_top_b4 : Fld Z h4 b4 "com/example/transom/transom/Scope" "top" "Lcom/example/transom/transom/Scope;" .null := D4 (Or.inr (ww hw 30 rfl)) (ty := (.object "com/example/transom/transom/Scope")) (by decide)
  have F_model_b4 : Fld Z h4 b4 "com/example/transom/transom/Scope" "model" "Ljava/util/Map;" .null := D4 (Or.inr (ww hw 32 rfl)) (ty := (.object "java/util/Map")) (by decide)
  have F_template_b4 : Fld Z h4 b4 "com/example/transom/transom/Scope" "template" "Lcom/example/transom/transom/Template;" .null := D4 (Or.inr (ww hw 34 rfl)) (ty := (.object "com/example/transom/transom/Template")) (by decide)
  have F_renderer_b4 : Fld Z h4 b4 "com/example/transom/transom/Scope" "renderer" "Lcom/example/transom/transom/Scope;" .null := D4 (Or.inr (ww hw 36 rfl)) (ty := (.object "com/example/transom/transom/Scope")) (by decide)
  have F_calls_b4 : Fld Z h4 b4 "com/example/transom/transom/Scope" "calls" "I" (.int (0 : Int32)) := D4 (Or.inr (ww hw 38 rfl)) (ty := .int) (by decide)
  have F_jump_b4 : Fld Z h4 b4 "com/example/transom/transom/Scope" "jump" "Lcom/example/transom/transom/Scope$Jump;" .null := D4 (Or.inl (ww hw 51 rfl)) (ty := (.object "com/example/transom/transom/Scope$Jump")) (by decide)
  have E_b4 := A4
  have g_b4 : n0 ≤ b4 := Nat.le_trans Z0 (Nat.le_of_eq g4.symm)
  have sz_b4 : h0.size ≤ b4 := (Nat.le_trans (Keep.refl h0 []).1 (Nat.le_of_eq g4.symm))
  have K4 : Keep h0 h4 [] := (Keep.refl h0 []).ext E4
  obtain ⟨_, _, ⟨T5, L5, k5, n5⟩, -, X5, ⟨Lc5, hQ5, l5, y5, z5⟩, st5⟩ := X4.specialBack hx (y := (⟨"com/example/transom/transom/Scope", "<init>", "(Ljava/util/Map;Lcom/example/transom/transom/Template;)V"⟩ : MethodName)) rfl hown (mvT hZ (ww hw 3 rfl)) (mvT hZ (ww hw 4 rfl)) (mvT hZ (ww hw 5 rfl)) (by decide) (backOf (W := 1) (rm1 l Z a0 hw [] b4 _ _ _ _ _ _ _  h4 n0 (Nat.le_trans Z0 E4.1) F_jump_b4 E_b4 F_values_b4 g_b4 F_parent_b4 F_top_b4 F_model_b4 F_template_b4 F_renderer_b4 F_calls_b4) hZ (ww hw 5 rfl) (ww hw 2 rfl) (by decide) (by decide)) (g := (mkF m 6 #[.val (.int p1), .val (.int p2), .val (.int p3), .unset, .unset, .unset, .unset, .unset, .unset, .unset, .unset, .unset, .unset] [.null, .null, (.ref b4), (.ref b4)])) rfl (by rw [hml]; rfl) (Steps.refl _) (a := b4) (argsL := [.null, .null]) (rest := [(.ref b4)]) (lenOf pd_0_0 rfl) rfl (by show 2 * 0 + _ ≤ _; exact Nat.le_of_eq rfl) (hb hby at_6) (fun _ _ => ⟨rfl, e4, (by decide : 1 + 1 ≤ _), (by decide : 8 + 8 ≤ _)⟩)
  dsimp only [Pt.U, Pt.locs, Pt.cells, Pt.slots] at X5 l5 y5 z5 st5 hQ5
  subst l5 y5 z5
  obtain ⟨rfl, N5q, Kc5, Ec5, Ftop5, Fmodel5, Ftemplate5, Frenderer5, Fcalls5, Fjump5⟩ := hQ5
  have N5 := Fr.app N0 N5q
  have S_BREAK_5 := own_stak (S_BREAK.ext E4) Kc5 (allS (own_nst E_b4) all0)
  have S_CONTINUE_5 := own_stak (S_CONTINUE.ext E4) Kc5 (allS (own_nst E_b4) all0)
  have K5 : Keep h0 T5.heap [] := K4.trans Kc5 (allS (Or.inr sz_b4) all0)
  obtain ⟨T6, h6, X6, e6, E6, A6, D6, -, st6⟩ := newO X5 hx hZ hown (ww hw 0 rfl) (ww hw 1 rfl) (ww hw 2 rfl) rfl (g := (mkF m 10 #[.val (.int p1), .val (.int p2), .val (.int p3), .val (.ref b4), .unset, .unset, .unset, .unset, .unset, .unset, .unset, .unset, .unset] [])) rfl (hb hby at_10) (by decide) (by decide)
  obtain ⟨b6, g6⟩ : ∃ z, z = T5.heap.size := ⟨_, rfl⟩
  rw [← g6] at A6 D6 st6
  have F_values_b6 : Fld Z h6 b6 "com/example/transom/transom/Scope" "values" "Ljava/util/Map;" .null := D6 (Or.inr (ww hw 26 rfl)) (ty := (.object "java/util/Map")) (by decide)
  have F_parent_b6 : Fld Z h6 b6 "com/example/transom/transom/Scope" "parent" "Lcom/example/transom/transom/Scope;" .null := D6 (Or.inr (ww hw 28 rfl)) (ty := (.object "com/example/transom/transom/Scope")) (by decide)
  have F_top_b6 : Fld Z h6 b6 "com/example/transom/transom/Scope" "top" "Lcom/example/transom/transom/Scope;" .null := D6 (Or.inr (ww hw 30 rfl)) (ty := (.object "com/example/transom/transom/Scope")) (by decide)
  have F_model_b6 : Fld Z h6 b6 "com/example/transom/transom/Scope" "model" "Ljava/util/Map;" .null := D6 (Or.inr (ww hw 32 rfl)) (ty := (.object "java/util/Map")) (by decide)
  have F_template_b6 : Fld Z h6 b6 "com/example/transom/transom/Scope" "template" "Lcom/example/transom/transom/Template;" .null := D6 (Or.inr (ww hw 34 rfl)) (ty := (.object "com/example/transom/transom/Template")) (by decide)
  have F_renderer_b6 : Fld Z h6 b6 "com/example/transom/transom/Scope" "renderer" "Lcom/example/transom/transom/Scope;" .null := D6 (Or.inr (ww hw 36 rfl)) (ty := (.object "com/example/transom/transom/Scope")) (by decide)
  have F_calls_b6 : Fld Z h6 b6 "com/example/transom/transom/Scope" "calls" "I" (.int (0 : Int32)) := D6 (Or.inr (ww hw 38 rfl)) (ty := .int) (by decide)
  have F_jump_b6 : Fld Z h6 b6 "com/example/transom/transom/Scope" "jump" "Lcom/example/transom/transom/Scope$Jump;" .null := D6 (Or.inl (ww hw 51 rfl)) (ty := (.object "com/example/transom/transom/Scope$Jump")) (by decide)
  have E_b6 := A6
  have g_b6 : n0 ≤ b6 := Nat.le_trans (Nat.le_trans (Nat.le_trans Z0 E4.1) Kc5.1) (Nat.le_of_eq g6.symm)
  have sz_b6 : h0.size ≤ b6 := (Nat.le_trans K5.1 (Nat.le_of_eq g6.symm))
  have K6 : Keep h0 h6 [] := K5.ext E6
  obtain ⟨_, _, ⟨T7, L7, k7, n7⟩, -, X7, ⟨Lc7, hQ7, l7, y7, z7⟩, st7⟩ := X6.specialBack hx (y := (⟨"com/example/transom/transom/Scope", "<init>", "(Lcom/example/transom/transom/Scope;)V"⟩ : MethodName)) rfl hown (mvT hZ (ww hw 39 rfl)) (mvT hZ (ww hw 40 rfl)) (mvT hZ (ww hw 41 rfl)) (by decide) (backOf (W := 1) (rm5 l Z a0 hw [] b6 b4 b4 (0 : Int32) h6 n0 (Nat.le_trans (Nat.le_trans (Nat.le_trans Z0 E4.1) Kc5.1) E6.1) (Nat.ne_of_lt (Nat.lt_of_lt_of_le (E_b4.keep Kc5).lt (Nat.le_of_eq g6.symm))) E_b6 F_values_b6 F_parent_b6 F_top_b6 F_model_b6 F_template_b6 F_renderer_b6 F_calls_b6 g_b6 (Ftop5.ext E6) (Fmodel5.ext E6) (Ftemplate5.ext E6) (Frenderer5.ext E6) (Fcalls5.ext E6)) hZ (ww hw 41 rfl) (ww hw 2 rfl) (by decide) (by decide)) (g := (mkF m 15 #[.val (.int p1), .val (.int p2), .val (.int p3), .val (.ref b4), .unset, .unset, .unset, .unset, .unset, .unset, .unset, .unset, .unset] [(.ref b4), (.ref b6), (.ref b6)])) rfl (by rw [hml]; rfl) (Steps.refl _) (a := b6) (argsL := [(.ref b4)]) (rest := [(.ref b6)]) (lenOf pd_0_2 rfl) rfl (by show 2 * 0 + _ ≤ _; exact Nat.le_of_eq rfl) (hb hby at_15) (fun _ _ => ⟨rfl, e6, (by decide : 3 + 1 ≤ _), (by decide : 24 + 8 ≤ _)⟩)
  dsimp only [Pt.U, Pt.locs, Pt.cells, Pt.slots] at X7 l7 y7 z7 st7 hQ7
  subst l7 y7 z7
  obtain ⟨rfl, N7q, Kc7, Ec7, Ft7⟩ := hQ7
  have N7 := Fr.app N5 N7q
  have S_BREAK_7 := own_stak (S_BREAK_5.ext E6) Kc7 (allS (own_nst E_b6) all0)
  have S_CONTINUE_7 := own_stak (S_CONTINUE_5.ext E6) Kc7 (allS (own_nst E_b6) all0)
  have K7 : Keep h0 T7.heap [] := K6.trans Kc7 (allS (Or.inr sz_b6) all0)
  obtain ⟨T8, X8, e8, st8⟩ := getS2 X7 hx hZ hown (host := "") (Or.inl (ww hw 65 rfl)) Via.refl rfl S_CONTINUE_7 (g := (mkF m 86 #[.val (.int p1), .val (.int p2), .val (.int p3), .val (.ref b4), .val (.ref b6), .val (.ref b4), .val (.ref b4), .val (.int (p1 &&& (3 : Int32))), .val .null, .unset, .unset, .unset, .unset] [(.ref b4)])) rfl (hb hby at_86)
  obtain ⟨cq9, kq9, q9a, q9b, q9c⟩ := isOf hZ e8 (((E_b4.keep Kc5).ext E6).keep Kc7)
  obtain ⟨_, _, ⟨T9, L9, k9, n9⟩, -, X9, ⟨Lc9, hQ9, l9, y9, z9⟩, st9⟩ := X8.virtualBack hx (y := (⟨"com/example/transom/transom/Scope", "jump", "(Lcom/example/transom/transom/Scope$Jump;)V"⟩ : MethodName)) (z := (⟨"com/example/transom/transom/Scope", "jump", "(Lcom/example/transom/transom/Scope$Jump;)V"⟩ : MethodName)) hown (mvT hZ (ww hw 60 rfl)) (mvT hZ (ww hw 61 rfl)) (notFace_of_selects (args := #[]) (mvT hZ (ww hw 63 rfl))) (mvT hZ (ww hw 63 rfl)) (mvT hZ (ww hw 62 rfl)) (by decide) (backOf (W := 0) (rmS l Z a0 hw [] b4 uC b4 _ T7.heap n0 (Nat.le_trans (Nat.le_trans (Nat.le_trans (Nat.le_trans Z0 E4.1) Kc5.1) E6.1) Kc7.1) ((Ftop5.ext E6).keep Kc7 (ninS (Nat.ne_of_lt (Nat.lt_of_lt_of_le (E_b4.keep Kc5).lt (Nat.le_of_eq g6.symm))) nin0)) ((Ftop5.ext E6).keep Kc7 (ninS (Nat.ne_of_lt (Nat.lt_of_lt_of_le (E_b4.keep Kc5).lt (Nat.le_of_eq g6.symm))) nin0)) (((E_b4.keep Kc5).ext E6).keep Kc7) ((Fjump5.ext E6).keep Kc7 (ninS (Nat.ne_of_lt (Nat.lt_of_lt_of_le (E_b4.keep Kc5).lt (Nat.le_of_eq g6.symm))) nin0)) g_b4) hZ (ww hw 64 rfl) (ww hw 2 rfl) (by decide) (by decide)) q9a q9c (g := (mkF m 89 #[.val (.int p1), .val (.int p2), .val (.int p3), .val (.ref b4), .val (.ref b6), .val (.ref b4), .val (.ref b4), .val (.int (p1 &&& (3 : Int32))), .val .null, .unset, .unset, .unset, .unset] [(.ref uC), (.ref b4)])) rfl (by rw [hml]; rfl) (Steps.refl _) (argsL := [(.ref uC)]) (rest := []) (lenOf pd_0_6 rfl) rfl (by show 2 * 0 + _ ≤ _; exact Nat.le_of_eq rfl) (hb hby at_89) (fun _ _ => ⟨rfl, e8, (by decide : 4 + 0 ≤ _), (by decide : 32 + 0 ≤ _)⟩)
  dsimp only [Pt.U, Pt.locs, Pt.cells, Pt.slots] at X9 l9 y9 z9 st9 hQ9
  subst l9 y9 z9
  obtain ⟨rfl, N9q, Kc9, Fj9, Ft9⟩ := hQ9
  have N9 := Fr.app N7 N9q
  have S_BREAK_9 := own_stak S_BREAK_7 Kc9 (allS (own_nst (((E_b4.keep Kc5).ext E6).keep Kc7)) all0)
  have S_CONTINUE_9 := own_stak S_CONTINUE_7 Kc9 (allS (own_nst (((E_b4.keep Kc5).ext E6).keep Kc7)) all0)
  have K9 : Keep h0 T9.heap [] := K7.trans Kc9 (allS (Or.inr sz_b4) all0)
  obtain ⟨T10, X10, e10, st10⟩ := getS2 X9 hx hZ hown (host := "") (Or.inl (ww hw 65 rfl)) Via.refl rfl S_CONTINUE_9 (g := (mkF m 92 #[.val (.int p1), .val (.int p2), .val (.int p3), .val (.ref b4), .val (.ref b6), .val (.ref b4), .val (.ref b4), .val (.int (p1 &&& (3 : Int32))), .val .null, .unset, .unset, .unset, .unset] [])) rfl (hb hby at_92)
  obtain ⟨cq11, kq11, q11a, q11b, q11c⟩ := isOf hZ e10 ((((E_b4.keep Kc5).ext E6).keep Kc7).keep Kc9)
  obtain ⟨_, _, ⟨T11, L11, k11, n11⟩, -, X11, ⟨Lc11, hQ11, l11, y11, z11⟩, st11⟩ := X10.virtualBack hx (y := (⟨"com/example/transom/transom/Scope", "jumping", "()Z"⟩ : MethodName)) (z := (⟨"com/example/transom/transom/Scope", "jumping", "()Z"⟩ : MethodName)) hown (mvT hZ (ww hw 45 rfl)) (mvT hZ (ww hw 46 rfl)) (notFace_of_selects (args := #[]) (mvT hZ (ww hw 48 rfl))) (mvT hZ (ww hw 48 rfl)) (mvT hZ (ww hw 47 rfl)) (by decide) (backOf (W := 0) (rmJr l Z a0 hw [] b4 b4 uC T9.heap n0 (Nat.le_trans (Nat.le_trans (Nat.le_trans (Nat.le_trans (Nat.le_trans Z0 E4.1) Kc5.1) E6.1) Kc7.1) Kc9.1) Ft9 Fj9) hZ (ww hw 49 rfl) (ww hw 2 rfl) (by decide) (by decide)) q11a q11c (g := (mkF m 129 #[.val (.int p1), .val (.int p2), .val (.int p3), .val (.ref b4), .val (.ref b6), .val (.ref b4), .val (.ref b4), .val (.int (p1 &&& (3 : Int32))), .val (.ref uC), .unset, .unset, .unset, .unset] [(.ref b4)])) rfl (by rw [hml]; rfl) (Steps.refl _) (argsL := []) (rest := []) (lenOf pd_0_4 rfl) rfl (by show 2 * 0 + _ ≤ _; exact Nat.le_of_eq rfl) (hb hby at_129) (fun _ _ => ⟨rfl, e10, (by decide : 4 + 0 ≤ _), (by decide : 32 + 0 ≤ _)⟩)
  dsimp only [Pt.U, Pt.locs, Pt.cells, Pt.slots] at X11 l11 y11 z11 st11 hQ11
  subst l11 y11 z11
  obtain ⟨rfl, N11q, eh11⟩ := hQ11
  have N11 := Fr.app N9 N11q
  obtain ⟨cq12, kq12, q12a, q12b, q12c⟩ := isOf hZ eh11 ((((E_b4.keep Kc5).ext E6).keep Kc7).keep Kc9)
  obtain ⟨_, _, ⟨T12, L12, k12, n12⟩, -, X12, ⟨Lc12, hQ12, l12, y12, z12⟩, st12⟩ := X11.virtualBack hx (y := (⟨"com/example/transom/transom/Scope", "land", "()Lcom/example/transom/transom/Scope$Jump;"⟩ : MethodName)) (z := (⟨"com/example/transom/transom/Scope", "land", "()Lcom/example/transom/transom/Scope$Jump;"⟩ : MethodName)) hown (mvT hZ (ww hw 52 rfl)) (mvT hZ (ww hw 53 rfl)) (notFace_of_selects (args := #[]) (mvT hZ (ww hw 55 rfl))) (mvT hZ (ww hw 55 rfl)) (mvT hZ (ww hw 54 rfl)) (by decide) (backOf (W := 0) (rmLr l Z a0 hw [] b4 b4 uC T9.heap n0 (Nat.le_trans (Nat.le_trans (Nat.le_trans (Nat.le_trans (Nat.le_trans Z0 E4.1) Kc5.1) E6.1) Kc7.1) Kc9.1) Ft9 Ft9 Fj9 ((((E_b4.keep Kc5).ext E6).keep Kc7).keep Kc9) g_b4) hZ (ww hw 56 rfl) (ww hw 2 rfl) (by decide) (by decide)) q12a q12c (g := (mkF m 154 #[.val (.int p1), .val (.int p2), .val (.int p3), .val (.ref b4), .val (.ref b6), .val (.ref b4), .val (.ref b4), .val (.int (p1 &&& (3 : Int32))), .val (.ref uC), .val (.int (1 : Int32)), .unset, .unset, .unset] [(.ref b4)])) rfl (by rw [hml]; rfl) (Steps.refl _) (argsL := []) (rest := []) (lenOf pd_0_5 rfl) rfl (by show 2 * 0 + _ ≤ _; exact Nat.le_of_eq rfl) (hb hby at_154) (fun _ _ => ⟨rfl, eh11, (by decide : 4 + 0 ≤ _), (by decide : 32 + 0 ≤ _)⟩)
  dsimp only [Pt.U, Pt.locs, Pt.cells, Pt.slots] at X12 l12 y12 z12 st12 hQ12
  subst l12 y12 z12
  obtain ⟨rfl, N12q, Kc12, Fj12, Ft12⟩ := hQ12
  have N12 := Fr.app N11 N12q
  have S_BREAK_12 := own_stak S_BREAK_9 Kc12 (allS (own_nst ((((E_b4.keep Kc5).ext E6).keep Kc7).keep Kc9)) all0)
  have S_CONTINUE_12 := own_stak S_CONTINUE_9 Kc12 (allS (own_nst ((((E_b4.keep Kc5).ext E6).keep Kc7).keep Kc9)) all0)
  have K12 : Keep h0 T12.heap [] := K9.trans Kc12 (allS (Or.inr sz_b4) all0)
  obtain ⟨cq13, kq13, q13a, q13b, q13c⟩ := isOf hZ rfl (((((E_b4.keep Kc5).ext E6).keep Kc7).keep Kc9).keep Kc12)
  obtain ⟨_, _, ⟨T13, L13, k13, n13⟩, -, X13, ⟨Lc13, hQ13, l13, y13, z13⟩, st13⟩ := X12.virtualBack hx (y := (⟨"com/example/transom/transom/Scope", "jumping", "()Z"⟩ : MethodName)) (z := (⟨"com/example/transom/transom/Scope", "jumping", "()Z"⟩ : MethodName)) hown (mvT hZ (ww hw 45 rfl)) (mvT hZ (ww hw 46 rfl)) (notFace_of_selects (args := #[]) (mvT hZ (ww hw 48 rfl))) (mvT hZ (ww hw 48 rfl)) (mvT hZ (ww hw 47 rfl)) (by decide) (backOf (W := 0) (rmJn l Z a0 hw [] b4 b4 T12.heap n0 (Nat.le_trans (Nat.le_trans (Nat.le_trans (Nat.le_trans (Nat.le_trans (Nat.le_trans Z0 E4.1) Kc5.1) E6.1) Kc7.1) Kc9.1) Kc12.1) Ft12 Fj12) hZ (ww hw 49 rfl) (ww hw 2 rfl) (by decide) (by decide)) q13a q13c (g := (mkF m 160 #[.val (.int p1), .val (.int p2), .val (.int p3), .val (.ref b4), .val (.ref b6), .val (.ref b4), .val (.ref b4), .val (.int (p1 &&& (3 : Int32))), .val (.ref uC), .val (.int (1 : Int32)), .val (.ref uC), .unset, .unset] [(.ref b4)])) rfl (by rw [hml]; rfl) (Steps.refl _) (argsL := []) (rest := []) (lenOf pd_0_4 rfl) rfl (by show 2 * 0 + _ ≤ _; exact Nat.le_of_eq rfl) (hb hby at_160) (fun _ _ => ⟨rfl, rfl, (by decide : 4 + 0 ≤ _), (by decide : 32 + 0 ≤ _)⟩)
  dsimp only [Pt.U, Pt.locs, Pt.cells, Pt.slots] at X13 l13 y13 z13 st13 hQ13
  subst l13 y13 z13
  obtain ⟨rfl, N13q, eh13⟩ := hQ13
  have N13 := Fr.app N12 N13q
  obtain ⟨cq14, kq14, q14a, q14b, q14c⟩ := isOf hZ eh13 (((E_b6.keep Kc7).keep Kc9).keep Kc12)
  obtain ⟨_, _, ⟨T14, L14, k14, n14⟩, -, X14, ⟨Lc14, hQ14, l14, y14, z14⟩, st14⟩ := X13.virtualBack hx (y := (⟨"com/example/transom/transom/Scope", "jumping", "()Z"⟩ : MethodName)) (z := (⟨"com/example/transom/transom/Scope", "jumping", "()Z"⟩ : MethodName)) hown (mvT hZ (ww hw 45 rfl)) (mvT hZ (ww hw 46 rfl)) (notFace_of_selects (args := #[]) (mvT hZ (ww hw 48 rfl))) (mvT hZ (ww hw 48 rfl)) (mvT hZ (ww hw 47 rfl)) (by decide) (backOf (W := 0) (rmJn l Z a0 hw [] b6 b4 T12.heap n0 (Nat.le_trans (Nat.le_trans (Nat.le_trans (Nat.le_trans (Nat.le_trans (Nat.le_trans Z0 E4.1) Kc5.1) E6.1) Kc7.1) Kc9.1) Kc12.1) ((Ft7.keep Kc9 (ninS (Ne.symm (Nat.ne_of_lt (Nat.lt_of_lt_of_le (E_b4.keep Kc5).lt (Nat.le_of_eq g6.symm)))) nin0)).keep Kc12 (ninS (Ne.symm (Nat.ne_of_lt (Nat.lt_of_lt_of_le (E_b4.keep Kc5).lt (Nat.le_of_eq g6.symm)))) nin0)) Fj12) hZ (ww hw 49 rfl) (ww hw 2 rfl) (by decide) (by decide)) q14a q14c (g := (mkF m 168 #[.val (.int p1), .val (.int p2), .val (.int p3), .val (.ref b4), .val (.ref b6), .val (.ref b4), .val (.ref b4), .val (.int (p1 &&& (3 : Int32))), .val (.ref uC), .val (.int (1 : Int32)), .val (.ref uC), .unset, .unset] [(.ref b6)])) rfl (by rw [hml]; rfl) (Steps.refl _) (argsL := []) (rest := []) (lenOf pd_0_4 rfl) rfl (by show 2 * 0 + _ ≤ _; exact Nat.le_of_eq rfl) (hb hby at_168) (fun _ _ => ⟨rfl, eh13, (by decide : 4 + 0 ≤ _), (by decide : 32 + 0 ≤ _)⟩)
  dsimp only [Pt.U, Pt.locs, Pt.cells, Pt.slots] at X14 l14 y14 z14 st14 hQ14
  subst l14 y14 z14
  obtain ⟨rfl, N14q, eh14⟩ := hQ14
  have N14 := Fr.app N13 N14q
  obtain ⟨cq15, kq15, q15a, q15b, q15c⟩ := isOf hZ eh14 (((((E_b4.keep Kc5).ext E6).keep Kc7).keep Kc9).keep Kc12)
  obtain ⟨_, _, ⟨T15, L15, k15, n15⟩, -, X15, ⟨Lc15, hQ15, l15, y15, z15⟩, st15⟩ := X14.virtualBack hx (y := (⟨"com/example/transom/transom/Scope", "land", "()Lcom/example/transom/transom/Scope$Jump;"⟩ : MethodName)) (z := (⟨"com/example/transom/transom/Scope", "land", "()Lcom/example/transom/transom/Scope$Jump;"⟩ : MethodName)) hown (mvT hZ (ww hw 52 rfl)) (mvT hZ (ww hw 53 rfl)) (notFace_of_selects (args := #[]) (mvT hZ (ww hw 55 rfl))) (mvT hZ (ww hw 55 rfl)) (mvT hZ (ww hw 54 rfl)) (by decide) (backOf (W := 0) (rmLn l Z a0 hw [] b4 b4 T12.heap n0 (Nat.le_trans (Nat.le_trans (Nat.le_trans (Nat.le_trans (Nat.le_trans (Nat.le_trans Z0 E4.1) Kc5.1) E6.1) Kc7.1) Kc9.1) Kc12.1) Ft12 Ft12 Fj12 (((((E_b4.keep Kc5).ext E6).keep Kc7).keep Kc9).keep Kc12) g_b4) hZ (ww hw 56 rfl) (ww hw 2 rfl) (by decide) (by decide)) q15a q15c (g := (mkF m 183 #[.val (.int p1), .val (.int p2), .val (.int p3), .val (.ref b4), .val (.ref b6), .val (.ref b4), .val (.ref b4), .val (.int (p1 &&& (3 : Int32))), .val (.ref uC), .val (.int (1 : Int32)), .val (.ref uC), .val (.int (1 : Int32)), .unset] [(.ref b4)])) rfl (by rw [hml]; rfl) (Steps.refl _) (argsL := []) (rest := []) (lenOf pd_0_5 rfl) rfl (by show 2 * 0 + _ ≤ _; exact Nat.le_of_eq rfl) (hb hby at_183) (fun _ _ => ⟨rfl, eh14, (by decide : 4 + 0 ≤ _), (by decide : 32 + 0 ≤ _)⟩)
  dsimp only [Pt.U, Pt.locs, Pt.cells, Pt.slots] at X15 l15 y15 z15 st15 hQ15
  subst l15 y15 z15
  obtain ⟨rfl, N15q, Kc15, Fj15, Ft15⟩ := hQ15
  have N15 := Fr.app N14 N15q
  have S_BREAK_15 := own_stak S_BREAK_12 Kc15 (allS (own_nst (((((E_b4.keep Kc5).ext E6).keep Kc7).keep Kc9).keep Kc12)) all0)
  have S_CONTINUE_15 := own_stak S_CONTINUE_12 Kc15 (allS (own_nst (((((E_b4.keep Kc5).ext E6).keep Kc7).keep Kc9).keep Kc12)) all0)
  have K15 : Keep h0 T15.heap [] := K12.trans Kc15 (allS (Or.inr sz_b4) all0)
  obtain ⟨fs, hr, hrun, hended, hW, hsame⟩ := X15.leave (v := some (.int (1 : Int32))) (fun h => by rw [Bd.returns] at h; cases h)
  refine ⟨_, _, pre0 _ ?_, hrun, hended, _, _, rfl, ?_, ⟨_, rfl⟩, hW, hsame.mono (by decide) (by decide)⟩
  · show Steps _ _ _ (s₁.setTop (mkF m 0 #[.val (.int p1), .val (.int p2), .val (.int p3), .unset, .unset, .unset, .unset, .unset, .unset, .unset, .unset, .unset, .unset] [])) _
    refine st4 _ ?_
    show Steps _ _ _ (T4.setTop (mkF m 3 #[.val (.int p1), .val (.int p2), .val (.int p3), .unset, .unset, .unset, .unset, .unset, .unset, .unset, .unset, .unset, .unset] [(.ref b4)])) _
    refine XS.dup X4.here hx rfl (hb hby at_3) rfl rfl ?_
    show Steps _ _ _ (T4.setTop (mkF m 4 #[.val (.int p1), .val (.int p2), .val (.int p3), .unset, .unset, .unset, .unset, .unset, .unset, .unset, .unset, .unset, .unset] [(.ref b4), (.ref b4)])) _
    refine XS.aconstNull X4.here hx rfl (hb hby at_4) ?_
    show Steps _ _ _ (T4.setTop (mkF m 5 #[.val (.int p1), .val (.int p2), .val (.int p3), .unset, .unset, .unset, .unset, .unset, .unset, .unset, .unset, .unset, .unset] [.null, (.ref b4), (.ref b4)])) _
    refine XS.aconstNull X4.here hx rfl (hb hby at_5) ?_
    show Steps _ _ _ (T4.setTop (mkF m 6 #[.val (.int p1), .val (.int p2), .val (.int p3), .unset, .unset, .unset, .unset, .unset, .unset, .unset, .unset, .unset, .unset] [.null, .null, (.ref b4), (.ref b4)])) _
    refine st5.trans ?_
    show Steps _ _ _ (T5.setTop (mkF m 9 #[.val (.int p1), .val (.int p2), .val (.int p3), .unset, .unset, .unset, .unset, .unset, .unset, .unset, .unset, .unset, .unset] [(.ref b4)])) _
    refine XS.astoreN X5.here hx rfl (hb hby at_9) rfl rfl (l' := #[.val (.int p1), .val (.int p2), .val (.int p3), .val (.ref b4), .unset, .unset, .unset, .unset, .unset, .unset, .unset, .unset, .unset]) rfl ?_
    show Steps _ _ _ (T5.setTop (mkF m 10 #[.val (.int p1), .val (.int p2), .val (.int p3), .val (.ref b4), .unset, .unset, .unset, .unset, .unset, .unset, .unset, .unset, .unset] [])) _
    refine st6 _ ?_
    show Steps _ _ _ (T6.setTop (mkF m 13 #[.val (.int p1), .val (.int p2), .val (.int p3), .val (.ref b4), .unset, .unset, .unset, .unset, .unset, .unset, .unset, .unset, .unset] [(.ref b6)])) _
    refine XS.dup X6.here hx rfl (hb hby at_13) rfl rfl ?_
    show Steps _ _ _ (T6.setTop (mkF m 14 #[.val (.int p1), .val (.int p2), .val (.int p3), .val (.ref b4), .unset, .unset, .unset, .unset, .unset, .unset, .unset, .unset, .unset] [(.ref b6), (.ref b6)])) _
    refine XS.aloadN X6.here hx rfl (hb hby at_14) rfl rfl ?_
    show Steps _ _ _ (T6.setTop (mkF m 15 #[.val (.int p1), .val (.int p2), .val (.int p3), .val (.ref b4), .unset, .unset, .unset, .unset, .unset, .unset, .unset, .unset, .unset] [(.ref b4), (.ref b6), (.ref b6)])) _
    refine st7.trans ?_
    show Steps _ _ _ (T7.setTop (mkF m 18 #[.val (.int p1), .val (.int p2), .val (.int p3), .val (.ref b4), .unset, .unset, .unset, .unset, .unset, .unset, .unset, .unset, .unset] [(.ref b6)])) _
    refine XS.astore X7.here hx rfl (hb hby at_18) rfl rfl (l' := #[.val (.int p1), .val (.int p2), .val (.int p3), .val (.ref b4), .val (.ref b6), .unset, .unset, .unset, .unset, .unset, .unset, .unset, .unset]) rfl ?_
    show Steps _ _ _ (T7.setTop (mkF m 20 #[.val (.int p1), .val (.int p2), .val (.int p3), .val (.ref b4), .val (.ref b6), .unset, .unset, .unset, .unset, .unset, .unset, .unset, .unset] [])) _
    refine XS.iloadN X7.here hx rfl (hb hby at_20) rfl ?_
    show Steps _ _ _ (T7.setTop (mkF m 21 #[.val (.int p1), .val (.int p2), .val (.int p3), .val (.ref b4), .val (.ref b6), .unset, .unset, .unset, .unset, .unset, .unset, .unset, .unset] [(.int p2)])) _
    refine XS.iconst X7.here hx rfl (hb hby at_21) ?_
    show Steps _ _ _ (T7.setTop (mkF m 22 #[.val (.int p1), .val (.int p2), .val (.int p3), .val (.ref b4), .val (.ref b6), .unset, .unset, .unset, .unset, .unset, .unset, .unset, .unset] [(.int (1 : Int32)), (.int p2)])) _
    refine XS.iand X7.here hx rfl (hb hby at_22) rfl ?_
    show Steps _ _ _ (T7.setTop (mkF m 23 #[.val (.int p1), .val (.int p2), .val (.int p3), .val (.ref b4), .val (.ref b6), .unset, .unset, .unset, .unset, .unset, .unset, .unset, .unset] [(.int (p2 &&& (1 : Int32)))])) _
    refine XS.ifYes X7.here hx rfl (pc0 := 23) (pc' := 31) rfl (hb hby at_23) rfl ((if0 _ _).trans (teq hc23).1) (by decide) (by decide) ?_
    show Steps _ _ _ (T7.setTop (mkF m 31 #[.val (.int p1), .val (.int p2), .val (.int p3), .val (.ref b4), .val (.ref b6), .unset, .unset, .unset, .unset, .unset, .unset, .unset, .unset] [])) _
    refine XS.aloadN X7.here hx rfl (hb hby at_31) rfl rfl ?_
    show Steps _ _ _ (T7.setTop (mkF m 32 #[.val (.int p1), .val (.int p2), .val (.int p3), .val (.ref b4), .val (.ref b6), .unset, .unset, .unset, .unset, .unset, .unset, .unset, .unset] [(.ref b4)])) _
    refine XS.astore X7.here hx rfl (hb hby at_32) rfl rfl (l' := #[.val (.int p1), .val (.int p2), .val (.int p3), .val (.ref b4), .val (.ref b6), .val (.ref b4), .unset, .unset, .unset, .unset, .unset, .unset, .unset]) rfl ?_
    show Steps _ _ _ (T7.setTop (mkF m 34 #[.val (.int p1), .val (.int p2), .val (.int p3), .val (.ref b4), .val (.ref b6), .val (.ref b4), .unset, .unset, .unset, .unset, .unset, .unset, .unset] [])) _
    refine XS.iloadN X7.here hx rfl (hb hby at_34) rfl ?_
    show Steps _ _ _ (T7.setTop (mkF m 35 #[.val (.int p1), .val (.int p2), .val (.int p3), .val (.ref b4), .val (.ref b6), .val (.ref b4), .unset, .unset, .unset, .unset, .unset, .unset, .unset] [(.int p3)])) _
    refine XS.iconst X7.here hx rfl (hb hby at_35) ?_
    show Steps _ _ _ (T7.setTop (mkF m 36 #[.val (.int p1), .val (.int p2), .val (.int p3), .val (.ref b4), .val (.ref b6), .val (.ref b4), .unset, .unset, .unset, .unset, .unset, .unset, .unset] [(.int (1 : Int32)), (.int p3)])) _
    refine XS.iand X7.here hx rfl (hb hby at_36) rfl ?_
    show Steps _ _ _ (T7.setTop (mkF m 37 #[.val (.int p1), .val (.int p2), .val (.int p3), .val (.ref b4), .val (.ref b6), .val (.ref b4), .unset, .unset, .unset, .unset, .unset, .unset, .unset] [(.int (p3 &&& (1 : Int32)))])) _
    refine XS.ifYes X7.here hx rfl (pc0 := 37) (pc' := 45) rfl (hb hby at_37) rfl ((if0 _ _).trans (teq hc37).1) (by decide) (by decide) ?_
    show Steps _ _ _ (T7.setTop (mkF m 45 #[.val (.int p1), .val (.int p2), .val (.int p3), .val (.ref b4), .val (.ref b6), .val (.ref b4), .unset, .unset, .unset, .unset, .unset, .unset, .unset] [])) _
    refine XS.aloadN X7.here hx rfl (hb hby at_45) rfl rfl ?_
    show Steps _ _ _ (T7.setTop (mkF m 46 #[.val (.int p1), .val (.int p2), .val (.int p3), .val (.ref b4), .val (.ref b6), .val (.ref b4), .unset, .unset, .unset, .unset, .unset, .unset, .unset] [(.ref b4)])) _
    refine XS.astore X7.here hx rfl (hb hby at_46) rfl rfl (l' := #[.val (.int p1), .val (.int p2), .val (.int p3), .val (.ref b4), .val (.ref b6), .val (.ref b4), .val (.ref b4), .unset, .unset, .unset, .unset, .unset, .unset]) rfl ?_
    show Steps _ _ _ (T7.setTop (mkF m 48 #[.val (.int p1), .val (.int p2), .val (.int p3), .val (.ref b4), .val (.ref b6), .val (.ref b4), .val (.ref b4), .unset, .unset, .unset, .unset, .unset, .unset] [])) _
    refine XS.iloadN X7.here hx rfl (hb hby at_48) rfl ?_
    show Steps _ _ _ (T7.setTop (mkF m 49 #[.val (.int p1), .val (.int p2), .val (.int p3), .val (.ref b4), .val (.ref b6), .val (.ref b4), .val (.ref b4), .unset, .unset, .unset, .unset, .unset, .unset] [(.int p1)])) _
    refine XS.iconst X7.here hx rfl (hb hby at_49) ?_
    show Steps _ _ _ (T7.setTop (mkF m 50 #[.val (.int p1), .val (.int p2), .val (.int p3), .val (.ref b4), .val (.ref b6), .val (.ref b4), .val (.ref b4), .unset, .unset, .unset, .unset, .unset, .unset] [(.int (3 : Int32)), (.int p1)])) _
    refine XS.iand X7.here hx rfl (hb hby at_50) rfl ?_
    show Steps _ _ _ (T7.setTop (mkF m 51 #[.val (.int p1), .val (.int p2), .val (.int p3), .val (.ref b4), .val (.ref b6), .val (.ref b4), .val (.ref b4), .unset, .unset, .unset, .unset, .unset, .unset] [(.int (p1 &&& (3 : Int32)))])) _
    refine XS.istore X7.here hx rfl (hb hby at_51) rfl (l' := #[.val (.int p1), .val (.int p2), .val (.int p3), .val (.ref b4), .val (.ref b6), .val (.ref b4), .val (.ref b4), .val (.int (p1 &&& (3 : Int32))), .unset, .unset, .unset, .unset, .unset]) rfl ?_
    show Steps _ _ _ (T7.setTop (mkF m 53 #[.val (.int p1), .val (.int p2), .val (.int p3), .val (.ref b4), .val (.ref b6), .val (.ref b4), .val (.ref b4), .val (.int (p1 &&& (3 : Int32))), .unset, .unset, .unset, .unset, .unset] [])) _
    refine XS.aconstNull X7.here hx rfl (hb hby at_53) ?_
    show Steps _ _ _ (T7.setTop (mkF m 54 #[.val (.int p1), .val (.int p2), .val (.int p3), .val (.ref b4), .val (.ref b6), .val (.ref b4), .val (.ref b4), .val (.int (p1 &&& (3 : Int32))), .unset, .unset, .unset, .unset, .unset] [.null])) _
    refine XS.astore X7.here hx rfl (hb hby at_54) rfl rfl (l' := #[.val (.int p1), .val (.int p2), .val (.int p3), .val (.ref b4), .val (.ref b6), .val (.ref b4), .val (.ref b4), .val (.int (p1 &&& (3 : Int32))), .val .null, .unset, .unset, .unset, .unset]) rfl ?_
    show Steps _ _ _ (T7.setTop (mkF m 56 #[.val (.int p1), .val (.int p2), .val (.int p3), .val (.ref b4), .val (.ref b6), .val (.ref b4), .val (.ref b4), .val (.int (p1 &&& (3 : Int32))), .val .null, .unset, .unset, .unset, .unset] [])) _
    refine XS.iload X7.here hx rfl (hb hby at_56) rfl ?_
    show Steps _ _ _ (T7.setTop (mkF m 58 #[.val (.int p1), .val (.int p2), .val (.int p3), .val (.ref b4), .val (.ref b6), .val (.ref b4), .val (.ref b4), .val (.int (p1 &&& (3 : Int32))), .val .null, .unset, .unset, .unset, .unset] [(.int (p1 &&& (3 : Int32)))])) _
    refine XS.iconst X7.here hx rfl (hb hby at_58) ?_
    show Steps _ _ _ (T7.setTop (mkF m 59 #[.val (.int p1), .val (.int p2), .val (.int p3), .val (.ref b4), .val (.ref b6), .val (.ref b4), .val (.ref b4), .val (.int (p1 &&& (3 : Int32))), .val .null, .unset, .unset, .unset, .unset] [(.int (1 : Int32)), (.int (p1 &&& (3 : Int32)))])) _
    refine XS.icmpYes X7.here hx rfl (pc0 := 59) (pc' := 78) rfl (hb hby at_59) rfl (feq hc59).2 (by decide) (by decide) ?_
    show Steps _ _ _ (T7.setTop (mkF m 78 #[.val (.int p1), .val (.int p2), .val (.int p3), .val (.ref b4), .val (.ref b6), .val (.ref b4), .val (.ref b4), .val (.int (p1 &&& (3 : Int32))), .val .null, .unset, .unset, .unset, .unset] [])) _
    refine XS.iload X7.here hx rfl (hb hby at_78) rfl ?_
    show Steps _ _ _ (T7.setTop (mkF m 80 #[.val (.int p1), .val (.int p2), .val (.int p3), .val (.ref b4), .val (.ref b6), .val (.ref b4), .val (.ref b4), .val (.int (p1 &&& (3 : Int32))), .val .null, .unset, .unset, .unset, .unset] [(.int (p1 &&& (3 : Int32)))])) _
    refine XS.iconst X7.here hx rfl (hb hby at_80) ?_
    show Steps _ _ _ (T7.setTop (mkF m 81 #[.val (.int p1), .val (.int p2), .val (.int p3), .val (.ref b4), .val (.ref b6), .val (.ref b4), .val (.ref b4), .val (.int (p1 &&& (3 : Int32))), .val .null, .unset, .unset, .unset, .unset] [(.int (2 : Int32)), (.int (p1 &&& (3 : Int32)))])) _
    refine XS.icmpNo X7.here hx rfl (hb hby at_81) rfl (teq hc81).2 ?_
    show Steps _ _ _ (T7.setTop (mkF m 84 #[.val (.int p1), .val (.int p2), .val (.int p3), .val (.ref b4), .val (.ref b6), .val (.ref b4), .val (.ref b4), .val (.int (p1 &&& (3 : Int32))), .val .null, .unset, .unset, .unset, .unset] [])) _
    refine XS.aload X7.here hx rfl (hb hby at_84) rfl rfl ?_
    show Steps _ _ _ (T7.setTop (mkF m 86 #[.val (.int p1), .val (.int p2), .val (.int p3), .val (.ref b4), .val (.ref b6), .val (.ref b4), .val (.ref b4), .val (.int (p1 &&& (3 : Int32))), .val .null, .unset, .unset, .unset, .unset] [(.ref b4)])) _
    refine st8 _ ?_
    show Steps _ _ _ (T8.setTop (mkF m 89 #[.val (.int p1), .val (.int p2), .val (.int p3), .val (.ref b4), .val (.ref b6), .val (.ref b4), .val (.ref b4), .val (.int (p1 &&& (3 : Int32))), .val .null, .unset, .unset, .unset, .unset] [(.ref uC), (.ref b4)])) _
    refine st9.trans ?_
    show Steps _ _ _ (T9.setTop (mkF m 92 #[.val (.int p1), .val (.int p2), .val (.int p3), .val (.ref b4), .val (.ref b6), .val (.ref b4), .val (.ref b4), .val (.int (p1 &&& (3 : Int32))), .val .null, .unset, .unset, .unset, .unset] [])) _
    refine st10 _ ?_
    show Steps _ _ _ (T10.setTop (mkF m 95 #[.val (.int p1), .val (.int p2), .val (.int p3), .val (.ref b4), .val (.ref b6), .val (.ref b4), .val (.ref b4), .val (.int (p1 &&& (3 : Int32))), .val .null, .unset, .unset, .unset, .unset] [(.ref uC)])) _
    refine XS.astore X10.here hx rfl (hb hby at_95) rfl rfl (l' := #[.val (.int p1), .val (.int p2), .val (.int p3), .val (.ref b4), .val (.ref b6), .val (.ref b4), .val (.ref b4), .val (.int (p1 &&& (3 : Int32))), .val (.ref uC), .unset, .unset, .unset, .unset]) rfl ?_
    show Steps _ _ _ (T10.setTop (mkF m 97 #[.val (.int p1), .val (.int p2), .val (.int p3), .val (.ref b4), .val (.ref b6), .val (.ref b4), .val (.ref b4), .val (.int (p1 &&& (3 : Int32))), .val (.ref uC), .unset, .unset, .unset, .unset] [])) _
    refine XS.goto X10.here hx rfl (pc0 := 97) (pc' := 127) rfl (hb hby at_97) (by decide) (by decide) ?_
    show Steps _ _ _ (T10.setTop (mkF m 127 #[.val (.int p1), .val (.int p2), .val (.int p3), .val (.ref b4), .val (.ref b6), .val (.ref b4), .val (.ref b4), .val (.int (p1 &&& (3 : Int32))), .val (.ref uC), .unset, .unset, .unset, .unset] [])) _
    refine XS.aload X10.here hx rfl (hb hby at_127) rfl rfl ?_
    show Steps _ _ _ (T10.setTop (mkF m 129 #[.val (.int p1), .val (.int p2), .val (.int p3), .val (.ref b4), .val (.ref b6), .val (.ref b4), .val (.ref b4), .val (.int (p1 &&& (3 : Int32))), .val (.ref uC), .unset, .unset, .unset, .unset] [(.ref b4)])) _
    refine st11.trans ?_
    show Steps _ _ _ (T11.setTop (mkF m 132 #[.val (.int p1), .val (.int p2), .val (.int p3), .val (.ref b4), .val (.ref b6), .val (.ref b4), .val (.ref b4), .val (.int (p1 &&& (3 : Int32))), .val (.ref uC), .unset, .unset, .unset, .unset] [(.int (1 : Int32))])) _
    refine XS.aload X11.here hx rfl (hb hby at_132) rfl rfl ?_
    show Steps _ _ _ (T11.setTop (mkF m 134 #[.val (.int p1), .val (.int p2), .val (.int p3), .val (.ref b4), .val (.ref b6), .val (.ref b4), .val (.ref b4), .val (.int (p1 &&& (3 : Int32))), .val (.ref uC), .unset, .unset, .unset, .unset] [(.ref uC), (.int (1 : Int32))])) _
    refine XS.ifnullNo X11.here hx rfl (hb hby at_134) rfl ?_
    show Steps _ _ _ (T11.setTop (mkF m 137 #[.val (.int p1), .val (.int p2), .val (.int p3), .val (.ref b4), .val (.ref b6), .val (.ref b4), .val (.ref b4), .val (.int (p1 &&& (3 : Int32))), .val (.ref uC), .unset, .unset, .unset, .unset] [(.int (1 : Int32))])) _
    refine XS.iconst X11.here hx rfl (hb hby at_137) ?_
    show Steps _ _ _ (T11.setTop (mkF m 138 #[.val (.int p1), .val (.int p2), .val (.int p3), .val (.ref b4), .val (.ref b6), .val (.ref b4), .val (.ref b4), .val (.int (p1 &&& (3 : Int32))), .val (.ref uC), .unset, .unset, .unset, .unset] [(.int (1 : Int32)), (.int (1 : Int32))])) _
    refine XS.goto X11.here hx rfl (pc0 := 138) (pc' := 142) rfl (hb hby at_138) (by decide) (by decide) ?_
    show Steps _ _ _ (T11.setTop (mkF m 142 #[.val (.int p1), .val (.int p2), .val (.int p3), .val (.ref b4), .val (.ref b6), .val (.ref b4), .val (.ref b4), .val (.int (p1 &&& (3 : Int32))), .val (.ref uC), .unset, .unset, .unset, .unset] [(.int (1 : Int32)), (.int (1 : Int32))])) _
    refine XS.icmpNo X11.here hx rfl (hb hby at_142) rfl (teq (rfl : (1 : Int32) = (1 : Int32))).2 ?_
    show Steps _ _ _ (T11.setTop (mkF m 145 #[.val (.int p1), .val (.int p2), .val (.int p3), .val (.ref b4), .val (.ref b6), .val (.ref b4), .val (.ref b4), .val (.int (p1 &&& (3 : Int32))), .val (.ref uC), .unset, .unset, .unset, .unset] [])) _
    refine XS.iconst X11.here hx rfl (hb hby at_145) ?_
    show Steps _ _ _ (T11.setTop (mkF m 146 #[.val (.int p1), .val (.int p2), .val (.int p3), .val (.ref b4), .val (.ref b6), .val (.ref b4), .val (.ref b4), .val (.int (p1 &&& (3 : Int32))), .val (.ref uC), .unset, .unset, .unset, .unset] [(.int (1 : Int32))])) _
    refine XS.goto X11.here hx rfl (pc0 := 146) (pc' := 150) rfl (hb hby at_146) (by decide) (by decide) ?_
    show Steps _ _ _ (T11.setTop (mkF m 150 #[.val (.int p1), .val (.int p2), .val (.int p3), .val (.ref b4), .val (.ref b6), .val (.ref b4), .val (.ref b4), .val (.int (p1 &&& (3 : Int32))), .val (.ref uC), .unset, .unset, .unset, .unset] [(.int (1 : Int32))])) _
    refine XS.istore X11.here hx rfl (hb hby at_150) rfl (l' := #[.val (.int p1), .val (.int p2), .val (.int p3), .val (.ref b4), .val (.ref b6), .val (.ref b4), .val (.ref b4), .val (.int (p1 &&& (3 : Int32))), .val (.ref uC), .val (.int (1 : Int32)), .unset, .unset, .unset]) rfl ?_
    show Steps _ _ _ (T11.setTop (mkF m 152 #[.val (.int p1), .val (.int p2), .val (.int p3), .val (.ref b4), .val (.ref b6), .val (.ref b4), .val (.ref b4), .val (.int (p1 &&& (3 : Int32))), .val (.ref uC), .val (.int (1 : Int32)), .unset, .unset, .unset] [])) _
    refine XS.aload X11.here hx rfl (hb hby at_152) rfl rfl ?_
    show Steps _ _ _ (T11.setTop (mkF m 154 #[.val (.int p1), .val (.int p2), .val (.int p3), .val (.ref b4), .val (.ref b6), .val (.ref b4), .val (.ref b4), .val (.int (p1 &&& (3 : Int32))), .val (.ref uC), .val (.int (1 : Int32)), .unset, .unset, .unset] [(.ref b4)])) _
    refine st12.trans ?_
    show Steps _ _ _ (T12.setTop (mkF m 157 #[.val (.int p1), .val (.int p2), .val (.int p3), .val (.ref b4), .val (.ref b6), .val (.ref b4), .val (.ref b4), .val (.int (p1 &&& (3 : Int32))), .val (.ref uC), .val (.int (1 : Int32)), .unset, .unset, .unset] [(.ref uC)])) _
    refine XS.astore X12.here hx rfl (hb hby at_157) rfl rfl (l' := #[.val (.int p1), .val (.int p2), .val (.int p3), .val (.ref b4), .val (.ref b6), .val (.ref b4), .val (.ref b4), .val (.int (p1 &&& (3 : Int32))), .val (.ref uC), .val (.int (1 : Int32)), .val (.ref uC), .unset, .unset]) rfl ?_
    show Steps _ _ _ (T12.setTop (mkF m 159 #[.val (.int p1), .val (.int p2), .val (.int p3), .val (.ref b4), .val (.ref b6), .val (.ref b4), .val (.ref b4), .val (.int (p1 &&& (3 : Int32))), .val (.ref uC), .val (.int (1 : Int32)), .val (.ref uC), .unset, .unset] [])) _
    refine XS.aloadN X12.here hx rfl (hb hby at_159) rfl rfl ?_
    show Steps _ _ _ (T12.setTop (mkF m 160 #[.val (.int p1), .val (.int p2), .val (.int p3), .val (.ref b4), .val (.ref b6), .val (.ref b4), .val (.ref b4), .val (.int (p1 &&& (3 : Int32))), .val (.ref uC), .val (.int (1 : Int32)), .val (.ref uC), .unset, .unset] [(.ref b4)])) _
    refine st13.trans ?_
    show Steps _ _ _ (T13.setTop (mkF m 163 #[.val (.int p1), .val (.int p2), .val (.int p3), .val (.ref b4), .val (.ref b6), .val (.ref b4), .val (.ref b4), .val (.int (p1 &&& (3 : Int32))), .val (.ref uC), .val (.int (1 : Int32)), .val (.ref uC), .unset, .unset] [(.int (0 : Int32))])) _
    refine XS.ifNo X13.here hx rfl (hb hby at_163) rfl ((if0 _ _).trans (teq (rfl : (0 : Int32) = (0 : Int32))).2) ?_
    show Steps _ _ _ (T13.setTop (mkF m 166 #[.val (.int p1), .val (.int p2), .val (.int p3), .val (.ref b4), .val (.ref b6), .val (.ref b4), .val (.ref b4), .val (.int (p1 &&& (3 : Int32))), .val (.ref uC), .val (.int (1 : Int32)), .val (.ref uC), .unset, .unset] [])) _
    refine XS.aload X13.here hx rfl (hb hby at_166) rfl rfl ?_
    show Steps _ _ _ (T13.setTop (mkF m 168 #[.val (.int p1), .val (.int p2), .val (.int p3), .val (.ref b4), .val (.ref b6), .val (.ref b4), .val (.ref b4), .val (.int (p1 &&& (3 : Int32))), .val (.ref uC), .val (.int (1 : Int32)), .val (.ref uC), .unset, .unset] [(.ref b6)])) _
    refine st14.trans ?_
    show Steps _ _ _ (T14.setTop (mkF m 171 #[.val (.int p1), .val (.int p2), .val (.int p3), .val (.ref b4), .val (.ref b6), .val (.ref b4), .val (.ref b4), .val (.int (p1 &&& (3 : Int32))), .val (.ref uC), .val (.int (1 : Int32)), .val (.ref uC), .unset, .unset] [(.int (0 : Int32))])) _
    refine XS.ifNo X14.here hx rfl (hb hby at_171) rfl ((if0 _ _).trans (teq (rfl : (0 : Int32) = (0 : Int32))).2) ?_
    show Steps _ _ _ (T14.setTop (mkF m 174 #[.val (.int p1), .val (.int p2), .val (.int p3), .val (.ref b4), .val (.ref b6), .val (.ref b4), .val (.ref b4), .val (.int (p1 &&& (3 : Int32))), .val (.ref uC), .val (.int (1 : Int32)), .val (.ref uC), .unset, .unset] [])) _
    refine XS.iconst X14.here hx rfl (hb hby at_174) ?_
    show Steps _ _ _ (T14.setTop (mkF m 175 #[.val (.int p1), .val (.int p2), .val (.int p3), .val (.ref b4), .val (.ref b6), .val (.ref b4), .val (.ref b4), .val (.int (p1 &&& (3 : Int32))), .val (.ref uC), .val (.int (1 : Int32)), .val (.ref uC), .unset, .unset] [(.int (1 : Int32))])) _
    refine XS.goto X14.here hx rfl (pc0 := 175) (pc' := 179) rfl (hb hby at_175) (by decide) (by decide) ?_
    show Steps _ _ _ (T14.setTop (mkF m 179 #[.val (.int p1), .val (.int p2), .val (.int p3), .val (.ref b4), .val (.ref b6), .val (.ref b4), .val (.ref b4), .val (.int (p1 &&& (3 : Int32))), .val (.ref uC), .val (.int (1 : Int32)), .val (.ref uC), .unset, .unset] [(.int (1 : Int32))])) _
    refine XS.istore X14.here hx rfl (hb hby at_179) rfl (l' := #[.val (.int p1), .val (.int p2), .val (.int p3), .val (.ref b4), .val (.ref b6), .val (.ref b4), .val (.ref b4), .val (.int (p1 &&& (3 : Int32))), .val (.ref uC), .val (.int (1 : Int32)), .val (.ref uC), .val (.int (1 : Int32)), .unset]) rfl ?_
    show Steps _ _ _ (T14.setTop (mkF m 181 #[.val (.int p1), .val (.int p2), .val (.int p3), .val (.ref b4), .val (.ref b6), .val (.ref b4), .val (.ref b4), .val (.int (p1 &&& (3 : Int32))), .val (.ref uC), .val (.int (1 : Int32)), .val (.ref uC), .val (.int (1 : Int32)), .unset] [])) _
    refine XS.aload X14.here hx rfl (hb hby at_181) rfl rfl ?_
    show Steps _ _ _ (T14.setTop (mkF m 183 #[.val (.int p1), .val (.int p2), .val (.int p3), .val (.ref b4), .val (.ref b6), .val (.ref b4), .val (.ref b4), .val (.int (p1 &&& (3 : Int32))), .val (.ref uC), .val (.int (1 : Int32)), .val (.ref uC), .val (.int (1 : Int32)), .unset] [(.ref b4)])) _
    refine st15.trans ?_
    show Steps _ _ _ (T15.setTop (mkF m 186 #[.val (.int p1), .val (.int p2), .val (.int p3), .val (.ref b4), .val (.ref b6), .val (.ref b4), .val (.ref b4), .val (.int (p1 &&& (3 : Int32))), .val (.ref uC), .val (.int (1 : Int32)), .val (.ref uC), .val (.int (1 : Int32)), .unset] [.null])) _
    refine XS.astore X15.here hx rfl (hb hby at_186) rfl rfl (l' := #[.val (.int p1), .val (.int p2), .val (.int p3), .val (.ref b4), .val (.ref b6), .val (.ref b4), .val (.ref b4), .val (.int (p1 &&& (3 : Int32))), .val (.ref uC), .val (.int (1 : Int32)), .val (.ref uC), .val (.int (1 : Int32)), .val .null]) rfl ?_
    show Steps _ _ _ (T15.setTop (mkF m 188 #[.val (.int p1), .val (.int p2), .val (.int p3), .val (.ref b4), .val (.ref b6), .val (.ref b4), .val (.ref b4), .val (.int (p1 &&& (3 : Int32))), .val (.ref uC), .val (.int (1 : Int32)), .val (.ref uC), .val (.int (1 : Int32)), .val .null] [])) _
    refine XS.iload X15.here hx rfl (hb hby at_188) rfl ?_
    show Steps _ _ _ (T15.setTop (mkF m 190 #[.val (.int p1), .val (.int p2), .val (.int p3), .val (.ref b4), .val (.ref b6), .val (.ref b4), .val (.ref b4), .val (.int (p1 &&& (3 : Int32))), .val (.ref uC), .val (.int (1 : Int32)), .val (.ref uC), .val (.int (1 : Int32)), .val .null] [(.int (1 : Int32))])) _
    refine XS.ifNo X15.here hx rfl (hb hby at_190) rfl ((if0 _ _).trans (feq hc190).1) ?_
    show Steps _ _ _ (T15.setTop (mkF m 193 #[.val (.int p1), .val (.int p2), .val (.int p3), .val (.ref b4), .val (.ref b6), .val (.ref b4), .val (.ref b4), .val (.int (p1 &&& (3 : Int32))), .val (.ref uC), .val (.int (1 : Int32)), .val (.ref uC), .val (.int (1 : Int32)), .val .null] [])) _
    refine XS.aload X15.here hx rfl (hb hby at_193) rfl rfl ?_
    show Steps _ _ _ (T15.setTop (mkF m 195 #[.val (.int p1), .val (.int p2), .val (.int p3), .val (.ref b4), .val (.ref b6), .val (.ref b4), .val (.ref b4), .val (.int (p1 &&& (3 : Int32))), .val (.ref uC), .val (.int (1 : Int32)), .val (.ref uC), .val (.int (1 : Int32)), .val .null] [(.ref uC)])) _
    refine XS.aload X15.here hx rfl (hb hby at_195) rfl rfl ?_
    show Steps _ _ _ (T15.setTop (mkF m 197 #[.val (.int p1), .val (.int p2), .val (.int p3), .val (.ref b4), .val (.ref b6), .val (.ref b4), .val (.ref b4), .val (.int (p1 &&& (3 : Int32))), .val (.ref uC), .val (.int (1 : Int32)), .val (.ref uC), .val (.int (1 : Int32)), .val .null] [(.ref uC), (.ref uC)])) _
    refine Jvm.RoadKit.acmp (g := (mkF m 197 #[.val (.int p1), .val (.int p2), .val (.int p3), .val (.ref b4), .val (.ref b6), .val (.ref b4), .val (.ref b4), .val (.int (p1 &&& (3 : Int32))), .val (.ref uC), .val (.int (1 : Int32)), .val (.ref uC), .val (.int (1 : Int32)), .val .null] [(.ref uC), (.ref uC)])) X15 hx rfl rfl rfl (pc0 := 197) (pc' := 200) (same := true) rfl (hb hby at_197) rfl (decide_eq_true rfl) (by decide) (by decide) ?_
    show Steps _ _ _ (T15.setTop (mkF m 200 #[.val (.int p1), .val (.int p2), .val (.int p3), .val (.ref b4), .val (.ref b6), .val (.ref b4), .val (.ref b4), .val (.int (p1 &&& (3 : Int32))), .val (.ref uC), .val (.int (1 : Int32)), .val (.ref uC), .val (.int (1 : Int32)), .val .null] [])) _
    refine XS.iload X15.here hx rfl (hb hby at_200) rfl ?_
    show Steps _ _ _ (T15.setTop (mkF m 202 #[.val (.int p1), .val (.int p2), .val (.int p3), .val (.ref b4), .val (.ref b6), .val (.ref b4), .val (.ref b4), .val (.int (p1 &&& (3 : Int32))), .val (.ref uC), .val (.int (1 : Int32)), .val (.ref uC), .val (.int (1 : Int32)), .val .null] [(.int (1 : Int32))])) _
    refine XS.ifNo X15.here hx rfl (hb hby at_202) rfl ((if0 _ _).trans (feq hc202).1) ?_
    show Steps _ _ _ (T15.setTop (mkF m 205 #[.val (.int p1), .val (.int p2), .val (.int p3), .val (.ref b4), .val (.ref b6), .val (.ref b4), .val (.ref b4), .val (.int (p1 &&& (3 : Int32))), .val (.ref uC), .val (.int (1 : Int32)), .val (.ref uC), .val (.int (1 : Int32)), .val .null] [])) _
    refine XS.aload X15.here hx rfl (hb hby at_205) rfl rfl ?_
    show Steps _ _ _ (T15.setTop (mkF m 207 #[.val (.int p1), .val (.int p2), .val (.int p3), .val (.ref b4), .val (.ref b6), .val (.ref b4), .val (.ref b4), .val (.int (p1 &&& (3 : Int32))), .val (.ref uC), .val (.int (1 : Int32)), .val (.ref uC), .val (.int (1 : Int32)), .val .null] [.null])) _
    refine XS.ifnonnullNo X15.here hx rfl (hb hby at_207) rfl ?_
    show Steps _ _ _ (T15.setTop (mkF m 210 #[.val (.int p1), .val (.int p2), .val (.int p3), .val (.ref b4), .val (.ref b6), .val (.ref b4), .val (.ref b4), .val (.int (p1 &&& (3 : Int32))), .val (.ref uC), .val (.int (1 : Int32)), .val (.ref uC), .val (.int (1 : Int32)), .val .null] [])) _
    refine XS.iconst X15.here hx rfl (hb hby at_210) ?_
    show Steps _ _ _ (T15.setTop (mkF m 211 #[.val (.int p1), .val (.int p2), .val (.int p3), .val (.ref b4), .val (.ref b6), .val (.ref b4), .val (.ref b4), .val (.int (p1 &&& (3 : Int32))), .val (.ref uC), .val (.int (1 : Int32)), .val (.ref uC), .val (.int (1 : Int32)), .val .null] [(.int (1 : Int32))])) _
    refine XS.goto X15.here hx rfl (pc0 := 211) (pc' := 215) rfl (hb hby at_211) (by decide) (by decide) ?_
    show Steps _ _ _ (T15.setTop (mkF m 215 #[.val (.int p1), .val (.int p2), .val (.int p3), .val (.ref b4), .val (.ref b6), .val (.ref b4), .val (.ref b4), .val (.int (p1 &&& (3 : Int32))), .val (.ref uC), .val (.int (1 : Int32)), .val (.ref uC), .val (.int (1 : Int32)), .val .null] [(.int (1 : Int32))])) _
    exact retN X15 hx (t := .boolean) Bd.returns (by simp) (hb hby at_215) hr
  · show Q0 Z p1 p2 p3 uB uC h0 n0 _ T15.heap _
    exact ⟨rfl, N15⟩
-- 2. THE CONTRACT: what this body leaves is yours
-- its room: frames: the greatest, locals: the greatest, cells 4 + .., slots 32 + ..: rm1: frames + 1; locals 1 + 3 + 11 + its room's locals; its cells and slots besides; rm5: frames + 1; locals 1 + 2 + 11 + its room's locals; its cells and slots besides; rm9: frames + 1; locals 0 + 2 + 11 + its room's locals; its cells and slots besides; rm9: frames + 1; locals 0 + 2 + 11 + its room's locals; its cells and slots besides; rm7: frames + 1; locals 0 + 1 + 11 + its room's locals; its cells and slots besides; rm8: frames + 1; locals 0 + 2 + 11 + its room's locals; its cells and slots besides; rm7: frames + 1; locals 0 + 1 + 11 + its room's locals; its cells and slots besides; rm7: frames + 1; locals 0 + 1 + 11 + its room's locals; its cells and slots besides; rm8: frames + 1; locals 0 + 2 + 11 + its room's locals; its cells and slots besides
set_option maxRecDepth 65536 in
set_option maxHeartbeats 40000000 in
theorem rm0_tt3 (l : Launch) (Z : State) (a0 : Array Value) (hw : ∀ d ∈ tables_1, d.before a0 Z = true) (ws : List Jvm.Cond) (p1 : Int32) (p2 : Int32) (p3 : Int32) (uB : Addr) (uC : Addr) (h0 : Heap) (n0 : Nat) (Z0 : n0 ≤ h0.size) (S_BREAK : Sta Z h0 "com/example/transom/transom/Scope$Jump" "BREAK" "Lcom/example/transom/transom/Scope$Jump;" (.ref uB)) (S_CONTINUE : Sta Z h0 "com/example/transom/transom/Scope$Jump" "CONTINUE" "Lcom/example/transom/transom/Scope$Jump;" (.ref uC)) (hc23 : (p2 &&& (1 : Int32)) = (0 : Int32)) (hc37 : (p3 &&& (1 : Int32)) = (0 : Int32)) (hc59 : ¬ ((p1 &&& (3 : Int32)) = (1 : Int32))) (hc81 : ¬ ((p1 &&& (3 : Int32)) = (2 : Int32))) (hc103 : (p1 &&& (3 : Int32)) = (3 : Int32)) (hc190 : ¬ ((1 : Int32) = (0 : Int32))) (hc202 : ¬ ((1 : Int32) = (0 : Int32))) :
    MetFree l x (head1 (Jvm.Cond.code x code maxLocals ret :: ws) room_1) (fun a U => a = #[(.int p1), (.int p2), (.int p3)] ∧ Z.Warmed39 U.vm ∧ U.heap = h0) (fun _ _ _ _ _ => True) (fun _ U o U' => ∃ v L, o = .returned v ∧ Q0 Z p1 p2 p3 uB uC h0 n0 v U'.heap L ∧ FrameEnd U o U' L room_1.cells room_1.slots) := by
  refine MetFree.of_bodySF (plainFor_of_name pn_0) hisR ?_
  intro p e s m args below meth c s₁ Bd hml0 hP hK
  obtain ⟨rfl, hZ, hh⟩ := hP
  have hx := Bd.exec
  have hby := Bd.bytes
  have hml : c.maxLocals = 13 := hml0
  have hown : s.vm.findClass "com/example/transom/transom/ScopeLandPinLaw" = some m.cls := findClass_of_methodNamed Bd.named
  have hnm := (name_of_methodNamed Bd.named Bd.method).1
  have X0 : Stand p l e room_1 s m #[(.int p1), (.int p2), (.int p3)] below meth c s₁ [] 0 0 := Stand.of_body Bd
  have e0 : s₁.heap = h0 := by rw [← hh, Bd.state]; rfl
  have N0 := Fr.nil n0
  have pre0 : ∀ t, Steps p.tables e below (s₁.setTop (mkF m 0 #[.val (.int p1), .val (.int p2), .val (.int p3), .unset, .unset, .unset, .unset, .unset, .unset, .unset, .unset, .unset, .unset] [])) t → Steps p.tables e below (s₁.setTop (entryFrame m #[(.int p1), (.int p2), (.int p3)] maxLocals)) t := fun t k => castTop (ef_0 m p1 p2 p3) k
  obtain ⟨T4, h4, X4, e4, E4, A4, D4, -, st4⟩ := newO X0 hx hZ hown (ww hw 0 rfl) (ww hw 1 rfl) (ww hw 2 rfl) e0 (g := (mkF m 0 #[.val (.int p1), .val (.int p2), .val (.int p3), .unset, .unset, .unset, .unset, .unset, .unset, .unset, .unset, .unset, .unset] [])) rfl (hb hby at_0) (by decide) (by decide)
  obtain ⟨b4, g4⟩ : ∃ z, z = h0.size := ⟨_, rfl⟩
  rw [← g4] at A4 D4 st4
  have F_values_b4 : Fld Z h4 b4 "com/example/transom/transom/Scope" "values" "Ljava/util/Map;" .null := D4 (Or.inr (ww hw 26 rfl)) (ty := (.object "java/util/Map")) (by decide)
  have F_parent_b4 : Fld Z h4 b4 "com/example/transom/transom/Scope" "parent" "Lcom/example/transom/transom/Scope;" .null := D4 (Or.inr (ww hw 28 rfl)) (ty := (.object "com/example/transom/transom/Scope")) (by decide)
  have F_top_b4 : Fld Z h4 b4 "com/example/transom/transom/Scope" "top" "Lcom/example/transom/transom/Scope;" .null := D4 (Or.inr (ww hw 30 rfl)) (ty := (.object "com/example/transom/transom/Scope")) (by decide)
  have F_model_b4 : Fld Z h4 b4 "com/example/transom/transom/Scope" "model" "Ljava/util/Map;" .null := D4 (Or.inr (ww hw 32 rfl)) (ty := (.object "java/util/Map")) (by decide)
  have F_template_b4 : Fld Z h4 b4 "com/example/transom/transom/Scope" "template" "Lcom/example/transom/transom/Template;" .null := D4 (Or.inr (ww hw 34 rfl)) (ty := (.object "com/example/transom/transom/Template")) (by decide)
  have F_renderer_b4 : Fld Z h4 b4 "com/example/transom/transom/Scope" "renderer" "Lcom/example/transom/transom/Scope;" .null := D4 (Or.inr (ww hw 36 rfl)) (ty := (.object "com/example/transom/transom/Scope")) (by decide)
  have F_calls_b4 : Fld Z h4 b4 "com/example/transom/transom/Scope" "calls" "I" (.int (0 : Int32)) := D4 (Or.inr (ww hw 38 rfl)) (ty := .int) (by decide)
  have F_jump_b4 : Fld Z h4 b4 "com/example/transom/transom/Scope" "jump" "Lcom/example/transom/transom/Scope$Jump;" .null := D4 (Or.inl (ww hw 51 rfl)) (ty := (.object "com/example/transom/transom/Scope$Jump")) (by decide)
  have E_b4 := A4
  have g_b4 : n0 ≤ b4 := Nat.le_trans Z0 (Nat.le_of_eq g4.symm)
  have sz_b4 : h0.size ≤ b4 := (Nat.le_trans (Keep.refl h0 []).1 (Nat.le_of_eq g4.symm))
  have K4 : Keep h0 h4 [] := (Keep.refl h0 []).ext E4
  obtain ⟨_, _, ⟨T5, L5, k5, n5⟩, -, X5, ⟨Lc5, hQ5, l5, y5, z5⟩, st5⟩ := X4.specialBack hx (y := (⟨"com/example/transom/transom/Scope", "<init>", "(Ljava/util/Map;Lcom/example/transom/transom/Template;)V"⟩ : MethodName)) rfl hown (mvT hZ (ww hw 3 rfl)) (mvT hZ (ww hw 4 rfl)) (mvT hZ (ww hw 5 rfl)) (by decide) (backOf (W := 1) (rm1 l Z a0 hw [] b4 _ _ _ _ _ _ _  h4 n0 (Nat.le_trans Z0 E4.1) F_jump_b4 E_b4 F_values_b4 g_b4 F_parent_b4 F_top_b4 F_model_b4 F_template_b4 F_renderer_b4 F_calls_b4) hZ (ww hw 5 rfl) (ww hw 2 rfl) (by decide) (by decide)) (g := (mkF m 6 #[.val (.int p1), .val (.int p2), .val (.int p3), .unset, .unset, .unset, .unset, .unset, .unset, .unset, .unset, .unset, .unset] [.null, .null, (.ref b4), (.ref b4)])) rfl (by rw [hml]; rfl) (Steps.refl _) (a := b4) (argsL := [.null, .null]) (rest := [(.ref b4)]) (lenOf pd_0_0 rfl) rfl (by show 2 * 0 + _ ≤ _; exact Nat.le_of_eq rfl) (hb hby at_6) (fun _ _ => ⟨rfl, e4, (by decide : 1 + 1 ≤ _), (by decide : 8 + 8 ≤ _)⟩)
  dsimp only [Pt.U, Pt.locs, Pt.cells, Pt.slots] at X5 l5 y5 z5 st5 hQ5
  subst l5 y5 z5
  obtain ⟨rfl, N5q, Kc5, Ec5, Ftop5, Fmodel5, Ftemplate5, Frenderer5, Fcalls5, Fjump5⟩ := hQ5
  have N5 := Fr.app N0 N5q
  have S_BREAK_5 := own_stak (S_BREAK.ext E4) Kc5 (allS (own_nst E_b4) all0)
  have S_CONTINUE_5 := own_stak (S_CONTINUE.ext E4) Kc5 (allS (own_nst E_b4) all0)
  have K5 : Keep h0 T5.heap [] := K4.trans Kc5 (allS (Or.inr sz_b4) all0)
  obtain ⟨T6, h6, X6, e6, E6, A6, D6, -, st6⟩ := newO X5 hx hZ hown (ww hw 0 rfl) (ww hw 1 rfl) (ww hw 2 rfl) rfl (g := (mkF m 10 #[.val (.int p1), .val (.int p2), .val (.int p3), .val (.ref b4), .unset, .unset, .unset, .unset, .unset, .unset, .unset, .unset, .unset] [])) rfl (hb hby at_10) (by decide) (by decide)
  obtain ⟨b6, g6⟩ : ∃ z, z = T5.heap.size := ⟨_, rfl⟩
  rw [← g6] at A6 D6 st6
  have F_values_b6 : Fld Z h6 b6 "com/example/transom/transom/Scope" "values" "Ljava/util/Map;" .null := D6 (Or.inr (ww hw 26 rfl)) (ty := (.object "java/util/Map")) (by decide)
  have F_parent_b6 : Fld Z h6 b6 "com/example/transom/transom/Scope" "parent" "Lcom/example/transom/transom/Scope;" .null := D6 (Or.inr (ww hw 28 rfl)) (ty := (.object "com/example/transom/transom/Scope")) (by decide)
  have F_top_b6 : Fld Z h6 b6 "com/example/transom/transom/Scope" "top" "Lcom/example/transom/transom/Scope;" .null := D6 (Or.inr (ww hw 30 rfl)) (ty := (.object "com/example/transom/transom/Scope")) (by decide)
  have F_model_b6 : Fld Z h6 b6 "com/example/transom/transom/Scope" "model" "Ljava/util/Map;" .null := D6 (Or.inr (ww hw 32 rfl)) (ty := (.object "java/util/Map")) (by decide)
  have F_template_b6 : Fld Z h6 b6 "com/example/transom/transom/Scope" "template" "Lcom/example/transom/transom/Template;" .null := D6 (Or.inr (ww hw 34 rfl)) (ty := (.object "com/example/transom/transom/Template")) (by decide)
  have F_renderer_b6 : Fld Z h6 b6 "com/example/transom/transom/Scope" "renderer" "Lcom/example/transom/transom/Scope;" .null := D6 (Or.inr (ww hw 36 rfl)) (ty := (.object "com/example/transom/transom/Scope")) (by decide)
  have F_calls_b6 : Fld Z h6 b6 "com/example/transom/transom/Scope" "calls" "I" (.int (0 : Int32)) := D6 (Or.inr (ww hw 38 rfl)) (ty := .int) (by decide)
  have F_jump_b6 : Fld Z h6 b6 "com/example/transom/transom/Scope" "jump" "Lcom/example/transom/transom/Scope$Jump;" .null := D6 (Or.inl (ww hw 51 rfl)) (ty := (.object "com/example/transom/transom/Scope$Jump")) (by decide)
  have E_b6 := A6
  have g_b6 : n0 ≤ b6 := Nat.le_trans (Nat.le_trans (Nat.le_trans Z0 E4.1) Kc5.1) (Nat.le_of_eq g6.symm)
  have sz_b6 : h0.size ≤ b6 := (Nat.le_trans K5.1 (Nat.le_of_eq g6.symm))
  have K6 : Keep h0 h6 [] := K5.ext E6
  obtain ⟨_, _, ⟨T7, L7, k7, n7⟩, -, X7, ⟨Lc7, hQ7, l7, y7, z7⟩, st7⟩ := X6.specialBack hx (y := (⟨"com/example/transom/transom/Scope", "<init>", "(Lcom/example/transom/transom/Scope;)V"⟩ : MethodName)) rfl hown (mvT hZ (ww hw 39 rfl)) (mvT hZ (ww hw 40 rfl)) (mvT hZ (ww hw 41 rfl)) (by decide) (backOf (W := 1) (rm5 l Z a0 hw [] b6 b4 b4 (0 : Int32) h6 n0 (Nat.le_trans (Nat.le_trans (Nat.le_trans Z0 E4.1) Kc5.1) E6.1) (Nat.ne_of_lt (Nat.lt_of_lt_of_le (E_b4.keep Kc5).lt (Nat.le_of_eq g6.symm))) E_b6 F_values_b6 F_parent_b6 F_top_b6 F_model_b6 F_template_b6 F_renderer_b6 F_calls_b6 g_b6 (Ftop5.ext E6) (Fmodel5.ext E6) (Ftemplate5.ext E6) (Frenderer5.ext E6) (Fcalls5.ext E6)) hZ (ww hw 41 rfl) (ww hw 2 rfl) (by decide) (by decide)) (g := (mkF m 15 #[.val (.int p1), .val (.int p2), .val (.int p3), .val (.ref b4), .unset, .unset, .unset, .unset, .unset, .unset, .unset, .unset, .unset] [(.ref b4), (.ref b6), (.ref b6)])) rfl (by rw [hml]; rfl) (Steps.refl _) (a := b6) (argsL := [(.ref b4)]) (rest := [(.ref b6)]) (lenOf pd_0_2 rfl) rfl (by show 2 * 0 + _ ≤ _; exact Nat.le_of_eq rfl) (hb hby at_15) (fun _ _ => ⟨rfl, e6, (by decide : 3 + 1 ≤ _), (by decide : 24 + 8 ≤ _)⟩)
  dsimp only [Pt.U, Pt.locs, Pt.cells, Pt.slots] at X7 l7 y7 z7 st7 hQ7
  subst l7 y7 z7
  obtain ⟨rfl, N7q, Kc7, Ec7, Ft7⟩ := hQ7
  have N7 := Fr.app N5 N7q
  have S_BREAK_7 := own_stak (S_BREAK_5.ext E6) Kc7 (allS (own_nst E_b6) all0)
  have S_CONTINUE_7 := own_stak (S_CONTINUE_5.ext E6) Kc7 (allS (own_nst E_b6) all0)
  have K7 : Keep h0 T7.heap [] := K6.trans Kc7 (allS (Or.inr sz_b6) all0)
  obtain ⟨T8, X8, e8, st8⟩ := getS2 X7 hx hZ hown (host := "") (Or.inl (ww hw 57 rfl)) Via.refl rfl S_BREAK_7 (g := (mkF m 108 #[.val (.int p1), .val (.int p2), .val (.int p3), .val (.ref b4), .val (.ref b6), .val (.ref b4), .val (.ref b4), .val (.int (p1 &&& (3 : Int32))), .val .null, .unset, .unset, .unset, .unset] [(.ref b4)])) rfl (hb hby at_108)
  obtain ⟨cq9, kq9, q9a, q9b, q9c⟩ := isOf hZ e8 (((E_b4.keep Kc5).ext E6).keep Kc7)
  obtain ⟨_, _, ⟨T9, L9, k9, n9⟩, -, X9, ⟨Lc9, hQ9, l9, y9, z9⟩, st9⟩ := X8.virtualBack hx (y := (⟨"com/example/transom/transom/Scope", "jump", "(Lcom/example/transom/transom/Scope$Jump;)V"⟩ : MethodName)) (z := (⟨"com/example/transom/transom/Scope", "jump", "(Lcom/example/transom/transom/Scope$Jump;)V"⟩ : MethodName)) hown (mvT hZ (ww hw 60 rfl)) (mvT hZ (ww hw 61 rfl)) (notFace_of_selects (args := #[]) (mvT hZ (ww hw 63 rfl))) (mvT hZ (ww hw 63 rfl)) (mvT hZ (ww hw 62 rfl)) (by decide) (backOf (W := 0) (rmS l Z a0 hw [] b4 uB b4 _ T7.heap n0 (Nat.le_trans (Nat.le_trans (Nat.le_trans (Nat.le_trans Z0 E4.1) Kc5.1) E6.1) Kc7.1) ((Ftop5.ext E6).keep Kc7 (ninS (Nat.ne_of_lt (Nat.lt_of_lt_of_le (E_b4.keep Kc5).lt (Nat.le_of_eq g6.symm))) nin0)) ((Ftop5.ext E6).keep Kc7 (ninS (Nat.ne_of_lt (Nat.lt_of_lt_of_le (E_b4.keep Kc5).lt (Nat.le_of_eq g6.symm))) nin0)) (((E_b4.keep Kc5).ext E6).keep Kc7) ((Fjump5.ext E6).keep Kc7 (ninS (Nat.ne_of_lt (Nat.lt_of_lt_of_le (E_b4.keep Kc5).lt (Nat.le_of_eq g6.symm))) nin0)) g_b4) hZ (ww hw 64 rfl) (ww hw 2 rfl) (by decide) (by decide)) q9a q9c (g := (mkF m 111 #[.val (.int p1), .val (.int p2), .val (.int p3), .val (.ref b4), .val (.ref b6), .val (.ref b4), .val (.ref b4), .val (.int (p1 &&& (3 : Int32))), .val .null, .unset, .unset, .unset, .unset] [(.ref uB), (.ref b4)])) rfl (by rw [hml]; rfl) (Steps.refl _) (argsL := [(.ref uB)]) (rest := []) (lenOf pd_0_6 rfl) rfl (by show 2 * 0 + _ ≤ _; exact Nat.le_of_eq rfl) (hb hby at_111) (fun _ _ => ⟨rfl, e8, (by decide : 4 + 0 ≤ _), (by decide : 32 + 0 ≤ _)⟩)
  dsimp only [Pt.U, Pt.locs, Pt.cells, Pt.slots] at X9 l9 y9 z9 st9 hQ9
  subst l9 y9 z9
  obtain ⟨rfl, N9q, Kc9, Fj9, Ft9⟩ := hQ9
  have N9 := Fr.app N7 N9q
  have S_BREAK_9 := own_stak S_BREAK_7 Kc9 (allS (own_nst (((E_b4.keep Kc5).ext E6).keep Kc7)) all0)
  have S_CONTINUE_9 := own_stak S_CONTINUE_7 Kc9 (allS (own_nst (((E_b4.keep Kc5).ext E6).keep Kc7)) all0)
  have K9 : Keep h0 T9.heap [] := K7.trans Kc9 (allS (Or.inr sz_b4) all0)
  obtain ⟨T10, X10, e10, st10⟩ := getS2 X9 hx hZ hown (host := "") (Or.inl (ww hw 65 rfl)) Via.refl rfl S_CONTINUE_9 (g := (mkF m 116 #[.val (.int p1), .val (.int p2), .val (.int p3), .val (.ref b4), .val (.ref b6), .val (.ref b4), .val (.ref b4), .val (.int (p1 &&& (3 : Int32))), .val .null, .unset, .unset, .unset, .unset] [(.ref b4)])) rfl (hb hby at_116)
  obtain ⟨cq11, kq11, q11a, q11b, q11c⟩ := isOf hZ e10 ((((E_b4.keep Kc5).ext E6).keep Kc7).keep Kc9)
  obtain ⟨_, _, ⟨T11, L11, k11, n11⟩, -, X11, ⟨Lc11, hQ11, l11, y11, z11⟩, st11⟩ := X10.virtualBack hx (y := (⟨"com/example/transom/transom/Scope", "jump", "(Lcom/example/transom/transom/Scope$Jump;)V"⟩ : MethodName)) (z := (⟨"com/example/transom/transom/Scope", "jump", "(Lcom/example/transom/transom/Scope$Jump;)V"⟩ : MethodName)) hown (mvT hZ (ww hw 60 rfl)) (mvT hZ (ww hw 61 rfl)) (notFace_of_selects (args := #[]) (mvT hZ (ww hw 63 rfl))) (mvT hZ (ww hw 63 rfl)) (mvT hZ (ww hw 62 rfl)) (by decide) (backOf (W := 0) (rmS l Z a0 hw [] b4 uC b4 _ T9.heap n0 (Nat.le_trans (Nat.le_trans (Nat.le_trans (Nat.le_trans (Nat.le_trans Z0 E4.1) Kc5.1) E6.1) Kc7.1) Kc9.1) Ft9 Ft9 ((((E_b4.keep Kc5).ext E6).keep Kc7).keep Kc9) Fj9 g_b4) hZ (ww hw 64 rfl) (ww hw 2 rfl) (by decide) (by decide)) q11a q11c (g := (mkF m 119 #[.val (.int p1), .val (.int p2), .val (.int p3), .val (.ref b4), .val (.ref b6), .val (.ref b4), .val (.ref b4), .val (.int (p1 &&& (3 : Int32))), .val .null, .unset, .unset, .unset, .unset] [(.ref uC), (.ref b4)])) rfl (by rw [hml]; rfl) (Steps.refl _) (argsL := [(.ref uC)]) (rest := []) (lenOf pd_0_6 rfl) rfl (by show 2 * 0 + _ ≤ _; exact Nat.le_of_eq rfl) (hb hby at_119) (fun _ _ => ⟨rfl, e10, (by decide : 4 + 0 ≤ _), (by decide : 32 + 0 ≤ _)⟩)
  dsimp only [Pt.U, Pt.locs, Pt.cells, Pt.slots] at X11 l11 y11 z11 st11 hQ11
  subst l11 y11 z11
  obtain ⟨rfl, N11q, Kc11, Fj11, Ft11⟩ := hQ11
  have N11 := Fr.app N9 N11q
  have S_BREAK_11 := own_stak S_BREAK_9 Kc11 (allS (own_nst ((((E_b4.keep Kc5).ext E6).keep Kc7).keep Kc9)) all0)
  have S_CONTINUE_11 := own_stak S_CONTINUE_9 Kc11 (allS (own_nst ((((E_b4.keep Kc5).ext E6).keep Kc7).keep Kc9)) all0)
  have K11 : Keep h0 T11.heap [] := K9.trans Kc11 (allS (Or.inr sz_b4) all0)
  obtain ⟨T12, X12, e12, st12⟩ := getS2 X11 hx hZ hown (host := "") (Or.inl (ww hw 65 rfl)) Via.refl rfl S_CONTINUE_11 (g := (mkF m 122 #[.val (.int p1), .val (.int p2), .val (.int p3), .val (.ref b4), .val (.ref b6), .val (.ref b4), .val (.ref b4), .val (.int (p1 &&& (3 : Int32))), .val .null, .unset, .unset, .unset, .unset] [])) rfl (hb hby at_122)
  obtain ⟨cq13, kq13, q13a, q13b, q13c⟩ := isOf hZ e12 (((((E_b4.keep Kc5).ext E6).keep Kc7).keep Kc9).keep Kc11)
  obtain ⟨_, _, ⟨T13, L13, k13, n13⟩, -, X13, ⟨Lc13, hQ13, l13, y13, z13⟩, st13⟩ := X12.virtualBack hx (y := (⟨"com/example/transom/transom/Scope", "jumping", "()Z"⟩ : MethodName)) (z := (⟨"com/example/transom/transom/Scope", "jumping", "()Z"⟩ : MethodName)) hown (mvT hZ (ww hw 45 rfl)) (mvT hZ (ww hw 46 rfl)) (notFace_of_selects (args := #[]) (mvT hZ (ww hw 48 rfl))) (mvT hZ (ww hw 48 rfl)) (mvT hZ (ww hw 47 rfl)) (by decide) (backOf (W := 0) (rmJr l Z a0 hw [] b4 b4 uC T11.heap n0 (Nat.le_trans (Nat.le_trans (Nat.le_trans (Nat.le_trans (Nat.le_trans (Nat.le_trans Z0 E4.1) Kc5.1) E6.1) Kc7.1) Kc9.1) Kc11.1) Ft11 Fj11) hZ (ww hw 49 rfl) (ww hw 2 rfl) (by decide) (by decide)) q13a q13c (g := (mkF m 129 #[.val (.int p1), .val (.int p2), .val (.int p3), .val (.ref b4), .val (.ref b6), .val (.ref b4), .val (.ref b4), .val (.int (p1 &&& (3 : Int32))), .val (.ref uC), .unset, .unset, .unset, .unset] [(.ref b4)])) rfl (by rw [hml]; rfl) (Steps.refl _) (argsL := []) (rest := []) (lenOf pd_0_4 rfl) rfl (by show 2 * 0 + _ ≤ _; exact Nat.le_of_eq rfl) (hb hby at_129) (fun _ _ => ⟨rfl, e12, (by decide : 4 + 0 ≤ _), (by decide : 32 + 0 ≤ _)⟩)
  dsimp only [Pt.U, Pt.locs, Pt.cells, Pt.slots] at X13 l13 y13 z13 st13 hQ13
  subst l13 y13 z13
  obtain ⟨rfl, N13q, eh13⟩ := hQ13
  have N13 := Fr.app N11 N13q
  obtain ⟨cq14, kq14, q14a, q14b, q14c⟩ := isOf hZ eh13 (((((E_b4.keep Kc5).ext E6).keep Kc7).keep Kc9).keep Kc11)
  obtain ⟨_, _, ⟨T14, L14, k14, n14⟩, -, X14, ⟨Lc14, hQ14, l14, y14, z14⟩, st14⟩ := X13.virtualBack hx (y := (⟨"com/example/transom/transom/Scope", "land", "()Lcom/example/transom/transom/Scope$Jump;"⟩ : MethodName)) (z := (⟨"com/example/transom/transom/Scope", "land", "()Lcom/example/transom/transom/Scope$Jump;"⟩ : MethodName)) hown (mvT hZ (ww hw 52 rfl)) (mvT hZ (ww hw 53 rfl)) (notFace_of_selects (args := #[]) (mvT hZ (ww hw 55 rfl))) (mvT hZ (ww hw 55 rfl)) (mvT hZ (ww hw 54 rfl)) (by decide) (backOf (W := 0) (rmLr l Z a0 hw [] b4 b4 uC T11.heap n0 (Nat.le_trans (Nat.le_trans (Nat.le_trans (Nat.le_trans (Nat.le_trans (Nat.le_trans Z0 E4.1) Kc5.1) E6.1) Kc7.1) Kc9.1) Kc11.1) Ft11 Ft11 Fj11 (((((E_b4.keep Kc5).ext E6).keep Kc7).keep Kc9).keep Kc11) g_b4) hZ (ww hw 56 rfl) (ww hw 2 rfl) (by decide) (by decide)) q14a q14c (g := (mkF m 154 #[.val (.int p1), .val (.int p2), .val (.int p3), .val (.ref b4), .val (.ref b6), .val (.ref b4), .val (.ref b4), .val (.int (p1 &&& (3 : Int32))), .val (.ref uC), .val (.int (1 : Int32)), .unset, .unset, .unset] [(.ref b4)])) rfl (by rw [hml]; rfl) (Steps.refl _) (argsL := []) (rest := []) (lenOf pd_0_5 rfl) rfl (by show 2 * 0 + _ ≤ _; exact Nat.le_of_eq rfl) (hb hby at_154) (fun _ _ => ⟨rfl, eh13, (by decide : 4 + 0 ≤ _), (by decide : 32 + 0 ≤ _)⟩)
  dsimp only [Pt.U, Pt.locs, Pt.cells, Pt.slots] at X14 l14 y14 z14 st14 hQ14
  subst l14 y14 z14
  obtain ⟨rfl, N14q, Kc14, Fj14, Ft14⟩ := hQ14
  have N14 := Fr.app N13 N14q
  have S_BREAK_14 := own_stak S_BREAK_11 Kc14 (allS (own_nst (((((E_b4.keep Kc5).ext E6).keep Kc7).keep Kc9).keep Kc11)) all0)
  have S_CONTINUE_14 := own_stak S_CONTINUE_11 Kc14 (allS (own_nst (((((E_b4.keep Kc5).ext E6).keep Kc7).keep Kc9).keep Kc11)) all0)
  have K14 : Keep h0 T14.heap [] := K11.trans Kc14 (allS (Or.inr sz_b4) all0)
  obtain ⟨cq15, kq15, q15a, q15b, q15c⟩ := isOf hZ rfl ((((((E_b4.keep Kc5).ext E6).keep Kc7).keep Kc9).keep Kc11).keep Kc14)
  obtain ⟨_, _, ⟨T15, L15, k15, n15⟩, -, X15, ⟨Lc15, hQ15, l15, y15, z15⟩, st15⟩ := X14.virtualBack hx (y := (⟨"com/example/transom/transom/Scope", "jumping", "()Z"⟩ : MethodName)) (z := (⟨"com/example/transom/transom/Scope", "jumping", "()Z"⟩ : MethodName)) hown (mvT hZ (ww hw 45 rfl)) (mvT hZ (ww hw 46 rfl)) (notFace_of_selects (args := #[]) (mvT hZ (ww hw 48 rfl))) (mvT hZ (ww hw 48 rfl)) (mvT hZ (ww hw 47 rfl)) (by decide) (backOf (W := 0) (rmJn l Z a0 hw [] b4 b4 T14.heap n0 (Nat.le_trans (Nat.le_trans (Nat.le_trans (Nat.le_trans (Nat.le_trans (Nat.le_trans (Nat.le_trans Z0 E4.1) Kc5.1) E6.1) Kc7.1) Kc9.1) Kc11.1) Kc14.1) Ft14 Fj14) hZ (ww hw 49 rfl) (ww hw 2 rfl) (by decide) (by decide)) q15a q15c (g := (mkF m 160 #[.val (.int p1), .val (.int p2), .val (.int p3), .val (.ref b4), .val (.ref b6), .val (.ref b4), .val (.ref b4), .val (.int (p1 &&& (3 : Int32))), .val (.ref uC), .val (.int (1 : Int32)), .val (.ref uC), .unset, .unset] [(.ref b4)])) rfl (by rw [hml]; rfl) (Steps.refl _) (argsL := []) (rest := []) (lenOf pd_0_4 rfl) rfl (by show 2 * 0 + _ ≤ _; exact Nat.le_of_eq rfl) (hb hby at_160) (fun _ _ => ⟨rfl, rfl, (by decide : 4 + 0 ≤ _), (by decide : 32 + 0 ≤ _)⟩)
  dsimp only [Pt.U, Pt.locs, Pt.cells, Pt.slots] at X15 l15 y15 z15 st15 hQ15
  subst l15 y15 z15
  obtain ⟨rfl, N15q, eh15⟩ := hQ15
  have N15 := Fr.app N14 N15q
  obtain ⟨cq16, kq16, q16a, q16b, q16c⟩ := isOf hZ eh15 ((((E_b6.keep Kc7).keep Kc9).keep Kc11).keep Kc14)
  obtain ⟨_, _, ⟨T16, L16, k16, n16⟩, -, X16, ⟨Lc16, hQ16, l16, y16, z16⟩, st16⟩ := X15.virtualBack hx (y := (⟨"com/example/transom/transom/Scope", "jumping", "()Z"⟩ : MethodName)) (z := (⟨"com/example/transom/transom/Scope", "jumping", "()Z"⟩ : MethodName)) hown (mvT hZ (ww hw 45 rfl)) (mvT hZ (ww hw 46 rfl)) (notFace_of_selects (args := #[]) (mvT hZ (ww hw 48 rfl))) (mvT hZ (ww hw 48 rfl)) (mvT hZ (ww hw 47 rfl)) (by decide) (backOf (W := 0) (rmJn l Z a0 hw [] b6 b4 T14.heap n0 (Nat.le_trans (Nat.le_trans (Nat.le_trans (Nat.le_trans (Nat.le_trans (Nat.le_trans (Nat.le_trans Z0 E4.1) Kc5.1) E6.1) Kc7.1) Kc9.1) Kc11.1) Kc14.1) (((Ft7.keep Kc9 (ninS (Ne.symm (Nat.ne_of_lt (Nat.lt_of_lt_of_le (E_b4.keep Kc5).lt (Nat.le_of_eq g6.symm)))) nin0)).keep Kc11 (ninS (Ne.symm (Nat.ne_of_lt (Nat.lt_of_lt_of_le (E_b4.keep Kc5).lt (Nat.le_of_eq g6.symm)))) nin0)).keep Kc14 (ninS (Ne.symm (Nat.ne_of_lt (Nat.lt_of_lt_of_le (E_b4.keep Kc5).lt (Nat.le_of_eq g6.symm)))) nin0)) Fj14) hZ (ww hw 49 rfl) (ww hw 2 rfl) (by decide) (by decide)) q16a q16c (g := (mkF m 168 #[.val (.int p1), .val (.int p2), .val (.int p3), .val (.ref b4), .val (.ref b6), .val (.ref b4), .val (.ref b4), .val (.int (p1 &&& (3 : Int32))), .val (.ref uC), .val (.int (1 : Int32)), .val (.ref uC), .unset, .unset] [(.ref b6)])) rfl (by rw [hml]; rfl) (Steps.refl _) (argsL := []) (rest := []) (lenOf pd_0_4 rfl) rfl (by show 2 * 0 + _ ≤ _; exact Nat.le_of_eq rfl) (hb hby at_168) (fun _ _ => ⟨rfl, eh15, (by decide : 4 + 0 ≤ _), (by decide : 32 + 0 ≤ _)⟩)
  dsimp only [Pt.U, Pt.locs, Pt.cells, Pt.slots] at X16 l16 y16 z16 st16 hQ16
  subst l16 y16 z16
  obtain ⟨rfl, N16q, eh16⟩ := hQ16
  have N16 := Fr.app N15 N16q
  obtain ⟨cq17, kq17, q17a, q17b, q17c⟩ := isOf hZ eh16 ((((((E_b4.keep Kc5).ext E6).keep Kc7).keep Kc9).keep Kc11).keep Kc14)
  obtain ⟨_, _, ⟨T17, L17, k17, n17⟩, -, X17, ⟨Lc17, hQ17, l17, y17, z17⟩, st17⟩ := X16.virtualBack hx (y := (⟨"com/example/transom/transom/Scope", "land", "()Lcom/example/transom/transom/Scope$Jump;"⟩ : MethodName)) (z := (⟨"com/example/transom/transom/Scope", "land", "()Lcom/example/transom/transom/Scope$Jump;"⟩ : MethodName)) hown (mvT hZ (ww hw 52 rfl)) (mvT hZ (ww hw 53 rfl)) (notFace_of_selects (args := #[]) (mvT hZ (ww hw 55 rfl))) (mvT hZ (ww hw 55 rfl)) (mvT hZ (ww hw 54 rfl)) (by decide) (backOf (W := 0) (rmLn l Z a0 hw [] b4 b4 T14.heap n0 (Nat.le_trans (Nat.le_trans (Nat.le_trans (Nat.le_trans (Nat.le_trans (Nat.le_trans (Nat.le_trans Z0 E4.1) Kc5.1) E6.1) Kc7.1) Kc9.1) Kc11.1) Kc14.1) Ft14 Ft14 Fj14 ((((((E_b4.keep Kc5).ext E6).keep Kc7).keep Kc9).keep Kc11).keep Kc14) g_b4) hZ (ww hw 56 rfl) (ww hw 2 rfl) (by decide) (by decide)) q17a q17c (g := (mkF m 183 #[.val (.int p1), .val (.int p2), .val (.int p3), .val (.ref b4), .val (.ref b6), .val (.ref b4), .val (.ref b4), .val (.int (p1 &&& (3 : Int32))), .val (.ref uC), .val (.int (1 : Int32)), .val (.ref uC), .val (.int (1 : Int32)), .unset] [(.ref b4)])) rfl (by rw [hml]; rfl) (Steps.refl _) (argsL := []) (rest := []) (lenOf pd_0_5 rfl) rfl (by show 2 * 0 + _ ≤ _; exact Nat.le_of_eq rfl) (hb hby at_183) (fun _ _ => ⟨rfl, eh16, (by decide : 4 + 0 ≤ _), (by decide : 32 + 0 ≤ _)⟩)
  dsimp only [Pt.U, Pt.locs, Pt.cells, Pt.slots] at X17 l17 y17 z17 st17 hQ17
  subst l17 y17 z17
  obtain ⟨rfl, N17q, Kc17, Fj17, Ft17⟩ := hQ17
  have N17 := Fr.app N16 N17q
  have S_BREAK_17 := own_stak S_BREAK_14 Kc17 (allS (own_nst ((((((E_b4.keep Kc5).ext E6).keep Kc7).keep Kc9).keep Kc11).keep Kc14)) all0)
  have S_CONTINUE_17 := own_stak S_CONTINUE_14 Kc17 (allS (own_nst ((((((E_b4.keep Kc5).ext E6).keep Kc7).keep Kc9).keep Kc11).keep Kc14)) all0)
  have K17 : Keep h0 T17.heap [] := K14.trans Kc17 (allS (Or.inr sz_b4) all0)
  obtain ⟨fs, hr, hrun, hended, hW, hsame⟩ := X17.leave (v := some (.int (1 : Int32))) (fun h => by rw [Bd.returns] at h; cases h)
  refine ⟨_, _, pre0 _ ?_, hrun, hended, _, _, rfl, ?_, ⟨_, rfl⟩, hW, hsame.mono (by decide) (by decide)⟩
  · show Steps _ _ _ (s₁.setTop (mkF m 0 #[.val (.int p1), .val (.int p2), .val (.int p3), .unset, .unset, .unset, .unset, .unset, .unset, .unset, .unset, .unset, .unset] [])) _
    refine st4 _ ?_
    show Steps _ _ _ (T4.setTop (mkF m 3 #[.val (.int p1), .val (.int p2), .val (.int p3), .unset, .unset, .unset, .unset, .unset, .unset, .unset, .unset, .unset, .unset] [(.ref b4)])) _
    refine XS.dup X4.here hx rfl (hb hby at_3) rfl rfl ?_
    show Steps _ _ _ (T4.setTop (mkF m 4 #[.val (.int p1), .val (.int p2), .val (.int p3), .unset, .unset, .unset, .unset, .unset, .unset, .unset, .unset, .unset, .unset] [(.ref b4), (.ref b4)])) _
    refine XS.aconstNull X4.here hx rfl (hb hby at_4) ?_
    show Steps _ _ _ (T4.setTop (mkF m 5 #[.val (.int p1), .val (.int p2), .val (.int p3), .unset, .unset, .unset, .unset, .unset, .unset, .unset, .unset, .unset, .unset] [.null, (.ref b4), (.ref b4)])) _
    refine XS.aconstNull X4.here hx rfl (hb hby at_5) ?_
    show Steps _ _ _ (T4.setTop (mkF m 6 #[.val (.int p1), .val (.int p2), .val (.int p3), .unset, .unset, .unset, .unset, .unset, .unset, .unset, .unset, .unset, .unset] [.null, .null, (.ref b4), (.ref b4)])) _
    refine st5.trans ?_
    show Steps _ _ _ (T5.setTop (mkF m 9 #[.val (.int p1), .val (.int p2), .val (.int p3), .unset, .unset, .unset, .unset, .unset, .unset, .unset, .unset, .unset, .unset] [(.ref b4)])) _
    refine XS.astoreN X5.here hx rfl (hb hby at_9) rfl rfl (l' := #[.val (.int p1), .val (.int p2), .val (.int p3), .val (.ref b4), .unset, .unset, .unset, .unset, .unset, .unset, .unset, .unset, .unset]) rfl ?_
    show Steps _ _ _ (T5.setTop (mkF m 10 #[.val (.int p1), .val (.int p2), .val (.int p3), .val (.ref b4), .unset, .unset, .unset, .unset, .unset, .unset, .unset, .unset, .unset] [])) _
    refine st6 _ ?_
    show Steps _ _ _ (T6.setTop (mkF m 13 #[.val (.int p1), .val (.int p2), .val (.int p3), .val (.ref b4), .unset, .unset, .unset, .unset, .unset, .unset, .unset, .unset, .unset] [(.ref b6)])) _
    refine XS.dup X6.here hx rfl (hb hby at_13) rfl rfl ?_
    show Steps _ _ _ (T6.setTop (mkF m 14 #[.val (.int p1), .val (.int p2), .val (.int p3), .val (.ref b4), .unset, .unset, .unset, .unset, .unset, .unset, .unset, .unset, .unset] [(.ref b6), (.ref b6)])) _
    refine XS.aloadN X6.here hx rfl (hb hby at_14) rfl rfl ?_
    show Steps _ _ _ (T6.setTop (mkF m 15 #[.val (.int p1), .val (.int p2), .val (.int p3), .val (.ref b4), .unset, .unset, .unset, .unset, .unset, .unset, .unset, .unset, .unset] [(.ref b4), (.ref b6), (.ref b6)])) _
    refine st7.trans ?_
    show Steps _ _ _ (T7.setTop (mkF m 18 #[.val (.int p1), .val (.int p2), .val (.int p3), .val (.ref b4), .unset, .unset, .unset, .unset, .unset, .unset, .unset, .unset, .unset] [(.ref b6)])) _
    refine XS.astore X7.here hx rfl (hb hby at_18) rfl rfl (l' := #[.val (.int p1), .val (.int p2), .val (.int p3), .val (.ref b4), .val (.ref b6), .unset, .unset, .unset, .unset, .unset, .unset, .unset, .unset]) rfl ?_
    show Steps _ _ _ (T7.setTop (mkF m 20 #[.val (.int p1), .val (.int p2), .val (.int p3), .val (.ref b4), .val (.ref b6), .unset, .unset, .unset, .unset, .unset, .unset, .unset, .unset] [])) _
    refine XS.iloadN X7.here hx rfl (hb hby at_20) rfl ?_
    show Steps _ _ _ (T7.setTop (mkF m 21 #[.val (.int p1), .val (.int p2), .val (.int p3), .val (.ref b4), .val (.ref b6), .unset, .unset, .unset, .unset, .unset, .unset, .unset, .unset] [(.int p2)])) _
    refine XS.iconst X7.here hx rfl (hb hby at_21) ?_
    show Steps _ _ _ (T7.setTop (mkF m 22 #[.val (.int p1), .val (.int p2), .val (.int p3), .val (.ref b4), .val (.ref b6), .unset, .unset, .unset, .unset, .unset, .unset, .unset, .unset] [(.int (1 : Int32)), (.int p2)])) _
    refine XS.iand X7.here hx rfl (hb hby at_22) rfl ?_
    show Steps _ _ _ (T7.setTop (mkF m 23 #[.val (.int p1), .val (.int p2), .val (.int p3), .val (.ref b4), .val (.ref b6), .unset, .unset, .unset, .unset, .unset, .unset, .unset, .unset] [(.int (p2 &&& (1 : Int32)))])) _
    refine XS.ifYes X7.here hx rfl (pc0 := 23) (pc' := 31) rfl (hb hby at_23) rfl ((if0 _ _).trans (teq hc23).1) (by decide) (by decide) ?_
    show Steps _ _ _ (T7.setTop (mkF m 31 #[.val (.int p1), .val (.int p2), .val (.int p3), .val (.ref b4), .val (.ref b6), .unset, .unset, .unset, .unset, .unset, .unset, .unset, .unset] [])) _
    refine XS.aloadN X7.here hx rfl (hb hby at_31) rfl rfl ?_
    show Steps _ _ _ (T7.setTop (mkF m 32 #[.val (.int p1), .val (.int p2), .val (.int p3), .val (.ref b4), .val (.ref b6), .unset, .unset, .unset, .unset, .unset, .unset, .unset, .unset] [(.ref b4)])) _
    refine XS.astore X7.here hx rfl (hb hby at_32) rfl rfl (l' := #[.val (.int p1), .val (.int p2), .val (.int p3), .val (.ref b4), .val (.ref b6), .val (.ref b4), .unset, .unset, .unset, .unset, .unset, .unset, .unset]) rfl ?_
    show Steps _ _ _ (T7.setTop (mkF m 34 #[.val (.int p1), .val (.int p2), .val (.int p3), .val (.ref b4), .val (.ref b6), .val (.ref b4), .unset, .unset, .unset, .unset, .unset, .unset, .unset] [])) _
    refine XS.iloadN X7.here hx rfl (hb hby at_34) rfl ?_
    show Steps _ _ _ (T7.setTop (mkF m 35 #[.val (.int p1), .val (.int p2), .val (.int p3), .val (.ref b4), .val (.ref b6), .val (.ref b4), .unset, .unset, .unset, .unset, .unset, .unset, .unset] [(.int p3)])) _
    refine XS.iconst X7.here hx rfl (hb hby at_35) ?_
    show Steps _ _ _ (T7.setTop (mkF m 36 #[.val (.int p1), .val (.int p2), .val (.int p3), .val (.ref b4), .val (.ref b6), .val (.ref b4), .unset, .unset, .unset, .unset, .unset, .unset, .unset] [(.int (1 : Int32)), (.int p3)])) _
    refine XS.iand X7.here hx rfl (hb hby at_36) rfl ?_
    show Steps _ _ _ (T7.setTop (mkF m 37 #[.val (.int p1), .val (.int p2), .val (.int p3), .val (.ref b4), .val (.ref b6), .val (.ref b4), .unset, .unset, .unset, .unset, .unset, .unset, .unset] [(.int (p3 &&& (1 : Int32)))])) _
    refine XS.ifYes X7.here hx rfl (pc0 := 37) (pc' := 45) rfl (hb hby at_37) rfl ((if0 _ _).trans (teq hc37).1) (by decide) (by decide) ?_
    show Steps _ _ _ (T7.setTop (mkF m 45 #[.val (.int p1), .val (.int p2), .val (.int p3), .val (.ref b4), .val (.ref b6), .val (.ref b4), .unset, .unset, .unset, .unset, .unset, .unset, .unset] [])) _
    refine XS.aloadN X7.here hx rfl (hb hby at_45) rfl rfl ?_
    show Steps _ _ _ (T7.setTop (mkF m 46 #[.val (.int p1), .val (.int p2), .val (.int p3), .val (.ref b4), .val (.ref b6), .val (.ref b4), .unset, .unset, .unset, .unset, .unset, .unset, .unset] [(.ref b4)])) _
    refine XS.astore X7.here hx rfl (hb hby at_46) rfl rfl (l' := #[.val (.int p1), .val (.int p2), .val (.int p3), .val (.ref b4), .val (.ref b6), .val (.ref b4), .val (.ref b4), .unset, .unset, .unset, .unset, .unset, .unset]) rfl ?_
    show Steps _ _ _ (T7.setTop (mkF m 48 #[.val (.int p1), .val (.int p2), .val (.int p3), .val (.ref b4), .val (.ref b6), .val (.ref b4), .val (.ref b4), .unset, .unset, .unset, .unset, .unset, .unset] [])) _
    refine XS.iloadN X7.here hx rfl (hb hby at_48) rfl ?_
    show Steps _ _ _ (T7.setTop (mkF m 49 #[.val (.int p1), .val (.int p2), .val (.int p3), .val (.ref b4), .val (.ref b6), .val (.ref b4), .val (.ref b4), .unset, .unset, .unset, .unset, .unset, .unset] [(.int p1)])) _
    refine XS.iconst X7.here hx rfl (hb hby at_49) ?_
    show Steps _ _ _ (T7.setTop (mkF m 50 #[.val (.int p1), .val (.int p2), .val (.int p3), .val (.ref b4), .val (.ref b6), .val (.ref b4), .val (.ref b4), .unset, .unset, .unset, .unset, .unset, .unset] [(.int (3 : Int32)), (.int p1)])) _
    refine XS.iand X7.here hx rfl (hb hby at_50) rfl ?_
    show Steps _ _ _ (T7.setTop (mkF m 51 #[.val (.int p1), .val (.int p2), .val (.int p3), .val (.ref b4), .val (.ref b6), .val (.ref b4), .val (.ref b4), .unset, .unset, .unset, .unset, .unset, .unset] [(.int (p1 &&& (3 : Int32)))])) _
    refine XS.istore X7.here hx rfl (hb hby at_51) rfl (l' := #[.val (.int p1), .val (.int p2), .val (.int p3), .val (.ref b4), .val (.ref b6), .val (.ref b4), .val (.ref b4), .val (.int (p1 &&& (3 : Int32))), .unset, .unset, .unset, .unset, .unset]) rfl ?_
    show Steps _ _ _ (T7.setTop (mkF m 53 #[.val (.int p1), .val (.int p2), .val (.int p3), .val (.ref b4), .val (.ref b6), .val (.ref b4), .val (.ref b4), .val (.int (p1 &&& (3 : Int32))), .unset, .unset, .unset, .unset, .unset] [])) _
    refine XS.aconstNull X7.here hx rfl (hb hby at_53) ?_
    show Steps _ _ _ (T7.setTop (mkF m 54 #[.val (.int p1), .val (.int p2), .val (.int p3), .val (.ref b4), .val (.ref b6), .val (.ref b4), .val (.ref b4), .val (.int (p1 &&& (3 : Int32))), .unset, .unset, .unset, .unset, .unset] [.null])) _
    refine XS.astore X7.here hx rfl (hb hby at_54) rfl rfl (l' := #[.val (.int p1), .val (.int p2), .val (.int p3), .val (.ref b4), .val (.ref b6), .val (.ref b4), .val (.ref b4), .val (.int (p1 &&& (3 : Int32))), .val .null, .unset, .unset, .unset, .unset]) rfl ?_
    show Steps _ _ _ (T7.setTop (mkF m 56 #[.val (.int p1), .val (.int p2), .val (.int p3), .val (.ref b4), .val (.ref b6), .val (.ref b4), .val (.ref b4), .val (.int (p1 &&& (3 : Int32))), .val .null, .unset, .unset, .unset, .unset] [])) _
    refine XS.iload X7.here hx rfl (hb hby at_56) rfl ?_
    show Steps _ _ _ (T7.setTop (mkF m 58 #[.val (.int p1), .val (.int p2), .val (.int p3), .val (.ref b4), .val (.ref b6), .val (.ref b4), .val (.ref b4), .val (.int (p1 &&& (3 : Int32))), .val .null, .unset, .unset, .unset, .unset] [(.int (p1 &&& (3 : Int32)))])) _
    refine XS.iconst X7.here hx rfl (hb hby at_58) ?_
    show Steps _ _ _ (T7.setTop (mkF m 59 #[.val (.int p1), .val (.int p2), .val (.int p3), .val (.ref b4), .val (.ref b6), .val (.ref b4), .val (.ref b4), .val (.int (p1 &&& (3 : Int32))), .val .null, .unset, .unset, .unset, .unset] [(.int (1 : Int32)), (.int (p1 &&& (3 : Int32)))])) _
    refine XS.icmpYes X7.here hx rfl (pc0 := 59) (pc' := 78) rfl (hb hby at_59) rfl (feq hc59).2 (by decide) (by decide) ?_
    show Steps _ _ _ (T7.setTop (mkF m 78 #[.val (.int p1), .val (.int p2), .val (.int p3), .val (.ref b4), .val (.ref b6), .val (.ref b4), .val (.ref b4), .val (.int (p1 &&& (3 : Int32))), .val .null, .unset, .unset, .unset, .unset] [])) _
    refine XS.iload X7.here hx rfl (hb hby at_78) rfl ?_
    show Steps _ _ _ (T7.setTop (mkF m 80 #[.val (.int p1), .val (.int p2), .val (.int p3), .val (.ref b4), .val (.ref b6), .val (.ref b4), .val (.ref b4), .val (.int (p1 &&& (3 : Int32))), .val .null, .unset, .unset, .unset, .unset] [(.int (p1 &&& (3 : Int32)))])) _
    refine XS.iconst X7.here hx rfl (hb hby at_80) ?_
    show Steps _ _ _ (T7.setTop (mkF m 81 #[.val (.int p1), .val (.int p2), .val (.int p3), .val (.ref b4), .val (.ref b6), .val (.ref b4), .val (.ref b4), .val (.int (p1 &&& (3 : Int32))), .val .null, .unset, .unset, .unset, .unset] [(.int (2 : Int32)), (.int (p1 &&& (3 : Int32)))])) _
    refine XS.icmpYes X7.here hx rfl (pc0 := 81) (pc' := 100) rfl (hb hby at_81) rfl (feq hc81).2 (by decide) (by decide) ?_
    show Steps _ _ _ (T7.setTop (mkF m 100 #[.val (.int p1), .val (.int p2), .val (.int p3), .val (.ref b4), .val (.ref b6), .val (.ref b4), .val (.ref b4), .val (.int (p1 &&& (3 : Int32))), .val .null, .unset, .unset, .unset, .unset] [])) _
    refine XS.iload X7.here hx rfl (hb hby at_100) rfl ?_
    show Steps _ _ _ (T7.setTop (mkF m 102 #[.val (.int p1), .val (.int p2), .val (.int p3), .val (.ref b4), .val (.ref b6), .val (.ref b4), .val (.ref b4), .val (.int (p1 &&& (3 : Int32))), .val .null, .unset, .unset, .unset, .unset] [(.int (p1 &&& (3 : Int32)))])) _
    refine XS.iconst X7.here hx rfl (hb hby at_102) ?_
    show Steps _ _ _ (T7.setTop (mkF m 103 #[.val (.int p1), .val (.int p2), .val (.int p3), .val (.ref b4), .val (.ref b6), .val (.ref b4), .val (.ref b4), .val (.int (p1 &&& (3 : Int32))), .val .null, .unset, .unset, .unset, .unset] [(.int (3 : Int32)), (.int (p1 &&& (3 : Int32)))])) _
    refine XS.icmpNo X7.here hx rfl (hb hby at_103) rfl (teq hc103).2 ?_
    show Steps _ _ _ (T7.setTop (mkF m 106 #[.val (.int p1), .val (.int p2), .val (.int p3), .val (.ref b4), .val (.ref b6), .val (.ref b4), .val (.ref b4), .val (.int (p1 &&& (3 : Int32))), .val .null, .unset, .unset, .unset, .unset] [])) _
    refine XS.aload X7.here hx rfl (hb hby at_106) rfl rfl ?_
    show Steps _ _ _ (T7.setTop (mkF m 108 #[.val (.int p1), .val (.int p2), .val (.int p3), .val (.ref b4), .val (.ref b6), .val (.ref b4), .val (.ref b4), .val (.int (p1 &&& (3 : Int32))), .val .null, .unset, .unset, .unset, .unset] [(.ref b4)])) _
    refine st8 _ ?_
    show Steps _ _ _ (T8.setTop (mkF m 111 #[.val (.int p1), .val (.int p2), .val (.int p3), .val (.ref b4), .val (.ref b6), .val (.ref b4), .val (.ref b4), .val (.int (p1 &&& (3 : Int32))), .val .null, .unset, .unset, .unset, .unset] [(.ref uB), (.ref b4)])) _
    refine st9.trans ?_
    show Steps _ _ _ (T9.setTop (mkF m 114 #[.val (.int p1), .val (.int p2), .val (.int p3), .val (.ref b4), .val (.ref b6), .val (.ref b4), .val (.ref b4), .val (.int (p1 &&& (3 : Int32))), .val .null, .unset, .unset, .unset, .unset] [])) _
    refine XS.aload X9.here hx rfl (hb hby at_114) rfl rfl ?_
    show Steps _ _ _ (T9.setTop (mkF m 116 #[.val (.int p1), .val (.int p2), .val (.int p3), .val (.ref b4), .val (.ref b6), .val (.ref b4), .val (.ref b4), .val (.int (p1 &&& (3 : Int32))), .val .null, .unset, .unset, .unset, .unset] [(.ref b4)])) _
    refine st10 _ ?_
    show Steps _ _ _ (T10.setTop (mkF m 119 #[.val (.int p1), .val (.int p2), .val (.int p3), .val (.ref b4), .val (.ref b6), .val (.ref b4), .val (.ref b4), .val (.int (p1 &&& (3 : Int32))), .val .null, .unset, .unset, .unset, .unset] [(.ref uC), (.ref b4)])) _
    refine st11.trans ?_
    show Steps _ _ _ (T11.setTop (mkF m 122 #[.val (.int p1), .val (.int p2), .val (.int p3), .val (.ref b4), .val (.ref b6), .val (.ref b4), .val (.ref b4), .val (.int (p1 &&& (3 : Int32))), .val .null, .unset, .unset, .unset, .unset] [])) _
    refine st12 _ ?_
    show Steps _ _ _ (T12.setTop (mkF m 125 #[.val (.int p1), .val (.int p2), .val (.int p3), .val (.ref b4), .val (.ref b6), .val (.ref b4), .val (.ref b4), .val (.int (p1 &&& (3 : Int32))), .val .null, .unset, .unset, .unset, .unset] [(.ref uC)])) _
    refine XS.astore X12.here hx rfl (hb hby at_125) rfl rfl (l' := #[.val (.int p1), .val (.int p2), .val (.int p3), .val (.ref b4), .val (.ref b6), .val (.ref b4), .val (.ref b4), .val (.int (p1 &&& (3 : Int32))), .val (.ref uC), .unset, .unset, .unset, .unset]) rfl ?_
    show Steps _ _ _ (T12.setTop (mkF m 127 #[.val (.int p1), .val (.int p2), .val (.int p3), .val (.ref b4), .val (.ref b6), .val (.ref b4), .val (.ref b4), .val (.int (p1 &&& (3 : Int32))), .val (.ref uC), .unset, .unset, .unset, .unset] [])) _
    refine XS.aload X12.here hx rfl (hb hby at_127) rfl rfl ?_
    show Steps _ _ _ (T12.setTop (mkF m 129 #[.val (.int p1), .val (.int p2), .val (.int p3), .val (.ref b4), .val (.ref b6), .val (.ref b4), .val (.ref b4), .val (.int (p1 &&& (3 : Int32))), .val (.ref uC), .unset, .unset, .unset, .unset] [(.ref b4)])) _
    refine st13.trans ?_
    show Steps _ _ _ (T13.setTop (mkF m 132 #[.val (.int p1), .val (.int p2), .val (.int p3), .val (.ref b4), .val (.ref b6), .val (.ref b4), .val (.ref b4), .val (.int (p1 &&& (3 : Int32))), .val (.ref uC), .unset, .unset, .unset, .unset] [(.int (1 : Int32))])) _
    refine XS.aload X13.here hx rfl (hb hby at_132) rfl rfl ?_
    show Steps _ _ _ (T13.setTop (mkF m 134 #[.val (.int p1), .val (.int p2), .val (.int p3), .val (.ref b4), .val (.ref b6), .val (.ref b4), .val (.ref b4), .val (.int (p1 &&& (3 : Int32))), .val (.ref uC), .unset, .unset, .unset, .unset] [(.ref uC), (.int (1 : Int32))])) _
    refine XS.ifnullNo X13.here hx rfl (hb hby at_134) rfl ?_
    show Steps _ _ _ (T13.setTop (mkF m 137 #[.val (.int p1), .val (.int p2), .val (.int p3), .val (.ref b4), .val (.ref b6), .val (.ref b4), .val (.ref b4), .val (.int (p1 &&& (3 : Int32))), .val (.ref uC), .unset, .unset, .unset, .unset] [(.int (1 : Int32))])) _
    refine XS.iconst X13.here hx rfl (hb hby at_137) ?_
    show Steps _ _ _ (T13.setTop (mkF m 138 #[.val (.int p1), .val (.int p2), .val (.int p3), .val (.ref b4), .val (.ref b6), .val (.ref b4), .val (.ref b4), .val (.int (p1 &&& (3 : Int32))), .val (.ref uC), .unset, .unset, .unset, .unset] [(.int (1 : Int32)), (.int (1 : Int32))])) _
    refine XS.goto X13.here hx rfl (pc0 := 138) (pc' := 142) rfl (hb hby at_138) (by decide) (by decide) ?_
    show Steps _ _ _ (T13.setTop (mkF m 142 #[.val (.int p1), .val (.int p2), .val (.int p3), .val (.ref b4), .val (.ref b6), .val (.ref b4), .val (.ref b4), .val (.int (p1 &&& (3 : Int32))), .val (.ref uC), .unset, .unset, .unset, .unset] [(.int (1 : Int32)), (.int (1 : Int32))])) _
    refine XS.icmpNo X13.here hx rfl (hb hby at_142) rfl (teq (rfl : (1 : Int32) = (1 : Int32))).2 ?_
    show Steps _ _ _ (T13.setTop (mkF m 145 #[.val (.int p1), .val (.int p2), .val (.int p3), .val (.ref b4), .val (.ref b6), .val (.ref b4), .val (.ref b4), .val (.int (p1 &&& (3 : Int32))), .val (.ref uC), .unset, .unset, .unset, .unset] [])) _
    refine XS.iconst X13.here hx rfl (hb hby at_145) ?_
    show Steps _ _ _ (T13.setTop (mkF m 146 #[.val (.int p1), .val (.int p2), .val (.int p3), .val (.ref b4), .val (.ref b6), .val (.ref b4), .val (.ref b4), .val (.int (p1 &&& (3 : Int32))), .val (.ref uC), .unset, .unset, .unset, .unset] [(.int (1 : Int32))])) _
    refine XS.goto X13.here hx rfl (pc0 := 146) (pc' := 150) rfl (hb hby at_146) (by decide) (by decide) ?_
    show Steps _ _ _ (T13.setTop (mkF m 150 #[.val (.int p1), .val (.int p2), .val (.int p3), .val (.ref b4), .val (.ref b6), .val (.ref b4), .val (.ref b4), .val (.int (p1 &&& (3 : Int32))), .val (.ref uC), .unset, .unset, .unset, .unset] [(.int (1 : Int32))])) _
    refine XS.istore X13.here hx rfl (hb hby at_150) rfl (l' := #[.val (.int p1), .val (.int p2), .val (.int p3), .val (.ref b4), .val (.ref b6), .val (.ref b4), .val (.ref b4), .val (.int (p1 &&& (3 : Int32))), .val (.ref uC), .val (.int (1 : Int32)), .unset, .unset, .unset]) rfl ?_
    show Steps _ _ _ (T13.setTop (mkF m 152 #[.val (.int p1), .val (.int p2), .val (.int p3), .val (.ref b4), .val (.ref b6), .val (.ref b4), .val (.ref b4), .val (.int (p1 &&& (3 : Int32))), .val (.ref uC), .val (.int (1 : Int32)), .unset, .unset, .unset] [])) _
    refine XS.aload X13.here hx rfl (hb hby at_152) rfl rfl ?_
    show Steps _ _ _ (T13.setTop (mkF m 154 #[.val (.int p1), .val (.int p2), .val (.int p3), .val (.ref b4), .val (.ref b6), .val (.ref b4), .val (.ref b4), .val (.int (p1 &&& (3 : Int32))), .val (.ref uC), .val (.int (1 : Int32)), .unset, .unset, .unset] [(.ref b4)])) _
    refine st14.trans ?_
    show Steps _ _ _ (T14.setTop (mkF m 157 #[.val (.int p1), .val (.int p2), .val (.int p3), .val (.ref b4), .val (.ref b6), .val (.ref b4), .val (.ref b4), .val (.int (p1 &&& (3 : Int32))), .val (.ref uC), .val (.int (1 : Int32)), .unset, .unset, .unset] [(.ref uC)])) _
    refine XS.astore X14.here hx rfl (hb hby at_157) rfl rfl (l' := #[.val (.int p1), .val (.int p2), .val (.int p3), .val (.ref b4), .val (.ref b6), .val (.ref b4), .val (.ref b4), .val (.int (p1 &&& (3 : Int32))), .val (.ref uC), .val (.int (1 : Int32)), .val (.ref uC), .unset, .unset]) rfl ?_
    show Steps _ _ _ (T14.setTop (mkF m 159 #[.val (.int p1), .val (.int p2), .val (.int p3), .val (.ref b4), .val (.ref b6), .val (.ref b4), .val (.ref b4), .val (.int (p1 &&& (3 : Int32))), .val (.ref uC), .val (.int (1 : Int32)), .val (.ref uC), .unset, .unset] [])) _
    refine XS.aloadN X14.here hx rfl (hb hby at_159) rfl rfl ?_
    show Steps _ _ _ (T14.setTop (mkF m 160 #[.val (.int p1), .val (.int p2), .val (.int p3), .val (.ref b4), .val (.ref b6), .val (.ref b4), .val (.ref b4), .val (.int (p1 &&& (3 : Int32))), .val (.ref uC), .val (.int (1 : Int32)), .val (.ref uC), .unset, .unset] [(.ref b4)])) _
    refine st15.trans ?_
    show Steps _ _ _ (T15.setTop (mkF m 163 #[.val (.int p1), .val (.int p2), .val (.int p3), .val (.ref b4), .val (.ref b6), .val (.ref b4), .val (.ref b4), .val (.int (p1 &&& (3 : Int32))), .val (.ref uC), .val (.int (1 : Int32)), .val (.ref uC), .unset, .unset] [(.int (0 : Int32))])) _
    refine XS.ifNo X15.here hx rfl (hb hby at_163) rfl ((if0 _ _).trans (teq (rfl : (0 : Int32) = (0 : Int32))).2) ?_
    show Steps _ _ _ (T15.setTop (mkF m 166 #[.val (.int p1), .val (.int p2), .val (.int p3), .val (.ref b4), .val (.ref b6), .val (.ref b4), .val (.ref b4), .val (.int (p1 &&& (3 : Int32))), .val (.ref uC), .val (.int (1 : Int32)), .val (.ref uC), .unset, .unset] [])) _
    refine XS.aload X15.here hx rfl (hb hby at_166) rfl rfl ?_
    show Steps _ _ _ (T15.setTop (mkF m 168 #[.val (.int p1), .val (.int p2), .val (.int p3), .val (.ref b4), .val (.ref b6), .val (.ref b4), .val (.ref b4), .val (.int (p1 &&& (3 : Int32))), .val (.ref uC), .val (.int (1 : Int32)), .val (.ref uC), .unset, .unset] [(.ref b6)])) _
    refine st16.trans ?_
    show Steps _ _ _ (T16.setTop (mkF m 171 #[.val (.int p1), .val (.int p2), .val (.int p3), .val (.ref b4), .val (.ref b6), .val (.ref b4), .val (.ref b4), .val (.int (p1 &&& (3 : Int32))), .val (.ref uC), .val (.int (1 : Int32)), .val (.ref uC), .unset, .unset] [(.int (0 : Int32))])) _
    refine XS.ifNo X16.here hx rfl (hb hby at_171) rfl ((if0 _ _).trans (teq (rfl : (0 : Int32) = (0 : Int32))).2) ?_
    show Steps _ _ _ (T16.setTop (mkF m 174 #[.val (.int p1), .val (.int p2), .val (.int p3), .val (.ref b4), .val (.ref b6), .val (.ref b4), .val (.ref b4), .val (.int (p1 &&& (3 : Int32))), .val (.ref uC), .val (.int (1 : Int32)), .val (.ref uC), .unset, .unset] [])) _
    refine XS.iconst X16.here hx rfl (hb hby at_174) ?_
    show Steps _ _ _ (T16.setTop (mkF m 175 #[.val (.int p1), .val (.int p2), .val (.int p3), .val (.ref b4), .val (.ref b6), .val (.ref b4), .val (.ref b4), .val (.int (p1 &&& (3 : Int32))), .val (.ref uC), .val (.int (1 : Int32)), .val (.ref uC), .unset, .unset] [(.int (1 : Int32))])) _
    refine XS.goto X16.here hx rfl (pc0 := 175) (pc' := 179) rfl (hb hby at_175) (by decide) (by decide) ?_
    show Steps _ _ _ (T16.setTop (mkF m 179 #[.val (.int p1), .val (.int p2), .val (.int p3), .val (.ref b4), .val (.ref b6), .val (.ref b4), .val (.ref b4), .val (.int (p1 &&& (3 : Int32))), .val (.ref uC), .val (.int (1 : Int32)), .val (.ref uC), .unset, .unset] [(.int (1 : Int32))])) _
    refine XS.istore X16.here hx rfl (hb hby at_179) rfl (l' := #[.val (.int p1), .val (.int p2), .val (.int p3), .val (.ref b4), .val (.ref b6), .val (.ref b4), .val (.ref b4), .val (.int (p1 &&& (3 : Int32))), .val (.ref uC), .val (.int (1 : Int32)), .val (.ref uC), .val (.int (1 : Int32)), .unset]) rfl ?_
    show Steps _ _ _ (T16.setTop (mkF m 181 #[.val (.int p1), .val (.int p2), .val (.int p3), .val (.ref b4), .val (.ref b6), .val (.ref b4), .val (.ref b4), .val (.int (p1 &&& (3 : Int32))), .val (.ref uC), .val (.int (1 : Int32)), .val (.ref uC), .val (.int (1 : Int32)), .unset] [])) _
    refine XS.aload X16.here hx rfl (hb hby at_181) rfl rfl ?_
    show Steps _ _ _ (T16.setTop (mkF m 183 #[.val (.int p1), .val (.int p2), .val (.int p3), .val (.ref b4), .val (.ref b6), .val (.ref b4), .val (.ref b4), .val (.int (p1 &&& (3 : Int32))), .val (.ref uC), .val (.int (1 : Int32)), .val (.ref uC), .val (.int (1 : Int32)), .unset] [(.ref b4)])) _
    refine st17.trans ?_
    show Steps _ _ _ (T17.setTop (mkF m 186 #[.val (.int p1), .val (.int p2), .val (.int p3), .val (.ref b4), .val (.ref b6), .val (.ref b4), .val (.ref b4), .val (.int (p1 &&& (3 : Int32))), .val (.ref uC), .val (.int (1 : Int32)), .val (.ref uC), .val (.int (1 : Int32)), .unset] [.null])) _
    refine XS.astore X17.here hx rfl (hb hby at_186) rfl rfl (l' := #[.val (.int p1), .val (.int p2), .val (.int p3), .val (.ref b4), .val (.ref b6), .val (.ref b4), .val (.ref b4), .val (.int (p1 &&& (3 : Int32))), .val (.ref uC), .val (.int (1 : Int32)), .val (.ref uC), .val (.int (1 : Int32)), .val .null]) rfl ?_
    show Steps _ _ _ (T17.setTop (mkF m 188 #[.val (.int p1), .val (.int p2), .val (.int p3), .val (.ref b4), .val (.ref b6), .val (.ref b4), .val (.ref b4), .val (.int (p1 &&& (3 : Int32))), .val (.ref uC), .val (.int (1 : Int32)), .val (.ref uC), .val (.int (1 : Int32)), .val .null] [])) _
    refine XS.iload X17.here hx rfl (hb hby at_188) rfl ?_
    show Steps _ _ _ (T17.setTop (mkF m 190 #[.val (.int p1), .val (.int p2), .val (.int p3), .val (.ref b4), .val (.ref b6), .val (.ref b4), .val (.ref b4), .val (.int (p1 &&& (3 : Int32))), .val (.ref uC), .val (.int (1 : Int32)), .val (.ref uC), .val (.int (1 : Int32)), .val .null] [(.int (1 : Int32))])) _
    refine XS.ifNo X17.here hx rfl (hb hby at_190) rfl ((if0 _ _).trans (feq hc190).1) ?_
    show Steps _ _ _ (T17.setTop (mkF m 193 #[.val (.int p1), .val (.int p2), .val (.int p3), .val (.ref b4), .val (.ref b6), .val (.ref b4), .val (.ref b4), .val (.int (p1 &&& (3 : Int32))), .val (.ref uC), .val (.int (1 : Int32)), .val (.ref uC), .val (.int (1 : Int32)), .val .null] [])) _
    refine XS.aload X17.here hx rfl (hb hby at_193) rfl rfl ?_
    show Steps _ _ _ (T17.setTop (mkF m 195 #[.val (.int p1), .val (.int p2), .val (.int p3), .val (.ref b4), .val (.ref b6), .val (.ref b4), .val (.ref b4), .val (.int (p1 &&& (3 : Int32))), .val (.ref uC), .val (.int (1 : Int32)), .val (.ref uC), .val (.int (1 : Int32)), .val .null] [(.ref uC)])) _
    refine XS.aload X17.here hx rfl (hb hby at_195) rfl rfl ?_
    show Steps _ _ _ (T17.setTop (mkF m 197 #[.val (.int p1), .val (.int p2), .val (.int p3), .val (.ref b4), .val (.ref b6), .val (.ref b4), .val (.ref b4), .val (.int (p1 &&& (3 : Int32))), .val (.ref uC), .val (.int (1 : Int32)), .val (.ref uC), .val (.int (1 : Int32)), .val .null] [(.ref uC), (.ref uC)])) _
    refine Jvm.RoadKit.acmp (g := (mkF m 197 #[.val (.int p1), .val (.int p2), .val (.int p3), .val (.ref b4), .val (.ref b6), .val (.ref b4), .val (.ref b4), .val (.int (p1 &&& (3 : Int32))), .val (.ref uC), .val (.int (1 : Int32)), .val (.ref uC), .val (.int (1 : Int32)), .val .null] [(.ref uC), (.ref uC)])) X17 hx rfl rfl rfl (pc0 := 197) (pc' := 200) (same := true) rfl (hb hby at_197) rfl (decide_eq_true rfl) (by decide) (by decide) ?_
    show Steps _ _ _ (T17.setTop (mkF m 200 #[.val (.int p1), .val (.int p2), .val (.int p3), .val (.ref b4), .val (.ref b6), .val (.ref b4), .val (.ref b4), .val (.int (p1 &&& (3 : Int32))), .val (.ref uC), .val (.int (1 : Int32)), .val (.ref uC), .val (.int (1 : Int32)), .val .null] [])) _
    refine XS.iload X17.here hx rfl (hb hby at_200) rfl ?_
    show Steps _ _ _ (T17.setTop (mkF m 202 #[.val (.int p1), .val (.int p2), .val (.int p3), .val (.ref b4), .val (.ref b6), .val (.ref b4), .val (.ref b4), .val (.int (p1 &&& (3 : Int32))), .val (.ref uC), .val (.int (1 : Int32)), .val (.ref uC), .val (.int (1 : Int32)), .val .null] [(.int (1 : Int32))])) _
    refine XS.ifNo X17.here hx rfl (hb hby at_202) rfl ((if0 _ _).trans (feq hc202).1) ?_
    show Steps _ _ _ (T17.setTop (mkF m 205 #[.val (.int p1), .val (.int p2), .val (.int p3), .val (.ref b4), .val (.ref b6), .val (.ref b4), .val (.ref b4), .val (.int (p1 &&& (3 : Int32))), .val (.ref uC), .val (.int (1 : Int32)), .val (.ref uC), .val (.int (1 : Int32)), .val .null] [])) _
    refine XS.aload X17.here hx rfl (hb hby at_205) rfl rfl ?_
    show Steps _ _ _ (T17.setTop (mkF m 207 #[.val (.int p1), .val (.int p2), .val (.int p3), .val (.ref b4), .val (.ref b6), .val (.ref b4), .val (.ref b4), .val (.int (p1 &&& (3 : Int32))), .val (.ref uC), .val (.int (1 : Int32)), .val (.ref uC), .val (.int (1 : Int32)), .val .null] [.null])) _
    refine XS.ifnonnullNo X17.here hx rfl (hb hby at_207) rfl ?_
    show Steps _ _ _ (T17.setTop (mkF m 210 #[.val (.int p1), .val (.int p2), .val (.int p3), .val (.ref b4), .val (.ref b6), .val (.ref b4), .val (.ref b4), .val (.int (p1 &&& (3 : Int32))), .val (.ref uC), .val (.int (1 : Int32)), .val (.ref uC), .val (.int (1 : Int32)), .val .null] [])) _
    refine XS.iconst X17.here hx rfl (hb hby at_210) ?_
    show Steps _ _ _ (T17.setTop (mkF m 211 #[.val (.int p1), .val (.int p2), .val (.int p3), .val (.ref b4), .val (.ref b6), .val (.ref b4), .val (.ref b4), .val (.int (p1 &&& (3 : Int32))), .val (.ref uC), .val (.int (1 : Int32)), .val (.ref uC), .val (.int (1 : Int32)), .val .null] [(.int (1 : Int32))])) _
    refine XS.goto X17.here hx rfl (pc0 := 211) (pc' := 215) rfl (hb hby at_211) (by decide) (by decide) ?_
    show Steps _ _ _ (T17.setTop (mkF m 215 #[.val (.int p1), .val (.int p2), .val (.int p3), .val (.ref b4), .val (.ref b6), .val (.ref b4), .val (.ref b4), .val (.int (p1 &&& (3 : Int32))), .val (.ref uC), .val (.int (1 : Int32)), .val (.ref uC), .val (.int (1 : Int32)), .val .null] [(.int (1 : Int32))])) _
    exact retN X17 hx (t := .boolean) Bd.returns (by simp) (hb hby at_215) hr
  · show Q0 Z p1 p2 p3 uB uC h0 n0 _ T17.heap _
    exact ⟨rfl, N17⟩
-- 2. THE CONTRACT: what this body leaves is yours
-- its room: frames: the greatest, locals: the greatest, cells 4 + .., slots 32 + ..: rm1: frames + 1; locals 1 + 3 + 11 + its room's locals; its cells and slots besides; rm5: frames + 1; locals 1 + 2 + 11 + its room's locals; its cells and slots besides; rm7: frames + 1; locals 0 + 1 + 11 + its room's locals; its cells and slots besides; rm8: frames + 1; locals 0 + 2 + 11 + its room's locals; its cells and slots besides; rm7: frames + 1; locals 0 + 1 + 11 + its room's locals; its cells and slots besides; rm7: frames + 1; locals 0 + 1 + 11 + its room's locals; its cells and slots besides; rm8: frames + 1; locals 0 + 2 + 11 + its room's locals; its cells and slots besides
set_option maxRecDepth 65536 in
set_option maxHeartbeats 40000000 in
theorem rm0_tt0 (l : Launch) (Z : State) (a0 : Array Value) (hw : ∀ d ∈ tables_1, d.before a0 Z = true) (ws : List Jvm.Cond) (p1 : Int32) (p2 : Int32) (p3 : Int32) (uB : Addr) (uC : Addr) (h0 : Heap) (n0 : Nat) (Z0 : n0 ≤ h0.size) (S_BREAK : Sta Z h0 "com/example/transom/transom/Scope$Jump" "BREAK" "Lcom/example/transom/transom/Scope$Jump;" (.ref uB)) (S_CONTINUE : Sta Z h0 "com/example/transom/transom/Scope$Jump" "CONTINUE" "Lcom/example/transom/transom/Scope$Jump;" (.ref uC)) (hc23 : (p2 &&& (1 : Int32)) = (0 : Int32)) (hc37 : (p3 &&& (1 : Int32)) = (0 : Int32)) (hc59 : ¬ ((p1 &&& (3 : Int32)) = (1 : Int32))) (hc81 : ¬ ((p1 &&& (3 : Int32)) = (2 : Int32))) (hc103 : ¬ ((p1 &&& (3 : Int32)) = (3 : Int32))) (hc190 : ¬ ((1 : Int32) = (0 : Int32))) (hc202 : ¬ ((1 : Int32) = (0 : Int32))) :
    MetFree l x (head1 (Jvm.Cond.code x code maxLocals ret :: ws) room_1) (fun a U => a = #[(.int p1), (.int p2), (.int p3)] ∧ Z.Warmed39 U.vm ∧ U.heap = h0) (fun _ _ _ _ _ => True) (fun _ U o U' => ∃ v L, o = .returned v ∧ Q0 Z p1 p2 p3 uB uC h0 n0 v U'.heap L ∧ FrameEnd U o U' L room_1.cells room_1.slots) := by
  refine MetFree.of_bodySF (plainFor_of_name pn_0) hisR ?_
  intro p e s m args below meth c s₁ Bd hml0 hP hK
  obtain ⟨rfl, hZ, hh⟩ := hP
  have hx := Bd.exec
  have hby := Bd.bytes
  have hml : c.maxLocals = 13 := hml0
  have hown : s.vm.findClass "com/example/transom/transom/ScopeLandPinLaw" = some m.cls := findClass_of_methodNamed Bd.named
  have hnm := (name_of_methodNamed Bd.named Bd.method).1
  have X0 : Stand p l e room_1 s m #[(.int p1), (.int p2), (.int p3)] below meth c s₁ [] 0 0 := Stand.of_body Bd
  have e0 : s₁.heap = h0 := by rw [← hh, Bd.state]; rfl
  have N0 := Fr.nil n0
  have pre0 : ∀ t, Steps p.tables e below (s₁.setTop (mkF m 0 #[.val (.int p1), .val (.int p2), .val (.int p3), .unset, .unset, .unset, .unset, .unset, .unset, .unset, .unset, .unset, .unset] [])) t → Steps p.tables e below (s₁.setTop (entryFrame m #[(.int p1), (.int p2), (.int p3)] maxLocals)) t := fun t k => castTop (ef_0 m p1 p2 p3) k
  obtain ⟨T4, h4, X4, e4, E4, A4, D4, -, st4⟩ := newO X0 hx hZ hown (ww hw 0 rfl) (ww hw 1 rfl) (ww hw 2 rfl) e0 (g := (mkF m 0 #[.val (.int p1), .val (.int p2), .val (.int p3), .unset, .unset, .unset, .unset, .unset, .unset, .unset, .unset, .unset, .unset] [])) rfl (hb hby at_0) (by decide) (by decide)
  obtain ⟨b4, g4⟩ : ∃ z, z = h0.size := ⟨_, rfl⟩
  rw [← g4] at A4 D4 st4
  have F_values_b4 : Fld Z h4 b4 "com/example/transom/transom/Scope" "values" "Ljava/util/Map;" .null := D4 (Or.inr (ww hw 26 rfl)) (ty := (.object "java/util/Map")) (by decide)
  have F_parent_b4 : Fld Z h4 b4 "com/example/transom/transom/Scope" "parent" "Lcom/example/transom/transom/Scope;" .null := D4 (Or.inr (ww hw 28 rfl)) (ty := (.object "com/example/transom/transom/Scope")) (by decide)
  have F_top_b4 : Fld Z h4 b4 "com/example/transom/transom/Scope" "top" "Lcom/example/transom/transom/Scope;" .null := D4 (Or.inr (ww hw 30 rfl)) (ty := (.object "com/example/transom/transom/Scope")) (by decide)
  have F_model_b4 : Fld Z h4 b4 "com/example/transom/transom/Scope" "model" "Ljava/util/Map;" .null := D4 (Or.inr (ww hw 32 rfl)) (ty := (.object "java/util/Map")) (by decide)
  have F_template_b4 : Fld Z h4 b4 "com/example/transom/transom/Scope" "template" "Lcom/example/transom/transom/Template;" .null := D4 (Or.inr (ww hw 34 rfl)) (ty := (.object "com/example/transom/transom/Template")) (by decide)
  have F_renderer_b4 : Fld Z h4 b4 "com/example/transom/transom/Scope" "renderer" "Lcom/example/transom/transom/Scope;" .null := D4 (Or.inr (ww hw 36 rfl)) (ty := (.object "com/example/transom/transom/Scope")) (by decide)
  have F_calls_b4 : Fld Z h4 b4 "com/example/transom/transom/Scope" "calls" "I" (.int (0 : Int32)) := D4 (Or.inr (ww hw 38 rfl)) (ty := .int) (by decide)
  have F_jump_b4 : Fld Z h4 b4 "com/example/transom/transom/Scope" "jump" "Lcom/example/transom/transom/Scope$Jump;" .null := D4 (Or.inl (ww hw 51 rfl)) (ty := (.object "com/example/transom/transom/Scope$Jump")) (by decide)
  have E_b4 := A4
  have g_b4 : n0 ≤ b4 := Nat.le_trans Z0 (Nat.le_of_eq g4.symm)
  have sz_b4 : h0.size ≤ b4 := (Nat.le_trans (Keep.refl h0 []).1 (Nat.le_of_eq g4.symm))
  have K4 : Keep h0 h4 [] := (Keep.refl h0 []).ext E4
  obtain ⟨_, _, ⟨T5, L5, k5, n5⟩, -, X5, ⟨Lc5, hQ5, l5, y5, z5⟩, st5⟩ := X4.specialBack hx (y := (⟨"com/example/transom/transom/Scope", "<init>", "(Ljava/util/Map;Lcom/example/transom/transom/Template;)V"⟩ : MethodName)) rfl hown (mvT hZ (ww hw 3 rfl)) (mvT hZ (ww hw 4 rfl)) (mvT hZ (ww hw 5 rfl)) (by decide) (backOf (W := 1) (rm1 l Z a0 hw [] b4 _ _ _ _ _ _ _  h4 n0 (Nat.le_trans Z0 E4.1) F_jump_b4 E_b4 F_values_b4 g_b4 F_parent_b4 F_top_b4 F_model_b4 F_template_b4 F_renderer_b4 F_calls_b4) hZ (ww hw 5 rfl) (ww hw 2 rfl) (by decide) (by decide)) (g := (mkF m 6 #[.val (.int p1), .val (.int p2), .val (.int p3), .unset, .unset, .unset, .unset, .unset, .unset, .unset, .unset, .unset, .unset] [.null, .null, (.ref b4), (.ref b4)])) rfl (by rw [hml]; rfl) (Steps.refl _) (a := b4) (argsL := [.null, .null]) (rest := [(.ref b4)]) (lenOf pd_0_0 rfl) rfl (by show 2 * 0 + _ ≤ _; exact Nat.le_of_eq rfl) (hb hby at_6) (fun _ _ => ⟨rfl, e4, (by decide : 1 + 1 ≤ _), (by decide : 8 + 8 ≤ _)⟩)
  dsimp only [Pt.U, Pt.locs, Pt.cells, Pt.slots] at X5 l5 y5 z5 st5 hQ5
  subst l5 y5 z5
  obtain ⟨rfl, N5q, Kc5, Ec5, Ftop5, Fmodel5, Ftemplate5, Frenderer5, Fcalls5, Fjump5⟩ := hQ5
  have N5 := Fr.app N0 N5q
  have S_BREAK_5 := own_stak (S_BREAK.ext E4) Kc5 (allS (own_nst E_b4) all0)
  have S_CONTINUE_5 := own_stak (S_CONTINUE.ext E4) Kc5 (allS (own_nst E_b4) all0)
  have K5 : Keep h0 T5.heap [] := K4.trans Kc5 (allS (Or.inr sz_b4) all0)
  obtain ⟨T6, h6, X6, e6, E6, A6, D6, -, st6⟩ := newO X5 hx hZ hown (ww hw 0 rfl) (ww hw 1 rfl) (ww hw 2 rfl) rfl (g := (mkF m 10 #[.val (.int p1), .val (.int p2), .val (.int p3), .val (.ref b4), .unset, .unset, .unset, .unset, .unset, .unset, .unset, .unset, .unset] [])) rfl (hb hby at_10) (by decide) (by decide)
  obtain ⟨b6, g6⟩ : ∃ z, z = T5.heap.size := ⟨_, rfl⟩
  rw [← g6] at A6 D6 st6
  have F_values_b6 : Fld Z h6 b6 "com/example/transom/transom/Scope" "values" "Ljava/util/Map;" .null := D6 (Or.inr (ww hw 26 rfl)) (ty := (.object "java/util/Map")) (by decide)
  have F_parent_b6 : Fld Z h6 b6 "com/example/transom/transom/Scope" "parent" "Lcom/example/transom/transom/Scope;" .null := D6 (Or.inr (ww hw 28 rfl)) (ty := (.object "com/example/transom/transom/Scope")) (by decide)
  have F_top_b6 : Fld Z h6 b6 "com/example/transom/transom/Scope" "top" "Lcom/example/transom/transom/Scope;" .null := D6 (Or.inr (ww hw 30 rfl)) (ty := (.object "com/example/transom/transom/Scope")) (by decide)
  have F_model_b6 : Fld Z h6 b6 "com/example/transom/transom/Scope" "model" "Ljava/util/Map;" .null := D6 (Or.inr (ww hw 32 rfl)) (ty := (.object "java/util/Map")) (by decide)
  have F_template_b6 : Fld Z h6 b6 "com/example/transom/transom/Scope" "template" "Lcom/example/transom/transom/Template;" .null := D6 (Or.inr (ww hw 34 rfl)) (ty := (.object "com/example/transom/transom/Template")) (by decide)
  have F_renderer_b6 : Fld Z h6 b6 "com/example/transom/transom/Scope" "renderer" "Lcom/example/transom/transom/Scope;" .null := D6 (Or.inr (ww hw 36 rfl)) (ty := (.object "com/example/transom/transom/Scope")) (by decide)
  have F_calls_b6 : Fld Z h6 b6 "com/example/transom/transom/Scope" "calls" "I" (.int (0 : Int32)) := D6 (Or.inr (ww hw 38 rfl)) (ty := .int) (by decide)
  have F_jump_b6 : Fld Z h6 b6 "com/example/transom/transom/Scope" "jump" "Lcom/example/transom/transom/Scope$Jump;" .null := D6 (Or.inl (ww hw 51 rfl)) (ty := (.object "com/example/transom/transom/Scope$Jump")) (by decide)
  have E_b6 := A6
  have g_b6 : n0 ≤ b6 := Nat.le_trans (Nat.le_trans (Nat.le_trans Z0 E4.1) Kc5.1) (Nat.le_of_eq g6.symm)
  have sz_b6 : h0.size ≤ b6 := (Nat.le_trans K5.1 (Nat.le_of_eq g6.symm))
  have K6 : Keep h0 h6 [] := K5.ext E6
  obtain ⟨_, _, ⟨T7, L7, k7, n7⟩, -, X7, ⟨Lc7, hQ7, l7, y7, z7⟩, st7⟩ := X6.specialBack hx (y := (⟨"com/example/transom/transom/Scope", "<init>", "(Lcom/example/transom/transom/Scope;)V"⟩ : MethodName)) rfl hown (mvT hZ (ww hw 39 rfl)) (mvT hZ (ww hw 40 rfl)) (mvT hZ (ww hw 41 rfl)) (by decide) (backOf (W := 1) (rm5 l Z a0 hw [] b6 b4 b4 (0 : Int32) h6 n0 (Nat.le_trans (Nat.le_trans (Nat.le_trans Z0 E4.1) Kc5.1) E6.1) (Nat.ne_of_lt (Nat.lt_of_lt_of_le (E_b4.keep Kc5).lt (Nat.le_of_eq g6.symm))) E_b6 F_values_b6 F_parent_b6 F_top_b6 F_model_b6 F_template_b6 F_renderer_b6 F_calls_b6 g_b6 (Ftop5.ext E6) (Fmodel5.ext E6) (Ftemplate5.ext E6) (Frenderer5.ext E6) (Fcalls5.ext E6)) hZ (ww hw 41 rfl) (ww hw 2 rfl) (by decide) (by decide)) (g := (mkF m 15 #[.val (.int p1), .val (.int p2), .val (.int p3), .val (.ref b4), .unset, .unset, .unset, .unset, .unset, .unset, .unset, .unset, .unset] [(.ref b4), (.ref b6), (.ref b6)])) rfl (by rw [hml]; rfl) (Steps.refl _) (a := b6) (argsL := [(.ref b4)]) (rest := [(.ref b6)]) (lenOf pd_0_2 rfl) rfl (by show 2 * 0 + _ ≤ _; exact Nat.le_of_eq rfl) (hb hby at_15) (fun _ _ => ⟨rfl, e6, (by decide : 3 + 1 ≤ _), (by decide : 24 + 8 ≤ _)⟩)
  dsimp only [Pt.U, Pt.locs, Pt.cells, Pt.slots] at X7 l7 y7 z7 st7 hQ7
  subst l7 y7 z7
  obtain ⟨rfl, N7q, Kc7, Ec7, Ft7⟩ := hQ7
  have N7 := Fr.app N5 N7q
  have S_BREAK_7 := own_stak (S_BREAK_5.ext E6) Kc7 (allS (own_nst E_b6) all0)
  have S_CONTINUE_7 := own_stak (S_CONTINUE_5.ext E6) Kc7 (allS (own_nst E_b6) all0)
  have K7 : Keep h0 T7.heap [] := K6.trans Kc7 (allS (Or.inr sz_b6) all0)
  obtain ⟨cq8, kq8, q8a, q8b, q8c⟩ := isOf hZ rfl (((E_b4.keep Kc5).ext E6).keep Kc7)
  obtain ⟨_, _, ⟨T8, L8, k8, n8⟩, -, X8, ⟨Lc8, hQ8, l8, y8, z8⟩, st8⟩ := X7.virtualBack hx (y := (⟨"com/example/transom/transom/Scope", "jumping", "()Z"⟩ : MethodName)) (z := (⟨"com/example/transom/transom/Scope", "jumping", "()Z"⟩ : MethodName)) hown (mvT hZ (ww hw 45 rfl)) (mvT hZ (ww hw 46 rfl)) (notFace_of_selects (args := #[]) (mvT hZ (ww hw 48 rfl))) (mvT hZ (ww hw 48 rfl)) (mvT hZ (ww hw 47 rfl)) (by decide) (backOf (W := 0) (rmJn l Z a0 hw [] b4 b4 T7.heap n0 (Nat.le_trans (Nat.le_trans (Nat.le_trans (Nat.le_trans Z0 E4.1) Kc5.1) E6.1) Kc7.1) ((Ftop5.ext E6).keep Kc7 (ninS (Nat.ne_of_lt (Nat.lt_of_lt_of_le (E_b4.keep Kc5).lt (Nat.le_of_eq g6.symm))) nin0)) ((Fjump5.ext E6).keep Kc7 (ninS (Nat.ne_of_lt (Nat.lt_of_lt_of_le (E_b4.keep Kc5).lt (Nat.le_of_eq g6.symm))) nin0))) hZ (ww hw 49 rfl) (ww hw 2 rfl) (by decide) (by decide)) q8a q8c (g := (mkF m 129 #[.val (.int p1), .val (.int p2), .val (.int p3), .val (.ref b4), .val (.ref b6), .val (.ref b4), .val (.ref b4), .val (.int (p1 &&& (3 : Int32))), .val .null, .unset, .unset, .unset, .unset] [(.ref b4)])) rfl (by rw [hml]; rfl) (Steps.refl _) (argsL := []) (rest := []) (lenOf pd_0_4 rfl) rfl (by show 2 * 0 + _ ≤ _; exact Nat.le_of_eq rfl) (hb hby at_129) (fun _ _ => ⟨rfl, rfl, (by decide : 4 + 0 ≤ _), (by decide : 32 + 0 ≤ _)⟩)
  dsimp only [Pt.U, Pt.locs, Pt.cells, Pt.slots] at X8 l8 y8 z8 st8 hQ8
  subst l8 y8 z8
  obtain ⟨rfl, N8q, eh8⟩ := hQ8
  have N8 := Fr.app N7 N8q
  obtain ⟨cq9, kq9, q9a, q9b, q9c⟩ := isOf hZ eh8 (((E_b4.keep Kc5).ext E6).keep Kc7)
  obtain ⟨_, _, ⟨T9, L9, k9, n9⟩, -, X9, ⟨Lc9, hQ9, l9, y9, z9⟩, st9⟩ := X8.virtualBack hx (y := (⟨"com/example/transom/transom/Scope", "land", "()Lcom/example/transom/transom/Scope$Jump;"⟩ : MethodName)) (z := (⟨"com/example/transom/transom/Scope", "land", "()Lcom/example/transom/transom/Scope$Jump;"⟩ : MethodName)) hown (mvT hZ (ww hw 52 rfl)) (mvT hZ (ww hw 53 rfl)) (notFace_of_selects (args := #[]) (mvT hZ (ww hw 55 rfl))) (mvT hZ (ww hw 55 rfl)) (mvT hZ (ww hw 54 rfl)) (by decide) (backOf (W := 0) (rmLn l Z a0 hw [] b4 b4 T7.heap n0 (Nat.le_trans (Nat.le_trans (Nat.le_trans (Nat.le_trans Z0 E4.1) Kc5.1) E6.1) Kc7.1) ((Ftop5.ext E6).keep Kc7 (ninS (Nat.ne_of_lt (Nat.lt_of_lt_of_le (E_b4.keep Kc5).lt (Nat.le_of_eq g6.symm))) nin0)) ((Ftop5.ext E6).keep Kc7 (ninS (Nat.ne_of_lt (Nat.lt_of_lt_of_le (E_b4.keep Kc5).lt (Nat.le_of_eq g6.symm))) nin0)) ((Fjump5.ext E6).keep Kc7 (ninS (Nat.ne_of_lt (Nat.lt_of_lt_of_le (E_b4.keep Kc5).lt (Nat.le_of_eq g6.symm))) nin0)) (((E_b4.keep Kc5).ext E6).keep Kc7) g_b4) hZ (ww hw 56 rfl) (ww hw 2 rfl) (by decide) (by decide)) q9a q9c (g := (mkF m 154 #[.val (.int p1), .val (.int p2), .val (.int p3), .val (.ref b4), .val (.ref b6), .val (.ref b4), .val (.ref b4), .val (.int (p1 &&& (3 : Int32))), .val .null, .val (.int (1 : Int32)), .unset, .unset, .unset] [(.ref b4)])) rfl (by rw [hml]; rfl) (Steps.refl _) (argsL := []) (rest := []) (lenOf pd_0_5 rfl) rfl (by show 2 * 0 + _ ≤ _; exact Nat.le_of_eq rfl) (hb hby at_154) (fun _ _ => ⟨rfl, eh8, (by decide : 4 + 0 ≤ _), (by decide : 32 + 0 ≤ _)⟩)
  dsimp only [Pt.U, Pt.locs, Pt.cells, Pt.slots] at X9 l9 y9 z9 st9 hQ9
  subst l9 y9 z9
  obtain ⟨rfl, N9q, Kc9, Fj9, Ft9⟩ := hQ9
  have N9 := Fr.app N8 N9q
  have S_BREAK_9 := own_stak S_BREAK_7 Kc9 (allS (own_nst (((E_b4.keep Kc5).ext E6).keep Kc7)) all0)
  have S_CONTINUE_9 := own_stak S_CONTINUE_7 Kc9 (allS (own_nst (((E_b4.keep Kc5).ext E6).keep Kc7)) all0)
  have K9 : Keep h0 T9.heap [] := K7.trans Kc9 (allS (Or.inr sz_b4) all0)
  obtain ⟨cq10, kq10, q10a, q10b, q10c⟩ := isOf hZ rfl ((((E_b4.keep Kc5).ext E6).keep Kc7).keep Kc9)
  obtain ⟨_, _, ⟨T10, L10, k10, n10⟩, -, X10, ⟨Lc10, hQ10, l10, y10, z10⟩, st10⟩ := X9.virtualBack hx (y := (⟨"com/example/transom/transom/Scope", "jumping", "()Z"⟩ : MethodName)) (z := (⟨"com/example/transom/transom/Scope", "jumping", "()Z"⟩ : MethodName)) hown (mvT hZ (ww hw 45 rfl)) (mvT hZ (ww hw 46 rfl)) (notFace_of_selects (args := #[]) (mvT hZ (ww hw 48 rfl))) (mvT hZ (ww hw 48 rfl)) (mvT hZ (ww hw 47 rfl)) (by decide) (backOf (W := 0) (rmJn l Z a0 hw [] b4 b4 T9.heap n0 (Nat.le_trans (Nat.le_trans (Nat.le_trans (Nat.le_trans (Nat.le_trans Z0 E4.1) Kc5.1) E6.1) Kc7.1) Kc9.1) Ft9 Fj9) hZ (ww hw 49 rfl) (ww hw 2 rfl) (by decide) (by decide)) q10a q10c (g := (mkF m 160 #[.val (.int p1), .val (.int p2), .val (.int p3), .val (.ref b4), .val (.ref b6), .val (.ref b4), .val (.ref b4), .val (.int (p1 &&& (3 : Int32))), .val .null, .val (.int (1 : Int32)), .val .null, .unset, .unset] [(.ref b4)])) rfl (by rw [hml]; rfl) (Steps.refl _) (argsL := []) (rest := []) (lenOf pd_0_4 rfl) rfl (by show 2 * 0 + _ ≤ _; exact Nat.le_of_eq rfl) (hb hby at_160) (fun _ _ => ⟨rfl, rfl, (by decide : 4 + 0 ≤ _), (by decide : 32 + 0 ≤ _)⟩)
  dsimp only [Pt.U, Pt.locs, Pt.cells, Pt.slots] at X10 l10 y10 z10 st10 hQ10
  subst l10 y10 z10
  obtain ⟨rfl, N10q, eh10⟩ := hQ10
  have N10 := Fr.app N9 N10q
  obtain ⟨cq11, kq11, q11a, q11b, q11c⟩ := isOf hZ eh10 ((E_b6.keep Kc7).keep Kc9)
  obtain ⟨_, _, ⟨T11, L11, k11, n11⟩, -, X11, ⟨Lc11, hQ11, l11, y11, z11⟩, st11⟩ := X10.virtualBack hx (y := (⟨"com/example/transom/transom/Scope", "jumping", "()Z"⟩ : MethodName)) (z := (⟨"com/example/transom/transom/Scope", "jumping", "()Z"⟩ : MethodName)) hown (mvT hZ (ww hw 45 rfl)) (mvT hZ (ww hw 46 rfl)) (notFace_of_selects (args := #[]) (mvT hZ (ww hw 48 rfl))) (mvT hZ (ww hw 48 rfl)) (mvT hZ (ww hw 47 rfl)) (by decide) (backOf (W := 0) (rmJn l Z a0 hw [] b6 b4 T9.heap n0 (Nat.le_trans (Nat.le_trans (Nat.le_trans (Nat.le_trans (Nat.le_trans Z0 E4.1) Kc5.1) E6.1) Kc7.1) Kc9.1) (Ft7.keep Kc9 (ninS (Ne.symm (Nat.ne_of_lt (Nat.lt_of_lt_of_le (E_b4.keep Kc5).lt (Nat.le_of_eq g6.symm)))) nin0)) Fj9) hZ (ww hw 49 rfl) (ww hw 2 rfl) (by decide) (by decide)) q11a q11c (g := (mkF m 168 #[.val (.int p1), .val (.int p2), .val (.int p3), .val (.ref b4), .val (.ref b6), .val (.ref b4), .val (.ref b4), .val (.int (p1 &&& (3 : Int32))), .val .null, .val (.int (1 : Int32)), .val .null, .unset, .unset] [(.ref b6)])) rfl (by rw [hml]; rfl) (Steps.refl _) (argsL := []) (rest := []) (lenOf pd_0_4 rfl) rfl (by show 2 * 0 + _ ≤ _; exact Nat.le_of_eq rfl) (hb hby at_168) (fun _ _ => ⟨rfl, eh10, (by decide : 4 + 0 ≤ _), (by decide : 32 + 0 ≤ _)⟩)
  dsimp only [Pt.U, Pt.locs, Pt.cells, Pt.slots] at X11 l11 y11 z11 st11 hQ11
  subst l11 y11 z11
  obtain ⟨rfl, N11q, eh11⟩ := hQ11
  have N11 := Fr.app N10 N11q
  obtain ⟨cq12, kq12, q12a, q12b, q12c⟩ := isOf hZ eh11 ((((E_b4.keep Kc5).ext E6).keep Kc7).keep Kc9)
  obtain ⟨_, _, ⟨T12, L12, k12, n12⟩, -, X12, ⟨Lc12, hQ12, l12, y12, z12⟩, st12⟩ := X11.virtualBack hx (y := (⟨"com/example/transom/transom/Scope", "land", "()Lcom/example/transom/transom/Scope$Jump;"⟩ : MethodName)) (z := (⟨"com/example/transom/transom/Scope", "land", "()Lcom/example/transom/transom/Scope$Jump;"⟩ : MethodName)) hown (mvT hZ (ww hw 52 rfl)) (mvT hZ (ww hw 53 rfl)) (notFace_of_selects (args := #[]) (mvT hZ (ww hw 55 rfl))) (mvT hZ (ww hw 55 rfl)) (mvT hZ (ww hw 54 rfl)) (by decide) (backOf (W := 0) (rmLn l Z a0 hw [] b4 b4 T9.heap n0 (Nat.le_trans (Nat.le_trans (Nat.le_trans (Nat.le_trans (Nat.le_trans Z0 E4.1) Kc5.1) E6.1) Kc7.1) Kc9.1) Ft9 Ft9 Fj9 ((((E_b4.keep Kc5).ext E6).keep Kc7).keep Kc9) g_b4) hZ (ww hw 56 rfl) (ww hw 2 rfl) (by decide) (by decide)) q12a q12c (g := (mkF m 183 #[.val (.int p1), .val (.int p2), .val (.int p3), .val (.ref b4), .val (.ref b6), .val (.ref b4), .val (.ref b4), .val (.int (p1 &&& (3 : Int32))), .val .null, .val (.int (1 : Int32)), .val .null, .val (.int (1 : Int32)), .unset] [(.ref b4)])) rfl (by rw [hml]; rfl) (Steps.refl _) (argsL := []) (rest := []) (lenOf pd_0_5 rfl) rfl (by show 2 * 0 + _ ≤ _; exact Nat.le_of_eq rfl) (hb hby at_183) (fun _ _ => ⟨rfl, eh11, (by decide : 4 + 0 ≤ _), (by decide : 32 + 0 ≤ _)⟩)
  dsimp only [Pt.U, Pt.locs, Pt.cells, Pt.slots] at X12 l12 y12 z12 st12 hQ12
  subst l12 y12 z12
  obtain ⟨rfl, N12q, Kc12, Fj12, Ft12⟩ := hQ12
  have N12 := Fr.app N11 N12q
  have S_BREAK_12 := own_stak S_BREAK_9 Kc12 (allS (own_nst ((((E_b4.keep Kc5).ext E6).keep Kc7).keep Kc9)) all0)
  have S_CONTINUE_12 := own_stak S_CONTINUE_9 Kc12 (allS (own_nst ((((E_b4.keep Kc5).ext E6).keep Kc7).keep Kc9)) all0)
  have K12 : Keep h0 T12.heap [] := K9.trans Kc12 (allS (Or.inr sz_b4) all0)
  obtain ⟨fs, hr, hrun, hended, hW, hsame⟩ := X12.leave (v := some (.int (1 : Int32))) (fun h => by rw [Bd.returns] at h; cases h)
  refine ⟨_, _, pre0 _ ?_, hrun, hended, _, _, rfl, ?_, ⟨_, rfl⟩, hW, hsame.mono (by decide) (by decide)⟩
  · show Steps _ _ _ (s₁.setTop (mkF m 0 #[.val (.int p1), .val (.int p2), .val (.int p3), .unset, .unset, .unset, .unset, .unset, .unset, .unset, .unset, .unset, .unset] [])) _
    refine st4 _ ?_
    show Steps _ _ _ (T4.setTop (mkF m 3 #[.val (.int p1), .val (.int p2), .val (.int p3), .unset, .unset, .unset, .unset, .unset, .unset, .unset, .unset, .unset, .unset] [(.ref b4)])) _
    refine XS.dup X4.here hx rfl (hb hby at_3) rfl rfl ?_
    show Steps _ _ _ (T4.setTop (mkF m 4 #[.val (.int p1), .val (.int p2), .val (.int p3), .unset, .unset, .unset, .unset, .unset, .unset, .unset, .unset, .unset, .unset] [(.ref b4), (.ref b4)])) _
    refine XS.aconstNull X4.here hx rfl (hb hby at_4) ?_
    show Steps _ _ _ (T4.setTop (mkF m 5 #[.val (.int p1), .val (.int p2), .val (.int p3), .unset, .unset, .unset, .unset, .unset, .unset, .unset, .unset, .unset, .unset] [.null, (.ref b4), (.ref b4)])) _
    refine XS.aconstNull X4.here hx rfl (hb hby at_5) ?_
    show Steps _ _ _ (T4.setTop (mkF m 6 #[.val (.int p1), .val (.int p2), .val (.int p3), .unset, .unset, .unset, .unset, .unset, .unset, .unset, .unset, .unset, .unset] [.null, .null, (.ref b4), (.ref b4)])) _
    refine st5.trans ?_
    show Steps _ _ _ (T5.setTop (mkF m 9 #[.val (.int p1), .val (.int p2), .val (.int p3), .unset, .unset, .unset, .unset, .unset, .unset, .unset, .unset, .unset, .unset] [(.ref b4)])) _
    refine XS.astoreN X5.here hx rfl (hb hby at_9) rfl rfl (l' := #[.val (.int p1), .val (.int p2), .val (.int p3), .val (.ref b4), .unset, .unset, .unset, .unset, .unset, .unset, .unset, .unset, .unset]) rfl ?_
    show Steps _ _ _ (T5.setTop (mkF m 10 #[.val (.int p1), .val (.int p2), .val (.int p3), .val (.ref b4), .unset, .unset, .unset, .unset, .unset, .unset, .unset, .unset, .unset] [])) _
    refine st6 _ ?_
    show Steps _ _ _ (T6.setTop (mkF m 13 #[.val (.int p1), .val (.int p2), .val (.int p3), .val (.ref b4), .unset, .unset, .unset, .unset, .unset, .unset, .unset, .unset, .unset] [(.ref b6)])) _
    refine XS.dup X6.here hx rfl (hb hby at_13) rfl rfl ?_
    show Steps _ _ _ (T6.setTop (mkF m 14 #[.val (.int p1), .val (.int p2), .val (.int p3), .val (.ref b4), .unset, .unset, .unset, .unset, .unset, .unset, .unset, .unset, .unset] [(.ref b6), (.ref b6)])) _
    refine XS.aloadN X6.here hx rfl (hb hby at_14) rfl rfl ?_
    show Steps _ _ _ (T6.setTop (mkF m 15 #[.val (.int p1), .val (.int p2), .val (.int p3), .val (.ref b4), .unset, .unset, .unset, .unset, .unset, .unset, .unset, .unset, .unset] [(.ref b4), (.ref b6), (.ref b6)])) _
    refine st7.trans ?_
    show Steps _ _ _ (T7.setTop (mkF m 18 #[.val (.int p1), .val (.int p2), .val (.int p3), .val (.ref b4), .unset, .unset, .unset, .unset, .unset, .unset, .unset, .unset, .unset] [(.ref b6)])) _
    refine XS.astore X7.here hx rfl (hb hby at_18) rfl rfl (l' := #[.val (.int p1), .val (.int p2), .val (.int p3), .val (.ref b4), .val (.ref b6), .unset, .unset, .unset, .unset, .unset, .unset, .unset, .unset]) rfl ?_
    show Steps _ _ _ (T7.setTop (mkF m 20 #[.val (.int p1), .val (.int p2), .val (.int p3), .val (.ref b4), .val (.ref b6), .unset, .unset, .unset, .unset, .unset, .unset, .unset, .unset] [])) _
    refine XS.iloadN X7.here hx rfl (hb hby at_20) rfl ?_
    show Steps _ _ _ (T7.setTop (mkF m 21 #[.val (.int p1), .val (.int p2), .val (.int p3), .val (.ref b4), .val (.ref b6), .unset, .unset, .unset, .unset, .unset, .unset, .unset, .unset] [(.int p2)])) _
    refine XS.iconst X7.here hx rfl (hb hby at_21) ?_
    show Steps _ _ _ (T7.setTop (mkF m 22 #[.val (.int p1), .val (.int p2), .val (.int p3), .val (.ref b4), .val (.ref b6), .unset, .unset, .unset, .unset, .unset, .unset, .unset, .unset] [(.int (1 : Int32)), (.int p2)])) _
    refine XS.iand X7.here hx rfl (hb hby at_22) rfl ?_
    show Steps _ _ _ (T7.setTop (mkF m 23 #[.val (.int p1), .val (.int p2), .val (.int p3), .val (.ref b4), .val (.ref b6), .unset, .unset, .unset, .unset, .unset, .unset, .unset, .unset] [(.int (p2 &&& (1 : Int32)))])) _
    refine XS.ifYes X7.here hx rfl (pc0 := 23) (pc' := 31) rfl (hb hby at_23) rfl ((if0 _ _).trans (teq hc23).1) (by decide) (by decide) ?_
    show Steps _ _ _ (T7.setTop (mkF m 31 #[.val (.int p1), .val (.int p2), .val (.int p3), .val (.ref b4), .val (.ref b6), .unset, .unset, .unset, .unset, .unset, .unset, .unset, .unset] [])) _
    refine XS.aloadN X7.here hx rfl (hb hby at_31) rfl rfl ?_
    show Steps _ _ _ (T7.setTop (mkF m 32 #[.val (.int p1), .val (.int p2), .val (.int p3), .val (.ref b4), .val (.ref b6), .unset, .unset, .unset, .unset, .unset, .unset, .unset, .unset] [(.ref b4)])) _
    refine XS.astore X7.here hx rfl (hb hby at_32) rfl rfl (l' := #[.val (.int p1), .val (.int p2), .val (.int p3), .val (.ref b4), .val (.ref b6), .val (.ref b4), .unset, .unset, .unset, .unset, .unset, .unset, .unset]) rfl ?_
    show Steps _ _ _ (T7.setTop (mkF m 34 #[.val (.int p1), .val (.int p2), .val (.int p3), .val (.ref b4), .val (.ref b6), .val (.ref b4), .unset, .unset, .unset, .unset, .unset, .unset, .unset] [])) _
    refine XS.iloadN X7.here hx rfl (hb hby at_34) rfl ?_
    show Steps _ _ _ (T7.setTop (mkF m 35 #[.val (.int p1), .val (.int p2), .val (.int p3), .val (.ref b4), .val (.ref b6), .val (.ref b4), .unset, .unset, .unset, .unset, .unset, .unset, .unset] [(.int p3)])) _
    refine XS.iconst X7.here hx rfl (hb hby at_35) ?_
    show Steps _ _ _ (T7.setTop (mkF m 36 #[.val (.int p1), .val (.int p2), .val (.int p3), .val (.ref b4), .val (.ref b6), .val (.ref b4), .unset, .unset, .unset, .unset, .unset, .unset, .unset] [(.int (1 : Int32)), (.int p3)])) _
    refine XS.iand X7.here hx rfl (hb hby at_36) rfl ?_
    show Steps _ _ _ (T7.setTop (mkF m 37 #[.val (.int p1), .val (.int p2), .val (.int p3), .val (.ref b4), .val (.ref b6), .val (.ref b4), .unset, .unset, .unset, .unset, .unset, .unset, .unset] [(.int (p3 &&& (1 : Int32)))])) _
    refine XS.ifYes X7.here hx rfl (pc0 := 37) (pc' := 45) rfl (hb hby at_37) rfl ((if0 _ _).trans (teq hc37).1) (by decide) (by decide) ?_
    show Steps _ _ _ (T7.setTop (mkF m 45 #[.val (.int p1), .val (.int p2), .val (.int p3), .val (.ref b4), .val (.ref b6), .val (.ref b4), .unset, .unset, .unset, .unset, .unset, .unset, .unset] [])) _
    refine XS.aloadN X7.here hx rfl (hb hby at_45) rfl rfl ?_
    show Steps _ _ _ (T7.setTop (mkF m 46 #[.val (.int p1), .val (.int p2), .val (.int p3), .val (.ref b4), .val (.ref b6), .val (.ref b4), .unset, .unset, .unset, .unset, .unset, .unset, .unset] [(.ref b4)])) _
    refine XS.astore X7.here hx rfl (hb hby at_46) rfl rfl (l' := #[.val (.int p1), .val (.int p2), .val (.int p3), .val (.ref b4), .val (.ref b6), .val (.ref b4), .val (.ref b4), .unset, .unset, .unset, .unset, .unset, .unset]) rfl ?_
    show Steps _ _ _ (T7.setTop (mkF m 48 #[.val (.int p1), .val (.int p2), .val (.int p3), .val (.ref b4), .val (.ref b6), .val (.ref b4), .val (.ref b4), .unset, .unset, .unset, .unset, .unset, .unset] [])) _
    refine XS.iloadN X7.here hx rfl (hb hby at_48) rfl ?_
    show Steps _ _ _ (T7.setTop (mkF m 49 #[.val (.int p1), .val (.int p2), .val (.int p3), .val (.ref b4), .val (.ref b6), .val (.ref b4), .val (.ref b4), .unset, .unset, .unset, .unset, .unset, .unset] [(.int p1)])) _
    refine XS.iconst X7.here hx rfl (hb hby at_49) ?_
    show Steps _ _ _ (T7.setTop (mkF m 50 #[.val (.int p1), .val (.int p2), .val (.int p3), .val (.ref b4), .val (.ref b6), .val (.ref b4), .val (.ref b4), .unset, .unset, .unset, .unset, .unset, .unset] [(.int (3 : Int32)), (.int p1)])) _
    refine XS.iand X7.here hx rfl (hb hby at_50) rfl ?_
    show Steps _ _ _ (T7.setTop (mkF m 51 #[.val (.int p1), .val (.int p2), .val (.int p3), .val (.ref b4), .val (.ref b6), .val (.ref b4), .val (.ref b4), .unset, .unset, .unset, .unset, .unset, .unset] [(.int (p1 &&& (3 : Int32)))])) _
    refine XS.istore X7.here hx rfl (hb hby at_51) rfl (l' := #[.val (.int p1), .val (.int p2), .val (.int p3), .val (.ref b4), .val (.ref b6), .val (.ref b4), .val (.ref b4), .val (.int (p1 &&& (3 : Int32))), .unset, .unset, .unset, .unset, .unset]) rfl ?_
    show Steps _ _ _ (T7.setTop (mkF m 53 #[.val (.int p1), .val (.int p2), .val (.int p3), .val (.ref b4), .val (.ref b6), .val (.ref b4), .val (.ref b4), .val (.int (p1 &&& (3 : Int32))), .unset, .unset, .unset, .unset, .unset] [])) _
    refine XS.aconstNull X7.here hx rfl (hb hby at_53) ?_
    show Steps _ _ _ (T7.setTop (mkF m 54 #[.val (.int p1), .val (.int p2), .val (.int p3), .val (.ref b4), .val (.ref b6), .val (.ref b4), .val (.ref b4), .val (.int (p1 &&& (3 : Int32))), .unset, .unset, .unset, .unset, .unset] [.null])) _
    refine XS.astore X7.here hx rfl (hb hby at_54) rfl rfl (l' := #[.val (.int p1), .val (.int p2), .val (.int p3), .val (.ref b4), .val (.ref b6), .val (.ref b4), .val (.ref b4), .val (.int (p1 &&& (3 : Int32))), .val .null, .unset, .unset, .unset, .unset]) rfl ?_
    show Steps _ _ _ (T7.setTop (mkF m 56 #[.val (.int p1), .val (.int p2), .val (.int p3), .val (.ref b4), .val (.ref b6), .val (.ref b4), .val (.ref b4), .val (.int (p1 &&& (3 : Int32))), .val .null, .unset, .unset, .unset, .unset] [])) _
    refine XS.iload X7.here hx rfl (hb hby at_56) rfl ?_
    show Steps _ _ _ (T7.setTop (mkF m 58 #[.val (.int p1), .val (.int p2), .val (.int p3), .val (.ref b4), .val (.ref b6), .val (.ref b4), .val (.ref b4), .val (.int (p1 &&& (3 : Int32))), .val .null, .unset, .unset, .unset, .unset] [(.int (p1 &&& (3 : Int32)))])) _
    refine XS.iconst X7.here hx rfl (hb hby at_58) ?_
    show Steps _ _ _ (T7.setTop (mkF m 59 #[.val (.int p1), .val (.int p2), .val (.int p3), .val (.ref b4), .val (.ref b6), .val (.ref b4), .val (.ref b4), .val (.int (p1 &&& (3 : Int32))), .val .null, .unset, .unset, .unset, .unset] [(.int (1 : Int32)), (.int (p1 &&& (3 : Int32)))])) _
    refine XS.icmpYes X7.here hx rfl (pc0 := 59) (pc' := 78) rfl (hb hby at_59) rfl (feq hc59).2 (by decide) (by decide) ?_
    show Steps _ _ _ (T7.setTop (mkF m 78 #[.val (.int p1), .val (.int p2), .val (.int p3), .val (.ref b4), .val (.ref b6), .val (.ref b4), .val (.ref b4), .val (.int (p1 &&& (3 : Int32))), .val .null, .unset, .unset, .unset, .unset] [])) _
    refine XS.iload X7.here hx rfl (hb hby at_78) rfl ?_
    show Steps _ _ _ (T7.setTop (mkF m 80 #[.val (.int p1), .val (.int p2), .val (.int p3), .val (.ref b4), .val (.ref b6), .val (.ref b4), .val (.ref b4), .val (.int (p1 &&& (3 : Int32))), .val .null, .unset, .unset, .unset, .unset] [(.int (p1 &&& (3 : Int32)))])) _
    refine XS.iconst X7.here hx rfl (hb hby at_80) ?_
    show Steps _ _ _ (T7.setTop (mkF m 81 #[.val (.int p1), .val (.int p2), .val (.int p3), .val (.ref b4), .val (.ref b6), .val (.ref b4), .val (.ref b4), .val (.int (p1 &&& (3 : Int32))), .val .null, .unset, .unset, .unset, .unset] [(.int (2 : Int32)), (.int (p1 &&& (3 : Int32)))])) _
    refine XS.icmpYes X7.here hx rfl (pc0 := 81) (pc' := 100) rfl (hb hby at_81) rfl (feq hc81).2 (by decide) (by decide) ?_
    show Steps _ _ _ (T7.setTop (mkF m 100 #[.val (.int p1), .val (.int p2), .val (.int p3), .val (.ref b4), .val (.ref b6), .val (.ref b4), .val (.ref b4), .val (.int (p1 &&& (3 : Int32))), .val .null, .unset, .unset, .unset, .unset] [])) _
    refine XS.iload X7.here hx rfl (hb hby at_100) rfl ?_
    show Steps _ _ _ (T7.setTop (mkF m 102 #[.val (.int p1), .val (.int p2), .val (.int p3), .val (.ref b4), .val (.ref b6), .val (.ref b4), .val (.ref b4), .val (.int (p1 &&& (3 : Int32))), .val .null, .unset, .unset, .unset, .unset] [(.int (p1 &&& (3 : Int32)))])) _
    refine XS.iconst X7.here hx rfl (hb hby at_102) ?_
    show Steps _ _ _ (T7.setTop (mkF m 103 #[.val (.int p1), .val (.int p2), .val (.int p3), .val (.ref b4), .val (.ref b6), .val (.ref b4), .val (.ref b4), .val (.int (p1 &&& (3 : Int32))), .val .null, .unset, .unset, .unset, .unset] [(.int (3 : Int32)), (.int (p1 &&& (3 : Int32)))])) _
    refine XS.icmpYes X7.here hx rfl (pc0 := 103) (pc' := 127) rfl (hb hby at_103) rfl (feq hc103).2 (by decide) (by decide) ?_
    show Steps _ _ _ (T7.setTop (mkF m 127 #[.val (.int p1), .val (.int p2), .val (.int p3), .val (.ref b4), .val (.ref b6), .val (.ref b4), .val (.ref b4), .val (.int (p1 &&& (3 : Int32))), .val .null, .unset, .unset, .unset, .unset] [])) _
    refine XS.aload X7.here hx rfl (hb hby at_127) rfl rfl ?_
    show Steps _ _ _ (T7.setTop (mkF m 129 #[.val (.int p1), .val (.int p2), .val (.int p3), .val (.ref b4), .val (.ref b6), .val (.ref b4), .val (.ref b4), .val (.int (p1 &&& (3 : Int32))), .val .null, .unset, .unset, .unset, .unset] [(.ref b4)])) _
    refine st8.trans ?_
    show Steps _ _ _ (T8.setTop (mkF m 132 #[.val (.int p1), .val (.int p2), .val (.int p3), .val (.ref b4), .val (.ref b6), .val (.ref b4), .val (.ref b4), .val (.int (p1 &&& (3 : Int32))), .val .null, .unset, .unset, .unset, .unset] [(.int (0 : Int32))])) _
    refine XS.aload X8.here hx rfl (hb hby at_132) rfl rfl ?_
    show Steps _ _ _ (T8.setTop (mkF m 134 #[.val (.int p1), .val (.int p2), .val (.int p3), .val (.ref b4), .val (.ref b6), .val (.ref b4), .val (.ref b4), .val (.int (p1 &&& (3 : Int32))), .val .null, .unset, .unset, .unset, .unset] [.null, (.int (0 : Int32))])) _
    refine XS.ifnullYes X8.here hx rfl (pc0 := 134) (pc' := 141) rfl (hb hby at_134) rfl (by decide) (by decide) ?_
    show Steps _ _ _ (T8.setTop (mkF m 141 #[.val (.int p1), .val (.int p2), .val (.int p3), .val (.ref b4), .val (.ref b6), .val (.ref b4), .val (.ref b4), .val (.int (p1 &&& (3 : Int32))), .val .null, .unset, .unset, .unset, .unset] [(.int (0 : Int32))])) _
    refine XS.iconst X8.here hx rfl (hb hby at_141) ?_
    show Steps _ _ _ (T8.setTop (mkF m 142 #[.val (.int p1), .val (.int p2), .val (.int p3), .val (.ref b4), .val (.ref b6), .val (.ref b4), .val (.ref b4), .val (.int (p1 &&& (3 : Int32))), .val .null, .unset, .unset, .unset, .unset] [(.int (0 : Int32)), (.int (0 : Int32))])) _
    refine XS.icmpNo X8.here hx rfl (hb hby at_142) rfl (teq (rfl : (0 : Int32) = (0 : Int32))).2 ?_
    show Steps _ _ _ (T8.setTop (mkF m 145 #[.val (.int p1), .val (.int p2), .val (.int p3), .val (.ref b4), .val (.ref b6), .val (.ref b4), .val (.ref b4), .val (.int (p1 &&& (3 : Int32))), .val .null, .unset, .unset, .unset, .unset] [])) _
    refine XS.iconst X8.here hx rfl (hb hby at_145) ?_
    show Steps _ _ _ (T8.setTop (mkF m 146 #[.val (.int p1), .val (.int p2), .val (.int p3), .val (.ref b4), .val (.ref b6), .val (.ref b4), .val (.ref b4), .val (.int (p1 &&& (3 : Int32))), .val .null, .unset, .unset, .unset, .unset] [(.int (1 : Int32))])) _
    refine XS.goto X8.here hx rfl (pc0 := 146) (pc' := 150) rfl (hb hby at_146) (by decide) (by decide) ?_
    show Steps _ _ _ (T8.setTop (mkF m 150 #[.val (.int p1), .val (.int p2), .val (.int p3), .val (.ref b4), .val (.ref b6), .val (.ref b4), .val (.ref b4), .val (.int (p1 &&& (3 : Int32))), .val .null, .unset, .unset, .unset, .unset] [(.int (1 : Int32))])) _
    refine XS.istore X8.here hx rfl (hb hby at_150) rfl (l' := #[.val (.int p1), .val (.int p2), .val (.int p3), .val (.ref b4), .val (.ref b6), .val (.ref b4), .val (.ref b4), .val (.int (p1 &&& (3 : Int32))), .val .null, .val (.int (1 : Int32)), .unset, .unset, .unset]) rfl ?_
    show Steps _ _ _ (T8.setTop (mkF m 152 #[.val (.int p1), .val (.int p2), .val (.int p3), .val (.ref b4), .val (.ref b6), .val (.ref b4), .val (.ref b4), .val (.int (p1 &&& (3 : Int32))), .val .null, .val (.int (1 : Int32)), .unset, .unset, .unset] [])) _
    refine XS.aload X8.here hx rfl (hb hby at_152) rfl rfl ?_
    show Steps _ _ _ (T8.setTop (mkF m 154 #[.val (.int p1), .val (.int p2), .val (.int p3), .val (.ref b4), .val (.ref b6), .val (.ref b4), .val (.ref b4), .val (.int (p1 &&& (3 : Int32))), .val .null, .val (.int (1 : Int32)), .unset, .unset, .unset] [(.ref b4)])) _
    refine st9.trans ?_
    show Steps _ _ _ (T9.setTop (mkF m 157 #[.val (.int p1), .val (.int p2), .val (.int p3), .val (.ref b4), .val (.ref b6), .val (.ref b4), .val (.ref b4), .val (.int (p1 &&& (3 : Int32))), .val .null, .val (.int (1 : Int32)), .unset, .unset, .unset] [.null])) _
    refine XS.astore X9.here hx rfl (hb hby at_157) rfl rfl (l' := #[.val (.int p1), .val (.int p2), .val (.int p3), .val (.ref b4), .val (.ref b6), .val (.ref b4), .val (.ref b4), .val (.int (p1 &&& (3 : Int32))), .val .null, .val (.int (1 : Int32)), .val .null, .unset, .unset]) rfl ?_
    show Steps _ _ _ (T9.setTop (mkF m 159 #[.val (.int p1), .val (.int p2), .val (.int p3), .val (.ref b4), .val (.ref b6), .val (.ref b4), .val (.ref b4), .val (.int (p1 &&& (3 : Int32))), .val .null, .val (.int (1 : Int32)), .val .null, .unset, .unset] [])) _
    refine XS.aloadN X9.here hx rfl (hb hby at_159) rfl rfl ?_
    show Steps _ _ _ (T9.setTop (mkF m 160 #[.val (.int p1), .val (.int p2), .val (.int p3), .val (.ref b4), .val (.ref b6), .val (.ref b4), .val (.ref b4), .val (.int (p1 &&& (3 : Int32))), .val .null, .val (.int (1 : Int32)), .val .null, .unset, .unset] [(.ref b4)])) _
    refine st10.trans ?_
    show Steps _ _ _ (T10.setTop (mkF m 163 #[.val (.int p1), .val (.int p2), .val (.int p3), .val (.ref b4), .val (.ref b6), .val (.ref b4), .val (.ref b4), .val (.int (p1 &&& (3 : Int32))), .val .null, .val (.int (1 : Int32)), .val .null, .unset, .unset] [(.int (0 : Int32))])) _
    refine XS.ifNo X10.here hx rfl (hb hby at_163) rfl ((if0 _ _).trans (teq (rfl : (0 : Int32) = (0 : Int32))).2) ?_
    show Steps _ _ _ (T10.setTop (mkF m 166 #[.val (.int p1), .val (.int p2), .val (.int p3), .val (.ref b4), .val (.ref b6), .val (.ref b4), .val (.ref b4), .val (.int (p1 &&& (3 : Int32))), .val .null, .val (.int (1 : Int32)), .val .null, .unset, .unset] [])) _
    refine XS.aload X10.here hx rfl (hb hby at_166) rfl rfl ?_
    show Steps _ _ _ (T10.setTop (mkF m 168 #[.val (.int p1), .val (.int p2), .val (.int p3), .val (.ref b4), .val (.ref b6), .val (.ref b4), .val (.ref b4), .val (.int (p1 &&& (3 : Int32))), .val .null, .val (.int (1 : Int32)), .val .null, .unset, .unset] [(.ref b6)])) _
    refine st11.trans ?_
    show Steps _ _ _ (T11.setTop (mkF m 171 #[.val (.int p1), .val (.int p2), .val (.int p3), .val (.ref b4), .val (.ref b6), .val (.ref b4), .val (.ref b4), .val (.int (p1 &&& (3 : Int32))), .val .null, .val (.int (1 : Int32)), .val .null, .unset, .unset] [(.int (0 : Int32))])) _
    refine XS.ifNo X11.here hx rfl (hb hby at_171) rfl ((if0 _ _).trans (teq (rfl : (0 : Int32) = (0 : Int32))).2) ?_
    show Steps _ _ _ (T11.setTop (mkF m 174 #[.val (.int p1), .val (.int p2), .val (.int p3), .val (.ref b4), .val (.ref b6), .val (.ref b4), .val (.ref b4), .val (.int (p1 &&& (3 : Int32))), .val .null, .val (.int (1 : Int32)), .val .null, .unset, .unset] [])) _
    refine XS.iconst X11.here hx rfl (hb hby at_174) ?_
    show Steps _ _ _ (T11.setTop (mkF m 175 #[.val (.int p1), .val (.int p2), .val (.int p3), .val (.ref b4), .val (.ref b6), .val (.ref b4), .val (.ref b4), .val (.int (p1 &&& (3 : Int32))), .val .null, .val (.int (1 : Int32)), .val .null, .unset, .unset] [(.int (1 : Int32))])) _
    refine XS.goto X11.here hx rfl (pc0 := 175) (pc' := 179) rfl (hb hby at_175) (by decide) (by decide) ?_
    show Steps _ _ _ (T11.setTop (mkF m 179 #[.val (.int p1), .val (.int p2), .val (.int p3), .val (.ref b4), .val (.ref b6), .val (.ref b4), .val (.ref b4), .val (.int (p1 &&& (3 : Int32))), .val .null, .val (.int (1 : Int32)), .val .null, .unset, .unset] [(.int (1 : Int32))])) _
    refine XS.istore X11.here hx rfl (hb hby at_179) rfl (l' := #[.val (.int p1), .val (.int p2), .val (.int p3), .val (.ref b4), .val (.ref b6), .val (.ref b4), .val (.ref b4), .val (.int (p1 &&& (3 : Int32))), .val .null, .val (.int (1 : Int32)), .val .null, .val (.int (1 : Int32)), .unset]) rfl ?_
    show Steps _ _ _ (T11.setTop (mkF m 181 #[.val (.int p1), .val (.int p2), .val (.int p3), .val (.ref b4), .val (.ref b6), .val (.ref b4), .val (.ref b4), .val (.int (p1 &&& (3 : Int32))), .val .null, .val (.int (1 : Int32)), .val .null, .val (.int (1 : Int32)), .unset] [])) _
    refine XS.aload X11.here hx rfl (hb hby at_181) rfl rfl ?_
    show Steps _ _ _ (T11.setTop (mkF m 183 #[.val (.int p1), .val (.int p2), .val (.int p3), .val (.ref b4), .val (.ref b6), .val (.ref b4), .val (.ref b4), .val (.int (p1 &&& (3 : Int32))), .val .null, .val (.int (1 : Int32)), .val .null, .val (.int (1 : Int32)), .unset] [(.ref b4)])) _
    refine st12.trans ?_
    show Steps _ _ _ (T12.setTop (mkF m 186 #[.val (.int p1), .val (.int p2), .val (.int p3), .val (.ref b4), .val (.ref b6), .val (.ref b4), .val (.ref b4), .val (.int (p1 &&& (3 : Int32))), .val .null, .val (.int (1 : Int32)), .val .null, .val (.int (1 : Int32)), .unset] [.null])) _
    refine XS.astore X12.here hx rfl (hb hby at_186) rfl rfl (l' := #[.val (.int p1), .val (.int p2), .val (.int p3), .val (.ref b4), .val (.ref b6), .val (.ref b4), .val (.ref b4), .val (.int (p1 &&& (3 : Int32))), .val .null, .val (.int (1 : Int32)), .val .null, .val (.int (1 : Int32)), .val .null]) rfl ?_
    show Steps _ _ _ (T12.setTop (mkF m 188 #[.val (.int p1), .val (.int p2), .val (.int p3), .val (.ref b4), .val (.ref b6), .val (.ref b4), .val (.ref b4), .val (.int (p1 &&& (3 : Int32))), .val .null, .val (.int (1 : Int32)), .val .null, .val (.int (1 : Int32)), .val .null] [])) _
    refine XS.iload X12.here hx rfl (hb hby at_188) rfl ?_
    show Steps _ _ _ (T12.setTop (mkF m 190 #[.val (.int p1), .val (.int p2), .val (.int p3), .val (.ref b4), .val (.ref b6), .val (.ref b4), .val (.ref b4), .val (.int (p1 &&& (3 : Int32))), .val .null, .val (.int (1 : Int32)), .val .null, .val (.int (1 : Int32)), .val .null] [(.int (1 : Int32))])) _
    refine XS.ifNo X12.here hx rfl (hb hby at_190) rfl ((if0 _ _).trans (feq hc190).1) ?_
    show Steps _ _ _ (T12.setTop (mkF m 193 #[.val (.int p1), .val (.int p2), .val (.int p3), .val (.ref b4), .val (.ref b6), .val (.ref b4), .val (.ref b4), .val (.int (p1 &&& (3 : Int32))), .val .null, .val (.int (1 : Int32)), .val .null, .val (.int (1 : Int32)), .val .null] [])) _
    refine XS.aload X12.here hx rfl (hb hby at_193) rfl rfl ?_
    show Steps _ _ _ (T12.setTop (mkF m 195 #[.val (.int p1), .val (.int p2), .val (.int p3), .val (.ref b4), .val (.ref b6), .val (.ref b4), .val (.ref b4), .val (.int (p1 &&& (3 : Int32))), .val .null, .val (.int (1 : Int32)), .val .null, .val (.int (1 : Int32)), .val .null] [.null])) _
    refine XS.aload X12.here hx rfl (hb hby at_195) rfl rfl ?_
    show Steps _ _ _ (T12.setTop (mkF m 197 #[.val (.int p1), .val (.int p2), .val (.int p3), .val (.ref b4), .val (.ref b6), .val (.ref b4), .val (.ref b4), .val (.int (p1 &&& (3 : Int32))), .val .null, .val (.int (1 : Int32)), .val .null, .val (.int (1 : Int32)), .val .null] [.null, .null])) _
    refine Jvm.RoadKit.acmp (g := (mkF m 197 #[.val (.int p1), .val (.int p2), .val (.int p3), .val (.ref b4), .val (.ref b6), .val (.ref b4), .val (.ref b4), .val (.int (p1 &&& (3 : Int32))), .val .null, .val (.int (1 : Int32)), .val .null, .val (.int (1 : Int32)), .val .null] [.null, .null])) X12 hx rfl rfl rfl (pc0 := 197) (pc' := 200) (same := true) rfl (hb hby at_197) rfl (decide_eq_true rfl) (by decide) (by decide) ?_
    show Steps _ _ _ (T12.setTop (mkF m 200 #[.val (.int p1), .val (.int p2), .val (.int p3), .val (.ref b4), .val (.ref b6), .val (.ref b4), .val (.ref b4), .val (.int (p1 &&& (3 : Int32))), .val .null, .val (.int (1 : Int32)), .val .null, .val (.int (1 : Int32)), .val .null] [])) _
    refine XS.iload X12.here hx rfl (hb hby at_200) rfl ?_
    show Steps _ _ _ (T12.setTop (mkF m 202 #[.val (.int p1), .val (.int p2), .val (.int p3), .val (.ref b4), .val (.ref b6), .val (.ref b4), .val (.ref b4), .val (.int (p1 &&& (3 : Int32))), .val .null, .val (.int (1 : Int32)), .val .null, .val (.int (1 : Int32)), .val .null] [(.int (1 : Int32))])) _
    refine XS.ifNo X12.here hx rfl (hb hby at_202) rfl ((if0 _ _).trans (feq hc202).1) ?_
    show Steps _ _ _ (T12.setTop (mkF m 205 #[.val (.int p1), .val (.int p2), .val (.int p3), .val (.ref b4), .val (.ref b6), .val (.ref b4), .val (.ref b4), .val (.int (p1 &&& (3 : Int32))), .val .null, .val (.int (1 : Int32)), .val .null, .val (.int (1 : Int32)), .val .null] [])) _
    refine XS.aload X12.here hx rfl (hb hby at_205) rfl rfl ?_
    show Steps _ _ _ (T12.setTop (mkF m 207 #[.val (.int p1), .val (.int p2), .val (.int p3), .val (.ref b4), .val (.ref b6), .val (.ref b4), .val (.ref b4), .val (.int (p1 &&& (3 : Int32))), .val .null, .val (.int (1 : Int32)), .val .null, .val (.int (1 : Int32)), .val .null] [.null])) _
    refine XS.ifnonnullNo X12.here hx rfl (hb hby at_207) rfl ?_
    show Steps _ _ _ (T12.setTop (mkF m 210 #[.val (.int p1), .val (.int p2), .val (.int p3), .val (.ref b4), .val (.ref b6), .val (.ref b4), .val (.ref b4), .val (.int (p1 &&& (3 : Int32))), .val .null, .val (.int (1 : Int32)), .val .null, .val (.int (1 : Int32)), .val .null] [])) _
    refine XS.iconst X12.here hx rfl (hb hby at_210) ?_
    show Steps _ _ _ (T12.setTop (mkF m 211 #[.val (.int p1), .val (.int p2), .val (.int p3), .val (.ref b4), .val (.ref b6), .val (.ref b4), .val (.ref b4), .val (.int (p1 &&& (3 : Int32))), .val .null, .val (.int (1 : Int32)), .val .null, .val (.int (1 : Int32)), .val .null] [(.int (1 : Int32))])) _
    refine XS.goto X12.here hx rfl (pc0 := 211) (pc' := 215) rfl (hb hby at_211) (by decide) (by decide) ?_
    show Steps _ _ _ (T12.setTop (mkF m 215 #[.val (.int p1), .val (.int p2), .val (.int p3), .val (.ref b4), .val (.ref b6), .val (.ref b4), .val (.ref b4), .val (.int (p1 &&& (3 : Int32))), .val .null, .val (.int (1 : Int32)), .val .null, .val (.int (1 : Int32)), .val .null] [(.int (1 : Int32))])) _
    exact retN X12 hx (t := .boolean) Bd.returns (by simp) (hb hby at_215) hr
  · show Q0 Z p1 p2 p3 uB uC h0 n0 _ T12.heap _
    exact ⟨rfl, N12⟩
-- 2. THE CONTRACT: what this body leaves is yours
-- its room: frames: the greatest, locals: the greatest, cells 4 + .., slots 32 + ..: rm1: frames + 1; locals 1 + 3 + 11 + its room's locals; its cells and slots besides; rm5: frames + 1; locals 1 + 2 + 11 + its room's locals; its cells and slots besides; rm9: frames + 1; locals 0 + 2 + 11 + its room's locals; its cells and slots besides; rm7: frames + 1; locals 0 + 1 + 11 + its room's locals; its cells and slots besides; rm8: frames + 1; locals 0 + 2 + 11 + its room's locals; its cells and slots besides; rm7: frames + 1; locals 0 + 1 + 11 + its room's locals; its cells and slots besides; rm7: frames + 1; locals 0 + 1 + 11 + its room's locals; its cells and slots besides; rm8: frames + 1; locals 0 + 2 + 11 + its room's locals; its cells and slots besides
set_option maxRecDepth 65536 in
set_option maxHeartbeats 40000000 in
theorem rm0_tf1 (l : Launch) (Z : State) (a0 : Array Value) (hw : ∀ d ∈ tables_1, d.before a0 Z = true) (ws : List Jvm.Cond) (p1 : Int32) (p2 : Int32) (p3 : Int32) (uB : Addr) (uC : Addr) (h0 : Heap) (n0 : Nat) (Z0 : n0 ≤ h0.size) (S_BREAK : Sta Z h0 "com/example/transom/transom/Scope$Jump" "BREAK" "Lcom/example/transom/transom/Scope$Jump;" (.ref uB)) (S_CONTINUE : Sta Z h0 "com/example/transom/transom/Scope$Jump" "CONTINUE" "Lcom/example/transom/transom/Scope$Jump;" (.ref uC)) (hc23 : (p2 &&& (1 : Int32)) = (0 : Int32)) (hc37 : ¬ ((p3 &&& (1 : Int32)) = (0 : Int32))) (hc59 : (p1 &&& (3 : Int32)) = (1 : Int32)) (hc190 : ¬ ((1 : Int32) = (0 : Int32))) (hc202 : ¬ ((1 : Int32) = (0 : Int32))) :
    MetFree l x (head1 (Jvm.Cond.code x code maxLocals ret :: ws) room_1) (fun a U => a = #[(.int p1), (.int p2), (.int p3)] ∧ Z.Warmed39 U.vm ∧ U.heap = h0) (fun _ _ _ _ _ => True) (fun _ U o U' => ∃ v L, o = .returned v ∧ Q0 Z p1 p2 p3 uB uC h0 n0 v U'.heap L ∧ FrameEnd U o U' L room_1.cells room_1.slots) := by
  refine MetFree.of_bodySF (plainFor_of_name pn_0) hisR ?_
  intro p e s m args below meth c s₁ Bd hml0 hP hK
  obtain ⟨rfl, hZ, hh⟩ := hP
  have hx := Bd.exec
  have hby := Bd.bytes
  have hml : c.maxLocals = 13 := hml0
  have hown : s.vm.findClass "com/example/transom/transom/ScopeLandPinLaw" = some m.cls := findClass_of_methodNamed Bd.named
  have hnm := (name_of_methodNamed Bd.named Bd.method).1
  have X0 : Stand p l e room_1 s m #[(.int p1), (.int p2), (.int p3)] below meth c s₁ [] 0 0 := Stand.of_body Bd
  have e0 : s₁.heap = h0 := by rw [← hh, Bd.state]; rfl
  have N0 := Fr.nil n0
  have pre0 : ∀ t, Steps p.tables e below (s₁.setTop (mkF m 0 #[.val (.int p1), .val (.int p2), .val (.int p3), .unset, .unset, .unset, .unset, .unset, .unset, .unset, .unset, .unset, .unset] [])) t → Steps p.tables e below (s₁.setTop (entryFrame m #[(.int p1), (.int p2), (.int p3)] maxLocals)) t := fun t k => castTop (ef_0 m p1 p2 p3) k
  obtain ⟨T4, h4, X4, e4, E4, A4, D4, -, st4⟩ := newO X0 hx hZ hown (ww hw 0 rfl) (ww hw 1 rfl) (ww hw 2 rfl) e0 (g := (mkF m 0 #[.val (.int p1), .val (.int p2), .val (.int p3), .unset, .unset, .unset, .unset, .unset, .unset, .unset, .unset, .unset, .unset] [])) rfl (hb hby at_0) (by decide) (by decide)
  obtain ⟨b4, g4⟩ : ∃ z, z = h0.size := ⟨_, rfl⟩
  rw [← g4] at A4 D4 st4
  have F_values_b4 : Fld Z h4 b4 "com/example/transom/transom/Scope" "values" "Ljava/util/Map;" .null := D4 (Or.inr (ww hw 26 rfl)) (ty := (.object "java/util/Map")) (by decide)
  have F_parent_b4 : Fld Z h4 b4 "com/example/transom/transom/Scope" "parent" "Lcom/example/transom/transom/Scope;" .null := D4 (Or.inr (ww hw 28 rfl)) (ty := (.object "com/example/transom/transom/Scope")) (by decide)
  have F_top_b4 : Fld Z h4 b4 "com/example/transom/transom/Scope" "top" "Lcom/example/transom/transom/Scope;" .null := D4 (Or.inr (ww hw 30 rfl)) (ty := (.object "com/example/transom/transom/Scope")) (by decide)
  have F_model_b4 : Fld Z h4 b4 "com/example/transom/transom/Scope" "model" "Ljava/util/Map;" .null := D4 (Or.inr (ww hw 32 rfl)) (ty := (.object "java/util/Map")) (by decide)
  have F_template_b4 : Fld Z h4 b4 "com/example/transom/transom/Scope" "template" "Lcom/example/transom/transom/Template;" .null := D4 (Or.inr (ww hw 34 rfl)) (ty := (.object "com/example/transom/transom/Template")) (by decide)
  have F_renderer_b4 : Fld Z h4 b4 "com/example/transom/transom/Scope" "renderer" "Lcom/example/transom/transom/Scope;" .null := D4 (Or.inr (ww hw 36 rfl)) (ty := (.object "com/example/transom/transom/Scope")) (by decide)
  have F_calls_b4 : Fld Z h4 b4 "com/example/transom/transom/Scope" "calls" "I" (.int (0 : Int32)) := D4 (Or.inr (ww hw 38 rfl)) (ty := .int) (by decide)
  have F_jump_b4 : Fld Z h4 b4 "com/example/transom/transom/Scope" "jump" "Lcom/example/transom/transom/Scope$Jump;" .null := D4 (Or.inl (ww hw 51 rfl)) (ty := (.object "com/example/transom/transom/Scope$Jump")) (by decide)
  have E_b4 := A4
  have g_b4 : n0 ≤ b4 := Nat.le_trans Z0 (Nat.le_of_eq g4.symm)
  have sz_b4 : h0.size ≤ b4 := (Nat.le_trans (Keep.refl h0 []).1 (Nat.le_of_eq g4.symm))
  have K4 : Keep h0 h4 [] := (Keep.refl h0 []).ext E4
  obtain ⟨_, _, ⟨T5, L5, k5, n5⟩, -, X5, ⟨Lc5, hQ5, l5, y5, z5⟩, st5⟩ := X4.specialBack hx (y := (⟨"com/example/transom/transom/Scope", "<init>", "(Ljava/util/Map;Lcom/example/transom/transom/Template;)V"⟩ : MethodName)) rfl hown (mvT hZ (ww hw 3 rfl)) (mvT hZ (ww hw 4 rfl)) (mvT hZ (ww hw 5 rfl)) (by decide) (backOf (W := 1) (rm1 l Z a0 hw [] b4 _ _ _ _ _ _ _  h4 n0 (Nat.le_trans Z0 E4.1) F_jump_b4 E_b4 F_values_b4 g_b4 F_parent_b4 F_top_b4 F_model_b4 F_template_b4 F_renderer_b4 F_calls_b4) hZ (ww hw 5 rfl) (ww hw 2 rfl) (by decide) (by decide)) (g := (mkF m 6 #[.val (.int p1), .val (.int p2), .val (.int p3), .unset, .unset, .unset, .unset, .unset, .unset, .unset, .unset, .unset, .unset] [.null, .null, (.ref b4), (.ref b4)])) rfl (by rw [hml]; rfl) (Steps.refl _) (a := b4) (argsL := [.null, .null]) (rest := [(.ref b4)]) (lenOf pd_0_0 rfl) rfl (by show 2 * 0 + _ ≤ _; exact Nat.le_of_eq rfl) (hb hby at_6) (fun _ _ => ⟨rfl, e4, (by decide : 1 + 1 ≤ _), (by decide : 8 + 8 ≤ _)⟩)
  dsimp only [Pt.U, Pt.locs, Pt.cells, Pt.slots] at X5 l5 y5 z5 st5 hQ5
  subst l5 y5 z5
  obtain ⟨rfl, N5q, Kc5, Ec5, Ftop5, Fmodel5, Ftemplate5, Frenderer5, Fcalls5, Fjump5⟩ := hQ5
  have N5 := Fr.app N0 N5q
  have S_BREAK_5 := own_stak (S_BREAK.ext E4) Kc5 (allS (own_nst E_b4) all0)
  have S_CONTINUE_5 := own_stak (S_CONTINUE.ext E4) Kc5 (allS (own_nst E_b4) all0)
  have K5 : Keep h0 T5.heap [] := K4.trans Kc5 (allS (Or.inr sz_b4) all0)
  obtain ⟨T6, h6, X6, e6, E6, A6, D6, -, st6⟩ := newO X5 hx hZ hown (ww hw 0 rfl) (ww hw 1 rfl) (ww hw 2 rfl) rfl (g := (mkF m 10 #[.val (.int p1), .val (.int p2), .val (.int p3), .val (.ref b4), .unset, .unset, .unset, .unset, .unset, .unset, .unset, .unset, .unset] [])) rfl (hb hby at_10) (by decide) (by decide)
  obtain ⟨b6, g6⟩ : ∃ z, z = T5.heap.size := ⟨_, rfl⟩
  rw [← g6] at A6 D6 st6
  have F_values_b6 : Fld Z h6 b6 "com/example/transom/transom/Scope" "values" "Ljava/util/Map;" .null := D6 (Or.inr (ww hw 26 rfl)) (ty := (.object "java/util/Map")) (by decide)
  have F_parent_b6 : Fld Z h6 b6 "com/example/transom/transom/Scope" "parent" "Lcom/example/transom/transom/Scope;" .null := D6 (Or.inr (ww hw 28 rfl)) (ty := (.object "com/example/transom/transom/Scope")) (by decide)
  have F_top_b6 : Fld Z h6 b6 "com/example/transom/transom/Scope" "top" "Lcom/example/transom/transom/Scope;" .null := D6 (Or.inr (ww hw 30 rfl)) (ty := (.object "com/example/transom/transom/Scope")) (by decide)
  have F_model_b6 : Fld Z h6 b6 "com/example/transom/transom/Scope" "model" "Ljava/util/Map;" .null := D6 (Or.inr (ww hw 32 rfl)) (ty := (.object "java/util/Map")) (by decide)
  have F_template_b6 : Fld Z h6 b6 "com/example/transom/transom/Scope" "template" "Lcom/example/transom/transom/Template;" .null := D6 (Or.inr (ww hw 34 rfl)) (ty := (.object "com/example/transom/transom/Template")) (by decide)
  have F_renderer_b6 : Fld Z h6 b6 "com/example/transom/transom/Scope" "renderer" "Lcom/example/transom/transom/Scope;" .null := D6 (Or.inr (ww hw 36 rfl)) (ty := (.object "com/example/transom/transom/Scope")) (by decide)
  have F_calls_b6 : Fld Z h6 b6 "com/example/transom/transom/Scope" "calls" "I" (.int (0 : Int32)) := D6 (Or.inr (ww hw 38 rfl)) (ty := .int) (by decide)
  have F_jump_b6 : Fld Z h6 b6 "com/example/transom/transom/Scope" "jump" "Lcom/example/transom/transom/Scope$Jump;" .null := D6 (Or.inl (ww hw 51 rfl)) (ty := (.object "com/example/transom/transom/Scope$Jump")) (by decide)
  have E_b6 := A6
  have g_b6 : n0 ≤ b6 := Nat.le_trans (Nat.le_trans (Nat.le_trans Z0 E4.1) Kc5.1) (Nat.le_of_eq g6.symm)
  have sz_b6 : h0.size ≤ b6 := (Nat.le_trans K5.1 (Nat.le_of_eq g6.symm))
  have K6 : Keep h0 h6 [] := K5.ext E6
  obtain ⟨_, _, ⟨T7, L7, k7, n7⟩, -, X7, ⟨Lc7, hQ7, l7, y7, z7⟩, st7⟩ := X6.specialBack hx (y := (⟨"com/example/transom/transom/Scope", "<init>", "(Lcom/example/transom/transom/Scope;)V"⟩ : MethodName)) rfl hown (mvT hZ (ww hw 39 rfl)) (mvT hZ (ww hw 40 rfl)) (mvT hZ (ww hw 41 rfl)) (by decide) (backOf (W := 1) (rm5 l Z a0 hw [] b6 b4 b4 (0 : Int32) h6 n0 (Nat.le_trans (Nat.le_trans (Nat.le_trans Z0 E4.1) Kc5.1) E6.1) (Nat.ne_of_lt (Nat.lt_of_lt_of_le (E_b4.keep Kc5).lt (Nat.le_of_eq g6.symm))) E_b6 F_values_b6 F_parent_b6 F_top_b6 F_model_b6 F_template_b6 F_renderer_b6 F_calls_b6 g_b6 (Ftop5.ext E6) (Fmodel5.ext E6) (Ftemplate5.ext E6) (Frenderer5.ext E6) (Fcalls5.ext E6)) hZ (ww hw 41 rfl) (ww hw 2 rfl) (by decide) (by decide)) (g := (mkF m 15 #[.val (.int p1), .val (.int p2), .val (.int p3), .val (.ref b4), .unset, .unset, .unset, .unset, .unset, .unset, .unset, .unset, .unset] [(.ref b4), (.ref b6), (.ref b6)])) rfl (by rw [hml]; rfl) (Steps.refl _) (a := b6) (argsL := [(.ref b4)]) (rest := [(.ref b6)]) (lenOf pd_0_2 rfl) rfl (by show 2 * 0 + _ ≤ _; exact Nat.le_of_eq rfl) (hb hby at_15) (fun _ _ => ⟨rfl, e6, (by decide : 3 + 1 ≤ _), (by decide : 24 + 8 ≤ _)⟩)
  dsimp only [Pt.U, Pt.locs, Pt.cells, Pt.slots] at X7 l7 y7 z7 st7 hQ7
  subst l7 y7 z7
  obtain ⟨rfl, N7q, Kc7, Ec7, Ft7⟩ := hQ7
  have N7 := Fr.app N5 N7q
  have S_BREAK_7 := own_stak (S_BREAK_5.ext E6) Kc7 (allS (own_nst E_b6) all0)
  have S_CONTINUE_7 := own_stak (S_CONTINUE_5.ext E6) Kc7 (allS (own_nst E_b6) all0)
  have K7 : Keep h0 T7.heap [] := K6.trans Kc7 (allS (Or.inr sz_b6) all0)
  obtain ⟨T8, X8, e8, st8⟩ := getS2 X7 hx hZ hown (host := "") (Or.inl (ww hw 57 rfl)) Via.refl rfl S_BREAK_7 (g := (mkF m 64 #[.val (.int p1), .val (.int p2), .val (.int p3), .val (.ref b4), .val (.ref b6), .val (.ref b4), .val (.ref b6), .val (.int (p1 &&& (3 : Int32))), .val .null, .unset, .unset, .unset, .unset] [(.ref b4)])) rfl (hb hby at_64)
  obtain ⟨cq9, kq9, q9a, q9b, q9c⟩ := isOf hZ e8 (((E_b4.keep Kc5).ext E6).keep Kc7)
  obtain ⟨_, _, ⟨T9, L9, k9, n9⟩, -, X9, ⟨Lc9, hQ9, l9, y9, z9⟩, st9⟩ := X8.virtualBack hx (y := (⟨"com/example/transom/transom/Scope", "jump", "(Lcom/example/transom/transom/Scope$Jump;)V"⟩ : MethodName)) (z := (⟨"com/example/transom/transom/Scope", "jump", "(Lcom/example/transom/transom/Scope$Jump;)V"⟩ : MethodName)) hown (mvT hZ (ww hw 60 rfl)) (mvT hZ (ww hw 61 rfl)) (notFace_of_selects (args := #[]) (mvT hZ (ww hw 63 rfl))) (mvT hZ (ww hw 63 rfl)) (mvT hZ (ww hw 62 rfl)) (by decide) (backOf (W := 0) (rmS l Z a0 hw [] b4 uB b4 _ T7.heap n0 (Nat.le_trans (Nat.le_trans (Nat.le_trans (Nat.le_trans Z0 E4.1) Kc5.1) E6.1) Kc7.1) ((Ftop5.ext E6).keep Kc7 (ninS (Nat.ne_of_lt (Nat.lt_of_lt_of_le (E_b4.keep Kc5).lt (Nat.le_of_eq g6.symm))) nin0)) ((Ftop5.ext E6).keep Kc7 (ninS (Nat.ne_of_lt (Nat.lt_of_lt_of_le (E_b4.keep Kc5).lt (Nat.le_of_eq g6.symm))) nin0)) (((E_b4.keep Kc5).ext E6).keep Kc7) ((Fjump5.ext E6).keep Kc7 (ninS (Nat.ne_of_lt (Nat.lt_of_lt_of_le (E_b4.keep Kc5).lt (Nat.le_of_eq g6.symm))) nin0)) g_b4) hZ (ww hw 64 rfl) (ww hw 2 rfl) (by decide) (by decide)) q9a q9c (g := (mkF m 67 #[.val (.int p1), .val (.int p2), .val (.int p3), .val (.ref b4), .val (.ref b6), .val (.ref b4), .val (.ref b6), .val (.int (p1 &&& (3 : Int32))), .val .null, .unset, .unset, .unset, .unset] [(.ref uB), (.ref b4)])) rfl (by rw [hml]; rfl) (Steps.refl _) (argsL := [(.ref uB)]) (rest := []) (lenOf pd_0_6 rfl) rfl (by show 2 * 0 + _ ≤ _; exact Nat.le_of_eq rfl) (hb hby at_67) (fun _ _ => ⟨rfl, e8, (by decide : 4 + 0 ≤ _), (by decide : 32 + 0 ≤ _)⟩)
  dsimp only [Pt.U, Pt.locs, Pt.cells, Pt.slots] at X9 l9 y9 z9 st9 hQ9
  subst l9 y9 z9
  obtain ⟨rfl, N9q, Kc9, Fj9, Ft9⟩ := hQ9
  have N9 := Fr.app N7 N9q
  have S_BREAK_9 := own_stak S_BREAK_7 Kc9 (allS (own_nst (((E_b4.keep Kc5).ext E6).keep Kc7)) all0)
  have S_CONTINUE_9 := own_stak S_CONTINUE_7 Kc9 (allS (own_nst (((E_b4.keep Kc5).ext E6).keep Kc7)) all0)
  have K9 : Keep h0 T9.heap [] := K7.trans Kc9 (allS (Or.inr sz_b4) all0)
  obtain ⟨T10, X10, e10, st10⟩ := getS2 X9 hx hZ hown (host := "") (Or.inl (ww hw 57 rfl)) Via.refl rfl S_BREAK_9 (g := (mkF m 70 #[.val (.int p1), .val (.int p2), .val (.int p3), .val (.ref b4), .val (.ref b6), .val (.ref b4), .val (.ref b6), .val (.int (p1 &&& (3 : Int32))), .val .null, .unset, .unset, .unset, .unset] [])) rfl (hb hby at_70)
  obtain ⟨cq11, kq11, q11a, q11b, q11c⟩ := isOf hZ e10 ((E_b6.keep Kc7).keep Kc9)
  obtain ⟨_, _, ⟨T11, L11, k11, n11⟩, -, X11, ⟨Lc11, hQ11, l11, y11, z11⟩, st11⟩ := X10.virtualBack hx (y := (⟨"com/example/transom/transom/Scope", "jumping", "()Z"⟩ : MethodName)) (z := (⟨"com/example/transom/transom/Scope", "jumping", "()Z"⟩ : MethodName)) hown (mvT hZ (ww hw 45 rfl)) (mvT hZ (ww hw 46 rfl)) (notFace_of_selects (args := #[]) (mvT hZ (ww hw 48 rfl))) (mvT hZ (ww hw 48 rfl)) (mvT hZ (ww hw 47 rfl)) (by decide) (backOf (W := 0) (rmJr l Z a0 hw [] b6 b4 uB T9.heap n0 (Nat.le_trans (Nat.le_trans (Nat.le_trans (Nat.le_trans (Nat.le_trans Z0 E4.1) Kc5.1) E6.1) Kc7.1) Kc9.1) (Ft7.keep Kc9 (ninS (Ne.symm (Nat.ne_of_lt (Nat.lt_of_lt_of_le (E_b4.keep Kc5).lt (Nat.le_of_eq g6.symm)))) nin0)) Fj9) hZ (ww hw 49 rfl) (ww hw 2 rfl) (by decide) (by decide)) q11a q11c (g := (mkF m 129 #[.val (.int p1), .val (.int p2), .val (.int p3), .val (.ref b4), .val (.ref b6), .val (.ref b4), .val (.ref b6), .val (.int (p1 &&& (3 : Int32))), .val (.ref uB), .unset, .unset, .unset, .unset] [(.ref b6)])) rfl (by rw [hml]; rfl) (Steps.refl _) (argsL := []) (rest := []) (lenOf pd_0_4 rfl) rfl (by show 2 * 0 + _ ≤ _; exact Nat.le_of_eq rfl) (hb hby at_129) (fun _ _ => ⟨rfl, e10, (by decide : 4 + 0 ≤ _), (by decide : 32 + 0 ≤ _)⟩)
  dsimp only [Pt.U, Pt.locs, Pt.cells, Pt.slots] at X11 l11 y11 z11 st11 hQ11
  subst l11 y11 z11
  obtain ⟨rfl, N11q, eh11⟩ := hQ11
  have N11 := Fr.app N9 N11q
  obtain ⟨cq12, kq12, q12a, q12b, q12c⟩ := isOf hZ eh11 ((E_b6.keep Kc7).keep Kc9)
  obtain ⟨_, _, ⟨T12, L12, k12, n12⟩, -, X12, ⟨Lc12, hQ12, l12, y12, z12⟩, st12⟩ := X11.virtualBack hx (y := (⟨"com/example/transom/transom/Scope", "land", "()Lcom/example/transom/transom/Scope$Jump;"⟩ : MethodName)) (z := (⟨"com/example/transom/transom/Scope", "land", "()Lcom/example/transom/transom/Scope$Jump;"⟩ : MethodName)) hown (mvT hZ (ww hw 52 rfl)) (mvT hZ (ww hw 53 rfl)) (notFace_of_selects (args := #[]) (mvT hZ (ww hw 55 rfl))) (mvT hZ (ww hw 55 rfl)) (mvT hZ (ww hw 54 rfl)) (by decide) (backOf (W := 0) (rmLr l Z a0 hw [] b6 b4 uB T9.heap n0 (Nat.le_trans (Nat.le_trans (Nat.le_trans (Nat.le_trans (Nat.le_trans Z0 E4.1) Kc5.1) E6.1) Kc7.1) Kc9.1) Ft9 (Ft7.keep Kc9 (ninS (Ne.symm (Nat.ne_of_lt (Nat.lt_of_lt_of_le (E_b4.keep Kc5).lt (Nat.le_of_eq g6.symm)))) nin0)) Fj9 ((((E_b4.keep Kc5).ext E6).keep Kc7).keep Kc9) g_b4) hZ (ww hw 56 rfl) (ww hw 2 rfl) (by decide) (by decide)) q12a q12c (g := (mkF m 154 #[.val (.int p1), .val (.int p2), .val (.int p3), .val (.ref b4), .val (.ref b6), .val (.ref b4), .val (.ref b6), .val (.int (p1 &&& (3 : Int32))), .val (.ref uB), .val (.int (1 : Int32)), .unset, .unset, .unset] [(.ref b6)])) rfl (by rw [hml]; rfl) (Steps.refl _) (argsL := []) (rest := []) (lenOf pd_0_5 rfl) rfl (by show 2 * 0 + _ ≤ _; exact Nat.le_of_eq rfl) (hb hby at_154) (fun _ _ => ⟨rfl, eh11, (by decide : 4 + 0 ≤ _), (by decide : 32 + 0 ≤ _)⟩)
  dsimp only [Pt.U, Pt.locs, Pt.cells, Pt.slots] at X12 l12 y12 z12 st12 hQ12
  subst l12 y12 z12
  obtain ⟨rfl, N12q, Kc12, Fj12, Ft12⟩ := hQ12
  have N12 := Fr.app N11 N12q
  have S_BREAK_12 := own_stak S_BREAK_9 Kc12 (allS (own_nst ((((E_b4.keep Kc5).ext E6).keep Kc7).keep Kc9)) all0)
  have S_CONTINUE_12 := own_stak S_CONTINUE_9 Kc12 (allS (own_nst ((((E_b4.keep Kc5).ext E6).keep Kc7).keep Kc9)) all0)
  have K12 : Keep h0 T12.heap [] := K9.trans Kc12 (allS (Or.inr sz_b4) all0)
  obtain ⟨cq13, kq13, q13a, q13b, q13c⟩ := isOf hZ rfl (((((E_b4.keep Kc5).ext E6).keep Kc7).keep Kc9).keep Kc12)
  obtain ⟨_, _, ⟨T13, L13, k13, n13⟩, -, X13, ⟨Lc13, hQ13, l13, y13, z13⟩, st13⟩ := X12.virtualBack hx (y := (⟨"com/example/transom/transom/Scope", "jumping", "()Z"⟩ : MethodName)) (z := (⟨"com/example/transom/transom/Scope", "jumping", "()Z"⟩ : MethodName)) hown (mvT hZ (ww hw 45 rfl)) (mvT hZ (ww hw 46 rfl)) (notFace_of_selects (args := #[]) (mvT hZ (ww hw 48 rfl))) (mvT hZ (ww hw 48 rfl)) (mvT hZ (ww hw 47 rfl)) (by decide) (backOf (W := 0) (rmJn l Z a0 hw [] b4 b4 T12.heap n0 (Nat.le_trans (Nat.le_trans (Nat.le_trans (Nat.le_trans (Nat.le_trans (Nat.le_trans Z0 E4.1) Kc5.1) E6.1) Kc7.1) Kc9.1) Kc12.1) Ft12 Fj12) hZ (ww hw 49 rfl) (ww hw 2 rfl) (by decide) (by decide)) q13a q13c (g := (mkF m 160 #[.val (.int p1), .val (.int p2), .val (.int p3), .val (.ref b4), .val (.ref b6), .val (.ref b4), .val (.ref b6), .val (.int (p1 &&& (3 : Int32))), .val (.ref uB), .val (.int (1 : Int32)), .val (.ref uB), .unset, .unset] [(.ref b4)])) rfl (by rw [hml]; rfl) (Steps.refl _) (argsL := []) (rest := []) (lenOf pd_0_4 rfl) rfl (by show 2 * 0 + _ ≤ _; exact Nat.le_of_eq rfl) (hb hby at_160) (fun _ _ => ⟨rfl, rfl, (by decide : 4 + 0 ≤ _), (by decide : 32 + 0 ≤ _)⟩)
  dsimp only [Pt.U, Pt.locs, Pt.cells, Pt.slots] at X13 l13 y13 z13 st13 hQ13
  subst l13 y13 z13
  obtain ⟨rfl, N13q, eh13⟩ := hQ13
  have N13 := Fr.app N12 N13q
  obtain ⟨cq14, kq14, q14a, q14b, q14c⟩ := isOf hZ eh13 (((E_b6.keep Kc7).keep Kc9).keep Kc12)
  obtain ⟨_, _, ⟨T14, L14, k14, n14⟩, -, X14, ⟨Lc14, hQ14, l14, y14, z14⟩, st14⟩ := X13.virtualBack hx (y := (⟨"com/example/transom/transom/Scope", "jumping", "()Z"⟩ : MethodName)) (z := (⟨"com/example/transom/transom/Scope", "jumping", "()Z"⟩ : MethodName)) hown (mvT hZ (ww hw 45 rfl)) (mvT hZ (ww hw 46 rfl)) (notFace_of_selects (args := #[]) (mvT hZ (ww hw 48 rfl))) (mvT hZ (ww hw 48 rfl)) (mvT hZ (ww hw 47 rfl)) (by decide) (backOf (W := 0) (rmJn l Z a0 hw [] b6 b4 T12.heap n0 (Nat.le_trans (Nat.le_trans (Nat.le_trans (Nat.le_trans (Nat.le_trans (Nat.le_trans Z0 E4.1) Kc5.1) E6.1) Kc7.1) Kc9.1) Kc12.1) ((Ft7.keep Kc9 (ninS (Ne.symm (Nat.ne_of_lt (Nat.lt_of_lt_of_le (E_b4.keep Kc5).lt (Nat.le_of_eq g6.symm)))) nin0)).keep Kc12 (ninS (Ne.symm (Nat.ne_of_lt (Nat.lt_of_lt_of_le (E_b4.keep Kc5).lt (Nat.le_of_eq g6.symm)))) nin0)) Fj12) hZ (ww hw 49 rfl) (ww hw 2 rfl) (by decide) (by decide)) q14a q14c (g := (mkF m 168 #[.val (.int p1), .val (.int p2), .val (.int p3), .val (.ref b4), .val (.ref b6), .val (.ref b4), .val (.ref b6), .val (.int (p1 &&& (3 : Int32))), .val (.ref uB), .val (.int (1 : Int32)), .val (.ref uB), .unset, .unset] [(.ref b6)])) rfl (by rw [hml]; rfl) (Steps.refl _) (argsL := []) (rest := []) (lenOf pd_0_4 rfl) rfl (by show 2 * 0 + _ ≤ _; exact Nat.le_of_eq rfl) (hb hby at_168) (fun _ _ => ⟨rfl, eh13, (by decide : 4 + 0 ≤ _), (by decide : 32 + 0 ≤ _)⟩)
  dsimp only [Pt.U, Pt.locs, Pt.cells, Pt.slots] at X14 l14 y14 z14 st14 hQ14
  subst l14 y14 z14
  obtain ⟨rfl, N14q, eh14⟩ := hQ14
  have N14 := Fr.app N13 N14q
  obtain ⟨cq15, kq15, q15a, q15b, q15c⟩ := isOf hZ eh14 (((E_b6.keep Kc7).keep Kc9).keep Kc12)
  obtain ⟨_, _, ⟨T15, L15, k15, n15⟩, -, X15, ⟨Lc15, hQ15, l15, y15, z15⟩, st15⟩ := X14.virtualBack hx (y := (⟨"com/example/transom/transom/Scope", "land", "()Lcom/example/transom/transom/Scope$Jump;"⟩ : MethodName)) (z := (⟨"com/example/transom/transom/Scope", "land", "()Lcom/example/transom/transom/Scope$Jump;"⟩ : MethodName)) hown (mvT hZ (ww hw 52 rfl)) (mvT hZ (ww hw 53 rfl)) (notFace_of_selects (args := #[]) (mvT hZ (ww hw 55 rfl))) (mvT hZ (ww hw 55 rfl)) (mvT hZ (ww hw 54 rfl)) (by decide) (backOf (W := 0) (rmLn l Z a0 hw [] b6 b4 T12.heap n0 (Nat.le_trans (Nat.le_trans (Nat.le_trans (Nat.le_trans (Nat.le_trans (Nat.le_trans Z0 E4.1) Kc5.1) E6.1) Kc7.1) Kc9.1) Kc12.1) Ft12 ((Ft7.keep Kc9 (ninS (Ne.symm (Nat.ne_of_lt (Nat.lt_of_lt_of_le (E_b4.keep Kc5).lt (Nat.le_of_eq g6.symm)))) nin0)).keep Kc12 (ninS (Ne.symm (Nat.ne_of_lt (Nat.lt_of_lt_of_le (E_b4.keep Kc5).lt (Nat.le_of_eq g6.symm)))) nin0)) Fj12 (((((E_b4.keep Kc5).ext E6).keep Kc7).keep Kc9).keep Kc12) g_b4) hZ (ww hw 56 rfl) (ww hw 2 rfl) (by decide) (by decide)) q15a q15c (g := (mkF m 183 #[.val (.int p1), .val (.int p2), .val (.int p3), .val (.ref b4), .val (.ref b6), .val (.ref b4), .val (.ref b6), .val (.int (p1 &&& (3 : Int32))), .val (.ref uB), .val (.int (1 : Int32)), .val (.ref uB), .val (.int (1 : Int32)), .unset] [(.ref b6)])) rfl (by rw [hml]; rfl) (Steps.refl _) (argsL := []) (rest := []) (lenOf pd_0_5 rfl) rfl (by show 2 * 0 + _ ≤ _; exact Nat.le_of_eq rfl) (hb hby at_183) (fun _ _ => ⟨rfl, eh14, (by decide : 4 + 0 ≤ _), (by decide : 32 + 0 ≤ _)⟩)
  dsimp only [Pt.U, Pt.locs, Pt.cells, Pt.slots] at X15 l15 y15 z15 st15 hQ15
  subst l15 y15 z15
  obtain ⟨rfl, N15q, Kc15, Fj15, Ft15⟩ := hQ15
  have N15 := Fr.app N14 N15q
  have S_BREAK_15 := own_stak S_BREAK_12 Kc15 (allS (own_nst (((((E_b4.keep Kc5).ext E6).keep Kc7).keep Kc9).keep Kc12)) all0)
  have S_CONTINUE_15 := own_stak S_CONTINUE_12 Kc15 (allS (own_nst (((((E_b4.keep Kc5).ext E6).keep Kc7).keep Kc9).keep Kc12)) all0)
  have K15 : Keep h0 T15.heap [] := K12.trans Kc15 (allS (Or.inr sz_b4) all0)
  obtain ⟨fs, hr, hrun, hended, hW, hsame⟩ := X15.leave (v := some (.int (1 : Int32))) (fun h => by rw [Bd.returns] at h; cases h)
  refine ⟨_, _, pre0 _ ?_, hrun, hended, _, _, rfl, ?_, ⟨_, rfl⟩, hW, hsame.mono (by decide) (by decide)⟩
  · show Steps _ _ _ (s₁.setTop (mkF m 0 #[.val (.int p1), .val (.int p2), .val (.int p3), .unset, .unset, .unset, .unset, .unset, .unset, .unset, .unset, .unset, .unset] [])) _
    refine st4 _ ?_
    show Steps _ _ _ (T4.setTop (mkF m 3 #[.val (.int p1), .val (.int p2), .val (.int p3), .unset, .unset, .unset, .unset, .unset, .unset, .unset, .unset, .unset, .unset] [(.ref b4)])) _
    refine XS.dup X4.here hx rfl (hb hby at_3) rfl rfl ?_
    show Steps _ _ _ (T4.setTop (mkF m 4 #[.val (.int p1), .val (.int p2), .val (.int p3), .unset, .unset, .unset, .unset, .unset, .unset, .unset, .unset, .unset, .unset] [(.ref b4), (.ref b4)])) _
    refine XS.aconstNull X4.here hx rfl (hb hby at_4) ?_
    show Steps _ _ _ (T4.setTop (mkF m 5 #[.val (.int p1), .val (.int p2), .val (.int p3), .unset, .unset, .unset, .unset, .unset, .unset, .unset, .unset, .unset, .unset] [.null, (.ref b4), (.ref b4)])) _
    refine XS.aconstNull X4.here hx rfl (hb hby at_5) ?_
    show Steps _ _ _ (T4.setTop (mkF m 6 #[.val (.int p1), .val (.int p2), .val (.int p3), .unset, .unset, .unset, .unset, .unset, .unset, .unset, .unset, .unset, .unset] [.null, .null, (.ref b4), (.ref b4)])) _
    refine st5.trans ?_
    show Steps _ _ _ (T5.setTop (mkF m 9 #[.val (.int p1), .val (.int p2), .val (.int p3), .unset, .unset, .unset, .unset, .unset, .unset, .unset, .unset, .unset, .unset] [(.ref b4)])) _
    refine XS.astoreN X5.here hx rfl (hb hby at_9) rfl rfl (l' := #[.val (.int p1), .val (.int p2), .val (.int p3), .val (.ref b4), .unset, .unset, .unset, .unset, .unset, .unset, .unset, .unset, .unset]) rfl ?_
    show Steps _ _ _ (T5.setTop (mkF m 10 #[.val (.int p1), .val (.int p2), .val (.int p3), .val (.ref b4), .unset, .unset, .unset, .unset, .unset, .unset, .unset, .unset, .unset] [])) _
    refine st6 _ ?_
    show Steps _ _ _ (T6.setTop (mkF m 13 #[.val (.int p1), .val (.int p2), .val (.int p3), .val (.ref b4), .unset, .unset, .unset, .unset, .unset, .unset, .unset, .unset, .unset] [(.ref b6)])) _
    refine XS.dup X6.here hx rfl (hb hby at_13) rfl rfl ?_
    show Steps _ _ _ (T6.setTop (mkF m 14 #[.val (.int p1), .val (.int p2), .val (.int p3), .val (.ref b4), .unset, .unset, .unset, .unset, .unset, .unset, .unset, .unset, .unset] [(.ref b6), (.ref b6)])) _
    refine XS.aloadN X6.here hx rfl (hb hby at_14) rfl rfl ?_
    show Steps _ _ _ (T6.setTop (mkF m 15 #[.val (.int p1), .val (.int p2), .val (.int p3), .val (.ref b4), .unset, .unset, .unset, .unset, .unset, .unset, .unset, .unset, .unset] [(.ref b4), (.ref b6), (.ref b6)])) _
    refine st7.trans ?_
    show Steps _ _ _ (T7.setTop (mkF m 18 #[.val (.int p1), .val (.int p2), .val (.int p3), .val (.ref b4), .unset, .unset, .unset, .unset, .unset, .unset, .unset, .unset, .unset] [(.ref b6)])) _
    refine XS.astore X7.here hx rfl (hb hby at_18) rfl rfl (l' := #[.val (.int p1), .val (.int p2), .val (.int p3), .val (.ref b4), .val (.ref b6), .unset, .unset, .unset, .unset, .unset, .unset, .unset, .unset]) rfl ?_
    show Steps _ _ _ (T7.setTop (mkF m 20 #[.val (.int p1), .val (.int p2), .val (.int p3), .val (.ref b4), .val (.ref b6), .unset, .unset, .unset, .unset, .unset, .unset, .unset, .unset] [])) _
    refine XS.iloadN X7.here hx rfl (hb hby at_20) rfl ?_
    show Steps _ _ _ (T7.setTop (mkF m 21 #[.val (.int p1), .val (.int p2), .val (.int p3), .val (.ref b4), .val (.ref b6), .unset, .unset, .unset, .unset, .unset, .unset, .unset, .unset] [(.int p2)])) _
    refine XS.iconst X7.here hx rfl (hb hby at_21) ?_
    show Steps _ _ _ (T7.setTop (mkF m 22 #[.val (.int p1), .val (.int p2), .val (.int p3), .val (.ref b4), .val (.ref b6), .unset, .unset, .unset, .unset, .unset, .unset, .unset, .unset] [(.int (1 : Int32)), (.int p2)])) _
    refine XS.iand X7.here hx rfl (hb hby at_22) rfl ?_
    show Steps _ _ _ (T7.setTop (mkF m 23 #[.val (.int p1), .val (.int p2), .val (.int p3), .val (.ref b4), .val (.ref b6), .unset, .unset, .unset, .unset, .unset, .unset, .unset, .unset] [(.int (p2 &&& (1 : Int32)))])) _
    refine XS.ifYes X7.here hx rfl (pc0 := 23) (pc' := 31) rfl (hb hby at_23) rfl ((if0 _ _).trans (teq hc23).1) (by decide) (by decide) ?_
    show Steps _ _ _ (T7.setTop (mkF m 31 #[.val (.int p1), .val (.int p2), .val (.int p3), .val (.ref b4), .val (.ref b6), .unset, .unset, .unset, .unset, .unset, .unset, .unset, .unset] [])) _
    refine XS.aloadN X7.here hx rfl (hb hby at_31) rfl rfl ?_
    show Steps _ _ _ (T7.setTop (mkF m 32 #[.val (.int p1), .val (.int p2), .val (.int p3), .val (.ref b4), .val (.ref b6), .unset, .unset, .unset, .unset, .unset, .unset, .unset, .unset] [(.ref b4)])) _
    refine XS.astore X7.here hx rfl (hb hby at_32) rfl rfl (l' := #[.val (.int p1), .val (.int p2), .val (.int p3), .val (.ref b4), .val (.ref b6), .val (.ref b4), .unset, .unset, .unset, .unset, .unset, .unset, .unset]) rfl ?_
    show Steps _ _ _ (T7.setTop (mkF m 34 #[.val (.int p1), .val (.int p2), .val (.int p3), .val (.ref b4), .val (.ref b6), .val (.ref b4), .unset, .unset, .unset, .unset, .unset, .unset, .unset] [])) _
    refine XS.iloadN X7.here hx rfl (hb hby at_34) rfl ?_
    show Steps _ _ _ (T7.setTop (mkF m 35 #[.val (.int p1), .val (.int p2), .val (.int p3), .val (.ref b4), .val (.ref b6), .val (.ref b4), .unset, .unset, .unset, .unset, .unset, .unset, .unset] [(.int p3)])) _
    refine XS.iconst X7.here hx rfl (hb hby at_35) ?_
    show Steps _ _ _ (T7.setTop (mkF m 36 #[.val (.int p1), .val (.int p2), .val (.int p3), .val (.ref b4), .val (.ref b6), .val (.ref b4), .unset, .unset, .unset, .unset, .unset, .unset, .unset] [(.int (1 : Int32)), (.int p3)])) _
    refine XS.iand X7.here hx rfl (hb hby at_36) rfl ?_
    show Steps _ _ _ (T7.setTop (mkF m 37 #[.val (.int p1), .val (.int p2), .val (.int p3), .val (.ref b4), .val (.ref b6), .val (.ref b4), .unset, .unset, .unset, .unset, .unset, .unset, .unset] [(.int (p3 &&& (1 : Int32)))])) _
    refine XS.ifNo X7.here hx rfl (hb hby at_37) rfl ((if0 _ _).trans (feq hc37).1) ?_
    show Steps _ _ _ (T7.setTop (mkF m 40 #[.val (.int p1), .val (.int p2), .val (.int p3), .val (.ref b4), .val (.ref b6), .val (.ref b4), .unset, .unset, .unset, .unset, .unset, .unset, .unset] [])) _
    refine XS.aload X7.here hx rfl (hb hby at_40) rfl rfl ?_
    show Steps _ _ _ (T7.setTop (mkF m 42 #[.val (.int p1), .val (.int p2), .val (.int p3), .val (.ref b4), .val (.ref b6), .val (.ref b4), .unset, .unset, .unset, .unset, .unset, .unset, .unset] [(.ref b6)])) _
    refine XS.goto X7.here hx rfl (pc0 := 42) (pc' := 46) rfl (hb hby at_42) (by decide) (by decide) ?_
    show Steps _ _ _ (T7.setTop (mkF m 46 #[.val (.int p1), .val (.int p2), .val (.int p3), .val (.ref b4), .val (.ref b6), .val (.ref b4), .unset, .unset, .unset, .unset, .unset, .unset, .unset] [(.ref b6)])) _
    refine XS.astore X7.here hx rfl (hb hby at_46) rfl rfl (l' := #[.val (.int p1), .val (.int p2), .val (.int p3), .val (.ref b4), .val (.ref b6), .val (.ref b4), .val (.ref b6), .unset, .unset, .unset, .unset, .unset, .unset]) rfl ?_
    show Steps _ _ _ (T7.setTop (mkF m 48 #[.val (.int p1), .val (.int p2), .val (.int p3), .val (.ref b4), .val (.ref b6), .val (.ref b4), .val (.ref b6), .unset, .unset, .unset, .unset, .unset, .unset] [])) _
    refine XS.iloadN X7.here hx rfl (hb hby at_48) rfl ?_
    show Steps _ _ _ (T7.setTop (mkF m 49 #[.val (.int p1), .val (.int p2), .val (.int p3), .val (.ref b4), .val (.ref b6), .val (.ref b4), .val (.ref b6), .unset, .unset, .unset, .unset, .unset, .unset] [(.int p1)])) _
    refine XS.iconst X7.here hx rfl (hb hby at_49) ?_
    show Steps _ _ _ (T7.setTop (mkF m 50 #[.val (.int p1), .val (.int p2), .val (.int p3), .val (.ref b4), .val (.ref b6), .val (.ref b4), .val (.ref b6), .unset, .unset, .unset, .unset, .unset, .unset] [(.int (3 : Int32)), (.int p1)])) _
    refine XS.iand X7.here hx rfl (hb hby at_50) rfl ?_
    show Steps _ _ _ (T7.setTop (mkF m 51 #[.val (.int p1), .val (.int p2), .val (.int p3), .val (.ref b4), .val (.ref b6), .val (.ref b4), .val (.ref b6), .unset, .unset, .unset, .unset, .unset, .unset] [(.int (p1 &&& (3 : Int32)))])) _
    refine XS.istore X7.here hx rfl (hb hby at_51) rfl (l' := #[.val (.int p1), .val (.int p2), .val (.int p3), .val (.ref b4), .val (.ref b6), .val (.ref b4), .val (.ref b6), .val (.int (p1 &&& (3 : Int32))), .unset, .unset, .unset, .unset, .unset]) rfl ?_
    show Steps _ _ _ (T7.setTop (mkF m 53 #[.val (.int p1), .val (.int p2), .val (.int p3), .val (.ref b4), .val (.ref b6), .val (.ref b4), .val (.ref b6), .val (.int (p1 &&& (3 : Int32))), .unset, .unset, .unset, .unset, .unset] [])) _
    refine XS.aconstNull X7.here hx rfl (hb hby at_53) ?_
    show Steps _ _ _ (T7.setTop (mkF m 54 #[.val (.int p1), .val (.int p2), .val (.int p3), .val (.ref b4), .val (.ref b6), .val (.ref b4), .val (.ref b6), .val (.int (p1 &&& (3 : Int32))), .unset, .unset, .unset, .unset, .unset] [.null])) _
    refine XS.astore X7.here hx rfl (hb hby at_54) rfl rfl (l' := #[.val (.int p1), .val (.int p2), .val (.int p3), .val (.ref b4), .val (.ref b6), .val (.ref b4), .val (.ref b6), .val (.int (p1 &&& (3 : Int32))), .val .null, .unset, .unset, .unset, .unset]) rfl ?_
    show Steps _ _ _ (T7.setTop (mkF m 56 #[.val (.int p1), .val (.int p2), .val (.int p3), .val (.ref b4), .val (.ref b6), .val (.ref b4), .val (.ref b6), .val (.int (p1 &&& (3 : Int32))), .val .null, .unset, .unset, .unset, .unset] [])) _
    refine XS.iload X7.here hx rfl (hb hby at_56) rfl ?_
    show Steps _ _ _ (T7.setTop (mkF m 58 #[.val (.int p1), .val (.int p2), .val (.int p3), .val (.ref b4), .val (.ref b6), .val (.ref b4), .val (.ref b6), .val (.int (p1 &&& (3 : Int32))), .val .null, .unset, .unset, .unset, .unset] [(.int (p1 &&& (3 : Int32)))])) _
    refine XS.iconst X7.here hx rfl (hb hby at_58) ?_
    show Steps _ _ _ (T7.setTop (mkF m 59 #[.val (.int p1), .val (.int p2), .val (.int p3), .val (.ref b4), .val (.ref b6), .val (.ref b4), .val (.ref b6), .val (.int (p1 &&& (3 : Int32))), .val .null, .unset, .unset, .unset, .unset] [(.int (1 : Int32)), (.int (p1 &&& (3 : Int32)))])) _
    refine XS.icmpNo X7.here hx rfl (hb hby at_59) rfl (teq hc59).2 ?_
    show Steps _ _ _ (T7.setTop (mkF m 62 #[.val (.int p1), .val (.int p2), .val (.int p3), .val (.ref b4), .val (.ref b6), .val (.ref b4), .val (.ref b6), .val (.int (p1 &&& (3 : Int32))), .val .null, .unset, .unset, .unset, .unset] [])) _
    refine XS.aload X7.here hx rfl (hb hby at_62) rfl rfl ?_
    show Steps _ _ _ (T7.setTop (mkF m 64 #[.val (.int p1), .val (.int p2), .val (.int p3), .val (.ref b4), .val (.ref b6), .val (.ref b4), .val (.ref b6), .val (.int (p1 &&& (3 : Int32))), .val .null, .unset, .unset, .unset, .unset] [(.ref b4)])) _
    refine st8 _ ?_
    show Steps _ _ _ (T8.setTop (mkF m 67 #[.val (.int p1), .val (.int p2), .val (.int p3), .val (.ref b4), .val (.ref b6), .val (.ref b4), .val (.ref b6), .val (.int (p1 &&& (3 : Int32))), .val .null, .unset, .unset, .unset, .unset] [(.ref uB), (.ref b4)])) _
    refine st9.trans ?_
    show Steps _ _ _ (T9.setTop (mkF m 70 #[.val (.int p1), .val (.int p2), .val (.int p3), .val (.ref b4), .val (.ref b6), .val (.ref b4), .val (.ref b6), .val (.int (p1 &&& (3 : Int32))), .val .null, .unset, .unset, .unset, .unset] [])) _
    refine st10 _ ?_
    show Steps _ _ _ (T10.setTop (mkF m 73 #[.val (.int p1), .val (.int p2), .val (.int p3), .val (.ref b4), .val (.ref b6), .val (.ref b4), .val (.ref b6), .val (.int (p1 &&& (3 : Int32))), .val .null, .unset, .unset, .unset, .unset] [(.ref uB)])) _
    refine XS.astore X10.here hx rfl (hb hby at_73) rfl rfl (l' := #[.val (.int p1), .val (.int p2), .val (.int p3), .val (.ref b4), .val (.ref b6), .val (.ref b4), .val (.ref b6), .val (.int (p1 &&& (3 : Int32))), .val (.ref uB), .unset, .unset, .unset, .unset]) rfl ?_
    show Steps _ _ _ (T10.setTop (mkF m 75 #[.val (.int p1), .val (.int p2), .val (.int p3), .val (.ref b4), .val (.ref b6), .val (.ref b4), .val (.ref b6), .val (.int (p1 &&& (3 : Int32))), .val (.ref uB), .unset, .unset, .unset, .unset] [])) _
    refine XS.goto X10.here hx rfl (pc0 := 75) (pc' := 127) rfl (hb hby at_75) (by decide) (by decide) ?_
    show Steps _ _ _ (T10.setTop (mkF m 127 #[.val (.int p1), .val (.int p2), .val (.int p3), .val (.ref b4), .val (.ref b6), .val (.ref b4), .val (.ref b6), .val (.int (p1 &&& (3 : Int32))), .val (.ref uB), .unset, .unset, .unset, .unset] [])) _
    refine XS.aload X10.here hx rfl (hb hby at_127) rfl rfl ?_
    show Steps _ _ _ (T10.setTop (mkF m 129 #[.val (.int p1), .val (.int p2), .val (.int p3), .val (.ref b4), .val (.ref b6), .val (.ref b4), .val (.ref b6), .val (.int (p1 &&& (3 : Int32))), .val (.ref uB), .unset, .unset, .unset, .unset] [(.ref b6)])) _
    refine st11.trans ?_
    show Steps _ _ _ (T11.setTop (mkF m 132 #[.val (.int p1), .val (.int p2), .val (.int p3), .val (.ref b4), .val (.ref b6), .val (.ref b4), .val (.ref b6), .val (.int (p1 &&& (3 : Int32))), .val (.ref uB), .unset, .unset, .unset, .unset] [(.int (1 : Int32))])) _
    refine XS.aload X11.here hx rfl (hb hby at_132) rfl rfl ?_
    show Steps _ _ _ (T11.setTop (mkF m 134 #[.val (.int p1), .val (.int p2), .val (.int p3), .val (.ref b4), .val (.ref b6), .val (.ref b4), .val (.ref b6), .val (.int (p1 &&& (3 : Int32))), .val (.ref uB), .unset, .unset, .unset, .unset] [(.ref uB), (.int (1 : Int32))])) _
    refine XS.ifnullNo X11.here hx rfl (hb hby at_134) rfl ?_
    show Steps _ _ _ (T11.setTop (mkF m 137 #[.val (.int p1), .val (.int p2), .val (.int p3), .val (.ref b4), .val (.ref b6), .val (.ref b4), .val (.ref b6), .val (.int (p1 &&& (3 : Int32))), .val (.ref uB), .unset, .unset, .unset, .unset] [(.int (1 : Int32))])) _
    refine XS.iconst X11.here hx rfl (hb hby at_137) ?_
    show Steps _ _ _ (T11.setTop (mkF m 138 #[.val (.int p1), .val (.int p2), .val (.int p3), .val (.ref b4), .val (.ref b6), .val (.ref b4), .val (.ref b6), .val (.int (p1 &&& (3 : Int32))), .val (.ref uB), .unset, .unset, .unset, .unset] [(.int (1 : Int32)), (.int (1 : Int32))])) _
    refine XS.goto X11.here hx rfl (pc0 := 138) (pc' := 142) rfl (hb hby at_138) (by decide) (by decide) ?_
    show Steps _ _ _ (T11.setTop (mkF m 142 #[.val (.int p1), .val (.int p2), .val (.int p3), .val (.ref b4), .val (.ref b6), .val (.ref b4), .val (.ref b6), .val (.int (p1 &&& (3 : Int32))), .val (.ref uB), .unset, .unset, .unset, .unset] [(.int (1 : Int32)), (.int (1 : Int32))])) _
    refine XS.icmpNo X11.here hx rfl (hb hby at_142) rfl (teq (rfl : (1 : Int32) = (1 : Int32))).2 ?_
    show Steps _ _ _ (T11.setTop (mkF m 145 #[.val (.int p1), .val (.int p2), .val (.int p3), .val (.ref b4), .val (.ref b6), .val (.ref b4), .val (.ref b6), .val (.int (p1 &&& (3 : Int32))), .val (.ref uB), .unset, .unset, .unset, .unset] [])) _
    refine XS.iconst X11.here hx rfl (hb hby at_145) ?_
    show Steps _ _ _ (T11.setTop (mkF m 146 #[.val (.int p1), .val (.int p2), .val (.int p3), .val (.ref b4), .val (.ref b6), .val (.ref b4), .val (.ref b6), .val (.int (p1 &&& (3 : Int32))), .val (.ref uB), .unset, .unset, .unset, .unset] [(.int (1 : Int32))])) _
    refine XS.goto X11.here hx rfl (pc0 := 146) (pc' := 150) rfl (hb hby at_146) (by decide) (by decide) ?_
    show Steps _ _ _ (T11.setTop (mkF m 150 #[.val (.int p1), .val (.int p2), .val (.int p3), .val (.ref b4), .val (.ref b6), .val (.ref b4), .val (.ref b6), .val (.int (p1 &&& (3 : Int32))), .val (.ref uB), .unset, .unset, .unset, .unset] [(.int (1 : Int32))])) _
    refine XS.istore X11.here hx rfl (hb hby at_150) rfl (l' := #[.val (.int p1), .val (.int p2), .val (.int p3), .val (.ref b4), .val (.ref b6), .val (.ref b4), .val (.ref b6), .val (.int (p1 &&& (3 : Int32))), .val (.ref uB), .val (.int (1 : Int32)), .unset, .unset, .unset]) rfl ?_
    show Steps _ _ _ (T11.setTop (mkF m 152 #[.val (.int p1), .val (.int p2), .val (.int p3), .val (.ref b4), .val (.ref b6), .val (.ref b4), .val (.ref b6), .val (.int (p1 &&& (3 : Int32))), .val (.ref uB), .val (.int (1 : Int32)), .unset, .unset, .unset] [])) _
    refine XS.aload X11.here hx rfl (hb hby at_152) rfl rfl ?_
    show Steps _ _ _ (T11.setTop (mkF m 154 #[.val (.int p1), .val (.int p2), .val (.int p3), .val (.ref b4), .val (.ref b6), .val (.ref b4), .val (.ref b6), .val (.int (p1 &&& (3 : Int32))), .val (.ref uB), .val (.int (1 : Int32)), .unset, .unset, .unset] [(.ref b6)])) _
    refine st12.trans ?_
    show Steps _ _ _ (T12.setTop (mkF m 157 #[.val (.int p1), .val (.int p2), .val (.int p3), .val (.ref b4), .val (.ref b6), .val (.ref b4), .val (.ref b6), .val (.int (p1 &&& (3 : Int32))), .val (.ref uB), .val (.int (1 : Int32)), .unset, .unset, .unset] [(.ref uB)])) _
    refine XS.astore X12.here hx rfl (hb hby at_157) rfl rfl (l' := #[.val (.int p1), .val (.int p2), .val (.int p3), .val (.ref b4), .val (.ref b6), .val (.ref b4), .val (.ref b6), .val (.int (p1 &&& (3 : Int32))), .val (.ref uB), .val (.int (1 : Int32)), .val (.ref uB), .unset, .unset]) rfl ?_
    show Steps _ _ _ (T12.setTop (mkF m 159 #[.val (.int p1), .val (.int p2), .val (.int p3), .val (.ref b4), .val (.ref b6), .val (.ref b4), .val (.ref b6), .val (.int (p1 &&& (3 : Int32))), .val (.ref uB), .val (.int (1 : Int32)), .val (.ref uB), .unset, .unset] [])) _
    refine XS.aloadN X12.here hx rfl (hb hby at_159) rfl rfl ?_
    show Steps _ _ _ (T12.setTop (mkF m 160 #[.val (.int p1), .val (.int p2), .val (.int p3), .val (.ref b4), .val (.ref b6), .val (.ref b4), .val (.ref b6), .val (.int (p1 &&& (3 : Int32))), .val (.ref uB), .val (.int (1 : Int32)), .val (.ref uB), .unset, .unset] [(.ref b4)])) _
    refine st13.trans ?_
    show Steps _ _ _ (T13.setTop (mkF m 163 #[.val (.int p1), .val (.int p2), .val (.int p3), .val (.ref b4), .val (.ref b6), .val (.ref b4), .val (.ref b6), .val (.int (p1 &&& (3 : Int32))), .val (.ref uB), .val (.int (1 : Int32)), .val (.ref uB), .unset, .unset] [(.int (0 : Int32))])) _
    refine XS.ifNo X13.here hx rfl (hb hby at_163) rfl ((if0 _ _).trans (teq (rfl : (0 : Int32) = (0 : Int32))).2) ?_
    show Steps _ _ _ (T13.setTop (mkF m 166 #[.val (.int p1), .val (.int p2), .val (.int p3), .val (.ref b4), .val (.ref b6), .val (.ref b4), .val (.ref b6), .val (.int (p1 &&& (3 : Int32))), .val (.ref uB), .val (.int (1 : Int32)), .val (.ref uB), .unset, .unset] [])) _
    refine XS.aload X13.here hx rfl (hb hby at_166) rfl rfl ?_
    show Steps _ _ _ (T13.setTop (mkF m 168 #[.val (.int p1), .val (.int p2), .val (.int p3), .val (.ref b4), .val (.ref b6), .val (.ref b4), .val (.ref b6), .val (.int (p1 &&& (3 : Int32))), .val (.ref uB), .val (.int (1 : Int32)), .val (.ref uB), .unset, .unset] [(.ref b6)])) _
    refine st14.trans ?_
    show Steps _ _ _ (T14.setTop (mkF m 171 #[.val (.int p1), .val (.int p2), .val (.int p3), .val (.ref b4), .val (.ref b6), .val (.ref b4), .val (.ref b6), .val (.int (p1 &&& (3 : Int32))), .val (.ref uB), .val (.int (1 : Int32)), .val (.ref uB), .unset, .unset] [(.int (0 : Int32))])) _
    refine XS.ifNo X14.here hx rfl (hb hby at_171) rfl ((if0 _ _).trans (teq (rfl : (0 : Int32) = (0 : Int32))).2) ?_
    show Steps _ _ _ (T14.setTop (mkF m 174 #[.val (.int p1), .val (.int p2), .val (.int p3), .val (.ref b4), .val (.ref b6), .val (.ref b4), .val (.ref b6), .val (.int (p1 &&& (3 : Int32))), .val (.ref uB), .val (.int (1 : Int32)), .val (.ref uB), .unset, .unset] [])) _
    refine XS.iconst X14.here hx rfl (hb hby at_174) ?_
    show Steps _ _ _ (T14.setTop (mkF m 175 #[.val (.int p1), .val (.int p2), .val (.int p3), .val (.ref b4), .val (.ref b6), .val (.ref b4), .val (.ref b6), .val (.int (p1 &&& (3 : Int32))), .val (.ref uB), .val (.int (1 : Int32)), .val (.ref uB), .unset, .unset] [(.int (1 : Int32))])) _
    refine XS.goto X14.here hx rfl (pc0 := 175) (pc' := 179) rfl (hb hby at_175) (by decide) (by decide) ?_
    show Steps _ _ _ (T14.setTop (mkF m 179 #[.val (.int p1), .val (.int p2), .val (.int p3), .val (.ref b4), .val (.ref b6), .val (.ref b4), .val (.ref b6), .val (.int (p1 &&& (3 : Int32))), .val (.ref uB), .val (.int (1 : Int32)), .val (.ref uB), .unset, .unset] [(.int (1 : Int32))])) _
    refine XS.istore X14.here hx rfl (hb hby at_179) rfl (l' := #[.val (.int p1), .val (.int p2), .val (.int p3), .val (.ref b4), .val (.ref b6), .val (.ref b4), .val (.ref b6), .val (.int (p1 &&& (3 : Int32))), .val (.ref uB), .val (.int (1 : Int32)), .val (.ref uB), .val (.int (1 : Int32)), .unset]) rfl ?_
    show Steps _ _ _ (T14.setTop (mkF m 181 #[.val (.int p1), .val (.int p2), .val (.int p3), .val (.ref b4), .val (.ref b6), .val (.ref b4), .val (.ref b6), .val (.int (p1 &&& (3 : Int32))), .val (.ref uB), .val (.int (1 : Int32)), .val (.ref uB), .val (.int (1 : Int32)), .unset] [])) _
    refine XS.aload X14.here hx rfl (hb hby at_181) rfl rfl ?_
    show Steps _ _ _ (T14.setTop (mkF m 183 #[.val (.int p1), .val (.int p2), .val (.int p3), .val (.ref b4), .val (.ref b6), .val (.ref b4), .val (.ref b6), .val (.int (p1 &&& (3 : Int32))), .val (.ref uB), .val (.int (1 : Int32)), .val (.ref uB), .val (.int (1 : Int32)), .unset] [(.ref b6)])) _
    refine st15.trans ?_
    show Steps _ _ _ (T15.setTop (mkF m 186 #[.val (.int p1), .val (.int p2), .val (.int p3), .val (.ref b4), .val (.ref b6), .val (.ref b4), .val (.ref b6), .val (.int (p1 &&& (3 : Int32))), .val (.ref uB), .val (.int (1 : Int32)), .val (.ref uB), .val (.int (1 : Int32)), .unset] [.null])) _
    refine XS.astore X15.here hx rfl (hb hby at_186) rfl rfl (l' := #[.val (.int p1), .val (.int p2), .val (.int p3), .val (.ref b4), .val (.ref b6), .val (.ref b4), .val (.ref b6), .val (.int (p1 &&& (3 : Int32))), .val (.ref uB), .val (.int (1 : Int32)), .val (.ref uB), .val (.int (1 : Int32)), .val .null]) rfl ?_
    show Steps _ _ _ (T15.setTop (mkF m 188 #[.val (.int p1), .val (.int p2), .val (.int p3), .val (.ref b4), .val (.ref b6), .val (.ref b4), .val (.ref b6), .val (.int (p1 &&& (3 : Int32))), .val (.ref uB), .val (.int (1 : Int32)), .val (.ref uB), .val (.int (1 : Int32)), .val .null] [])) _
    refine XS.iload X15.here hx rfl (hb hby at_188) rfl ?_
    show Steps _ _ _ (T15.setTop (mkF m 190 #[.val (.int p1), .val (.int p2), .val (.int p3), .val (.ref b4), .val (.ref b6), .val (.ref b4), .val (.ref b6), .val (.int (p1 &&& (3 : Int32))), .val (.ref uB), .val (.int (1 : Int32)), .val (.ref uB), .val (.int (1 : Int32)), .val .null] [(.int (1 : Int32))])) _
    refine XS.ifNo X15.here hx rfl (hb hby at_190) rfl ((if0 _ _).trans (feq hc190).1) ?_
    show Steps _ _ _ (T15.setTop (mkF m 193 #[.val (.int p1), .val (.int p2), .val (.int p3), .val (.ref b4), .val (.ref b6), .val (.ref b4), .val (.ref b6), .val (.int (p1 &&& (3 : Int32))), .val (.ref uB), .val (.int (1 : Int32)), .val (.ref uB), .val (.int (1 : Int32)), .val .null] [])) _
    refine XS.aload X15.here hx rfl (hb hby at_193) rfl rfl ?_
    show Steps _ _ _ (T15.setTop (mkF m 195 #[.val (.int p1), .val (.int p2), .val (.int p3), .val (.ref b4), .val (.ref b6), .val (.ref b4), .val (.ref b6), .val (.int (p1 &&& (3 : Int32))), .val (.ref uB), .val (.int (1 : Int32)), .val (.ref uB), .val (.int (1 : Int32)), .val .null] [(.ref uB)])) _
    refine XS.aload X15.here hx rfl (hb hby at_195) rfl rfl ?_
    show Steps _ _ _ (T15.setTop (mkF m 197 #[.val (.int p1), .val (.int p2), .val (.int p3), .val (.ref b4), .val (.ref b6), .val (.ref b4), .val (.ref b6), .val (.int (p1 &&& (3 : Int32))), .val (.ref uB), .val (.int (1 : Int32)), .val (.ref uB), .val (.int (1 : Int32)), .val .null] [(.ref uB), (.ref uB)])) _
    refine Jvm.RoadKit.acmp (g := (mkF m 197 #[.val (.int p1), .val (.int p2), .val (.int p3), .val (.ref b4), .val (.ref b6), .val (.ref b4), .val (.ref b6), .val (.int (p1 &&& (3 : Int32))), .val (.ref uB), .val (.int (1 : Int32)), .val (.ref uB), .val (.int (1 : Int32)), .val .null] [(.ref uB), (.ref uB)])) X15 hx rfl rfl rfl (pc0 := 197) (pc' := 200) (same := true) rfl (hb hby at_197) rfl (decide_eq_true rfl) (by decide) (by decide) ?_
    show Steps _ _ _ (T15.setTop (mkF m 200 #[.val (.int p1), .val (.int p2), .val (.int p3), .val (.ref b4), .val (.ref b6), .val (.ref b4), .val (.ref b6), .val (.int (p1 &&& (3 : Int32))), .val (.ref uB), .val (.int (1 : Int32)), .val (.ref uB), .val (.int (1 : Int32)), .val .null] [])) _
    refine XS.iload X15.here hx rfl (hb hby at_200) rfl ?_
    show Steps _ _ _ (T15.setTop (mkF m 202 #[.val (.int p1), .val (.int p2), .val (.int p3), .val (.ref b4), .val (.ref b6), .val (.ref b4), .val (.ref b6), .val (.int (p1 &&& (3 : Int32))), .val (.ref uB), .val (.int (1 : Int32)), .val (.ref uB), .val (.int (1 : Int32)), .val .null] [(.int (1 : Int32))])) _
    refine XS.ifNo X15.here hx rfl (hb hby at_202) rfl ((if0 _ _).trans (feq hc202).1) ?_
    show Steps _ _ _ (T15.setTop (mkF m 205 #[.val (.int p1), .val (.int p2), .val (.int p3), .val (.ref b4), .val (.ref b6), .val (.ref b4), .val (.ref b6), .val (.int (p1 &&& (3 : Int32))), .val (.ref uB), .val (.int (1 : Int32)), .val (.ref uB), .val (.int (1 : Int32)), .val .null] [])) _
    refine XS.aload X15.here hx rfl (hb hby at_205) rfl rfl ?_
    show Steps _ _ _ (T15.setTop (mkF m 207 #[.val (.int p1), .val (.int p2), .val (.int p3), .val (.ref b4), .val (.ref b6), .val (.ref b4), .val (.ref b6), .val (.int (p1 &&& (3 : Int32))), .val (.ref uB), .val (.int (1 : Int32)), .val (.ref uB), .val (.int (1 : Int32)), .val .null] [.null])) _
    refine XS.ifnonnullNo X15.here hx rfl (hb hby at_207) rfl ?_
    show Steps _ _ _ (T15.setTop (mkF m 210 #[.val (.int p1), .val (.int p2), .val (.int p3), .val (.ref b4), .val (.ref b6), .val (.ref b4), .val (.ref b6), .val (.int (p1 &&& (3 : Int32))), .val (.ref uB), .val (.int (1 : Int32)), .val (.ref uB), .val (.int (1 : Int32)), .val .null] [])) _
    refine XS.iconst X15.here hx rfl (hb hby at_210) ?_
    show Steps _ _ _ (T15.setTop (mkF m 211 #[.val (.int p1), .val (.int p2), .val (.int p3), .val (.ref b4), .val (.ref b6), .val (.ref b4), .val (.ref b6), .val (.int (p1 &&& (3 : Int32))), .val (.ref uB), .val (.int (1 : Int32)), .val (.ref uB), .val (.int (1 : Int32)), .val .null] [(.int (1 : Int32))])) _
    refine XS.goto X15.here hx rfl (pc0 := 211) (pc' := 215) rfl (hb hby at_211) (by decide) (by decide) ?_
    show Steps _ _ _ (T15.setTop (mkF m 215 #[.val (.int p1), .val (.int p2), .val (.int p3), .val (.ref b4), .val (.ref b6), .val (.ref b4), .val (.ref b6), .val (.int (p1 &&& (3 : Int32))), .val (.ref uB), .val (.int (1 : Int32)), .val (.ref uB), .val (.int (1 : Int32)), .val .null] [(.int (1 : Int32))])) _
    exact retN X15 hx (t := .boolean) Bd.returns (by simp) (hb hby at_215) hr
  · show Q0 Z p1 p2 p3 uB uC h0 n0 _ T15.heap _
    exact ⟨rfl, N15⟩
-- 2. THE CONTRACT: what this body leaves is yours
-- its room: frames: the greatest, locals: the greatest, cells 4 + .., slots 32 + ..: rm1: frames + 1; locals 1 + 3 + 11 + its room's locals; its cells and slots besides; rm5: frames + 1; locals 1 + 2 + 11 + its room's locals; its cells and slots besides; rm9: frames + 1; locals 0 + 2 + 11 + its room's locals; its cells and slots besides; rm7: frames + 1; locals 0 + 1 + 11 + its room's locals; its cells and slots besides; rm8: frames + 1; locals 0 + 2 + 11 + its room's locals; its cells and slots besides; rm7: frames + 1; locals 0 + 1 + 11 + its room's locals; its cells and slots besides; rm7: frames + 1; locals 0 + 1 + 11 + its room's locals; its cells and slots besides; rm8: frames + 1; locals 0 + 2 + 11 + its room's locals; its cells and slots besides
set_option maxRecDepth 65536 in
set_option maxHeartbeats 40000000 in
theorem rm0_tf2 (l : Launch) (Z : State) (a0 : Array Value) (hw : ∀ d ∈ tables_1, d.before a0 Z = true) (ws : List Jvm.Cond) (p1 : Int32) (p2 : Int32) (p3 : Int32) (uB : Addr) (uC : Addr) (h0 : Heap) (n0 : Nat) (Z0 : n0 ≤ h0.size) (S_BREAK : Sta Z h0 "com/example/transom/transom/Scope$Jump" "BREAK" "Lcom/example/transom/transom/Scope$Jump;" (.ref uB)) (S_CONTINUE : Sta Z h0 "com/example/transom/transom/Scope$Jump" "CONTINUE" "Lcom/example/transom/transom/Scope$Jump;" (.ref uC)) (hc23 : (p2 &&& (1 : Int32)) = (0 : Int32)) (hc37 : ¬ ((p3 &&& (1 : Int32)) = (0 : Int32))) (hc59 : ¬ ((p1 &&& (3 : Int32)) = (1 : Int32))) (hc81 : (p1 &&& (3 : Int32)) = (2 : Int32)) (hc190 : ¬ ((1 : Int32) = (0 : Int32))) (hc202 : ¬ ((1 : Int32) = (0 : Int32))) :
    MetFree l x (head1 (Jvm.Cond.code x code maxLocals ret :: ws) room_1) (fun a U => a = #[(.int p1), (.int p2), (.int p3)] ∧ Z.Warmed39 U.vm ∧ U.heap = h0) (fun _ _ _ _ _ => True) (fun _ U o U' => ∃ v L, o = .returned v ∧ Q0 Z p1 p2 p3 uB uC h0 n0 v U'.heap L ∧ FrameEnd U o U' L room_1.cells room_1.slots) := by
  refine MetFree.of_bodySF (plainFor_of_name pn_0) hisR ?_
  intro p e s m args below meth c s₁ Bd hml0 hP hK
  obtain ⟨rfl, hZ, hh⟩ := hP
  have hx := Bd.exec
  have hby := Bd.bytes
  have hml : c.maxLocals = 13 := hml0
  have hown : s.vm.findClass "com/example/transom/transom/ScopeLandPinLaw" = some m.cls := findClass_of_methodNamed Bd.named
  have hnm := (name_of_methodNamed Bd.named Bd.method).1
  have X0 : Stand p l e room_1 s m #[(.int p1), (.int p2), (.int p3)] below meth c s₁ [] 0 0 := Stand.of_body Bd
  have e0 : s₁.heap = h0 := by rw [← hh, Bd.state]; rfl
  have N0 := Fr.nil n0
  have pre0 : ∀ t, Steps p.tables e below (s₁.setTop (mkF m 0 #[.val (.int p1), .val (.int p2), .val (.int p3), .unset, .unset, .unset, .unset, .unset, .unset, .unset, .unset, .unset, .unset] [])) t → Steps p.tables e below (s₁.setTop (entryFrame m #[(.int p1), (.int p2), (.int p3)] maxLocals)) t := fun t k => castTop (ef_0 m p1 p2 p3) k
  obtain ⟨T4, h4, X4, e4, E4, A4, D4, -, st4⟩ := newO X0 hx hZ hown (ww hw 0 rfl) (ww hw 1 rfl) (ww hw 2 rfl) e0 (g := (mkF m 0 #[.val (.int p1), .val (.int p2), .val (.int p3), .unset, .unset, .unset, .unset, .unset, .unset, .unset, .unset, .unset, .unset] [])) rfl (hb hby at_0) (by decide) (by decide)
  obtain ⟨b4, g4⟩ : ∃ z, z = h0.size := ⟨_, rfl⟩
  rw [← g4] at A4 D4 st4
  have F_values_b4 : Fld Z h4 b4 "com/example/transom/transom/Scope" "values" "Ljava/util/Map;" .null := D4 (Or.inr (ww hw 26 rfl)) (ty := (.object "java/util/Map")) (by decide)
  have F_parent_b4 : Fld Z h4 b4 "com/example/transom/transom/Scope" "parent" "Lcom/example/transom/transom/Scope;" .null := D4 (Or.inr (ww hw 28 rfl)) (ty := (.object "com/example/transom/transom/Scope")) (by decide)
  have F_top_b4 : Fld Z h4 b4 "com/example/transom/transom/Scope" "top" "Lcom/example/transom/transom/Scope;" .null := D4 (Or.inr (ww hw 30 rfl)) (ty := (.object "com/example/transom/transom/Scope")) (by decide)
  have F_model_b4 : Fld Z h4 b4 "com/example/transom/transom/Scope" "model" "Ljava/util/Map;" .null := D4 (Or.inr (ww hw 32 rfl)) (ty := (.object "java/util/Map")) (by decide)
  have F_template_b4 : Fld Z h4 b4 "com/example/transom/transom/Scope" "template" "Lcom/example/transom/transom/Template;" .null := D4 (Or.inr (ww hw 34 rfl)) (ty := (.object "com/example/transom/transom/Template")) (by decide)
  have F_renderer_b4 : Fld Z h4 b4 "com/example/transom/transom/Scope" "renderer" "Lcom/example/transom/transom/Scope;" .null := D4 (Or.inr (ww hw 36 rfl)) (ty := (.object "com/example/transom/transom/Scope")) (by decide)
  have F_calls_b4 : Fld Z h4 b4 "com/example/transom/transom/Scope" "calls" "I" (.int (0 : Int32)) := D4 (Or.inr (ww hw 38 rfl)) (ty := .int) (by decide)
  have F_jump_b4 : Fld Z h4 b4 "com/example/transom/transom/Scope" "jump" "Lcom/example/transom/transom/Scope$Jump;" .null := D4 (Or.inl (ww hw 51 rfl)) (ty := (.object "com/example/transom/transom/Scope$Jump")) (by decide)
  have E_b4 := A4
  have g_b4 : n0 ≤ b4 := Nat.le_trans Z0 (Nat.le_of_eq g4.symm)
  have sz_b4 : h0.size ≤ b4 := (Nat.le_trans (Keep.refl h0 []).1 (Nat.le_of_eq g4.symm))
  have K4 : Keep h0 h4 [] := (Keep.refl h0 []).ext E4
  obtain ⟨_, _, ⟨T5, L5, k5, n5⟩, -, X5, ⟨Lc5, hQ5, l5, y5, z5⟩, st5⟩ := X4.specialBack hx (y := (⟨"com/example/transom/transom/Scope", "<init>", "(Ljava/util/Map;Lcom/example/transom/transom/Template;)V"⟩ : MethodName)) rfl hown (mvT hZ (ww hw 3 rfl)) (mvT hZ (ww hw 4 rfl)) (mvT hZ (ww hw 5 rfl)) (by decide) (backOf (W := 1) (rm1 l Z a0 hw [] b4 _ _ _ _ _ _ _  h4 n0 (Nat.le_trans Z0 E4.1) F_jump_b4 E_b4 F_values_b4 g_b4 F_parent_b4 F_top_b4 F_model_b4 F_template_b4 F_renderer_b4 F_calls_b4) hZ (ww hw 5 rfl) (ww hw 2 rfl) (by decide) (by decide)) (g := (mkF m 6 #[.val (.int p1), .val (.int p2), .val (.int p3), .unset, .unset, .unset, .unset, .unset, .unset, .unset, .unset, .unset, .unset] [.null, .null, (.ref b4), (.ref b4)])) rfl (by rw [hml]; rfl) (Steps.refl _) (a := b4) (argsL := [.null, .null]) (rest := [(.ref b4)]) (lenOf pd_0_0 rfl) rfl (by show 2 * 0 + _ ≤ _; exact Nat.le_of_eq rfl) (hb hby at_6) (fun _ _ => ⟨rfl, e4, (by decide : 1 + 1 ≤ _), (by decide : 8 + 8 ≤ _)⟩)
  dsimp only [Pt.U, Pt.locs, Pt.cells, Pt.slots] at X5 l5 y5 z5 st5 hQ5
  subst l5 y5 z5
  obtain ⟨rfl, N5q, Kc5, Ec5, Ftop5, Fmodel5, Ftemplate5, Frenderer5, Fcalls5, Fjump5⟩ := hQ5
  have N5 := Fr.app N0 N5q
  have S_BREAK_5 := own_stak (S_BREAK.ext E4) Kc5 (allS (own_nst E_b4) all0)
  have S_CONTINUE_5 := own_stak (S_CONTINUE.ext E4) Kc5 (allS (own_nst E_b4) all0)
  have K5 : Keep h0 T5.heap [] := K4.trans Kc5 (allS (Or.inr sz_b4) all0)
  obtain ⟨T6, h6, X6, e6, E6, A6, D6, -, st6⟩ := newO X5 hx hZ hown (ww hw 0 rfl) (ww hw 1 rfl) (ww hw 2 rfl) rfl (g := (mkF m 10 #[.val (.int p1), .val (.int p2), .val (.int p3), .val (.ref b4), .unset, .unset, .unset, .unset, .unset, .unset, .unset, .unset, .unset] [])) rfl (hb hby at_10) (by decide) (by decide)
  obtain ⟨b6, g6⟩ : ∃ z, z = T5.heap.size := ⟨_, rfl⟩
  rw [← g6] at A6 D6 st6
  have F_values_b6 : Fld Z h6 b6 "com/example/transom/transom/Scope" "values" "Ljava/util/Map;" .null := D6 (Or.inr (ww hw 26 rfl)) (ty := (.object "java/util/Map")) (by decide)
  have F_parent_b6 : Fld Z h6 b6 "com/example/transom/transom/Scope" "parent" "Lcom/example/transom/transom/Scope;" .null := D6 (Or.inr (ww hw 28 rfl)) (ty := (.object "com/example/transom/transom/Scope")) (by decide)
  have F_top_b6 : Fld Z h6 b6 "com/example/transom/transom/Scope" "top" "Lcom/example/transom/transom/Scope;" .null := D6 (Or.inr (ww hw 30 rfl)) (ty := (.object "com/example/transom/transom/Scope")) (by decide)
  have F_model_b6 : Fld Z h6 b6 "com/example/transom/transom/Scope" "model" "Ljava/util/Map;" .null := D6 (Or.inr (ww hw 32 rfl)) (ty := (.object "java/util/Map")) (by decide)
  have F_template_b6 : Fld Z h6 b6 "com/example/transom/transom/Scope" "template" "Lcom/example/transom/transom/Template;" .null := D6 (Or.inr (ww hw 34 rfl)) (ty := (.object "com/example/transom/transom/Template")) (by decide)
  have F_renderer_b6 : Fld Z h6 b6 "com/example/transom/transom/Scope" "renderer" "Lcom/example/transom/transom/Scope;" .null := D6 (Or.inr (ww hw 36 rfl)) (ty := (.object "com/example/transom/transom/Scope")) (by decide)
  have F_calls_b6 : Fld Z h6 b6 "com/example/transom/transom/Scope" "calls" "I" (.int (0 : Int32)) := D6 (Or.inr (ww hw 38 rfl)) (ty := .int) (by decide)
  have F_jump_b6 : Fld Z h6 b6 "com/example/transom/transom/Scope" "jump" "Lcom/example/transom/transom/Scope$Jump;" .null := D6 (Or.inl (ww hw 51 rfl)) (ty := (.object "com/example/transom/transom/Scope$Jump")) (by decide)
  have E_b6 := A6
  have g_b6 : n0 ≤ b6 := Nat.le_trans (Nat.le_trans (Nat.le_trans Z0 E4.1) Kc5.1) (Nat.le_of_eq g6.symm)
  have sz_b6 : h0.size ≤ b6 := (Nat.le_trans K5.1 (Nat.le_of_eq g6.symm))
  have K6 : Keep h0 h6 [] := K5.ext E6
  obtain ⟨_, _, ⟨T7, L7, k7, n7⟩, -, X7, ⟨Lc7, hQ7, l7, y7, z7⟩, st7⟩ := X6.specialBack hx (y := (⟨"com/example/transom/transom/Scope", "<init>", "(Lcom/example/transom/transom/Scope;)V"⟩ : MethodName)) rfl hown (mvT hZ (ww hw 39 rfl)) (mvT hZ (ww hw 40 rfl)) (mvT hZ (ww hw 41 rfl)) (by decide) (backOf (W := 1) (rm5 l Z a0 hw [] b6 b4 b4 (0 : Int32) h6 n0 (Nat.le_trans (Nat.le_trans (Nat.le_trans Z0 E4.1) Kc5.1) E6.1) (Nat.ne_of_lt (Nat.lt_of_lt_of_le (E_b4.keep Kc5).lt (Nat.le_of_eq g6.symm))) E_b6 F_values_b6 F_parent_b6 F_top_b6 F_model_b6 F_template_b6 F_renderer_b6 F_calls_b6 g_b6 (Ftop5.ext E6) (Fmodel5.ext E6) (Ftemplate5.ext E6) (Frenderer5.ext E6) (Fcalls5.ext E6)) hZ (ww hw 41 rfl) (ww hw 2 rfl) (by decide) (by decide)) (g := (mkF m 15 #[.val (.int p1), .val (.int p2), .val (.int p3), .val (.ref b4), .unset, .unset, .unset, .unset, .unset, .unset, .unset, .unset, .unset] [(.ref b4), (.ref b6), (.ref b6)])) rfl (by rw [hml]; rfl) (Steps.refl _) (a := b6) (argsL := [(.ref b4)]) (rest := [(.ref b6)]) (lenOf pd_0_2 rfl) rfl (by show 2 * 0 + _ ≤ _; exact Nat.le_of_eq rfl) (hb hby at_15) (fun _ _ => ⟨rfl, e6, (by decide : 3 + 1 ≤ _), (by decide : 24 + 8 ≤ _)⟩)
  dsimp only [Pt.U, Pt.locs, Pt.cells, Pt.slots] at X7 l7 y7 z7 st7 hQ7
  subst l7 y7 z7
  obtain ⟨rfl, N7q, Kc7, Ec7, Ft7⟩ := hQ7
  have N7 := Fr.app N5 N7q
  have S_BREAK_7 := own_stak (S_BREAK_5.ext E6) Kc7 (allS (own_nst E_b6) all0)
  have S_CONTINUE_7 := own_stak (S_CONTINUE_5.ext E6) Kc7 (allS (own_nst E_b6) all0)
  have K7 : Keep h0 T7.heap [] := K6.trans Kc7 (allS (Or.inr sz_b6) all0)
  obtain ⟨T8, X8, e8, st8⟩ := getS2 X7 hx hZ hown (host := "") (Or.inl (ww hw 65 rfl)) Via.refl rfl S_CONTINUE_7 (g := (mkF m 86 #[.val (.int p1), .val (.int p2), .val (.int p3), .val (.ref b4), .val (.ref b6), .val (.ref b4), .val (.ref b6), .val (.int (p1 &&& (3 : Int32))), .val .null, .unset, .unset, .unset, .unset] [(.ref b4)])) rfl (hb hby at_86)
  obtain ⟨cq9, kq9, q9a, q9b, q9c⟩ := isOf hZ e8 (((E_b4.keep Kc5).ext E6).keep Kc7)
  obtain ⟨_, _, ⟨T9, L9, k9, n9⟩, -, X9, ⟨Lc9, hQ9, l9, y9, z9⟩, st9⟩ := X8.virtualBack hx (y := (⟨"com/example/transom/transom/Scope", "jump", "(Lcom/example/transom/transom/Scope$Jump;)V"⟩ : MethodName)) (z := (⟨"com/example/transom/transom/Scope", "jump", "(Lcom/example/transom/transom/Scope$Jump;)V"⟩ : MethodName)) hown (mvT hZ (ww hw 60 rfl)) (mvT hZ (ww hw 61 rfl)) (notFace_of_selects (args := #[]) (mvT hZ (ww hw 63 rfl))) (mvT hZ (ww hw 63 rfl)) (mvT hZ (ww hw 62 rfl)) (by decide) (backOf (W := 0) (rmS l Z a0 hw [] b4 uC b4 _ T7.heap n0 (Nat.le_trans (Nat.le_trans (Nat.le_trans (Nat.le_trans Z0 E4.1) Kc5.1) E6.1) Kc7.1) ((Ftop5.ext E6).keep Kc7 (ninS (Nat.ne_of_lt (Nat.lt_of_lt_of_le (E_b4.keep Kc5).lt (Nat.le_of_eq g6.symm))) nin0)) ((Ftop5.ext E6).keep Kc7 (ninS (Nat.ne_of_lt (Nat.lt_of_lt_of_le (E_b4.keep Kc5).lt (Nat.le_of_eq g6.symm))) nin0)) (((E_b4.keep Kc5).ext E6).keep Kc7) ((Fjump5.ext E6).keep Kc7 (ninS (Nat.ne_of_lt (Nat.lt_of_lt_of_le (E_b4.keep Kc5).lt (Nat.le_of_eq g6.symm))) nin0)) g_b4) hZ (ww hw 64 rfl) (ww hw 2 rfl) (by decide) (by decide)) q9a q9c (g := (mkF m 89 #[.val (.int p1), .val (.int p2), .val (.int p3), .val (.ref b4), .val (.ref b6), .val (.ref b4), .val (.ref b6), .val (.int (p1 &&& (3 : Int32))), .val .null, .unset, .unset, .unset, .unset] [(.ref uC), (.ref b4)])) rfl (by rw [hml]; rfl) (Steps.refl _) (argsL := [(.ref uC)]) (rest := []) (lenOf pd_0_6 rfl) rfl (by show 2 * 0 + _ ≤ _; exact Nat.le_of_eq rfl) (hb hby at_89) (fun _ _ => ⟨rfl, e8, (by decide : 4 + 0 ≤ _), (by decide : 32 + 0 ≤ _)⟩)
  dsimp only [Pt.U, Pt.locs, Pt.cells, Pt.slots] at X9 l9 y9 z9 st9 hQ9
  subst l9 y9 z9
  obtain ⟨rfl, N9q, Kc9, Fj9, Ft9⟩ := hQ9
  have N9 := Fr.app N7 N9q
  have S_BREAK_9 := own_stak S_BREAK_7 Kc9 (allS (own_nst (((E_b4.keep Kc5).ext E6).keep Kc7)) all0)
  have S_CONTINUE_9 := own_stak S_CONTINUE_7 Kc9 (allS (own_nst (((E_b4.keep Kc5).ext E6).keep Kc7)) all0)
  have K9 : Keep h0 T9.heap [] := K7.trans Kc9 (allS (Or.inr sz_b4) all0)
  obtain ⟨T10, X10, e10, st10⟩ := getS2 X9 hx hZ hown (host := "") (Or.inl (ww hw 65 rfl)) Via.refl rfl S_CONTINUE_9 (g := (mkF m 92 #[.val (.int p1), .val (.int p2), .val (.int p3), .val (.ref b4), .val (.ref b6), .val (.ref b4), .val (.ref b6), .val (.int (p1 &&& (3 : Int32))), .val .null, .unset, .unset, .unset, .unset] [])) rfl (hb hby at_92)
  obtain ⟨cq11, kq11, q11a, q11b, q11c⟩ := isOf hZ e10 ((E_b6.keep Kc7).keep Kc9)
  obtain ⟨_, _, ⟨T11, L11, k11, n11⟩, -, X11, ⟨Lc11, hQ11, l11, y11, z11⟩, st11⟩ := X10.virtualBack hx (y := (⟨"com/example/transom/transom/Scope", "jumping", "()Z"⟩ : MethodName)) (z := (⟨"com/example/transom/transom/Scope", "jumping", "()Z"⟩ : MethodName)) hown (mvT hZ (ww hw 45 rfl)) (mvT hZ (ww hw 46 rfl)) (notFace_of_selects (args := #[]) (mvT hZ (ww hw 48 rfl))) (mvT hZ (ww hw 48 rfl)) (mvT hZ (ww hw 47 rfl)) (by decide) (backOf (W := 0) (rmJr l Z a0 hw [] b6 b4 uC T9.heap n0 (Nat.le_trans (Nat.le_trans (Nat.le_trans (Nat.le_trans (Nat.le_trans Z0 E4.1) Kc5.1) E6.1) Kc7.1) Kc9.1) (Ft7.keep Kc9 (ninS (Ne.symm (Nat.ne_of_lt (Nat.lt_of_lt_of_le (E_b4.keep Kc5).lt (Nat.le_of_eq g6.symm)))) nin0)) Fj9) hZ (ww hw 49 rfl) (ww hw 2 rfl) (by decide) (by decide)) q11a q11c (g := (mkF m 129 #[.val (.int p1), .val (.int p2), .val (.int p3), .val (.ref b4), .val (.ref b6), .val (.ref b4), .val (.ref b6), .val (.int (p1 &&& (3 : Int32))), .val (.ref uC), .unset, .unset, .unset, .unset] [(.ref b6)])) rfl (by rw [hml]; rfl) (Steps.refl _) (argsL := []) (rest := []) (lenOf pd_0_4 rfl) rfl (by show 2 * 0 + _ ≤ _; exact Nat.le_of_eq rfl) (hb hby at_129) (fun _ _ => ⟨rfl, e10, (by decide : 4 + 0 ≤ _), (by decide : 32 + 0 ≤ _)⟩)
  dsimp only [Pt.U, Pt.locs, Pt.cells, Pt.slots] at X11 l11 y11 z11 st11 hQ11
  subst l11 y11 z11
  obtain ⟨rfl, N11q, eh11⟩ := hQ11
  have N11 := Fr.app N9 N11q
  obtain ⟨cq12, kq12, q12a, q12b, q12c⟩ := isOf hZ eh11 ((E_b6.keep Kc7).keep Kc9)
  obtain ⟨_, _, ⟨T12, L12, k12, n12⟩, -, X12, ⟨Lc12, hQ12, l12, y12, z12⟩, st12⟩ := X11.virtualBack hx (y := (⟨"com/example/transom/transom/Scope", "land", "()Lcom/example/transom/transom/Scope$Jump;"⟩ : MethodName)) (z := (⟨"com/example/transom/transom/Scope", "land", "()Lcom/example/transom/transom/Scope$Jump;"⟩ : MethodName)) hown (mvT hZ (ww hw 52 rfl)) (mvT hZ (ww hw 53 rfl)) (notFace_of_selects (args := #[]) (mvT hZ (ww hw 55 rfl))) (mvT hZ (ww hw 55 rfl)) (mvT hZ (ww hw 54 rfl)) (by decide) (backOf (W := 0) (rmLr l Z a0 hw [] b6 b4 uC T9.heap n0 (Nat.le_trans (Nat.le_trans (Nat.le_trans (Nat.le_trans (Nat.le_trans Z0 E4.1) Kc5.1) E6.1) Kc7.1) Kc9.1) Ft9 (Ft7.keep Kc9 (ninS (Ne.symm (Nat.ne_of_lt (Nat.lt_of_lt_of_le (E_b4.keep Kc5).lt (Nat.le_of_eq g6.symm)))) nin0)) Fj9 ((((E_b4.keep Kc5).ext E6).keep Kc7).keep Kc9) g_b4) hZ (ww hw 56 rfl) (ww hw 2 rfl) (by decide) (by decide)) q12a q12c (g := (mkF m 154 #[.val (.int p1), .val (.int p2), .val (.int p3), .val (.ref b4), .val (.ref b6), .val (.ref b4), .val (.ref b6), .val (.int (p1 &&& (3 : Int32))), .val (.ref uC), .val (.int (1 : Int32)), .unset, .unset, .unset] [(.ref b6)])) rfl (by rw [hml]; rfl) (Steps.refl _) (argsL := []) (rest := []) (lenOf pd_0_5 rfl) rfl (by show 2 * 0 + _ ≤ _; exact Nat.le_of_eq rfl) (hb hby at_154) (fun _ _ => ⟨rfl, eh11, (by decide : 4 + 0 ≤ _), (by decide : 32 + 0 ≤ _)⟩)
  dsimp only [Pt.U, Pt.locs, Pt.cells, Pt.slots] at X12 l12 y12 z12 st12 hQ12
  subst l12 y12 z12
  obtain ⟨rfl, N12q, Kc12, Fj12, Ft12⟩ := hQ12
  have N12 := Fr.app N11 N12q
  have S_BREAK_12 := own_stak S_BREAK_9 Kc12 (allS (own_nst ((((E_b4.keep Kc5).ext E6).keep Kc7).keep Kc9)) all0)
  have S_CONTINUE_12 := own_stak S_CONTINUE_9 Kc12 (allS (own_nst ((((E_b4.keep Kc5).ext E6).keep Kc7).keep Kc9)) all0)
  have K12 : Keep h0 T12.heap [] := K9.trans Kc12 (allS (Or.inr sz_b4) all0)
  obtain ⟨cq13, kq13, q13a, q13b, q13c⟩ := isOf hZ rfl (((((E_b4.keep Kc5).ext E6).keep Kc7).keep Kc9).keep Kc12)
  obtain ⟨_, _, ⟨T13, L13, k13, n13⟩, -, X13, ⟨Lc13, hQ13, l13, y13, z13⟩, st13⟩ := X12.virtualBack hx (y := (⟨"com/example/transom/transom/Scope", "jumping", "()Z"⟩ : MethodName)) (z := (⟨"com/example/transom/transom/Scope", "jumping", "()Z"⟩ : MethodName)) hown (mvT hZ (ww hw 45 rfl)) (mvT hZ (ww hw 46 rfl)) (notFace_of_selects (args := #[]) (mvT hZ (ww hw 48 rfl))) (mvT hZ (ww hw 48 rfl)) (mvT hZ (ww hw 47 rfl)) (by decide) (backOf (W := 0) (rmJn l Z a0 hw [] b4 b4 T12.heap n0 (Nat.le_trans (Nat.le_trans (Nat.le_trans (Nat.le_trans (Nat.le_trans (Nat.le_trans Z0 E4.1) Kc5.1) E6.1) Kc7.1) Kc9.1) Kc12.1) Ft12 Fj12) hZ (ww hw 49 rfl) (ww hw 2 rfl) (by decide) (by decide)) q13a q13c (g := (mkF m 160 #[.val (.int p1), .val (.int p2), .val (.int p3), .val (.ref b4), .val (.ref b6), .val (.ref b4), .val (.ref b6), .val (.int (p1 &&& (3 : Int32))), .val (.ref uC), .val (.int (1 : Int32)), .val (.ref uC), .unset, .unset] [(.ref b4)])) rfl (by rw [hml]; rfl) (Steps.refl _) (argsL := []) (rest := []) (lenOf pd_0_4 rfl) rfl (by show 2 * 0 + _ ≤ _; exact Nat.le_of_eq rfl) (hb hby at_160) (fun _ _ => ⟨rfl, rfl, (by decide : 4 + 0 ≤ _), (by decide : 32 + 0 ≤ _)⟩)
  dsimp only [Pt.U, Pt.locs, Pt.cells, Pt.slots] at X13 l13 y13 z13 st13 hQ13
  subst l13 y13 z13
  obtain ⟨rfl, N13q, eh13⟩ := hQ13
  have N13 := Fr.app N12 N13q
  obtain ⟨cq14, kq14, q14a, q14b, q14c⟩ := isOf hZ eh13 (((E_b6.keep Kc7).keep Kc9).keep Kc12)
  obtain ⟨_, _, ⟨T14, L14, k14, n14⟩, -, X14, ⟨Lc14, hQ14, l14, y14, z14⟩, st14⟩ := X13.virtualBack hx (y := (⟨"com/example/transom/transom/Scope", "jumping", "()Z"⟩ : MethodName)) (z := (⟨"com/example/transom/transom/Scope", "jumping", "()Z"⟩ : MethodName)) hown (mvT hZ (ww hw 45 rfl)) (mvT hZ (ww hw 46 rfl)) (notFace_of_selects (args := #[]) (mvT hZ (ww hw 48 rfl))) (mvT hZ (ww hw 48 rfl)) (mvT hZ (ww hw 47 rfl)) (by decide) (backOf (W := 0) (rmJn l Z a0 hw [] b6 b4 T12.heap n0 (Nat.le_trans (Nat.le_trans (Nat.le_trans (Nat.le_trans (Nat.le_trans (Nat.le_trans Z0 E4.1) Kc5.1) E6.1) Kc7.1) Kc9.1) Kc12.1) ((Ft7.keep Kc9 (ninS (Ne.symm (Nat.ne_of_lt (Nat.lt_of_lt_of_le (E_b4.keep Kc5).lt (Nat.le_of_eq g6.symm)))) nin0)).keep Kc12 (ninS (Ne.symm (Nat.ne_of_lt (Nat.lt_of_lt_of_le (E_b4.keep Kc5).lt (Nat.le_of_eq g6.symm)))) nin0)) Fj12) hZ (ww hw 49 rfl) (ww hw 2 rfl) (by decide) (by decide)) q14a q14c (g := (mkF m 168 #[.val (.int p1), .val (.int p2), .val (.int p3), .val (.ref b4), .val (.ref b6), .val (.ref b4), .val (.ref b6), .val (.int (p1 &&& (3 : Int32))), .val (.ref uC), .val (.int (1 : Int32)), .val (.ref uC), .unset, .unset] [(.ref b6)])) rfl (by rw [hml]; rfl) (Steps.refl _) (argsL := []) (rest := []) (lenOf pd_0_4 rfl) rfl (by show 2 * 0 + _ ≤ _; exact Nat.le_of_eq rfl) (hb hby at_168) (fun _ _ => ⟨rfl, eh13, (by decide : 4 + 0 ≤ _), (by decide : 32 + 0 ≤ _)⟩)
  dsimp only [Pt.U, Pt.locs, Pt.cells, Pt.slots] at X14 l14 y14 z14 st14 hQ14
  subst l14 y14 z14
  obtain ⟨rfl, N14q, eh14⟩ := hQ14
  have N14 := Fr.app N13 N14q
  obtain ⟨cq15, kq15, q15a, q15b, q15c⟩ := isOf hZ eh14 (((E_b6.keep Kc7).keep Kc9).keep Kc12)
  obtain ⟨_, _, ⟨T15, L15, k15, n15⟩, -, X15, ⟨Lc15, hQ15, l15, y15, z15⟩, st15⟩ := X14.virtualBack hx (y := (⟨"com/example/transom/transom/Scope", "land", "()Lcom/example/transom/transom/Scope$Jump;"⟩ : MethodName)) (z := (⟨"com/example/transom/transom/Scope", "land", "()Lcom/example/transom/transom/Scope$Jump;"⟩ : MethodName)) hown (mvT hZ (ww hw 52 rfl)) (mvT hZ (ww hw 53 rfl)) (notFace_of_selects (args := #[]) (mvT hZ (ww hw 55 rfl))) (mvT hZ (ww hw 55 rfl)) (mvT hZ (ww hw 54 rfl)) (by decide) (backOf (W := 0) (rmLn l Z a0 hw [] b6 b4 T12.heap n0 (Nat.le_trans (Nat.le_trans (Nat.le_trans (Nat.le_trans (Nat.le_trans (Nat.le_trans Z0 E4.1) Kc5.1) E6.1) Kc7.1) Kc9.1) Kc12.1) Ft12 ((Ft7.keep Kc9 (ninS (Ne.symm (Nat.ne_of_lt (Nat.lt_of_lt_of_le (E_b4.keep Kc5).lt (Nat.le_of_eq g6.symm)))) nin0)).keep Kc12 (ninS (Ne.symm (Nat.ne_of_lt (Nat.lt_of_lt_of_le (E_b4.keep Kc5).lt (Nat.le_of_eq g6.symm)))) nin0)) Fj12 (((((E_b4.keep Kc5).ext E6).keep Kc7).keep Kc9).keep Kc12) g_b4) hZ (ww hw 56 rfl) (ww hw 2 rfl) (by decide) (by decide)) q15a q15c (g := (mkF m 183 #[.val (.int p1), .val (.int p2), .val (.int p3), .val (.ref b4), .val (.ref b6), .val (.ref b4), .val (.ref b6), .val (.int (p1 &&& (3 : Int32))), .val (.ref uC), .val (.int (1 : Int32)), .val (.ref uC), .val (.int (1 : Int32)), .unset] [(.ref b6)])) rfl (by rw [hml]; rfl) (Steps.refl _) (argsL := []) (rest := []) (lenOf pd_0_5 rfl) rfl (by show 2 * 0 + _ ≤ _; exact Nat.le_of_eq rfl) (hb hby at_183) (fun _ _ => ⟨rfl, eh14, (by decide : 4 + 0 ≤ _), (by decide : 32 + 0 ≤ _)⟩)
  dsimp only [Pt.U, Pt.locs, Pt.cells, Pt.slots] at X15 l15 y15 z15 st15 hQ15
  subst l15 y15 z15
  obtain ⟨rfl, N15q, Kc15, Fj15, Ft15⟩ := hQ15
  have N15 := Fr.app N14 N15q
  have S_BREAK_15 := own_stak S_BREAK_12 Kc15 (allS (own_nst (((((E_b4.keep Kc5).ext E6).keep Kc7).keep Kc9).keep Kc12)) all0)
  have S_CONTINUE_15 := own_stak S_CONTINUE_12 Kc15 (allS (own_nst (((((E_b4.keep Kc5).ext E6).keep Kc7).keep Kc9).keep Kc12)) all0)
  have K15 : Keep h0 T15.heap [] := K12.trans Kc15 (allS (Or.inr sz_b4) all0)
  obtain ⟨fs, hr, hrun, hended, hW, hsame⟩ := X15.leave (v := some (.int (1 : Int32))) (fun h => by rw [Bd.returns] at h; cases h)
  refine ⟨_, _, pre0 _ ?_, hrun, hended, _, _, rfl, ?_, ⟨_, rfl⟩, hW, hsame.mono (by decide) (by decide)⟩
  · show Steps _ _ _ (s₁.setTop (mkF m 0 #[.val (.int p1), .val (.int p2), .val (.int p3), .unset, .unset, .unset, .unset, .unset, .unset, .unset, .unset, .unset, .unset] [])) _
    refine st4 _ ?_
    show Steps _ _ _ (T4.setTop (mkF m 3 #[.val (.int p1), .val (.int p2), .val (.int p3), .unset, .unset, .unset, .unset, .unset, .unset, .unset, .unset, .unset, .unset] [(.ref b4)])) _
    refine XS.dup X4.here hx rfl (hb hby at_3) rfl rfl ?_
    show Steps _ _ _ (T4.setTop (mkF m 4 #[.val (.int p1), .val (.int p2), .val (.int p3), .unset, .unset, .unset, .unset, .unset, .unset, .unset, .unset, .unset, .unset] [(.ref b4), (.ref b4)])) _
    refine XS.aconstNull X4.here hx rfl (hb hby at_4) ?_
    show Steps _ _ _ (T4.setTop (mkF m 5 #[.val (.int p1), .val (.int p2), .val (.int p3), .unset, .unset, .unset, .unset, .unset, .unset, .unset, .unset, .unset, .unset] [.null, (.ref b4), (.ref b4)])) _
    refine XS.aconstNull X4.here hx rfl (hb hby at_5) ?_
    show Steps _ _ _ (T4.setTop (mkF m 6 #[.val (.int p1), .val (.int p2), .val (.int p3), .unset, .unset, .unset, .unset, .unset, .unset, .unset, .unset, .unset, .unset] [.null, .null, (.ref b4), (.ref b4)])) _
    refine st5.trans ?_
    show Steps _ _ _ (T5.setTop (mkF m 9 #[.val (.int p1), .val (.int p2), .val (.int p3), .unset, .unset, .unset, .unset, .unset, .unset, .unset, .unset, .unset, .unset] [(.ref b4)])) _
    refine XS.astoreN X5.here hx rfl (hb hby at_9) rfl rfl (l' := #[.val (.int p1), .val (.int p2), .val (.int p3), .val (.ref b4), .unset, .unset, .unset, .unset, .unset, .unset, .unset, .unset, .unset]) rfl ?_
    show Steps _ _ _ (T5.setTop (mkF m 10 #[.val (.int p1), .val (.int p2), .val (.int p3), .val (.ref b4), .unset, .unset, .unset, .unset, .unset, .unset, .unset, .unset, .unset] [])) _
    refine st6 _ ?_
    show Steps _ _ _ (T6.setTop (mkF m 13 #[.val (.int p1), .val (.int p2), .val (.int p3), .val (.ref b4), .unset, .unset, .unset, .unset, .unset, .unset, .unset, .unset, .unset] [(.ref b6)])) _
    refine XS.dup X6.here hx rfl (hb hby at_13) rfl rfl ?_
    show Steps _ _ _ (T6.setTop (mkF m 14 #[.val (.int p1), .val (.int p2), .val (.int p3), .val (.ref b4), .unset, .unset, .unset, .unset, .unset, .unset, .unset, .unset, .unset] [(.ref b6), (.ref b6)])) _
    refine XS.aloadN X6.here hx rfl (hb hby at_14) rfl rfl ?_
    show Steps _ _ _ (T6.setTop (mkF m 15 #[.val (.int p1), .val (.int p2), .val (.int p3), .val (.ref b4), .unset, .unset, .unset, .unset, .unset, .unset, .unset, .unset, .unset] [(.ref b4), (.ref b6), (.ref b6)])) _
    refine st7.trans ?_
    show Steps _ _ _ (T7.setTop (mkF m 18 #[.val (.int p1), .val (.int p2), .val (.int p3), .val (.ref b4), .unset, .unset, .unset, .unset, .unset, .unset, .unset, .unset, .unset] [(.ref b6)])) _
    refine XS.astore X7.here hx rfl (hb hby at_18) rfl rfl (l' := #[.val (.int p1), .val (.int p2), .val (.int p3), .val (.ref b4), .val (.ref b6), .unset, .unset, .unset, .unset, .unset, .unset, .unset, .unset]) rfl ?_
    show Steps _ _ _ (T7.setTop (mkF m 20 #[.val (.int p1), .val (.int p2), .val (.int p3), .val (.ref b4), .val (.ref b6), .unset, .unset, .unset, .unset, .unset, .unset, .unset, .unset] [])) _
    refine XS.iloadN X7.here hx rfl (hb hby at_20) rfl ?_
    show Steps _ _ _ (T7.setTop (mkF m 21 #[.val (.int p1), .val (.int p2), .val (.int p3), .val (.ref b4), .val (.ref b6), .unset, .unset, .unset, .unset, .unset, .unset, .unset, .unset] [(.int p2)])) _
    refine XS.iconst X7.here hx rfl (hb hby at_21) ?_
    show Steps _ _ _ (T7.setTop (mkF m 22 #[.val (.int p1), .val (.int p2), .val (.int p3), .val (.ref b4), .val (.ref b6), .unset, .unset, .unset, .unset, .unset, .unset, .unset, .unset] [(.int (1 : Int32)), (.int p2)])) _
    refine XS.iand X7.here hx rfl (hb hby at_22) rfl ?_
    show Steps _ _ _ (T7.setTop (mkF m 23 #[.val (.int p1), .val (.int p2), .val (.int p3), .val (.ref b4), .val (.ref b6), .unset, .unset, .unset, .unset, .unset, .unset, .unset, .unset] [(.int (p2 &&& (1 : Int32)))])) _
    refine XS.ifYes X7.here hx rfl (pc0 := 23) (pc' := 31) rfl (hb hby at_23) rfl ((if0 _ _).trans (teq hc23).1) (by decide) (by decide) ?_
    show Steps _ _ _ (T7.setTop (mkF m 31 #[.val (.int p1), .val (.int p2), .val (.int p3), .val (.ref b4), .val (.ref b6), .unset, .unset, .unset, .unset, .unset, .unset, .unset, .unset] [])) _
    refine XS.aloadN X7.here hx rfl (hb hby at_31) rfl rfl ?_
    show Steps _ _ _ (T7.setTop (mkF m 32 #[.val (.int p1), .val (.int p2), .val (.int p3), .val (.ref b4), .val (.ref b6), .unset, .unset, .unset, .unset, .unset, .unset, .unset, .unset] [(.ref b4)])) _
    refine XS.astore X7.here hx rfl (hb hby at_32) rfl rfl (l' := #[.val (.int p1), .val (.int p2), .val (.int p3), .val (.ref b4), .val (.ref b6), .val (.ref b4), .unset, .unset, .unset, .unset, .unset, .unset, .unset]) rfl ?_
    show Steps _ _ _ (T7.setTop (mkF m 34 #[.val (.int p1), .val (.int p2), .val (.int p3), .val (.ref b4), .val (.ref b6), .val (.ref b4), .unset, .unset, .unset, .unset, .unset, .unset, .unset] [])) _
    refine XS.iloadN X7.here hx rfl (hb hby at_34) rfl ?_
    show Steps _ _ _ (T7.setTop (mkF m 35 #[.val (.int p1), .val (.int p2), .val (.int p3), .val (.ref b4), .val (.ref b6), .val (.ref b4), .unset, .unset, .unset, .unset, .unset, .unset, .unset] [(.int p3)])) _
    refine XS.iconst X7.here hx rfl (hb hby at_35) ?_
    show Steps _ _ _ (T7.setTop (mkF m 36 #[.val (.int p1), .val (.int p2), .val (.int p3), .val (.ref b4), .val (.ref b6), .val (.ref b4), .unset, .unset, .unset, .unset, .unset, .unset, .unset] [(.int (1 : Int32)), (.int p3)])) _
    refine XS.iand X7.here hx rfl (hb hby at_36) rfl ?_
    show Steps _ _ _ (T7.setTop (mkF m 37 #[.val (.int p1), .val (.int p2), .val (.int p3), .val (.ref b4), .val (.ref b6), .val (.ref b4), .unset, .unset, .unset, .unset, .unset, .unset, .unset] [(.int (p3 &&& (1 : Int32)))])) _
    refine XS.ifNo X7.here hx rfl (hb hby at_37) rfl ((if0 _ _).trans (feq hc37).1) ?_
    show Steps _ _ _ (T7.setTop (mkF m 40 #[.val (.int p1), .val (.int p2), .val (.int p3), .val (.ref b4), .val (.ref b6), .val (.ref b4), .unset, .unset, .unset, .unset, .unset, .unset, .unset] [])) _
    refine XS.aload X7.here hx rfl (hb hby at_40) rfl rfl ?_
    show Steps _ _ _ (T7.setTop (mkF m 42 #[.val (.int p1), .val (.int p2), .val (.int p3), .val (.ref b4), .val (.ref b6), .val (.ref b4), .unset, .unset, .unset, .unset, .unset, .unset, .unset] [(.ref b6)])) _
    refine XS.goto X7.here hx rfl (pc0 := 42) (pc' := 46) rfl (hb hby at_42) (by decide) (by decide) ?_
    show Steps _ _ _ (T7.setTop (mkF m 46 #[.val (.int p1), .val (.int p2), .val (.int p3), .val (.ref b4), .val (.ref b6), .val (.ref b4), .unset, .unset, .unset, .unset, .unset, .unset, .unset] [(.ref b6)])) _
    refine XS.astore X7.here hx rfl (hb hby at_46) rfl rfl (l' := #[.val (.int p1), .val (.int p2), .val (.int p3), .val (.ref b4), .val (.ref b6), .val (.ref b4), .val (.ref b6), .unset, .unset, .unset, .unset, .unset, .unset]) rfl ?_
    show Steps _ _ _ (T7.setTop (mkF m 48 #[.val (.int p1), .val (.int p2), .val (.int p3), .val (.ref b4), .val (.ref b6), .val (.ref b4), .val (.ref b6), .unset, .unset, .unset, .unset, .unset, .unset] [])) _
    refine XS.iloadN X7.here hx rfl (hb hby at_48) rfl ?_
    show Steps _ _ _ (T7.setTop (mkF m 49 #[.val (.int p1), .val (.int p2), .val (.int p3), .val (.ref b4), .val (.ref b6), .val (.ref b4), .val (.ref b6), .unset, .unset, .unset, .unset, .unset, .unset] [(.int p1)])) _
    refine XS.iconst X7.here hx rfl (hb hby at_49) ?_
    show Steps _ _ _ (T7.setTop (mkF m 50 #[.val (.int p1), .val (.int p2), .val (.int p3), .val (.ref b4), .val (.ref b6), .val (.ref b4), .val (.ref b6), .unset, .unset, .unset, .unset, .unset, .unset] [(.int (3 : Int32)), (.int p1)])) _
    refine XS.iand X7.here hx rfl (hb hby at_50) rfl ?_
    show Steps _ _ _ (T7.setTop (mkF m 51 #[.val (.int p1), .val (.int p2), .val (.int p3), .val (.ref b4), .val (.ref b6), .val (.ref b4), .val (.ref b6), .unset, .unset, .unset, .unset, .unset, .unset] [(.int (p1 &&& (3 : Int32)))])) _
    refine XS.istore X7.here hx rfl (hb hby at_51) rfl (l' := #[.val (.int p1), .val (.int p2), .val (.int p3), .val (.ref b4), .val (.ref b6), .val (.ref b4), .val (.ref b6), .val (.int (p1 &&& (3 : Int32))), .unset, .unset, .unset, .unset, .unset]) rfl ?_
    show Steps _ _ _ (T7.setTop (mkF m 53 #[.val (.int p1), .val (.int p2), .val (.int p3), .val (.ref b4), .val (.ref b6), .val (.ref b4), .val (.ref b6), .val (.int (p1 &&& (3 : Int32))), .unset, .unset, .unset, .unset, .unset] [])) _
    refine XS.aconstNull X7.here hx rfl (hb hby at_53) ?_
    show Steps _ _ _ (T7.setTop (mkF m 54 #[.val (.int p1), .val (.int p2), .val (.int p3), .val (.ref b4), .val (.ref b6), .val (.ref b4), .val (.ref b6), .val (.int (p1 &&& (3 : Int32))), .unset, .unset, .unset, .unset, .unset] [.null])) _
    refine XS.astore X7.here hx rfl (hb hby at_54) rfl rfl (l' := #[.val (.int p1), .val (.int p2), .val (.int p3), .val (.ref b4), .val (.ref b6), .val (.ref b4), .val (.ref b6), .val (.int (p1 &&& (3 : Int32))), .val .null, .unset, .unset, .unset, .unset]) rfl ?_
    show Steps _ _ _ (T7.setTop (mkF m 56 #[.val (.int p1), .val (.int p2), .val (.int p3), .val (.ref b4), .val (.ref b6), .val (.ref b4), .val (.ref b6), .val (.int (p1 &&& (3 : Int32))), .val .null, .unset, .unset, .unset, .unset] [])) _
    refine XS.iload X7.here hx rfl (hb hby at_56) rfl ?_
    show Steps _ _ _ (T7.setTop (mkF m 58 #[.val (.int p1), .val (.int p2), .val (.int p3), .val (.ref b4), .val (.ref b6), .val (.ref b4), .val (.ref b6), .val (.int (p1 &&& (3 : Int32))), .val .null, .unset, .unset, .unset, .unset] [(.int (p1 &&& (3 : Int32)))])) _
    refine XS.iconst X7.here hx rfl (hb hby at_58) ?_
    show Steps _ _ _ (T7.setTop (mkF m 59 #[.val (.int p1), .val (.int p2), .val (.int p3), .val (.ref b4), .val (.ref b6), .val (.ref b4), .val (.ref b6), .val (.int (p1 &&& (3 : Int32))), .val .null, .unset, .unset, .unset, .unset] [(.int (1 : Int32)), (.int (p1 &&& (3 : Int32)))])) _
    refine XS.icmpYes X7.here hx rfl (pc0 := 59) (pc' := 78) rfl (hb hby at_59) rfl (feq hc59).2 (by decide) (by decide) ?_
    show Steps _ _ _ (T7.setTop (mkF m 78 #[.val (.int p1), .val (.int p2), .val (.int p3), .val (.ref b4), .val (.ref b6), .val (.ref b4), .val (.ref b6), .val (.int (p1 &&& (3 : Int32))), .val .null, .unset, .unset, .unset, .unset] [])) _
    refine XS.iload X7.here hx rfl (hb hby at_78) rfl ?_
    show Steps _ _ _ (T7.setTop (mkF m 80 #[.val (.int p1), .val (.int p2), .val (.int p3), .val (.ref b4), .val (.ref b6), .val (.ref b4), .val (.ref b6), .val (.int (p1 &&& (3 : Int32))), .val .null, .unset, .unset, .unset, .unset] [(.int (p1 &&& (3 : Int32)))])) _
    refine XS.iconst X7.here hx rfl (hb hby at_80) ?_
    show Steps _ _ _ (T7.setTop (mkF m 81 #[.val (.int p1), .val (.int p2), .val (.int p3), .val (.ref b4), .val (.ref b6), .val (.ref b4), .val (.ref b6), .val (.int (p1 &&& (3 : Int32))), .val .null, .unset, .unset, .unset, .unset] [(.int (2 : Int32)), (.int (p1 &&& (3 : Int32)))])) _
    refine XS.icmpNo X7.here hx rfl (hb hby at_81) rfl (teq hc81).2 ?_
    show Steps _ _ _ (T7.setTop (mkF m 84 #[.val (.int p1), .val (.int p2), .val (.int p3), .val (.ref b4), .val (.ref b6), .val (.ref b4), .val (.ref b6), .val (.int (p1 &&& (3 : Int32))), .val .null, .unset, .unset, .unset, .unset] [])) _
    refine XS.aload X7.here hx rfl (hb hby at_84) rfl rfl ?_
    show Steps _ _ _ (T7.setTop (mkF m 86 #[.val (.int p1), .val (.int p2), .val (.int p3), .val (.ref b4), .val (.ref b6), .val (.ref b4), .val (.ref b6), .val (.int (p1 &&& (3 : Int32))), .val .null, .unset, .unset, .unset, .unset] [(.ref b4)])) _
    refine st8 _ ?_
    show Steps _ _ _ (T8.setTop (mkF m 89 #[.val (.int p1), .val (.int p2), .val (.int p3), .val (.ref b4), .val (.ref b6), .val (.ref b4), .val (.ref b6), .val (.int (p1 &&& (3 : Int32))), .val .null, .unset, .unset, .unset, .unset] [(.ref uC), (.ref b4)])) _
    refine st9.trans ?_
    show Steps _ _ _ (T9.setTop (mkF m 92 #[.val (.int p1), .val (.int p2), .val (.int p3), .val (.ref b4), .val (.ref b6), .val (.ref b4), .val (.ref b6), .val (.int (p1 &&& (3 : Int32))), .val .null, .unset, .unset, .unset, .unset] [])) _
    refine st10 _ ?_
    show Steps _ _ _ (T10.setTop (mkF m 95 #[.val (.int p1), .val (.int p2), .val (.int p3), .val (.ref b4), .val (.ref b6), .val (.ref b4), .val (.ref b6), .val (.int (p1 &&& (3 : Int32))), .val .null, .unset, .unset, .unset, .unset] [(.ref uC)])) _
    refine XS.astore X10.here hx rfl (hb hby at_95) rfl rfl (l' := #[.val (.int p1), .val (.int p2), .val (.int p3), .val (.ref b4), .val (.ref b6), .val (.ref b4), .val (.ref b6), .val (.int (p1 &&& (3 : Int32))), .val (.ref uC), .unset, .unset, .unset, .unset]) rfl ?_
    show Steps _ _ _ (T10.setTop (mkF m 97 #[.val (.int p1), .val (.int p2), .val (.int p3), .val (.ref b4), .val (.ref b6), .val (.ref b4), .val (.ref b6), .val (.int (p1 &&& (3 : Int32))), .val (.ref uC), .unset, .unset, .unset, .unset] [])) _
    refine XS.goto X10.here hx rfl (pc0 := 97) (pc' := 127) rfl (hb hby at_97) (by decide) (by decide) ?_
    show Steps _ _ _ (T10.setTop (mkF m 127 #[.val (.int p1), .val (.int p2), .val (.int p3), .val (.ref b4), .val (.ref b6), .val (.ref b4), .val (.ref b6), .val (.int (p1 &&& (3 : Int32))), .val (.ref uC), .unset, .unset, .unset, .unset] [])) _
    refine XS.aload X10.here hx rfl (hb hby at_127) rfl rfl ?_
    show Steps _ _ _ (T10.setTop (mkF m 129 #[.val (.int p1), .val (.int p2), .val (.int p3), .val (.ref b4), .val (.ref b6), .val (.ref b4), .val (.ref b6), .val (.int (p1 &&& (3 : Int32))), .val (.ref uC), .unset, .unset, .unset, .unset] [(.ref b6)])) _
    refine st11.trans ?_
    show Steps _ _ _ (T11.setTop (mkF m 132 #[.val (.int p1), .val (.int p2), .val (.int p3), .val (.ref b4), .val (.ref b6), .val (.ref b4), .val (.ref b6), .val (.int (p1 &&& (3 : Int32))), .val (.ref uC), .unset, .unset, .unset, .unset] [(.int (1 : Int32))])) _
    refine XS.aload X11.here hx rfl (hb hby at_132) rfl rfl ?_
    show Steps _ _ _ (T11.setTop (mkF m 134 #[.val (.int p1), .val (.int p2), .val (.int p3), .val (.ref b4), .val (.ref b6), .val (.ref b4), .val (.ref b6), .val (.int (p1 &&& (3 : Int32))), .val (.ref uC), .unset, .unset, .unset, .unset] [(.ref uC), (.int (1 : Int32))])) _
    refine XS.ifnullNo X11.here hx rfl (hb hby at_134) rfl ?_
    show Steps _ _ _ (T11.setTop (mkF m 137 #[.val (.int p1), .val (.int p2), .val (.int p3), .val (.ref b4), .val (.ref b6), .val (.ref b4), .val (.ref b6), .val (.int (p1 &&& (3 : Int32))), .val (.ref uC), .unset, .unset, .unset, .unset] [(.int (1 : Int32))])) _
    refine XS.iconst X11.here hx rfl (hb hby at_137) ?_
    show Steps _ _ _ (T11.setTop (mkF m 138 #[.val (.int p1), .val (.int p2), .val (.int p3), .val (.ref b4), .val (.ref b6), .val (.ref b4), .val (.ref b6), .val (.int (p1 &&& (3 : Int32))), .val (.ref uC), .unset, .unset, .unset, .unset] [(.int (1 : Int32)), (.int (1 : Int32))])) _
    refine XS.goto X11.here hx rfl (pc0 := 138) (pc' := 142) rfl (hb hby at_138) (by decide) (by decide) ?_
    show Steps _ _ _ (T11.setTop (mkF m 142 #[.val (.int p1), .val (.int p2), .val (.int p3), .val (.ref b4), .val (.ref b6), .val (.ref b4), .val (.ref b6), .val (.int (p1 &&& (3 : Int32))), .val (.ref uC), .unset, .unset, .unset, .unset] [(.int (1 : Int32)), (.int (1 : Int32))])) _
    refine XS.icmpNo X11.here hx rfl (hb hby at_142) rfl (teq (rfl : (1 : Int32) = (1 : Int32))).2 ?_
    show Steps _ _ _ (T11.setTop (mkF m 145 #[.val (.int p1), .val (.int p2), .val (.int p3), .val (.ref b4), .val (.ref b6), .val (.ref b4), .val (.ref b6), .val (.int (p1 &&& (3 : Int32))), .val (.ref uC), .unset, .unset, .unset, .unset] [])) _
    refine XS.iconst X11.here hx rfl (hb hby at_145) ?_
    show Steps _ _ _ (T11.setTop (mkF m 146 #[.val (.int p1), .val (.int p2), .val (.int p3), .val (.ref b4), .val (.ref b6), .val (.ref b4), .val (.ref b6), .val (.int (p1 &&& (3 : Int32))), .val (.ref uC), .unset, .unset, .unset, .unset] [(.int (1 : Int32))])) _
    refine XS.goto X11.here hx rfl (pc0 := 146) (pc' := 150) rfl (hb hby at_146) (by decide) (by decide) ?_
    show Steps _ _ _ (T11.setTop (mkF m 150 #[.val (.int p1), .val (.int p2), .val (.int p3), .val (.ref b4), .val (.ref b6), .val (.ref b4), .val (.ref b6), .val (.int (p1 &&& (3 : Int32))), .val (.ref uC), .unset, .unset, .unset, .unset] [(.int (1 : Int32))])) _
    refine XS.istore X11.here hx rfl (hb hby at_150) rfl (l' := #[.val (.int p1), .val (.int p2), .val (.int p3), .val (.ref b4), .val (.ref b6), .val (.ref b4), .val (.ref b6), .val (.int (p1 &&& (3 : Int32))), .val (.ref uC), .val (.int (1 : Int32)), .unset, .unset, .unset]) rfl ?_
    show Steps _ _ _ (T11.setTop (mkF m 152 #[.val (.int p1), .val (.int p2), .val (.int p3), .val (.ref b4), .val (.ref b6), .val (.ref b4), .val (.ref b6), .val (.int (p1 &&& (3 : Int32))), .val (.ref uC), .val (.int (1 : Int32)), .unset, .unset, .unset] [])) _
    refine XS.aload X11.here hx rfl (hb hby at_152) rfl rfl ?_
    show Steps _ _ _ (T11.setTop (mkF m 154 #[.val (.int p1), .val (.int p2), .val (.int p3), .val (.ref b4), .val (.ref b6), .val (.ref b4), .val (.ref b6), .val (.int (p1 &&& (3 : Int32))), .val (.ref uC), .val (.int (1 : Int32)), .unset, .unset, .unset] [(.ref b6)])) _
    refine st12.trans ?_
    show Steps _ _ _ (T12.setTop (mkF m 157 #[.val (.int p1), .val (.int p2), .val (.int p3), .val (.ref b4), .val (.ref b6), .val (.ref b4), .val (.ref b6), .val (.int (p1 &&& (3 : Int32))), .val (.ref uC), .val (.int (1 : Int32)), .unset, .unset, .unset] [(.ref uC)])) _
    refine XS.astore X12.here hx rfl (hb hby at_157) rfl rfl (l' := #[.val (.int p1), .val (.int p2), .val (.int p3), .val (.ref b4), .val (.ref b6), .val (.ref b4), .val (.ref b6), .val (.int (p1 &&& (3 : Int32))), .val (.ref uC), .val (.int (1 : Int32)), .val (.ref uC), .unset, .unset]) rfl ?_
    show Steps _ _ _ (T12.setTop (mkF m 159 #[.val (.int p1), .val (.int p2), .val (.int p3), .val (.ref b4), .val (.ref b6), .val (.ref b4), .val (.ref b6), .val (.int (p1 &&& (3 : Int32))), .val (.ref uC), .val (.int (1 : Int32)), .val (.ref uC), .unset, .unset] [])) _
    refine XS.aloadN X12.here hx rfl (hb hby at_159) rfl rfl ?_
    show Steps _ _ _ (T12.setTop (mkF m 160 #[.val (.int p1), .val (.int p2), .val (.int p3), .val (.ref b4), .val (.ref b6), .val (.ref b4), .val (.ref b6), .val (.int (p1 &&& (3 : Int32))), .val (.ref uC), .val (.int (1 : Int32)), .val (.ref uC), .unset, .unset] [(.ref b4)])) _
    refine st13.trans ?_
    show Steps _ _ _ (T13.setTop (mkF m 163 #[.val (.int p1), .val (.int p2), .val (.int p3), .val (.ref b4), .val (.ref b6), .val (.ref b4), .val (.ref b6), .val (.int (p1 &&& (3 : Int32))), .val (.ref uC), .val (.int (1 : Int32)), .val (.ref uC), .unset, .unset] [(.int (0 : Int32))])) _
    refine XS.ifNo X13.here hx rfl (hb hby at_163) rfl ((if0 _ _).trans (teq (rfl : (0 : Int32) = (0 : Int32))).2) ?_
    show Steps _ _ _ (T13.setTop (mkF m 166 #[.val (.int p1), .val (.int p2), .val (.int p3), .val (.ref b4), .val (.ref b6), .val (.ref b4), .val (.ref b6), .val (.int (p1 &&& (3 : Int32))), .val (.ref uC), .val (.int (1 : Int32)), .val (.ref uC), .unset, .unset] [])) _
    refine XS.aload X13.here hx rfl (hb hby at_166) rfl rfl ?_
    show Steps _ _ _ (T13.setTop (mkF m 168 #[.val (.int p1), .val (.int p2), .val (.int p3), .val (.ref b4), .val (.ref b6), .val (.ref b4), .val (.ref b6), .val (.int (p1 &&& (3 : Int32))), .val (.ref uC), .val (.int (1 : Int32)), .val (.ref uC), .unset, .unset] [(.ref b6)])) _
    refine st14.trans ?_
    show Steps _ _ _ (T14.setTop (mkF m 171 #[.val (.int p1), .val (.int p2), .val (.int p3), .val (.ref b4), .val (.ref b6), .val (.ref b4), .val (.ref b6), .val (.int (p1 &&& (3 : Int32))), .val (.ref uC), .val (.int (1 : Int32)), .val (.ref uC), .unset, .unset] [(.int (0 : Int32))])) _
    refine XS.ifNo X14.here hx rfl (hb hby at_171) rfl ((if0 _ _).trans (teq (rfl : (0 : Int32) = (0 : Int32))).2) ?_
    show Steps _ _ _ (T14.setTop (mkF m 174 #[.val (.int p1), .val (.int p2), .val (.int p3), .val (.ref b4), .val (.ref b6), .val (.ref b4), .val (.ref b6), .val (.int (p1 &&& (3 : Int32))), .val (.ref uC), .val (.int (1 : Int32)), .val (.ref uC), .unset, .unset] [])) _
    refine XS.iconst X14.here hx rfl (hb hby at_174) ?_
    show Steps _ _ _ (T14.setTop (mkF m 175 #[.val (.int p1), .val (.int p2), .val (.int p3), .val (.ref b4), .val (.ref b6), .val (.ref b4), .val (.ref b6), .val (.int (p1 &&& (3 : Int32))), .val (.ref uC), .val (.int (1 : Int32)), .val (.ref uC), .unset, .unset] [(.int (1 : Int32))])) _
    refine XS.goto X14.here hx rfl (pc0 := 175) (pc' := 179) rfl (hb hby at_175) (by decide) (by decide) ?_
    show Steps _ _ _ (T14.setTop (mkF m 179 #[.val (.int p1), .val (.int p2), .val (.int p3), .val (.ref b4), .val (.ref b6), .val (.ref b4), .val (.ref b6), .val (.int (p1 &&& (3 : Int32))), .val (.ref uC), .val (.int (1 : Int32)), .val (.ref uC), .unset, .unset] [(.int (1 : Int32))])) _
    refine XS.istore X14.here hx rfl (hb hby at_179) rfl (l' := #[.val (.int p1), .val (.int p2), .val (.int p3), .val (.ref b4), .val (.ref b6), .val (.ref b4), .val (.ref b6), .val (.int (p1 &&& (3 : Int32))), .val (.ref uC), .val (.int (1 : Int32)), .val (.ref uC), .val (.int (1 : Int32)), .unset]) rfl ?_
    show Steps _ _ _ (T14.setTop (mkF m 181 #[.val (.int p1), .val (.int p2), .val (.int p3), .val (.ref b4), .val (.ref b6), .val (.ref b4), .val (.ref b6), .val (.int (p1 &&& (3 : Int32))), .val (.ref uC), .val (.int (1 : Int32)), .val (.ref uC), .val (.int (1 : Int32)), .unset] [])) _
    refine XS.aload X14.here hx rfl (hb hby at_181) rfl rfl ?_
    show Steps _ _ _ (T14.setTop (mkF m 183 #[.val (.int p1), .val (.int p2), .val (.int p3), .val (.ref b4), .val (.ref b6), .val (.ref b4), .val (.ref b6), .val (.int (p1 &&& (3 : Int32))), .val (.ref uC), .val (.int (1 : Int32)), .val (.ref uC), .val (.int (1 : Int32)), .unset] [(.ref b6)])) _
    refine st15.trans ?_
    show Steps _ _ _ (T15.setTop (mkF m 186 #[.val (.int p1), .val (.int p2), .val (.int p3), .val (.ref b4), .val (.ref b6), .val (.ref b4), .val (.ref b6), .val (.int (p1 &&& (3 : Int32))), .val (.ref uC), .val (.int (1 : Int32)), .val (.ref uC), .val (.int (1 : Int32)), .unset] [.null])) _
    refine XS.astore X15.here hx rfl (hb hby at_186) rfl rfl (l' := #[.val (.int p1), .val (.int p2), .val (.int p3), .val (.ref b4), .val (.ref b6), .val (.ref b4), .val (.ref b6), .val (.int (p1 &&& (3 : Int32))), .val (.ref uC), .val (.int (1 : Int32)), .val (.ref uC), .val (.int (1 : Int32)), .val .null]) rfl ?_
    show Steps _ _ _ (T15.setTop (mkF m 188 #[.val (.int p1), .val (.int p2), .val (.int p3), .val (.ref b4), .val (.ref b6), .val (.ref b4), .val (.ref b6), .val (.int (p1 &&& (3 : Int32))), .val (.ref uC), .val (.int (1 : Int32)), .val (.ref uC), .val (.int (1 : Int32)), .val .null] [])) _
    refine XS.iload X15.here hx rfl (hb hby at_188) rfl ?_
    show Steps _ _ _ (T15.setTop (mkF m 190 #[.val (.int p1), .val (.int p2), .val (.int p3), .val (.ref b4), .val (.ref b6), .val (.ref b4), .val (.ref b6), .val (.int (p1 &&& (3 : Int32))), .val (.ref uC), .val (.int (1 : Int32)), .val (.ref uC), .val (.int (1 : Int32)), .val .null] [(.int (1 : Int32))])) _
    refine XS.ifNo X15.here hx rfl (hb hby at_190) rfl ((if0 _ _).trans (feq hc190).1) ?_
    show Steps _ _ _ (T15.setTop (mkF m 193 #[.val (.int p1), .val (.int p2), .val (.int p3), .val (.ref b4), .val (.ref b6), .val (.ref b4), .val (.ref b6), .val (.int (p1 &&& (3 : Int32))), .val (.ref uC), .val (.int (1 : Int32)), .val (.ref uC), .val (.int (1 : Int32)), .val .null] [])) _
    refine XS.aload X15.here hx rfl (hb hby at_193) rfl rfl ?_
    show Steps _ _ _ (T15.setTop (mkF m 195 #[.val (.int p1), .val (.int p2), .val (.int p3), .val (.ref b4), .val (.ref b6), .val (.ref b4), .val (.ref b6), .val (.int (p1 &&& (3 : Int32))), .val (.ref uC), .val (.int (1 : Int32)), .val (.ref uC), .val (.int (1 : Int32)), .val .null] [(.ref uC)])) _
    refine XS.aload X15.here hx rfl (hb hby at_195) rfl rfl ?_
    show Steps _ _ _ (T15.setTop (mkF m 197 #[.val (.int p1), .val (.int p2), .val (.int p3), .val (.ref b4), .val (.ref b6), .val (.ref b4), .val (.ref b6), .val (.int (p1 &&& (3 : Int32))), .val (.ref uC), .val (.int (1 : Int32)), .val (.ref uC), .val (.int (1 : Int32)), .val .null] [(.ref uC), (.ref uC)])) _
    refine Jvm.RoadKit.acmp (g := (mkF m 197 #[.val (.int p1), .val (.int p2), .val (.int p3), .val (.ref b4), .val (.ref b6), .val (.ref b4), .val (.ref b6), .val (.int (p1 &&& (3 : Int32))), .val (.ref uC), .val (.int (1 : Int32)), .val (.ref uC), .val (.int (1 : Int32)), .val .null] [(.ref uC), (.ref uC)])) X15 hx rfl rfl rfl (pc0 := 197) (pc' := 200) (same := true) rfl (hb hby at_197) rfl (decide_eq_true rfl) (by decide) (by decide) ?_
    show Steps _ _ _ (T15.setTop (mkF m 200 #[.val (.int p1), .val (.int p2), .val (.int p3), .val (.ref b4), .val (.ref b6), .val (.ref b4), .val (.ref b6), .val (.int (p1 &&& (3 : Int32))), .val (.ref uC), .val (.int (1 : Int32)), .val (.ref uC), .val (.int (1 : Int32)), .val .null] [])) _
    refine XS.iload X15.here hx rfl (hb hby at_200) rfl ?_
    show Steps _ _ _ (T15.setTop (mkF m 202 #[.val (.int p1), .val (.int p2), .val (.int p3), .val (.ref b4), .val (.ref b6), .val (.ref b4), .val (.ref b6), .val (.int (p1 &&& (3 : Int32))), .val (.ref uC), .val (.int (1 : Int32)), .val (.ref uC), .val (.int (1 : Int32)), .val .null] [(.int (1 : Int32))])) _
    refine XS.ifNo X15.here hx rfl (hb hby at_202) rfl ((if0 _ _).trans (feq hc202).1) ?_
    show Steps _ _ _ (T15.setTop (mkF m 205 #[.val (.int p1), .val (.int p2), .val (.int p3), .val (.ref b4), .val (.ref b6), .val (.ref b4), .val (.ref b6), .val (.int (p1 &&& (3 : Int32))), .val (.ref uC), .val (.int (1 : Int32)), .val (.ref uC), .val (.int (1 : Int32)), .val .null] [])) _
    refine XS.aload X15.here hx rfl (hb hby at_205) rfl rfl ?_
    show Steps _ _ _ (T15.setTop (mkF m 207 #[.val (.int p1), .val (.int p2), .val (.int p3), .val (.ref b4), .val (.ref b6), .val (.ref b4), .val (.ref b6), .val (.int (p1 &&& (3 : Int32))), .val (.ref uC), .val (.int (1 : Int32)), .val (.ref uC), .val (.int (1 : Int32)), .val .null] [.null])) _
    refine XS.ifnonnullNo X15.here hx rfl (hb hby at_207) rfl ?_
    show Steps _ _ _ (T15.setTop (mkF m 210 #[.val (.int p1), .val (.int p2), .val (.int p3), .val (.ref b4), .val (.ref b6), .val (.ref b4), .val (.ref b6), .val (.int (p1 &&& (3 : Int32))), .val (.ref uC), .val (.int (1 : Int32)), .val (.ref uC), .val (.int (1 : Int32)), .val .null] [])) _
    refine XS.iconst X15.here hx rfl (hb hby at_210) ?_
    show Steps _ _ _ (T15.setTop (mkF m 211 #[.val (.int p1), .val (.int p2), .val (.int p3), .val (.ref b4), .val (.ref b6), .val (.ref b4), .val (.ref b6), .val (.int (p1 &&& (3 : Int32))), .val (.ref uC), .val (.int (1 : Int32)), .val (.ref uC), .val (.int (1 : Int32)), .val .null] [(.int (1 : Int32))])) _
    refine XS.goto X15.here hx rfl (pc0 := 211) (pc' := 215) rfl (hb hby at_211) (by decide) (by decide) ?_
    show Steps _ _ _ (T15.setTop (mkF m 215 #[.val (.int p1), .val (.int p2), .val (.int p3), .val (.ref b4), .val (.ref b6), .val (.ref b4), .val (.ref b6), .val (.int (p1 &&& (3 : Int32))), .val (.ref uC), .val (.int (1 : Int32)), .val (.ref uC), .val (.int (1 : Int32)), .val .null] [(.int (1 : Int32))])) _
    exact retN X15 hx (t := .boolean) Bd.returns (by simp) (hb hby at_215) hr
  · show Q0 Z p1 p2 p3 uB uC h0 n0 _ T15.heap _
    exact ⟨rfl, N15⟩
-- 2. THE CONTRACT: what this body leaves is yours
-- its room: frames: the greatest, locals: the greatest, cells 4 + .., slots 32 + ..: rm1: frames + 1; locals 1 + 3 + 11 + its room's locals; its cells and slots besides; rm5: frames + 1; locals 1 + 2 + 11 + its room's locals; its cells and slots besides; rm9: frames + 1; locals 0 + 2 + 11 + its room's locals; its cells and slots besides; rm9: frames + 1; locals 0 + 2 + 11 + its room's locals; its cells and slots besides; rm7: frames + 1; locals 0 + 1 + 11 + its room's locals; its cells and slots besides; rm8: frames + 1; locals 0 + 2 + 11 + its room's locals; its cells and slots besides; rm7: frames + 1; locals 0 + 1 + 11 + its room's locals; its cells and slots besides; rm7: frames + 1; locals 0 + 1 + 11 + its room's locals; its cells and slots besides; rm8: frames + 1; locals 0 + 2 + 11 + its room's locals; its cells and slots besides
set_option maxRecDepth 65536 in
set_option maxHeartbeats 40000000 in
theorem rm0_tf3 (l : Launch) (Z : State) (a0 : Array Value) (hw : ∀ d ∈ tables_1, d.before a0 Z = true) (ws : List Jvm.Cond) (p1 : Int32) (p2 : Int32) (p3 : Int32) (uB : Addr) (uC : Addr) (h0 : Heap) (n0 : Nat) (Z0 : n0 ≤ h0.size) (S_BREAK : Sta Z h0 "com/example/transom/transom/Scope$Jump" "BREAK" "Lcom/example/transom/transom/Scope$Jump;" (.ref uB)) (S_CONTINUE : Sta Z h0 "com/example/transom/transom/Scope$Jump" "CONTINUE" "Lcom/example/transom/transom/Scope$Jump;" (.ref uC)) (hc23 : (p2 &&& (1 : Int32)) = (0 : Int32)) (hc37 : ¬ ((p3 &&& (1 : Int32)) = (0 : Int32))) (hc59 : ¬ ((p1 &&& (3 : Int32)) = (1 : Int32))) (hc81 : ¬ ((p1 &&& (3 : Int32)) = (2 : Int32))) (hc103 : (p1 &&& (3 : Int32)) = (3 : Int32)) (hc190 : ¬ ((1 : Int32) = (0 : Int32))) (hc202 : ¬ ((1 : Int32) = (0 : Int32))) :
    MetFree l x (head1 (Jvm.Cond.code x code maxLocals ret :: ws) room_1) (fun a U => a = #[(.int p1), (.int p2), (.int p3)] ∧ Z.Warmed39 U.vm ∧ U.heap = h0) (fun _ _ _ _ _ => True) (fun _ U o U' => ∃ v L, o = .returned v ∧ Q0 Z p1 p2 p3 uB uC h0 n0 v U'.heap L ∧ FrameEnd U o U' L room_1.cells room_1.slots) := by
  refine MetFree.of_bodySF (plainFor_of_name pn_0) hisR ?_
  intro p e s m args below meth c s₁ Bd hml0 hP hK
  obtain ⟨rfl, hZ, hh⟩ := hP
  have hx := Bd.exec
  have hby := Bd.bytes
  have hml : c.maxLocals = 13 := hml0
  have hown : s.vm.findClass "com/example/transom/transom/ScopeLandPinLaw" = some m.cls := findClass_of_methodNamed Bd.named
  have hnm := (name_of_methodNamed Bd.named Bd.method).1
  have X0 : Stand p l e room_1 s m #[(.int p1), (.int p2), (.int p3)] below meth c s₁ [] 0 0 := Stand.of_body Bd
  have e0 : s₁.heap = h0 := by rw [← hh, Bd.state]; rfl
  have N0 := Fr.nil n0
  have pre0 : ∀ t, Steps p.tables e below (s₁.setTop (mkF m 0 #[.val (.int p1), .val (.int p2), .val (.int p3), .unset, .unset, .unset, .unset, .unset, .unset, .unset, .unset, .unset, .unset] [])) t → Steps p.tables e below (s₁.setTop (entryFrame m #[(.int p1), (.int p2), (.int p3)] maxLocals)) t := fun t k => castTop (ef_0 m p1 p2 p3) k
  obtain ⟨T4, h4, X4, e4, E4, A4, D4, -, st4⟩ := newO X0 hx hZ hown (ww hw 0 rfl) (ww hw 1 rfl) (ww hw 2 rfl) e0 (g := (mkF m 0 #[.val (.int p1), .val (.int p2), .val (.int p3), .unset, .unset, .unset, .unset, .unset, .unset, .unset, .unset, .unset, .unset] [])) rfl (hb hby at_0) (by decide) (by decide)
  obtain ⟨b4, g4⟩ : ∃ z, z = h0.size := ⟨_, rfl⟩
  rw [← g4] at A4 D4 st4
  have F_values_b4 : Fld Z h4 b4 "com/example/transom/transom/Scope" "values" "Ljava/util/Map;" .null := D4 (Or.inr (ww hw 26 rfl)) (ty := (.object "java/util/Map")) (by decide)
  have F_parent_b4 : Fld Z h4 b4 "com/example/transom/transom/Scope" "parent" "Lcom/example/transom/transom/Scope;" .null := D4 (Or.inr (ww hw 28 rfl)) (ty := (.object "com/example/transom/transom/Scope")) (by decide)
  have F_top_b4 : Fld Z h4 b4 "com/example/transom/transom/Scope" "top" "Lcom/example/transom/transom/Scope;" .null := D4 (Or.inr (ww hw 30 rfl)) (ty := (.object "com/example/transom/transom/Scope")) (by decide)
  have F_model_b4 : Fld Z h4 b4 "com/example/transom/transom/Scope" "model" "Ljava/util/Map;" .null := D4 (Or.inr (ww hw 32 rfl)) (ty := (.object "java/util/Map")) (by decide)
  have F_template_b4 : Fld Z h4 b4 "com/example/transom/transom/Scope" "template" "Lcom/example/transom/transom/Template;" .null := D4 (Or.inr (ww hw 34 rfl)) (ty := (.object "com/example/transom/transom/Template")) (by decide)
  have F_renderer_b4 : Fld Z h4 b4 "com/example/transom/transom/Scope" "renderer" "Lcom/example/transom/transom/Scope;" .null := D4 (Or.inr (ww hw 36 rfl)) (ty := (.object "com/example/transom/transom/Scope")) (by decide)
  have F_calls_b4 : Fld Z h4 b4 "com/example/transom/transom/Scope" "calls" "I" (.int (0 : Int32)) := D4 (Or.inr (ww hw 38 rfl)) (ty := .int) (by decide)
  have F_jump_b4 : Fld Z h4 b4 "com/example/transom/transom/Scope" "jump" "Lcom/example/transom/transom/Scope$Jump;" .null := D4 (Or.inl (ww hw 51 rfl)) (ty := (.object "com/example/transom/transom/Scope$Jump")) (by decide)
  have E_b4 := A4
  have g_b4 : n0 ≤ b4 := Nat.le_trans Z0 (Nat.le_of_eq g4.symm)
  have sz_b4 : h0.size ≤ b4 := (Nat.le_trans (Keep.refl h0 []).1 (Nat.le_of_eq g4.symm))
  have K4 : Keep h0 h4 [] := (Keep.refl h0 []).ext E4
  obtain ⟨_, _, ⟨T5, L5, k5, n5⟩, -, X5, ⟨Lc5, hQ5, l5, y5, z5⟩, st5⟩ := X4.specialBack hx (y := (⟨"com/example/transom/transom/Scope", "<init>", "(Ljava/util/Map;Lcom/example/transom/transom/Template;)V"⟩ : MethodName)) rfl hown (mvT hZ (ww hw 3 rfl)) (mvT hZ (ww hw 4 rfl)) (mvT hZ (ww hw 5 rfl)) (by decide) (backOf (W := 1) (rm1 l Z a0 hw [] b4 _ _ _ _ _ _ _  h4 n0 (Nat.le_trans Z0 E4.1) F_jump_b4 E_b4 F_values_b4 g_b4 F_parent_b4 F_top_b4 F_model_b4 F_template_b4 F_renderer_b4 F_calls_b4) hZ (ww hw 5 rfl) (ww hw 2 rfl) (by decide) (by decide)) (g := (mkF m 6 #[.val (.int p1), .val (.int p2), .val (.int p3), .unset, .unset, .unset, .unset, .unset, .unset, .unset, .unset, .unset, .unset] [.null, .null, (.ref b4), (.ref b4)])) rfl (by rw [hml]; rfl) (Steps.refl _) (a := b4) (argsL := [.null, .null]) (rest := [(.ref b4)]) (lenOf pd_0_0 rfl) rfl (by show 2 * 0 + _ ≤ _; exact Nat.le_of_eq rfl) (hb hby at_6) (fun _ _ => ⟨rfl, e4, (by decide : 1 + 1 ≤ _), (by decide : 8 + 8 ≤ _)⟩)
  dsimp only [Pt.U, Pt.locs, Pt.cells, Pt.slots] at X5 l5 y5 z5 st5 hQ5
  subst l5 y5 z5
  obtain ⟨rfl, N5q, Kc5, Ec5, Ftop5, Fmodel5, Ftemplate5, Frenderer5, Fcalls5, Fjump5⟩ := hQ5
  have N5 := Fr.app N0 N5q
  have S_BREAK_5 := own_stak (S_BREAK.ext E4) Kc5 (allS (own_nst E_b4) all0)
  have S_CONTINUE_5 := own_stak (S_CONTINUE.ext E4) Kc5 (allS (own_nst E_b4) all0)
  have K5 : Keep h0 T5.heap [] := K4.trans Kc5 (allS (Or.inr sz_b4) all0)
  obtain ⟨T6, h6, X6, e6, E6, A6, D6, -, st6⟩ := newO X5 hx hZ hown (ww hw 0 rfl) (ww hw 1 rfl) (ww hw 2 rfl) rfl (g := (mkF m 10 #[.val (.int p1), .val (.int p2), .val (.int p3), .val (.ref b4), .unset, .unset, .unset, .unset, .unset, .unset, .unset, .unset, .unset] [])) rfl (hb hby at_10) (by decide) (by decide)
  obtain ⟨b6, g6⟩ : ∃ z, z = T5.heap.size := ⟨_, rfl⟩
  rw [← g6] at A6 D6 st6
  have F_values_b6 : Fld Z h6 b6 "com/example/transom/transom/Scope" "values" "Ljava/util/Map;" .null := D6 (Or.inr (ww hw 26 rfl)) (ty := (.object "java/util/Map")) (by decide)
  have F_parent_b6 : Fld Z h6 b6 "com/example/transom/transom/Scope" "parent" "Lcom/example/transom/transom/Scope;" .null := D6 (Or.inr (ww hw 28 rfl)) (ty := (.object "com/example/transom/transom/Scope")) (by decide)
  have F_top_b6 : Fld Z h6 b6 "com/example/transom/transom/Scope" "top" "Lcom/example/transom/transom/Scope;" .null := D6 (Or.inr (ww hw 30 rfl)) (ty := (.object "com/example/transom/transom/Scope")) (by decide)
  have F_model_b6 : Fld Z h6 b6 "com/example/transom/transom/Scope" "model" "Ljava/util/Map;" .null := D6 (Or.inr (ww hw 32 rfl)) (ty := (.object "java/util/Map")) (by decide)
  have F_template_b6 : Fld Z h6 b6 "com/example/transom/transom/Scope" "template" "Lcom/example/transom/transom/Template;" .null := D6 (Or.inr (ww hw 34 rfl)) (ty := (.object "com/example/transom/transom/Template")) (by decide)
  have F_renderer_b6 : Fld Z h6 b6 "com/example/transom/transom/Scope" "renderer" "Lcom/example/transom/transom/Scope;" .null := D6 (Or.inr (ww hw 36 rfl)) (ty := (.object "com/example/transom/transom/Scope")) (by decide)
  have F_calls_b6 : Fld Z h6 b6 "com/example/transom/transom/Scope" "calls" "I" (.int (0 : Int32)) := D6 (Or.inr (ww hw 38 rfl)) (ty := .int) (by decide)
  have F_jump_b6 : Fld Z h6 b6 "com/example/transom/transom/Scope" "jump" "Lcom/example/transom/transom/Scope$Jump;" .null := D6 (Or.inl (ww hw 51 rfl)) (ty := (.object "com/example/transom/transom/Scope$Jump")) (by decide)
  have E_b6 := A6
  have g_b6 : n0 ≤ b6 := Nat.le_trans (Nat.le_trans (Nat.le_trans Z0 E4.1) Kc5.1) (Nat.le_of_eq g6.symm)
  have sz_b6 : h0.size ≤ b6 := (Nat.le_trans K5.1 (Nat.le_of_eq g6.symm))
  have K6 : Keep h0 h6 [] := K5.ext E6
  obtain ⟨_, _, ⟨T7, L7, k7, n7⟩, -, X7, ⟨Lc7, hQ7, l7, y7, z7⟩, st7⟩ := X6.specialBack hx (y := (⟨"com/example/transom/transom/Scope", "<init>", "(Lcom/example/transom/transom/Scope;)V"⟩ : MethodName)) rfl hown (mvT hZ (ww hw 39 rfl)) (mvT hZ (ww hw 40 rfl)) (mvT hZ (ww hw 41 rfl)) (by decide) (backOf (W := 1) (rm5 l Z a0 hw [] b6 b4 b4 (0 : Int32) h6 n0 (Nat.le_trans (Nat.le_trans (Nat.le_trans Z0 E4.1) Kc5.1) E6.1) (Nat.ne_of_lt (Nat.lt_of_lt_of_le (E_b4.keep Kc5).lt (Nat.le_of_eq g6.symm))) E_b6 F_values_b6 F_parent_b6 F_top_b6 F_model_b6 F_template_b6 F_renderer_b6 F_calls_b6 g_b6 (Ftop5.ext E6) (Fmodel5.ext E6) (Ftemplate5.ext E6) (Frenderer5.ext E6) (Fcalls5.ext E6)) hZ (ww hw 41 rfl) (ww hw 2 rfl) (by decide) (by decide)) (g := (mkF m 15 #[.val (.int p1), .val (.int p2), .val (.int p3), .val (.ref b4), .unset, .unset, .unset, .unset, .unset, .unset, .unset, .unset, .unset] [(.ref b4), (.ref b6), (.ref b6)])) rfl (by rw [hml]; rfl) (Steps.refl _) (a := b6) (argsL := [(.ref b4)]) (rest := [(.ref b6)]) (lenOf pd_0_2 rfl) rfl (by show 2 * 0 + _ ≤ _; exact Nat.le_of_eq rfl) (hb hby at_15) (fun _ _ => ⟨rfl, e6, (by decide : 3 + 1 ≤ _), (by decide : 24 + 8 ≤ _)⟩)
  dsimp only [Pt.U, Pt.locs, Pt.cells, Pt.slots] at X7 l7 y7 z7 st7 hQ7
  subst l7 y7 z7
  obtain ⟨rfl, N7q, Kc7, Ec7, Ft7⟩ := hQ7
  have N7 := Fr.app N5 N7q
  have S_BREAK_7 := own_stak (S_BREAK_5.ext E6) Kc7 (allS (own_nst E_b6) all0)
  have S_CONTINUE_7 := own_stak (S_CONTINUE_5.ext E6) Kc7 (allS (own_nst E_b6) all0)
  have K7 : Keep h0 T7.heap [] := K6.trans Kc7 (allS (Or.inr sz_b6) all0)
  obtain ⟨T8, X8, e8, st8⟩ := getS2 X7 hx hZ hown (host := "") (Or.inl (ww hw 57 rfl)) Via.refl rfl S_BREAK_7 (g := (mkF m 108 #[.val (.int p1), .val (.int p2), .val (.int p3), .val (.ref b4), .val (.ref b6), .val (.ref b4), .val (.ref b6), .val (.int (p1 &&& (3 : Int32))), .val .null, .unset, .unset, .unset, .unset] [(.ref b4)])) rfl (hb hby at_108)
  obtain ⟨cq9, kq9, q9a, q9b, q9c⟩ := isOf hZ e8 (((E_b4.keep Kc5).ext E6).keep Kc7)
  obtain ⟨_, _, ⟨T9, L9, k9, n9⟩, -, X9, ⟨Lc9, hQ9, l9, y9, z9⟩, st9⟩ := X8.virtualBack hx (y := (⟨"com/example/transom/transom/Scope", "jump", "(Lcom/example/transom/transom/Scope$Jump;)V"⟩ : MethodName)) (z := (⟨"com/example/transom/transom/Scope", "jump", "(Lcom/example/transom/transom/Scope$Jump;)V"⟩ : MethodName)) hown (mvT hZ (ww hw 60 rfl)) (mvT hZ (ww hw 61 rfl)) (notFace_of_selects (args := #[]) (mvT hZ (ww hw 63 rfl))) (mvT hZ (ww hw 63 rfl)) (mvT hZ (ww hw 62 rfl)) (by decide) (backOf (W := 0) (rmS l Z a0 hw [] b4 uB b4 _ T7.heap n0 (Nat.le_trans (Nat.le_trans (Nat.le_trans (Nat.le_trans Z0 E4.1) Kc5.1) E6.1) Kc7.1) ((Ftop5.ext E6).keep Kc7 (ninS (Nat.ne_of_lt (Nat.lt_of_lt_of_le (E_b4.keep Kc5).lt (Nat.le_of_eq g6.symm))) nin0)) ((Ftop5.ext E6).keep Kc7 (ninS (Nat.ne_of_lt (Nat.lt_of_lt_of_le (E_b4.keep Kc5).lt (Nat.le_of_eq g6.symm))) nin0)) (((E_b4.keep Kc5).ext E6).keep Kc7) ((Fjump5.ext E6).keep Kc7 (ninS (Nat.ne_of_lt (Nat.lt_of_lt_of_le (E_b4.keep Kc5).lt (Nat.le_of_eq g6.symm))) nin0)) g_b4) hZ (ww hw 64 rfl) (ww hw 2 rfl) (by decide) (by decide)) q9a q9c (g := (mkF m 111 #[.val (.int p1), .val (.int p2), .val (.int p3), .val (.ref b4), .val (.ref b6), .val (.ref b4), .val (.ref b6), .val (.int (p1 &&& (3 : Int32))), .val .null, .unset, .unset, .unset, .unset] [(.ref uB), (.ref b4)])) rfl (by rw [hml]; rfl) (Steps.refl _) (argsL := [(.ref uB)]) (rest := []) (lenOf pd_0_6 rfl) rfl (by show 2 * 0 + _ ≤ _; exact Nat.le_of_eq rfl) (hb hby at_111) (fun _ _ => ⟨rfl, e8, (by decide : 4 + 0 ≤ _), (by decide : 32 + 0 ≤ _)⟩)
  dsimp only [Pt.U, Pt.locs, Pt.cells, Pt.slots] at X9 l9 y9 z9 st9 hQ9
  subst l9 y9 z9
  obtain ⟨rfl, N9q, Kc9, Fj9, Ft9⟩ := hQ9
  have N9 := Fr.app N7 N9q
  have S_BREAK_9 := own_stak S_BREAK_7 Kc9 (allS (own_nst (((E_b4.keep Kc5).ext E6).keep Kc7)) all0)
  have S_CONTINUE_9 := own_stak S_CONTINUE_7 Kc9 (allS (own_nst (((E_b4.keep Kc5).ext E6).keep Kc7)) all0)
  have K9 : Keep h0 T9.heap [] := K7.trans Kc9 (allS (Or.inr sz_b4) all0)
  obtain ⟨T10, X10, e10, st10⟩ := getS2 X9 hx hZ hown (host := "") (Or.inl (ww hw 65 rfl)) Via.refl rfl S_CONTINUE_9 (g := (mkF m 116 #[.val (.int p1), .val (.int p2), .val (.int p3), .val (.ref b4), .val (.ref b6), .val (.ref b4), .val (.ref b6), .val (.int (p1 &&& (3 : Int32))), .val .null, .unset, .unset, .unset, .unset] [(.ref b4)])) rfl (hb hby at_116)
  obtain ⟨cq11, kq11, q11a, q11b, q11c⟩ := isOf hZ e10 ((((E_b4.keep Kc5).ext E6).keep Kc7).keep Kc9)
  obtain ⟨_, _, ⟨T11, L11, k11, n11⟩, -, X11, ⟨Lc11, hQ11, l11, y11, z11⟩, st11⟩ := X10.virtualBack hx (y := (⟨"com/example/transom/transom/Scope", "jump", "(Lcom/example/transom/transom/Scope$Jump;)V"⟩ : MethodName)) (z := (⟨"com/example/transom/transom/Scope", "jump", "(Lcom/example/transom/transom/Scope$Jump;)V"⟩ : MethodName)) hown (mvT hZ (ww hw 60 rfl)) (mvT hZ (ww hw 61 rfl)) (notFace_of_selects (args := #[]) (mvT hZ (ww hw 63 rfl))) (mvT hZ (ww hw 63 rfl)) (mvT hZ (ww hw 62 rfl)) (by decide) (backOf (W := 0) (rmS l Z a0 hw [] b4 uC b4 _ T9.heap n0 (Nat.le_trans (Nat.le_trans (Nat.le_trans (Nat.le_trans (Nat.le_trans Z0 E4.1) Kc5.1) E6.1) Kc7.1) Kc9.1) Ft9 Ft9 ((((E_b4.keep Kc5).ext E6).keep Kc7).keep Kc9) Fj9 g_b4) hZ (ww hw 64 rfl) (ww hw 2 rfl) (by decide) (by decide)) q11a q11c (g := (mkF m 119 #[.val (.int p1), .val (.int p2), .val (.int p3), .val (.ref b4), .val (.ref b6), .val (.ref b4), .val (.ref b6), .val (.int (p1 &&& (3 : Int32))), .val .null, .unset, .unset, .unset, .unset] [(.ref uC), (.ref b4)])) rfl (by rw [hml]; rfl) (Steps.refl _) (argsL := [(.ref uC)]) (rest := []) (lenOf pd_0_6 rfl) rfl (by show 2 * 0 + _ ≤ _; exact Nat.le_of_eq rfl) (hb hby at_119) (fun _ _ => ⟨rfl, e10, (by decide : 4 + 0 ≤ _), (by decide : 32 + 0 ≤ _)⟩)
  dsimp only [Pt.U, Pt.locs, Pt.cells, Pt.slots] at X11 l11 y11 z11 st11 hQ11
  subst l11 y11 z11
  obtain ⟨rfl, N11q, Kc11, Fj11, Ft11⟩ := hQ11
  have N11 := Fr.app N9 N11q
  have S_BREAK_11 := own_stak S_BREAK_9 Kc11 (allS (own_nst ((((E_b4.keep Kc5).ext E6).keep Kc7).keep Kc9)) all0)
  have S_CONTINUE_11 := own_stak S_CONTINUE_9 Kc11 (allS (own_nst ((((E_b4.keep Kc5).ext E6).keep Kc7).keep Kc9)) all0)
  have K11 : Keep h0 T11.heap [] := K9.trans Kc11 (allS (Or.inr sz_b4) all0)
  obtain ⟨T12, X12, e12, st12⟩ := getS2 X11 hx hZ hown (host := "") (Or.inl (ww hw 65 rfl)) Via.refl rfl S_CONTINUE_11 (g := (mkF m 122 #[.val (.int p1), .val (.int p2), .val (.int p3), .val (.ref b4), .val (.ref b6), .val (.ref b4), .val (.ref b6), .val (.int (p1 &&& (3 : Int32))), .val .null, .unset, .unset, .unset, .unset] [])) rfl (hb hby at_122)
  obtain ⟨cq13, kq13, q13a, q13b, q13c⟩ := isOf hZ e12 (((E_b6.keep Kc7).keep Kc9).keep Kc11)
  obtain ⟨_, _, ⟨T13, L13, k13, n13⟩, -, X13, ⟨Lc13, hQ13, l13, y13, z13⟩, st13⟩ := X12.virtualBack hx (y := (⟨"com/example/transom/transom/Scope", "jumping", "()Z"⟩ : MethodName)) (z := (⟨"com/example/transom/transom/Scope", "jumping", "()Z"⟩ : MethodName)) hown (mvT hZ (ww hw 45 rfl)) (mvT hZ (ww hw 46 rfl)) (notFace_of_selects (args := #[]) (mvT hZ (ww hw 48 rfl))) (mvT hZ (ww hw 48 rfl)) (mvT hZ (ww hw 47 rfl)) (by decide) (backOf (W := 0) (rmJr l Z a0 hw [] b6 b4 uC T11.heap n0 (Nat.le_trans (Nat.le_trans (Nat.le_trans (Nat.le_trans (Nat.le_trans (Nat.le_trans Z0 E4.1) Kc5.1) E6.1) Kc7.1) Kc9.1) Kc11.1) ((Ft7.keep Kc9 (ninS (Ne.symm (Nat.ne_of_lt (Nat.lt_of_lt_of_le (E_b4.keep Kc5).lt (Nat.le_of_eq g6.symm)))) nin0)).keep Kc11 (ninS (Ne.symm (Nat.ne_of_lt (Nat.lt_of_lt_of_le (E_b4.keep Kc5).lt (Nat.le_of_eq g6.symm)))) nin0)) Fj11) hZ (ww hw 49 rfl) (ww hw 2 rfl) (by decide) (by decide)) q13a q13c (g := (mkF m 129 #[.val (.int p1), .val (.int p2), .val (.int p3), .val (.ref b4), .val (.ref b6), .val (.ref b4), .val (.ref b6), .val (.int (p1 &&& (3 : Int32))), .val (.ref uC), .unset, .unset, .unset, .unset] [(.ref b6)])) rfl (by rw [hml]; rfl) (Steps.refl _) (argsL := []) (rest := []) (lenOf pd_0_4 rfl) rfl (by show 2 * 0 + _ ≤ _; exact Nat.le_of_eq rfl) (hb hby at_129) (fun _ _ => ⟨rfl, e12, (by decide : 4 + 0 ≤ _), (by decide : 32 + 0 ≤ _)⟩)
  dsimp only [Pt.U, Pt.locs, Pt.cells, Pt.slots] at X13 l13 y13 z13 st13 hQ13
  subst l13 y13 z13
  obtain ⟨rfl, N13q, eh13⟩ := hQ13
  have N13 := Fr.app N11 N13q
  obtain ⟨cq14, kq14, q14a, q14b, q14c⟩ := isOf hZ eh13 (((E_b6.keep Kc7).keep Kc9).keep Kc11)
  obtain ⟨_, _, ⟨T14, L14, k14, n14⟩, -, X14, ⟨Lc14, hQ14, l14, y14, z14⟩, st14⟩ := X13.virtualBack hx (y := (⟨"com/example/transom/transom/Scope", "land", "()Lcom/example/transom/transom/Scope$Jump;"⟩ : MethodName)) (z := (⟨"com/example/transom/transom/Scope", "land", "()Lcom/example/transom/transom/Scope$Jump;"⟩ : MethodName)) hown (mvT hZ (ww hw 52 rfl)) (mvT hZ (ww hw 53 rfl)) (notFace_of_selects (args := #[]) (mvT hZ (ww hw 55 rfl))) (mvT hZ (ww hw 55 rfl)) (mvT hZ (ww hw 54 rfl)) (by decide) (backOf (W := 0) (rmLr l Z a0 hw [] b6 b4 uC T11.heap n0 (Nat.le_trans (Nat.le_trans (Nat.le_trans (Nat.le_trans (Nat.le_trans (Nat.le_trans Z0 E4.1) Kc5.1) E6.1) Kc7.1) Kc9.1) Kc11.1) Ft11 ((Ft7.keep Kc9 (ninS (Ne.symm (Nat.ne_of_lt (Nat.lt_of_lt_of_le (E_b4.keep Kc5).lt (Nat.le_of_eq g6.symm)))) nin0)).keep Kc11 (ninS (Ne.symm (Nat.ne_of_lt (Nat.lt_of_lt_of_le (E_b4.keep Kc5).lt (Nat.le_of_eq g6.symm)))) nin0)) Fj11 (((((E_b4.keep Kc5).ext E6).keep Kc7).keep Kc9).keep Kc11) g_b4) hZ (ww hw 56 rfl) (ww hw 2 rfl) (by decide) (by decide)) q14a q14c (g := (mkF m 154 #[.val (.int p1), .val (.int p2), .val (.int p3), .val (.ref b4), .val (.ref b6), .val (.ref b4), .val (.ref b6), .val (.int (p1 &&& (3 : Int32))), .val (.ref uC), .val (.int (1 : Int32)), .unset, .unset, .unset] [(.ref b6)])) rfl (by rw [hml]; rfl) (Steps.refl _) (argsL := []) (rest := []) (lenOf pd_0_5 rfl) rfl (by show 2 * 0 + _ ≤ _; exact Nat.le_of_eq rfl) (hb hby at_154) (fun _ _ => ⟨rfl, eh13, (by decide : 4 + 0 ≤ _), (by decide : 32 + 0 ≤ _)⟩)
  dsimp only [Pt.U, Pt.locs, Pt.cells, Pt.slots] at X14 l14 y14 z14 st14 hQ14
  subst l14 y14 z14
  obtain ⟨rfl, N14q, Kc14, Fj14, Ft14⟩ := hQ14
  have N14 := Fr.app N13 N14q
  have S_BREAK_14 := own_stak S_BREAK_11 Kc14 (allS (own_nst (((((E_b4.keep Kc5).ext E6).keep Kc7).keep Kc9).keep Kc11)) all0)
  have S_CONTINUE_14 := own_stak S_CONTINUE_11 Kc14 (allS (own_nst (((((E_b4.keep Kc5).ext E6).keep Kc7).keep Kc9).keep Kc11)) all0)
  have K14 : Keep h0 T14.heap [] := K11.trans Kc14 (allS (Or.inr sz_b4) all0)
  obtain ⟨cq15, kq15, q15a, q15b, q15c⟩ := isOf hZ rfl ((((((E_b4.keep Kc5).ext E6).keep Kc7).keep Kc9).keep Kc11).keep Kc14)
  obtain ⟨_, _, ⟨T15, L15, k15, n15⟩, -, X15, ⟨Lc15, hQ15, l15, y15, z15⟩, st15⟩ := X14.virtualBack hx (y := (⟨"com/example/transom/transom/Scope", "jumping", "()Z"⟩ : MethodName)) (z := (⟨"com/example/transom/transom/Scope", "jumping", "()Z"⟩ : MethodName)) hown (mvT hZ (ww hw 45 rfl)) (mvT hZ (ww hw 46 rfl)) (notFace_of_selects (args := #[]) (mvT hZ (ww hw 48 rfl))) (mvT hZ (ww hw 48 rfl)) (mvT hZ (ww hw 47 rfl)) (by decide) (backOf (W := 0) (rmJn l Z a0 hw [] b4 b4 T14.heap n0 (Nat.le_trans (Nat.le_trans (Nat.le_trans (Nat.le_trans (Nat.le_trans (Nat.le_trans (Nat.le_trans Z0 E4.1) Kc5.1) E6.1) Kc7.1) Kc9.1) Kc11.1) Kc14.1) Ft14 Fj14) hZ (ww hw 49 rfl) (ww hw 2 rfl) (by decide) (by decide)) q15a q15c (g := (mkF m 160 #[.val (.int p1), .val (.int p2), .val (.int p3), .val (.ref b4), .val (.ref b6), .val (.ref b4), .val (.ref b6), .val (.int (p1 &&& (3 : Int32))), .val (.ref uC), .val (.int (1 : Int32)), .val (.ref uC), .unset, .unset] [(.ref b4)])) rfl (by rw [hml]; rfl) (Steps.refl _) (argsL := []) (rest := []) (lenOf pd_0_4 rfl) rfl (by show 2 * 0 + _ ≤ _; exact Nat.le_of_eq rfl) (hb hby at_160) (fun _ _ => ⟨rfl, rfl, (by decide : 4 + 0 ≤ _), (by decide : 32 + 0 ≤ _)⟩)
  dsimp only [Pt.U, Pt.locs, Pt.cells, Pt.slots] at X15 l15 y15 z15 st15 hQ15
  subst l15 y15 z15
  obtain ⟨rfl, N15q, eh15⟩ := hQ15
  have N15 := Fr.app N14 N15q
  obtain ⟨cq16, kq16, q16a, q16b, q16c⟩ := isOf hZ eh15 ((((E_b6.keep Kc7).keep Kc9).keep Kc11).keep Kc14)
  obtain ⟨_, _, ⟨T16, L16, k16, n16⟩, -, X16, ⟨Lc16, hQ16, l16, y16, z16⟩, st16⟩ := X15.virtualBack hx (y := (⟨"com/example/transom/transom/Scope", "jumping", "()Z"⟩ : MethodName)) (z := (⟨"com/example/transom/transom/Scope", "jumping", "()Z"⟩ : MethodName)) hown (mvT hZ (ww hw 45 rfl)) (mvT hZ (ww hw 46 rfl)) (notFace_of_selects (args := #[]) (mvT hZ (ww hw 48 rfl))) (mvT hZ (ww hw 48 rfl)) (mvT hZ (ww hw 47 rfl)) (by decide) (backOf (W := 0) (rmJn l Z a0 hw [] b6 b4 T14.heap n0 (Nat.le_trans (Nat.le_trans (Nat.le_trans (Nat.le_trans (Nat.le_trans (Nat.le_trans (Nat.le_trans Z0 E4.1) Kc5.1) E6.1) Kc7.1) Kc9.1) Kc11.1) Kc14.1) (((Ft7.keep Kc9 (ninS (Ne.symm (Nat.ne_of_lt (Nat.lt_of_lt_of_le (E_b4.keep Kc5).lt (Nat.le_of_eq g6.symm)))) nin0)).keep Kc11 (ninS (Ne.symm (Nat.ne_of_lt (Nat.lt_of_lt_of_le (E_b4.keep Kc5).lt (Nat.le_of_eq g6.symm)))) nin0)).keep Kc14 (ninS (Ne.symm (Nat.ne_of_lt (Nat.lt_of_lt_of_le (E_b4.keep Kc5).lt (Nat.le_of_eq g6.symm)))) nin0)) Fj14) hZ (ww hw 49 rfl) (ww hw 2 rfl) (by decide) (by decide)) q16a q16c (g := (mkF m 168 #[.val (.int p1), .val (.int p2), .val (.int p3), .val (.ref b4), .val (.ref b6), .val (.ref b4), .val (.ref b6), .val (.int (p1 &&& (3 : Int32))), .val (.ref uC), .val (.int (1 : Int32)), .val (.ref uC), .unset, .unset] [(.ref b6)])) rfl (by rw [hml]; rfl) (Steps.refl _) (argsL := []) (rest := []) (lenOf pd_0_4 rfl) rfl (by show 2 * 0 + _ ≤ _; exact Nat.le_of_eq rfl) (hb hby at_168) (fun _ _ => ⟨rfl, eh15, (by decide : 4 + 0 ≤ _), (by decide : 32 + 0 ≤ _)⟩)
  dsimp only [Pt.U, Pt.locs, Pt.cells, Pt.slots] at X16 l16 y16 z16 st16 hQ16
  subst l16 y16 z16
  obtain ⟨rfl, N16q, eh16⟩ := hQ16
  have N16 := Fr.app N15 N16q
  obtain ⟨cq17, kq17, q17a, q17b, q17c⟩ := isOf hZ eh16 ((((E_b6.keep Kc7).keep Kc9).keep Kc11).keep Kc14)
  obtain ⟨_, _, ⟨T17, L17, k17, n17⟩, -, X17, ⟨Lc17, hQ17, l17, y17, z17⟩, st17⟩ := X16.virtualBack hx (y := (⟨"com/example/transom/transom/Scope", "land", "()Lcom/example/transom/transom/Scope$Jump;"⟩ : MethodName)) (z := (⟨"com/example/transom/transom/Scope", "land", "()Lcom/example/transom/transom/Scope$Jump;"⟩ : MethodName)) hown (mvT hZ (ww hw 52 rfl)) (mvT hZ (ww hw 53 rfl)) (notFace_of_selects (args := #[]) (mvT hZ (ww hw 55 rfl))) (mvT hZ (ww hw 55 rfl)) (mvT hZ (ww hw 54 rfl)) (by decide) (backOf (W := 0) (rmLn l Z a0 hw [] b6 b4 T14.heap n0 (Nat.le_trans (Nat.le_trans (Nat.le_trans (Nat.le_trans (Nat.le_trans (Nat.le_trans (Nat.le_trans Z0 E4.1) Kc5.1) E6.1) Kc7.1) Kc9.1) Kc11.1) Kc14.1) Ft14 (((Ft7.keep Kc9 (ninS (Ne.symm (Nat.ne_of_lt (Nat.lt_of_lt_of_le (E_b4.keep Kc5).lt (Nat.le_of_eq g6.symm)))) nin0)).keep Kc11 (ninS (Ne.symm (Nat.ne_of_lt (Nat.lt_of_lt_of_le (E_b4.keep Kc5).lt (Nat.le_of_eq g6.symm)))) nin0)).keep Kc14 (ninS (Ne.symm (Nat.ne_of_lt (Nat.lt_of_lt_of_le (E_b4.keep Kc5).lt (Nat.le_of_eq g6.symm)))) nin0)) Fj14 ((((((E_b4.keep Kc5).ext E6).keep Kc7).keep Kc9).keep Kc11).keep Kc14) g_b4) hZ (ww hw 56 rfl) (ww hw 2 rfl) (by decide) (by decide)) q17a q17c (g := (mkF m 183 #[.val (.int p1), .val (.int p2), .val (.int p3), .val (.ref b4), .val (.ref b6), .val (.ref b4), .val (.ref b6), .val (.int (p1 &&& (3 : Int32))), .val (.ref uC), .val (.int (1 : Int32)), .val (.ref uC), .val (.int (1 : Int32)), .unset] [(.ref b6)])) rfl (by rw [hml]; rfl) (Steps.refl _) (argsL := []) (rest := []) (lenOf pd_0_5 rfl) rfl (by show 2 * 0 + _ ≤ _; exact Nat.le_of_eq rfl) (hb hby at_183) (fun _ _ => ⟨rfl, eh16, (by decide : 4 + 0 ≤ _), (by decide : 32 + 0 ≤ _)⟩)
  dsimp only [Pt.U, Pt.locs, Pt.cells, Pt.slots] at X17 l17 y17 z17 st17 hQ17
  subst l17 y17 z17
  obtain ⟨rfl, N17q, Kc17, Fj17, Ft17⟩ := hQ17
  have N17 := Fr.app N16 N17q
  have S_BREAK_17 := own_stak S_BREAK_14 Kc17 (allS (own_nst ((((((E_b4.keep Kc5).ext E6).keep Kc7).keep Kc9).keep Kc11).keep Kc14)) all0)
  have S_CONTINUE_17 := own_stak S_CONTINUE_14 Kc17 (allS (own_nst ((((((E_b4.keep Kc5).ext E6).keep Kc7).keep Kc9).keep Kc11).keep Kc14)) all0)
  have K17 : Keep h0 T17.heap [] := K14.trans Kc17 (allS (Or.inr sz_b4) all0)
  obtain ⟨fs, hr, hrun, hended, hW, hsame⟩ := X17.leave (v := some (.int (1 : Int32))) (fun h => by rw [Bd.returns] at h; cases h)
  refine ⟨_, _, pre0 _ ?_, hrun, hended, _, _, rfl, ?_, ⟨_, rfl⟩, hW, hsame.mono (by decide) (by decide)⟩
  · show Steps _ _ _ (s₁.setTop (mkF m 0 #[.val (.int p1), .val (.int p2), .val (.int p3), .unset, .unset, .unset, .unset, .unset, .unset, .unset, .unset, .unset, .unset] [])) _
    refine st4 _ ?_
    show Steps _ _ _ (T4.setTop (mkF m 3 #[.val (.int p1), .val (.int p2), .val (.int p3), .unset, .unset, .unset, .unset, .unset, .unset, .unset, .unset, .unset, .unset] [(.ref b4)])) _
    refine XS.dup X4.here hx rfl (hb hby at_3) rfl rfl ?_
    show Steps _ _ _ (T4.setTop (mkF m 4 #[.val (.int p1), .val (.int p2), .val (.int p3), .unset, .unset, .unset, .unset, .unset, .unset, .unset, .unset, .unset, .unset] [(.ref b4), (.ref b4)])) _
    refine XS.aconstNull X4.here hx rfl (hb hby at_4) ?_
    show Steps _ _ _ (T4.setTop (mkF m 5 #[.val (.int p1), .val (.int p2), .val (.int p3), .unset, .unset, .unset, .unset, .unset, .unset, .unset, .unset, .unset, .unset] [.null, (.ref b4), (.ref b4)])) _
    refine XS.aconstNull X4.here hx rfl (hb hby at_5) ?_
    show Steps _ _ _ (T4.setTop (mkF m 6 #[.val (.int p1), .val (.int p2), .val (.int p3), .unset, .unset, .unset, .unset, .unset, .unset, .unset, .unset, .unset, .unset] [.null, .null, (.ref b4), (.ref b4)])) _
    refine st5.trans ?_
    show Steps _ _ _ (T5.setTop (mkF m 9 #[.val (.int p1), .val (.int p2), .val (.int p3), .unset, .unset, .unset, .unset, .unset, .unset, .unset, .unset, .unset, .unset] [(.ref b4)])) _
    refine XS.astoreN X5.here hx rfl (hb hby at_9) rfl rfl (l' := #[.val (.int p1), .val (.int p2), .val (.int p3), .val (.ref b4), .unset, .unset, .unset, .unset, .unset, .unset, .unset, .unset, .unset]) rfl ?_
    show Steps _ _ _ (T5.setTop (mkF m 10 #[.val (.int p1), .val (.int p2), .val (.int p3), .val (.ref b4), .unset, .unset, .unset, .unset, .unset, .unset, .unset, .unset, .unset] [])) _
    refine st6 _ ?_
    show Steps _ _ _ (T6.setTop (mkF m 13 #[.val (.int p1), .val (.int p2), .val (.int p3), .val (.ref b4), .unset, .unset, .unset, .unset, .unset, .unset, .unset, .unset, .unset] [(.ref b6)])) _
    refine XS.dup X6.here hx rfl (hb hby at_13) rfl rfl ?_
    show Steps _ _ _ (T6.setTop (mkF m 14 #[.val (.int p1), .val (.int p2), .val (.int p3), .val (.ref b4), .unset, .unset, .unset, .unset, .unset, .unset, .unset, .unset, .unset] [(.ref b6), (.ref b6)])) _
    refine XS.aloadN X6.here hx rfl (hb hby at_14) rfl rfl ?_
    show Steps _ _ _ (T6.setTop (mkF m 15 #[.val (.int p1), .val (.int p2), .val (.int p3), .val (.ref b4), .unset, .unset, .unset, .unset, .unset, .unset, .unset, .unset, .unset] [(.ref b4), (.ref b6), (.ref b6)])) _
    refine st7.trans ?_
    show Steps _ _ _ (T7.setTop (mkF m 18 #[.val (.int p1), .val (.int p2), .val (.int p3), .val (.ref b4), .unset, .unset, .unset, .unset, .unset, .unset, .unset, .unset, .unset] [(.ref b6)])) _
    refine XS.astore X7.here hx rfl (hb hby at_18) rfl rfl (l' := #[.val (.int p1), .val (.int p2), .val (.int p3), .val (.ref b4), .val (.ref b6), .unset, .unset, .unset, .unset, .unset, .unset, .unset, .unset]) rfl ?_
    show Steps _ _ _ (T7.setTop (mkF m 20 #[.val (.int p1), .val (.int p2), .val (.int p3), .val (.ref b4), .val (.ref b6), .unset, .unset, .unset, .unset, .unset, .unset, .unset, .unset] [])) _
    refine XS.iloadN X7.here hx rfl (hb hby at_20) rfl ?_
    show Steps _ _ _ (T7.setTop (mkF m 21 #[.val (.int p1), .val (.int p2), .val (.int p3), .val (.ref b4), .val (.ref b6), .unset, .unset, .unset, .unset, .unset, .unset, .unset, .unset] [(.int p2)])) _
    refine XS.iconst X7.here hx rfl (hb hby at_21) ?_
    show Steps _ _ _ (T7.setTop (mkF m 22 #[.val (.int p1), .val (.int p2), .val (.int p3), .val (.ref b4), .val (.ref b6), .unset, .unset, .unset, .unset, .unset, .unset, .unset, .unset] [(.int (1 : Int32)), (.int p2)])) _
    refine XS.iand X7.here hx rfl (hb hby at_22) rfl ?_
    show Steps _ _ _ (T7.setTop (mkF m 23 #[.val (.int p1), .val (.int p2), .val (.int p3), .val (.ref b4), .val (.ref b6), .unset, .unset, .unset, .unset, .unset, .unset, .unset, .unset] [(.int (p2 &&& (1 : Int32)))])) _
    refine XS.ifYes X7.here hx rfl (pc0 := 23) (pc' := 31) rfl (hb hby at_23) rfl ((if0 _ _).trans (teq hc23).1) (by decide) (by decide) ?_
    show Steps _ _ _ (T7.setTop (mkF m 31 #[.val (.int p1), .val (.int p2), .val (.int p3), .val (.ref b4), .val (.ref b6), .unset, .unset, .unset, .unset, .unset, .unset, .unset, .unset] [])) _
    refine XS.aloadN X7.here hx rfl (hb hby at_31) rfl rfl ?_
    show Steps _ _ _ (T7.setTop (mkF m 32 #[.val (.int p1), .val (.int p2), .val (.int p3), .val (.ref b4), .val (.ref b6), .unset, .unset, .unset, .unset, .unset, .unset, .unset, .unset] [(.ref b4)])) _
    refine XS.astore X7.here hx rfl (hb hby at_32) rfl rfl (l' := #[.val (.int p1), .val (.int p2), .val (.int p3), .val (.ref b4), .val (.ref b6), .val (.ref b4), .unset, .unset, .unset, .unset, .unset, .unset, .unset]) rfl ?_
    show Steps _ _ _ (T7.setTop (mkF m 34 #[.val (.int p1), .val (.int p2), .val (.int p3), .val (.ref b4), .val (.ref b6), .val (.ref b4), .unset, .unset, .unset, .unset, .unset, .unset, .unset] [])) _
    refine XS.iloadN X7.here hx rfl (hb hby at_34) rfl ?_
    show Steps _ _ _ (T7.setTop (mkF m 35 #[.val (.int p1), .val (.int p2), .val (.int p3), .val (.ref b4), .val (.ref b6), .val (.ref b4), .unset, .unset, .unset, .unset, .unset, .unset, .unset] [(.int p3)])) _
    refine XS.iconst X7.here hx rfl (hb hby at_35) ?_
    show Steps _ _ _ (T7.setTop (mkF m 36 #[.val (.int p1), .val (.int p2), .val (.int p3), .val (.ref b4), .val (.ref b6), .val (.ref b4), .unset, .unset, .unset, .unset, .unset, .unset, .unset] [(.int (1 : Int32)), (.int p3)])) _
    refine XS.iand X7.here hx rfl (hb hby at_36) rfl ?_
    show Steps _ _ _ (T7.setTop (mkF m 37 #[.val (.int p1), .val (.int p2), .val (.int p3), .val (.ref b4), .val (.ref b6), .val (.ref b4), .unset, .unset, .unset, .unset, .unset, .unset, .unset] [(.int (p3 &&& (1 : Int32)))])) _
    refine XS.ifNo X7.here hx rfl (hb hby at_37) rfl ((if0 _ _).trans (feq hc37).1) ?_
    show Steps _ _ _ (T7.setTop (mkF m 40 #[.val (.int p1), .val (.int p2), .val (.int p3), .val (.ref b4), .val (.ref b6), .val (.ref b4), .unset, .unset, .unset, .unset, .unset, .unset, .unset] [])) _
    refine XS.aload X7.here hx rfl (hb hby at_40) rfl rfl ?_
    show Steps _ _ _ (T7.setTop (mkF m 42 #[.val (.int p1), .val (.int p2), .val (.int p3), .val (.ref b4), .val (.ref b6), .val (.ref b4), .unset, .unset, .unset, .unset, .unset, .unset, .unset] [(.ref b6)])) _
    refine XS.goto X7.here hx rfl (pc0 := 42) (pc' := 46) rfl (hb hby at_42) (by decide) (by decide) ?_
    show Steps _ _ _ (T7.setTop (mkF m 46 #[.val (.int p1), .val (.int p2), .val (.int p3), .val (.ref b4), .val (.ref b6), .val (.ref b4), .unset, .unset, .unset, .unset, .unset, .unset, .unset] [(.ref b6)])) _
    refine XS.astore X7.here hx rfl (hb hby at_46) rfl rfl (l' := #[.val (.int p1), .val (.int p2), .val (.int p3), .val (.ref b4), .val (.ref b6), .val (.ref b4), .val (.ref b6), .unset, .unset, .unset, .unset, .unset, .unset]) rfl ?_
    show Steps _ _ _ (T7.setTop (mkF m 48 #[.val (.int p1), .val (.int p2), .val (.int p3), .val (.ref b4), .val (.ref b6), .val (.ref b4), .val (.ref b6), .unset, .unset, .unset, .unset, .unset, .unset] [])) _
    refine XS.iloadN X7.here hx rfl (hb hby at_48) rfl ?_
    show Steps _ _ _ (T7.setTop (mkF m 49 #[.val (.int p1), .val (.int p2), .val (.int p3), .val (.ref b4), .val (.ref b6), .val (.ref b4), .val (.ref b6), .unset, .unset, .unset, .unset, .unset, .unset] [(.int p1)])) _
    refine XS.iconst X7.here hx rfl (hb hby at_49) ?_
    show Steps _ _ _ (T7.setTop (mkF m 50 #[.val (.int p1), .val (.int p2), .val (.int p3), .val (.ref b4), .val (.ref b6), .val (.ref b4), .val (.ref b6), .unset, .unset, .unset, .unset, .unset, .unset] [(.int (3 : Int32)), (.int p1)])) _
    refine XS.iand X7.here hx rfl (hb hby at_50) rfl ?_
    show Steps _ _ _ (T7.setTop (mkF m 51 #[.val (.int p1), .val (.int p2), .val (.int p3), .val (.ref b4), .val (.ref b6), .val (.ref b4), .val (.ref b6), .unset, .unset, .unset, .unset, .unset, .unset] [(.int (p1 &&& (3 : Int32)))])) _
    refine XS.istore X7.here hx rfl (hb hby at_51) rfl (l' := #[.val (.int p1), .val (.int p2), .val (.int p3), .val (.ref b4), .val (.ref b6), .val (.ref b4), .val (.ref b6), .val (.int (p1 &&& (3 : Int32))), .unset, .unset, .unset, .unset, .unset]) rfl ?_
    show Steps _ _ _ (T7.setTop (mkF m 53 #[.val (.int p1), .val (.int p2), .val (.int p3), .val (.ref b4), .val (.ref b6), .val (.ref b4), .val (.ref b6), .val (.int (p1 &&& (3 : Int32))), .unset, .unset, .unset, .unset, .unset] [])) _
    refine XS.aconstNull X7.here hx rfl (hb hby at_53) ?_
    show Steps _ _ _ (T7.setTop (mkF m 54 #[.val (.int p1), .val (.int p2), .val (.int p3), .val (.ref b4), .val (.ref b6), .val (.ref b4), .val (.ref b6), .val (.int (p1 &&& (3 : Int32))), .unset, .unset, .unset, .unset, .unset] [.null])) _
    refine XS.astore X7.here hx rfl (hb hby at_54) rfl rfl (l' := #[.val (.int p1), .val (.int p2), .val (.int p3), .val (.ref b4), .val (.ref b6), .val (.ref b4), .val (.ref b6), .val (.int (p1 &&& (3 : Int32))), .val .null, .unset, .unset, .unset, .unset]) rfl ?_
    show Steps _ _ _ (T7.setTop (mkF m 56 #[.val (.int p1), .val (.int p2), .val (.int p3), .val (.ref b4), .val (.ref b6), .val (.ref b4), .val (.ref b6), .val (.int (p1 &&& (3 : Int32))), .val .null, .unset, .unset, .unset, .unset] [])) _
    refine XS.iload X7.here hx rfl (hb hby at_56) rfl ?_
    show Steps _ _ _ (T7.setTop (mkF m 58 #[.val (.int p1), .val (.int p2), .val (.int p3), .val (.ref b4), .val (.ref b6), .val (.ref b4), .val (.ref b6), .val (.int (p1 &&& (3 : Int32))), .val .null, .unset, .unset, .unset, .unset] [(.int (p1 &&& (3 : Int32)))])) _
    refine XS.iconst X7.here hx rfl (hb hby at_58) ?_
    show Steps _ _ _ (T7.setTop (mkF m 59 #[.val (.int p1), .val (.int p2), .val (.int p3), .val (.ref b4), .val (.ref b6), .val (.ref b4), .val (.ref b6), .val (.int (p1 &&& (3 : Int32))), .val .null, .unset, .unset, .unset, .unset] [(.int (1 : Int32)), (.int (p1 &&& (3 : Int32)))])) _
    refine XS.icmpYes X7.here hx rfl (pc0 := 59) (pc' := 78) rfl (hb hby at_59) rfl (feq hc59).2 (by decide) (by decide) ?_
    show Steps _ _ _ (T7.setTop (mkF m 78 #[.val (.int p1), .val (.int p2), .val (.int p3), .val (.ref b4), .val (.ref b6), .val (.ref b4), .val (.ref b6), .val (.int (p1 &&& (3 : Int32))), .val .null, .unset, .unset, .unset, .unset] [])) _
    refine XS.iload X7.here hx rfl (hb hby at_78) rfl ?_
    show Steps _ _ _ (T7.setTop (mkF m 80 #[.val (.int p1), .val (.int p2), .val (.int p3), .val (.ref b4), .val (.ref b6), .val (.ref b4), .val (.ref b6), .val (.int (p1 &&& (3 : Int32))), .val .null, .unset, .unset, .unset, .unset] [(.int (p1 &&& (3 : Int32)))])) _
    refine XS.iconst X7.here hx rfl (hb hby at_80) ?_
    show Steps _ _ _ (T7.setTop (mkF m 81 #[.val (.int p1), .val (.int p2), .val (.int p3), .val (.ref b4), .val (.ref b6), .val (.ref b4), .val (.ref b6), .val (.int (p1 &&& (3 : Int32))), .val .null, .unset, .unset, .unset, .unset] [(.int (2 : Int32)), (.int (p1 &&& (3 : Int32)))])) _
    refine XS.icmpYes X7.here hx rfl (pc0 := 81) (pc' := 100) rfl (hb hby at_81) rfl (feq hc81).2 (by decide) (by decide) ?_
    show Steps _ _ _ (T7.setTop (mkF m 100 #[.val (.int p1), .val (.int p2), .val (.int p3), .val (.ref b4), .val (.ref b6), .val (.ref b4), .val (.ref b6), .val (.int (p1 &&& (3 : Int32))), .val .null, .unset, .unset, .unset, .unset] [])) _
    refine XS.iload X7.here hx rfl (hb hby at_100) rfl ?_
    show Steps _ _ _ (T7.setTop (mkF m 102 #[.val (.int p1), .val (.int p2), .val (.int p3), .val (.ref b4), .val (.ref b6), .val (.ref b4), .val (.ref b6), .val (.int (p1 &&& (3 : Int32))), .val .null, .unset, .unset, .unset, .unset] [(.int (p1 &&& (3 : Int32)))])) _
    refine XS.iconst X7.here hx rfl (hb hby at_102) ?_
    show Steps _ _ _ (T7.setTop (mkF m 103 #[.val (.int p1), .val (.int p2), .val (.int p3), .val (.ref b4), .val (.ref b6), .val (.ref b4), .val (.ref b6), .val (.int (p1 &&& (3 : Int32))), .val .null, .unset, .unset, .unset, .unset] [(.int (3 : Int32)), (.int (p1 &&& (3 : Int32)))])) _
    refine XS.icmpNo X7.here hx rfl (hb hby at_103) rfl (teq hc103).2 ?_
    show Steps _ _ _ (T7.setTop (mkF m 106 #[.val (.int p1), .val (.int p2), .val (.int p3), .val (.ref b4), .val (.ref b6), .val (.ref b4), .val (.ref b6), .val (.int (p1 &&& (3 : Int32))), .val .null, .unset, .unset, .unset, .unset] [])) _
    refine XS.aload X7.here hx rfl (hb hby at_106) rfl rfl ?_
    show Steps _ _ _ (T7.setTop (mkF m 108 #[.val (.int p1), .val (.int p2), .val (.int p3), .val (.ref b4), .val (.ref b6), .val (.ref b4), .val (.ref b6), .val (.int (p1 &&& (3 : Int32))), .val .null, .unset, .unset, .unset, .unset] [(.ref b4)])) _
    refine st8 _ ?_
    show Steps _ _ _ (T8.setTop (mkF m 111 #[.val (.int p1), .val (.int p2), .val (.int p3), .val (.ref b4), .val (.ref b6), .val (.ref b4), .val (.ref b6), .val (.int (p1 &&& (3 : Int32))), .val .null, .unset, .unset, .unset, .unset] [(.ref uB), (.ref b4)])) _
    refine st9.trans ?_
    show Steps _ _ _ (T9.setTop (mkF m 114 #[.val (.int p1), .val (.int p2), .val (.int p3), .val (.ref b4), .val (.ref b6), .val (.ref b4), .val (.ref b6), .val (.int (p1 &&& (3 : Int32))), .val .null, .unset, .unset, .unset, .unset] [])) _
    refine XS.aload X9.here hx rfl (hb hby at_114) rfl rfl ?_
    show Steps _ _ _ (T9.setTop (mkF m 116 #[.val (.int p1), .val (.int p2), .val (.int p3), .val (.ref b4), .val (.ref b6), .val (.ref b4), .val (.ref b6), .val (.int (p1 &&& (3 : Int32))), .val .null, .unset, .unset, .unset, .unset] [(.ref b4)])) _
    refine st10 _ ?_
    show Steps _ _ _ (T10.setTop (mkF m 119 #[.val (.int p1), .val (.int p2), .val (.int p3), .val (.ref b4), .val (.ref b6), .val (.ref b4), .val (.ref b6), .val (.int (p1 &&& (3 : Int32))), .val .null, .unset, .unset, .unset, .unset] [(.ref uC), (.ref b4)])) _
    refine st11.trans ?_
    show Steps _ _ _ (T11.setTop (mkF m 122 #[.val (.int p1), .val (.int p2), .val (.int p3), .val (.ref b4), .val (.ref b6), .val (.ref b4), .val (.ref b6), .val (.int (p1 &&& (3 : Int32))), .val .null, .unset, .unset, .unset, .unset] [])) _
    refine st12 _ ?_
    show Steps _ _ _ (T12.setTop (mkF m 125 #[.val (.int p1), .val (.int p2), .val (.int p3), .val (.ref b4), .val (.ref b6), .val (.ref b4), .val (.ref b6), .val (.int (p1 &&& (3 : Int32))), .val .null, .unset, .unset, .unset, .unset] [(.ref uC)])) _
    refine XS.astore X12.here hx rfl (hb hby at_125) rfl rfl (l' := #[.val (.int p1), .val (.int p2), .val (.int p3), .val (.ref b4), .val (.ref b6), .val (.ref b4), .val (.ref b6), .val (.int (p1 &&& (3 : Int32))), .val (.ref uC), .unset, .unset, .unset, .unset]) rfl ?_
    show Steps _ _ _ (T12.setTop (mkF m 127 #[.val (.int p1), .val (.int p2), .val (.int p3), .val (.ref b4), .val (.ref b6), .val (.ref b4), .val (.ref b6), .val (.int (p1 &&& (3 : Int32))), .val (.ref uC), .unset, .unset, .unset, .unset] [])) _
    refine XS.aload X12.here hx rfl (hb hby at_127) rfl rfl ?_
    show Steps _ _ _ (T12.setTop (mkF m 129 #[.val (.int p1), .val (.int p2), .val (.int p3), .val (.ref b4), .val (.ref b6), .val (.ref b4), .val (.ref b6), .val (.int (p1 &&& (3 : Int32))), .val (.ref uC), .unset, .unset, .unset, .unset] [(.ref b6)])) _
    refine st13.trans ?_
    show Steps _ _ _ (T13.setTop (mkF m 132 #[.val (.int p1), .val (.int p2), .val (.int p3), .val (.ref b4), .val (.ref b6), .val (.ref b4), .val (.ref b6), .val (.int (p1 &&& (3 : Int32))), .val (.ref uC), .unset, .unset, .unset, .unset] [(.int (1 : Int32))])) _
    refine XS.aload X13.here hx rfl (hb hby at_132) rfl rfl ?_
    show Steps _ _ _ (T13.setTop (mkF m 134 #[.val (.int p1), .val (.int p2), .val (.int p3), .val (.ref b4), .val (.ref b6), .val (.ref b4), .val (.ref b6), .val (.int (p1 &&& (3 : Int32))), .val (.ref uC), .unset, .unset, .unset, .unset] [(.ref uC), (.int (1 : Int32))])) _
    refine XS.ifnullNo X13.here hx rfl (hb hby at_134) rfl ?_
    show Steps _ _ _ (T13.setTop (mkF m 137 #[.val (.int p1), .val (.int p2), .val (.int p3), .val (.ref b4), .val (.ref b6), .val (.ref b4), .val (.ref b6), .val (.int (p1 &&& (3 : Int32))), .val (.ref uC), .unset, .unset, .unset, .unset] [(.int (1 : Int32))])) _
    refine XS.iconst X13.here hx rfl (hb hby at_137) ?_
    show Steps _ _ _ (T13.setTop (mkF m 138 #[.val (.int p1), .val (.int p2), .val (.int p3), .val (.ref b4), .val (.ref b6), .val (.ref b4), .val (.ref b6), .val (.int (p1 &&& (3 : Int32))), .val (.ref uC), .unset, .unset, .unset, .unset] [(.int (1 : Int32)), (.int (1 : Int32))])) _
    refine XS.goto X13.here hx rfl (pc0 := 138) (pc' := 142) rfl (hb hby at_138) (by decide) (by decide) ?_
    show Steps _ _ _ (T13.setTop (mkF m 142 #[.val (.int p1), .val (.int p2), .val (.int p3), .val (.ref b4), .val (.ref b6), .val (.ref b4), .val (.ref b6), .val (.int (p1 &&& (3 : Int32))), .val (.ref uC), .unset, .unset, .unset, .unset] [(.int (1 : Int32)), (.int (1 : Int32))])) _
    refine XS.icmpNo X13.here hx rfl (hb hby at_142) rfl (teq (rfl : (1 : Int32) = (1 : Int32))).2 ?_
    show Steps _ _ _ (T13.setTop (mkF m 145 #[.val (.int p1), .val (.int p2), .val (.int p3), .val (.ref b4), .val (.ref b6), .val (.ref b4), .val (.ref b6), .val (.int (p1 &&& (3 : Int32))), .val (.ref uC), .unset, .unset, .unset, .unset] [])) _
    refine XS.iconst X13.here hx rfl (hb hby at_145) ?_
    show Steps _ _ _ (T13.setTop (mkF m 146 #[.val (.int p1), .val (.int p2), .val (.int p3), .val (.ref b4), .val (.ref b6), .val (.ref b4), .val (.ref b6), .val (.int (p1 &&& (3 : Int32))), .val (.ref uC), .unset, .unset, .unset, .unset] [(.int (1 : Int32))])) _
    refine XS.goto X13.here hx rfl (pc0 := 146) (pc' := 150) rfl (hb hby at_146) (by decide) (by decide) ?_
    show Steps _ _ _ (T13.setTop (mkF m 150 #[.val (.int p1), .val (.int p2), .val (.int p3), .val (.ref b4), .val (.ref b6), .val (.ref b4), .val (.ref b6), .val (.int (p1 &&& (3 : Int32))), .val (.ref uC), .unset, .unset, .unset, .unset] [(.int (1 : Int32))])) _
    refine XS.istore X13.here hx rfl (hb hby at_150) rfl (l' := #[.val (.int p1), .val (.int p2), .val (.int p3), .val (.ref b4), .val (.ref b6), .val (.ref b4), .val (.ref b6), .val (.int (p1 &&& (3 : Int32))), .val (.ref uC), .val (.int (1 : Int32)), .unset, .unset, .unset]) rfl ?_
    show Steps _ _ _ (T13.setTop (mkF m 152 #[.val (.int p1), .val (.int p2), .val (.int p3), .val (.ref b4), .val (.ref b6), .val (.ref b4), .val (.ref b6), .val (.int (p1 &&& (3 : Int32))), .val (.ref uC), .val (.int (1 : Int32)), .unset, .unset, .unset] [])) _
    refine XS.aload X13.here hx rfl (hb hby at_152) rfl rfl ?_
    show Steps _ _ _ (T13.setTop (mkF m 154 #[.val (.int p1), .val (.int p2), .val (.int p3), .val (.ref b4), .val (.ref b6), .val (.ref b4), .val (.ref b6), .val (.int (p1 &&& (3 : Int32))), .val (.ref uC), .val (.int (1 : Int32)), .unset, .unset, .unset] [(.ref b6)])) _
    refine st14.trans ?_
    show Steps _ _ _ (T14.setTop (mkF m 157 #[.val (.int p1), .val (.int p2), .val (.int p3), .val (.ref b4), .val (.ref b6), .val (.ref b4), .val (.ref b6), .val (.int (p1 &&& (3 : Int32))), .val (.ref uC), .val (.int (1 : Int32)), .unset, .unset, .unset] [(.ref uC)])) _
    refine XS.astore X14.here hx rfl (hb hby at_157) rfl rfl (l' := #[.val (.int p1), .val (.int p2), .val (.int p3), .val (.ref b4), .val (.ref b6), .val (.ref b4), .val (.ref b6), .val (.int (p1 &&& (3 : Int32))), .val (.ref uC), .val (.int (1 : Int32)), .val (.ref uC), .unset, .unset]) rfl ?_
    show Steps _ _ _ (T14.setTop (mkF m 159 #[.val (.int p1), .val (.int p2), .val (.int p3), .val (.ref b4), .val (.ref b6), .val (.ref b4), .val (.ref b6), .val (.int (p1 &&& (3 : Int32))), .val (.ref uC), .val (.int (1 : Int32)), .val (.ref uC), .unset, .unset] [])) _
    refine XS.aloadN X14.here hx rfl (hb hby at_159) rfl rfl ?_
    show Steps _ _ _ (T14.setTop (mkF m 160 #[.val (.int p1), .val (.int p2), .val (.int p3), .val (.ref b4), .val (.ref b6), .val (.ref b4), .val (.ref b6), .val (.int (p1 &&& (3 : Int32))), .val (.ref uC), .val (.int (1 : Int32)), .val (.ref uC), .unset, .unset] [(.ref b4)])) _
    refine st15.trans ?_
    show Steps _ _ _ (T15.setTop (mkF m 163 #[.val (.int p1), .val (.int p2), .val (.int p3), .val (.ref b4), .val (.ref b6), .val (.ref b4), .val (.ref b6), .val (.int (p1 &&& (3 : Int32))), .val (.ref uC), .val (.int (1 : Int32)), .val (.ref uC), .unset, .unset] [(.int (0 : Int32))])) _
    refine XS.ifNo X15.here hx rfl (hb hby at_163) rfl ((if0 _ _).trans (teq (rfl : (0 : Int32) = (0 : Int32))).2) ?_
    show Steps _ _ _ (T15.setTop (mkF m 166 #[.val (.int p1), .val (.int p2), .val (.int p3), .val (.ref b4), .val (.ref b6), .val (.ref b4), .val (.ref b6), .val (.int (p1 &&& (3 : Int32))), .val (.ref uC), .val (.int (1 : Int32)), .val (.ref uC), .unset, .unset] [])) _
    refine XS.aload X15.here hx rfl (hb hby at_166) rfl rfl ?_
    show Steps _ _ _ (T15.setTop (mkF m 168 #[.val (.int p1), .val (.int p2), .val (.int p3), .val (.ref b4), .val (.ref b6), .val (.ref b4), .val (.ref b6), .val (.int (p1 &&& (3 : Int32))), .val (.ref uC), .val (.int (1 : Int32)), .val (.ref uC), .unset, .unset] [(.ref b6)])) _
    refine st16.trans ?_
    show Steps _ _ _ (T16.setTop (mkF m 171 #[.val (.int p1), .val (.int p2), .val (.int p3), .val (.ref b4), .val (.ref b6), .val (.ref b4), .val (.ref b6), .val (.int (p1 &&& (3 : Int32))), .val (.ref uC), .val (.int (1 : Int32)), .val (.ref uC), .unset, .unset] [(.int (0 : Int32))])) _
    refine XS.ifNo X16.here hx rfl (hb hby at_171) rfl ((if0 _ _).trans (teq (rfl : (0 : Int32) = (0 : Int32))).2) ?_
    show Steps _ _ _ (T16.setTop (mkF m 174 #[.val (.int p1), .val (.int p2), .val (.int p3), .val (.ref b4), .val (.ref b6), .val (.ref b4), .val (.ref b6), .val (.int (p1 &&& (3 : Int32))), .val (.ref uC), .val (.int (1 : Int32)), .val (.ref uC), .unset, .unset] [])) _
    refine XS.iconst X16.here hx rfl (hb hby at_174) ?_
    show Steps _ _ _ (T16.setTop (mkF m 175 #[.val (.int p1), .val (.int p2), .val (.int p3), .val (.ref b4), .val (.ref b6), .val (.ref b4), .val (.ref b6), .val (.int (p1 &&& (3 : Int32))), .val (.ref uC), .val (.int (1 : Int32)), .val (.ref uC), .unset, .unset] [(.int (1 : Int32))])) _
    refine XS.goto X16.here hx rfl (pc0 := 175) (pc' := 179) rfl (hb hby at_175) (by decide) (by decide) ?_
    show Steps _ _ _ (T16.setTop (mkF m 179 #[.val (.int p1), .val (.int p2), .val (.int p3), .val (.ref b4), .val (.ref b6), .val (.ref b4), .val (.ref b6), .val (.int (p1 &&& (3 : Int32))), .val (.ref uC), .val (.int (1 : Int32)), .val (.ref uC), .unset, .unset] [(.int (1 : Int32))])) _
    refine XS.istore X16.here hx rfl (hb hby at_179) rfl (l' := #[.val (.int p1), .val (.int p2), .val (.int p3), .val (.ref b4), .val (.ref b6), .val (.ref b4), .val (.ref b6), .val (.int (p1 &&& (3 : Int32))), .val (.ref uC), .val (.int (1 : Int32)), .val (.ref uC), .val (.int (1 : Int32)), .unset]) rfl ?_
    show Steps _ _ _ (T16.setTop (mkF m 181 #[.val (.int p1), .val (.int p2), .val (.int p3), .val (.ref b4), .val (.ref b6), .val (.ref b4), .val (.ref b6), .val (.int (p1 &&& (3 : Int32))), .val (.ref uC), .val (.int (1 : Int32)), .val (.ref uC), .val (.int (1 : Int32)), .unset] [])) _
    refine XS.aload X16.here hx rfl (hb hby at_181) rfl rfl ?_
    show Steps _ _ _ (T16.setTop (mkF m 183 #[.val (.int p1), .val (.int p2), .val (.int p3), .val (.ref b4), .val (.ref b6), .val (.ref b4), .val (.ref b6), .val (.int (p1 &&& (3 : Int32))), .val (.ref uC), .val (.int (1 : Int32)), .val (.ref uC), .val (.int (1 : Int32)), .unset] [(.ref b6)])) _
    refine st17.trans ?_
    show Steps _ _ _ (T17.setTop (mkF m 186 #[.val (.int p1), .val (.int p2), .val (.int p3), .val (.ref b4), .val (.ref b6), .val (.ref b4), .val (.ref b6), .val (.int (p1 &&& (3 : Int32))), .val (.ref uC), .val (.int (1 : Int32)), .val (.ref uC), .val (.int (1 : Int32)), .unset] [.null])) _
    refine XS.astore X17.here hx rfl (hb hby at_186) rfl rfl (l' := #[.val (.int p1), .val (.int p2), .val (.int p3), .val (.ref b4), .val (.ref b6), .val (.ref b4), .val (.ref b6), .val (.int (p1 &&& (3 : Int32))), .val (.ref uC), .val (.int (1 : Int32)), .val (.ref uC), .val (.int (1 : Int32)), .val .null]) rfl ?_
    show Steps _ _ _ (T17.setTop (mkF m 188 #[.val (.int p1), .val (.int p2), .val (.int p3), .val (.ref b4), .val (.ref b6), .val (.ref b4), .val (.ref b6), .val (.int (p1 &&& (3 : Int32))), .val (.ref uC), .val (.int (1 : Int32)), .val (.ref uC), .val (.int (1 : Int32)), .val .null] [])) _
    refine XS.iload X17.here hx rfl (hb hby at_188) rfl ?_
    show Steps _ _ _ (T17.setTop (mkF m 190 #[.val (.int p1), .val (.int p2), .val (.int p3), .val (.ref b4), .val (.ref b6), .val (.ref b4), .val (.ref b6), .val (.int (p1 &&& (3 : Int32))), .val (.ref uC), .val (.int (1 : Int32)), .val (.ref uC), .val (.int (1 : Int32)), .val .null] [(.int (1 : Int32))])) _
    refine XS.ifNo X17.here hx rfl (hb hby at_190) rfl ((if0 _ _).trans (feq hc190).1) ?_
    show Steps _ _ _ (T17.setTop (mkF m 193 #[.val (.int p1), .val (.int p2), .val (.int p3), .val (.ref b4), .val (.ref b6), .val (.ref b4), .val (.ref b6), .val (.int (p1 &&& (3 : Int32))), .val (.ref uC), .val (.int (1 : Int32)), .val (.ref uC), .val (.int (1 : Int32)), .val .null] [])) _
    refine XS.aload X17.here hx rfl (hb hby at_193) rfl rfl ?_
    show Steps _ _ _ (T17.setTop (mkF m 195 #[.val (.int p1), .val (.int p2), .val (.int p3), .val (.ref b4), .val (.ref b6), .val (.ref b4), .val (.ref b6), .val (.int (p1 &&& (3 : Int32))), .val (.ref uC), .val (.int (1 : Int32)), .val (.ref uC), .val (.int (1 : Int32)), .val .null] [(.ref uC)])) _
    refine XS.aload X17.here hx rfl (hb hby at_195) rfl rfl ?_
    show Steps _ _ _ (T17.setTop (mkF m 197 #[.val (.int p1), .val (.int p2), .val (.int p3), .val (.ref b4), .val (.ref b6), .val (.ref b4), .val (.ref b6), .val (.int (p1 &&& (3 : Int32))), .val (.ref uC), .val (.int (1 : Int32)), .val (.ref uC), .val (.int (1 : Int32)), .val .null] [(.ref uC), (.ref uC)])) _
    refine Jvm.RoadKit.acmp (g := (mkF m 197 #[.val (.int p1), .val (.int p2), .val (.int p3), .val (.ref b4), .val (.ref b6), .val (.ref b4), .val (.ref b6), .val (.int (p1 &&& (3 : Int32))), .val (.ref uC), .val (.int (1 : Int32)), .val (.ref uC), .val (.int (1 : Int32)), .val .null] [(.ref uC), (.ref uC)])) X17 hx rfl rfl rfl (pc0 := 197) (pc' := 200) (same := true) rfl (hb hby at_197) rfl (decide_eq_true rfl) (by decide) (by decide) ?_
    show Steps _ _ _ (T17.setTop (mkF m 200 #[.val (.int p1), .val (.int p2), .val (.int p3), .val (.ref b4), .val (.ref b6), .val (.ref b4), .val (.ref b6), .val (.int (p1 &&& (3 : Int32))), .val (.ref uC), .val (.int (1 : Int32)), .val (.ref uC), .val (.int (1 : Int32)), .val .null] [])) _
    refine XS.iload X17.here hx rfl (hb hby at_200) rfl ?_
    show Steps _ _ _ (T17.setTop (mkF m 202 #[.val (.int p1), .val (.int p2), .val (.int p3), .val (.ref b4), .val (.ref b6), .val (.ref b4), .val (.ref b6), .val (.int (p1 &&& (3 : Int32))), .val (.ref uC), .val (.int (1 : Int32)), .val (.ref uC), .val (.int (1 : Int32)), .val .null] [(.int (1 : Int32))])) _
    refine XS.ifNo X17.here hx rfl (hb hby at_202) rfl ((if0 _ _).trans (feq hc202).1) ?_
    show Steps _ _ _ (T17.setTop (mkF m 205 #[.val (.int p1), .val (.int p2), .val (.int p3), .val (.ref b4), .val (.ref b6), .val (.ref b4), .val (.ref b6), .val (.int (p1 &&& (3 : Int32))), .val (.ref uC), .val (.int (1 : Int32)), .val (.ref uC), .val (.int (1 : Int32)), .val .null] [])) _
    refine XS.aload X17.here hx rfl (hb hby at_205) rfl rfl ?_
    show Steps _ _ _ (T17.setTop (mkF m 207 #[.val (.int p1), .val (.int p2), .val (.int p3), .val (.ref b4), .val (.ref b6), .val (.ref b4), .val (.ref b6), .val (.int (p1 &&& (3 : Int32))), .val (.ref uC), .val (.int (1 : Int32)), .val (.ref uC), .val (.int (1 : Int32)), .val .null] [.null])) _
    refine XS.ifnonnullNo X17.here hx rfl (hb hby at_207) rfl ?_
    show Steps _ _ _ (T17.setTop (mkF m 210 #[.val (.int p1), .val (.int p2), .val (.int p3), .val (.ref b4), .val (.ref b6), .val (.ref b4), .val (.ref b6), .val (.int (p1 &&& (3 : Int32))), .val (.ref uC), .val (.int (1 : Int32)), .val (.ref uC), .val (.int (1 : Int32)), .val .null] [])) _
    refine XS.iconst X17.here hx rfl (hb hby at_210) ?_
    show Steps _ _ _ (T17.setTop (mkF m 211 #[.val (.int p1), .val (.int p2), .val (.int p3), .val (.ref b4), .val (.ref b6), .val (.ref b4), .val (.ref b6), .val (.int (p1 &&& (3 : Int32))), .val (.ref uC), .val (.int (1 : Int32)), .val (.ref uC), .val (.int (1 : Int32)), .val .null] [(.int (1 : Int32))])) _
    refine XS.goto X17.here hx rfl (pc0 := 211) (pc' := 215) rfl (hb hby at_211) (by decide) (by decide) ?_
    show Steps _ _ _ (T17.setTop (mkF m 215 #[.val (.int p1), .val (.int p2), .val (.int p3), .val (.ref b4), .val (.ref b6), .val (.ref b4), .val (.ref b6), .val (.int (p1 &&& (3 : Int32))), .val (.ref uC), .val (.int (1 : Int32)), .val (.ref uC), .val (.int (1 : Int32)), .val .null] [(.int (1 : Int32))])) _
    exact retN X17 hx (t := .boolean) Bd.returns (by simp) (hb hby at_215) hr
  · show Q0 Z p1 p2 p3 uB uC h0 n0 _ T17.heap _
    exact ⟨rfl, N17⟩
-- 2. THE CONTRACT: what this body leaves is yours
-- its room: frames: the greatest, locals: the greatest, cells 4 + .., slots 32 + ..: rm1: frames + 1; locals 1 + 3 + 11 + its room's locals; its cells and slots besides; rm5: frames + 1; locals 1 + 2 + 11 + its room's locals; its cells and slots besides; rm7: frames + 1; locals 0 + 1 + 11 + its room's locals; its cells and slots besides; rm8: frames + 1; locals 0 + 2 + 11 + its room's locals; its cells and slots besides; rm7: frames + 1; locals 0 + 1 + 11 + its room's locals; its cells and slots besides; rm7: frames + 1; locals 0 + 1 + 11 + its room's locals; its cells and slots besides; rm8: frames + 1; locals 0 + 2 + 11 + its room's locals; its cells and slots besides
set_option maxRecDepth 65536 in
set_option maxHeartbeats 40000000 in
theorem rm0_tf0 (l : Launch) (Z : State) (a0 : Array Value) (hw : ∀ d ∈ tables_1, d.before a0 Z = true) (ws : List Jvm.Cond) (p1 : Int32) (p2 : Int32) (p3 : Int32) (uB : Addr) (uC : Addr) (h0 : Heap) (n0 : Nat) (Z0 : n0 ≤ h0.size) (S_BREAK : Sta Z h0 "com/example/transom/transom/Scope$Jump" "BREAK" "Lcom/example/transom/transom/Scope$Jump;" (.ref uB)) (S_CONTINUE : Sta Z h0 "com/example/transom/transom/Scope$Jump" "CONTINUE" "Lcom/example/transom/transom/Scope$Jump;" (.ref uC)) (hc23 : (p2 &&& (1 : Int32)) = (0 : Int32)) (hc37 : ¬ ((p3 &&& (1 : Int32)) = (0 : Int32))) (hc59 : ¬ ((p1 &&& (3 : Int32)) = (1 : Int32))) (hc81 : ¬ ((p1 &&& (3 : Int32)) = (2 : Int32))) (hc103 : ¬ ((p1 &&& (3 : Int32)) = (3 : Int32))) (hc190 : ¬ ((1 : Int32) = (0 : Int32))) (hc202 : ¬ ((1 : Int32) = (0 : Int32))) :
    MetFree l x (head1 (Jvm.Cond.code x code maxLocals ret :: ws) room_1) (fun a U => a = #[(.int p1), (.int p2), (.int p3)] ∧ Z.Warmed39 U.vm ∧ U.heap = h0) (fun _ _ _ _ _ => True) (fun _ U o U' => ∃ v L, o = .returned v ∧ Q0 Z p1 p2 p3 uB uC h0 n0 v U'.heap L ∧ FrameEnd U o U' L room_1.cells room_1.slots) := by
  refine MetFree.of_bodySF (plainFor_of_name pn_0) hisR ?_
  intro p e s m args below meth c s₁ Bd hml0 hP hK
  obtain ⟨rfl, hZ, hh⟩ := hP
  have hx := Bd.exec
  have hby := Bd.bytes
  have hml : c.maxLocals = 13 := hml0
  have hown : s.vm.findClass "com/example/transom/transom/ScopeLandPinLaw" = some m.cls := findClass_of_methodNamed Bd.named
  have hnm := (name_of_methodNamed Bd.named Bd.method).1
  have X0 : Stand p l e room_1 s m #[(.int p1), (.int p2), (.int p3)] below meth c s₁ [] 0 0 := Stand.of_body Bd
  have e0 : s₁.heap = h0 := by rw [← hh, Bd.state]; rfl
  have N0 := Fr.nil n0
  have pre0 : ∀ t, Steps p.tables e below (s₁.setTop (mkF m 0 #[.val (.int p1), .val (.int p2), .val (.int p3), .unset, .unset, .unset, .unset, .unset, .unset, .unset, .unset, .unset, .unset] [])) t → Steps p.tables e below (s₁.setTop (entryFrame m #[(.int p1), (.int p2), (.int p3)] maxLocals)) t := fun t k => castTop (ef_0 m p1 p2 p3) k
  obtain ⟨T4, h4, X4, e4, E4, A4, D4, -, st4⟩ := newO X0 hx hZ hown (ww hw 0 rfl) (ww hw 1 rfl) (ww hw 2 rfl) e0 (g := (mkF m 0 #[.val (.int p1), .val (.int p2), .val (.int p3), .unset, .unset, .unset, .unset, .unset, .unset, .unset, .unset, .unset, .unset] [])) rfl (hb hby at_0) (by decide) (by decide)
  obtain ⟨b4, g4⟩ : ∃ z, z = h0.size := ⟨_, rfl⟩
  rw [← g4] at A4 D4 st4
  have F_values_b4 : Fld Z h4 b4 "com/example/transom/transom/Scope" "values" "Ljava/util/Map;" .null := D4 (Or.inr (ww hw 26 rfl)) (ty := (.object "java/util/Map")) (by decide)
  have F_parent_b4 : Fld Z h4 b4 "com/example/transom/transom/Scope" "parent" "Lcom/example/transom/transom/Scope;" .null := D4 (Or.inr (ww hw 28 rfl)) (ty := (.object "com/example/transom/transom/Scope")) (by decide)
  have F_top_b4 : Fld Z h4 b4 "com/example/transom/transom/Scope" "top" "Lcom/example/transom/transom/Scope;" .null := D4 (Or.inr (ww hw 30 rfl)) (ty := (.object "com/example/transom/transom/Scope")) (by decide)
  have F_model_b4 : Fld Z h4 b4 "com/example/transom/transom/Scope" "model" "Ljava/util/Map;" .null := D4 (Or.inr (ww hw 32 rfl)) (ty := (.object "java/util/Map")) (by decide)
  have F_template_b4 : Fld Z h4 b4 "com/example/transom/transom/Scope" "template" "Lcom/example/transom/transom/Template;" .null := D4 (Or.inr (ww hw 34 rfl)) (ty := (.object "com/example/transom/transom/Template")) (by decide)
  have F_renderer_b4 : Fld Z h4 b4 "com/example/transom/transom/Scope" "renderer" "Lcom/example/transom/transom/Scope;" .null := D4 (Or.inr (ww hw 36 rfl)) (ty := (.object "com/example/transom/transom/Scope")) (by decide)
  have F_calls_b4 : Fld Z h4 b4 "com/example/transom/transom/Scope" "calls" "I" (.int (0 : Int32)) := D4 (Or.inr (ww hw 38 rfl)) (ty := .int) (by decide)
  have F_jump_b4 : Fld Z h4 b4 "com/example/transom/transom/Scope" "jump" "Lcom/example/transom/transom/Scope$Jump;" .null := D4 (Or.inl (ww hw 51 rfl)) (ty := (.object "com/example/transom/transom/Scope$Jump")) (by decide)
  have E_b4 := A4
  have g_b4 : n0 ≤ b4 := Nat.le_trans Z0 (Nat.le_of_eq g4.symm)
  have sz_b4 : h0.size ≤ b4 := (Nat.le_trans (Keep.refl h0 []).1 (Nat.le_of_eq g4.symm))
  have K4 : Keep h0 h4 [] := (Keep.refl h0 []).ext E4
  obtain ⟨_, _, ⟨T5, L5, k5, n5⟩, -, X5, ⟨Lc5, hQ5, l5, y5, z5⟩, st5⟩ := X4.specialBack hx (y := (⟨"com/example/transom/transom/Scope", "<init>", "(Ljava/util/Map;Lcom/example/transom/transom/Template;)V"⟩ : MethodName)) rfl hown (mvT hZ (ww hw 3 rfl)) (mvT hZ (ww hw 4 rfl)) (mvT hZ (ww hw 5 rfl)) (by decide) (backOf (W := 1) (rm1 l Z a0 hw [] b4 _ _ _ _ _ _ _  h4 n0 (Nat.le_trans Z0 E4.1) F_jump_b4 E_b4 F_values_b4 g_b4 F_parent_b4 F_top_b4 F_model_b4 F_template_b4 F_renderer_b4 F_calls_b4) hZ (ww hw 5 rfl) (ww hw 2 rfl) (by decide) (by decide)) (g := (mkF m 6 #[.val (.int p1), .val (.int p2), .val (.int p3), .unset, .unset, .unset, .unset, .unset, .unset, .unset, .unset, .unset, .unset] [.null, .null, (.ref b4), (.ref b4)])) rfl (by rw [hml]; rfl) (Steps.refl _) (a := b4) (argsL := [.null, .null]) (rest := [(.ref b4)]) (lenOf pd_0_0 rfl) rfl (by show 2 * 0 + _ ≤ _; exact Nat.le_of_eq rfl) (hb hby at_6) (fun _ _ => ⟨rfl, e4, (by decide : 1 + 1 ≤ _), (by decide : 8 + 8 ≤ _)⟩)
  dsimp only [Pt.U, Pt.locs, Pt.cells, Pt.slots] at X5 l5 y5 z5 st5 hQ5
  subst l5 y5 z5
  obtain ⟨rfl, N5q, Kc5, Ec5, Ftop5, Fmodel5, Ftemplate5, Frenderer5, Fcalls5, Fjump5⟩ := hQ5
  have N5 := Fr.app N0 N5q
  have S_BREAK_5 := own_stak (S_BREAK.ext E4) Kc5 (allS (own_nst E_b4) all0)
  have S_CONTINUE_5 := own_stak (S_CONTINUE.ext E4) Kc5 (allS (own_nst E_b4) all0)
  have K5 : Keep h0 T5.heap [] := K4.trans Kc5 (allS (Or.inr sz_b4) all0)
  obtain ⟨T6, h6, X6, e6, E6, A6, D6, -, st6⟩ := newO X5 hx hZ hown (ww hw 0 rfl) (ww hw 1 rfl) (ww hw 2 rfl) rfl (g := (mkF m 10 #[.val (.int p1), .val (.int p2), .val (.int p3), .val (.ref b4), .unset, .unset, .unset, .unset, .unset, .unset, .unset, .unset, .unset] [])) rfl (hb hby at_10) (by decide) (by decide)
  obtain ⟨b6, g6⟩ : ∃ z, z = T5.heap.size := ⟨_, rfl⟩
  rw [← g6] at A6 D6 st6
  have F_values_b6 : Fld Z h6 b6 "com/example/transom/transom/Scope" "values" "Ljava/util/Map;" .null := D6 (Or.inr (ww hw 26 rfl)) (ty := (.object "java/util/Map")) (by decide)
  have F_parent_b6 : Fld Z h6 b6 "com/example/transom/transom/Scope" "parent" "Lcom/example/transom/transom/Scope;" .null := D6 (Or.inr (ww hw 28 rfl)) (ty := (.object "com/example/transom/transom/Scope")) (by decide)
  have F_top_b6 : Fld Z h6 b6 "com/example/transom/transom/Scope" "top" "Lcom/example/transom/transom/Scope;" .null := D6 (Or.inr (ww hw 30 rfl)) (ty := (.object "com/example/transom/transom/Scope")) (by decide)
  have F_model_b6 : Fld Z h6 b6 "com/example/transom/transom/Scope" "model" "Ljava/util/Map;" .null := D6 (Or.inr (ww hw 32 rfl)) (ty := (.object "java/util/Map")) (by decide)
  have F_template_b6 : Fld Z h6 b6 "com/example/transom/transom/Scope" "template" "Lcom/example/transom/transom/Template;" .null := D6 (Or.inr (ww hw 34 rfl)) (ty := (.object "com/example/transom/transom/Template")) (by decide)
  have F_renderer_b6 : Fld Z h6 b6 "com/example/transom/transom/Scope" "renderer" "Lcom/example/transom/transom/Scope;" .null := D6 (Or.inr (ww hw 36 rfl)) (ty := (.object "com/example/transom/transom/Scope")) (by decide)
  have F_calls_b6 : Fld Z h6 b6 "com/example/transom/transom/Scope" "calls" "I" (.int (0 : Int32)) := D6 (Or.inr (ww hw 38 rfl)) (ty := .int) (by decide)
  have F_jump_b6 : Fld Z h6 b6 "com/example/transom/transom/Scope" "jump" "Lcom/example/transom/transom/Scope$Jump;" .null := D6 (Or.inl (ww hw 51 rfl)) (ty := (.object "com/example/transom/transom/Scope$Jump")) (by decide)
  have E_b6 := A6
  have g_b6 : n0 ≤ b6 := Nat.le_trans (Nat.le_trans (Nat.le_trans Z0 E4.1) Kc5.1) (Nat.le_of_eq g6.symm)
  have sz_b6 : h0.size ≤ b6 := (Nat.le_trans K5.1 (Nat.le_of_eq g6.symm))
  have K6 : Keep h0 h6 [] := K5.ext E6
  obtain ⟨_, _, ⟨T7, L7, k7, n7⟩, -, X7, ⟨Lc7, hQ7, l7, y7, z7⟩, st7⟩ := X6.specialBack hx (y := (⟨"com/example/transom/transom/Scope", "<init>", "(Lcom/example/transom/transom/Scope;)V"⟩ : MethodName)) rfl hown (mvT hZ (ww hw 39 rfl)) (mvT hZ (ww hw 40 rfl)) (mvT hZ (ww hw 41 rfl)) (by decide) (backOf (W := 1) (rm5 l Z a0 hw [] b6 b4 b4 (0 : Int32) h6 n0 (Nat.le_trans (Nat.le_trans (Nat.le_trans Z0 E4.1) Kc5.1) E6.1) (Nat.ne_of_lt (Nat.lt_of_lt_of_le (E_b4.keep Kc5).lt (Nat.le_of_eq g6.symm))) E_b6 F_values_b6 F_parent_b6 F_top_b6 F_model_b6 F_template_b6 F_renderer_b6 F_calls_b6 g_b6 (Ftop5.ext E6) (Fmodel5.ext E6) (Ftemplate5.ext E6) (Frenderer5.ext E6) (Fcalls5.ext E6)) hZ (ww hw 41 rfl) (ww hw 2 rfl) (by decide) (by decide)) (g := (mkF m 15 #[.val (.int p1), .val (.int p2), .val (.int p3), .val (.ref b4), .unset, .unset, .unset, .unset, .unset, .unset, .unset, .unset, .unset] [(.ref b4), (.ref b6), (.ref b6)])) rfl (by rw [hml]; rfl) (Steps.refl _) (a := b6) (argsL := [(.ref b4)]) (rest := [(.ref b6)]) (lenOf pd_0_2 rfl) rfl (by show 2 * 0 + _ ≤ _; exact Nat.le_of_eq rfl) (hb hby at_15) (fun _ _ => ⟨rfl, e6, (by decide : 3 + 1 ≤ _), (by decide : 24 + 8 ≤ _)⟩)
  dsimp only [Pt.U, Pt.locs, Pt.cells, Pt.slots] at X7 l7 y7 z7 st7 hQ7
  subst l7 y7 z7
  obtain ⟨rfl, N7q, Kc7, Ec7, Ft7⟩ := hQ7
  have N7 := Fr.app N5 N7q
  have S_BREAK_7 := own_stak (S_BREAK_5.ext E6) Kc7 (allS (own_nst E_b6) all0)
  have S_CONTINUE_7 := own_stak (S_CONTINUE_5.ext E6) Kc7 (allS (own_nst E_b6) all0)
  have K7 : Keep h0 T7.heap [] := K6.trans Kc7 (allS (Or.inr sz_b6) all0)
  obtain ⟨cq8, kq8, q8a, q8b, q8c⟩ := isOf hZ rfl (E_b6.keep Kc7)
  obtain ⟨_, _, ⟨T8, L8, k8, n8⟩, -, X8, ⟨Lc8, hQ8, l8, y8, z8⟩, st8⟩ := X7.virtualBack hx (y := (⟨"com/example/transom/transom/Scope", "jumping", "()Z"⟩ : MethodName)) (z := (⟨"com/example/transom/transom/Scope", "jumping", "()Z"⟩ : MethodName)) hown (mvT hZ (ww hw 45 rfl)) (mvT hZ (ww hw 46 rfl)) (notFace_of_selects (args := #[]) (mvT hZ (ww hw 48 rfl))) (mvT hZ (ww hw 48 rfl)) (mvT hZ (ww hw 47 rfl)) (by decide) (backOf (W := 0) (rmJn l Z a0 hw [] b6 b4 T7.heap n0 (Nat.le_trans (Nat.le_trans (Nat.le_trans (Nat.le_trans Z0 E4.1) Kc5.1) E6.1) Kc7.1) Ft7 ((Fjump5.ext E6).keep Kc7 (ninS (Nat.ne_of_lt (Nat.lt_of_lt_of_le (E_b4.keep Kc5).lt (Nat.le_of_eq g6.symm))) nin0))) hZ (ww hw 49 rfl) (ww hw 2 rfl) (by decide) (by decide)) q8a q8c (g := (mkF m 129 #[.val (.int p1), .val (.int p2), .val (.int p3), .val (.ref b4), .val (.ref b6), .val (.ref b4), .val (.ref b6), .val (.int (p1 &&& (3 : Int32))), .val .null, .unset, .unset, .unset, .unset] [(.ref b6)])) rfl (by rw [hml]; rfl) (Steps.refl _) (argsL := []) (rest := []) (lenOf pd_0_4 rfl) rfl (by show 2 * 0 + _ ≤ _; exact Nat.le_of_eq rfl) (hb hby at_129) (fun _ _ => ⟨rfl, rfl, (by decide : 4 + 0 ≤ _), (by decide : 32 + 0 ≤ _)⟩)
  dsimp only [Pt.U, Pt.locs, Pt.cells, Pt.slots] at X8 l8 y8 z8 st8 hQ8
  subst l8 y8 z8
  obtain ⟨rfl, N8q, eh8⟩ := hQ8
  have N8 := Fr.app N7 N8q
  obtain ⟨cq9, kq9, q9a, q9b, q9c⟩ := isOf hZ eh8 (E_b6.keep Kc7)
  obtain ⟨_, _, ⟨T9, L9, k9, n9⟩, -, X9, ⟨Lc9, hQ9, l9, y9, z9⟩, st9⟩ := X8.virtualBack hx (y := (⟨"com/example/transom/transom/Scope", "land", "()Lcom/example/transom/transom/Scope$Jump;"⟩ : MethodName)) (z := (⟨"com/example/transom/transom/Scope", "land", "()Lcom/example/transom/transom/Scope$Jump;"⟩ : MethodName)) hown (mvT hZ (ww hw 52 rfl)) (mvT hZ (ww hw 53 rfl)) (notFace_of_selects (args := #[]) (mvT hZ (ww hw 55 rfl))) (mvT hZ (ww hw 55 rfl)) (mvT hZ (ww hw 54 rfl)) (by decide) (backOf (W := 0) (rmLn l Z a0 hw [] b6 b4 T7.heap n0 (Nat.le_trans (Nat.le_trans (Nat.le_trans (Nat.le_trans Z0 E4.1) Kc5.1) E6.1) Kc7.1) ((Ftop5.ext E6).keep Kc7 (ninS (Nat.ne_of_lt (Nat.lt_of_lt_of_le (E_b4.keep Kc5).lt (Nat.le_of_eq g6.symm))) nin0)) Ft7 ((Fjump5.ext E6).keep Kc7 (ninS (Nat.ne_of_lt (Nat.lt_of_lt_of_le (E_b4.keep Kc5).lt (Nat.le_of_eq g6.symm))) nin0)) (((E_b4.keep Kc5).ext E6).keep Kc7) g_b4) hZ (ww hw 56 rfl) (ww hw 2 rfl) (by decide) (by decide)) q9a q9c (g := (mkF m 154 #[.val (.int p1), .val (.int p2), .val (.int p3), .val (.ref b4), .val (.ref b6), .val (.ref b4), .val (.ref b6), .val (.int (p1 &&& (3 : Int32))), .val .null, .val (.int (1 : Int32)), .unset, .unset, .unset] [(.ref b6)])) rfl (by rw [hml]; rfl) (Steps.refl _) (argsL := []) (rest := []) (lenOf pd_0_5 rfl) rfl (by show 2 * 0 + _ ≤ _; exact Nat.le_of_eq rfl) (hb hby at_154) (fun _ _ => ⟨rfl, eh8, (by decide : 4 + 0 ≤ _), (by decide : 32 + 0 ≤ _)⟩)
  dsimp only [Pt.U, Pt.locs, Pt.cells, Pt.slots] at X9 l9 y9 z9 st9 hQ9
  subst l9 y9 z9
  obtain ⟨rfl, N9q, Kc9, Fj9, Ft9⟩ := hQ9
  have N9 := Fr.app N8 N9q
  have S_BREAK_9 := own_stak S_BREAK_7 Kc9 (allS (own_nst (((E_b4.keep Kc5).ext E6).keep Kc7)) all0)
  have S_CONTINUE_9 := own_stak S_CONTINUE_7 Kc9 (allS (own_nst (((E_b4.keep Kc5).ext E6).keep Kc7)) all0)
  have K9 : Keep h0 T9.heap [] := K7.trans Kc9 (allS (Or.inr sz_b4) all0)
  obtain ⟨cq10, kq10, q10a, q10b, q10c⟩ := isOf hZ rfl ((((E_b4.keep Kc5).ext E6).keep Kc7).keep Kc9)
  obtain ⟨_, _, ⟨T10, L10, k10, n10⟩, -, X10, ⟨Lc10, hQ10, l10, y10, z10⟩, st10⟩ := X9.virtualBack hx (y := (⟨"com/example/transom/transom/Scope", "jumping", "()Z"⟩ : MethodName)) (z := (⟨"com/example/transom/transom/Scope", "jumping", "()Z"⟩ : MethodName)) hown (mvT hZ (ww hw 45 rfl)) (mvT hZ (ww hw 46 rfl)) (notFace_of_selects (args := #[]) (mvT hZ (ww hw 48 rfl))) (mvT hZ (ww hw 48 rfl)) (mvT hZ (ww hw 47 rfl)) (by decide) (backOf (W := 0) (rmJn l Z a0 hw [] b4 b4 T9.heap n0 (Nat.le_trans (Nat.le_trans (Nat.le_trans (Nat.le_trans (Nat.le_trans Z0 E4.1) Kc5.1) E6.1) Kc7.1) Kc9.1) Ft9 Fj9) hZ (ww hw 49 rfl) (ww hw 2 rfl) (by decide) (by decide)) q10a q10c (g := (mkF m 160 #[.val (.int p1), .val (.int p2), .val (.int p3), .val (.ref b4), .val (.ref b6), .val (.ref b4), .val (.ref b6), .val (.int (p1 &&& (3 : Int32))), .val .null, .val (.int (1 : Int32)), .val .null, .unset, .unset] [(.ref b4)])) rfl (by rw [hml]; rfl) (Steps.refl _) (argsL := []) (rest := []) (lenOf pd_0_4 rfl) rfl (by show 2 * 0 + _ ≤ _; exact Nat.le_of_eq rfl) (hb hby at_160) (fun _ _ => ⟨rfl, rfl, (by decide : 4 + 0 ≤ _), (by decide : 32 + 0 ≤ _)⟩)
  dsimp only [Pt.U, Pt.locs, Pt.cells, Pt.slots] at X10 l10 y10 z10 st10 hQ10
  subst l10 y10 z10
  obtain ⟨rfl, N10q, eh10⟩ := hQ10
  have N10 := Fr.app N9 N10q
  obtain ⟨cq11, kq11, q11a, q11b, q11c⟩ := isOf hZ eh10 ((E_b6.keep Kc7).keep Kc9)
  obtain ⟨_, _, ⟨T11, L11, k11, n11⟩, -, X11, ⟨Lc11, hQ11, l11, y11, z11⟩, st11⟩ := X10.virtualBack hx (y := (⟨"com/example/transom/transom/Scope", "jumping", "()Z"⟩ : MethodName)) (z := (⟨"com/example/transom/transom/Scope", "jumping", "()Z"⟩ : MethodName)) hown (mvT hZ (ww hw 45 rfl)) (mvT hZ (ww hw 46 rfl)) (notFace_of_selects (args := #[]) (mvT hZ (ww hw 48 rfl))) (mvT hZ (ww hw 48 rfl)) (mvT hZ (ww hw 47 rfl)) (by decide) (backOf (W := 0) (rmJn l Z a0 hw [] b6 b4 T9.heap n0 (Nat.le_trans (Nat.le_trans (Nat.le_trans (Nat.le_trans (Nat.le_trans Z0 E4.1) Kc5.1) E6.1) Kc7.1) Kc9.1) (Ft7.keep Kc9 (ninS (Ne.symm (Nat.ne_of_lt (Nat.lt_of_lt_of_le (E_b4.keep Kc5).lt (Nat.le_of_eq g6.symm)))) nin0)) Fj9) hZ (ww hw 49 rfl) (ww hw 2 rfl) (by decide) (by decide)) q11a q11c (g := (mkF m 168 #[.val (.int p1), .val (.int p2), .val (.int p3), .val (.ref b4), .val (.ref b6), .val (.ref b4), .val (.ref b6), .val (.int (p1 &&& (3 : Int32))), .val .null, .val (.int (1 : Int32)), .val .null, .unset, .unset] [(.ref b6)])) rfl (by rw [hml]; rfl) (Steps.refl _) (argsL := []) (rest := []) (lenOf pd_0_4 rfl) rfl (by show 2 * 0 + _ ≤ _; exact Nat.le_of_eq rfl) (hb hby at_168) (fun _ _ => ⟨rfl, eh10, (by decide : 4 + 0 ≤ _), (by decide : 32 + 0 ≤ _)⟩)
  dsimp only [Pt.U, Pt.locs, Pt.cells, Pt.slots] at X11 l11 y11 z11 st11 hQ11
  subst l11 y11 z11
  obtain ⟨rfl, N11q, eh11⟩ := hQ11
  have N11 := Fr.app N10 N11q
  obtain ⟨cq12, kq12, q12a, q12b, q12c⟩ := isOf hZ eh11 ((E_b6.keep Kc7).keep Kc9)
  obtain ⟨_, _, ⟨T12, L12, k12, n12⟩, -, X12, ⟨Lc12, hQ12, l12, y12, z12⟩, st12⟩ := X11.virtualBack hx (y := (⟨"com/example/transom/transom/Scope", "land", "()Lcom/example/transom/transom/Scope$Jump;"⟩ : MethodName)) (z := (⟨"com/example/transom/transom/Scope", "land", "()Lcom/example/transom/transom/Scope$Jump;"⟩ : MethodName)) hown (mvT hZ (ww hw 52 rfl)) (mvT hZ (ww hw 53 rfl)) (notFace_of_selects (args := #[]) (mvT hZ (ww hw 55 rfl))) (mvT hZ (ww hw 55 rfl)) (mvT hZ (ww hw 54 rfl)) (by decide) (backOf (W := 0) (rmLn l Z a0 hw [] b6 b4 T9.heap n0 (Nat.le_trans (Nat.le_trans (Nat.le_trans (Nat.le_trans (Nat.le_trans Z0 E4.1) Kc5.1) E6.1) Kc7.1) Kc9.1) Ft9 (Ft7.keep Kc9 (ninS (Ne.symm (Nat.ne_of_lt (Nat.lt_of_lt_of_le (E_b4.keep Kc5).lt (Nat.le_of_eq g6.symm)))) nin0)) Fj9 ((((E_b4.keep Kc5).ext E6).keep Kc7).keep Kc9) g_b4) hZ (ww hw 56 rfl) (ww hw 2 rfl) (by decide) (by decide)) q12a q12c (g := (mkF m 183 #[.val (.int p1), .val (.int p2), .val (.int p3), .val (.ref b4), .val (.ref b6), .val (.ref b4), .val (.ref b6), .val (.int (p1 &&& (3 : Int32))), .val .null, .val (.int (1 : Int32)), .val .null, .val (.int (1 : Int32)), .unset] [(.ref b6)])) rfl (by rw [hml]; rfl) (Steps.refl _) (argsL := []) (rest := []) (lenOf pd_0_5 rfl) rfl (by show 2 * 0 + _ ≤ _; exact Nat.le_of_eq rfl) (hb hby at_183) (fun _ _ => ⟨rfl, eh11, (by decide : 4 + 0 ≤ _), (by decide : 32 + 0 ≤ _)⟩)
  dsimp only [Pt.U, Pt.locs, Pt.cells, Pt.slots] at X12 l12 y12 z12 st12 hQ12
  subst l12 y12 z12
  obtain ⟨rfl, N12q, Kc12, Fj12, Ft12⟩ := hQ12
  have N12 := Fr.app N11 N12q
  have S_BREAK_12 := own_stak S_BREAK_9 Kc12 (allS (own_nst ((((E_b4.keep Kc5).ext E6).keep Kc7).keep Kc9)) all0)
  have S_CONTINUE_12 := own_stak S_CONTINUE_9 Kc12 (allS (own_nst ((((E_b4.keep Kc5).ext E6).keep Kc7).keep Kc9)) all0)
  have K12 : Keep h0 T12.heap [] := K9.trans Kc12 (allS (Or.inr sz_b4) all0)
  obtain ⟨fs, hr, hrun, hended, hW, hsame⟩ := X12.leave (v := some (.int (1 : Int32))) (fun h => by rw [Bd.returns] at h; cases h)
  refine ⟨_, _, pre0 _ ?_, hrun, hended, _, _, rfl, ?_, ⟨_, rfl⟩, hW, hsame.mono (by decide) (by decide)⟩
  · show Steps _ _ _ (s₁.setTop (mkF m 0 #[.val (.int p1), .val (.int p2), .val (.int p3), .unset, .unset, .unset, .unset, .unset, .unset, .unset, .unset, .unset, .unset] [])) _
    refine st4 _ ?_
    show Steps _ _ _ (T4.setTop (mkF m 3 #[.val (.int p1), .val (.int p2), .val (.int p3), .unset, .unset, .unset, .unset, .unset, .unset, .unset, .unset, .unset, .unset] [(.ref b4)])) _
    refine XS.dup X4.here hx rfl (hb hby at_3) rfl rfl ?_
    show Steps _ _ _ (T4.setTop (mkF m 4 #[.val (.int p1), .val (.int p2), .val (.int p3), .unset, .unset, .unset, .unset, .unset, .unset, .unset, .unset, .unset, .unset] [(.ref b4), (.ref b4)])) _
    refine XS.aconstNull X4.here hx rfl (hb hby at_4) ?_
    show Steps _ _ _ (T4.setTop (mkF m 5 #[.val (.int p1), .val (.int p2), .val (.int p3), .unset, .unset, .unset, .unset, .unset, .unset, .unset, .unset, .unset, .unset] [.null, (.ref b4), (.ref b4)])) _
    refine XS.aconstNull X4.here hx rfl (hb hby at_5) ?_
    show Steps _ _ _ (T4.setTop (mkF m 6 #[.val (.int p1), .val (.int p2), .val (.int p3), .unset, .unset, .unset, .unset, .unset, .unset, .unset, .unset, .unset, .unset] [.null, .null, (.ref b4), (.ref b4)])) _
    refine st5.trans ?_
    show Steps _ _ _ (T5.setTop (mkF m 9 #[.val (.int p1), .val (.int p2), .val (.int p3), .unset, .unset, .unset, .unset, .unset, .unset, .unset, .unset, .unset, .unset] [(.ref b4)])) _
    refine XS.astoreN X5.here hx rfl (hb hby at_9) rfl rfl (l' := #[.val (.int p1), .val (.int p2), .val (.int p3), .val (.ref b4), .unset, .unset, .unset, .unset, .unset, .unset, .unset, .unset, .unset]) rfl ?_
    show Steps _ _ _ (T5.setTop (mkF m 10 #[.val (.int p1), .val (.int p2), .val (.int p3), .val (.ref b4), .unset, .unset, .unset, .unset, .unset, .unset, .unset, .unset, .unset] [])) _
    refine st6 _ ?_
    show Steps _ _ _ (T6.setTop (mkF m 13 #[.val (.int p1), .val (.int p2), .val (.int p3), .val (.ref b4), .unset, .unset, .unset, .unset, .unset, .unset, .unset, .unset, .unset] [(.ref b6)])) _
    refine XS.dup X6.here hx rfl (hb hby at_13) rfl rfl ?_
    show Steps _ _ _ (T6.setTop (mkF m 14 #[.val (.int p1), .val (.int p2), .val (.int p3), .val (.ref b4), .unset, .unset, .unset, .unset, .unset, .unset, .unset, .unset, .unset] [(.ref b6), (.ref b6)])) _
    refine XS.aloadN X6.here hx rfl (hb hby at_14) rfl rfl ?_
    show Steps _ _ _ (T6.setTop (mkF m 15 #[.val (.int p1), .val (.int p2), .val (.int p3), .val (.ref b4), .unset, .unset, .unset, .unset, .unset, .unset, .unset, .unset, .unset] [(.ref b4), (.ref b6), (.ref b6)])) _
    refine st7.trans ?_
    show Steps _ _ _ (T7.setTop (mkF m 18 #[.val (.int p1), .val (.int p2), .val (.int p3), .val (.ref b4), .unset, .unset, .unset, .unset, .unset, .unset, .unset, .unset, .unset] [(.ref b6)])) _
    refine XS.astore X7.here hx rfl (hb hby at_18) rfl rfl (l' := #[.val (.int p1), .val (.int p2), .val (.int p3), .val (.ref b4), .val (.ref b6), .unset, .unset, .unset, .unset, .unset, .unset, .unset, .unset]) rfl ?_
    show Steps _ _ _ (T7.setTop (mkF m 20 #[.val (.int p1), .val (.int p2), .val (.int p3), .val (.ref b4), .val (.ref b6), .unset, .unset, .unset, .unset, .unset, .unset, .unset, .unset] [])) _
    refine XS.iloadN X7.here hx rfl (hb hby at_20) rfl ?_
    show Steps _ _ _ (T7.setTop (mkF m 21 #[.val (.int p1), .val (.int p2), .val (.int p3), .val (.ref b4), .val (.ref b6), .unset, .unset, .unset, .unset, .unset, .unset, .unset, .unset] [(.int p2)])) _
    refine XS.iconst X7.here hx rfl (hb hby at_21) ?_
    show Steps _ _ _ (T7.setTop (mkF m 22 #[.val (.int p1), .val (.int p2), .val (.int p3), .val (.ref b4), .val (.ref b6), .unset, .unset, .unset, .unset, .unset, .unset, .unset, .unset] [(.int (1 : Int32)), (.int p2)])) _
    refine XS.iand X7.here hx rfl (hb hby at_22) rfl ?_
    show Steps _ _ _ (T7.setTop (mkF m 23 #[.val (.int p1), .val (.int p2), .val (.int p3), .val (.ref b4), .val (.ref b6), .unset, .unset, .unset, .unset, .unset, .unset, .unset, .unset] [(.int (p2 &&& (1 : Int32)))])) _
    refine XS.ifYes X7.here hx rfl (pc0 := 23) (pc' := 31) rfl (hb hby at_23) rfl ((if0 _ _).trans (teq hc23).1) (by decide) (by decide) ?_
    show Steps _ _ _ (T7.setTop (mkF m 31 #[.val (.int p1), .val (.int p2), .val (.int p3), .val (.ref b4), .val (.ref b6), .unset, .unset, .unset, .unset, .unset, .unset, .unset, .unset] [])) _
    refine XS.aloadN X7.here hx rfl (hb hby at_31) rfl rfl ?_
    show Steps _ _ _ (T7.setTop (mkF m 32 #[.val (.int p1), .val (.int p2), .val (.int p3), .val (.ref b4), .val (.ref b6), .unset, .unset, .unset, .unset, .unset, .unset, .unset, .unset] [(.ref b4)])) _
    refine XS.astore X7.here hx rfl (hb hby at_32) rfl rfl (l' := #[.val (.int p1), .val (.int p2), .val (.int p3), .val (.ref b4), .val (.ref b6), .val (.ref b4), .unset, .unset, .unset, .unset, .unset, .unset, .unset]) rfl ?_
    show Steps _ _ _ (T7.setTop (mkF m 34 #[.val (.int p1), .val (.int p2), .val (.int p3), .val (.ref b4), .val (.ref b6), .val (.ref b4), .unset, .unset, .unset, .unset, .unset, .unset, .unset] [])) _
    refine XS.iloadN X7.here hx rfl (hb hby at_34) rfl ?_
    show Steps _ _ _ (T7.setTop (mkF m 35 #[.val (.int p1), .val (.int p2), .val (.int p3), .val (.ref b4), .val (.ref b6), .val (.ref b4), .unset, .unset, .unset, .unset, .unset, .unset, .unset] [(.int p3)])) _
    refine XS.iconst X7.here hx rfl (hb hby at_35) ?_
    show Steps _ _ _ (T7.setTop (mkF m 36 #[.val (.int p1), .val (.int p2), .val (.int p3), .val (.ref b4), .val (.ref b6), .val (.ref b4), .unset, .unset, .unset, .unset, .unset, .unset, .unset] [(.int (1 : Int32)), (.int p3)])) _
    refine XS.iand X7.here hx rfl (hb hby at_36) rfl ?_
    show Steps _ _ _ (T7.setTop (mkF m 37 #[.val (.int p1), .val (.int p2), .val (.int p3), .val (.ref b4), .val (.ref b6), .val (.ref b4), .unset, .unset, .unset, .unset, .unset, .unset, .unset] [(.int (p3 &&& (1 : Int32)))])) _
    refine XS.ifNo X7.here hx rfl (hb hby at_37) rfl ((if0 _ _).trans (feq hc37).1) ?_
    show Steps _ _ _ (T7.setTop (mkF m 40 #[.val (.int p1), .val (.int p2), .val (.int p3), .val (.ref b4), .val (.ref b6), .val (.ref b4), .unset, .unset, .unset, .unset, .unset, .unset, .unset] [])) _
    refine XS.aload X7.here hx rfl (hb hby at_40) rfl rfl ?_
    show Steps _ _ _ (T7.setTop (mkF m 42 #[.val (.int p1), .val (.int p2), .val (.int p3), .val (.ref b4), .val (.ref b6), .val (.ref b4), .unset, .unset, .unset, .unset, .unset, .unset, .unset] [(.ref b6)])) _
    refine XS.goto X7.here hx rfl (pc0 := 42) (pc' := 46) rfl (hb hby at_42) (by decide) (by decide) ?_
    show Steps _ _ _ (T7.setTop (mkF m 46 #[.val (.int p1), .val (.int p2), .val (.int p3), .val (.ref b4), .val (.ref b6), .val (.ref b4), .unset, .unset, .unset, .unset, .unset, .unset, .unset] [(.ref b6)])) _
    refine XS.astore X7.here hx rfl (hb hby at_46) rfl rfl (l' := #[.val (.int p1), .val (.int p2), .val (.int p3), .val (.ref b4), .val (.ref b6), .val (.ref b4), .val (.ref b6), .unset, .unset, .unset, .unset, .unset, .unset]) rfl ?_
    show Steps _ _ _ (T7.setTop (mkF m 48 #[.val (.int p1), .val (.int p2), .val (.int p3), .val (.ref b4), .val (.ref b6), .val (.ref b4), .val (.ref b6), .unset, .unset, .unset, .unset, .unset, .unset] [])) _
    refine XS.iloadN X7.here hx rfl (hb hby at_48) rfl ?_
    show Steps _ _ _ (T7.setTop (mkF m 49 #[.val (.int p1), .val (.int p2), .val (.int p3), .val (.ref b4), .val (.ref b6), .val (.ref b4), .val (.ref b6), .unset, .unset, .unset, .unset, .unset, .unset] [(.int p1)])) _
    refine XS.iconst X7.here hx rfl (hb hby at_49) ?_
    show Steps _ _ _ (T7.setTop (mkF m 50 #[.val (.int p1), .val (.int p2), .val (.int p3), .val (.ref b4), .val (.ref b6), .val (.ref b4), .val (.ref b6), .unset, .unset, .unset, .unset, .unset, .unset] [(.int (3 : Int32)), (.int p1)])) _
    refine XS.iand X7.here hx rfl (hb hby at_50) rfl ?_
    show Steps _ _ _ (T7.setTop (mkF m 51 #[.val (.int p1), .val (.int p2), .val (.int p3), .val (.ref b4), .val (.ref b6), .val (.ref b4), .val (.ref b6), .unset, .unset, .unset, .unset, .unset, .unset] [(.int (p1 &&& (3 : Int32)))])) _
    refine XS.istore X7.here hx rfl (hb hby at_51) rfl (l' := #[.val (.int p1), .val (.int p2), .val (.int p3), .val (.ref b4), .val (.ref b6), .val (.ref b4), .val (.ref b6), .val (.int (p1 &&& (3 : Int32))), .unset, .unset, .unset, .unset, .unset]) rfl ?_
    show Steps _ _ _ (T7.setTop (mkF m 53 #[.val (.int p1), .val (.int p2), .val (.int p3), .val (.ref b4), .val (.ref b6), .val (.ref b4), .val (.ref b6), .val (.int (p1 &&& (3 : Int32))), .unset, .unset, .unset, .unset, .unset] [])) _
    refine XS.aconstNull X7.here hx rfl (hb hby at_53) ?_
    show Steps _ _ _ (T7.setTop (mkF m 54 #[.val (.int p1), .val (.int p2), .val (.int p3), .val (.ref b4), .val (.ref b6), .val (.ref b4), .val (.ref b6), .val (.int (p1 &&& (3 : Int32))), .unset, .unset, .unset, .unset, .unset] [.null])) _
    refine XS.astore X7.here hx rfl (hb hby at_54) rfl rfl (l' := #[.val (.int p1), .val (.int p2), .val (.int p3), .val (.ref b4), .val (.ref b6), .val (.ref b4), .val (.ref b6), .val (.int (p1 &&& (3 : Int32))), .val .null, .unset, .unset, .unset, .unset]) rfl ?_
    show Steps _ _ _ (T7.setTop (mkF m 56 #[.val (.int p1), .val (.int p2), .val (.int p3), .val (.ref b4), .val (.ref b6), .val (.ref b4), .val (.ref b6), .val (.int (p1 &&& (3 : Int32))), .val .null, .unset, .unset, .unset, .unset] [])) _
    refine XS.iload X7.here hx rfl (hb hby at_56) rfl ?_
    show Steps _ _ _ (T7.setTop (mkF m 58 #[.val (.int p1), .val (.int p2), .val (.int p3), .val (.ref b4), .val (.ref b6), .val (.ref b4), .val (.ref b6), .val (.int (p1 &&& (3 : Int32))), .val .null, .unset, .unset, .unset, .unset] [(.int (p1 &&& (3 : Int32)))])) _
    refine XS.iconst X7.here hx rfl (hb hby at_58) ?_
    show Steps _ _ _ (T7.setTop (mkF m 59 #[.val (.int p1), .val (.int p2), .val (.int p3), .val (.ref b4), .val (.ref b6), .val (.ref b4), .val (.ref b6), .val (.int (p1 &&& (3 : Int32))), .val .null, .unset, .unset, .unset, .unset] [(.int (1 : Int32)), (.int (p1 &&& (3 : Int32)))])) _
    refine XS.icmpYes X7.here hx rfl (pc0 := 59) (pc' := 78) rfl (hb hby at_59) rfl (feq hc59).2 (by decide) (by decide) ?_
    show Steps _ _ _ (T7.setTop (mkF m 78 #[.val (.int p1), .val (.int p2), .val (.int p3), .val (.ref b4), .val (.ref b6), .val (.ref b4), .val (.ref b6), .val (.int (p1 &&& (3 : Int32))), .val .null, .unset, .unset, .unset, .unset] [])) _
    refine XS.iload X7.here hx rfl (hb hby at_78) rfl ?_
    show Steps _ _ _ (T7.setTop (mkF m 80 #[.val (.int p1), .val (.int p2), .val (.int p3), .val (.ref b4), .val (.ref b6), .val (.ref b4), .val (.ref b6), .val (.int (p1 &&& (3 : Int32))), .val .null, .unset, .unset, .unset, .unset] [(.int (p1 &&& (3 : Int32)))])) _
    refine XS.iconst X7.here hx rfl (hb hby at_80) ?_
    show Steps _ _ _ (T7.setTop (mkF m 81 #[.val (.int p1), .val (.int p2), .val (.int p3), .val (.ref b4), .val (.ref b6), .val (.ref b4), .val (.ref b6), .val (.int (p1 &&& (3 : Int32))), .val .null, .unset, .unset, .unset, .unset] [(.int (2 : Int32)), (.int (p1 &&& (3 : Int32)))])) _
    refine XS.icmpYes X7.here hx rfl (pc0 := 81) (pc' := 100) rfl (hb hby at_81) rfl (feq hc81).2 (by decide) (by decide) ?_
    show Steps _ _ _ (T7.setTop (mkF m 100 #[.val (.int p1), .val (.int p2), .val (.int p3), .val (.ref b4), .val (.ref b6), .val (.ref b4), .val (.ref b6), .val (.int (p1 &&& (3 : Int32))), .val .null, .unset, .unset, .unset, .unset] [])) _
    refine XS.iload X7.here hx rfl (hb hby at_100) rfl ?_
    show Steps _ _ _ (T7.setTop (mkF m 102 #[.val (.int p1), .val (.int p2), .val (.int p3), .val (.ref b4), .val (.ref b6), .val (.ref b4), .val (.ref b6), .val (.int (p1 &&& (3 : Int32))), .val .null, .unset, .unset, .unset, .unset] [(.int (p1 &&& (3 : Int32)))])) _
    refine XS.iconst X7.here hx rfl (hb hby at_102) ?_
    show Steps _ _ _ (T7.setTop (mkF m 103 #[.val (.int p1), .val (.int p2), .val (.int p3), .val (.ref b4), .val (.ref b6), .val (.ref b4), .val (.ref b6), .val (.int (p1 &&& (3 : Int32))), .val .null, .unset, .unset, .unset, .unset] [(.int (3 : Int32)), (.int (p1 &&& (3 : Int32)))])) _
    refine XS.icmpYes X7.here hx rfl (pc0 := 103) (pc' := 127) rfl (hb hby at_103) rfl (feq hc103).2 (by decide) (by decide) ?_
    show Steps _ _ _ (T7.setTop (mkF m 127 #[.val (.int p1), .val (.int p2), .val (.int p3), .val (.ref b4), .val (.ref b6), .val (.ref b4), .val (.ref b6), .val (.int (p1 &&& (3 : Int32))), .val .null, .unset, .unset, .unset, .unset] [])) _
    refine XS.aload X7.here hx rfl (hb hby at_127) rfl rfl ?_
    show Steps _ _ _ (T7.setTop (mkF m 129 #[.val (.int p1), .val (.int p2), .val (.int p3), .val (.ref b4), .val (.ref b6), .val (.ref b4), .val (.ref b6), .val (.int (p1 &&& (3 : Int32))), .val .null, .unset, .unset, .unset, .unset] [(.ref b6)])) _
    refine st8.trans ?_
    show Steps _ _ _ (T8.setTop (mkF m 132 #[.val (.int p1), .val (.int p2), .val (.int p3), .val (.ref b4), .val (.ref b6), .val (.ref b4), .val (.ref b6), .val (.int (p1 &&& (3 : Int32))), .val .null, .unset, .unset, .unset, .unset] [(.int (0 : Int32))])) _
    refine XS.aload X8.here hx rfl (hb hby at_132) rfl rfl ?_
    show Steps _ _ _ (T8.setTop (mkF m 134 #[.val (.int p1), .val (.int p2), .val (.int p3), .val (.ref b4), .val (.ref b6), .val (.ref b4), .val (.ref b6), .val (.int (p1 &&& (3 : Int32))), .val .null, .unset, .unset, .unset, .unset] [.null, (.int (0 : Int32))])) _
    refine XS.ifnullYes X8.here hx rfl (pc0 := 134) (pc' := 141) rfl (hb hby at_134) rfl (by decide) (by decide) ?_
    show Steps _ _ _ (T8.setTop (mkF m 141 #[.val (.int p1), .val (.int p2), .val (.int p3), .val (.ref b4), .val (.ref b6), .val (.ref b4), .val (.ref b6), .val (.int (p1 &&& (3 : Int32))), .val .null, .unset, .unset, .unset, .unset] [(.int (0 : Int32))])) _
    refine XS.iconst X8.here hx rfl (hb hby at_141) ?_
    show Steps _ _ _ (T8.setTop (mkF m 142 #[.val (.int p1), .val (.int p2), .val (.int p3), .val (.ref b4), .val (.ref b6), .val (.ref b4), .val (.ref b6), .val (.int (p1 &&& (3 : Int32))), .val .null, .unset, .unset, .unset, .unset] [(.int (0 : Int32)), (.int (0 : Int32))])) _
    refine XS.icmpNo X8.here hx rfl (hb hby at_142) rfl (teq (rfl : (0 : Int32) = (0 : Int32))).2 ?_
    show Steps _ _ _ (T8.setTop (mkF m 145 #[.val (.int p1), .val (.int p2), .val (.int p3), .val (.ref b4), .val (.ref b6), .val (.ref b4), .val (.ref b6), .val (.int (p1 &&& (3 : Int32))), .val .null, .unset, .unset, .unset, .unset] [])) _
    refine XS.iconst X8.here hx rfl (hb hby at_145) ?_
    show Steps _ _ _ (T8.setTop (mkF m 146 #[.val (.int p1), .val (.int p2), .val (.int p3), .val (.ref b4), .val (.ref b6), .val (.ref b4), .val (.ref b6), .val (.int (p1 &&& (3 : Int32))), .val .null, .unset, .unset, .unset, .unset] [(.int (1 : Int32))])) _
    refine XS.goto X8.here hx rfl (pc0 := 146) (pc' := 150) rfl (hb hby at_146) (by decide) (by decide) ?_
    show Steps _ _ _ (T8.setTop (mkF m 150 #[.val (.int p1), .val (.int p2), .val (.int p3), .val (.ref b4), .val (.ref b6), .val (.ref b4), .val (.ref b6), .val (.int (p1 &&& (3 : Int32))), .val .null, .unset, .unset, .unset, .unset] [(.int (1 : Int32))])) _
    refine XS.istore X8.here hx rfl (hb hby at_150) rfl (l' := #[.val (.int p1), .val (.int p2), .val (.int p3), .val (.ref b4), .val (.ref b6), .val (.ref b4), .val (.ref b6), .val (.int (p1 &&& (3 : Int32))), .val .null, .val (.int (1 : Int32)), .unset, .unset, .unset]) rfl ?_
    show Steps _ _ _ (T8.setTop (mkF m 152 #[.val (.int p1), .val (.int p2), .val (.int p3), .val (.ref b4), .val (.ref b6), .val (.ref b4), .val (.ref b6), .val (.int (p1 &&& (3 : Int32))), .val .null, .val (.int (1 : Int32)), .unset, .unset, .unset] [])) _
    refine XS.aload X8.here hx rfl (hb hby at_152) rfl rfl ?_
    show Steps _ _ _ (T8.setTop (mkF m 154 #[.val (.int p1), .val (.int p2), .val (.int p3), .val (.ref b4), .val (.ref b6), .val (.ref b4), .val (.ref b6), .val (.int (p1 &&& (3 : Int32))), .val .null, .val (.int (1 : Int32)), .unset, .unset, .unset] [(.ref b6)])) _
    refine st9.trans ?_
    show Steps _ _ _ (T9.setTop (mkF m 157 #[.val (.int p1), .val (.int p2), .val (.int p3), .val (.ref b4), .val (.ref b6), .val (.ref b4), .val (.ref b6), .val (.int (p1 &&& (3 : Int32))), .val .null, .val (.int (1 : Int32)), .unset, .unset, .unset] [.null])) _
    refine XS.astore X9.here hx rfl (hb hby at_157) rfl rfl (l' := #[.val (.int p1), .val (.int p2), .val (.int p3), .val (.ref b4), .val (.ref b6), .val (.ref b4), .val (.ref b6), .val (.int (p1 &&& (3 : Int32))), .val .null, .val (.int (1 : Int32)), .val .null, .unset, .unset]) rfl ?_
    show Steps _ _ _ (T9.setTop (mkF m 159 #[.val (.int p1), .val (.int p2), .val (.int p3), .val (.ref b4), .val (.ref b6), .val (.ref b4), .val (.ref b6), .val (.int (p1 &&& (3 : Int32))), .val .null, .val (.int (1 : Int32)), .val .null, .unset, .unset] [])) _
    refine XS.aloadN X9.here hx rfl (hb hby at_159) rfl rfl ?_
    show Steps _ _ _ (T9.setTop (mkF m 160 #[.val (.int p1), .val (.int p2), .val (.int p3), .val (.ref b4), .val (.ref b6), .val (.ref b4), .val (.ref b6), .val (.int (p1 &&& (3 : Int32))), .val .null, .val (.int (1 : Int32)), .val .null, .unset, .unset] [(.ref b4)])) _
    refine st10.trans ?_
    show Steps _ _ _ (T10.setTop (mkF m 163 #[.val (.int p1), .val (.int p2), .val (.int p3), .val (.ref b4), .val (.ref b6), .val (.ref b4), .val (.ref b6), .val (.int (p1 &&& (3 : Int32))), .val .null, .val (.int (1 : Int32)), .val .null, .unset, .unset] [(.int (0 : Int32))])) _
    refine XS.ifNo X10.here hx rfl (hb hby at_163) rfl ((if0 _ _).trans (teq (rfl : (0 : Int32) = (0 : Int32))).2) ?_
    show Steps _ _ _ (T10.setTop (mkF m 166 #[.val (.int p1), .val (.int p2), .val (.int p3), .val (.ref b4), .val (.ref b6), .val (.ref b4), .val (.ref b6), .val (.int (p1 &&& (3 : Int32))), .val .null, .val (.int (1 : Int32)), .val .null, .unset, .unset] [])) _
    refine XS.aload X10.here hx rfl (hb hby at_166) rfl rfl ?_
    show Steps _ _ _ (T10.setTop (mkF m 168 #[.val (.int p1), .val (.int p2), .val (.int p3), .val (.ref b4), .val (.ref b6), .val (.ref b4), .val (.ref b6), .val (.int (p1 &&& (3 : Int32))), .val .null, .val (.int (1 : Int32)), .val .null, .unset, .unset] [(.ref b6)])) _
    refine st11.trans ?_
    show Steps _ _ _ (T11.setTop (mkF m 171 #[.val (.int p1), .val (.int p2), .val (.int p3), .val (.ref b4), .val (.ref b6), .val (.ref b4), .val (.ref b6), .val (.int (p1 &&& (3 : Int32))), .val .null, .val (.int (1 : Int32)), .val .null, .unset, .unset] [(.int (0 : Int32))])) _
    refine XS.ifNo X11.here hx rfl (hb hby at_171) rfl ((if0 _ _).trans (teq (rfl : (0 : Int32) = (0 : Int32))).2) ?_
    show Steps _ _ _ (T11.setTop (mkF m 174 #[.val (.int p1), .val (.int p2), .val (.int p3), .val (.ref b4), .val (.ref b6), .val (.ref b4), .val (.ref b6), .val (.int (p1 &&& (3 : Int32))), .val .null, .val (.int (1 : Int32)), .val .null, .unset, .unset] [])) _
    refine XS.iconst X11.here hx rfl (hb hby at_174) ?_
    show Steps _ _ _ (T11.setTop (mkF m 175 #[.val (.int p1), .val (.int p2), .val (.int p3), .val (.ref b4), .val (.ref b6), .val (.ref b4), .val (.ref b6), .val (.int (p1 &&& (3 : Int32))), .val .null, .val (.int (1 : Int32)), .val .null, .unset, .unset] [(.int (1 : Int32))])) _
    refine XS.goto X11.here hx rfl (pc0 := 175) (pc' := 179) rfl (hb hby at_175) (by decide) (by decide) ?_
    show Steps _ _ _ (T11.setTop (mkF m 179 #[.val (.int p1), .val (.int p2), .val (.int p3), .val (.ref b4), .val (.ref b6), .val (.ref b4), .val (.ref b6), .val (.int (p1 &&& (3 : Int32))), .val .null, .val (.int (1 : Int32)), .val .null, .unset, .unset] [(.int (1 : Int32))])) _
    refine XS.istore X11.here hx rfl (hb hby at_179) rfl (l' := #[.val (.int p1), .val (.int p2), .val (.int p3), .val (.ref b4), .val (.ref b6), .val (.ref b4), .val (.ref b6), .val (.int (p1 &&& (3 : Int32))), .val .null, .val (.int (1 : Int32)), .val .null, .val (.int (1 : Int32)), .unset]) rfl ?_
    show Steps _ _ _ (T11.setTop (mkF m 181 #[.val (.int p1), .val (.int p2), .val (.int p3), .val (.ref b4), .val (.ref b6), .val (.ref b4), .val (.ref b6), .val (.int (p1 &&& (3 : Int32))), .val .null, .val (.int (1 : Int32)), .val .null, .val (.int (1 : Int32)), .unset] [])) _
    refine XS.aload X11.here hx rfl (hb hby at_181) rfl rfl ?_
    show Steps _ _ _ (T11.setTop (mkF m 183 #[.val (.int p1), .val (.int p2), .val (.int p3), .val (.ref b4), .val (.ref b6), .val (.ref b4), .val (.ref b6), .val (.int (p1 &&& (3 : Int32))), .val .null, .val (.int (1 : Int32)), .val .null, .val (.int (1 : Int32)), .unset] [(.ref b6)])) _
    refine st12.trans ?_
    show Steps _ _ _ (T12.setTop (mkF m 186 #[.val (.int p1), .val (.int p2), .val (.int p3), .val (.ref b4), .val (.ref b6), .val (.ref b4), .val (.ref b6), .val (.int (p1 &&& (3 : Int32))), .val .null, .val (.int (1 : Int32)), .val .null, .val (.int (1 : Int32)), .unset] [.null])) _
    refine XS.astore X12.here hx rfl (hb hby at_186) rfl rfl (l' := #[.val (.int p1), .val (.int p2), .val (.int p3), .val (.ref b4), .val (.ref b6), .val (.ref b4), .val (.ref b6), .val (.int (p1 &&& (3 : Int32))), .val .null, .val (.int (1 : Int32)), .val .null, .val (.int (1 : Int32)), .val .null]) rfl ?_
    show Steps _ _ _ (T12.setTop (mkF m 188 #[.val (.int p1), .val (.int p2), .val (.int p3), .val (.ref b4), .val (.ref b6), .val (.ref b4), .val (.ref b6), .val (.int (p1 &&& (3 : Int32))), .val .null, .val (.int (1 : Int32)), .val .null, .val (.int (1 : Int32)), .val .null] [])) _
    refine XS.iload X12.here hx rfl (hb hby at_188) rfl ?_
    show Steps _ _ _ (T12.setTop (mkF m 190 #[.val (.int p1), .val (.int p2), .val (.int p3), .val (.ref b4), .val (.ref b6), .val (.ref b4), .val (.ref b6), .val (.int (p1 &&& (3 : Int32))), .val .null, .val (.int (1 : Int32)), .val .null, .val (.int (1 : Int32)), .val .null] [(.int (1 : Int32))])) _
    refine XS.ifNo X12.here hx rfl (hb hby at_190) rfl ((if0 _ _).trans (feq hc190).1) ?_
    show Steps _ _ _ (T12.setTop (mkF m 193 #[.val (.int p1), .val (.int p2), .val (.int p3), .val (.ref b4), .val (.ref b6), .val (.ref b4), .val (.ref b6), .val (.int (p1 &&& (3 : Int32))), .val .null, .val (.int (1 : Int32)), .val .null, .val (.int (1 : Int32)), .val .null] [])) _
    refine XS.aload X12.here hx rfl (hb hby at_193) rfl rfl ?_
    show Steps _ _ _ (T12.setTop (mkF m 195 #[.val (.int p1), .val (.int p2), .val (.int p3), .val (.ref b4), .val (.ref b6), .val (.ref b4), .val (.ref b6), .val (.int (p1 &&& (3 : Int32))), .val .null, .val (.int (1 : Int32)), .val .null, .val (.int (1 : Int32)), .val .null] [.null])) _
    refine XS.aload X12.here hx rfl (hb hby at_195) rfl rfl ?_
    show Steps _ _ _ (T12.setTop (mkF m 197 #[.val (.int p1), .val (.int p2), .val (.int p3), .val (.ref b4), .val (.ref b6), .val (.ref b4), .val (.ref b6), .val (.int (p1 &&& (3 : Int32))), .val .null, .val (.int (1 : Int32)), .val .null, .val (.int (1 : Int32)), .val .null] [.null, .null])) _
    refine Jvm.RoadKit.acmp (g := (mkF m 197 #[.val (.int p1), .val (.int p2), .val (.int p3), .val (.ref b4), .val (.ref b6), .val (.ref b4), .val (.ref b6), .val (.int (p1 &&& (3 : Int32))), .val .null, .val (.int (1 : Int32)), .val .null, .val (.int (1 : Int32)), .val .null] [.null, .null])) X12 hx rfl rfl rfl (pc0 := 197) (pc' := 200) (same := true) rfl (hb hby at_197) rfl (decide_eq_true rfl) (by decide) (by decide) ?_
    show Steps _ _ _ (T12.setTop (mkF m 200 #[.val (.int p1), .val (.int p2), .val (.int p3), .val (.ref b4), .val (.ref b6), .val (.ref b4), .val (.ref b6), .val (.int (p1 &&& (3 : Int32))), .val .null, .val (.int (1 : Int32)), .val .null, .val (.int (1 : Int32)), .val .null] [])) _
    refine XS.iload X12.here hx rfl (hb hby at_200) rfl ?_
    show Steps _ _ _ (T12.setTop (mkF m 202 #[.val (.int p1), .val (.int p2), .val (.int p3), .val (.ref b4), .val (.ref b6), .val (.ref b4), .val (.ref b6), .val (.int (p1 &&& (3 : Int32))), .val .null, .val (.int (1 : Int32)), .val .null, .val (.int (1 : Int32)), .val .null] [(.int (1 : Int32))])) _
    refine XS.ifNo X12.here hx rfl (hb hby at_202) rfl ((if0 _ _).trans (feq hc202).1) ?_
    show Steps _ _ _ (T12.setTop (mkF m 205 #[.val (.int p1), .val (.int p2), .val (.int p3), .val (.ref b4), .val (.ref b6), .val (.ref b4), .val (.ref b6), .val (.int (p1 &&& (3 : Int32))), .val .null, .val (.int (1 : Int32)), .val .null, .val (.int (1 : Int32)), .val .null] [])) _
    refine XS.aload X12.here hx rfl (hb hby at_205) rfl rfl ?_
    show Steps _ _ _ (T12.setTop (mkF m 207 #[.val (.int p1), .val (.int p2), .val (.int p3), .val (.ref b4), .val (.ref b6), .val (.ref b4), .val (.ref b6), .val (.int (p1 &&& (3 : Int32))), .val .null, .val (.int (1 : Int32)), .val .null, .val (.int (1 : Int32)), .val .null] [.null])) _
    refine XS.ifnonnullNo X12.here hx rfl (hb hby at_207) rfl ?_
    show Steps _ _ _ (T12.setTop (mkF m 210 #[.val (.int p1), .val (.int p2), .val (.int p3), .val (.ref b4), .val (.ref b6), .val (.ref b4), .val (.ref b6), .val (.int (p1 &&& (3 : Int32))), .val .null, .val (.int (1 : Int32)), .val .null, .val (.int (1 : Int32)), .val .null] [])) _
    refine XS.iconst X12.here hx rfl (hb hby at_210) ?_
    show Steps _ _ _ (T12.setTop (mkF m 211 #[.val (.int p1), .val (.int p2), .val (.int p3), .val (.ref b4), .val (.ref b6), .val (.ref b4), .val (.ref b6), .val (.int (p1 &&& (3 : Int32))), .val .null, .val (.int (1 : Int32)), .val .null, .val (.int (1 : Int32)), .val .null] [(.int (1 : Int32))])) _
    refine XS.goto X12.here hx rfl (pc0 := 211) (pc' := 215) rfl (hb hby at_211) (by decide) (by decide) ?_
    show Steps _ _ _ (T12.setTop (mkF m 215 #[.val (.int p1), .val (.int p2), .val (.int p3), .val (.ref b4), .val (.ref b6), .val (.ref b4), .val (.ref b6), .val (.int (p1 &&& (3 : Int32))), .val .null, .val (.int (1 : Int32)), .val .null, .val (.int (1 : Int32)), .val .null] [(.int (1 : Int32))])) _
    exact retN X12 hx (t := .boolean) Bd.returns (by simp) (hb hby at_215) hr
  · show Q0 Z p1 p2 p3 uB uC h0 n0 _ T12.heap _
    exact ⟨rfl, N12⟩
-- 2. THE CONTRACT: what this body leaves is yours
-- its room: frames: the greatest, locals: the greatest, cells 4 + .., slots 32 + ..: rm1: frames + 1; locals 1 + 3 + 11 + its room's locals; its cells and slots besides; rm5: frames + 1; locals 1 + 2 + 11 + its room's locals; its cells and slots besides; rm9: frames + 1; locals 0 + 2 + 11 + its room's locals; its cells and slots besides; rm7: frames + 1; locals 0 + 1 + 11 + its room's locals; its cells and slots besides; rm8: frames + 1; locals 0 + 2 + 11 + its room's locals; its cells and slots besides; rm7: frames + 1; locals 0 + 1 + 11 + its room's locals; its cells and slots besides; rm7: frames + 1; locals 0 + 1 + 11 + its room's locals; its cells and slots besides; rm8: frames + 1; locals 0 + 2 + 11 + its room's locals; its cells and slots besides
set_option maxRecDepth 65536 in
set_option maxHeartbeats 40000000 in
theorem rm0_ft1 (l : Launch) (Z : State) (a0 : Array Value) (hw : ∀ d ∈ tables_1, d.before a0 Z = true) (ws : List Jvm.Cond) (p1 : Int32) (p2 : Int32) (p3 : Int32) (uB : Addr) (uC : Addr) (h0 : Heap) (n0 : Nat) (Z0 : n0 ≤ h0.size) (S_BREAK : Sta Z h0 "com/example/transom/transom/Scope$Jump" "BREAK" "Lcom/example/transom/transom/Scope$Jump;" (.ref uB)) (S_CONTINUE : Sta Z h0 "com/example/transom/transom/Scope$Jump" "CONTINUE" "Lcom/example/transom/transom/Scope$Jump;" (.ref uC)) (hc23 : ¬ ((p2 &&& (1 : Int32)) = (0 : Int32))) (hc37 : (p3 &&& (1 : Int32)) = (0 : Int32)) (hc59 : (p1 &&& (3 : Int32)) = (1 : Int32)) (hc190 : ¬ ((1 : Int32) = (0 : Int32))) (hc202 : ¬ ((1 : Int32) = (0 : Int32))) :
    MetFree l x (head1 (Jvm.Cond.code x code maxLocals ret :: ws) room_1) (fun a U => a = #[(.int p1), (.int p2), (.int p3)] ∧ Z.Warmed39 U.vm ∧ U.heap = h0) (fun _ _ _ _ _ => True) (fun _ U o U' => ∃ v L, o = .returned v ∧ Q0 Z p1 p2 p3 uB uC h0 n0 v U'.heap L ∧ FrameEnd U o U' L room_1.cells room_1.slots) := by
  refine MetFree.of_bodySF (plainFor_of_name pn_0) hisR ?_
  intro p e s m args below meth c s₁ Bd hml0 hP hK
  obtain ⟨rfl, hZ, hh⟩ := hP
  have hx := Bd.exec
  have hby := Bd.bytes
  have hml : c.maxLocals = 13 := hml0
  have hown : s.vm.findClass "com/example/transom/transom/ScopeLandPinLaw" = some m.cls := findClass_of_methodNamed Bd.named
  have hnm := (name_of_methodNamed Bd.named Bd.method).1
  have X0 : Stand p l e room_1 s m #[(.int p1), (.int p2), (.int p3)] below meth c s₁ [] 0 0 := Stand.of_body Bd
  have e0 : s₁.heap = h0 := by rw [← hh, Bd.state]; rfl
  have N0 := Fr.nil n0
  have pre0 : ∀ t, Steps p.tables e below (s₁.setTop (mkF m 0 #[.val (.int p1), .val (.int p2), .val (.int p3), .unset, .unset, .unset, .unset, .unset, .unset, .unset, .unset, .unset, .unset] [])) t → Steps p.tables e below (s₁.setTop (entryFrame m #[(.int p1), (.int p2), (.int p3)] maxLocals)) t := fun t k => castTop (ef_0 m p1 p2 p3) k
  obtain ⟨T4, h4, X4, e4, E4, A4, D4, -, st4⟩ := newO X0 hx hZ hown (ww hw 0 rfl) (ww hw 1 rfl) (ww hw 2 rfl) e0 (g := (mkF m 0 #[.val (.int p1), .val (.int p2), .val (.int p3), .unset, .unset, .unset, .unset, .unset, .unset, .unset, .unset, .unset, .unset] [])) rfl (hb hby at_0) (by decide) (by decide)
  obtain ⟨b4, g4⟩ : ∃ z, z = h0.size := ⟨_, rfl⟩
  rw [← g4] at A4 D4 st4
  have F_values_b4 : Fld Z h4 b4 "com/example/transom/transom/Scope" "values" "Ljava/util/Map;" .null := D4 (Or.inr (ww hw 26 rfl)) (ty := (.object "java/util/Map")) (by decide)
  have F_parent_b4 : Fld Z h4 b4 "com/example/transom/transom/Scope" "parent" "Lcom/example/transom/transom/Scope;" .null := D4 (Or.inr (ww hw 28 rfl)) (ty := (.object "com/example/transom/transom/Scope")) (by decide)
  have F_top_b4 : Fld Z h4 b4 "com/example/transom/transom/Scope" "top" "Lcom/example/transom/transom/Scope;" .null := D4 (Or.inr (ww hw 30 rfl)) (ty := (.object "com/example/transom/transom/Scope")) (by decide)
  have F_model_b4 : Fld Z h4 b4 "com/example/transom/transom/Scope" "model" "Ljava/util/Map;" .null := D4 (Or.inr (ww hw 32 rfl)) (ty := (.object "java/util/Map")) (by decide)
  have F_template_b4 : Fld Z h4 b4 "com/example/transom/transom/Scope" "template" "Lcom/example/transom/transom/Template;" .null := D4 (Or.inr (ww hw 34 rfl)) (ty := (.object "com/example/transom/transom/Template")) (by decide)
  have F_renderer_b4 : Fld Z h4 b4 "com/example/transom/transom/Scope" "renderer" "Lcom/example/transom/transom/Scope;" .null := D4 (Or.inr (ww hw 36 rfl)) (ty := (.object "com/example/transom/transom/Scope")) (by decide)
  have F_calls_b4 : Fld Z h4 b4 "com/example/transom/transom/Scope" "calls" "I" (.int (0 : Int32)) := D4 (Or.inr (ww hw 38 rfl)) (ty := .int) (by decide)
  have F_jump_b4 : Fld Z h4 b4 "com/example/transom/transom/Scope" "jump" "Lcom/example/transom/transom/Scope$Jump;" .null := D4 (Or.inl (ww hw 51 rfl)) (ty := (.object "com/example/transom/transom/Scope$Jump")) (by decide)
  have E_b4 := A4
  have g_b4 : n0 ≤ b4 := Nat.le_trans Z0 (Nat.le_of_eq g4.symm)
  have sz_b4 : h0.size ≤ b4 := (Nat.le_trans (Keep.refl h0 []).1 (Nat.le_of_eq g4.symm))
  have K4 : Keep h0 h4 [] := (Keep.refl h0 []).ext E4
  obtain ⟨_, _, ⟨T5, L5, k5, n5⟩, -, X5, ⟨Lc5, hQ5, l5, y5, z5⟩, st5⟩ := X4.specialBack hx (y := (⟨"com/example/transom/transom/Scope", "<init>", "(Ljava/util/Map;Lcom/example/transom/transom/Template;)V"⟩ : MethodName)) rfl hown (mvT hZ (ww hw 3 rfl)) (mvT hZ (ww hw 4 rfl)) (mvT hZ (ww hw 5 rfl)) (by decide) (backOf (W := 1) (rm1 l Z a0 hw [] b4 _ _ _ _ _ _ _  h4 n0 (Nat.le_trans Z0 E4.1) F_jump_b4 E_b4 F_values_b4 g_b4 F_parent_b4 F_top_b4 F_model_b4 F_template_b4 F_renderer_b4 F_calls_b4) hZ (ww hw 5 rfl) (ww hw 2 rfl) (by decide) (by decide)) (g := (mkF m 6 #[.val (.int p1), .val (.int p2), .val (.int p3), .unset, .unset, .unset, .unset, .unset, .unset, .unset, .unset, .unset, .unset] [.null, .null, (.ref b4), (.ref b4)])) rfl (by rw [hml]; rfl) (Steps.refl _) (a := b4) (argsL := [.null, .null]) (rest := [(.ref b4)]) (lenOf pd_0_0 rfl) rfl (by show 2 * 0 + _ ≤ _; exact Nat.le_of_eq rfl) (hb hby at_6) (fun _ _ => ⟨rfl, e4, (by decide : 1 + 1 ≤ _), (by decide : 8 + 8 ≤ _)⟩)
  dsimp only [Pt.U, Pt.locs, Pt.cells, Pt.slots] at X5 l5 y5 z5 st5 hQ5
  subst l5 y5 z5
  obtain ⟨rfl, N5q, Kc5, Ec5, Ftop5, Fmodel5, Ftemplate5, Frenderer5, Fcalls5, Fjump5⟩ := hQ5
  have N5 := Fr.app N0 N5q
  have S_BREAK_5 := own_stak (S_BREAK.ext E4) Kc5 (allS (own_nst E_b4) all0)
  have S_CONTINUE_5 := own_stak (S_CONTINUE.ext E4) Kc5 (allS (own_nst E_b4) all0)
  have K5 : Keep h0 T5.heap [] := K4.trans Kc5 (allS (Or.inr sz_b4) all0)
  obtain ⟨T6, h6, X6, e6, E6, A6, D6, -, st6⟩ := newO X5 hx hZ hown (ww hw 0 rfl) (ww hw 1 rfl) (ww hw 2 rfl) rfl (g := (mkF m 10 #[.val (.int p1), .val (.int p2), .val (.int p3), .val (.ref b4), .unset, .unset, .unset, .unset, .unset, .unset, .unset, .unset, .unset] [])) rfl (hb hby at_10) (by decide) (by decide)
  obtain ⟨b6, g6⟩ : ∃ z, z = T5.heap.size := ⟨_, rfl⟩
  rw [← g6] at A6 D6 st6
  have F_values_b6 : Fld Z h6 b6 "com/example/transom/transom/Scope" "values" "Ljava/util/Map;" .null := D6 (Or.inr (ww hw 26 rfl)) (ty := (.object "java/util/Map")) (by decide)
  have F_parent_b6 : Fld Z h6 b6 "com/example/transom/transom/Scope" "parent" "Lcom/example/transom/transom/Scope;" .null := D6 (Or.inr (ww hw 28 rfl)) (ty := (.object "com/example/transom/transom/Scope")) (by decide)
  have F_top_b6 : Fld Z h6 b6 "com/example/transom/transom/Scope" "top" "Lcom/example/transom/transom/Scope;" .null := D6 (Or.inr (ww hw 30 rfl)) (ty := (.object "com/example/transom/transom/Scope")) (by decide)
  have F_model_b6 : Fld Z h6 b6 "com/example/transom/transom/Scope" "model" "Ljava/util/Map;" .null := D6 (Or.inr (ww hw 32 rfl)) (ty := (.object "java/util/Map")) (by decide)
  have F_template_b6 : Fld Z h6 b6 "com/example/transom/transom/Scope" "template" "Lcom/example/transom/transom/Template;" .null := D6 (Or.inr (ww hw 34 rfl)) (ty := (.object "com/example/transom/transom/Template")) (by decide)
  have F_renderer_b6 : Fld Z h6 b6 "com/example/transom/transom/Scope" "renderer" "Lcom/example/transom/transom/Scope;" .null := D6 (Or.inr (ww hw 36 rfl)) (ty := (.object "com/example/transom/transom/Scope")) (by decide)
  have F_calls_b6 : Fld Z h6 b6 "com/example/transom/transom/Scope" "calls" "I" (.int (0 : Int32)) := D6 (Or.inr (ww hw 38 rfl)) (ty := .int) (by decide)
  have F_jump_b6 : Fld Z h6 b6 "com/example/transom/transom/Scope" "jump" "Lcom/example/transom/transom/Scope$Jump;" .null := D6 (Or.inl (ww hw 51 rfl)) (ty := (.object "com/example/transom/transom/Scope$Jump")) (by decide)
  have E_b6 := A6
  have g_b6 : n0 ≤ b6 := Nat.le_trans (Nat.le_trans (Nat.le_trans Z0 E4.1) Kc5.1) (Nat.le_of_eq g6.symm)
  have sz_b6 : h0.size ≤ b6 := (Nat.le_trans K5.1 (Nat.le_of_eq g6.symm))
  have K6 : Keep h0 h6 [] := K5.ext E6
  obtain ⟨_, _, ⟨T7, L7, k7, n7⟩, -, X7, ⟨Lc7, hQ7, l7, y7, z7⟩, st7⟩ := X6.specialBack hx (y := (⟨"com/example/transom/transom/Scope", "<init>", "(Lcom/example/transom/transom/Scope;)V"⟩ : MethodName)) rfl hown (mvT hZ (ww hw 39 rfl)) (mvT hZ (ww hw 40 rfl)) (mvT hZ (ww hw 41 rfl)) (by decide) (backOf (W := 1) (rm5 l Z a0 hw [] b6 b4 b4 (0 : Int32) h6 n0 (Nat.le_trans (Nat.le_trans (Nat.le_trans Z0 E4.1) Kc5.1) E6.1) (Nat.ne_of_lt (Nat.lt_of_lt_of_le (E_b4.keep Kc5).lt (Nat.le_of_eq g6.symm))) E_b6 F_values_b6 F_parent_b6 F_top_b6 F_model_b6 F_template_b6 F_renderer_b6 F_calls_b6 g_b6 (Ftop5.ext E6) (Fmodel5.ext E6) (Ftemplate5.ext E6) (Frenderer5.ext E6) (Fcalls5.ext E6)) hZ (ww hw 41 rfl) (ww hw 2 rfl) (by decide) (by decide)) (g := (mkF m 15 #[.val (.int p1), .val (.int p2), .val (.int p3), .val (.ref b4), .unset, .unset, .unset, .unset, .unset, .unset, .unset, .unset, .unset] [(.ref b4), (.ref b6), (.ref b6)])) rfl (by rw [hml]; rfl) (Steps.refl _) (a := b6) (argsL := [(.ref b4)]) (rest := [(.ref b6)]) (lenOf pd_0_2 rfl) rfl (by show 2 * 0 + _ ≤ _; exact Nat.le_of_eq rfl) (hb hby at_15) (fun _ _ => ⟨rfl, e6, (by decide : 3 + 1 ≤ _), (by decide : 24 + 8 ≤ _)⟩)
  dsimp only [Pt.U, Pt.locs, Pt.cells, Pt.slots] at X7 l7 y7 z7 st7 hQ7
  subst l7 y7 z7
  obtain ⟨rfl, N7q, Kc7, Ec7, Ft7⟩ := hQ7
  have N7 := Fr.app N5 N7q
  have S_BREAK_7 := own_stak (S_BREAK_5.ext E6) Kc7 (allS (own_nst E_b6) all0)
  have S_CONTINUE_7 := own_stak (S_CONTINUE_5.ext E6) Kc7 (allS (own_nst E_b6) all0)
  have K7 : Keep h0 T7.heap [] := K6.trans Kc7 (allS (Or.inr sz_b6) all0)
  obtain ⟨T8, X8, e8, st8⟩ := getS2 X7 hx hZ hown (host := "") (Or.inl (ww hw 57 rfl)) Via.refl rfl S_BREAK_7 (g := (mkF m 64 #[.val (.int p1), .val (.int p2), .val (.int p3), .val (.ref b4), .val (.ref b6), .val (.ref b6), .val (.ref b4), .val (.int (p1 &&& (3 : Int32))), .val .null, .unset, .unset, .unset, .unset] [(.ref b6)])) rfl (hb hby at_64)
  obtain ⟨cq9, kq9, q9a, q9b, q9c⟩ := isOf hZ e8 (E_b6.keep Kc7)
  obtain ⟨_, _, ⟨T9, L9, k9, n9⟩, -, X9, ⟨Lc9, hQ9, l9, y9, z9⟩, st9⟩ := X8.virtualBack hx (y := (⟨"com/example/transom/transom/Scope", "jump", "(Lcom/example/transom/transom/Scope$Jump;)V"⟩ : MethodName)) (z := (⟨"com/example/transom/transom/Scope", "jump", "(Lcom/example/transom/transom/Scope$Jump;)V"⟩ : MethodName)) hown (mvT hZ (ww hw 60 rfl)) (mvT hZ (ww hw 61 rfl)) (notFace_of_selects (args := #[]) (mvT hZ (ww hw 63 rfl))) (mvT hZ (ww hw 63 rfl)) (mvT hZ (ww hw 62 rfl)) (by decide) (backOf (W := 0) (rmS l Z a0 hw [] b6 uB b4 _ T7.heap n0 (Nat.le_trans (Nat.le_trans (Nat.le_trans (Nat.le_trans Z0 E4.1) Kc5.1) E6.1) Kc7.1) ((Ftop5.ext E6).keep Kc7 (ninS (Nat.ne_of_lt (Nat.lt_of_lt_of_le (E_b4.keep Kc5).lt (Nat.le_of_eq g6.symm))) nin0)) Ft7 (((E_b4.keep Kc5).ext E6).keep Kc7) ((Fjump5.ext E6).keep Kc7 (ninS (Nat.ne_of_lt (Nat.lt_of_lt_of_le (E_b4.keep Kc5).lt (Nat.le_of_eq g6.symm))) nin0)) g_b4) hZ (ww hw 64 rfl) (ww hw 2 rfl) (by decide) (by decide)) q9a q9c (g := (mkF m 67 #[.val (.int p1), .val (.int p2), .val (.int p3), .val (.ref b4), .val (.ref b6), .val (.ref b6), .val (.ref b4), .val (.int (p1 &&& (3 : Int32))), .val .null, .unset, .unset, .unset, .unset] [(.ref uB), (.ref b6)])) rfl (by rw [hml]; rfl) (Steps.refl _) (argsL := [(.ref uB)]) (rest := []) (lenOf pd_0_6 rfl) rfl (by show 2 * 0 + _ ≤ _; exact Nat.le_of_eq rfl) (hb hby at_67) (fun _ _ => ⟨rfl, e8, (by decide : 4 + 0 ≤ _), (by decide : 32 + 0 ≤ _)⟩)
  dsimp only [Pt.U, Pt.locs, Pt.cells, Pt.slots] at X9 l9 y9 z9 st9 hQ9
  subst l9 y9 z9
  obtain ⟨rfl, N9q, Kc9, Fj9, Ft9⟩ := hQ9
  have N9 := Fr.app N7 N9q
  have S_BREAK_9 := own_stak S_BREAK_7 Kc9 (allS (own_nst (((E_b4.keep Kc5).ext E6).keep Kc7)) all0)
  have S_CONTINUE_9 := own_stak S_CONTINUE_7 Kc9 (allS (own_nst (((E_b4.keep Kc5).ext E6).keep Kc7)) all0)
  have K9 : Keep h0 T9.heap [] := K7.trans Kc9 (allS (Or.inr sz_b4) all0)
  obtain ⟨T10, X10, e10, st10⟩ := getS2 X9 hx hZ hown (host := "") (Or.inl (ww hw 57 rfl)) Via.refl rfl S_BREAK_9 (g := (mkF m 70 #[.val (.int p1), .val (.int p2), .val (.int p3), .val (.ref b4), .val (.ref b6), .val (.ref b6), .val (.ref b4), .val (.int (p1 &&& (3 : Int32))), .val .null, .unset, .unset, .unset, .unset] [])) rfl (hb hby at_70)
  obtain ⟨cq11, kq11, q11a, q11b, q11c⟩ := isOf hZ e10 ((((E_b4.keep Kc5).ext E6).keep Kc7).keep Kc9)
  obtain ⟨_, _, ⟨T11, L11, k11, n11⟩, -, X11, ⟨Lc11, hQ11, l11, y11, z11⟩, st11⟩ := X10.virtualBack hx (y := (⟨"com/example/transom/transom/Scope", "jumping", "()Z"⟩ : MethodName)) (z := (⟨"com/example/transom/transom/Scope", "jumping", "()Z"⟩ : MethodName)) hown (mvT hZ (ww hw 45 rfl)) (mvT hZ (ww hw 46 rfl)) (notFace_of_selects (args := #[]) (mvT hZ (ww hw 48 rfl))) (mvT hZ (ww hw 48 rfl)) (mvT hZ (ww hw 47 rfl)) (by decide) (backOf (W := 0) (rmJr l Z a0 hw [] b4 b4 uB T9.heap n0 (Nat.le_trans (Nat.le_trans (Nat.le_trans (Nat.le_trans (Nat.le_trans Z0 E4.1) Kc5.1) E6.1) Kc7.1) Kc9.1) Ft9 Fj9) hZ (ww hw 49 rfl) (ww hw 2 rfl) (by decide) (by decide)) q11a q11c (g := (mkF m 129 #[.val (.int p1), .val (.int p2), .val (.int p3), .val (.ref b4), .val (.ref b6), .val (.ref b6), .val (.ref b4), .val (.int (p1 &&& (3 : Int32))), .val (.ref uB), .unset, .unset, .unset, .unset] [(.ref b4)])) rfl (by rw [hml]; rfl) (Steps.refl _) (argsL := []) (rest := []) (lenOf pd_0_4 rfl) rfl (by show 2 * 0 + _ ≤ _; exact Nat.le_of_eq rfl) (hb hby at_129) (fun _ _ => ⟨rfl, e10, (by decide : 4 + 0 ≤ _), (by decide : 32 + 0 ≤ _)⟩)
  dsimp only [Pt.U, Pt.locs, Pt.cells, Pt.slots] at X11 l11 y11 z11 st11 hQ11
  subst l11 y11 z11
  obtain ⟨rfl, N11q, eh11⟩ := hQ11
  have N11 := Fr.app N9 N11q
  obtain ⟨cq12, kq12, q12a, q12b, q12c⟩ := isOf hZ eh11 ((((E_b4.keep Kc5).ext E6).keep Kc7).keep Kc9)
  obtain ⟨_, _, ⟨T12, L12, k12, n12⟩, -, X12, ⟨Lc12, hQ12, l12, y12, z12⟩, st12⟩ := X11.virtualBack hx (y := (⟨"com/example/transom/transom/Scope", "land", "()Lcom/example/transom/transom/Scope$Jump;"⟩ : MethodName)) (z := (⟨"com/example/transom/transom/Scope", "land", "()Lcom/example/transom/transom/Scope$Jump;"⟩ : MethodName)) hown (mvT hZ (ww hw 52 rfl)) (mvT hZ (ww hw 53 rfl)) (notFace_of_selects (args := #[]) (mvT hZ (ww hw 55 rfl))) (mvT hZ (ww hw 55 rfl)) (mvT hZ (ww hw 54 rfl)) (by decide) (backOf (W := 0) (rmLr l Z a0 hw [] b4 b4 uB T9.heap n0 (Nat.le_trans (Nat.le_trans (Nat.le_trans (Nat.le_trans (Nat.le_trans Z0 E4.1) Kc5.1) E6.1) Kc7.1) Kc9.1) Ft9 Ft9 Fj9 ((((E_b4.keep Kc5).ext E6).keep Kc7).keep Kc9) g_b4) hZ (ww hw 56 rfl) (ww hw 2 rfl) (by decide) (by decide)) q12a q12c (g := (mkF m 154 #[.val (.int p1), .val (.int p2), .val (.int p3), .val (.ref b4), .val (.ref b6), .val (.ref b6), .val (.ref b4), .val (.int (p1 &&& (3 : Int32))), .val (.ref uB), .val (.int (1 : Int32)), .unset, .unset, .unset] [(.ref b4)])) rfl (by rw [hml]; rfl) (Steps.refl _) (argsL := []) (rest := []) (lenOf pd_0_5 rfl) rfl (by show 2 * 0 + _ ≤ _; exact Nat.le_of_eq rfl) (hb hby at_154) (fun _ _ => ⟨rfl, eh11, (by decide : 4 + 0 ≤ _), (by decide : 32 + 0 ≤ _)⟩)
  dsimp only [Pt.U, Pt.locs, Pt.cells, Pt.slots] at X12 l12 y12 z12 st12 hQ12
  subst l12 y12 z12
  obtain ⟨rfl, N12q, Kc12, Fj12, Ft12⟩ := hQ12
  have N12 := Fr.app N11 N12q
  have S_BREAK_12 := own_stak S_BREAK_9 Kc12 (allS (own_nst ((((E_b4.keep Kc5).ext E6).keep Kc7).keep Kc9)) all0)
  have S_CONTINUE_12 := own_stak S_CONTINUE_9 Kc12 (allS (own_nst ((((E_b4.keep Kc5).ext E6).keep Kc7).keep Kc9)) all0)
  have K12 : Keep h0 T12.heap [] := K9.trans Kc12 (allS (Or.inr sz_b4) all0)
  obtain ⟨cq13, kq13, q13a, q13b, q13c⟩ := isOf hZ rfl (((((E_b4.keep Kc5).ext E6).keep Kc7).keep Kc9).keep Kc12)
  obtain ⟨_, _, ⟨T13, L13, k13, n13⟩, -, X13, ⟨Lc13, hQ13, l13, y13, z13⟩, st13⟩ := X12.virtualBack hx (y := (⟨"com/example/transom/transom/Scope", "jumping", "()Z"⟩ : MethodName)) (z := (⟨"com/example/transom/transom/Scope", "jumping", "()Z"⟩ : MethodName)) hown (mvT hZ (ww hw 45 rfl)) (mvT hZ (ww hw 46 rfl)) (notFace_of_selects (args := #[]) (mvT hZ (ww hw 48 rfl))) (mvT hZ (ww hw 48 rfl)) (mvT hZ (ww hw 47 rfl)) (by decide) (backOf (W := 0) (rmJn l Z a0 hw [] b4 b4 T12.heap n0 (Nat.le_trans (Nat.le_trans (Nat.le_trans (Nat.le_trans (Nat.le_trans (Nat.le_trans Z0 E4.1) Kc5.1) E6.1) Kc7.1) Kc9.1) Kc12.1) Ft12 Fj12) hZ (ww hw 49 rfl) (ww hw 2 rfl) (by decide) (by decide)) q13a q13c (g := (mkF m 160 #[.val (.int p1), .val (.int p2), .val (.int p3), .val (.ref b4), .val (.ref b6), .val (.ref b6), .val (.ref b4), .val (.int (p1 &&& (3 : Int32))), .val (.ref uB), .val (.int (1 : Int32)), .val (.ref uB), .unset, .unset] [(.ref b4)])) rfl (by rw [hml]; rfl) (Steps.refl _) (argsL := []) (rest := []) (lenOf pd_0_4 rfl) rfl (by show 2 * 0 + _ ≤ _; exact Nat.le_of_eq rfl) (hb hby at_160) (fun _ _ => ⟨rfl, rfl, (by decide : 4 + 0 ≤ _), (by decide : 32 + 0 ≤ _)⟩)
  dsimp only [Pt.U, Pt.locs, Pt.cells, Pt.slots] at X13 l13 y13 z13 st13 hQ13
  subst l13 y13 z13
  obtain ⟨rfl, N13q, eh13⟩ := hQ13
  have N13 := Fr.app N12 N13q
  obtain ⟨cq14, kq14, q14a, q14b, q14c⟩ := isOf hZ eh13 (((E_b6.keep Kc7).keep Kc9).keep Kc12)
  obtain ⟨_, _, ⟨T14, L14, k14, n14⟩, -, X14, ⟨Lc14, hQ14, l14, y14, z14⟩, st14⟩ := X13.virtualBack hx (y := (⟨"com/example/transom/transom/Scope", "jumping", "()Z"⟩ : MethodName)) (z := (⟨"com/example/transom/transom/Scope", "jumping", "()Z"⟩ : MethodName)) hown (mvT hZ (ww hw 45 rfl)) (mvT hZ (ww hw 46 rfl)) (notFace_of_selects (args := #[]) (mvT hZ (ww hw 48 rfl))) (mvT hZ (ww hw 48 rfl)) (mvT hZ (ww hw 47 rfl)) (by decide) (backOf (W := 0) (rmJn l Z a0 hw [] b6 b4 T12.heap n0 (Nat.le_trans (Nat.le_trans (Nat.le_trans (Nat.le_trans (Nat.le_trans (Nat.le_trans Z0 E4.1) Kc5.1) E6.1) Kc7.1) Kc9.1) Kc12.1) ((Ft7.keep Kc9 (ninS (Ne.symm (Nat.ne_of_lt (Nat.lt_of_lt_of_le (E_b4.keep Kc5).lt (Nat.le_of_eq g6.symm)))) nin0)).keep Kc12 (ninS (Ne.symm (Nat.ne_of_lt (Nat.lt_of_lt_of_le (E_b4.keep Kc5).lt (Nat.le_of_eq g6.symm)))) nin0)) Fj12) hZ (ww hw 49 rfl) (ww hw 2 rfl) (by decide) (by decide)) q14a q14c (g := (mkF m 168 #[.val (.int p1), .val (.int p2), .val (.int p3), .val (.ref b4), .val (.ref b6), .val (.ref b6), .val (.ref b4), .val (.int (p1 &&& (3 : Int32))), .val (.ref uB), .val (.int (1 : Int32)), .val (.ref uB), .unset, .unset] [(.ref b6)])) rfl (by rw [hml]; rfl) (Steps.refl _) (argsL := []) (rest := []) (lenOf pd_0_4 rfl) rfl (by show 2 * 0 + _ ≤ _; exact Nat.le_of_eq rfl) (hb hby at_168) (fun _ _ => ⟨rfl, eh13, (by decide : 4 + 0 ≤ _), (by decide : 32 + 0 ≤ _)⟩)
  dsimp only [Pt.U, Pt.locs, Pt.cells, Pt.slots] at X14 l14 y14 z14 st14 hQ14
  subst l14 y14 z14
  obtain ⟨rfl, N14q, eh14⟩ := hQ14
  have N14 := Fr.app N13 N14q
  obtain ⟨cq15, kq15, q15a, q15b, q15c⟩ := isOf hZ eh14 (((((E_b4.keep Kc5).ext E6).keep Kc7).keep Kc9).keep Kc12)
  obtain ⟨_, _, ⟨T15, L15, k15, n15⟩, -, X15, ⟨Lc15, hQ15, l15, y15, z15⟩, st15⟩ := X14.virtualBack hx (y := (⟨"com/example/transom/transom/Scope", "land", "()Lcom/example/transom/transom/Scope$Jump;"⟩ : MethodName)) (z := (⟨"com/example/transom/transom/Scope", "land", "()Lcom/example/transom/transom/Scope$Jump;"⟩ : MethodName)) hown (mvT hZ (ww hw 52 rfl)) (mvT hZ (ww hw 53 rfl)) (notFace_of_selects (args := #[]) (mvT hZ (ww hw 55 rfl))) (mvT hZ (ww hw 55 rfl)) (mvT hZ (ww hw 54 rfl)) (by decide) (backOf (W := 0) (rmLn l Z a0 hw [] b4 b4 T12.heap n0 (Nat.le_trans (Nat.le_trans (Nat.le_trans (Nat.le_trans (Nat.le_trans (Nat.le_trans Z0 E4.1) Kc5.1) E6.1) Kc7.1) Kc9.1) Kc12.1) Ft12 Ft12 Fj12 (((((E_b4.keep Kc5).ext E6).keep Kc7).keep Kc9).keep Kc12) g_b4) hZ (ww hw 56 rfl) (ww hw 2 rfl) (by decide) (by decide)) q15a q15c (g := (mkF m 183 #[.val (.int p1), .val (.int p2), .val (.int p3), .val (.ref b4), .val (.ref b6), .val (.ref b6), .val (.ref b4), .val (.int (p1 &&& (3 : Int32))), .val (.ref uB), .val (.int (1 : Int32)), .val (.ref uB), .val (.int (1 : Int32)), .unset] [(.ref b4)])) rfl (by rw [hml]; rfl) (Steps.refl _) (argsL := []) (rest := []) (lenOf pd_0_5 rfl) rfl (by show 2 * 0 + _ ≤ _; exact Nat.le_of_eq rfl) (hb hby at_183) (fun _ _ => ⟨rfl, eh14, (by decide : 4 + 0 ≤ _), (by decide : 32 + 0 ≤ _)⟩)
  dsimp only [Pt.U, Pt.locs, Pt.cells, Pt.slots] at X15 l15 y15 z15 st15 hQ15
  subst l15 y15 z15
  obtain ⟨rfl, N15q, Kc15, Fj15, Ft15⟩ := hQ15
  have N15 := Fr.app N14 N15q
  have S_BREAK_15 := own_stak S_BREAK_12 Kc15 (allS (own_nst (((((E_b4.keep Kc5).ext E6).keep Kc7).keep Kc9).keep Kc12)) all0)
  have S_CONTINUE_15 := own_stak S_CONTINUE_12 Kc15 (allS (own_nst (((((E_b4.keep Kc5).ext E6).keep Kc7).keep Kc9).keep Kc12)) all0)
  have K15 : Keep h0 T15.heap [] := K12.trans Kc15 (allS (Or.inr sz_b4) all0)
  obtain ⟨fs, hr, hrun, hended, hW, hsame⟩ := X15.leave (v := some (.int (1 : Int32))) (fun h => by rw [Bd.returns] at h; cases h)
  refine ⟨_, _, pre0 _ ?_, hrun, hended, _, _, rfl, ?_, ⟨_, rfl⟩, hW, hsame.mono (by decide) (by decide)⟩
  · show Steps _ _ _ (s₁.setTop (mkF m 0 #[.val (.int p1), .val (.int p2), .val (.int p3), .unset, .unset, .unset, .unset, .unset, .unset, .unset, .unset, .unset, .unset] [])) _
    refine st4 _ ?_
    show Steps _ _ _ (T4.setTop (mkF m 3 #[.val (.int p1), .val (.int p2), .val (.int p3), .unset, .unset, .unset, .unset, .unset, .unset, .unset, .unset, .unset, .unset] [(.ref b4)])) _
    refine XS.dup X4.here hx rfl (hb hby at_3) rfl rfl ?_
    show Steps _ _ _ (T4.setTop (mkF m 4 #[.val (.int p1), .val (.int p2), .val (.int p3), .unset, .unset, .unset, .unset, .unset, .unset, .unset, .unset, .unset, .unset] [(.ref b4), (.ref b4)])) _
    refine XS.aconstNull X4.here hx rfl (hb hby at_4) ?_
    show Steps _ _ _ (T4.setTop (mkF m 5 #[.val (.int p1), .val (.int p2), .val (.int p3), .unset, .unset, .unset, .unset, .unset, .unset, .unset, .unset, .unset, .unset] [.null, (.ref b4), (.ref b4)])) _
    refine XS.aconstNull X4.here hx rfl (hb hby at_5) ?_
    show Steps _ _ _ (T4.setTop (mkF m 6 #[.val (.int p1), .val (.int p2), .val (.int p3), .unset, .unset, .unset, .unset, .unset, .unset, .unset, .unset, .unset, .unset] [.null, .null, (.ref b4), (.ref b4)])) _
    refine st5.trans ?_
    show Steps _ _ _ (T5.setTop (mkF m 9 #[.val (.int p1), .val (.int p2), .val (.int p3), .unset, .unset, .unset, .unset, .unset, .unset, .unset, .unset, .unset, .unset] [(.ref b4)])) _
    refine XS.astoreN X5.here hx rfl (hb hby at_9) rfl rfl (l' := #[.val (.int p1), .val (.int p2), .val (.int p3), .val (.ref b4), .unset, .unset, .unset, .unset, .unset, .unset, .unset, .unset, .unset]) rfl ?_
    show Steps _ _ _ (T5.setTop (mkF m 10 #[.val (.int p1), .val (.int p2), .val (.int p3), .val (.ref b4), .unset, .unset, .unset, .unset, .unset, .unset, .unset, .unset, .unset] [])) _
    refine st6 _ ?_
    show Steps _ _ _ (T6.setTop (mkF m 13 #[.val (.int p1), .val (.int p2), .val (.int p3), .val (.ref b4), .unset, .unset, .unset, .unset, .unset, .unset, .unset, .unset, .unset] [(.ref b6)])) _
    refine XS.dup X6.here hx rfl (hb hby at_13) rfl rfl ?_
    show Steps _ _ _ (T6.setTop (mkF m 14 #[.val (.int p1), .val (.int p2), .val (.int p3), .val (.ref b4), .unset, .unset, .unset, .unset, .unset, .unset, .unset, .unset, .unset] [(.ref b6), (.ref b6)])) _
    refine XS.aloadN X6.here hx rfl (hb hby at_14) rfl rfl ?_
    show Steps _ _ _ (T6.setTop (mkF m 15 #[.val (.int p1), .val (.int p2), .val (.int p3), .val (.ref b4), .unset, .unset, .unset, .unset, .unset, .unset, .unset, .unset, .unset] [(.ref b4), (.ref b6), (.ref b6)])) _
    refine st7.trans ?_
    show Steps _ _ _ (T7.setTop (mkF m 18 #[.val (.int p1), .val (.int p2), .val (.int p3), .val (.ref b4), .unset, .unset, .unset, .unset, .unset, .unset, .unset, .unset, .unset] [(.ref b6)])) _
    refine XS.astore X7.here hx rfl (hb hby at_18) rfl rfl (l' := #[.val (.int p1), .val (.int p2), .val (.int p3), .val (.ref b4), .val (.ref b6), .unset, .unset, .unset, .unset, .unset, .unset, .unset, .unset]) rfl ?_
    show Steps _ _ _ (T7.setTop (mkF m 20 #[.val (.int p1), .val (.int p2), .val (.int p3), .val (.ref b4), .val (.ref b6), .unset, .unset, .unset, .unset, .unset, .unset, .unset, .unset] [])) _
    refine XS.iloadN X7.here hx rfl (hb hby at_20) rfl ?_
    show Steps _ _ _ (T7.setTop (mkF m 21 #[.val (.int p1), .val (.int p2), .val (.int p3), .val (.ref b4), .val (.ref b6), .unset, .unset, .unset, .unset, .unset, .unset, .unset, .unset] [(.int p2)])) _
    refine XS.iconst X7.here hx rfl (hb hby at_21) ?_
    show Steps _ _ _ (T7.setTop (mkF m 22 #[.val (.int p1), .val (.int p2), .val (.int p3), .val (.ref b4), .val (.ref b6), .unset, .unset, .unset, .unset, .unset, .unset, .unset, .unset] [(.int (1 : Int32)), (.int p2)])) _
    refine XS.iand X7.here hx rfl (hb hby at_22) rfl ?_
    show Steps _ _ _ (T7.setTop (mkF m 23 #[.val (.int p1), .val (.int p2), .val (.int p3), .val (.ref b4), .val (.ref b6), .unset, .unset, .unset, .unset, .unset, .unset, .unset, .unset] [(.int (p2 &&& (1 : Int32)))])) _
    refine XS.ifNo X7.here hx rfl (hb hby at_23) rfl ((if0 _ _).trans (feq hc23).1) ?_
    show Steps _ _ _ (T7.setTop (mkF m 26 #[.val (.int p1), .val (.int p2), .val (.int p3), .val (.ref b4), .val (.ref b6), .unset, .unset, .unset, .unset, .unset, .unset, .unset, .unset] [])) _
    refine XS.aload X7.here hx rfl (hb hby at_26) rfl rfl ?_
    show Steps _ _ _ (T7.setTop (mkF m 28 #[.val (.int p1), .val (.int p2), .val (.int p3), .val (.ref b4), .val (.ref b6), .unset, .unset, .unset, .unset, .unset, .unset, .unset, .unset] [(.ref b6)])) _
    refine XS.goto X7.here hx rfl (pc0 := 28) (pc' := 32) rfl (hb hby at_28) (by decide) (by decide) ?_
    show Steps _ _ _ (T7.setTop (mkF m 32 #[.val (.int p1), .val (.int p2), .val (.int p3), .val (.ref b4), .val (.ref b6), .unset, .unset, .unset, .unset, .unset, .unset, .unset, .unset] [(.ref b6)])) _
    refine XS.astore X7.here hx rfl (hb hby at_32) rfl rfl (l' := #[.val (.int p1), .val (.int p2), .val (.int p3), .val (.ref b4), .val (.ref b6), .val (.ref b6), .unset, .unset, .unset, .unset, .unset, .unset, .unset]) rfl ?_
    show Steps _ _ _ (T7.setTop (mkF m 34 #[.val (.int p1), .val (.int p2), .val (.int p3), .val (.ref b4), .val (.ref b6), .val (.ref b6), .unset, .unset, .unset, .unset, .unset, .unset, .unset] [])) _
    refine XS.iloadN X7.here hx rfl (hb hby at_34) rfl ?_
    show Steps _ _ _ (T7.setTop (mkF m 35 #[.val (.int p1), .val (.int p2), .val (.int p3), .val (.ref b4), .val (.ref b6), .val (.ref b6), .unset, .unset, .unset, .unset, .unset, .unset, .unset] [(.int p3)])) _
    refine XS.iconst X7.here hx rfl (hb hby at_35) ?_
    show Steps _ _ _ (T7.setTop (mkF m 36 #[.val (.int p1), .val (.int p2), .val (.int p3), .val (.ref b4), .val (.ref b6), .val (.ref b6), .unset, .unset, .unset, .unset, .unset, .unset, .unset] [(.int (1 : Int32)), (.int p3)])) _
    refine XS.iand X7.here hx rfl (hb hby at_36) rfl ?_
    show Steps _ _ _ (T7.setTop (mkF m 37 #[.val (.int p1), .val (.int p2), .val (.int p3), .val (.ref b4), .val (.ref b6), .val (.ref b6), .unset, .unset, .unset, .unset, .unset, .unset, .unset] [(.int (p3 &&& (1 : Int32)))])) _
    refine XS.ifYes X7.here hx rfl (pc0 := 37) (pc' := 45) rfl (hb hby at_37) rfl ((if0 _ _).trans (teq hc37).1) (by decide) (by decide) ?_
    show Steps _ _ _ (T7.setTop (mkF m 45 #[.val (.int p1), .val (.int p2), .val (.int p3), .val (.ref b4), .val (.ref b6), .val (.ref b6), .unset, .unset, .unset, .unset, .unset, .unset, .unset] [])) _
    refine XS.aloadN X7.here hx rfl (hb hby at_45) rfl rfl ?_
    show Steps _ _ _ (T7.setTop (mkF m 46 #[.val (.int p1), .val (.int p2), .val (.int p3), .val (.ref b4), .val (.ref b6), .val (.ref b6), .unset, .unset, .unset, .unset, .unset, .unset, .unset] [(.ref b4)])) _
    refine XS.astore X7.here hx rfl (hb hby at_46) rfl rfl (l' := #[.val (.int p1), .val (.int p2), .val (.int p3), .val (.ref b4), .val (.ref b6), .val (.ref b6), .val (.ref b4), .unset, .unset, .unset, .unset, .unset, .unset]) rfl ?_
    show Steps _ _ _ (T7.setTop (mkF m 48 #[.val (.int p1), .val (.int p2), .val (.int p3), .val (.ref b4), .val (.ref b6), .val (.ref b6), .val (.ref b4), .unset, .unset, .unset, .unset, .unset, .unset] [])) _
    refine XS.iloadN X7.here hx rfl (hb hby at_48) rfl ?_
    show Steps _ _ _ (T7.setTop (mkF m 49 #[.val (.int p1), .val (.int p2), .val (.int p3), .val (.ref b4), .val (.ref b6), .val (.ref b6), .val (.ref b4), .unset, .unset, .unset, .unset, .unset, .unset] [(.int p1)])) _
    refine XS.iconst X7.here hx rfl (hb hby at_49) ?_
    show Steps _ _ _ (T7.setTop (mkF m 50 #[.val (.int p1), .val (.int p2), .val (.int p3), .val (.ref b4), .val (.ref b6), .val (.ref b6), .val (.ref b4), .unset, .unset, .unset, .unset, .unset, .unset] [(.int (3 : Int32)), (.int p1)])) _
    refine XS.iand X7.here hx rfl (hb hby at_50) rfl ?_
    show Steps _ _ _ (T7.setTop (mkF m 51 #[.val (.int p1), .val (.int p2), .val (.int p3), .val (.ref b4), .val (.ref b6), .val (.ref b6), .val (.ref b4), .unset, .unset, .unset, .unset, .unset, .unset] [(.int (p1 &&& (3 : Int32)))])) _
    refine XS.istore X7.here hx rfl (hb hby at_51) rfl (l' := #[.val (.int p1), .val (.int p2), .val (.int p3), .val (.ref b4), .val (.ref b6), .val (.ref b6), .val (.ref b4), .val (.int (p1 &&& (3 : Int32))), .unset, .unset, .unset, .unset, .unset]) rfl ?_
    show Steps _ _ _ (T7.setTop (mkF m 53 #[.val (.int p1), .val (.int p2), .val (.int p3), .val (.ref b4), .val (.ref b6), .val (.ref b6), .val (.ref b4), .val (.int (p1 &&& (3 : Int32))), .unset, .unset, .unset, .unset, .unset] [])) _
    refine XS.aconstNull X7.here hx rfl (hb hby at_53) ?_
    show Steps _ _ _ (T7.setTop (mkF m 54 #[.val (.int p1), .val (.int p2), .val (.int p3), .val (.ref b4), .val (.ref b6), .val (.ref b6), .val (.ref b4), .val (.int (p1 &&& (3 : Int32))), .unset, .unset, .unset, .unset, .unset] [.null])) _
    refine XS.astore X7.here hx rfl (hb hby at_54) rfl rfl (l' := #[.val (.int p1), .val (.int p2), .val (.int p3), .val (.ref b4), .val (.ref b6), .val (.ref b6), .val (.ref b4), .val (.int (p1 &&& (3 : Int32))), .val .null, .unset, .unset, .unset, .unset]) rfl ?_
    show Steps _ _ _ (T7.setTop (mkF m 56 #[.val (.int p1), .val (.int p2), .val (.int p3), .val (.ref b4), .val (.ref b6), .val (.ref b6), .val (.ref b4), .val (.int (p1 &&& (3 : Int32))), .val .null, .unset, .unset, .unset, .unset] [])) _
    refine XS.iload X7.here hx rfl (hb hby at_56) rfl ?_
    show Steps _ _ _ (T7.setTop (mkF m 58 #[.val (.int p1), .val (.int p2), .val (.int p3), .val (.ref b4), .val (.ref b6), .val (.ref b6), .val (.ref b4), .val (.int (p1 &&& (3 : Int32))), .val .null, .unset, .unset, .unset, .unset] [(.int (p1 &&& (3 : Int32)))])) _
    refine XS.iconst X7.here hx rfl (hb hby at_58) ?_
    show Steps _ _ _ (T7.setTop (mkF m 59 #[.val (.int p1), .val (.int p2), .val (.int p3), .val (.ref b4), .val (.ref b6), .val (.ref b6), .val (.ref b4), .val (.int (p1 &&& (3 : Int32))), .val .null, .unset, .unset, .unset, .unset] [(.int (1 : Int32)), (.int (p1 &&& (3 : Int32)))])) _
    refine XS.icmpNo X7.here hx rfl (hb hby at_59) rfl (teq hc59).2 ?_
    show Steps _ _ _ (T7.setTop (mkF m 62 #[.val (.int p1), .val (.int p2), .val (.int p3), .val (.ref b4), .val (.ref b6), .val (.ref b6), .val (.ref b4), .val (.int (p1 &&& (3 : Int32))), .val .null, .unset, .unset, .unset, .unset] [])) _
    refine XS.aload X7.here hx rfl (hb hby at_62) rfl rfl ?_
    show Steps _ _ _ (T7.setTop (mkF m 64 #[.val (.int p1), .val (.int p2), .val (.int p3), .val (.ref b4), .val (.ref b6), .val (.ref b6), .val (.ref b4), .val (.int (p1 &&& (3 : Int32))), .val .null, .unset, .unset, .unset, .unset] [(.ref b6)])) _
    refine st8 _ ?_
    show Steps _ _ _ (T8.setTop (mkF m 67 #[.val (.int p1), .val (.int p2), .val (.int p3), .val (.ref b4), .val (.ref b6), .val (.ref b6), .val (.ref b4), .val (.int (p1 &&& (3 : Int32))), .val .null, .unset, .unset, .unset, .unset] [(.ref uB), (.ref b6)])) _
    refine st9.trans ?_
    show Steps _ _ _ (T9.setTop (mkF m 70 #[.val (.int p1), .val (.int p2), .val (.int p3), .val (.ref b4), .val (.ref b6), .val (.ref b6), .val (.ref b4), .val (.int (p1 &&& (3 : Int32))), .val .null, .unset, .unset, .unset, .unset] [])) _
    refine st10 _ ?_
    show Steps _ _ _ (T10.setTop (mkF m 73 #[.val (.int p1), .val (.int p2), .val (.int p3), .val (.ref b4), .val (.ref b6), .val (.ref b6), .val (.ref b4), .val (.int (p1 &&& (3 : Int32))), .val .null, .unset, .unset, .unset, .unset] [(.ref uB)])) _
    refine XS.astore X10.here hx rfl (hb hby at_73) rfl rfl (l' := #[.val (.int p1), .val (.int p2), .val (.int p3), .val (.ref b4), .val (.ref b6), .val (.ref b6), .val (.ref b4), .val (.int (p1 &&& (3 : Int32))), .val (.ref uB), .unset, .unset, .unset, .unset]) rfl ?_
    show Steps _ _ _ (T10.setTop (mkF m 75 #[.val (.int p1), .val (.int p2), .val (.int p3), .val (.ref b4), .val (.ref b6), .val (.ref b6), .val (.ref b4), .val (.int (p1 &&& (3 : Int32))), .val (.ref uB), .unset, .unset, .unset, .unset] [])) _
    refine XS.goto X10.here hx rfl (pc0 := 75) (pc' := 127) rfl (hb hby at_75) (by decide) (by decide) ?_
    show Steps _ _ _ (T10.setTop (mkF m 127 #[.val (.int p1), .val (.int p2), .val (.int p3), .val (.ref b4), .val (.ref b6), .val (.ref b6), .val (.ref b4), .val (.int (p1 &&& (3 : Int32))), .val (.ref uB), .unset, .unset, .unset, .unset] [])) _
    refine XS.aload X10.here hx rfl (hb hby at_127) rfl rfl ?_
    show Steps _ _ _ (T10.setTop (mkF m 129 #[.val (.int p1), .val (.int p2), .val (.int p3), .val (.ref b4), .val (.ref b6), .val (.ref b6), .val (.ref b4), .val (.int (p1 &&& (3 : Int32))), .val (.ref uB), .unset, .unset, .unset, .unset] [(.ref b4)])) _
    refine st11.trans ?_
    show Steps _ _ _ (T11.setTop (mkF m 132 #[.val (.int p1), .val (.int p2), .val (.int p3), .val (.ref b4), .val (.ref b6), .val (.ref b6), .val (.ref b4), .val (.int (p1 &&& (3 : Int32))), .val (.ref uB), .unset, .unset, .unset, .unset] [(.int (1 : Int32))])) _
    refine XS.aload X11.here hx rfl (hb hby at_132) rfl rfl ?_
    show Steps _ _ _ (T11.setTop (mkF m 134 #[.val (.int p1), .val (.int p2), .val (.int p3), .val (.ref b4), .val (.ref b6), .val (.ref b6), .val (.ref b4), .val (.int (p1 &&& (3 : Int32))), .val (.ref uB), .unset, .unset, .unset, .unset] [(.ref uB), (.int (1 : Int32))])) _
    refine XS.ifnullNo X11.here hx rfl (hb hby at_134) rfl ?_
    show Steps _ _ _ (T11.setTop (mkF m 137 #[.val (.int p1), .val (.int p2), .val (.int p3), .val (.ref b4), .val (.ref b6), .val (.ref b6), .val (.ref b4), .val (.int (p1 &&& (3 : Int32))), .val (.ref uB), .unset, .unset, .unset, .unset] [(.int (1 : Int32))])) _
    refine XS.iconst X11.here hx rfl (hb hby at_137) ?_
    show Steps _ _ _ (T11.setTop (mkF m 138 #[.val (.int p1), .val (.int p2), .val (.int p3), .val (.ref b4), .val (.ref b6), .val (.ref b6), .val (.ref b4), .val (.int (p1 &&& (3 : Int32))), .val (.ref uB), .unset, .unset, .unset, .unset] [(.int (1 : Int32)), (.int (1 : Int32))])) _
    refine XS.goto X11.here hx rfl (pc0 := 138) (pc' := 142) rfl (hb hby at_138) (by decide) (by decide) ?_
    show Steps _ _ _ (T11.setTop (mkF m 142 #[.val (.int p1), .val (.int p2), .val (.int p3), .val (.ref b4), .val (.ref b6), .val (.ref b6), .val (.ref b4), .val (.int (p1 &&& (3 : Int32))), .val (.ref uB), .unset, .unset, .unset, .unset] [(.int (1 : Int32)), (.int (1 : Int32))])) _
    refine XS.icmpNo X11.here hx rfl (hb hby at_142) rfl (teq (rfl : (1 : Int32) = (1 : Int32))).2 ?_
    show Steps _ _ _ (T11.setTop (mkF m 145 #[.val (.int p1), .val (.int p2), .val (.int p3), .val (.ref b4), .val (.ref b6), .val (.ref b6), .val (.ref b4), .val (.int (p1 &&& (3 : Int32))), .val (.ref uB), .unset, .unset, .unset, .unset] [])) _
    refine XS.iconst X11.here hx rfl (hb hby at_145) ?_
    show Steps _ _ _ (T11.setTop (mkF m 146 #[.val (.int p1), .val (.int p2), .val (.int p3), .val (.ref b4), .val (.ref b6), .val (.ref b6), .val (.ref b4), .val (.int (p1 &&& (3 : Int32))), .val (.ref uB), .unset, .unset, .unset, .unset] [(.int (1 : Int32))])) _
    refine XS.goto X11.here hx rfl (pc0 := 146) (pc' := 150) rfl (hb hby at_146) (by decide) (by decide) ?_
    show Steps _ _ _ (T11.setTop (mkF m 150 #[.val (.int p1), .val (.int p2), .val (.int p3), .val (.ref b4), .val (.ref b6), .val (.ref b6), .val (.ref b4), .val (.int (p1 &&& (3 : Int32))), .val (.ref uB), .unset, .unset, .unset, .unset] [(.int (1 : Int32))])) _
    refine XS.istore X11.here hx rfl (hb hby at_150) rfl (l' := #[.val (.int p1), .val (.int p2), .val (.int p3), .val (.ref b4), .val (.ref b6), .val (.ref b6), .val (.ref b4), .val (.int (p1 &&& (3 : Int32))), .val (.ref uB), .val (.int (1 : Int32)), .unset, .unset, .unset]) rfl ?_
    show Steps _ _ _ (T11.setTop (mkF m 152 #[.val (.int p1), .val (.int p2), .val (.int p3), .val (.ref b4), .val (.ref b6), .val (.ref b6), .val (.ref b4), .val (.int (p1 &&& (3 : Int32))), .val (.ref uB), .val (.int (1 : Int32)), .unset, .unset, .unset] [])) _
    refine XS.aload X11.here hx rfl (hb hby at_152) rfl rfl ?_
    show Steps _ _ _ (T11.setTop (mkF m 154 #[.val (.int p1), .val (.int p2), .val (.int p3), .val (.ref b4), .val (.ref b6), .val (.ref b6), .val (.ref b4), .val (.int (p1 &&& (3 : Int32))), .val (.ref uB), .val (.int (1 : Int32)), .unset, .unset, .unset] [(.ref b4)])) _
    refine st12.trans ?_
    show Steps _ _ _ (T12.setTop (mkF m 157 #[.val (.int p1), .val (.int p2), .val (.int p3), .val (.ref b4), .val (.ref b6), .val (.ref b6), .val (.ref b4), .val (.int (p1 &&& (3 : Int32))), .val (.ref uB), .val (.int (1 : Int32)), .unset, .unset, .unset] [(.ref uB)])) _
    refine XS.astore X12.here hx rfl (hb hby at_157) rfl rfl (l' := #[.val (.int p1), .val (.int p2), .val (.int p3), .val (.ref b4), .val (.ref b6), .val (.ref b6), .val (.ref b4), .val (.int (p1 &&& (3 : Int32))), .val (.ref uB), .val (.int (1 : Int32)), .val (.ref uB), .unset, .unset]) rfl ?_
    show Steps _ _ _ (T12.setTop (mkF m 159 #[.val (.int p1), .val (.int p2), .val (.int p3), .val (.ref b4), .val (.ref b6), .val (.ref b6), .val (.ref b4), .val (.int (p1 &&& (3 : Int32))), .val (.ref uB), .val (.int (1 : Int32)), .val (.ref uB), .unset, .unset] [])) _
    refine XS.aloadN X12.here hx rfl (hb hby at_159) rfl rfl ?_
    show Steps _ _ _ (T12.setTop (mkF m 160 #[.val (.int p1), .val (.int p2), .val (.int p3), .val (.ref b4), .val (.ref b6), .val (.ref b6), .val (.ref b4), .val (.int (p1 &&& (3 : Int32))), .val (.ref uB), .val (.int (1 : Int32)), .val (.ref uB), .unset, .unset] [(.ref b4)])) _
    refine st13.trans ?_
    show Steps _ _ _ (T13.setTop (mkF m 163 #[.val (.int p1), .val (.int p2), .val (.int p3), .val (.ref b4), .val (.ref b6), .val (.ref b6), .val (.ref b4), .val (.int (p1 &&& (3 : Int32))), .val (.ref uB), .val (.int (1 : Int32)), .val (.ref uB), .unset, .unset] [(.int (0 : Int32))])) _
    refine XS.ifNo X13.here hx rfl (hb hby at_163) rfl ((if0 _ _).trans (teq (rfl : (0 : Int32) = (0 : Int32))).2) ?_
    show Steps _ _ _ (T13.setTop (mkF m 166 #[.val (.int p1), .val (.int p2), .val (.int p3), .val (.ref b4), .val (.ref b6), .val (.ref b6), .val (.ref b4), .val (.int (p1 &&& (3 : Int32))), .val (.ref uB), .val (.int (1 : Int32)), .val (.ref uB), .unset, .unset] [])) _
    refine XS.aload X13.here hx rfl (hb hby at_166) rfl rfl ?_
    show Steps _ _ _ (T13.setTop (mkF m 168 #[.val (.int p1), .val (.int p2), .val (.int p3), .val (.ref b4), .val (.ref b6), .val (.ref b6), .val (.ref b4), .val (.int (p1 &&& (3 : Int32))), .val (.ref uB), .val (.int (1 : Int32)), .val (.ref uB), .unset, .unset] [(.ref b6)])) _
    refine st14.trans ?_
    show Steps _ _ _ (T14.setTop (mkF m 171 #[.val (.int p1), .val (.int p2), .val (.int p3), .val (.ref b4), .val (.ref b6), .val (.ref b6), .val (.ref b4), .val (.int (p1 &&& (3 : Int32))), .val (.ref uB), .val (.int (1 : Int32)), .val (.ref uB), .unset, .unset] [(.int (0 : Int32))])) _
    refine XS.ifNo X14.here hx rfl (hb hby at_171) rfl ((if0 _ _).trans (teq (rfl : (0 : Int32) = (0 : Int32))).2) ?_
    show Steps _ _ _ (T14.setTop (mkF m 174 #[.val (.int p1), .val (.int p2), .val (.int p3), .val (.ref b4), .val (.ref b6), .val (.ref b6), .val (.ref b4), .val (.int (p1 &&& (3 : Int32))), .val (.ref uB), .val (.int (1 : Int32)), .val (.ref uB), .unset, .unset] [])) _
    refine XS.iconst X14.here hx rfl (hb hby at_174) ?_
    show Steps _ _ _ (T14.setTop (mkF m 175 #[.val (.int p1), .val (.int p2), .val (.int p3), .val (.ref b4), .val (.ref b6), .val (.ref b6), .val (.ref b4), .val (.int (p1 &&& (3 : Int32))), .val (.ref uB), .val (.int (1 : Int32)), .val (.ref uB), .unset, .unset] [(.int (1 : Int32))])) _
    refine XS.goto X14.here hx rfl (pc0 := 175) (pc' := 179) rfl (hb hby at_175) (by decide) (by decide) ?_
    show Steps _ _ _ (T14.setTop (mkF m 179 #[.val (.int p1), .val (.int p2), .val (.int p3), .val (.ref b4), .val (.ref b6), .val (.ref b6), .val (.ref b4), .val (.int (p1 &&& (3 : Int32))), .val (.ref uB), .val (.int (1 : Int32)), .val (.ref uB), .unset, .unset] [(.int (1 : Int32))])) _
    refine XS.istore X14.here hx rfl (hb hby at_179) rfl (l' := #[.val (.int p1), .val (.int p2), .val (.int p3), .val (.ref b4), .val (.ref b6), .val (.ref b6), .val (.ref b4), .val (.int (p1 &&& (3 : Int32))), .val (.ref uB), .val (.int (1 : Int32)), .val (.ref uB), .val (.int (1 : Int32)), .unset]) rfl ?_
    show Steps _ _ _ (T14.setTop (mkF m 181 #[.val (.int p1), .val (.int p2), .val (.int p3), .val (.ref b4), .val (.ref b6), .val (.ref b6), .val (.ref b4), .val (.int (p1 &&& (3 : Int32))), .val (.ref uB), .val (.int (1 : Int32)), .val (.ref uB), .val (.int (1 : Int32)), .unset] [])) _
    refine XS.aload X14.here hx rfl (hb hby at_181) rfl rfl ?_
    show Steps _ _ _ (T14.setTop (mkF m 183 #[.val (.int p1), .val (.int p2), .val (.int p3), .val (.ref b4), .val (.ref b6), .val (.ref b6), .val (.ref b4), .val (.int (p1 &&& (3 : Int32))), .val (.ref uB), .val (.int (1 : Int32)), .val (.ref uB), .val (.int (1 : Int32)), .unset] [(.ref b4)])) _
    refine st15.trans ?_
    show Steps _ _ _ (T15.setTop (mkF m 186 #[.val (.int p1), .val (.int p2), .val (.int p3), .val (.ref b4), .val (.ref b6), .val (.ref b6), .val (.ref b4), .val (.int (p1 &&& (3 : Int32))), .val (.ref uB), .val (.int (1 : Int32)), .val (.ref uB), .val (.int (1 : Int32)), .unset] [.null])) _
    refine XS.astore X15.here hx rfl (hb hby at_186) rfl rfl (l' := #[.val (.int p1), .val (.int p2), .val (.int p3), .val (.ref b4), .val (.ref b6), .val (.ref b6), .val (.ref b4), .val (.int (p1 &&& (3 : Int32))), .val (.ref uB), .val (.int (1 : Int32)), .val (.ref uB), .val (.int (1 : Int32)), .val .null]) rfl ?_
    show Steps _ _ _ (T15.setTop (mkF m 188 #[.val (.int p1), .val (.int p2), .val (.int p3), .val (.ref b4), .val (.ref b6), .val (.ref b6), .val (.ref b4), .val (.int (p1 &&& (3 : Int32))), .val (.ref uB), .val (.int (1 : Int32)), .val (.ref uB), .val (.int (1 : Int32)), .val .null] [])) _
    refine XS.iload X15.here hx rfl (hb hby at_188) rfl ?_
    show Steps _ _ _ (T15.setTop (mkF m 190 #[.val (.int p1), .val (.int p2), .val (.int p3), .val (.ref b4), .val (.ref b6), .val (.ref b6), .val (.ref b4), .val (.int (p1 &&& (3 : Int32))), .val (.ref uB), .val (.int (1 : Int32)), .val (.ref uB), .val (.int (1 : Int32)), .val .null] [(.int (1 : Int32))])) _
    refine XS.ifNo X15.here hx rfl (hb hby at_190) rfl ((if0 _ _).trans (feq hc190).1) ?_
    show Steps _ _ _ (T15.setTop (mkF m 193 #[.val (.int p1), .val (.int p2), .val (.int p3), .val (.ref b4), .val (.ref b6), .val (.ref b6), .val (.ref b4), .val (.int (p1 &&& (3 : Int32))), .val (.ref uB), .val (.int (1 : Int32)), .val (.ref uB), .val (.int (1 : Int32)), .val .null] [])) _
    refine XS.aload X15.here hx rfl (hb hby at_193) rfl rfl ?_
    show Steps _ _ _ (T15.setTop (mkF m 195 #[.val (.int p1), .val (.int p2), .val (.int p3), .val (.ref b4), .val (.ref b6), .val (.ref b6), .val (.ref b4), .val (.int (p1 &&& (3 : Int32))), .val (.ref uB), .val (.int (1 : Int32)), .val (.ref uB), .val (.int (1 : Int32)), .val .null] [(.ref uB)])) _
    refine XS.aload X15.here hx rfl (hb hby at_195) rfl rfl ?_
    show Steps _ _ _ (T15.setTop (mkF m 197 #[.val (.int p1), .val (.int p2), .val (.int p3), .val (.ref b4), .val (.ref b6), .val (.ref b6), .val (.ref b4), .val (.int (p1 &&& (3 : Int32))), .val (.ref uB), .val (.int (1 : Int32)), .val (.ref uB), .val (.int (1 : Int32)), .val .null] [(.ref uB), (.ref uB)])) _
    refine Jvm.RoadKit.acmp (g := (mkF m 197 #[.val (.int p1), .val (.int p2), .val (.int p3), .val (.ref b4), .val (.ref b6), .val (.ref b6), .val (.ref b4), .val (.int (p1 &&& (3 : Int32))), .val (.ref uB), .val (.int (1 : Int32)), .val (.ref uB), .val (.int (1 : Int32)), .val .null] [(.ref uB), (.ref uB)])) X15 hx rfl rfl rfl (pc0 := 197) (pc' := 200) (same := true) rfl (hb hby at_197) rfl (decide_eq_true rfl) (by decide) (by decide) ?_
    show Steps _ _ _ (T15.setTop (mkF m 200 #[.val (.int p1), .val (.int p2), .val (.int p3), .val (.ref b4), .val (.ref b6), .val (.ref b6), .val (.ref b4), .val (.int (p1 &&& (3 : Int32))), .val (.ref uB), .val (.int (1 : Int32)), .val (.ref uB), .val (.int (1 : Int32)), .val .null] [])) _
    refine XS.iload X15.here hx rfl (hb hby at_200) rfl ?_
    show Steps _ _ _ (T15.setTop (mkF m 202 #[.val (.int p1), .val (.int p2), .val (.int p3), .val (.ref b4), .val (.ref b6), .val (.ref b6), .val (.ref b4), .val (.int (p1 &&& (3 : Int32))), .val (.ref uB), .val (.int (1 : Int32)), .val (.ref uB), .val (.int (1 : Int32)), .val .null] [(.int (1 : Int32))])) _
    refine XS.ifNo X15.here hx rfl (hb hby at_202) rfl ((if0 _ _).trans (feq hc202).1) ?_
    show Steps _ _ _ (T15.setTop (mkF m 205 #[.val (.int p1), .val (.int p2), .val (.int p3), .val (.ref b4), .val (.ref b6), .val (.ref b6), .val (.ref b4), .val (.int (p1 &&& (3 : Int32))), .val (.ref uB), .val (.int (1 : Int32)), .val (.ref uB), .val (.int (1 : Int32)), .val .null] [])) _
    refine XS.aload X15.here hx rfl (hb hby at_205) rfl rfl ?_
    show Steps _ _ _ (T15.setTop (mkF m 207 #[.val (.int p1), .val (.int p2), .val (.int p3), .val (.ref b4), .val (.ref b6), .val (.ref b6), .val (.ref b4), .val (.int (p1 &&& (3 : Int32))), .val (.ref uB), .val (.int (1 : Int32)), .val (.ref uB), .val (.int (1 : Int32)), .val .null] [.null])) _
    refine XS.ifnonnullNo X15.here hx rfl (hb hby at_207) rfl ?_
    show Steps _ _ _ (T15.setTop (mkF m 210 #[.val (.int p1), .val (.int p2), .val (.int p3), .val (.ref b4), .val (.ref b6), .val (.ref b6), .val (.ref b4), .val (.int (p1 &&& (3 : Int32))), .val (.ref uB), .val (.int (1 : Int32)), .val (.ref uB), .val (.int (1 : Int32)), .val .null] [])) _
    refine XS.iconst X15.here hx rfl (hb hby at_210) ?_
    show Steps _ _ _ (T15.setTop (mkF m 211 #[.val (.int p1), .val (.int p2), .val (.int p3), .val (.ref b4), .val (.ref b6), .val (.ref b6), .val (.ref b4), .val (.int (p1 &&& (3 : Int32))), .val (.ref uB), .val (.int (1 : Int32)), .val (.ref uB), .val (.int (1 : Int32)), .val .null] [(.int (1 : Int32))])) _
    refine XS.goto X15.here hx rfl (pc0 := 211) (pc' := 215) rfl (hb hby at_211) (by decide) (by decide) ?_
    show Steps _ _ _ (T15.setTop (mkF m 215 #[.val (.int p1), .val (.int p2), .val (.int p3), .val (.ref b4), .val (.ref b6), .val (.ref b6), .val (.ref b4), .val (.int (p1 &&& (3 : Int32))), .val (.ref uB), .val (.int (1 : Int32)), .val (.ref uB), .val (.int (1 : Int32)), .val .null] [(.int (1 : Int32))])) _
    exact retN X15 hx (t := .boolean) Bd.returns (by simp) (hb hby at_215) hr
  · show Q0 Z p1 p2 p3 uB uC h0 n0 _ T15.heap _
    exact ⟨rfl, N15⟩
-- 2. THE CONTRACT: what this body leaves is yours
-- its room: frames: the greatest, locals: the greatest, cells 4 + .., slots 32 + ..: rm1: frames + 1; locals 1 + 3 + 11 + its room's locals; its cells and slots besides; rm5: frames + 1; locals 1 + 2 + 11 + its room's locals; its cells and slots besides; rm9: frames + 1; locals 0 + 2 + 11 + its room's locals; its cells and slots besides; rm7: frames + 1; locals 0 + 1 + 11 + its room's locals; its cells and slots besides; rm8: frames + 1; locals 0 + 2 + 11 + its room's locals; its cells and slots besides; rm7: frames + 1; locals 0 + 1 + 11 + its room's locals; its cells and slots besides; rm7: frames + 1; locals 0 + 1 + 11 + its room's locals; its cells and slots besides; rm8: frames + 1; locals 0 + 2 + 11 + its room's locals; its cells and slots besides
set_option maxRecDepth 65536 in
set_option maxHeartbeats 40000000 in
theorem rm0_ft2 (l : Launch) (Z : State) (a0 : Array Value) (hw : ∀ d ∈ tables_1, d.before a0 Z = true) (ws : List Jvm.Cond) (p1 : Int32) (p2 : Int32) (p3 : Int32) (uB : Addr) (uC : Addr) (h0 : Heap) (n0 : Nat) (Z0 : n0 ≤ h0.size) (S_BREAK : Sta Z h0 "com/example/transom/transom/Scope$Jump" "BREAK" "Lcom/example/transom/transom/Scope$Jump;" (.ref uB)) (S_CONTINUE : Sta Z h0 "com/example/transom/transom/Scope$Jump" "CONTINUE" "Lcom/example/transom/transom/Scope$Jump;" (.ref uC)) (hc23 : ¬ ((p2 &&& (1 : Int32)) = (0 : Int32))) (hc37 : (p3 &&& (1 : Int32)) = (0 : Int32)) (hc59 : ¬ ((p1 &&& (3 : Int32)) = (1 : Int32))) (hc81 : (p1 &&& (3 : Int32)) = (2 : Int32)) (hc190 : ¬ ((1 : Int32) = (0 : Int32))) (hc202 : ¬ ((1 : Int32) = (0 : Int32))) :
    MetFree l x (head1 (Jvm.Cond.code x code maxLocals ret :: ws) room_1) (fun a U => a = #[(.int p1), (.int p2), (.int p3)] ∧ Z.Warmed39 U.vm ∧ U.heap = h0) (fun _ _ _ _ _ => True) (fun _ U o U' => ∃ v L, o = .returned v ∧ Q0 Z p1 p2 p3 uB uC h0 n0 v U'.heap L ∧ FrameEnd U o U' L room_1.cells room_1.slots) := by
  refine MetFree.of_bodySF (plainFor_of_name pn_0) hisR ?_
  intro p e s m args below meth c s₁ Bd hml0 hP hK
  obtain ⟨rfl, hZ, hh⟩ := hP
  have hx := Bd.exec
  have hby := Bd.bytes
  have hml : c.maxLocals = 13 := hml0
  have hown : s.vm.findClass "com/example/transom/transom/ScopeLandPinLaw" = some m.cls := findClass_of_methodNamed Bd.named
  have hnm := (name_of_methodNamed Bd.named Bd.method).1
  have X0 : Stand p l e room_1 s m #[(.int p1), (.int p2), (.int p3)] below meth c s₁ [] 0 0 := Stand.of_body Bd
  have e0 : s₁.heap = h0 := by rw [← hh, Bd.state]; rfl
  have N0 := Fr.nil n0
  have pre0 : ∀ t, Steps p.tables e below (s₁.setTop (mkF m 0 #[.val (.int p1), .val (.int p2), .val (.int p3), .unset, .unset, .unset, .unset, .unset, .unset, .unset, .unset, .unset, .unset] [])) t → Steps p.tables e below (s₁.setTop (entryFrame m #[(.int p1), (.int p2), (.int p3)] maxLocals)) t := fun t k => castTop (ef_0 m p1 p2 p3) k
  obtain ⟨T4, h4, X4, e4, E4, A4, D4, -, st4⟩ := newO X0 hx hZ hown (ww hw 0 rfl) (ww hw 1 rfl) (ww hw 2 rfl) e0 (g := (mkF m 0 #[.val (.int p1), .val (.int p2), .val (.int p3), .unset, .unset, .unset, .unset, .unset, .unset, .unset, .unset, .unset, .unset] [])) rfl (hb hby at_0) (by decide) (by decide)
  obtain ⟨b4, g4⟩ : ∃ z, z = h0.size := ⟨_, rfl⟩
  rw [← g4] at A4 D4 st4
  have F_values_b4 : Fld Z h4 b4 "com/example/transom/transom/Scope" "values" "Ljava/util/Map;" .null := D4 (Or.inr (ww hw 26 rfl)) (ty := (.object "java/util/Map")) (by decide)
  have F_parent_b4 : Fld Z h4 b4 "com/example/transom/transom/Scope" "parent" "Lcom/example/transom/transom/Scope;" .null := D4 (Or.inr (ww hw 28 rfl)) (ty := (.object "com/example/transom/transom/Scope")) (by decide)
  have F_top_b4 : Fld Z h4 b4 "com/example/transom/transom/Scope" "top" "Lcom/example/transom/transom/Scope;" .null := D4 (Or.inr (ww hw 30 rfl)) (ty := (.object "com/example/transom/transom/Scope")) (by decide)
  have F_model_b4 : Fld Z h4 b4 "com/example/transom/transom/Scope" "model" "Ljava/util/Map;" .null := D4 (Or.inr (ww hw 32 rfl)) (ty := (.object "java/util/Map")) (by decide)
  have F_template_b4 : Fld Z h4 b4 "com/example/transom/transom/Scope" "template" "Lcom/example/transom/transom/Template;" .null := D4 (Or.inr (ww hw 34 rfl)) (ty := (.object "com/example/transom/transom/Template")) (by decide)
  have F_renderer_b4 : Fld Z h4 b4 "com/example/transom/transom/Scope" "renderer" "Lcom/example/transom/transom/Scope;" .null := D4 (Or.inr (ww hw 36 rfl)) (ty := (.object "com/example/transom/transom/Scope")) (by decide)
  have F_calls_b4 : Fld Z h4 b4 "com/example/transom/transom/Scope" "calls" "I" (.int (0 : Int32)) := D4 (Or.inr (ww hw 38 rfl)) (ty := .int) (by decide)
  have F_jump_b4 : Fld Z h4 b4 "com/example/transom/transom/Scope" "jump" "Lcom/example/transom/transom/Scope$Jump;" .null := D4 (Or.inl (ww hw 51 rfl)) (ty := (.object "com/example/transom/transom/Scope$Jump")) (by decide)
  have E_b4 := A4
  have g_b4 : n0 ≤ b4 := Nat.le_trans Z0 (Nat.le_of_eq g4.symm)
  have sz_b4 : h0.size ≤ b4 := (Nat.le_trans (Keep.refl h0 []).1 (Nat.le_of_eq g4.symm))
  have K4 : Keep h0 h4 [] := (Keep.refl h0 []).ext E4
  obtain ⟨_, _, ⟨T5, L5, k5, n5⟩, -, X5, ⟨Lc5, hQ5, l5, y5, z5⟩, st5⟩ := X4.specialBack hx (y := (⟨"com/example/transom/transom/Scope", "<init>", "(Ljava/util/Map;Lcom/example/transom/transom/Template;)V"⟩ : MethodName)) rfl hown (mvT hZ (ww hw 3 rfl)) (mvT hZ (ww hw 4 rfl)) (mvT hZ (ww hw 5 rfl)) (by decide) (backOf (W := 1) (rm1 l Z a0 hw [] b4 _ _ _ _ _ _ _  h4 n0 (Nat.le_trans Z0 E4.1) F_jump_b4 E_b4 F_values_b4 g_b4 F_parent_b4 F_top_b4 F_model_b4 F_template_b4 F_renderer_b4 F_calls_b4) hZ (ww hw 5 rfl) (ww hw 2 rfl) (by decide) (by decide)) (g := (mkF m 6 #[.val (.int p1), .val (.int p2), .val (.int p3), .unset, .unset, .unset, .unset, .unset, .unset, .unset, .unset, .unset, .unset] [.null, .null, (.ref b4), (.ref b4)])) rfl (by rw [hml]; rfl) (Steps.refl _) (a := b4) (argsL := [.null, .null]) (rest := [(.ref b4)]) (lenOf pd_0_0 rfl) rfl (by show 2 * 0 + _ ≤ _; exact Nat.le_of_eq rfl) (hb hby at_6) (fun _ _ => ⟨rfl, e4, (by decide : 1 + 1 ≤ _), (by decide : 8 + 8 ≤ _)⟩)
  dsimp only [Pt.U, Pt.locs, Pt.cells, Pt.slots] at X5 l5 y5 z5 st5 hQ5
  subst l5 y5 z5
  obtain ⟨rfl, N5q, Kc5, Ec5, Ftop5, Fmodel5, Ftemplate5, Frenderer5, Fcalls5, Fjump5⟩ := hQ5
  have N5 := Fr.app N0 N5q
  have S_BREAK_5 := own_stak (S_BREAK.ext E4) Kc5 (allS (own_nst E_b4) all0)
  have S_CONTINUE_5 := own_stak (S_CONTINUE.ext E4) Kc5 (allS (own_nst E_b4) all0)
  have K5 : Keep h0 T5.heap [] := K4.trans Kc5 (allS (Or.inr sz_b4) all0)
  obtain ⟨T6, h6, X6, e6, E6, A6, D6, -, st6⟩ := newO X5 hx hZ hown (ww hw 0 rfl) (ww hw 1 rfl) (ww hw 2 rfl) rfl (g := (mkF m 10 #[.val (.int p1), .val (.int p2), .val (.int p3), .val (.ref b4), .unset, .unset, .unset, .unset, .unset, .unset, .unset, .unset, .unset] [])) rfl (hb hby at_10) (by decide) (by decide)
  obtain ⟨b6, g6⟩ : ∃ z, z = T5.heap.size := ⟨_, rfl⟩
  rw [← g6] at A6 D6 st6
  have F_values_b6 : Fld Z h6 b6 "com/example/transom/transom/Scope" "values" "Ljava/util/Map;" .null := D6 (Or.inr (ww hw 26 rfl)) (ty := (.object "java/util/Map")) (by decide)
  have F_parent_b6 : Fld Z h6 b6 "com/example/transom/transom/Scope" "parent" "Lcom/example/transom/transom/Scope;" .null := D6 (Or.inr (ww hw 28 rfl)) (ty := (.object "com/example/transom/transom/Scope")) (by decide)
  have F_top_b6 : Fld Z h6 b6 "com/example/transom/transom/Scope" "top" "Lcom/example/transom/transom/Scope;" .null := D6 (Or.inr (ww hw 30 rfl)) (ty := (.object "com/example/transom/transom/Scope")) (by decide)
  have F_model_b6 : Fld Z h6 b6 "com/example/transom/transom/Scope" "model" "Ljava/util/Map;" .null := D6 (Or.inr (ww hw 32 rfl)) (ty := (.object "java/util/Map")) (by decide)
  have F_template_b6 : Fld Z h6 b6 "com/example/transom/transom/Scope" "template" "Lcom/example/transom/transom/Template;" .null := D6 (Or.inr (ww hw 34 rfl)) (ty := (.object "com/example/transom/transom/Template")) (by decide)
  have F_renderer_b6 : Fld Z h6 b6 "com/example/transom/transom/Scope" "renderer" "Lcom/example/transom/transom/Scope;" .null := D6 (Or.inr (ww hw 36 rfl)) (ty := (.object "com/example/transom/transom/Scope")) (by decide)
  have F_calls_b6 : Fld Z h6 b6 "com/example/transom/transom/Scope" "calls" "I" (.int (0 : Int32)) := D6 (Or.inr (ww hw 38 rfl)) (ty := .int) (by decide)
  have F_jump_b6 : Fld Z h6 b6 "com/example/transom/transom/Scope" "jump" "Lcom/example/transom/transom/Scope$Jump;" .null := D6 (Or.inl (ww hw 51 rfl)) (ty := (.object "com/example/transom/transom/Scope$Jump")) (by decide)
  have E_b6 := A6
  have g_b6 : n0 ≤ b6 := Nat.le_trans (Nat.le_trans (Nat.le_trans Z0 E4.1) Kc5.1) (Nat.le_of_eq g6.symm)
  have sz_b6 : h0.size ≤ b6 := (Nat.le_trans K5.1 (Nat.le_of_eq g6.symm))
  have K6 : Keep h0 h6 [] := K5.ext E6
  obtain ⟨_, _, ⟨T7, L7, k7, n7⟩, -, X7, ⟨Lc7, hQ7, l7, y7, z7⟩, st7⟩ := X6.specialBack hx (y := (⟨"com/example/transom/transom/Scope", "<init>", "(Lcom/example/transom/transom/Scope;)V"⟩ : MethodName)) rfl hown (mvT hZ (ww hw 39 rfl)) (mvT hZ (ww hw 40 rfl)) (mvT hZ (ww hw 41 rfl)) (by decide) (backOf (W := 1) (rm5 l Z a0 hw [] b6 b4 b4 (0 : Int32) h6 n0 (Nat.le_trans (Nat.le_trans (Nat.le_trans Z0 E4.1) Kc5.1) E6.1) (Nat.ne_of_lt (Nat.lt_of_lt_of_le (E_b4.keep Kc5).lt (Nat.le_of_eq g6.symm))) E_b6 F_values_b6 F_parent_b6 F_top_b6 F_model_b6 F_template_b6 F_renderer_b6 F_calls_b6 g_b6 (Ftop5.ext E6) (Fmodel5.ext E6) (Ftemplate5.ext E6) (Frenderer5.ext E6) (Fcalls5.ext E6)) hZ (ww hw 41 rfl) (ww hw 2 rfl) (by decide) (by decide)) (g := (mkF m 15 #[.val (.int p1), .val (.int p2), .val (.int p3), .val (.ref b4), .unset, .unset, .unset, .unset, .unset, .unset, .unset, .unset, .unset] [(.ref b4), (.ref b6), (.ref b6)])) rfl (by rw [hml]; rfl) (Steps.refl _) (a := b6) (argsL := [(.ref b4)]) (rest := [(.ref b6)]) (lenOf pd_0_2 rfl) rfl (by show 2 * 0 + _ ≤ _; exact Nat.le_of_eq rfl) (hb hby at_15) (fun _ _ => ⟨rfl, e6, (by decide : 3 + 1 ≤ _), (by decide : 24 + 8 ≤ _)⟩)
  dsimp only [Pt.U, Pt.locs, Pt.cells, Pt.slots] at X7 l7 y7 z7 st7 hQ7
  subst l7 y7 z7
  obtain ⟨rfl, N7q, Kc7, Ec7, Ft7⟩ := hQ7
  have N7 := Fr.app N5 N7q
  have S_BREAK_7 := own_stak (S_BREAK_5.ext E6) Kc7 (allS (own_nst E_b6) all0)
  have S_CONTINUE_7 := own_stak (S_CONTINUE_5.ext E6) Kc7 (allS (own_nst E_b6) all0)
  have K7 : Keep h0 T7.heap [] := K6.trans Kc7 (allS (Or.inr sz_b6) all0)
  obtain ⟨T8, X8, e8, st8⟩ := getS2 X7 hx hZ hown (host := "") (Or.inl (ww hw 65 rfl)) Via.refl rfl S_CONTINUE_7 (g := (mkF m 86 #[.val (.int p1), .val (.int p2), .val (.int p3), .val (.ref b4), .val (.ref b6), .val (.ref b6), .val (.ref b4), .val (.int (p1 &&& (3 : Int32))), .val .null, .unset, .unset, .unset, .unset] [(.ref b6)])) rfl (hb hby at_86)
  obtain ⟨cq9, kq9, q9a, q9b, q9c⟩ := isOf hZ e8 (E_b6.keep Kc7)
  obtain ⟨_, _, ⟨T9, L9, k9, n9⟩, -, X9, ⟨Lc9, hQ9, l9, y9, z9⟩, st9⟩ := X8.virtualBack hx (y := (⟨"com/example/transom/transom/Scope", "jump", "(Lcom/example/transom/transom/Scope$Jump;)V"⟩ : MethodName)) (z := (⟨"com/example/transom/transom/Scope", "jump", "(Lcom/example/transom/transom/Scope$Jump;)V"⟩ : MethodName)) hown (mvT hZ (ww hw 60 rfl)) (mvT hZ (ww hw 61 rfl)) (notFace_of_selects (args := #[]) (mvT hZ (ww hw 63 rfl))) (mvT hZ (ww hw 63 rfl)) (mvT hZ (ww hw 62 rfl)) (by decide) (backOf (W := 0) (rmS l Z a0 hw [] b6 uC b4 _ T7.heap n0 (Nat.le_trans (Nat.le_trans (Nat.le_trans (Nat.le_trans Z0 E4.1) Kc5.1) E6.1) Kc7.1) ((Ftop5.ext E6).keep Kc7 (ninS (Nat.ne_of_lt (Nat.lt_of_lt_of_le (E_b4.keep Kc5).lt (Nat.le_of_eq g6.symm))) nin0)) Ft7 (((E_b4.keep Kc5).ext E6).keep Kc7) ((Fjump5.ext E6).keep Kc7 (ninS (Nat.ne_of_lt (Nat.lt_of_lt_of_le (E_b4.keep Kc5).lt (Nat.le_of_eq g6.symm))) nin0)) g_b4) hZ (ww hw 64 rfl) (ww hw 2 rfl) (by decide) (by decide)) q9a q9c (g := (mkF m 89 #[.val (.int p1), .val (.int p2), .val (.int p3), .val (.ref b4), .val (.ref b6), .val (.ref b6), .val (.ref b4), .val (.int (p1 &&& (3 : Int32))), .val .null, .unset, .unset, .unset, .unset] [(.ref uC), (.ref b6)])) rfl (by rw [hml]; rfl) (Steps.refl _) (argsL := [(.ref uC)]) (rest := []) (lenOf pd_0_6 rfl) rfl (by show 2 * 0 + _ ≤ _; exact Nat.le_of_eq rfl) (hb hby at_89) (fun _ _ => ⟨rfl, e8, (by decide : 4 + 0 ≤ _), (by decide : 32 + 0 ≤ _)⟩)
  dsimp only [Pt.U, Pt.locs, Pt.cells, Pt.slots] at X9 l9 y9 z9 st9 hQ9
  subst l9 y9 z9
  obtain ⟨rfl, N9q, Kc9, Fj9, Ft9⟩ := hQ9
  have N9 := Fr.app N7 N9q
  have S_BREAK_9 := own_stak S_BREAK_7 Kc9 (allS (own_nst (((E_b4.keep Kc5).ext E6).keep Kc7)) all0)
  have S_CONTINUE_9 := own_stak S_CONTINUE_7 Kc9 (allS (own_nst (((E_b4.keep Kc5).ext E6).keep Kc7)) all0)
  have K9 : Keep h0 T9.heap [] := K7.trans Kc9 (allS (Or.inr sz_b4) all0)
  obtain ⟨T10, X10, e10, st10⟩ := getS2 X9 hx hZ hown (host := "") (Or.inl (ww hw 65 rfl)) Via.refl rfl S_CONTINUE_9 (g := (mkF m 92 #[.val (.int p1), .val (.int p2), .val (.int p3), .val (.ref b4), .val (.ref b6), .val (.ref b6), .val (.ref b4), .val (.int (p1 &&& (3 : Int32))), .val .null, .unset, .unset, .unset, .unset] [])) rfl (hb hby at_92)
  obtain ⟨cq11, kq11, q11a, q11b, q11c⟩ := isOf hZ e10 ((((E_b4.keep Kc5).ext E6).keep Kc7).keep Kc9)
  obtain ⟨_, _, ⟨T11, L11, k11, n11⟩, -, X11, ⟨Lc11, hQ11, l11, y11, z11⟩, st11⟩ := X10.virtualBack hx (y := (⟨"com/example/transom/transom/Scope", "jumping", "()Z"⟩ : MethodName)) (z := (⟨"com/example/transom/transom/Scope", "jumping", "()Z"⟩ : MethodName)) hown (mvT hZ (ww hw 45 rfl)) (mvT hZ (ww hw 46 rfl)) (notFace_of_selects (args := #[]) (mvT hZ (ww hw 48 rfl))) (mvT hZ (ww hw 48 rfl)) (mvT hZ (ww hw 47 rfl)) (by decide) (backOf (W := 0) (rmJr l Z a0 hw [] b4 b4 uC T9.heap n0 (Nat.le_trans (Nat.le_trans (Nat.le_trans (Nat.le_trans (Nat.le_trans Z0 E4.1) Kc5.1) E6.1) Kc7.1) Kc9.1) Ft9 Fj9) hZ (ww hw 49 rfl) (ww hw 2 rfl) (by decide) (by decide)) q11a q11c (g := (mkF m 129 #[.val (.int p1), .val (.int p2), .val (.int p3), .val (.ref b4), .val (.ref b6), .val (.ref b6), .val (.ref b4), .val (.int (p1 &&& (3 : Int32))), .val (.ref uC), .unset, .unset, .unset, .unset] [(.ref b4)])) rfl (by rw [hml]; rfl) (Steps.refl _) (argsL := []) (rest := []) (lenOf pd_0_4 rfl) rfl (by show 2 * 0 + _ ≤ _; exact Nat.le_of_eq rfl) (hb hby at_129) (fun _ _ => ⟨rfl, e10, (by decide : 4 + 0 ≤ _), (by decide : 32 + 0 ≤ _)⟩)
  dsimp only [Pt.U, Pt.locs, Pt.cells, Pt.slots] at X11 l11 y11 z11 st11 hQ11
  subst l11 y11 z11
  obtain ⟨rfl, N11q, eh11⟩ := hQ11
  have N11 := Fr.app N9 N11q
  obtain ⟨cq12, kq12, q12a, q12b, q12c⟩ := isOf hZ eh11 ((((E_b4.keep Kc5).ext E6).keep Kc7).keep Kc9)
  obtain ⟨_, _, ⟨T12, L12, k12, n12⟩, -, X12, ⟨Lc12, hQ12, l12, y12, z12⟩, st12⟩ := X11.virtualBack hx (y := (⟨"com/example/transom/transom/Scope", "land", "()Lcom/example/transom/transom/Scope$Jump;"⟩ : MethodName)) (z := (⟨"com/example/transom/transom/Scope", "land", "()Lcom/example/transom/transom/Scope$Jump;"⟩ : MethodName)) hown (mvT hZ (ww hw 52 rfl)) (mvT hZ (ww hw 53 rfl)) (notFace_of_selects (args := #[]) (mvT hZ (ww hw 55 rfl))) (mvT hZ (ww hw 55 rfl)) (mvT hZ (ww hw 54 rfl)) (by decide) (backOf (W := 0) (rmLr l Z a0 hw [] b4 b4 uC T9.heap n0 (Nat.le_trans (Nat.le_trans (Nat.le_trans (Nat.le_trans (Nat.le_trans Z0 E4.1) Kc5.1) E6.1) Kc7.1) Kc9.1) Ft9 Ft9 Fj9 ((((E_b4.keep Kc5).ext E6).keep Kc7).keep Kc9) g_b4) hZ (ww hw 56 rfl) (ww hw 2 rfl) (by decide) (by decide)) q12a q12c (g := (mkF m 154 #[.val (.int p1), .val (.int p2), .val (.int p3), .val (.ref b4), .val (.ref b6), .val (.ref b6), .val (.ref b4), .val (.int (p1 &&& (3 : Int32))), .val (.ref uC), .val (.int (1 : Int32)), .unset, .unset, .unset] [(.ref b4)])) rfl (by rw [hml]; rfl) (Steps.refl _) (argsL := []) (rest := []) (lenOf pd_0_5 rfl) rfl (by show 2 * 0 + _ ≤ _; exact Nat.le_of_eq rfl) (hb hby at_154) (fun _ _ => ⟨rfl, eh11, (by decide : 4 + 0 ≤ _), (by decide : 32 + 0 ≤ _)⟩)
  dsimp only [Pt.U, Pt.locs, Pt.cells, Pt.slots] at X12 l12 y12 z12 st12 hQ12
  subst l12 y12 z12
  obtain ⟨rfl, N12q, Kc12, Fj12, Ft12⟩ := hQ12
  have N12 := Fr.app N11 N12q
  have S_BREAK_12 := own_stak S_BREAK_9 Kc12 (allS (own_nst ((((E_b4.keep Kc5).ext E6).keep Kc7).keep Kc9)) all0)
  have S_CONTINUE_12 := own_stak S_CONTINUE_9 Kc12 (allS (own_nst ((((E_b4.keep Kc5).ext E6).keep Kc7).keep Kc9)) all0)
  have K12 : Keep h0 T12.heap [] := K9.trans Kc12 (allS (Or.inr sz_b4) all0)
  obtain ⟨cq13, kq13, q13a, q13b, q13c⟩ := isOf hZ rfl (((((E_b4.keep Kc5).ext E6).keep Kc7).keep Kc9).keep Kc12)
  obtain ⟨_, _, ⟨T13, L13, k13, n13⟩, -, X13, ⟨Lc13, hQ13, l13, y13, z13⟩, st13⟩ := X12.virtualBack hx (y := (⟨"com/example/transom/transom/Scope", "jumping", "()Z"⟩ : MethodName)) (z := (⟨"com/example/transom/transom/Scope", "jumping", "()Z"⟩ : MethodName)) hown (mvT hZ (ww hw 45 rfl)) (mvT hZ (ww hw 46 rfl)) (notFace_of_selects (args := #[]) (mvT hZ (ww hw 48 rfl))) (mvT hZ (ww hw 48 rfl)) (mvT hZ (ww hw 47 rfl)) (by decide) (backOf (W := 0) (rmJn l Z a0 hw [] b4 b4 T12.heap n0 (Nat.le_trans (Nat.le_trans (Nat.le_trans (Nat.le_trans (Nat.le_trans (Nat.le_trans Z0 E4.1) Kc5.1) E6.1) Kc7.1) Kc9.1) Kc12.1) Ft12 Fj12) hZ (ww hw 49 rfl) (ww hw 2 rfl) (by decide) (by decide)) q13a q13c (g := (mkF m 160 #[.val (.int p1), .val (.int p2), .val (.int p3), .val (.ref b4), .val (.ref b6), .val (.ref b6), .val (.ref b4), .val (.int (p1 &&& (3 : Int32))), .val (.ref uC), .val (.int (1 : Int32)), .val (.ref uC), .unset, .unset] [(.ref b4)])) rfl (by rw [hml]; rfl) (Steps.refl _) (argsL := []) (rest := []) (lenOf pd_0_4 rfl) rfl (by show 2 * 0 + _ ≤ _; exact Nat.le_of_eq rfl) (hb hby at_160) (fun _ _ => ⟨rfl, rfl, (by decide : 4 + 0 ≤ _), (by decide : 32 + 0 ≤ _)⟩)
  dsimp only [Pt.U, Pt.locs, Pt.cells, Pt.slots] at X13 l13 y13 z13 st13 hQ13
  subst l13 y13 z13
  obtain ⟨rfl, N13q, eh13⟩ := hQ13
  have N13 := Fr.app N12 N13q
  obtain ⟨cq14, kq14, q14a, q14b, q14c⟩ := isOf hZ eh13 (((E_b6.keep Kc7).keep Kc9).keep Kc12)
  obtain ⟨_, _, ⟨T14, L14, k14, n14⟩, -, X14, ⟨Lc14, hQ14, l14, y14, z14⟩, st14⟩ := X13.virtualBack hx (y := (⟨"com/example/transom/transom/Scope", "jumping", "()Z"⟩ : MethodName)) (z := (⟨"com/example/transom/transom/Scope", "jumping", "()Z"⟩ : MethodName)) hown (mvT hZ (ww hw 45 rfl)) (mvT hZ (ww hw 46 rfl)) (notFace_of_selects (args := #[]) (mvT hZ (ww hw 48 rfl))) (mvT hZ (ww hw 48 rfl)) (mvT hZ (ww hw 47 rfl)) (by decide) (backOf (W := 0) (rmJn l Z a0 hw [] b6 b4 T12.heap n0 (Nat.le_trans (Nat.le_trans (Nat.le_trans (Nat.le_trans (Nat.le_trans (Nat.le_trans Z0 E4.1) Kc5.1) E6.1) Kc7.1) Kc9.1) Kc12.1) ((Ft7.keep Kc9 (ninS (Ne.symm (Nat.ne_of_lt (Nat.lt_of_lt_of_le (E_b4.keep Kc5).lt (Nat.le_of_eq g6.symm)))) nin0)).keep Kc12 (ninS (Ne.symm (Nat.ne_of_lt (Nat.lt_of_lt_of_le (E_b4.keep Kc5).lt (Nat.le_of_eq g6.symm)))) nin0)) Fj12) hZ (ww hw 49 rfl) (ww hw 2 rfl) (by decide) (by decide)) q14a q14c (g := (mkF m 168 #[.val (.int p1), .val (.int p2), .val (.int p3), .val (.ref b4), .val (.ref b6), .val (.ref b6), .val (.ref b4), .val (.int (p1 &&& (3 : Int32))), .val (.ref uC), .val (.int (1 : Int32)), .val (.ref uC), .unset, .unset] [(.ref b6)])) rfl (by rw [hml]; rfl) (Steps.refl _) (argsL := []) (rest := []) (lenOf pd_0_4 rfl) rfl (by show 2 * 0 + _ ≤ _; exact Nat.le_of_eq rfl) (hb hby at_168) (fun _ _ => ⟨rfl, eh13, (by decide : 4 + 0 ≤ _), (by decide : 32 + 0 ≤ _)⟩)
  dsimp only [Pt.U, Pt.locs, Pt.cells, Pt.slots] at X14 l14 y14 z14 st14 hQ14
  subst l14 y14 z14
  obtain ⟨rfl, N14q, eh14⟩ := hQ14
  have N14 := Fr.app N13 N14q
  obtain ⟨cq15, kq15, q15a, q15b, q15c⟩ := isOf hZ eh14 (((((E_b4.keep Kc5).ext E6).keep Kc7).keep Kc9).keep Kc12)
  obtain ⟨_, _, ⟨T15, L15, k15, n15⟩, -, X15, ⟨Lc15, hQ15, l15, y15, z15⟩, st15⟩ := X14.virtualBack hx (y := (⟨"com/example/transom/transom/Scope", "land", "()Lcom/example/transom/transom/Scope$Jump;"⟩ : MethodName)) (z := (⟨"com/example/transom/transom/Scope", "land", "()Lcom/example/transom/transom/Scope$Jump;"⟩ : MethodName)) hown (mvT hZ (ww hw 52 rfl)) (mvT hZ (ww hw 53 rfl)) (notFace_of_selects (args := #[]) (mvT hZ (ww hw 55 rfl))) (mvT hZ (ww hw 55 rfl)) (mvT hZ (ww hw 54 rfl)) (by decide) (backOf (W := 0) (rmLn l Z a0 hw [] b4 b4 T12.heap n0 (Nat.le_trans (Nat.le_trans (Nat.le_trans (Nat.le_trans (Nat.le_trans (Nat.le_trans Z0 E4.1) Kc5.1) E6.1) Kc7.1) Kc9.1) Kc12.1) Ft12 Ft12 Fj12 (((((E_b4.keep Kc5).ext E6).keep Kc7).keep Kc9).keep Kc12) g_b4) hZ (ww hw 56 rfl) (ww hw 2 rfl) (by decide) (by decide)) q15a q15c (g := (mkF m 183 #[.val (.int p1), .val (.int p2), .val (.int p3), .val (.ref b4), .val (.ref b6), .val (.ref b6), .val (.ref b4), .val (.int (p1 &&& (3 : Int32))), .val (.ref uC), .val (.int (1 : Int32)), .val (.ref uC), .val (.int (1 : Int32)), .unset] [(.ref b4)])) rfl (by rw [hml]; rfl) (Steps.refl _) (argsL := []) (rest := []) (lenOf pd_0_5 rfl) rfl (by show 2 * 0 + _ ≤ _; exact Nat.le_of_eq rfl) (hb hby at_183) (fun _ _ => ⟨rfl, eh14, (by decide : 4 + 0 ≤ _), (by decide : 32 + 0 ≤ _)⟩)
  dsimp only [Pt.U, Pt.locs, Pt.cells, Pt.slots] at X15 l15 y15 z15 st15 hQ15
  subst l15 y15 z15
  obtain ⟨rfl, N15q, Kc15, Fj15, Ft15⟩ := hQ15
  have N15 := Fr.app N14 N15q
  have S_BREAK_15 := own_stak S_BREAK_12 Kc15 (allS (own_nst (((((E_b4.keep Kc5).ext E6).keep Kc7).keep Kc9).keep Kc12)) all0)
  have S_CONTINUE_15 := own_stak S_CONTINUE_12 Kc15 (allS (own_nst (((((E_b4.keep Kc5).ext E6).keep Kc7).keep Kc9).keep Kc12)) all0)
  have K15 : Keep h0 T15.heap [] := K12.trans Kc15 (allS (Or.inr sz_b4) all0)
  obtain ⟨fs, hr, hrun, hended, hW, hsame⟩ := X15.leave (v := some (.int (1 : Int32))) (fun h => by rw [Bd.returns] at h; cases h)
  refine ⟨_, _, pre0 _ ?_, hrun, hended, _, _, rfl, ?_, ⟨_, rfl⟩, hW, hsame.mono (by decide) (by decide)⟩
  · show Steps _ _ _ (s₁.setTop (mkF m 0 #[.val (.int p1), .val (.int p2), .val (.int p3), .unset, .unset, .unset, .unset, .unset, .unset, .unset, .unset, .unset, .unset] [])) _
    refine st4 _ ?_
    show Steps _ _ _ (T4.setTop (mkF m 3 #[.val (.int p1), .val (.int p2), .val (.int p3), .unset, .unset, .unset, .unset, .unset, .unset, .unset, .unset, .unset, .unset] [(.ref b4)])) _
    refine XS.dup X4.here hx rfl (hb hby at_3) rfl rfl ?_
    show Steps _ _ _ (T4.setTop (mkF m 4 #[.val (.int p1), .val (.int p2), .val (.int p3), .unset, .unset, .unset, .unset, .unset, .unset, .unset, .unset, .unset, .unset] [(.ref b4), (.ref b4)])) _
    refine XS.aconstNull X4.here hx rfl (hb hby at_4) ?_
    show Steps _ _ _ (T4.setTop (mkF m 5 #[.val (.int p1), .val (.int p2), .val (.int p3), .unset, .unset, .unset, .unset, .unset, .unset, .unset, .unset, .unset, .unset] [.null, (.ref b4), (.ref b4)])) _
    refine XS.aconstNull X4.here hx rfl (hb hby at_5) ?_
    show Steps _ _ _ (T4.setTop (mkF m 6 #[.val (.int p1), .val (.int p2), .val (.int p3), .unset, .unset, .unset, .unset, .unset, .unset, .unset, .unset, .unset, .unset] [.null, .null, (.ref b4), (.ref b4)])) _
    refine st5.trans ?_
    show Steps _ _ _ (T5.setTop (mkF m 9 #[.val (.int p1), .val (.int p2), .val (.int p3), .unset, .unset, .unset, .unset, .unset, .unset, .unset, .unset, .unset, .unset] [(.ref b4)])) _
    refine XS.astoreN X5.here hx rfl (hb hby at_9) rfl rfl (l' := #[.val (.int p1), .val (.int p2), .val (.int p3), .val (.ref b4), .unset, .unset, .unset, .unset, .unset, .unset, .unset, .unset, .unset]) rfl ?_
    show Steps _ _ _ (T5.setTop (mkF m 10 #[.val (.int p1), .val (.int p2), .val (.int p3), .val (.ref b4), .unset, .unset, .unset, .unset, .unset, .unset, .unset, .unset, .unset] [])) _
    refine st6 _ ?_
    show Steps _ _ _ (T6.setTop (mkF m 13 #[.val (.int p1), .val (.int p2), .val (.int p3), .val (.ref b4), .unset, .unset, .unset, .unset, .unset, .unset, .unset, .unset, .unset] [(.ref b6)])) _
    refine XS.dup X6.here hx rfl (hb hby at_13) rfl rfl ?_
    show Steps _ _ _ (T6.setTop (mkF m 14 #[.val (.int p1), .val (.int p2), .val (.int p3), .val (.ref b4), .unset, .unset, .unset, .unset, .unset, .unset, .unset, .unset, .unset] [(.ref b6), (.ref b6)])) _
    refine XS.aloadN X6.here hx rfl (hb hby at_14) rfl rfl ?_
    show Steps _ _ _ (T6.setTop (mkF m 15 #[.val (.int p1), .val (.int p2), .val (.int p3), .val (.ref b4), .unset, .unset, .unset, .unset, .unset, .unset, .unset, .unset, .unset] [(.ref b4), (.ref b6), (.ref b6)])) _
    refine st7.trans ?_
    show Steps _ _ _ (T7.setTop (mkF m 18 #[.val (.int p1), .val (.int p2), .val (.int p3), .val (.ref b4), .unset, .unset, .unset, .unset, .unset, .unset, .unset, .unset, .unset] [(.ref b6)])) _
    refine XS.astore X7.here hx rfl (hb hby at_18) rfl rfl (l' := #[.val (.int p1), .val (.int p2), .val (.int p3), .val (.ref b4), .val (.ref b6), .unset, .unset, .unset, .unset, .unset, .unset, .unset, .unset]) rfl ?_
    show Steps _ _ _ (T7.setTop (mkF m 20 #[.val (.int p1), .val (.int p2), .val (.int p3), .val (.ref b4), .val (.ref b6), .unset, .unset, .unset, .unset, .unset, .unset, .unset, .unset] [])) _
    refine XS.iloadN X7.here hx rfl (hb hby at_20) rfl ?_
    show Steps _ _ _ (T7.setTop (mkF m 21 #[.val (.int p1), .val (.int p2), .val (.int p3), .val (.ref b4), .val (.ref b6), .unset, .unset, .unset, .unset, .unset, .unset, .unset, .unset] [(.int p2)])) _
    refine XS.iconst X7.here hx rfl (hb hby at_21) ?_
    show Steps _ _ _ (T7.setTop (mkF m 22 #[.val (.int p1), .val (.int p2), .val (.int p3), .val (.ref b4), .val (.ref b6), .unset, .unset, .unset, .unset, .unset, .unset, .unset, .unset] [(.int (1 : Int32)), (.int p2)])) _
    refine XS.iand X7.here hx rfl (hb hby at_22) rfl ?_
    show Steps _ _ _ (T7.setTop (mkF m 23 #[.val (.int p1), .val (.int p2), .val (.int p3), .val (.ref b4), .val (.ref b6), .unset, .unset, .unset, .unset, .unset, .unset, .unset, .unset] [(.int (p2 &&& (1 : Int32)))])) _
    refine XS.ifNo X7.here hx rfl (hb hby at_23) rfl ((if0 _ _).trans (feq hc23).1) ?_
    show Steps _ _ _ (T7.setTop (mkF m 26 #[.val (.int p1), .val (.int p2), .val (.int p3), .val (.ref b4), .val (.ref b6), .unset, .unset, .unset, .unset, .unset, .unset, .unset, .unset] [])) _
    refine XS.aload X7.here hx rfl (hb hby at_26) rfl rfl ?_
    show Steps _ _ _ (T7.setTop (mkF m 28 #[.val (.int p1), .val (.int p2), .val (.int p3), .val (.ref b4), .val (.ref b6), .unset, .unset, .unset, .unset, .unset, .unset, .unset, .unset] [(.ref b6)])) _
    refine XS.goto X7.here hx rfl (pc0 := 28) (pc' := 32) rfl (hb hby at_28) (by decide) (by decide) ?_
    show Steps _ _ _ (T7.setTop (mkF m 32 #[.val (.int p1), .val (.int p2), .val (.int p3), .val (.ref b4), .val (.ref b6), .unset, .unset, .unset, .unset, .unset, .unset, .unset, .unset] [(.ref b6)])) _
    refine XS.astore X7.here hx rfl (hb hby at_32) rfl rfl (l' := #[.val (.int p1), .val (.int p2), .val (.int p3), .val (.ref b4), .val (.ref b6), .val (.ref b6), .unset, .unset, .unset, .unset, .unset, .unset, .unset]) rfl ?_
    show Steps _ _ _ (T7.setTop (mkF m 34 #[.val (.int p1), .val (.int p2), .val (.int p3), .val (.ref b4), .val (.ref b6), .val (.ref b6), .unset, .unset, .unset, .unset, .unset, .unset, .unset] [])) _
    refine XS.iloadN X7.here hx rfl (hb hby at_34) rfl ?_
    show Steps _ _ _ (T7.setTop (mkF m 35 #[.val (.int p1), .val (.int p2), .val (.int p3), .val (.ref b4), .val (.ref b6), .val (.ref b6), .unset, .unset, .unset, .unset, .unset, .unset, .unset] [(.int p3)])) _
    refine XS.iconst X7.here hx rfl (hb hby at_35) ?_
    show Steps _ _ _ (T7.setTop (mkF m 36 #[.val (.int p1), .val (.int p2), .val (.int p3), .val (.ref b4), .val (.ref b6), .val (.ref b6), .unset, .unset, .unset, .unset, .unset, .unset, .unset] [(.int (1 : Int32)), (.int p3)])) _
    refine XS.iand X7.here hx rfl (hb hby at_36) rfl ?_
    show Steps _ _ _ (T7.setTop (mkF m 37 #[.val (.int p1), .val (.int p2), .val (.int p3), .val (.ref b4), .val (.ref b6), .val (.ref b6), .unset, .unset, .unset, .unset, .unset, .unset, .unset] [(.int (p3 &&& (1 : Int32)))])) _
    refine XS.ifYes X7.here hx rfl (pc0 := 37) (pc' := 45) rfl (hb hby at_37) rfl ((if0 _ _).trans (teq hc37).1) (by decide) (by decide) ?_
    show Steps _ _ _ (T7.setTop (mkF m 45 #[.val (.int p1), .val (.int p2), .val (.int p3), .val (.ref b4), .val (.ref b6), .val (.ref b6), .unset, .unset, .unset, .unset, .unset, .unset, .unset] [])) _
    refine XS.aloadN X7.here hx rfl (hb hby at_45) rfl rfl ?_
    show Steps _ _ _ (T7.setTop (mkF m 46 #[.val (.int p1), .val (.int p2), .val (.int p3), .val (.ref b4), .val (.ref b6), .val (.ref b6), .unset, .unset, .unset, .unset, .unset, .unset, .unset] [(.ref b4)])) _
    refine XS.astore X7.here hx rfl (hb hby at_46) rfl rfl (l' := #[.val (.int p1), .val (.int p2), .val (.int p3), .val (.ref b4), .val (.ref b6), .val (.ref b6), .val (.ref b4), .unset, .unset, .unset, .unset, .unset, .unset]) rfl ?_
    show Steps _ _ _ (T7.setTop (mkF m 48 #[.val (.int p1), .val (.int p2), .val (.int p3), .val (.ref b4), .val (.ref b6), .val (.ref b6), .val (.ref b4), .unset, .unset, .unset, .unset, .unset, .unset] [])) _
    refine XS.iloadN X7.here hx rfl (hb hby at_48) rfl ?_
    show Steps _ _ _ (T7.setTop (mkF m 49 #[.val (.int p1), .val (.int p2), .val (.int p3), .val (.ref b4), .val (.ref b6), .val (.ref b6), .val (.ref b4), .unset, .unset, .unset, .unset, .unset, .unset] [(.int p1)])) _
    refine XS.iconst X7.here hx rfl (hb hby at_49) ?_
    show Steps _ _ _ (T7.setTop (mkF m 50 #[.val (.int p1), .val (.int p2), .val (.int p3), .val (.ref b4), .val (.ref b6), .val (.ref b6), .val (.ref b4), .unset, .unset, .unset, .unset, .unset, .unset] [(.int (3 : Int32)), (.int p1)])) _
    refine XS.iand X7.here hx rfl (hb hby at_50) rfl ?_
    show Steps _ _ _ (T7.setTop (mkF m 51 #[.val (.int p1), .val (.int p2), .val (.int p3), .val (.ref b4), .val (.ref b6), .val (.ref b6), .val (.ref b4), .unset, .unset, .unset, .unset, .unset, .unset] [(.int (p1 &&& (3 : Int32)))])) _
    refine XS.istore X7.here hx rfl (hb hby at_51) rfl (l' := #[.val (.int p1), .val (.int p2), .val (.int p3), .val (.ref b4), .val (.ref b6), .val (.ref b6), .val (.ref b4), .val (.int (p1 &&& (3 : Int32))), .unset, .unset, .unset, .unset, .unset]) rfl ?_
    show Steps _ _ _ (T7.setTop (mkF m 53 #[.val (.int p1), .val (.int p2), .val (.int p3), .val (.ref b4), .val (.ref b6), .val (.ref b6), .val (.ref b4), .val (.int (p1 &&& (3 : Int32))), .unset, .unset, .unset, .unset, .unset] [])) _
    refine XS.aconstNull X7.here hx rfl (hb hby at_53) ?_
    show Steps _ _ _ (T7.setTop (mkF m 54 #[.val (.int p1), .val (.int p2), .val (.int p3), .val (.ref b4), .val (.ref b6), .val (.ref b6), .val (.ref b4), .val (.int (p1 &&& (3 : Int32))), .unset, .unset, .unset, .unset, .unset] [.null])) _
    refine XS.astore X7.here hx rfl (hb hby at_54) rfl rfl (l' := #[.val (.int p1), .val (.int p2), .val (.int p3), .val (.ref b4), .val (.ref b6), .val (.ref b6), .val (.ref b4), .val (.int (p1 &&& (3 : Int32))), .val .null, .unset, .unset, .unset, .unset]) rfl ?_
    show Steps _ _ _ (T7.setTop (mkF m 56 #[.val (.int p1), .val (.int p2), .val (.int p3), .val (.ref b4), .val (.ref b6), .val (.ref b6), .val (.ref b4), .val (.int (p1 &&& (3 : Int32))), .val .null, .unset, .unset, .unset, .unset] [])) _
    refine XS.iload X7.here hx rfl (hb hby at_56) rfl ?_
    show Steps _ _ _ (T7.setTop (mkF m 58 #[.val (.int p1), .val (.int p2), .val (.int p3), .val (.ref b4), .val (.ref b6), .val (.ref b6), .val (.ref b4), .val (.int (p1 &&& (3 : Int32))), .val .null, .unset, .unset, .unset, .unset] [(.int (p1 &&& (3 : Int32)))])) _
    refine XS.iconst X7.here hx rfl (hb hby at_58) ?_
    show Steps _ _ _ (T7.setTop (mkF m 59 #[.val (.int p1), .val (.int p2), .val (.int p3), .val (.ref b4), .val (.ref b6), .val (.ref b6), .val (.ref b4), .val (.int (p1 &&& (3 : Int32))), .val .null, .unset, .unset, .unset, .unset] [(.int (1 : Int32)), (.int (p1 &&& (3 : Int32)))])) _
    refine XS.icmpYes X7.here hx rfl (pc0 := 59) (pc' := 78) rfl (hb hby at_59) rfl (feq hc59).2 (by decide) (by decide) ?_
    show Steps _ _ _ (T7.setTop (mkF m 78 #[.val (.int p1), .val (.int p2), .val (.int p3), .val (.ref b4), .val (.ref b6), .val (.ref b6), .val (.ref b4), .val (.int (p1 &&& (3 : Int32))), .val .null, .unset, .unset, .unset, .unset] [])) _
    refine XS.iload X7.here hx rfl (hb hby at_78) rfl ?_
    show Steps _ _ _ (T7.setTop (mkF m 80 #[.val (.int p1), .val (.int p2), .val (.int p3), .val (.ref b4), .val (.ref b6), .val (.ref b6), .val (.ref b4), .val (.int (p1 &&& (3 : Int32))), .val .null, .unset, .unset, .unset, .unset] [(.int (p1 &&& (3 : Int32)))])) _
    refine XS.iconst X7.here hx rfl (hb hby at_80) ?_
    show Steps _ _ _ (T7.setTop (mkF m 81 #[.val (.int p1), .val (.int p2), .val (.int p3), .val (.ref b4), .val (.ref b6), .val (.ref b6), .val (.ref b4), .val (.int (p1 &&& (3 : Int32))), .val .null, .unset, .unset, .unset, .unset] [(.int (2 : Int32)), (.int (p1 &&& (3 : Int32)))])) _
    refine XS.icmpNo X7.here hx rfl (hb hby at_81) rfl (teq hc81).2 ?_
    show Steps _ _ _ (T7.setTop (mkF m 84 #[.val (.int p1), .val (.int p2), .val (.int p3), .val (.ref b4), .val (.ref b6), .val (.ref b6), .val (.ref b4), .val (.int (p1 &&& (3 : Int32))), .val .null, .unset, .unset, .unset, .unset] [])) _
    refine XS.aload X7.here hx rfl (hb hby at_84) rfl rfl ?_
    show Steps _ _ _ (T7.setTop (mkF m 86 #[.val (.int p1), .val (.int p2), .val (.int p3), .val (.ref b4), .val (.ref b6), .val (.ref b6), .val (.ref b4), .val (.int (p1 &&& (3 : Int32))), .val .null, .unset, .unset, .unset, .unset] [(.ref b6)])) _
    refine st8 _ ?_
    show Steps _ _ _ (T8.setTop (mkF m 89 #[.val (.int p1), .val (.int p2), .val (.int p3), .val (.ref b4), .val (.ref b6), .val (.ref b6), .val (.ref b4), .val (.int (p1 &&& (3 : Int32))), .val .null, .unset, .unset, .unset, .unset] [(.ref uC), (.ref b6)])) _
    refine st9.trans ?_
    show Steps _ _ _ (T9.setTop (mkF m 92 #[.val (.int p1), .val (.int p2), .val (.int p3), .val (.ref b4), .val (.ref b6), .val (.ref b6), .val (.ref b4), .val (.int (p1 &&& (3 : Int32))), .val .null, .unset, .unset, .unset, .unset] [])) _
    refine st10 _ ?_
    show Steps _ _ _ (T10.setTop (mkF m 95 #[.val (.int p1), .val (.int p2), .val (.int p3), .val (.ref b4), .val (.ref b6), .val (.ref b6), .val (.ref b4), .val (.int (p1 &&& (3 : Int32))), .val .null, .unset, .unset, .unset, .unset] [(.ref uC)])) _
    refine XS.astore X10.here hx rfl (hb hby at_95) rfl rfl (l' := #[.val (.int p1), .val (.int p2), .val (.int p3), .val (.ref b4), .val (.ref b6), .val (.ref b6), .val (.ref b4), .val (.int (p1 &&& (3 : Int32))), .val (.ref uC), .unset, .unset, .unset, .unset]) rfl ?_
    show Steps _ _ _ (T10.setTop (mkF m 97 #[.val (.int p1), .val (.int p2), .val (.int p3), .val (.ref b4), .val (.ref b6), .val (.ref b6), .val (.ref b4), .val (.int (p1 &&& (3 : Int32))), .val (.ref uC), .unset, .unset, .unset, .unset] [])) _
    refine XS.goto X10.here hx rfl (pc0 := 97) (pc' := 127) rfl (hb hby at_97) (by decide) (by decide) ?_
    show Steps _ _ _ (T10.setTop (mkF m 127 #[.val (.int p1), .val (.int p2), .val (.int p3), .val (.ref b4), .val (.ref b6), .val (.ref b6), .val (.ref b4), .val (.int (p1 &&& (3 : Int32))), .val (.ref uC), .unset, .unset, .unset, .unset] [])) _
    refine XS.aload X10.here hx rfl (hb hby at_127) rfl rfl ?_
    show Steps _ _ _ (T10.setTop (mkF m 129 #[.val (.int p1), .val (.int p2), .val (.int p3), .val (.ref b4), .val (.ref b6), .val (.ref b6), .val (.ref b4), .val (.int (p1 &&& (3 : Int32))), .val (.ref uC), .unset, .unset, .unset, .unset] [(.ref b4)])) _
    refine st11.trans ?_
    show Steps _ _ _ (T11.setTop (mkF m 132 #[.val (.int p1), .val (.int p2), .val (.int p3), .val (.ref b4), .val (.ref b6), .val (.ref b6), .val (.ref b4), .val (.int (p1 &&& (3 : Int32))), .val (.ref uC), .unset, .unset, .unset, .unset] [(.int (1 : Int32))])) _
    refine XS.aload X11.here hx rfl (hb hby at_132) rfl rfl ?_
    show Steps _ _ _ (T11.setTop (mkF m 134 #[.val (.int p1), .val (.int p2), .val (.int p3), .val (.ref b4), .val (.ref b6), .val (.ref b6), .val (.ref b4), .val (.int (p1 &&& (3 : Int32))), .val (.ref uC), .unset, .unset, .unset, .unset] [(.ref uC), (.int (1 : Int32))])) _
    refine XS.ifnullNo X11.here hx rfl (hb hby at_134) rfl ?_
    show Steps _ _ _ (T11.setTop (mkF m 137 #[.val (.int p1), .val (.int p2), .val (.int p3), .val (.ref b4), .val (.ref b6), .val (.ref b6), .val (.ref b4), .val (.int (p1 &&& (3 : Int32))), .val (.ref uC), .unset, .unset, .unset, .unset] [(.int (1 : Int32))])) _
    refine XS.iconst X11.here hx rfl (hb hby at_137) ?_
    show Steps _ _ _ (T11.setTop (mkF m 138 #[.val (.int p1), .val (.int p2), .val (.int p3), .val (.ref b4), .val (.ref b6), .val (.ref b6), .val (.ref b4), .val (.int (p1 &&& (3 : Int32))), .val (.ref uC), .unset, .unset, .unset, .unset] [(.int (1 : Int32)), (.int (1 : Int32))])) _
    refine XS.goto X11.here hx rfl (pc0 := 138) (pc' := 142) rfl (hb hby at_138) (by decide) (by decide) ?_
    show Steps _ _ _ (T11.setTop (mkF m 142 #[.val (.int p1), .val (.int p2), .val (.int p3), .val (.ref b4), .val (.ref b6), .val (.ref b6), .val (.ref b4), .val (.int (p1 &&& (3 : Int32))), .val (.ref uC), .unset, .unset, .unset, .unset] [(.int (1 : Int32)), (.int (1 : Int32))])) _
    refine XS.icmpNo X11.here hx rfl (hb hby at_142) rfl (teq (rfl : (1 : Int32) = (1 : Int32))).2 ?_
    show Steps _ _ _ (T11.setTop (mkF m 145 #[.val (.int p1), .val (.int p2), .val (.int p3), .val (.ref b4), .val (.ref b6), .val (.ref b6), .val (.ref b4), .val (.int (p1 &&& (3 : Int32))), .val (.ref uC), .unset, .unset, .unset, .unset] [])) _
    refine XS.iconst X11.here hx rfl (hb hby at_145) ?_
    show Steps _ _ _ (T11.setTop (mkF m 146 #[.val (.int p1), .val (.int p2), .val (.int p3), .val (.ref b4), .val (.ref b6), .val (.ref b6), .val (.ref b4), .val (.int (p1 &&& (3 : Int32))), .val (.ref uC), .unset, .unset, .unset, .unset] [(.int (1 : Int32))])) _
    refine XS.goto X11.here hx rfl (pc0 := 146) (pc' := 150) rfl (hb hby at_146) (by decide) (by decide) ?_
    show Steps _ _ _ (T11.setTop (mkF m 150 #[.val (.int p1), .val (.int p2), .val (.int p3), .val (.ref b4), .val (.ref b6), .val (.ref b6), .val (.ref b4), .val (.int (p1 &&& (3 : Int32))), .val (.ref uC), .unset, .unset, .unset, .unset] [(.int (1 : Int32))])) _
    refine XS.istore X11.here hx rfl (hb hby at_150) rfl (l' := #[.val (.int p1), .val (.int p2), .val (.int p3), .val (.ref b4), .val (.ref b6), .val (.ref b6), .val (.ref b4), .val (.int (p1 &&& (3 : Int32))), .val (.ref uC), .val (.int (1 : Int32)), .unset, .unset, .unset]) rfl ?_
    show Steps _ _ _ (T11.setTop (mkF m 152 #[.val (.int p1), .val (.int p2), .val (.int p3), .val (.ref b4), .val (.ref b6), .val (.ref b6), .val (.ref b4), .val (.int (p1 &&& (3 : Int32))), .val (.ref uC), .val (.int (1 : Int32)), .unset, .unset, .unset] [])) _
    refine XS.aload X11.here hx rfl (hb hby at_152) rfl rfl ?_
    show Steps _ _ _ (T11.setTop (mkF m 154 #[.val (.int p1), .val (.int p2), .val (.int p3), .val (.ref b4), .val (.ref b6), .val (.ref b6), .val (.ref b4), .val (.int (p1 &&& (3 : Int32))), .val (.ref uC), .val (.int (1 : Int32)), .unset, .unset, .unset] [(.ref b4)])) _
    refine st12.trans ?_
    show Steps _ _ _ (T12.setTop (mkF m 157 #[.val (.int p1), .val (.int p2), .val (.int p3), .val (.ref b4), .val (.ref b6), .val (.ref b6), .val (.ref b4), .val (.int (p1 &&& (3 : Int32))), .val (.ref uC), .val (.int (1 : Int32)), .unset, .unset, .unset] [(.ref uC)])) _
    refine XS.astore X12.here hx rfl (hb hby at_157) rfl rfl (l' := #[.val (.int p1), .val (.int p2), .val (.int p3), .val (.ref b4), .val (.ref b6), .val (.ref b6), .val (.ref b4), .val (.int (p1 &&& (3 : Int32))), .val (.ref uC), .val (.int (1 : Int32)), .val (.ref uC), .unset, .unset]) rfl ?_
    show Steps _ _ _ (T12.setTop (mkF m 159 #[.val (.int p1), .val (.int p2), .val (.int p3), .val (.ref b4), .val (.ref b6), .val (.ref b6), .val (.ref b4), .val (.int (p1 &&& (3 : Int32))), .val (.ref uC), .val (.int (1 : Int32)), .val (.ref uC), .unset, .unset] [])) _
    refine XS.aloadN X12.here hx rfl (hb hby at_159) rfl rfl ?_
    show Steps _ _ _ (T12.setTop (mkF m 160 #[.val (.int p1), .val (.int p2), .val (.int p3), .val (.ref b4), .val (.ref b6), .val (.ref b6), .val (.ref b4), .val (.int (p1 &&& (3 : Int32))), .val (.ref uC), .val (.int (1 : Int32)), .val (.ref uC), .unset, .unset] [(.ref b4)])) _
    refine st13.trans ?_
    show Steps _ _ _ (T13.setTop (mkF m 163 #[.val (.int p1), .val (.int p2), .val (.int p3), .val (.ref b4), .val (.ref b6), .val (.ref b6), .val (.ref b4), .val (.int (p1 &&& (3 : Int32))), .val (.ref uC), .val (.int (1 : Int32)), .val (.ref uC), .unset, .unset] [(.int (0 : Int32))])) _
    refine XS.ifNo X13.here hx rfl (hb hby at_163) rfl ((if0 _ _).trans (teq (rfl : (0 : Int32) = (0 : Int32))).2) ?_
    show Steps _ _ _ (T13.setTop (mkF m 166 #[.val (.int p1), .val (.int p2), .val (.int p3), .val (.ref b4), .val (.ref b6), .val (.ref b6), .val (.ref b4), .val (.int (p1 &&& (3 : Int32))), .val (.ref uC), .val (.int (1 : Int32)), .val (.ref uC), .unset, .unset] [])) _
    refine XS.aload X13.here hx rfl (hb hby at_166) rfl rfl ?_
    show Steps _ _ _ (T13.setTop (mkF m 168 #[.val (.int p1), .val (.int p2), .val (.int p3), .val (.ref b4), .val (.ref b6), .val (.ref b6), .val (.ref b4), .val (.int (p1 &&& (3 : Int32))), .val (.ref uC), .val (.int (1 : Int32)), .val (.ref uC), .unset, .unset] [(.ref b6)])) _
    refine st14.trans ?_
    show Steps _ _ _ (T14.setTop (mkF m 171 #[.val (.int p1), .val (.int p2), .val (.int p3), .val (.ref b4), .val (.ref b6), .val (.ref b6), .val (.ref b4), .val (.int (p1 &&& (3 : Int32))), .val (.ref uC), .val (.int (1 : Int32)), .val (.ref uC), .unset, .unset] [(.int (0 : Int32))])) _
    refine XS.ifNo X14.here hx rfl (hb hby at_171) rfl ((if0 _ _).trans (teq (rfl : (0 : Int32) = (0 : Int32))).2) ?_
    show Steps _ _ _ (T14.setTop (mkF m 174 #[.val (.int p1), .val (.int p2), .val (.int p3), .val (.ref b4), .val (.ref b6), .val (.ref b6), .val (.ref b4), .val (.int (p1 &&& (3 : Int32))), .val (.ref uC), .val (.int (1 : Int32)), .val (.ref uC), .unset, .unset] [])) _
    refine XS.iconst X14.here hx rfl (hb hby at_174) ?_
    show Steps _ _ _ (T14.setTop (mkF m 175 #[.val (.int p1), .val (.int p2), .val (.int p3), .val (.ref b4), .val (.ref b6), .val (.ref b6), .val (.ref b4), .val (.int (p1 &&& (3 : Int32))), .val (.ref uC), .val (.int (1 : Int32)), .val (.ref uC), .unset, .unset] [(.int (1 : Int32))])) _
    refine XS.goto X14.here hx rfl (pc0 := 175) (pc' := 179) rfl (hb hby at_175) (by decide) (by decide) ?_
    show Steps _ _ _ (T14.setTop (mkF m 179 #[.val (.int p1), .val (.int p2), .val (.int p3), .val (.ref b4), .val (.ref b6), .val (.ref b6), .val (.ref b4), .val (.int (p1 &&& (3 : Int32))), .val (.ref uC), .val (.int (1 : Int32)), .val (.ref uC), .unset, .unset] [(.int (1 : Int32))])) _
    refine XS.istore X14.here hx rfl (hb hby at_179) rfl (l' := #[.val (.int p1), .val (.int p2), .val (.int p3), .val (.ref b4), .val (.ref b6), .val (.ref b6), .val (.ref b4), .val (.int (p1 &&& (3 : Int32))), .val (.ref uC), .val (.int (1 : Int32)), .val (.ref uC), .val (.int (1 : Int32)), .unset]) rfl ?_
    show Steps _ _ _ (T14.setTop (mkF m 181 #[.val (.int p1), .val (.int p2), .val (.int p3), .val (.ref b4), .val (.ref b6), .val (.ref b6), .val (.ref b4), .val (.int (p1 &&& (3 : Int32))), .val (.ref uC), .val (.int (1 : Int32)), .val (.ref uC), .val (.int (1 : Int32)), .unset] [])) _
    refine XS.aload X14.here hx rfl (hb hby at_181) rfl rfl ?_
    show Steps _ _ _ (T14.setTop (mkF m 183 #[.val (.int p1), .val (.int p2), .val (.int p3), .val (.ref b4), .val (.ref b6), .val (.ref b6), .val (.ref b4), .val (.int (p1 &&& (3 : Int32))), .val (.ref uC), .val (.int (1 : Int32)), .val (.ref uC), .val (.int (1 : Int32)), .unset] [(.ref b4)])) _
    refine st15.trans ?_
    show Steps _ _ _ (T15.setTop (mkF m 186 #[.val (.int p1), .val (.int p2), .val (.int p3), .val (.ref b4), .val (.ref b6), .val (.ref b6), .val (.ref b4), .val (.int (p1 &&& (3 : Int32))), .val (.ref uC), .val (.int (1 : Int32)), .val (.ref uC), .val (.int (1 : Int32)), .unset] [.null])) _
    refine XS.astore X15.here hx rfl (hb hby at_186) rfl rfl (l' := #[.val (.int p1), .val (.int p2), .val (.int p3), .val (.ref b4), .val (.ref b6), .val (.ref b6), .val (.ref b4), .val (.int (p1 &&& (3 : Int32))), .val (.ref uC), .val (.int (1 : Int32)), .val (.ref uC), .val (.int (1 : Int32)), .val .null]) rfl ?_
    show Steps _ _ _ (T15.setTop (mkF m 188 #[.val (.int p1), .val (.int p2), .val (.int p3), .val (.ref b4), .val (.ref b6), .val (.ref b6), .val (.ref b4), .val (.int (p1 &&& (3 : Int32))), .val (.ref uC), .val (.int (1 : Int32)), .val (.ref uC), .val (.int (1 : Int32)), .val .null] [])) _
    refine XS.iload X15.here hx rfl (hb hby at_188) rfl ?_
    show Steps _ _ _ (T15.setTop (mkF m 190 #[.val (.int p1), .val (.int p2), .val (.int p3), .val (.ref b4), .val (.ref b6), .val (.ref b6), .val (.ref b4), .val (.int (p1 &&& (3 : Int32))), .val (.ref uC), .val (.int (1 : Int32)), .val (.ref uC), .val (.int (1 : Int32)), .val .null] [(.int (1 : Int32))])) _
    refine XS.ifNo X15.here hx rfl (hb hby at_190) rfl ((if0 _ _).trans (feq hc190).1) ?_
    show Steps _ _ _ (T15.setTop (mkF m 193 #[.val (.int p1), .val (.int p2), .val (.int p3), .val (.ref b4), .val (.ref b6), .val (.ref b6), .val (.ref b4), .val (.int (p1 &&& (3 : Int32))), .val (.ref uC), .val (.int (1 : Int32)), .val (.ref uC), .val (.int (1 : Int32)), .val .null] [])) _
    refine XS.aload X15.here hx rfl (hb hby at_193) rfl rfl ?_
    show Steps _ _ _ (T15.setTop (mkF m 195 #[.val (.int p1), .val (.int p2), .val (.int p3), .val (.ref b4), .val (.ref b6), .val (.ref b6), .val (.ref b4), .val (.int (p1 &&& (3 : Int32))), .val (.ref uC), .val (.int (1 : Int32)), .val (.ref uC), .val (.int (1 : Int32)), .val .null] [(.ref uC)])) _
    refine XS.aload X15.here hx rfl (hb hby at_195) rfl rfl ?_
    show Steps _ _ _ (T15.setTop (mkF m 197 #[.val (.int p1), .val (.int p2), .val (.int p3), .val (.ref b4), .val (.ref b6), .val (.ref b6), .val (.ref b4), .val (.int (p1 &&& (3 : Int32))), .val (.ref uC), .val (.int (1 : Int32)), .val (.ref uC), .val (.int (1 : Int32)), .val .null] [(.ref uC), (.ref uC)])) _
    refine Jvm.RoadKit.acmp (g := (mkF m 197 #[.val (.int p1), .val (.int p2), .val (.int p3), .val (.ref b4), .val (.ref b6), .val (.ref b6), .val (.ref b4), .val (.int (p1 &&& (3 : Int32))), .val (.ref uC), .val (.int (1 : Int32)), .val (.ref uC), .val (.int (1 : Int32)), .val .null] [(.ref uC), (.ref uC)])) X15 hx rfl rfl rfl (pc0 := 197) (pc' := 200) (same := true) rfl (hb hby at_197) rfl (decide_eq_true rfl) (by decide) (by decide) ?_
    show Steps _ _ _ (T15.setTop (mkF m 200 #[.val (.int p1), .val (.int p2), .val (.int p3), .val (.ref b4), .val (.ref b6), .val (.ref b6), .val (.ref b4), .val (.int (p1 &&& (3 : Int32))), .val (.ref uC), .val (.int (1 : Int32)), .val (.ref uC), .val (.int (1 : Int32)), .val .null] [])) _
    refine XS.iload X15.here hx rfl (hb hby at_200) rfl ?_
    show Steps _ _ _ (T15.setTop (mkF m 202 #[.val (.int p1), .val (.int p2), .val (.int p3), .val (.ref b4), .val (.ref b6), .val (.ref b6), .val (.ref b4), .val (.int (p1 &&& (3 : Int32))), .val (.ref uC), .val (.int (1 : Int32)), .val (.ref uC), .val (.int (1 : Int32)), .val .null] [(.int (1 : Int32))])) _
    refine XS.ifNo X15.here hx rfl (hb hby at_202) rfl ((if0 _ _).trans (feq hc202).1) ?_
    show Steps _ _ _ (T15.setTop (mkF m 205 #[.val (.int p1), .val (.int p2), .val (.int p3), .val (.ref b4), .val (.ref b6), .val (.ref b6), .val (.ref b4), .val (.int (p1 &&& (3 : Int32))), .val (.ref uC), .val (.int (1 : Int32)), .val (.ref uC), .val (.int (1 : Int32)), .val .null] [])) _
    refine XS.aload X15.here hx rfl (hb hby at_205) rfl rfl ?_
    show Steps _ _ _ (T15.setTop (mkF m 207 #[.val (.int p1), .val (.int p2), .val (.int p3), .val (.ref b4), .val (.ref b6), .val (.ref b6), .val (.ref b4), .val (.int (p1 &&& (3 : Int32))), .val (.ref uC), .val (.int (1 : Int32)), .val (.ref uC), .val (.int (1 : Int32)), .val .null] [.null])) _
    refine XS.ifnonnullNo X15.here hx rfl (hb hby at_207) rfl ?_
    show Steps _ _ _ (T15.setTop (mkF m 210 #[.val (.int p1), .val (.int p2), .val (.int p3), .val (.ref b4), .val (.ref b6), .val (.ref b6), .val (.ref b4), .val (.int (p1 &&& (3 : Int32))), .val (.ref uC), .val (.int (1 : Int32)), .val (.ref uC), .val (.int (1 : Int32)), .val .null] [])) _
    refine XS.iconst X15.here hx rfl (hb hby at_210) ?_
    show Steps _ _ _ (T15.setTop (mkF m 211 #[.val (.int p1), .val (.int p2), .val (.int p3), .val (.ref b4), .val (.ref b6), .val (.ref b6), .val (.ref b4), .val (.int (p1 &&& (3 : Int32))), .val (.ref uC), .val (.int (1 : Int32)), .val (.ref uC), .val (.int (1 : Int32)), .val .null] [(.int (1 : Int32))])) _
    refine XS.goto X15.here hx rfl (pc0 := 211) (pc' := 215) rfl (hb hby at_211) (by decide) (by decide) ?_
    show Steps _ _ _ (T15.setTop (mkF m 215 #[.val (.int p1), .val (.int p2), .val (.int p3), .val (.ref b4), .val (.ref b6), .val (.ref b6), .val (.ref b4), .val (.int (p1 &&& (3 : Int32))), .val (.ref uC), .val (.int (1 : Int32)), .val (.ref uC), .val (.int (1 : Int32)), .val .null] [(.int (1 : Int32))])) _
    exact retN X15 hx (t := .boolean) Bd.returns (by simp) (hb hby at_215) hr
  · show Q0 Z p1 p2 p3 uB uC h0 n0 _ T15.heap _
    exact ⟨rfl, N15⟩
-- 2. THE CONTRACT: what this body leaves is yours
-- its room: frames: the greatest, locals: the greatest, cells 4 + .., slots 32 + ..: rm1: frames + 1; locals 1 + 3 + 11 + its room's locals; its cells and slots besides; rm5: frames + 1; locals 1 + 2 + 11 + its room's locals; its cells and slots besides; rm9: frames + 1; locals 0 + 2 + 11 + its room's locals; its cells and slots besides; rm9: frames + 1; locals 0 + 2 + 11 + its room's locals; its cells and slots besides; rm7: frames + 1; locals 0 + 1 + 11 + its room's locals; its cells and slots besides; rm8: frames + 1; locals 0 + 2 + 11 + its room's locals; its cells and slots besides; rm7: frames + 1; locals 0 + 1 + 11 + its room's locals; its cells and slots besides; rm7: frames + 1; locals 0 + 1 + 11 + its room's locals; its cells and slots besides; rm8: frames + 1; locals 0 + 2 + 11 + its room's locals; its cells and slots besides
set_option maxRecDepth 65536 in
set_option maxHeartbeats 40000000 in
theorem rm0_ft3 (l : Launch) (Z : State) (a0 : Array Value) (hw : ∀ d ∈ tables_1, d.before a0 Z = true) (ws : List Jvm.Cond) (p1 : Int32) (p2 : Int32) (p3 : Int32) (uB : Addr) (uC : Addr) (h0 : Heap) (n0 : Nat) (Z0 : n0 ≤ h0.size) (S_BREAK : Sta Z h0 "com/example/transom/transom/Scope$Jump" "BREAK" "Lcom/example/transom/transom/Scope$Jump;" (.ref uB)) (S_CONTINUE : Sta Z h0 "com/example/transom/transom/Scope$Jump" "CONTINUE" "Lcom/example/transom/transom/Scope$Jump;" (.ref uC)) (hc23 : ¬ ((p2 &&& (1 : Int32)) = (0 : Int32))) (hc37 : (p3 &&& (1 : Int32)) = (0 : Int32)) (hc59 : ¬ ((p1 &&& (3 : Int32)) = (1 : Int32))) (hc81 : ¬ ((p1 &&& (3 : Int32)) = (2 : Int32))) (hc103 : (p1 &&& (3 : Int32)) = (3 : Int32)) (hc190 : ¬ ((1 : Int32) = (0 : Int32))) (hc202 : ¬ ((1 : Int32) = (0 : Int32))) :
    MetFree l x (head1 (Jvm.Cond.code x code maxLocals ret :: ws) room_1) (fun a U => a = #[(.int p1), (.int p2), (.int p3)] ∧ Z.Warmed39 U.vm ∧ U.heap = h0) (fun _ _ _ _ _ => True) (fun _ U o U' => ∃ v L, o = .returned v ∧ Q0 Z p1 p2 p3 uB uC h0 n0 v U'.heap L ∧ FrameEnd U o U' L room_1.cells room_1.slots) := by
  refine MetFree.of_bodySF (plainFor_of_name pn_0) hisR ?_
  intro p e s m args below meth c s₁ Bd hml0 hP hK
  obtain ⟨rfl, hZ, hh⟩ := hP
  have hx := Bd.exec
  have hby := Bd.bytes
  have hml : c.maxLocals = 13 := hml0
  have hown : s.vm.findClass "com/example/transom/transom/ScopeLandPinLaw" = some m.cls := findClass_of_methodNamed Bd.named
  have hnm := (name_of_methodNamed Bd.named Bd.method).1
  have X0 : Stand p l e room_1 s m #[(.int p1), (.int p2), (.int p3)] below meth c s₁ [] 0 0 := Stand.of_body Bd
  have e0 : s₁.heap = h0 := by rw [← hh, Bd.state]; rfl
  have N0 := Fr.nil n0
  have pre0 : ∀ t, Steps p.tables e below (s₁.setTop (mkF m 0 #[.val (.int p1), .val (.int p2), .val (.int p3), .unset, .unset, .unset, .unset, .unset, .unset, .unset, .unset, .unset, .unset] [])) t → Steps p.tables e below (s₁.setTop (entryFrame m #[(.int p1), (.int p2), (.int p3)] maxLocals)) t := fun t k => castTop (ef_0 m p1 p2 p3) k
  obtain ⟨T4, h4, X4, e4, E4, A4, D4, -, st4⟩ := newO X0 hx hZ hown (ww hw 0 rfl) (ww hw 1 rfl) (ww hw 2 rfl) e0 (g := (mkF m 0 #[.val (.int p1), .val (.int p2), .val (.int p3), .unset, .unset, .unset, .unset, .unset, .unset, .unset, .unset, .unset, .unset] [])) rfl (hb hby at_0) (by decide) (by decide)
  obtain ⟨b4, g4⟩ : ∃ z, z = h0.size := ⟨_, rfl⟩
  rw [← g4] at A4 D4 st4
  have F_values_b4 : Fld Z h4 b4 "com/example/transom/transom/Scope" "values" "Ljava/util/Map;" .null := D4 (Or.inr (ww hw 26 rfl)) (ty := (.object "java/util/Map")) (by decide)
  have F_parent_b4 : Fld Z h4 b4 "com/example/transom/transom/Scope" "parent" "Lcom/example/transom/transom/Scope;" .null := D4 (Or.inr (ww hw 28 rfl)) (ty := (.object "com/example/transom/transom/Scope")) (by decide)
  have F_top_b4 : Fld Z h4 b4 "com/example/transom/transom/Scope" "top" "Lcom/example/transom/transom/Scope;" .null := D4 (Or.inr (ww hw 30 rfl)) (ty := (.object "com/example/transom/transom/Scope")) (by decide)
  have F_model_b4 : Fld Z h4 b4 "com/example/transom/transom/Scope" "model" "Ljava/util/Map;" .null := D4 (Or.inr (ww hw 32 rfl)) (ty := (.object "java/util/Map")) (by decide)
  have F_template_b4 : Fld Z h4 b4 "com/example/transom/transom/Scope" "template" "Lcom/example/transom/transom/Template;" .null := D4 (Or.inr (ww hw 34 rfl)) (ty := (.object "com/example/transom/transom/Template")) (by decide)
  have F_renderer_b4 : Fld Z h4 b4 "com/example/transom/transom/Scope" "renderer" "Lcom/example/transom/transom/Scope;" .null := D4 (Or.inr (ww hw 36 rfl)) (ty := (.object "com/example/transom/transom/Scope")) (by decide)
  have F_calls_b4 : Fld Z h4 b4 "com/example/transom/transom/Scope" "calls" "I" (.int (0 : Int32)) := D4 (Or.inr (ww hw 38 rfl)) (ty := .int) (by decide)
  have F_jump_b4 : Fld Z h4 b4 "com/example/transom/transom/Scope" "jump" "Lcom/example/transom/transom/Scope$Jump;" .null := D4 (Or.inl (ww hw 51 rfl)) (ty := (.object "com/example/transom/transom/Scope$Jump")) (by decide)
  have E_b4 := A4
  have g_b4 : n0 ≤ b4 := Nat.le_trans Z0 (Nat.le_of_eq g4.symm)
  have sz_b4 : h0.size ≤ b4 := (Nat.le_trans (Keep.refl h0 []).1 (Nat.le_of_eq g4.symm))
  have K4 : Keep h0 h4 [] := (Keep.refl h0 []).ext E4
  obtain ⟨_, _, ⟨T5, L5, k5, n5⟩, -, X5, ⟨Lc5, hQ5, l5, y5, z5⟩, st5⟩ := X4.specialBack hx (y := (⟨"com/example/transom/transom/Scope", "<init>", "(Ljava/util/Map;Lcom/example/transom/transom/Template;)V"⟩ : MethodName)) rfl hown (mvT hZ (ww hw 3 rfl)) (mvT hZ (ww hw 4 rfl)) (mvT hZ (ww hw 5 rfl)) (by decide) (backOf (W := 1) (rm1 l Z a0 hw [] b4 _ _ _ _ _ _ _  h4 n0 (Nat.le_trans Z0 E4.1) F_jump_b4 E_b4 F_values_b4 g_b4 F_parent_b4 F_top_b4 F_model_b4 F_template_b4 F_renderer_b4 F_calls_b4) hZ (ww hw 5 rfl) (ww hw 2 rfl) (by decide) (by decide)) (g := (mkF m 6 #[.val (.int p1), .val (.int p2), .val (.int p3), .unset, .unset, .unset, .unset, .unset, .unset, .unset, .unset, .unset, .unset] [.null, .null, (.ref b4), (.ref b4)])) rfl (by rw [hml]; rfl) (Steps.refl _) (a := b4) (argsL := [.null, .null]) (rest := [(.ref b4)]) (lenOf pd_0_0 rfl) rfl (by show 2 * 0 + _ ≤ _; exact Nat.le_of_eq rfl) (hb hby at_6) (fun _ _ => ⟨rfl, e4, (by decide : 1 + 1 ≤ _), (by decide : 8 + 8 ≤ _)⟩)
  dsimp only [Pt.U, Pt.locs, Pt.cells, Pt.slots] at X5 l5 y5 z5 st5 hQ5
  subst l5 y5 z5
  obtain ⟨rfl, N5q, Kc5, Ec5, Ftop5, Fmodel5, Ftemplate5, Frenderer5, Fcalls5, Fjump5⟩ := hQ5
  have N5 := Fr.app N0 N5q
  have S_BREAK_5 := own_stak (S_BREAK.ext E4) Kc5 (allS (own_nst E_b4) all0)
  have S_CONTINUE_5 := own_stak (S_CONTINUE.ext E4) Kc5 (allS (own_nst E_b4) all0)
  have K5 : Keep h0 T5.heap [] := K4.trans Kc5 (allS (Or.inr sz_b4) all0)
  obtain ⟨T6, h6, X6, e6, E6, A6, D6, -, st6⟩ := newO X5 hx hZ hown (ww hw 0 rfl) (ww hw 1 rfl) (ww hw 2 rfl) rfl (g := (mkF m 10 #[.val (.int p1), .val (.int p2), .val (.int p3), .val (.ref b4), .unset, .unset, .unset, .unset, .unset, .unset, .unset, .unset, .unset] [])) rfl (hb hby at_10) (by decide) (by decide)
  obtain ⟨b6, g6⟩ : ∃ z, z = T5.heap.size := ⟨_, rfl⟩
  rw [← g6] at A6 D6 st6
  have F_values_b6 : Fld Z h6 b6 "com/example/transom/transom/Scope" "values" "Ljava/util/Map;" .null := D6 (Or.inr (ww hw 26 rfl)) (ty := (.object "java/util/Map")) (by decide)
  have F_parent_b6 : Fld Z h6 b6 "com/example/transom/transom/Scope" "parent" "Lcom/example/transom/transom/Scope;" .null := D6 (Or.inr (ww hw 28 rfl)) (ty := (.object "com/example/transom/transom/Scope")) (by decide)
  have F_top_b6 : Fld Z h6 b6 "com/example/transom/transom/Scope" "top" "Lcom/example/transom/transom/Scope;" .null := D6 (Or.inr (ww hw 30 rfl)) (ty := (.object "com/example/transom/transom/Scope")) (by decide)
  have F_model_b6 : Fld Z h6 b6 "com/example/transom/transom/Scope" "model" "Ljava/util/Map;" .null := D6 (Or.inr (ww hw 32 rfl)) (ty := (.object "java/util/Map")) (by decide)
  have F_template_b6 : Fld Z h6 b6 "com/example/transom/transom/Scope" "template" "Lcom/example/transom/transom/Template;" .null := D6 (Or.inr (ww hw 34 rfl)) (ty := (.object "com/example/transom/transom/Template")) (by decide)
  have F_renderer_b6 : Fld Z h6 b6 "com/example/transom/transom/Scope" "renderer" "Lcom/example/transom/transom/Scope;" .null := D6 (Or.inr (ww hw 36 rfl)) (ty := (.object "com/example/transom/transom/Scope")) (by decide)
  have F_calls_b6 : Fld Z h6 b6 "com/example/transom/transom/Scope" "calls" "I" (.int (0 : Int32)) := D6 (Or.inr (ww hw 38 rfl)) (ty := .int) (by decide)
  have F_jump_b6 : Fld Z h6 b6 "com/example/transom/transom/Scope" "jump" "Lcom/example/transom/transom/Scope$Jump;" .null := D6 (Or.inl (ww hw 51 rfl)) (ty := (.object "com/example/transom/transom/Scope$Jump")) (by decide)
  have E_b6 := A6
  have g_b6 : n0 ≤ b6 := Nat.le_trans (Nat.le_trans (Nat.le_trans Z0 E4.1) Kc5.1) (Nat.le_of_eq g6.symm)
  have sz_b6 : h0.size ≤ b6 := (Nat.le_trans K5.1 (Nat.le_of_eq g6.symm))
  have K6 : Keep h0 h6 [] := K5.ext E6
  obtain ⟨_, _, ⟨T7, L7, k7, n7⟩, -, X7, ⟨Lc7, hQ7, l7, y7, z7⟩, st7⟩ := X6.specialBack hx (y := (⟨"com/example/transom/transom/Scope", "<init>", "(Lcom/example/transom/transom/Scope;)V"⟩ : MethodName)) rfl hown (mvT hZ (ww hw 39 rfl)) (mvT hZ (ww hw 40 rfl)) (mvT hZ (ww hw 41 rfl)) (by decide) (backOf (W := 1) (rm5 l Z a0 hw [] b6 b4 b4 (0 : Int32) h6 n0 (Nat.le_trans (Nat.le_trans (Nat.le_trans Z0 E4.1) Kc5.1) E6.1) (Nat.ne_of_lt (Nat.lt_of_lt_of_le (E_b4.keep Kc5).lt (Nat.le_of_eq g6.symm))) E_b6 F_values_b6 F_parent_b6 F_top_b6 F_model_b6 F_template_b6 F_renderer_b6 F_calls_b6 g_b6 (Ftop5.ext E6) (Fmodel5.ext E6) (Ftemplate5.ext E6) (Frenderer5.ext E6) (Fcalls5.ext E6)) hZ (ww hw 41 rfl) (ww hw 2 rfl) (by decide) (by decide)) (g := (mkF m 15 #[.val (.int p1), .val (.int p2), .val (.int p3), .val (.ref b4), .unset, .unset, .unset, .unset, .unset, .unset, .unset, .unset, .unset] [(.ref b4), (.ref b6), (.ref b6)])) rfl (by rw [hml]; rfl) (Steps.refl _) (a := b6) (argsL := [(.ref b4)]) (rest := [(.ref b6)]) (lenOf pd_0_2 rfl) rfl (by show 2 * 0 + _ ≤ _; exact Nat.le_of_eq rfl) (hb hby at_15) (fun _ _ => ⟨rfl, e6, (by decide : 3 + 1 ≤ _), (by decide : 24 + 8 ≤ _)⟩)
  dsimp only [Pt.U, Pt.locs, Pt.cells, Pt.slots] at X7 l7 y7 z7 st7 hQ7
  subst l7 y7 z7
  obtain ⟨rfl, N7q, Kc7, Ec7, Ft7⟩ := hQ7
  have N7 := Fr.app N5 N7q
  have S_BREAK_7 := own_stak (S_BREAK_5.ext E6) Kc7 (allS (own_nst E_b6) all0)
  have S_CONTINUE_7 := own_stak (S_CONTINUE_5.ext E6) Kc7 (allS (own_nst E_b6) all0)
  have K7 : Keep h0 T7.heap [] := K6.trans Kc7 (allS (Or.inr sz_b6) all0)
  obtain ⟨T8, X8, e8, st8⟩ := getS2 X7 hx hZ hown (host := "") (Or.inl (ww hw 57 rfl)) Via.refl rfl S_BREAK_7 (g := (mkF m 108 #[.val (.int p1), .val (.int p2), .val (.int p3), .val (.ref b4), .val (.ref b6), .val (.ref b6), .val (.ref b4), .val (.int (p1 &&& (3 : Int32))), .val .null, .unset, .unset, .unset, .unset] [(.ref b6)])) rfl (hb hby at_108)
  obtain ⟨cq9, kq9, q9a, q9b, q9c⟩ := isOf hZ e8 (E_b6.keep Kc7)
  obtain ⟨_, _, ⟨T9, L9, k9, n9⟩, -, X9, ⟨Lc9, hQ9, l9, y9, z9⟩, st9⟩ := X8.virtualBack hx (y := (⟨"com/example/transom/transom/Scope", "jump", "(Lcom/example/transom/transom/Scope$Jump;)V"⟩ : MethodName)) (z := (⟨"com/example/transom/transom/Scope", "jump", "(Lcom/example/transom/transom/Scope$Jump;)V"⟩ : MethodName)) hown (mvT hZ (ww hw 60 rfl)) (mvT hZ (ww hw 61 rfl)) (notFace_of_selects (args := #[]) (mvT hZ (ww hw 63 rfl))) (mvT hZ (ww hw 63 rfl)) (mvT hZ (ww hw 62 rfl)) (by decide) (backOf (W := 0) (rmS l Z a0 hw [] b6 uB b4 _ T7.heap n0 (Nat.le_trans (Nat.le_trans (Nat.le_trans (Nat.le_trans Z0 E4.1) Kc5.1) E6.1) Kc7.1) ((Ftop5.ext E6).keep Kc7 (ninS (Nat.ne_of_lt (Nat.lt_of_lt_of_le (E_b4.keep Kc5).lt (Nat.le_of_eq g6.symm))) nin0)) Ft7 (((E_b4.keep Kc5).ext E6).keep Kc7) ((Fjump5.ext E6).keep Kc7 (ninS (Nat.ne_of_lt (Nat.lt_of_lt_of_le (E_b4.keep Kc5).lt (Nat.le_of_eq g6.symm))) nin0)) g_b4) hZ (ww hw 64 rfl) (ww hw 2 rfl) (by decide) (by decide)) q9a q9c (g := (mkF m 111 #[.val (.int p1), .val (.int p2), .val (.int p3), .val (.ref b4), .val (.ref b6), .val (.ref b6), .val (.ref b4), .val (.int (p1 &&& (3 : Int32))), .val .null, .unset, .unset, .unset, .unset] [(.ref uB), (.ref b6)])) rfl (by rw [hml]; rfl) (Steps.refl _) (argsL := [(.ref uB)]) (rest := []) (lenOf pd_0_6 rfl) rfl (by show 2 * 0 + _ ≤ _; exact Nat.le_of_eq rfl) (hb hby at_111) (fun _ _ => ⟨rfl, e8, (by decide : 4 + 0 ≤ _), (by decide : 32 + 0 ≤ _)⟩)
  dsimp only [Pt.U, Pt.locs, Pt.cells, Pt.slots] at X9 l9 y9 z9 st9 hQ9
  subst l9 y9 z9
  obtain ⟨rfl, N9q, Kc9, Fj9, Ft9⟩ := hQ9
  have N9 := Fr.app N7 N9q
  have S_BREAK_9 := own_stak S_BREAK_7 Kc9 (allS (own_nst (((E_b4.keep Kc5).ext E6).keep Kc7)) all0)
  have S_CONTINUE_9 := own_stak S_CONTINUE_7 Kc9 (allS (own_nst (((E_b4.keep Kc5).ext E6).keep Kc7)) all0)
  have K9 : Keep h0 T9.heap [] := K7.trans Kc9 (allS (Or.inr sz_b4) all0)
  obtain ⟨T10, X10, e10, st10⟩ := getS2 X9 hx hZ hown (host := "") (Or.inl (ww hw 65 rfl)) Via.refl rfl S_CONTINUE_9 (g := (mkF m 116 #[.val (.int p1), .val (.int p2), .val (.int p3), .val (.ref b4), .val (.ref b6), .val (.ref b6), .val (.ref b4), .val (.int (p1 &&& (3 : Int32))), .val .null, .unset, .unset, .unset, .unset] [(.ref b6)])) rfl (hb hby at_116)
  obtain ⟨cq11, kq11, q11a, q11b, q11c⟩ := isOf hZ e10 ((E_b6.keep Kc7).keep Kc9)
  obtain ⟨_, _, ⟨T11, L11, k11, n11⟩, -, X11, ⟨Lc11, hQ11, l11, y11, z11⟩, st11⟩ := X10.virtualBack hx (y := (⟨"com/example/transom/transom/Scope", "jump", "(Lcom/example/transom/transom/Scope$Jump;)V"⟩ : MethodName)) (z := (⟨"com/example/transom/transom/Scope", "jump", "(Lcom/example/transom/transom/Scope$Jump;)V"⟩ : MethodName)) hown (mvT hZ (ww hw 60 rfl)) (mvT hZ (ww hw 61 rfl)) (notFace_of_selects (args := #[]) (mvT hZ (ww hw 63 rfl))) (mvT hZ (ww hw 63 rfl)) (mvT hZ (ww hw 62 rfl)) (by decide) (backOf (W := 0) (rmS l Z a0 hw [] b6 uC b4 _ T9.heap n0 (Nat.le_trans (Nat.le_trans (Nat.le_trans (Nat.le_trans (Nat.le_trans Z0 E4.1) Kc5.1) E6.1) Kc7.1) Kc9.1) Ft9 (Ft7.keep Kc9 (ninS (Ne.symm (Nat.ne_of_lt (Nat.lt_of_lt_of_le (E_b4.keep Kc5).lt (Nat.le_of_eq g6.symm)))) nin0)) ((((E_b4.keep Kc5).ext E6).keep Kc7).keep Kc9) Fj9 g_b4) hZ (ww hw 64 rfl) (ww hw 2 rfl) (by decide) (by decide)) q11a q11c (g := (mkF m 119 #[.val (.int p1), .val (.int p2), .val (.int p3), .val (.ref b4), .val (.ref b6), .val (.ref b6), .val (.ref b4), .val (.int (p1 &&& (3 : Int32))), .val .null, .unset, .unset, .unset, .unset] [(.ref uC), (.ref b6)])) rfl (by rw [hml]; rfl) (Steps.refl _) (argsL := [(.ref uC)]) (rest := []) (lenOf pd_0_6 rfl) rfl (by show 2 * 0 + _ ≤ _; exact Nat.le_of_eq rfl) (hb hby at_119) (fun _ _ => ⟨rfl, e10, (by decide : 4 + 0 ≤ _), (by decide : 32 + 0 ≤ _)⟩)
  dsimp only [Pt.U, Pt.locs, Pt.cells, Pt.slots] at X11 l11 y11 z11 st11 hQ11
  subst l11 y11 z11
  obtain ⟨rfl, N11q, Kc11, Fj11, Ft11⟩ := hQ11
  have N11 := Fr.app N9 N11q
  have S_BREAK_11 := own_stak S_BREAK_9 Kc11 (allS (own_nst ((((E_b4.keep Kc5).ext E6).keep Kc7).keep Kc9)) all0)
  have S_CONTINUE_11 := own_stak S_CONTINUE_9 Kc11 (allS (own_nst ((((E_b4.keep Kc5).ext E6).keep Kc7).keep Kc9)) all0)
  have K11 : Keep h0 T11.heap [] := K9.trans Kc11 (allS (Or.inr sz_b4) all0)
  obtain ⟨T12, X12, e12, st12⟩ := getS2 X11 hx hZ hown (host := "") (Or.inl (ww hw 65 rfl)) Via.refl rfl S_CONTINUE_11 (g := (mkF m 122 #[.val (.int p1), .val (.int p2), .val (.int p3), .val (.ref b4), .val (.ref b6), .val (.ref b6), .val (.ref b4), .val (.int (p1 &&& (3 : Int32))), .val .null, .unset, .unset, .unset, .unset] [])) rfl (hb hby at_122)
  obtain ⟨cq13, kq13, q13a, q13b, q13c⟩ := isOf hZ e12 (((((E_b4.keep Kc5).ext E6).keep Kc7).keep Kc9).keep Kc11)
  obtain ⟨_, _, ⟨T13, L13, k13, n13⟩, -, X13, ⟨Lc13, hQ13, l13, y13, z13⟩, st13⟩ := X12.virtualBack hx (y := (⟨"com/example/transom/transom/Scope", "jumping", "()Z"⟩ : MethodName)) (z := (⟨"com/example/transom/transom/Scope", "jumping", "()Z"⟩ : MethodName)) hown (mvT hZ (ww hw 45 rfl)) (mvT hZ (ww hw 46 rfl)) (notFace_of_selects (args := #[]) (mvT hZ (ww hw 48 rfl))) (mvT hZ (ww hw 48 rfl)) (mvT hZ (ww hw 47 rfl)) (by decide) (backOf (W := 0) (rmJr l Z a0 hw [] b4 b4 uC T11.heap n0 (Nat.le_trans (Nat.le_trans (Nat.le_trans (Nat.le_trans (Nat.le_trans (Nat.le_trans Z0 E4.1) Kc5.1) E6.1) Kc7.1) Kc9.1) Kc11.1) Ft11 Fj11) hZ (ww hw 49 rfl) (ww hw 2 rfl) (by decide) (by decide)) q13a q13c (g := (mkF m 129 #[.val (.int p1), .val (.int p2), .val (.int p3), .val (.ref b4), .val (.ref b6), .val (.ref b6), .val (.ref b4), .val (.int (p1 &&& (3 : Int32))), .val (.ref uC), .unset, .unset, .unset, .unset] [(.ref b4)])) rfl (by rw [hml]; rfl) (Steps.refl _) (argsL := []) (rest := []) (lenOf pd_0_4 rfl) rfl (by show 2 * 0 + _ ≤ _; exact Nat.le_of_eq rfl) (hb hby at_129) (fun _ _ => ⟨rfl, e12, (by decide : 4 + 0 ≤ _), (by decide : 32 + 0 ≤ _)⟩)
  dsimp only [Pt.U, Pt.locs, Pt.cells, Pt.slots] at X13 l13 y13 z13 st13 hQ13
  subst l13 y13 z13
  obtain ⟨rfl, N13q, eh13⟩ := hQ13
  have N13 := Fr.app N11 N13q
  obtain ⟨cq14, kq14, q14a, q14b, q14c⟩ := isOf hZ eh13 (((((E_b4.keep Kc5).ext E6).keep Kc7).keep Kc9).keep Kc11)
  obtain ⟨_, _, ⟨T14, L14, k14, n14⟩, -, X14, ⟨Lc14, hQ14, l14, y14, z14⟩, st14⟩ := X13.virtualBack hx (y := (⟨"com/example/transom/transom/Scope", "land", "()Lcom/example/transom/transom/Scope$Jump;"⟩ : MethodName)) (z := (⟨"com/example/transom/transom/Scope", "land", "()Lcom/example/transom/transom/Scope$Jump;"⟩ : MethodName)) hown (mvT hZ (ww hw 52 rfl)) (mvT hZ (ww hw 53 rfl)) (notFace_of_selects (args := #[]) (mvT hZ (ww hw 55 rfl))) (mvT hZ (ww hw 55 rfl)) (mvT hZ (ww hw 54 rfl)) (by decide) (backOf (W := 0) (rmLr l Z a0 hw [] b4 b4 uC T11.heap n0 (Nat.le_trans (Nat.le_trans (Nat.le_trans (Nat.le_trans (Nat.le_trans (Nat.le_trans Z0 E4.1) Kc5.1) E6.1) Kc7.1) Kc9.1) Kc11.1) Ft11 Ft11 Fj11 (((((E_b4.keep Kc5).ext E6).keep Kc7).keep Kc9).keep Kc11) g_b4) hZ (ww hw 56 rfl) (ww hw 2 rfl) (by decide) (by decide)) q14a q14c (g := (mkF m 154 #[.val (.int p1), .val (.int p2), .val (.int p3), .val (.ref b4), .val (.ref b6), .val (.ref b6), .val (.ref b4), .val (.int (p1 &&& (3 : Int32))), .val (.ref uC), .val (.int (1 : Int32)), .unset, .unset, .unset] [(.ref b4)])) rfl (by rw [hml]; rfl) (Steps.refl _) (argsL := []) (rest := []) (lenOf pd_0_5 rfl) rfl (by show 2 * 0 + _ ≤ _; exact Nat.le_of_eq rfl) (hb hby at_154) (fun _ _ => ⟨rfl, eh13, (by decide : 4 + 0 ≤ _), (by decide : 32 + 0 ≤ _)⟩)
  dsimp only [Pt.U, Pt.locs, Pt.cells, Pt.slots] at X14 l14 y14 z14 st14 hQ14
  subst l14 y14 z14
  obtain ⟨rfl, N14q, Kc14, Fj14, Ft14⟩ := hQ14
  have N14 := Fr.app N13 N14q
  have S_BREAK_14 := own_stak S_BREAK_11 Kc14 (allS (own_nst (((((E_b4.keep Kc5).ext E6).keep Kc7).keep Kc9).keep Kc11)) all0)
  have S_CONTINUE_14 := own_stak S_CONTINUE_11 Kc14 (allS (own_nst (((((E_b4.keep Kc5).ext E6).keep Kc7).keep Kc9).keep Kc11)) all0)
  have K14 : Keep h0 T14.heap [] := K11.trans Kc14 (allS (Or.inr sz_b4) all0)
  obtain ⟨cq15, kq15, q15a, q15b, q15c⟩ := isOf hZ rfl ((((((E_b4.keep Kc5).ext E6).keep Kc7).keep Kc9).keep Kc11).keep Kc14)
  obtain ⟨_, _, ⟨T15, L15, k15, n15⟩, -, X15, ⟨Lc15, hQ15, l15, y15, z15⟩, st15⟩ := X14.virtualBack hx (y := (⟨"com/example/transom/transom/Scope", "jumping", "()Z"⟩ : MethodName)) (z := (⟨"com/example/transom/transom/Scope", "jumping", "()Z"⟩ : MethodName)) hown (mvT hZ (ww hw 45 rfl)) (mvT hZ (ww hw 46 rfl)) (notFace_of_selects (args := #[]) (mvT hZ (ww hw 48 rfl))) (mvT hZ (ww hw 48 rfl)) (mvT hZ (ww hw 47 rfl)) (by decide) (backOf (W := 0) (rmJn l Z a0 hw [] b4 b4 T14.heap n0 (Nat.le_trans (Nat.le_trans (Nat.le_trans (Nat.le_trans (Nat.le_trans (Nat.le_trans (Nat.le_trans Z0 E4.1) Kc5.1) E6.1) Kc7.1) Kc9.1) Kc11.1) Kc14.1) Ft14 Fj14) hZ (ww hw 49 rfl) (ww hw 2 rfl) (by decide) (by decide)) q15a q15c (g := (mkF m 160 #[.val (.int p1), .val (.int p2), .val (.int p3), .val (.ref b4), .val (.ref b6), .val (.ref b6), .val (.ref b4), .val (.int (p1 &&& (3 : Int32))), .val (.ref uC), .val (.int (1 : Int32)), .val (.ref uC), .unset, .unset] [(.ref b4)])) rfl (by rw [hml]; rfl) (Steps.refl _) (argsL := []) (rest := []) (lenOf pd_0_4 rfl) rfl (by show 2 * 0 + _ ≤ _; exact Nat.le_of_eq rfl) (hb hby at_160) (fun _ _ => ⟨rfl, rfl, (by decide : 4 + 0 ≤ _), (by decide : 32 + 0 ≤ _)⟩)
  dsimp only [Pt.U, Pt.locs, Pt.cells, Pt.slots] at X15 l15 y15 z15 st15 hQ15
  subst l15 y15 z15
  obtain ⟨rfl, N15q, eh15⟩ := hQ15
  have N15 := Fr.app N14 N15q
  obtain ⟨cq16, kq16, q16a, q16b, q16c⟩ := isOf hZ eh15 ((((E_b6.keep Kc7).keep Kc9).keep Kc11).keep Kc14)
  obtain ⟨_, _, ⟨T16, L16, k16, n16⟩, -, X16, ⟨Lc16, hQ16, l16, y16, z16⟩, st16⟩ := X15.virtualBack hx (y := (⟨"com/example/transom/transom/Scope", "jumping", "()Z"⟩ : MethodName)) (z := (⟨"com/example/transom/transom/Scope", "jumping", "()Z"⟩ : MethodName)) hown (mvT hZ (ww hw 45 rfl)) (mvT hZ (ww hw 46 rfl)) (notFace_of_selects (args := #[]) (mvT hZ (ww hw 48 rfl))) (mvT hZ (ww hw 48 rfl)) (mvT hZ (ww hw 47 rfl)) (by decide) (backOf (W := 0) (rmJn l Z a0 hw [] b6 b4 T14.heap n0 (Nat.le_trans (Nat.le_trans (Nat.le_trans (Nat.le_trans (Nat.le_trans (Nat.le_trans (Nat.le_trans Z0 E4.1) Kc5.1) E6.1) Kc7.1) Kc9.1) Kc11.1) Kc14.1) (((Ft7.keep Kc9 (ninS (Ne.symm (Nat.ne_of_lt (Nat.lt_of_lt_of_le (E_b4.keep Kc5).lt (Nat.le_of_eq g6.symm)))) nin0)).keep Kc11 (ninS (Ne.symm (Nat.ne_of_lt (Nat.lt_of_lt_of_le (E_b4.keep Kc5).lt (Nat.le_of_eq g6.symm)))) nin0)).keep Kc14 (ninS (Ne.symm (Nat.ne_of_lt (Nat.lt_of_lt_of_le (E_b4.keep Kc5).lt (Nat.le_of_eq g6.symm)))) nin0)) Fj14) hZ (ww hw 49 rfl) (ww hw 2 rfl) (by decide) (by decide)) q16a q16c (g := (mkF m 168 #[.val (.int p1), .val (.int p2), .val (.int p3), .val (.ref b4), .val (.ref b6), .val (.ref b6), .val (.ref b4), .val (.int (p1 &&& (3 : Int32))), .val (.ref uC), .val (.int (1 : Int32)), .val (.ref uC), .unset, .unset] [(.ref b6)])) rfl (by rw [hml]; rfl) (Steps.refl _) (argsL := []) (rest := []) (lenOf pd_0_4 rfl) rfl (by show 2 * 0 + _ ≤ _; exact Nat.le_of_eq rfl) (hb hby at_168) (fun _ _ => ⟨rfl, eh15, (by decide : 4 + 0 ≤ _), (by decide : 32 + 0 ≤ _)⟩)
  dsimp only [Pt.U, Pt.locs, Pt.cells, Pt.slots] at X16 l16 y16 z16 st16 hQ16
  subst l16 y16 z16
  obtain ⟨rfl, N16q, eh16⟩ := hQ16
  have N16 := Fr.app N15 N16q
  obtain ⟨cq17, kq17, q17a, q17b, q17c⟩ := isOf hZ eh16 ((((((E_b4.keep Kc5).ext E6).keep Kc7).keep Kc9).keep Kc11).keep Kc14)
  obtain ⟨_, _, ⟨T17, L17, k17, n17⟩, -, X17, ⟨Lc17, hQ17, l17, y17, z17⟩, st17⟩ := X16.virtualBack hx (y := (⟨"com/example/transom/transom/Scope", "land", "()Lcom/example/transom/transom/Scope$Jump;"⟩ : MethodName)) (z := (⟨"com/example/transom/transom/Scope", "land", "()Lcom/example/transom/transom/Scope$Jump;"⟩ : MethodName)) hown (mvT hZ (ww hw 52 rfl)) (mvT hZ (ww hw 53 rfl)) (notFace_of_selects (args := #[]) (mvT hZ (ww hw 55 rfl))) (mvT hZ (ww hw 55 rfl)) (mvT hZ (ww hw 54 rfl)) (by decide) (backOf (W := 0) (rmLn l Z a0 hw [] b4 b4 T14.heap n0 (Nat.le_trans (Nat.le_trans (Nat.le_trans (Nat.le_trans (Nat.le_trans (Nat.le_trans (Nat.le_trans Z0 E4.1) Kc5.1) E6.1) Kc7.1) Kc9.1) Kc11.1) Kc14.1) Ft14 Ft14 Fj14 ((((((E_b4.keep Kc5).ext E6).keep Kc7).keep Kc9).keep Kc11).keep Kc14) g_b4) hZ (ww hw 56 rfl) (ww hw 2 rfl) (by decide) (by decide)) q17a q17c (g := (mkF m 183 #[.val (.int p1), .val (.int p2), .val (.int p3), .val (.ref b4), .val (.ref b6), .val (.ref b6), .val (.ref b4), .val (.int (p1 &&& (3 : Int32))), .val (.ref uC), .val (.int (1 : Int32)), .val (.ref uC), .val (.int (1 : Int32)), .unset] [(.ref b4)])) rfl (by rw [hml]; rfl) (Steps.refl _) (argsL := []) (rest := []) (lenOf pd_0_5 rfl) rfl (by show 2 * 0 + _ ≤ _; exact Nat.le_of_eq rfl) (hb hby at_183) (fun _ _ => ⟨rfl, eh16, (by decide : 4 + 0 ≤ _), (by decide : 32 + 0 ≤ _)⟩)
  dsimp only [Pt.U, Pt.locs, Pt.cells, Pt.slots] at X17 l17 y17 z17 st17 hQ17
  subst l17 y17 z17
  obtain ⟨rfl, N17q, Kc17, Fj17, Ft17⟩ := hQ17
  have N17 := Fr.app N16 N17q
  have S_BREAK_17 := own_stak S_BREAK_14 Kc17 (allS (own_nst ((((((E_b4.keep Kc5).ext E6).keep Kc7).keep Kc9).keep Kc11).keep Kc14)) all0)
  have S_CONTINUE_17 := own_stak S_CONTINUE_14 Kc17 (allS (own_nst ((((((E_b4.keep Kc5).ext E6).keep Kc7).keep Kc9).keep Kc11).keep Kc14)) all0)
  have K17 : Keep h0 T17.heap [] := K14.trans Kc17 (allS (Or.inr sz_b4) all0)
  obtain ⟨fs, hr, hrun, hended, hW, hsame⟩ := X17.leave (v := some (.int (1 : Int32))) (fun h => by rw [Bd.returns] at h; cases h)
  refine ⟨_, _, pre0 _ ?_, hrun, hended, _, _, rfl, ?_, ⟨_, rfl⟩, hW, hsame.mono (by decide) (by decide)⟩
  · show Steps _ _ _ (s₁.setTop (mkF m 0 #[.val (.int p1), .val (.int p2), .val (.int p3), .unset, .unset, .unset, .unset, .unset, .unset, .unset, .unset, .unset, .unset] [])) _
    refine st4 _ ?_
    show Steps _ _ _ (T4.setTop (mkF m 3 #[.val (.int p1), .val (.int p2), .val (.int p3), .unset, .unset, .unset, .unset, .unset, .unset, .unset, .unset, .unset, .unset] [(.ref b4)])) _
    refine XS.dup X4.here hx rfl (hb hby at_3) rfl rfl ?_
    show Steps _ _ _ (T4.setTop (mkF m 4 #[.val (.int p1), .val (.int p2), .val (.int p3), .unset, .unset, .unset, .unset, .unset, .unset, .unset, .unset, .unset, .unset] [(.ref b4), (.ref b4)])) _
    refine XS.aconstNull X4.here hx rfl (hb hby at_4) ?_
    show Steps _ _ _ (T4.setTop (mkF m 5 #[.val (.int p1), .val (.int p2), .val (.int p3), .unset, .unset, .unset, .unset, .unset, .unset, .unset, .unset, .unset, .unset] [.null, (.ref b4), (.ref b4)])) _
    refine XS.aconstNull X4.here hx rfl (hb hby at_5) ?_
    show Steps _ _ _ (T4.setTop (mkF m 6 #[.val (.int p1), .val (.int p2), .val (.int p3), .unset, .unset, .unset, .unset, .unset, .unset, .unset, .unset, .unset, .unset] [.null, .null, (.ref b4), (.ref b4)])) _
    refine st5.trans ?_
    show Steps _ _ _ (T5.setTop (mkF m 9 #[.val (.int p1), .val (.int p2), .val (.int p3), .unset, .unset, .unset, .unset, .unset, .unset, .unset, .unset, .unset, .unset] [(.ref b4)])) _
    refine XS.astoreN X5.here hx rfl (hb hby at_9) rfl rfl (l' := #[.val (.int p1), .val (.int p2), .val (.int p3), .val (.ref b4), .unset, .unset, .unset, .unset, .unset, .unset, .unset, .unset, .unset]) rfl ?_
    show Steps _ _ _ (T5.setTop (mkF m 10 #[.val (.int p1), .val (.int p2), .val (.int p3), .val (.ref b4), .unset, .unset, .unset, .unset, .unset, .unset, .unset, .unset, .unset] [])) _
    refine st6 _ ?_
    show Steps _ _ _ (T6.setTop (mkF m 13 #[.val (.int p1), .val (.int p2), .val (.int p3), .val (.ref b4), .unset, .unset, .unset, .unset, .unset, .unset, .unset, .unset, .unset] [(.ref b6)])) _
    refine XS.dup X6.here hx rfl (hb hby at_13) rfl rfl ?_
    show Steps _ _ _ (T6.setTop (mkF m 14 #[.val (.int p1), .val (.int p2), .val (.int p3), .val (.ref b4), .unset, .unset, .unset, .unset, .unset, .unset, .unset, .unset, .unset] [(.ref b6), (.ref b6)])) _
    refine XS.aloadN X6.here hx rfl (hb hby at_14) rfl rfl ?_
    show Steps _ _ _ (T6.setTop (mkF m 15 #[.val (.int p1), .val (.int p2), .val (.int p3), .val (.ref b4), .unset, .unset, .unset, .unset, .unset, .unset, .unset, .unset, .unset] [(.ref b4), (.ref b6), (.ref b6)])) _
    refine st7.trans ?_
    show Steps _ _ _ (T7.setTop (mkF m 18 #[.val (.int p1), .val (.int p2), .val (.int p3), .val (.ref b4), .unset, .unset, .unset, .unset, .unset, .unset, .unset, .unset, .unset] [(.ref b6)])) _
    refine XS.astore X7.here hx rfl (hb hby at_18) rfl rfl (l' := #[.val (.int p1), .val (.int p2), .val (.int p3), .val (.ref b4), .val (.ref b6), .unset, .unset, .unset, .unset, .unset, .unset, .unset, .unset]) rfl ?_
    show Steps _ _ _ (T7.setTop (mkF m 20 #[.val (.int p1), .val (.int p2), .val (.int p3), .val (.ref b4), .val (.ref b6), .unset, .unset, .unset, .unset, .unset, .unset, .unset, .unset] [])) _
    refine XS.iloadN X7.here hx rfl (hb hby at_20) rfl ?_
    show Steps _ _ _ (T7.setTop (mkF m 21 #[.val (.int p1), .val (.int p2), .val (.int p3), .val (.ref b4), .val (.ref b6), .unset, .unset, .unset, .unset, .unset, .unset, .unset, .unset] [(.int p2)])) _
    refine XS.iconst X7.here hx rfl (hb hby at_21) ?_
    show Steps _ _ _ (T7.setTop (mkF m 22 #[.val (.int p1), .val (.int p2), .val (.int p3), .val (.ref b4), .val (.ref b6), .unset, .unset, .unset, .unset, .unset, .unset, .unset, .unset] [(.int (1 : Int32)), (.int p2)])) _
    refine XS.iand X7.here hx rfl (hb hby at_22) rfl ?_
    show Steps _ _ _ (T7.setTop (mkF m 23 #[.val (.int p1), .val (.int p2), .val (.int p3), .val (.ref b4), .val (.ref b6), .unset, .unset, .unset, .unset, .unset, .unset, .unset, .unset] [(.int (p2 &&& (1 : Int32)))])) _
    refine XS.ifNo X7.here hx rfl (hb hby at_23) rfl ((if0 _ _).trans (feq hc23).1) ?_
    show Steps _ _ _ (T7.setTop (mkF m 26 #[.val (.int p1), .val (.int p2), .val (.int p3), .val (.ref b4), .val (.ref b6), .unset, .unset, .unset, .unset, .unset, .unset, .unset, .unset] [])) _
    refine XS.aload X7.here hx rfl (hb hby at_26) rfl rfl ?_
    show Steps _ _ _ (T7.setTop (mkF m 28 #[.val (.int p1), .val (.int p2), .val (.int p3), .val (.ref b4), .val (.ref b6), .unset, .unset, .unset, .unset, .unset, .unset, .unset, .unset] [(.ref b6)])) _
    refine XS.goto X7.here hx rfl (pc0 := 28) (pc' := 32) rfl (hb hby at_28) (by decide) (by decide) ?_
    show Steps _ _ _ (T7.setTop (mkF m 32 #[.val (.int p1), .val (.int p2), .val (.int p3), .val (.ref b4), .val (.ref b6), .unset, .unset, .unset, .unset, .unset, .unset, .unset, .unset] [(.ref b6)])) _
    refine XS.astore X7.here hx rfl (hb hby at_32) rfl rfl (l' := #[.val (.int p1), .val (.int p2), .val (.int p3), .val (.ref b4), .val (.ref b6), .val (.ref b6), .unset, .unset, .unset, .unset, .unset, .unset, .unset]) rfl ?_
    show Steps _ _ _ (T7.setTop (mkF m 34 #[.val (.int p1), .val (.int p2), .val (.int p3), .val (.ref b4), .val (.ref b6), .val (.ref b6), .unset, .unset, .unset, .unset, .unset, .unset, .unset] [])) _
    refine XS.iloadN X7.here hx rfl (hb hby at_34) rfl ?_
    show Steps _ _ _ (T7.setTop (mkF m 35 #[.val (.int p1), .val (.int p2), .val (.int p3), .val (.ref b4), .val (.ref b6), .val (.ref b6), .unset, .unset, .unset, .unset, .unset, .unset, .unset] [(.int p3)])) _
    refine XS.iconst X7.here hx rfl (hb hby at_35) ?_
    show Steps _ _ _ (T7.setTop (mkF m 36 #[.val (.int p1), .val (.int p2), .val (.int p3), .val (.ref b4), .val (.ref b6), .val (.ref b6), .unset, .unset, .unset, .unset, .unset, .unset, .unset] [(.int (1 : Int32)), (.int p3)])) _
    refine XS.iand X7.here hx rfl (hb hby at_36) rfl ?_
    show Steps _ _ _ (T7.setTop (mkF m 37 #[.val (.int p1), .val (.int p2), .val (.int p3), .val (.ref b4), .val (.ref b6), .val (.ref b6), .unset, .unset, .unset, .unset, .unset, .unset, .unset] [(.int (p3 &&& (1 : Int32)))])) _
    refine XS.ifYes X7.here hx rfl (pc0 := 37) (pc' := 45) rfl (hb hby at_37) rfl ((if0 _ _).trans (teq hc37).1) (by decide) (by decide) ?_
    show Steps _ _ _ (T7.setTop (mkF m 45 #[.val (.int p1), .val (.int p2), .val (.int p3), .val (.ref b4), .val (.ref b6), .val (.ref b6), .unset, .unset, .unset, .unset, .unset, .unset, .unset] [])) _
    refine XS.aloadN X7.here hx rfl (hb hby at_45) rfl rfl ?_
    show Steps _ _ _ (T7.setTop (mkF m 46 #[.val (.int p1), .val (.int p2), .val (.int p3), .val (.ref b4), .val (.ref b6), .val (.ref b6), .unset, .unset, .unset, .unset, .unset, .unset, .unset] [(.ref b4)])) _
    refine XS.astore X7.here hx rfl (hb hby at_46) rfl rfl (l' := #[.val (.int p1), .val (.int p2), .val (.int p3), .val (.ref b4), .val (.ref b6), .val (.ref b6), .val (.ref b4), .unset, .unset, .unset, .unset, .unset, .unset]) rfl ?_
    show Steps _ _ _ (T7.setTop (mkF m 48 #[.val (.int p1), .val (.int p2), .val (.int p3), .val (.ref b4), .val (.ref b6), .val (.ref b6), .val (.ref b4), .unset, .unset, .unset, .unset, .unset, .unset] [])) _
    refine XS.iloadN X7.here hx rfl (hb hby at_48) rfl ?_
    show Steps _ _ _ (T7.setTop (mkF m 49 #[.val (.int p1), .val (.int p2), .val (.int p3), .val (.ref b4), .val (.ref b6), .val (.ref b6), .val (.ref b4), .unset, .unset, .unset, .unset, .unset, .unset] [(.int p1)])) _
    refine XS.iconst X7.here hx rfl (hb hby at_49) ?_
    show Steps _ _ _ (T7.setTop (mkF m 50 #[.val (.int p1), .val (.int p2), .val (.int p3), .val (.ref b4), .val (.ref b6), .val (.ref b6), .val (.ref b4), .unset, .unset, .unset, .unset, .unset, .unset] [(.int (3 : Int32)), (.int p1)])) _
    refine XS.iand X7.here hx rfl (hb hby at_50) rfl ?_
    show Steps _ _ _ (T7.setTop (mkF m 51 #[.val (.int p1), .val (.int p2), .val (.int p3), .val (.ref b4), .val (.ref b6), .val (.ref b6), .val (.ref b4), .unset, .unset, .unset, .unset, .unset, .unset] [(.int (p1 &&& (3 : Int32)))])) _
    refine XS.istore X7.here hx rfl (hb hby at_51) rfl (l' := #[.val (.int p1), .val (.int p2), .val (.int p3), .val (.ref b4), .val (.ref b6), .val (.ref b6), .val (.ref b4), .val (.int (p1 &&& (3 : Int32))), .unset, .unset, .unset, .unset, .unset]) rfl ?_
    show Steps _ _ _ (T7.setTop (mkF m 53 #[.val (.int p1), .val (.int p2), .val (.int p3), .val (.ref b4), .val (.ref b6), .val (.ref b6), .val (.ref b4), .val (.int (p1 &&& (3 : Int32))), .unset, .unset, .unset, .unset, .unset] [])) _
    refine XS.aconstNull X7.here hx rfl (hb hby at_53) ?_
    show Steps _ _ _ (T7.setTop (mkF m 54 #[.val (.int p1), .val (.int p2), .val (.int p3), .val (.ref b4), .val (.ref b6), .val (.ref b6), .val (.ref b4), .val (.int (p1 &&& (3 : Int32))), .unset, .unset, .unset, .unset, .unset] [.null])) _
    refine XS.astore X7.here hx rfl (hb hby at_54) rfl rfl (l' := #[.val (.int p1), .val (.int p2), .val (.int p3), .val (.ref b4), .val (.ref b6), .val (.ref b6), .val (.ref b4), .val (.int (p1 &&& (3 : Int32))), .val .null, .unset, .unset, .unset, .unset]) rfl ?_
    show Steps _ _ _ (T7.setTop (mkF m 56 #[.val (.int p1), .val (.int p2), .val (.int p3), .val (.ref b4), .val (.ref b6), .val (.ref b6), .val (.ref b4), .val (.int (p1 &&& (3 : Int32))), .val .null, .unset, .unset, .unset, .unset] [])) _
    refine XS.iload X7.here hx rfl (hb hby at_56) rfl ?_
    show Steps _ _ _ (T7.setTop (mkF m 58 #[.val (.int p1), .val (.int p2), .val (.int p3), .val (.ref b4), .val (.ref b6), .val (.ref b6), .val (.ref b4), .val (.int (p1 &&& (3 : Int32))), .val .null, .unset, .unset, .unset, .unset] [(.int (p1 &&& (3 : Int32)))])) _
    refine XS.iconst X7.here hx rfl (hb hby at_58) ?_
    show Steps _ _ _ (T7.setTop (mkF m 59 #[.val (.int p1), .val (.int p2), .val (.int p3), .val (.ref b4), .val (.ref b6), .val (.ref b6), .val (.ref b4), .val (.int (p1 &&& (3 : Int32))), .val .null, .unset, .unset, .unset, .unset] [(.int (1 : Int32)), (.int (p1 &&& (3 : Int32)))])) _
    refine XS.icmpYes X7.here hx rfl (pc0 := 59) (pc' := 78) rfl (hb hby at_59) rfl (feq hc59).2 (by decide) (by decide) ?_
    show Steps _ _ _ (T7.setTop (mkF m 78 #[.val (.int p1), .val (.int p2), .val (.int p3), .val (.ref b4), .val (.ref b6), .val (.ref b6), .val (.ref b4), .val (.int (p1 &&& (3 : Int32))), .val .null, .unset, .unset, .unset, .unset] [])) _
    refine XS.iload X7.here hx rfl (hb hby at_78) rfl ?_
    show Steps _ _ _ (T7.setTop (mkF m 80 #[.val (.int p1), .val (.int p2), .val (.int p3), .val (.ref b4), .val (.ref b6), .val (.ref b6), .val (.ref b4), .val (.int (p1 &&& (3 : Int32))), .val .null, .unset, .unset, .unset, .unset] [(.int (p1 &&& (3 : Int32)))])) _
    refine XS.iconst X7.here hx rfl (hb hby at_80) ?_
    show Steps _ _ _ (T7.setTop (mkF m 81 #[.val (.int p1), .val (.int p2), .val (.int p3), .val (.ref b4), .val (.ref b6), .val (.ref b6), .val (.ref b4), .val (.int (p1 &&& (3 : Int32))), .val .null, .unset, .unset, .unset, .unset] [(.int (2 : Int32)), (.int (p1 &&& (3 : Int32)))])) _
    refine XS.icmpYes X7.here hx rfl (pc0 := 81) (pc' := 100) rfl (hb hby at_81) rfl (feq hc81).2 (by decide) (by decide) ?_
    show Steps _ _ _ (T7.setTop (mkF m 100 #[.val (.int p1), .val (.int p2), .val (.int p3), .val (.ref b4), .val (.ref b6), .val (.ref b6), .val (.ref b4), .val (.int (p1 &&& (3 : Int32))), .val .null, .unset, .unset, .unset, .unset] [])) _
    refine XS.iload X7.here hx rfl (hb hby at_100) rfl ?_
    show Steps _ _ _ (T7.setTop (mkF m 102 #[.val (.int p1), .val (.int p2), .val (.int p3), .val (.ref b4), .val (.ref b6), .val (.ref b6), .val (.ref b4), .val (.int (p1 &&& (3 : Int32))), .val .null, .unset, .unset, .unset, .unset] [(.int (p1 &&& (3 : Int32)))])) _
    refine XS.iconst X7.here hx rfl (hb hby at_102) ?_
    show Steps _ _ _ (T7.setTop (mkF m 103 #[.val (.int p1), .val (.int p2), .val (.int p3), .val (.ref b4), .val (.ref b6), .val (.ref b6), .val (.ref b4), .val (.int (p1 &&& (3 : Int32))), .val .null, .unset, .unset, .unset, .unset] [(.int (3 : Int32)), (.int (p1 &&& (3 : Int32)))])) _
    refine XS.icmpNo X7.here hx rfl (hb hby at_103) rfl (teq hc103).2 ?_
    show Steps _ _ _ (T7.setTop (mkF m 106 #[.val (.int p1), .val (.int p2), .val (.int p3), .val (.ref b4), .val (.ref b6), .val (.ref b6), .val (.ref b4), .val (.int (p1 &&& (3 : Int32))), .val .null, .unset, .unset, .unset, .unset] [])) _
    refine XS.aload X7.here hx rfl (hb hby at_106) rfl rfl ?_
    show Steps _ _ _ (T7.setTop (mkF m 108 #[.val (.int p1), .val (.int p2), .val (.int p3), .val (.ref b4), .val (.ref b6), .val (.ref b6), .val (.ref b4), .val (.int (p1 &&& (3 : Int32))), .val .null, .unset, .unset, .unset, .unset] [(.ref b6)])) _
    refine st8 _ ?_
    show Steps _ _ _ (T8.setTop (mkF m 111 #[.val (.int p1), .val (.int p2), .val (.int p3), .val (.ref b4), .val (.ref b6), .val (.ref b6), .val (.ref b4), .val (.int (p1 &&& (3 : Int32))), .val .null, .unset, .unset, .unset, .unset] [(.ref uB), (.ref b6)])) _
    refine st9.trans ?_
    show Steps _ _ _ (T9.setTop (mkF m 114 #[.val (.int p1), .val (.int p2), .val (.int p3), .val (.ref b4), .val (.ref b6), .val (.ref b6), .val (.ref b4), .val (.int (p1 &&& (3 : Int32))), .val .null, .unset, .unset, .unset, .unset] [])) _
    refine XS.aload X9.here hx rfl (hb hby at_114) rfl rfl ?_
    show Steps _ _ _ (T9.setTop (mkF m 116 #[.val (.int p1), .val (.int p2), .val (.int p3), .val (.ref b4), .val (.ref b6), .val (.ref b6), .val (.ref b4), .val (.int (p1 &&& (3 : Int32))), .val .null, .unset, .unset, .unset, .unset] [(.ref b6)])) _
    refine st10 _ ?_
    show Steps _ _ _ (T10.setTop (mkF m 119 #[.val (.int p1), .val (.int p2), .val (.int p3), .val (.ref b4), .val (.ref b6), .val (.ref b6), .val (.ref b4), .val (.int (p1 &&& (3 : Int32))), .val .null, .unset, .unset, .unset, .unset] [(.ref uC), (.ref b6)])) _
    refine st11.trans ?_
    show Steps _ _ _ (T11.setTop (mkF m 122 #[.val (.int p1), .val (.int p2), .val (.int p3), .val (.ref b4), .val (.ref b6), .val (.ref b6), .val (.ref b4), .val (.int (p1 &&& (3 : Int32))), .val .null, .unset, .unset, .unset, .unset] [])) _
    refine st12 _ ?_
    show Steps _ _ _ (T12.setTop (mkF m 125 #[.val (.int p1), .val (.int p2), .val (.int p3), .val (.ref b4), .val (.ref b6), .val (.ref b6), .val (.ref b4), .val (.int (p1 &&& (3 : Int32))), .val .null, .unset, .unset, .unset, .unset] [(.ref uC)])) _
    refine XS.astore X12.here hx rfl (hb hby at_125) rfl rfl (l' := #[.val (.int p1), .val (.int p2), .val (.int p3), .val (.ref b4), .val (.ref b6), .val (.ref b6), .val (.ref b4), .val (.int (p1 &&& (3 : Int32))), .val (.ref uC), .unset, .unset, .unset, .unset]) rfl ?_
    show Steps _ _ _ (T12.setTop (mkF m 127 #[.val (.int p1), .val (.int p2), .val (.int p3), .val (.ref b4), .val (.ref b6), .val (.ref b6), .val (.ref b4), .val (.int (p1 &&& (3 : Int32))), .val (.ref uC), .unset, .unset, .unset, .unset] [])) _
    refine XS.aload X12.here hx rfl (hb hby at_127) rfl rfl ?_
    show Steps _ _ _ (T12.setTop (mkF m 129 #[.val (.int p1), .val (.int p2), .val (.int p3), .val (.ref b4), .val (.ref b6), .val (.ref b6), .val (.ref b4), .val (.int (p1 &&& (3 : Int32))), .val (.ref uC), .unset, .unset, .unset, .unset] [(.ref b4)])) _
    refine st13.trans ?_
    show Steps _ _ _ (T13.setTop (mkF m 132 #[.val (.int p1), .val (.int p2), .val (.int p3), .val (.ref b4), .val (.ref b6), .val (.ref b6), .val (.ref b4), .val (.int (p1 &&& (3 : Int32))), .val (.ref uC), .unset, .unset, .unset, .unset] [(.int (1 : Int32))])) _
    refine XS.aload X13.here hx rfl (hb hby at_132) rfl rfl ?_
    show Steps _ _ _ (T13.setTop (mkF m 134 #[.val (.int p1), .val (.int p2), .val (.int p3), .val (.ref b4), .val (.ref b6), .val (.ref b6), .val (.ref b4), .val (.int (p1 &&& (3 : Int32))), .val (.ref uC), .unset, .unset, .unset, .unset] [(.ref uC), (.int (1 : Int32))])) _
    refine XS.ifnullNo X13.here hx rfl (hb hby at_134) rfl ?_
    show Steps _ _ _ (T13.setTop (mkF m 137 #[.val (.int p1), .val (.int p2), .val (.int p3), .val (.ref b4), .val (.ref b6), .val (.ref b6), .val (.ref b4), .val (.int (p1 &&& (3 : Int32))), .val (.ref uC), .unset, .unset, .unset, .unset] [(.int (1 : Int32))])) _
    refine XS.iconst X13.here hx rfl (hb hby at_137) ?_
    show Steps _ _ _ (T13.setTop (mkF m 138 #[.val (.int p1), .val (.int p2), .val (.int p3), .val (.ref b4), .val (.ref b6), .val (.ref b6), .val (.ref b4), .val (.int (p1 &&& (3 : Int32))), .val (.ref uC), .unset, .unset, .unset, .unset] [(.int (1 : Int32)), (.int (1 : Int32))])) _
    refine XS.goto X13.here hx rfl (pc0 := 138) (pc' := 142) rfl (hb hby at_138) (by decide) (by decide) ?_
    show Steps _ _ _ (T13.setTop (mkF m 142 #[.val (.int p1), .val (.int p2), .val (.int p3), .val (.ref b4), .val (.ref b6), .val (.ref b6), .val (.ref b4), .val (.int (p1 &&& (3 : Int32))), .val (.ref uC), .unset, .unset, .unset, .unset] [(.int (1 : Int32)), (.int (1 : Int32))])) _
    refine XS.icmpNo X13.here hx rfl (hb hby at_142) rfl (teq (rfl : (1 : Int32) = (1 : Int32))).2 ?_
    show Steps _ _ _ (T13.setTop (mkF m 145 #[.val (.int p1), .val (.int p2), .val (.int p3), .val (.ref b4), .val (.ref b6), .val (.ref b6), .val (.ref b4), .val (.int (p1 &&& (3 : Int32))), .val (.ref uC), .unset, .unset, .unset, .unset] [])) _
    refine XS.iconst X13.here hx rfl (hb hby at_145) ?_
    show Steps _ _ _ (T13.setTop (mkF m 146 #[.val (.int p1), .val (.int p2), .val (.int p3), .val (.ref b4), .val (.ref b6), .val (.ref b6), .val (.ref b4), .val (.int (p1 &&& (3 : Int32))), .val (.ref uC), .unset, .unset, .unset, .unset] [(.int (1 : Int32))])) _
    refine XS.goto X13.here hx rfl (pc0 := 146) (pc' := 150) rfl (hb hby at_146) (by decide) (by decide) ?_
    show Steps _ _ _ (T13.setTop (mkF m 150 #[.val (.int p1), .val (.int p2), .val (.int p3), .val (.ref b4), .val (.ref b6), .val (.ref b6), .val (.ref b4), .val (.int (p1 &&& (3 : Int32))), .val (.ref uC), .unset, .unset, .unset, .unset] [(.int (1 : Int32))])) _
    refine XS.istore X13.here hx rfl (hb hby at_150) rfl (l' := #[.val (.int p1), .val (.int p2), .val (.int p3), .val (.ref b4), .val (.ref b6), .val (.ref b6), .val (.ref b4), .val (.int (p1 &&& (3 : Int32))), .val (.ref uC), .val (.int (1 : Int32)), .unset, .unset, .unset]) rfl ?_
    show Steps _ _ _ (T13.setTop (mkF m 152 #[.val (.int p1), .val (.int p2), .val (.int p3), .val (.ref b4), .val (.ref b6), .val (.ref b6), .val (.ref b4), .val (.int (p1 &&& (3 : Int32))), .val (.ref uC), .val (.int (1 : Int32)), .unset, .unset, .unset] [])) _
    refine XS.aload X13.here hx rfl (hb hby at_152) rfl rfl ?_
    show Steps _ _ _ (T13.setTop (mkF m 154 #[.val (.int p1), .val (.int p2), .val (.int p3), .val (.ref b4), .val (.ref b6), .val (.ref b6), .val (.ref b4), .val (.int (p1 &&& (3 : Int32))), .val (.ref uC), .val (.int (1 : Int32)), .unset, .unset, .unset] [(.ref b4)])) _
    refine st14.trans ?_
    show Steps _ _ _ (T14.setTop (mkF m 157 #[.val (.int p1), .val (.int p2), .val (.int p3), .val (.ref b4), .val (.ref b6), .val (.ref b6), .val (.ref b4), .val (.int (p1 &&& (3 : Int32))), .val (.ref uC), .val (.int (1 : Int32)), .unset, .unset, .unset] [(.ref uC)])) _
    refine XS.astore X14.here hx rfl (hb hby at_157) rfl rfl (l' := #[.val (.int p1), .val (.int p2), .val (.int p3), .val (.ref b4), .val (.ref b6), .val (.ref b6), .val (.ref b4), .val (.int (p1 &&& (3 : Int32))), .val (.ref uC), .val (.int (1 : Int32)), .val (.ref uC), .unset, .unset]) rfl ?_
    show Steps _ _ _ (T14.setTop (mkF m 159 #[.val (.int p1), .val (.int p2), .val (.int p3), .val (.ref b4), .val (.ref b6), .val (.ref b6), .val (.ref b4), .val (.int (p1 &&& (3 : Int32))), .val (.ref uC), .val (.int (1 : Int32)), .val (.ref uC), .unset, .unset] [])) _
    refine XS.aloadN X14.here hx rfl (hb hby at_159) rfl rfl ?_
    show Steps _ _ _ (T14.setTop (mkF m 160 #[.val (.int p1), .val (.int p2), .val (.int p3), .val (.ref b4), .val (.ref b6), .val (.ref b6), .val (.ref b4), .val (.int (p1 &&& (3 : Int32))), .val (.ref uC), .val (.int (1 : Int32)), .val (.ref uC), .unset, .unset] [(.ref b4)])) _
    refine st15.trans ?_
    show Steps _ _ _ (T15.setTop (mkF m 163 #[.val (.int p1), .val (.int p2), .val (.int p3), .val (.ref b4), .val (.ref b6), .val (.ref b6), .val (.ref b4), .val (.int (p1 &&& (3 : Int32))), .val (.ref uC), .val (.int (1 : Int32)), .val (.ref uC), .unset, .unset] [(.int (0 : Int32))])) _
    refine XS.ifNo X15.here hx rfl (hb hby at_163) rfl ((if0 _ _).trans (teq (rfl : (0 : Int32) = (0 : Int32))).2) ?_
    show Steps _ _ _ (T15.setTop (mkF m 166 #[.val (.int p1), .val (.int p2), .val (.int p3), .val (.ref b4), .val (.ref b6), .val (.ref b6), .val (.ref b4), .val (.int (p1 &&& (3 : Int32))), .val (.ref uC), .val (.int (1 : Int32)), .val (.ref uC), .unset, .unset] [])) _
    refine XS.aload X15.here hx rfl (hb hby at_166) rfl rfl ?_
    show Steps _ _ _ (T15.setTop (mkF m 168 #[.val (.int p1), .val (.int p2), .val (.int p3), .val (.ref b4), .val (.ref b6), .val (.ref b6), .val (.ref b4), .val (.int (p1 &&& (3 : Int32))), .val (.ref uC), .val (.int (1 : Int32)), .val (.ref uC), .unset, .unset] [(.ref b6)])) _
    refine st16.trans ?_
    show Steps _ _ _ (T16.setTop (mkF m 171 #[.val (.int p1), .val (.int p2), .val (.int p3), .val (.ref b4), .val (.ref b6), .val (.ref b6), .val (.ref b4), .val (.int (p1 &&& (3 : Int32))), .val (.ref uC), .val (.int (1 : Int32)), .val (.ref uC), .unset, .unset] [(.int (0 : Int32))])) _
    refine XS.ifNo X16.here hx rfl (hb hby at_171) rfl ((if0 _ _).trans (teq (rfl : (0 : Int32) = (0 : Int32))).2) ?_
    show Steps _ _ _ (T16.setTop (mkF m 174 #[.val (.int p1), .val (.int p2), .val (.int p3), .val (.ref b4), .val (.ref b6), .val (.ref b6), .val (.ref b4), .val (.int (p1 &&& (3 : Int32))), .val (.ref uC), .val (.int (1 : Int32)), .val (.ref uC), .unset, .unset] [])) _
    refine XS.iconst X16.here hx rfl (hb hby at_174) ?_
    show Steps _ _ _ (T16.setTop (mkF m 175 #[.val (.int p1), .val (.int p2), .val (.int p3), .val (.ref b4), .val (.ref b6), .val (.ref b6), .val (.ref b4), .val (.int (p1 &&& (3 : Int32))), .val (.ref uC), .val (.int (1 : Int32)), .val (.ref uC), .unset, .unset] [(.int (1 : Int32))])) _
    refine XS.goto X16.here hx rfl (pc0 := 175) (pc' := 179) rfl (hb hby at_175) (by decide) (by decide) ?_
    show Steps _ _ _ (T16.setTop (mkF m 179 #[.val (.int p1), .val (.int p2), .val (.int p3), .val (.ref b4), .val (.ref b6), .val (.ref b6), .val (.ref b4), .val (.int (p1 &&& (3 : Int32))), .val (.ref uC), .val (.int (1 : Int32)), .val (.ref uC), .unset, .unset] [(.int (1 : Int32))])) _
    refine XS.istore X16.here hx rfl (hb hby at_179) rfl (l' := #[.val (.int p1), .val (.int p2), .val (.int p3), .val (.ref b4), .val (.ref b6), .val (.ref b6), .val (.ref b4), .val (.int (p1 &&& (3 : Int32))), .val (.ref uC), .val (.int (1 : Int32)), .val (.ref uC), .val (.int (1 : Int32)), .unset]) rfl ?_
    show Steps _ _ _ (T16.setTop (mkF m 181 #[.val (.int p1), .val (.int p2), .val (.int p3), .val (.ref b4), .val (.ref b6), .val (.ref b6), .val (.ref b4), .val (.int (p1 &&& (3 : Int32))), .val (.ref uC), .val (.int (1 : Int32)), .val (.ref uC), .val (.int (1 : Int32)), .unset] [])) _
    refine XS.aload X16.here hx rfl (hb hby at_181) rfl rfl ?_
    show Steps _ _ _ (T16.setTop (mkF m 183 #[.val (.int p1), .val (.int p2), .val (.int p3), .val (.ref b4), .val (.ref b6), .val (.ref b6), .val (.ref b4), .val (.int (p1 &&& (3 : Int32))), .val (.ref uC), .val (.int (1 : Int32)), .val (.ref uC), .val (.int (1 : Int32)), .unset] [(.ref b4)])) _
    refine st17.trans ?_
    show Steps _ _ _ (T17.setTop (mkF m 186 #[.val (.int p1), .val (.int p2), .val (.int p3), .val (.ref b4), .val (.ref b6), .val (.ref b6), .val (.ref b4), .val (.int (p1 &&& (3 : Int32))), .val (.ref uC), .val (.int (1 : Int32)), .val (.ref uC), .val (.int (1 : Int32)), .unset] [.null])) _
    refine XS.astore X17.here hx rfl (hb hby at_186) rfl rfl (l' := #[.val (.int p1), .val (.int p2), .val (.int p3), .val (.ref b4), .val (.ref b6), .val (.ref b6), .val (.ref b4), .val (.int (p1 &&& (3 : Int32))), .val (.ref uC), .val (.int (1 : Int32)), .val (.ref uC), .val (.int (1 : Int32)), .val .null]) rfl ?_
    show Steps _ _ _ (T17.setTop (mkF m 188 #[.val (.int p1), .val (.int p2), .val (.int p3), .val (.ref b4), .val (.ref b6), .val (.ref b6), .val (.ref b4), .val (.int (p1 &&& (3 : Int32))), .val (.ref uC), .val (.int (1 : Int32)), .val (.ref uC), .val (.int (1 : Int32)), .val .null] [])) _
    refine XS.iload X17.here hx rfl (hb hby at_188) rfl ?_
    show Steps _ _ _ (T17.setTop (mkF m 190 #[.val (.int p1), .val (.int p2), .val (.int p3), .val (.ref b4), .val (.ref b6), .val (.ref b6), .val (.ref b4), .val (.int (p1 &&& (3 : Int32))), .val (.ref uC), .val (.int (1 : Int32)), .val (.ref uC), .val (.int (1 : Int32)), .val .null] [(.int (1 : Int32))])) _
    refine XS.ifNo X17.here hx rfl (hb hby at_190) rfl ((if0 _ _).trans (feq hc190).1) ?_
    show Steps _ _ _ (T17.setTop (mkF m 193 #[.val (.int p1), .val (.int p2), .val (.int p3), .val (.ref b4), .val (.ref b6), .val (.ref b6), .val (.ref b4), .val (.int (p1 &&& (3 : Int32))), .val (.ref uC), .val (.int (1 : Int32)), .val (.ref uC), .val (.int (1 : Int32)), .val .null] [])) _
    refine XS.aload X17.here hx rfl (hb hby at_193) rfl rfl ?_
    show Steps _ _ _ (T17.setTop (mkF m 195 #[.val (.int p1), .val (.int p2), .val (.int p3), .val (.ref b4), .val (.ref b6), .val (.ref b6), .val (.ref b4), .val (.int (p1 &&& (3 : Int32))), .val (.ref uC), .val (.int (1 : Int32)), .val (.ref uC), .val (.int (1 : Int32)), .val .null] [(.ref uC)])) _
    refine XS.aload X17.here hx rfl (hb hby at_195) rfl rfl ?_
    show Steps _ _ _ (T17.setTop (mkF m 197 #[.val (.int p1), .val (.int p2), .val (.int p3), .val (.ref b4), .val (.ref b6), .val (.ref b6), .val (.ref b4), .val (.int (p1 &&& (3 : Int32))), .val (.ref uC), .val (.int (1 : Int32)), .val (.ref uC), .val (.int (1 : Int32)), .val .null] [(.ref uC), (.ref uC)])) _
    refine Jvm.RoadKit.acmp (g := (mkF m 197 #[.val (.int p1), .val (.int p2), .val (.int p3), .val (.ref b4), .val (.ref b6), .val (.ref b6), .val (.ref b4), .val (.int (p1 &&& (3 : Int32))), .val (.ref uC), .val (.int (1 : Int32)), .val (.ref uC), .val (.int (1 : Int32)), .val .null] [(.ref uC), (.ref uC)])) X17 hx rfl rfl rfl (pc0 := 197) (pc' := 200) (same := true) rfl (hb hby at_197) rfl (decide_eq_true rfl) (by decide) (by decide) ?_
    show Steps _ _ _ (T17.setTop (mkF m 200 #[.val (.int p1), .val (.int p2), .val (.int p3), .val (.ref b4), .val (.ref b6), .val (.ref b6), .val (.ref b4), .val (.int (p1 &&& (3 : Int32))), .val (.ref uC), .val (.int (1 : Int32)), .val (.ref uC), .val (.int (1 : Int32)), .val .null] [])) _
    refine XS.iload X17.here hx rfl (hb hby at_200) rfl ?_
    show Steps _ _ _ (T17.setTop (mkF m 202 #[.val (.int p1), .val (.int p2), .val (.int p3), .val (.ref b4), .val (.ref b6), .val (.ref b6), .val (.ref b4), .val (.int (p1 &&& (3 : Int32))), .val (.ref uC), .val (.int (1 : Int32)), .val (.ref uC), .val (.int (1 : Int32)), .val .null] [(.int (1 : Int32))])) _
    refine XS.ifNo X17.here hx rfl (hb hby at_202) rfl ((if0 _ _).trans (feq hc202).1) ?_
    show Steps _ _ _ (T17.setTop (mkF m 205 #[.val (.int p1), .val (.int p2), .val (.int p3), .val (.ref b4), .val (.ref b6), .val (.ref b6), .val (.ref b4), .val (.int (p1 &&& (3 : Int32))), .val (.ref uC), .val (.int (1 : Int32)), .val (.ref uC), .val (.int (1 : Int32)), .val .null] [])) _
    refine XS.aload X17.here hx rfl (hb hby at_205) rfl rfl ?_
    show Steps _ _ _ (T17.setTop (mkF m 207 #[.val (.int p1), .val (.int p2), .val (.int p3), .val (.ref b4), .val (.ref b6), .val (.ref b6), .val (.ref b4), .val (.int (p1 &&& (3 : Int32))), .val (.ref uC), .val (.int (1 : Int32)), .val (.ref uC), .val (.int (1 : Int32)), .val .null] [.null])) _
    refine XS.ifnonnullNo X17.here hx rfl (hb hby at_207) rfl ?_
    show Steps _ _ _ (T17.setTop (mkF m 210 #[.val (.int p1), .val (.int p2), .val (.int p3), .val (.ref b4), .val (.ref b6), .val (.ref b6), .val (.ref b4), .val (.int (p1 &&& (3 : Int32))), .val (.ref uC), .val (.int (1 : Int32)), .val (.ref uC), .val (.int (1 : Int32)), .val .null] [])) _
    refine XS.iconst X17.here hx rfl (hb hby at_210) ?_
    show Steps _ _ _ (T17.setTop (mkF m 211 #[.val (.int p1), .val (.int p2), .val (.int p3), .val (.ref b4), .val (.ref b6), .val (.ref b6), .val (.ref b4), .val (.int (p1 &&& (3 : Int32))), .val (.ref uC), .val (.int (1 : Int32)), .val (.ref uC), .val (.int (1 : Int32)), .val .null] [(.int (1 : Int32))])) _
    refine XS.goto X17.here hx rfl (pc0 := 211) (pc' := 215) rfl (hb hby at_211) (by decide) (by decide) ?_
    show Steps _ _ _ (T17.setTop (mkF m 215 #[.val (.int p1), .val (.int p2), .val (.int p3), .val (.ref b4), .val (.ref b6), .val (.ref b6), .val (.ref b4), .val (.int (p1 &&& (3 : Int32))), .val (.ref uC), .val (.int (1 : Int32)), .val (.ref uC), .val (.int (1 : Int32)), .val .null] [(.int (1 : Int32))])) _
    exact retN X17 hx (t := .boolean) Bd.returns (by simp) (hb hby at_215) hr
  · show Q0 Z p1 p2 p3 uB uC h0 n0 _ T17.heap _
    exact ⟨rfl, N17⟩
-- 2. THE CONTRACT: what this body leaves is yours
-- its room: frames: the greatest, locals: the greatest, cells 4 + .., slots 32 + ..: rm1: frames + 1; locals 1 + 3 + 11 + its room's locals; its cells and slots besides; rm5: frames + 1; locals 1 + 2 + 11 + its room's locals; its cells and slots besides; rm7: frames + 1; locals 0 + 1 + 11 + its room's locals; its cells and slots besides; rm8: frames + 1; locals 0 + 2 + 11 + its room's locals; its cells and slots besides; rm7: frames + 1; locals 0 + 1 + 11 + its room's locals; its cells and slots besides; rm7: frames + 1; locals 0 + 1 + 11 + its room's locals; its cells and slots besides; rm8: frames + 1; locals 0 + 2 + 11 + its room's locals; its cells and slots besides
set_option maxRecDepth 65536 in
set_option maxHeartbeats 40000000 in
theorem rm0_ft0 (l : Launch) (Z : State) (a0 : Array Value) (hw : ∀ d ∈ tables_1, d.before a0 Z = true) (ws : List Jvm.Cond) (p1 : Int32) (p2 : Int32) (p3 : Int32) (uB : Addr) (uC : Addr) (h0 : Heap) (n0 : Nat) (Z0 : n0 ≤ h0.size) (S_BREAK : Sta Z h0 "com/example/transom/transom/Scope$Jump" "BREAK" "Lcom/example/transom/transom/Scope$Jump;" (.ref uB)) (S_CONTINUE : Sta Z h0 "com/example/transom/transom/Scope$Jump" "CONTINUE" "Lcom/example/transom/transom/Scope$Jump;" (.ref uC)) (hc23 : ¬ ((p2 &&& (1 : Int32)) = (0 : Int32))) (hc37 : (p3 &&& (1 : Int32)) = (0 : Int32)) (hc59 : ¬ ((p1 &&& (3 : Int32)) = (1 : Int32))) (hc81 : ¬ ((p1 &&& (3 : Int32)) = (2 : Int32))) (hc103 : ¬ ((p1 &&& (3 : Int32)) = (3 : Int32))) (hc190 : ¬ ((1 : Int32) = (0 : Int32))) (hc202 : ¬ ((1 : Int32) = (0 : Int32))) :
    MetFree l x (head1 (Jvm.Cond.code x code maxLocals ret :: ws) room_1) (fun a U => a = #[(.int p1), (.int p2), (.int p3)] ∧ Z.Warmed39 U.vm ∧ U.heap = h0) (fun _ _ _ _ _ => True) (fun _ U o U' => ∃ v L, o = .returned v ∧ Q0 Z p1 p2 p3 uB uC h0 n0 v U'.heap L ∧ FrameEnd U o U' L room_1.cells room_1.slots) := by
  refine MetFree.of_bodySF (plainFor_of_name pn_0) hisR ?_
  intro p e s m args below meth c s₁ Bd hml0 hP hK
  obtain ⟨rfl, hZ, hh⟩ := hP
  have hx := Bd.exec
  have hby := Bd.bytes
  have hml : c.maxLocals = 13 := hml0
  have hown : s.vm.findClass "com/example/transom/transom/ScopeLandPinLaw" = some m.cls := findClass_of_methodNamed Bd.named
  have hnm := (name_of_methodNamed Bd.named Bd.method).1
  have X0 : Stand p l e room_1 s m #[(.int p1), (.int p2), (.int p3)] below meth c s₁ [] 0 0 := Stand.of_body Bd
  have e0 : s₁.heap = h0 := by rw [← hh, Bd.state]; rfl
  have N0 := Fr.nil n0
  have pre0 : ∀ t, Steps p.tables e below (s₁.setTop (mkF m 0 #[.val (.int p1), .val (.int p2), .val (.int p3), .unset, .unset, .unset, .unset, .unset, .unset, .unset, .unset, .unset, .unset] [])) t → Steps p.tables e below (s₁.setTop (entryFrame m #[(.int p1), (.int p2), (.int p3)] maxLocals)) t := fun t k => castTop (ef_0 m p1 p2 p3) k
  obtain ⟨T4, h4, X4, e4, E4, A4, D4, -, st4⟩ := newO X0 hx hZ hown (ww hw 0 rfl) (ww hw 1 rfl) (ww hw 2 rfl) e0 (g := (mkF m 0 #[.val (.int p1), .val (.int p2), .val (.int p3), .unset, .unset, .unset, .unset, .unset, .unset, .unset, .unset, .unset, .unset] [])) rfl (hb hby at_0) (by decide) (by decide)
  obtain ⟨b4, g4⟩ : ∃ z, z = h0.size := ⟨_, rfl⟩
  rw [← g4] at A4 D4 st4
  have F_values_b4 : Fld Z h4 b4 "com/example/transom/transom/Scope" "values" "Ljava/util/Map;" .null := D4 (Or.inr (ww hw 26 rfl)) (ty := (.object "java/util/Map")) (by decide)
  have F_parent_b4 : Fld Z h4 b4 "com/example/transom/transom/Scope" "parent" "Lcom/example/transom/transom/Scope;" .null := D4 (Or.inr (ww hw 28 rfl)) (ty := (.object "com/example/transom/transom/Scope")) (by decide)
  have F_top_b4 : Fld Z h4 b4 "com/example/transom/transom/Scope" "top" "Lcom/example/transom/transom/Scope;" .null := D4 (Or.inr (ww hw 30 rfl)) (ty := (.object "com/example/transom/transom/Scope")) (by decide)
  have F_model_b4 : Fld Z h4 b4 "com/example/transom/transom/Scope" "model" "Ljava/util/Map;" .null := D4 (Or.inr (ww hw 32 rfl)) (ty := (.object "java/util/Map")) (by decide)
  have F_template_b4 : Fld Z h4 b4 "com/example/transom/transom/Scope" "template" "Lcom/example/transom/transom/Template;" .null := D4 (Or.inr (ww hw 34 rfl)) (ty := (.object "com/example/transom/transom/Template")) (by decide)
  have F_renderer_b4 : Fld Z h4 b4 "com/example/transom/transom/Scope" "renderer" "Lcom/example/transom/transom/Scope;" .null := D4 (Or.inr (ww hw 36 rfl)) (ty := (.object "com/example/transom/transom/Scope")) (by decide)
  have F_calls_b4 : Fld Z h4 b4 "com/example/transom/transom/Scope" "calls" "I" (.int (0 : Int32)) := D4 (Or.inr (ww hw 38 rfl)) (ty := .int) (by decide)
  have F_jump_b4 : Fld Z h4 b4 "com/example/transom/transom/Scope" "jump" "Lcom/example/transom/transom/Scope$Jump;" .null := D4 (Or.inl (ww hw 51 rfl)) (ty := (.object "com/example/transom/transom/Scope$Jump")) (by decide)
  have E_b4 := A4
  have g_b4 : n0 ≤ b4 := Nat.le_trans Z0 (Nat.le_of_eq g4.symm)
  have sz_b4 : h0.size ≤ b4 := (Nat.le_trans (Keep.refl h0 []).1 (Nat.le_of_eq g4.symm))
  have K4 : Keep h0 h4 [] := (Keep.refl h0 []).ext E4
  obtain ⟨_, _, ⟨T5, L5, k5, n5⟩, -, X5, ⟨Lc5, hQ5, l5, y5, z5⟩, st5⟩ := X4.specialBack hx (y := (⟨"com/example/transom/transom/Scope", "<init>", "(Ljava/util/Map;Lcom/example/transom/transom/Template;)V"⟩ : MethodName)) rfl hown (mvT hZ (ww hw 3 rfl)) (mvT hZ (ww hw 4 rfl)) (mvT hZ (ww hw 5 rfl)) (by decide) (backOf (W := 1) (rm1 l Z a0 hw [] b4 _ _ _ _ _ _ _  h4 n0 (Nat.le_trans Z0 E4.1) F_jump_b4 E_b4 F_values_b4 g_b4 F_parent_b4 F_top_b4 F_model_b4 F_template_b4 F_renderer_b4 F_calls_b4) hZ (ww hw 5 rfl) (ww hw 2 rfl) (by decide) (by decide)) (g := (mkF m 6 #[.val (.int p1), .val (.int p2), .val (.int p3), .unset, .unset, .unset, .unset, .unset, .unset, .unset, .unset, .unset, .unset] [.null, .null, (.ref b4), (.ref b4)])) rfl (by rw [hml]; rfl) (Steps.refl _) (a := b4) (argsL := [.null, .null]) (rest := [(.ref b4)]) (lenOf pd_0_0 rfl) rfl (by show 2 * 0 + _ ≤ _; exact Nat.le_of_eq rfl) (hb hby at_6) (fun _ _ => ⟨rfl, e4, (by decide : 1 + 1 ≤ _), (by decide : 8 + 8 ≤ _)⟩)
  dsimp only [Pt.U, Pt.locs, Pt.cells, Pt.slots] at X5 l5 y5 z5 st5 hQ5
  subst l5 y5 z5
  obtain ⟨rfl, N5q, Kc5, Ec5, Ftop5, Fmodel5, Ftemplate5, Frenderer5, Fcalls5, Fjump5⟩ := hQ5
  have N5 := Fr.app N0 N5q
  have S_BREAK_5 := own_stak (S_BREAK.ext E4) Kc5 (allS (own_nst E_b4) all0)
  have S_CONTINUE_5 := own_stak (S_CONTINUE.ext E4) Kc5 (allS (own_nst E_b4) all0)
  have K5 : Keep h0 T5.heap [] := K4.trans Kc5 (allS (Or.inr sz_b4) all0)
  obtain ⟨T6, h6, X6, e6, E6, A6, D6, -, st6⟩ := newO X5 hx hZ hown (ww hw 0 rfl) (ww hw 1 rfl) (ww hw 2 rfl) rfl (g := (mkF m 10 #[.val (.int p1), .val (.int p2), .val (.int p3), .val (.ref b4), .unset, .unset, .unset, .unset, .unset, .unset, .unset, .unset, .unset] [])) rfl (hb hby at_10) (by decide) (by decide)
  obtain ⟨b6, g6⟩ : ∃ z, z = T5.heap.size := ⟨_, rfl⟩
  rw [← g6] at A6 D6 st6
  have F_values_b6 : Fld Z h6 b6 "com/example/transom/transom/Scope" "values" "Ljava/util/Map;" .null := D6 (Or.inr (ww hw 26 rfl)) (ty := (.object "java/util/Map")) (by decide)
  have F_parent_b6 : Fld Z h6 b6 "com/example/transom/transom/Scope" "parent" "Lcom/example/transom/transom/Scope;" .null := D6 (Or.inr (ww hw 28 rfl)) (ty := (.object "com/example/transom/transom/Scope")) (by decide)
  have F_top_b6 : Fld Z h6 b6 "com/example/transom/transom/Scope" "top" "Lcom/example/transom/transom/Scope;" .null := D6 (Or.inr (ww hw 30 rfl)) (ty := (.object "com/example/transom/transom/Scope")) (by decide)
  have F_model_b6 : Fld Z h6 b6 "com/example/transom/transom/Scope" "model" "Ljava/util/Map;" .null := D6 (Or.inr (ww hw 32 rfl)) (ty := (.object "java/util/Map")) (by decide)
  have F_template_b6 : Fld Z h6 b6 "com/example/transom/transom/Scope" "template" "Lcom/example/transom/transom/Template;" .null := D6 (Or.inr (ww hw 34 rfl)) (ty := (.object "com/example/transom/transom/Template")) (by decide)
  have F_renderer_b6 : Fld Z h6 b6 "com/example/transom/transom/Scope" "renderer" "Lcom/example/transom/transom/Scope;" .null := D6 (Or.inr (ww hw 36 rfl)) (ty := (.object "com/example/transom/transom/Scope")) (by decide)
  have F_calls_b6 : Fld Z h6 b6 "com/example/transom/transom/Scope" "calls" "I" (.int (0 : Int32)) := D6 (Or.inr (ww hw 38 rfl)) (ty := .int) (by decide)
  have F_jump_b6 : Fld Z h6 b6 "com/example/transom/transom/Scope" "jump" "Lcom/example/transom/transom/Scope$Jump;" .null := D6 (Or.inl (ww hw 51 rfl)) (ty := (.object "com/example/transom/transom/Scope$Jump")) (by decide)
  have E_b6 := A6
  have g_b6 : n0 ≤ b6 := Nat.le_trans (Nat.le_trans (Nat.le_trans Z0 E4.1) Kc5.1) (Nat.le_of_eq g6.symm)
  have sz_b6 : h0.size ≤ b6 := (Nat.le_trans K5.1 (Nat.le_of_eq g6.symm))
  have K6 : Keep h0 h6 [] := K5.ext E6
  obtain ⟨_, _, ⟨T7, L7, k7, n7⟩, -, X7, ⟨Lc7, hQ7, l7, y7, z7⟩, st7⟩ := X6.specialBack hx (y := (⟨"com/example/transom/transom/Scope", "<init>", "(Lcom/example/transom/transom/Scope;)V"⟩ : MethodName)) rfl hown (mvT hZ (ww hw 39 rfl)) (mvT hZ (ww hw 40 rfl)) (mvT hZ (ww hw 41 rfl)) (by decide) (backOf (W := 1) (rm5 l Z a0 hw [] b6 b4 b4 (0 : Int32) h6 n0 (Nat.le_trans (Nat.le_trans (Nat.le_trans Z0 E4.1) Kc5.1) E6.1) (Nat.ne_of_lt (Nat.lt_of_lt_of_le (E_b4.keep Kc5).lt (Nat.le_of_eq g6.symm))) E_b6 F_values_b6 F_parent_b6 F_top_b6 F_model_b6 F_template_b6 F_renderer_b6 F_calls_b6 g_b6 (Ftop5.ext E6) (Fmodel5.ext E6) (Ftemplate5.ext E6) (Frenderer5.ext E6) (Fcalls5.ext E6)) hZ (ww hw 41 rfl) (ww hw 2 rfl) (by decide) (by decide)) (g := (mkF m 15 #[.val (.int p1), .val (.int p2), .val (.int p3), .val (.ref b4), .unset, .unset, .unset, .unset, .unset, .unset, .unset, .unset, .unset] [(.ref b4), (.ref b6), (.ref b6)])) rfl (by rw [hml]; rfl) (Steps.refl _) (a := b6) (argsL := [(.ref b4)]) (rest := [(.ref b6)]) (lenOf pd_0_2 rfl) rfl (by show 2 * 0 + _ ≤ _; exact Nat.le_of_eq rfl) (hb hby at_15) (fun _ _ => ⟨rfl, e6, (by decide : 3 + 1 ≤ _), (by decide : 24 + 8 ≤ _)⟩)
  dsimp only [Pt.U, Pt.locs, Pt.cells, Pt.slots] at X7 l7 y7 z7 st7 hQ7
  subst l7 y7 z7
  obtain ⟨rfl, N7q, Kc7, Ec7, Ft7⟩ := hQ7
  have N7 := Fr.app N5 N7q
  have S_BREAK_7 := own_stak (S_BREAK_5.ext E6) Kc7 (allS (own_nst E_b6) all0)
  have S_CONTINUE_7 := own_stak (S_CONTINUE_5.ext E6) Kc7 (allS (own_nst E_b6) all0)
  have K7 : Keep h0 T7.heap [] := K6.trans Kc7 (allS (Or.inr sz_b6) all0)
  obtain ⟨cq8, kq8, q8a, q8b, q8c⟩ := isOf hZ rfl (((E_b4.keep Kc5).ext E6).keep Kc7)
  obtain ⟨_, _, ⟨T8, L8, k8, n8⟩, -, X8, ⟨Lc8, hQ8, l8, y8, z8⟩, st8⟩ := X7.virtualBack hx (y := (⟨"com/example/transom/transom/Scope", "jumping", "()Z"⟩ : MethodName)) (z := (⟨"com/example/transom/transom/Scope", "jumping", "()Z"⟩ : MethodName)) hown (mvT hZ (ww hw 45 rfl)) (mvT hZ (ww hw 46 rfl)) (notFace_of_selects (args := #[]) (mvT hZ (ww hw 48 rfl))) (mvT hZ (ww hw 48 rfl)) (mvT hZ (ww hw 47 rfl)) (by decide) (backOf (W := 0) (rmJn l Z a0 hw [] b4 b4 T7.heap n0 (Nat.le_trans (Nat.le_trans (Nat.le_trans (Nat.le_trans Z0 E4.1) Kc5.1) E6.1) Kc7.1) ((Ftop5.ext E6).keep Kc7 (ninS (Nat.ne_of_lt (Nat.lt_of_lt_of_le (E_b4.keep Kc5).lt (Nat.le_of_eq g6.symm))) nin0)) ((Fjump5.ext E6).keep Kc7 (ninS (Nat.ne_of_lt (Nat.lt_of_lt_of_le (E_b4.keep Kc5).lt (Nat.le_of_eq g6.symm))) nin0))) hZ (ww hw 49 rfl) (ww hw 2 rfl) (by decide) (by decide)) q8a q8c (g := (mkF m 129 #[.val (.int p1), .val (.int p2), .val (.int p3), .val (.ref b4), .val (.ref b6), .val (.ref b6), .val (.ref b4), .val (.int (p1 &&& (3 : Int32))), .val .null, .unset, .unset, .unset, .unset] [(.ref b4)])) rfl (by rw [hml]; rfl) (Steps.refl _) (argsL := []) (rest := []) (lenOf pd_0_4 rfl) rfl (by show 2 * 0 + _ ≤ _; exact Nat.le_of_eq rfl) (hb hby at_129) (fun _ _ => ⟨rfl, rfl, (by decide : 4 + 0 ≤ _), (by decide : 32 + 0 ≤ _)⟩)
  dsimp only [Pt.U, Pt.locs, Pt.cells, Pt.slots] at X8 l8 y8 z8 st8 hQ8
  subst l8 y8 z8
  obtain ⟨rfl, N8q, eh8⟩ := hQ8
  have N8 := Fr.app N7 N8q
  obtain ⟨cq9, kq9, q9a, q9b, q9c⟩ := isOf hZ eh8 (((E_b4.keep Kc5).ext E6).keep Kc7)
  obtain ⟨_, _, ⟨T9, L9, k9, n9⟩, -, X9, ⟨Lc9, hQ9, l9, y9, z9⟩, st9⟩ := X8.virtualBack hx (y := (⟨"com/example/transom/transom/Scope", "land", "()Lcom/example/transom/transom/Scope$Jump;"⟩ : MethodName)) (z := (⟨"com/example/transom/transom/Scope", "land", "()Lcom/example/transom/transom/Scope$Jump;"⟩ : MethodName)) hown (mvT hZ (ww hw 52 rfl)) (mvT hZ (ww hw 53 rfl)) (notFace_of_selects (args := #[]) (mvT hZ (ww hw 55 rfl))) (mvT hZ (ww hw 55 rfl)) (mvT hZ (ww hw 54 rfl)) (by decide) (backOf (W := 0) (rmLn l Z a0 hw [] b4 b4 T7.heap n0 (Nat.le_trans (Nat.le_trans (Nat.le_trans (Nat.le_trans Z0 E4.1) Kc5.1) E6.1) Kc7.1) ((Ftop5.ext E6).keep Kc7 (ninS (Nat.ne_of_lt (Nat.lt_of_lt_of_le (E_b4.keep Kc5).lt (Nat.le_of_eq g6.symm))) nin0)) ((Ftop5.ext E6).keep Kc7 (ninS (Nat.ne_of_lt (Nat.lt_of_lt_of_le (E_b4.keep Kc5).lt (Nat.le_of_eq g6.symm))) nin0)) ((Fjump5.ext E6).keep Kc7 (ninS (Nat.ne_of_lt (Nat.lt_of_lt_of_le (E_b4.keep Kc5).lt (Nat.le_of_eq g6.symm))) nin0)) (((E_b4.keep Kc5).ext E6).keep Kc7) g_b4) hZ (ww hw 56 rfl) (ww hw 2 rfl) (by decide) (by decide)) q9a q9c (g := (mkF m 154 #[.val (.int p1), .val (.int p2), .val (.int p3), .val (.ref b4), .val (.ref b6), .val (.ref b6), .val (.ref b4), .val (.int (p1 &&& (3 : Int32))), .val .null, .val (.int (1 : Int32)), .unset, .unset, .unset] [(.ref b4)])) rfl (by rw [hml]; rfl) (Steps.refl _) (argsL := []) (rest := []) (lenOf pd_0_5 rfl) rfl (by show 2 * 0 + _ ≤ _; exact Nat.le_of_eq rfl) (hb hby at_154) (fun _ _ => ⟨rfl, eh8, (by decide : 4 + 0 ≤ _), (by decide : 32 + 0 ≤ _)⟩)
  dsimp only [Pt.U, Pt.locs, Pt.cells, Pt.slots] at X9 l9 y9 z9 st9 hQ9
  subst l9 y9 z9
  obtain ⟨rfl, N9q, Kc9, Fj9, Ft9⟩ := hQ9
  have N9 := Fr.app N8 N9q
  have S_BREAK_9 := own_stak S_BREAK_7 Kc9 (allS (own_nst (((E_b4.keep Kc5).ext E6).keep Kc7)) all0)
  have S_CONTINUE_9 := own_stak S_CONTINUE_7 Kc9 (allS (own_nst (((E_b4.keep Kc5).ext E6).keep Kc7)) all0)
  have K9 : Keep h0 T9.heap [] := K7.trans Kc9 (allS (Or.inr sz_b4) all0)
  obtain ⟨cq10, kq10, q10a, q10b, q10c⟩ := isOf hZ rfl ((((E_b4.keep Kc5).ext E6).keep Kc7).keep Kc9)
  obtain ⟨_, _, ⟨T10, L10, k10, n10⟩, -, X10, ⟨Lc10, hQ10, l10, y10, z10⟩, st10⟩ := X9.virtualBack hx (y := (⟨"com/example/transom/transom/Scope", "jumping", "()Z"⟩ : MethodName)) (z := (⟨"com/example/transom/transom/Scope", "jumping", "()Z"⟩ : MethodName)) hown (mvT hZ (ww hw 45 rfl)) (mvT hZ (ww hw 46 rfl)) (notFace_of_selects (args := #[]) (mvT hZ (ww hw 48 rfl))) (mvT hZ (ww hw 48 rfl)) (mvT hZ (ww hw 47 rfl)) (by decide) (backOf (W := 0) (rmJn l Z a0 hw [] b4 b4 T9.heap n0 (Nat.le_trans (Nat.le_trans (Nat.le_trans (Nat.le_trans (Nat.le_trans Z0 E4.1) Kc5.1) E6.1) Kc7.1) Kc9.1) Ft9 Fj9) hZ (ww hw 49 rfl) (ww hw 2 rfl) (by decide) (by decide)) q10a q10c (g := (mkF m 160 #[.val (.int p1), .val (.int p2), .val (.int p3), .val (.ref b4), .val (.ref b6), .val (.ref b6), .val (.ref b4), .val (.int (p1 &&& (3 : Int32))), .val .null, .val (.int (1 : Int32)), .val .null, .unset, .unset] [(.ref b4)])) rfl (by rw [hml]; rfl) (Steps.refl _) (argsL := []) (rest := []) (lenOf pd_0_4 rfl) rfl (by show 2 * 0 + _ ≤ _; exact Nat.le_of_eq rfl) (hb hby at_160) (fun _ _ => ⟨rfl, rfl, (by decide : 4 + 0 ≤ _), (by decide : 32 + 0 ≤ _)⟩)
  dsimp only [Pt.U, Pt.locs, Pt.cells, Pt.slots] at X10 l10 y10 z10 st10 hQ10
  subst l10 y10 z10
  obtain ⟨rfl, N10q, eh10⟩ := hQ10
  have N10 := Fr.app N9 N10q
  obtain ⟨cq11, kq11, q11a, q11b, q11c⟩ := isOf hZ eh10 ((E_b6.keep Kc7).keep Kc9)
  obtain ⟨_, _, ⟨T11, L11, k11, n11⟩, -, X11, ⟨Lc11, hQ11, l11, y11, z11⟩, st11⟩ := X10.virtualBack hx (y := (⟨"com/example/transom/transom/Scope", "jumping", "()Z"⟩ : MethodName)) (z := (⟨"com/example/transom/transom/Scope", "jumping", "()Z"⟩ : MethodName)) hown (mvT hZ (ww hw 45 rfl)) (mvT hZ (ww hw 46 rfl)) (notFace_of_selects (args := #[]) (mvT hZ (ww hw 48 rfl))) (mvT hZ (ww hw 48 rfl)) (mvT hZ (ww hw 47 rfl)) (by decide) (backOf (W := 0) (rmJn l Z a0 hw [] b6 b4 T9.heap n0 (Nat.le_trans (Nat.le_trans (Nat.le_trans (Nat.le_trans (Nat.le_trans Z0 E4.1) Kc5.1) E6.1) Kc7.1) Kc9.1) (Ft7.keep Kc9 (ninS (Ne.symm (Nat.ne_of_lt (Nat.lt_of_lt_of_le (E_b4.keep Kc5).lt (Nat.le_of_eq g6.symm)))) nin0)) Fj9) hZ (ww hw 49 rfl) (ww hw 2 rfl) (by decide) (by decide)) q11a q11c (g := (mkF m 168 #[.val (.int p1), .val (.int p2), .val (.int p3), .val (.ref b4), .val (.ref b6), .val (.ref b6), .val (.ref b4), .val (.int (p1 &&& (3 : Int32))), .val .null, .val (.int (1 : Int32)), .val .null, .unset, .unset] [(.ref b6)])) rfl (by rw [hml]; rfl) (Steps.refl _) (argsL := []) (rest := []) (lenOf pd_0_4 rfl) rfl (by show 2 * 0 + _ ≤ _; exact Nat.le_of_eq rfl) (hb hby at_168) (fun _ _ => ⟨rfl, eh10, (by decide : 4 + 0 ≤ _), (by decide : 32 + 0 ≤ _)⟩)
  dsimp only [Pt.U, Pt.locs, Pt.cells, Pt.slots] at X11 l11 y11 z11 st11 hQ11
  subst l11 y11 z11
  obtain ⟨rfl, N11q, eh11⟩ := hQ11
  have N11 := Fr.app N10 N11q
  obtain ⟨cq12, kq12, q12a, q12b, q12c⟩ := isOf hZ eh11 ((((E_b4.keep Kc5).ext E6).keep Kc7).keep Kc9)
  obtain ⟨_, _, ⟨T12, L12, k12, n12⟩, -, X12, ⟨Lc12, hQ12, l12, y12, z12⟩, st12⟩ := X11.virtualBack hx (y := (⟨"com/example/transom/transom/Scope", "land", "()Lcom/example/transom/transom/Scope$Jump;"⟩ : MethodName)) (z := (⟨"com/example/transom/transom/Scope", "land", "()Lcom/example/transom/transom/Scope$Jump;"⟩ : MethodName)) hown (mvT hZ (ww hw 52 rfl)) (mvT hZ (ww hw 53 rfl)) (notFace_of_selects (args := #[]) (mvT hZ (ww hw 55 rfl))) (mvT hZ (ww hw 55 rfl)) (mvT hZ (ww hw 54 rfl)) (by decide) (backOf (W := 0) (rmLn l Z a0 hw [] b4 b4 T9.heap n0 (Nat.le_trans (Nat.le_trans (Nat.le_trans (Nat.le_trans (Nat.le_trans Z0 E4.1) Kc5.1) E6.1) Kc7.1) Kc9.1) Ft9 Ft9 Fj9 ((((E_b4.keep Kc5).ext E6).keep Kc7).keep Kc9) g_b4) hZ (ww hw 56 rfl) (ww hw 2 rfl) (by decide) (by decide)) q12a q12c (g := (mkF m 183 #[.val (.int p1), .val (.int p2), .val (.int p3), .val (.ref b4), .val (.ref b6), .val (.ref b6), .val (.ref b4), .val (.int (p1 &&& (3 : Int32))), .val .null, .val (.int (1 : Int32)), .val .null, .val (.int (1 : Int32)), .unset] [(.ref b4)])) rfl (by rw [hml]; rfl) (Steps.refl _) (argsL := []) (rest := []) (lenOf pd_0_5 rfl) rfl (by show 2 * 0 + _ ≤ _; exact Nat.le_of_eq rfl) (hb hby at_183) (fun _ _ => ⟨rfl, eh11, (by decide : 4 + 0 ≤ _), (by decide : 32 + 0 ≤ _)⟩)
  dsimp only [Pt.U, Pt.locs, Pt.cells, Pt.slots] at X12 l12 y12 z12 st12 hQ12
  subst l12 y12 z12
  obtain ⟨rfl, N12q, Kc12, Fj12, Ft12⟩ := hQ12
  have N12 := Fr.app N11 N12q
  have S_BREAK_12 := own_stak S_BREAK_9 Kc12 (allS (own_nst ((((E_b4.keep Kc5).ext E6).keep Kc7).keep Kc9)) all0)
  have S_CONTINUE_12 := own_stak S_CONTINUE_9 Kc12 (allS (own_nst ((((E_b4.keep Kc5).ext E6).keep Kc7).keep Kc9)) all0)
  have K12 : Keep h0 T12.heap [] := K9.trans Kc12 (allS (Or.inr sz_b4) all0)
  obtain ⟨fs, hr, hrun, hended, hW, hsame⟩ := X12.leave (v := some (.int (1 : Int32))) (fun h => by rw [Bd.returns] at h; cases h)
  refine ⟨_, _, pre0 _ ?_, hrun, hended, _, _, rfl, ?_, ⟨_, rfl⟩, hW, hsame.mono (by decide) (by decide)⟩
  · show Steps _ _ _ (s₁.setTop (mkF m 0 #[.val (.int p1), .val (.int p2), .val (.int p3), .unset, .unset, .unset, .unset, .unset, .unset, .unset, .unset, .unset, .unset] [])) _
    refine st4 _ ?_
    show Steps _ _ _ (T4.setTop (mkF m 3 #[.val (.int p1), .val (.int p2), .val (.int p3), .unset, .unset, .unset, .unset, .unset, .unset, .unset, .unset, .unset, .unset] [(.ref b4)])) _
    refine XS.dup X4.here hx rfl (hb hby at_3) rfl rfl ?_
    show Steps _ _ _ (T4.setTop (mkF m 4 #[.val (.int p1), .val (.int p2), .val (.int p3), .unset, .unset, .unset, .unset, .unset, .unset, .unset, .unset, .unset, .unset] [(.ref b4), (.ref b4)])) _
    refine XS.aconstNull X4.here hx rfl (hb hby at_4) ?_
    show Steps _ _ _ (T4.setTop (mkF m 5 #[.val (.int p1), .val (.int p2), .val (.int p3), .unset, .unset, .unset, .unset, .unset, .unset, .unset, .unset, .unset, .unset] [.null, (.ref b4), (.ref b4)])) _
    refine XS.aconstNull X4.here hx rfl (hb hby at_5) ?_
    show Steps _ _ _ (T4.setTop (mkF m 6 #[.val (.int p1), .val (.int p2), .val (.int p3), .unset, .unset, .unset, .unset, .unset, .unset, .unset, .unset, .unset, .unset] [.null, .null, (.ref b4), (.ref b4)])) _
    refine st5.trans ?_
    show Steps _ _ _ (T5.setTop (mkF m 9 #[.val (.int p1), .val (.int p2), .val (.int p3), .unset, .unset, .unset, .unset, .unset, .unset, .unset, .unset, .unset, .unset] [(.ref b4)])) _
    refine XS.astoreN X5.here hx rfl (hb hby at_9) rfl rfl (l' := #[.val (.int p1), .val (.int p2), .val (.int p3), .val (.ref b4), .unset, .unset, .unset, .unset, .unset, .unset, .unset, .unset, .unset]) rfl ?_
    show Steps _ _ _ (T5.setTop (mkF m 10 #[.val (.int p1), .val (.int p2), .val (.int p3), .val (.ref b4), .unset, .unset, .unset, .unset, .unset, .unset, .unset, .unset, .unset] [])) _
    refine st6 _ ?_
    show Steps _ _ _ (T6.setTop (mkF m 13 #[.val (.int p1), .val (.int p2), .val (.int p3), .val (.ref b4), .unset, .unset, .unset, .unset, .unset, .unset, .unset, .unset, .unset] [(.ref b6)])) _
    refine XS.dup X6.here hx rfl (hb hby at_13) rfl rfl ?_
    show Steps _ _ _ (T6.setTop (mkF m 14 #[.val (.int p1), .val (.int p2), .val (.int p3), .val (.ref b4), .unset, .unset, .unset, .unset, .unset, .unset, .unset, .unset, .unset] [(.ref b6), (.ref b6)])) _
    refine XS.aloadN X6.here hx rfl (hb hby at_14) rfl rfl ?_
    show Steps _ _ _ (T6.setTop (mkF m 15 #[.val (.int p1), .val (.int p2), .val (.int p3), .val (.ref b4), .unset, .unset, .unset, .unset, .unset, .unset, .unset, .unset, .unset] [(.ref b4), (.ref b6), (.ref b6)])) _
    refine st7.trans ?_
    show Steps _ _ _ (T7.setTop (mkF m 18 #[.val (.int p1), .val (.int p2), .val (.int p3), .val (.ref b4), .unset, .unset, .unset, .unset, .unset, .unset, .unset, .unset, .unset] [(.ref b6)])) _
    refine XS.astore X7.here hx rfl (hb hby at_18) rfl rfl (l' := #[.val (.int p1), .val (.int p2), .val (.int p3), .val (.ref b4), .val (.ref b6), .unset, .unset, .unset, .unset, .unset, .unset, .unset, .unset]) rfl ?_
    show Steps _ _ _ (T7.setTop (mkF m 20 #[.val (.int p1), .val (.int p2), .val (.int p3), .val (.ref b4), .val (.ref b6), .unset, .unset, .unset, .unset, .unset, .unset, .unset, .unset] [])) _
    refine XS.iloadN X7.here hx rfl (hb hby at_20) rfl ?_
    show Steps _ _ _ (T7.setTop (mkF m 21 #[.val (.int p1), .val (.int p2), .val (.int p3), .val (.ref b4), .val (.ref b6), .unset, .unset, .unset, .unset, .unset, .unset, .unset, .unset] [(.int p2)])) _
    refine XS.iconst X7.here hx rfl (hb hby at_21) ?_
    show Steps _ _ _ (T7.setTop (mkF m 22 #[.val (.int p1), .val (.int p2), .val (.int p3), .val (.ref b4), .val (.ref b6), .unset, .unset, .unset, .unset, .unset, .unset, .unset, .unset] [(.int (1 : Int32)), (.int p2)])) _
    refine XS.iand X7.here hx rfl (hb hby at_22) rfl ?_
    show Steps _ _ _ (T7.setTop (mkF m 23 #[.val (.int p1), .val (.int p2), .val (.int p3), .val (.ref b4), .val (.ref b6), .unset, .unset, .unset, .unset, .unset, .unset, .unset, .unset] [(.int (p2 &&& (1 : Int32)))])) _
    refine XS.ifNo X7.here hx rfl (hb hby at_23) rfl ((if0 _ _).trans (feq hc23).1) ?_
    show Steps _ _ _ (T7.setTop (mkF m 26 #[.val (.int p1), .val (.int p2), .val (.int p3), .val (.ref b4), .val (.ref b6), .unset, .unset, .unset, .unset, .unset, .unset, .unset, .unset] [])) _
    refine XS.aload X7.here hx rfl (hb hby at_26) rfl rfl ?_
    show Steps _ _ _ (T7.setTop (mkF m 28 #[.val (.int p1), .val (.int p2), .val (.int p3), .val (.ref b4), .val (.ref b6), .unset, .unset, .unset, .unset, .unset, .unset, .unset, .unset] [(.ref b6)])) _
    refine XS.goto X7.here hx rfl (pc0 := 28) (pc' := 32) rfl (hb hby at_28) (by decide) (by decide) ?_
    show Steps _ _ _ (T7.setTop (mkF m 32 #[.val (.int p1), .val (.int p2), .val (.int p3), .val (.ref b4), .val (.ref b6), .unset, .unset, .unset, .unset, .unset, .unset, .unset, .unset] [(.ref b6)])) _
    refine XS.astore X7.here hx rfl (hb hby at_32) rfl rfl (l' := #[.val (.int p1), .val (.int p2), .val (.int p3), .val (.ref b4), .val (.ref b6), .val (.ref b6), .unset, .unset, .unset, .unset, .unset, .unset, .unset]) rfl ?_
    show Steps _ _ _ (T7.setTop (mkF m 34 #[.val (.int p1), .val (.int p2), .val (.int p3), .val (.ref b4), .val (.ref b6), .val (.ref b6), .unset, .unset, .unset, .unset, .unset, .unset, .unset] [])) _
    refine XS.iloadN X7.here hx rfl (hb hby at_34) rfl ?_
    show Steps _ _ _ (T7.setTop (mkF m 35 #[.val (.int p1), .val (.int p2), .val (.int p3), .val (.ref b4), .val (.ref b6), .val (.ref b6), .unset, .unset, .unset, .unset, .unset, .unset, .unset] [(.int p3)])) _
    refine XS.iconst X7.here hx rfl (hb hby at_35) ?_
    show Steps _ _ _ (T7.setTop (mkF m 36 #[.val (.int p1), .val (.int p2), .val (.int p3), .val (.ref b4), .val (.ref b6), .val (.ref b6), .unset, .unset, .unset, .unset, .unset, .unset, .unset] [(.int (1 : Int32)), (.int p3)])) _
    refine XS.iand X7.here hx rfl (hb hby at_36) rfl ?_
    show Steps _ _ _ (T7.setTop (mkF m 37 #[.val (.int p1), .val (.int p2), .val (.int p3), .val (.ref b4), .val (.ref b6), .val (.ref b6), .unset, .unset, .unset, .unset, .unset, .unset, .unset] [(.int (p3 &&& (1 : Int32)))])) _
    refine XS.ifYes X7.here hx rfl (pc0 := 37) (pc' := 45) rfl (hb hby at_37) rfl ((if0 _ _).trans (teq hc37).1) (by decide) (by decide) ?_
    show Steps _ _ _ (T7.setTop (mkF m 45 #[.val (.int p1), .val (.int p2), .val (.int p3), .val (.ref b4), .val (.ref b6), .val (.ref b6), .unset, .unset, .unset, .unset, .unset, .unset, .unset] [])) _
    refine XS.aloadN X7.here hx rfl (hb hby at_45) rfl rfl ?_
    show Steps _ _ _ (T7.setTop (mkF m 46 #[.val (.int p1), .val (.int p2), .val (.int p3), .val (.ref b4), .val (.ref b6), .val (.ref b6), .unset, .unset, .unset, .unset, .unset, .unset, .unset] [(.ref b4)])) _
    refine XS.astore X7.here hx rfl (hb hby at_46) rfl rfl (l' := #[.val (.int p1), .val (.int p2), .val (.int p3), .val (.ref b4), .val (.ref b6), .val (.ref b6), .val (.ref b4), .unset, .unset, .unset, .unset, .unset, .unset]) rfl ?_
    show Steps _ _ _ (T7.setTop (mkF m 48 #[.val (.int p1), .val (.int p2), .val (.int p3), .val (.ref b4), .val (.ref b6), .val (.ref b6), .val (.ref b4), .unset, .unset, .unset, .unset, .unset, .unset] [])) _
    refine XS.iloadN X7.here hx rfl (hb hby at_48) rfl ?_
    show Steps _ _ _ (T7.setTop (mkF m 49 #[.val (.int p1), .val (.int p2), .val (.int p3), .val (.ref b4), .val (.ref b6), .val (.ref b6), .val (.ref b4), .unset, .unset, .unset, .unset, .unset, .unset] [(.int p1)])) _
    refine XS.iconst X7.here hx rfl (hb hby at_49) ?_
    show Steps _ _ _ (T7.setTop (mkF m 50 #[.val (.int p1), .val (.int p2), .val (.int p3), .val (.ref b4), .val (.ref b6), .val (.ref b6), .val (.ref b4), .unset, .unset, .unset, .unset, .unset, .unset] [(.int (3 : Int32)), (.int p1)])) _
    refine XS.iand X7.here hx rfl (hb hby at_50) rfl ?_
    show Steps _ _ _ (T7.setTop (mkF m 51 #[.val (.int p1), .val (.int p2), .val (.int p3), .val (.ref b4), .val (.ref b6), .val (.ref b6), .val (.ref b4), .unset, .unset, .unset, .unset, .unset, .unset] [(.int (p1 &&& (3 : Int32)))])) _
    refine XS.istore X7.here hx rfl (hb hby at_51) rfl (l' := #[.val (.int p1), .val (.int p2), .val (.int p3), .val (.ref b4), .val (.ref b6), .val (.ref b6), .val (.ref b4), .val (.int (p1 &&& (3 : Int32))), .unset, .unset, .unset, .unset, .unset]) rfl ?_
    show Steps _ _ _ (T7.setTop (mkF m 53 #[.val (.int p1), .val (.int p2), .val (.int p3), .val (.ref b4), .val (.ref b6), .val (.ref b6), .val (.ref b4), .val (.int (p1 &&& (3 : Int32))), .unset, .unset, .unset, .unset, .unset] [])) _
    refine XS.aconstNull X7.here hx rfl (hb hby at_53) ?_
    show Steps _ _ _ (T7.setTop (mkF m 54 #[.val (.int p1), .val (.int p2), .val (.int p3), .val (.ref b4), .val (.ref b6), .val (.ref b6), .val (.ref b4), .val (.int (p1 &&& (3 : Int32))), .unset, .unset, .unset, .unset, .unset] [.null])) _
    refine XS.astore X7.here hx rfl (hb hby at_54) rfl rfl (l' := #[.val (.int p1), .val (.int p2), .val (.int p3), .val (.ref b4), .val (.ref b6), .val (.ref b6), .val (.ref b4), .val (.int (p1 &&& (3 : Int32))), .val .null, .unset, .unset, .unset, .unset]) rfl ?_
    show Steps _ _ _ (T7.setTop (mkF m 56 #[.val (.int p1), .val (.int p2), .val (.int p3), .val (.ref b4), .val (.ref b6), .val (.ref b6), .val (.ref b4), .val (.int (p1 &&& (3 : Int32))), .val .null, .unset, .unset, .unset, .unset] [])) _
    refine XS.iload X7.here hx rfl (hb hby at_56) rfl ?_
    show Steps _ _ _ (T7.setTop (mkF m 58 #[.val (.int p1), .val (.int p2), .val (.int p3), .val (.ref b4), .val (.ref b6), .val (.ref b6), .val (.ref b4), .val (.int (p1 &&& (3 : Int32))), .val .null, .unset, .unset, .unset, .unset] [(.int (p1 &&& (3 : Int32)))])) _
    refine XS.iconst X7.here hx rfl (hb hby at_58) ?_
    show Steps _ _ _ (T7.setTop (mkF m 59 #[.val (.int p1), .val (.int p2), .val (.int p3), .val (.ref b4), .val (.ref b6), .val (.ref b6), .val (.ref b4), .val (.int (p1 &&& (3 : Int32))), .val .null, .unset, .unset, .unset, .unset] [(.int (1 : Int32)), (.int (p1 &&& (3 : Int32)))])) _
    refine XS.icmpYes X7.here hx rfl (pc0 := 59) (pc' := 78) rfl (hb hby at_59) rfl (feq hc59).2 (by decide) (by decide) ?_
    show Steps _ _ _ (T7.setTop (mkF m 78 #[.val (.int p1), .val (.int p2), .val (.int p3), .val (.ref b4), .val (.ref b6), .val (.ref b6), .val (.ref b4), .val (.int (p1 &&& (3 : Int32))), .val .null, .unset, .unset, .unset, .unset] [])) _
    refine XS.iload X7.here hx rfl (hb hby at_78) rfl ?_
    show Steps _ _ _ (T7.setTop (mkF m 80 #[.val (.int p1), .val (.int p2), .val (.int p3), .val (.ref b4), .val (.ref b6), .val (.ref b6), .val (.ref b4), .val (.int (p1 &&& (3 : Int32))), .val .null, .unset, .unset, .unset, .unset] [(.int (p1 &&& (3 : Int32)))])) _
    refine XS.iconst X7.here hx rfl (hb hby at_80) ?_
    show Steps _ _ _ (T7.setTop (mkF m 81 #[.val (.int p1), .val (.int p2), .val (.int p3), .val (.ref b4), .val (.ref b6), .val (.ref b6), .val (.ref b4), .val (.int (p1 &&& (3 : Int32))), .val .null, .unset, .unset, .unset, .unset] [(.int (2 : Int32)), (.int (p1 &&& (3 : Int32)))])) _
    refine XS.icmpYes X7.here hx rfl (pc0 := 81) (pc' := 100) rfl (hb hby at_81) rfl (feq hc81).2 (by decide) (by decide) ?_
    show Steps _ _ _ (T7.setTop (mkF m 100 #[.val (.int p1), .val (.int p2), .val (.int p3), .val (.ref b4), .val (.ref b6), .val (.ref b6), .val (.ref b4), .val (.int (p1 &&& (3 : Int32))), .val .null, .unset, .unset, .unset, .unset] [])) _
    refine XS.iload X7.here hx rfl (hb hby at_100) rfl ?_
    show Steps _ _ _ (T7.setTop (mkF m 102 #[.val (.int p1), .val (.int p2), .val (.int p3), .val (.ref b4), .val (.ref b6), .val (.ref b6), .val (.ref b4), .val (.int (p1 &&& (3 : Int32))), .val .null, .unset, .unset, .unset, .unset] [(.int (p1 &&& (3 : Int32)))])) _
    refine XS.iconst X7.here hx rfl (hb hby at_102) ?_
    show Steps _ _ _ (T7.setTop (mkF m 103 #[.val (.int p1), .val (.int p2), .val (.int p3), .val (.ref b4), .val (.ref b6), .val (.ref b6), .val (.ref b4), .val (.int (p1 &&& (3 : Int32))), .val .null, .unset, .unset, .unset, .unset] [(.int (3 : Int32)), (.int (p1 &&& (3 : Int32)))])) _
    refine XS.icmpYes X7.here hx rfl (pc0 := 103) (pc' := 127) rfl (hb hby at_103) rfl (feq hc103).2 (by decide) (by decide) ?_
    show Steps _ _ _ (T7.setTop (mkF m 127 #[.val (.int p1), .val (.int p2), .val (.int p3), .val (.ref b4), .val (.ref b6), .val (.ref b6), .val (.ref b4), .val (.int (p1 &&& (3 : Int32))), .val .null, .unset, .unset, .unset, .unset] [])) _
    refine XS.aload X7.here hx rfl (hb hby at_127) rfl rfl ?_
    show Steps _ _ _ (T7.setTop (mkF m 129 #[.val (.int p1), .val (.int p2), .val (.int p3), .val (.ref b4), .val (.ref b6), .val (.ref b6), .val (.ref b4), .val (.int (p1 &&& (3 : Int32))), .val .null, .unset, .unset, .unset, .unset] [(.ref b4)])) _
    refine st8.trans ?_
    show Steps _ _ _ (T8.setTop (mkF m 132 #[.val (.int p1), .val (.int p2), .val (.int p3), .val (.ref b4), .val (.ref b6), .val (.ref b6), .val (.ref b4), .val (.int (p1 &&& (3 : Int32))), .val .null, .unset, .unset, .unset, .unset] [(.int (0 : Int32))])) _
    refine XS.aload X8.here hx rfl (hb hby at_132) rfl rfl ?_
    show Steps _ _ _ (T8.setTop (mkF m 134 #[.val (.int p1), .val (.int p2), .val (.int p3), .val (.ref b4), .val (.ref b6), .val (.ref b6), .val (.ref b4), .val (.int (p1 &&& (3 : Int32))), .val .null, .unset, .unset, .unset, .unset] [.null, (.int (0 : Int32))])) _
    refine XS.ifnullYes X8.here hx rfl (pc0 := 134) (pc' := 141) rfl (hb hby at_134) rfl (by decide) (by decide) ?_
    show Steps _ _ _ (T8.setTop (mkF m 141 #[.val (.int p1), .val (.int p2), .val (.int p3), .val (.ref b4), .val (.ref b6), .val (.ref b6), .val (.ref b4), .val (.int (p1 &&& (3 : Int32))), .val .null, .unset, .unset, .unset, .unset] [(.int (0 : Int32))])) _
    refine XS.iconst X8.here hx rfl (hb hby at_141) ?_
    show Steps _ _ _ (T8.setTop (mkF m 142 #[.val (.int p1), .val (.int p2), .val (.int p3), .val (.ref b4), .val (.ref b6), .val (.ref b6), .val (.ref b4), .val (.int (p1 &&& (3 : Int32))), .val .null, .unset, .unset, .unset, .unset] [(.int (0 : Int32)), (.int (0 : Int32))])) _
    refine XS.icmpNo X8.here hx rfl (hb hby at_142) rfl (teq (rfl : (0 : Int32) = (0 : Int32))).2 ?_
    show Steps _ _ _ (T8.setTop (mkF m 145 #[.val (.int p1), .val (.int p2), .val (.int p3), .val (.ref b4), .val (.ref b6), .val (.ref b6), .val (.ref b4), .val (.int (p1 &&& (3 : Int32))), .val .null, .unset, .unset, .unset, .unset] [])) _
    refine XS.iconst X8.here hx rfl (hb hby at_145) ?_
    show Steps _ _ _ (T8.setTop (mkF m 146 #[.val (.int p1), .val (.int p2), .val (.int p3), .val (.ref b4), .val (.ref b6), .val (.ref b6), .val (.ref b4), .val (.int (p1 &&& (3 : Int32))), .val .null, .unset, .unset, .unset, .unset] [(.int (1 : Int32))])) _
    refine XS.goto X8.here hx rfl (pc0 := 146) (pc' := 150) rfl (hb hby at_146) (by decide) (by decide) ?_
    show Steps _ _ _ (T8.setTop (mkF m 150 #[.val (.int p1), .val (.int p2), .val (.int p3), .val (.ref b4), .val (.ref b6), .val (.ref b6), .val (.ref b4), .val (.int (p1 &&& (3 : Int32))), .val .null, .unset, .unset, .unset, .unset] [(.int (1 : Int32))])) _
    refine XS.istore X8.here hx rfl (hb hby at_150) rfl (l' := #[.val (.int p1), .val (.int p2), .val (.int p3), .val (.ref b4), .val (.ref b6), .val (.ref b6), .val (.ref b4), .val (.int (p1 &&& (3 : Int32))), .val .null, .val (.int (1 : Int32)), .unset, .unset, .unset]) rfl ?_
    show Steps _ _ _ (T8.setTop (mkF m 152 #[.val (.int p1), .val (.int p2), .val (.int p3), .val (.ref b4), .val (.ref b6), .val (.ref b6), .val (.ref b4), .val (.int (p1 &&& (3 : Int32))), .val .null, .val (.int (1 : Int32)), .unset, .unset, .unset] [])) _
    refine XS.aload X8.here hx rfl (hb hby at_152) rfl rfl ?_
    show Steps _ _ _ (T8.setTop (mkF m 154 #[.val (.int p1), .val (.int p2), .val (.int p3), .val (.ref b4), .val (.ref b6), .val (.ref b6), .val (.ref b4), .val (.int (p1 &&& (3 : Int32))), .val .null, .val (.int (1 : Int32)), .unset, .unset, .unset] [(.ref b4)])) _
    refine st9.trans ?_
    show Steps _ _ _ (T9.setTop (mkF m 157 #[.val (.int p1), .val (.int p2), .val (.int p3), .val (.ref b4), .val (.ref b6), .val (.ref b6), .val (.ref b4), .val (.int (p1 &&& (3 : Int32))), .val .null, .val (.int (1 : Int32)), .unset, .unset, .unset] [.null])) _
    refine XS.astore X9.here hx rfl (hb hby at_157) rfl rfl (l' := #[.val (.int p1), .val (.int p2), .val (.int p3), .val (.ref b4), .val (.ref b6), .val (.ref b6), .val (.ref b4), .val (.int (p1 &&& (3 : Int32))), .val .null, .val (.int (1 : Int32)), .val .null, .unset, .unset]) rfl ?_
    show Steps _ _ _ (T9.setTop (mkF m 159 #[.val (.int p1), .val (.int p2), .val (.int p3), .val (.ref b4), .val (.ref b6), .val (.ref b6), .val (.ref b4), .val (.int (p1 &&& (3 : Int32))), .val .null, .val (.int (1 : Int32)), .val .null, .unset, .unset] [])) _
    refine XS.aloadN X9.here hx rfl (hb hby at_159) rfl rfl ?_
    show Steps _ _ _ (T9.setTop (mkF m 160 #[.val (.int p1), .val (.int p2), .val (.int p3), .val (.ref b4), .val (.ref b6), .val (.ref b6), .val (.ref b4), .val (.int (p1 &&& (3 : Int32))), .val .null, .val (.int (1 : Int32)), .val .null, .unset, .unset] [(.ref b4)])) _
    refine st10.trans ?_
    show Steps _ _ _ (T10.setTop (mkF m 163 #[.val (.int p1), .val (.int p2), .val (.int p3), .val (.ref b4), .val (.ref b6), .val (.ref b6), .val (.ref b4), .val (.int (p1 &&& (3 : Int32))), .val .null, .val (.int (1 : Int32)), .val .null, .unset, .unset] [(.int (0 : Int32))])) _
    refine XS.ifNo X10.here hx rfl (hb hby at_163) rfl ((if0 _ _).trans (teq (rfl : (0 : Int32) = (0 : Int32))).2) ?_
    show Steps _ _ _ (T10.setTop (mkF m 166 #[.val (.int p1), .val (.int p2), .val (.int p3), .val (.ref b4), .val (.ref b6), .val (.ref b6), .val (.ref b4), .val (.int (p1 &&& (3 : Int32))), .val .null, .val (.int (1 : Int32)), .val .null, .unset, .unset] [])) _
    refine XS.aload X10.here hx rfl (hb hby at_166) rfl rfl ?_
    show Steps _ _ _ (T10.setTop (mkF m 168 #[.val (.int p1), .val (.int p2), .val (.int p3), .val (.ref b4), .val (.ref b6), .val (.ref b6), .val (.ref b4), .val (.int (p1 &&& (3 : Int32))), .val .null, .val (.int (1 : Int32)), .val .null, .unset, .unset] [(.ref b6)])) _
    refine st11.trans ?_
    show Steps _ _ _ (T11.setTop (mkF m 171 #[.val (.int p1), .val (.int p2), .val (.int p3), .val (.ref b4), .val (.ref b6), .val (.ref b6), .val (.ref b4), .val (.int (p1 &&& (3 : Int32))), .val .null, .val (.int (1 : Int32)), .val .null, .unset, .unset] [(.int (0 : Int32))])) _
    refine XS.ifNo X11.here hx rfl (hb hby at_171) rfl ((if0 _ _).trans (teq (rfl : (0 : Int32) = (0 : Int32))).2) ?_
    show Steps _ _ _ (T11.setTop (mkF m 174 #[.val (.int p1), .val (.int p2), .val (.int p3), .val (.ref b4), .val (.ref b6), .val (.ref b6), .val (.ref b4), .val (.int (p1 &&& (3 : Int32))), .val .null, .val (.int (1 : Int32)), .val .null, .unset, .unset] [])) _
    refine XS.iconst X11.here hx rfl (hb hby at_174) ?_
    show Steps _ _ _ (T11.setTop (mkF m 175 #[.val (.int p1), .val (.int p2), .val (.int p3), .val (.ref b4), .val (.ref b6), .val (.ref b6), .val (.ref b4), .val (.int (p1 &&& (3 : Int32))), .val .null, .val (.int (1 : Int32)), .val .null, .unset, .unset] [(.int (1 : Int32))])) _
    refine XS.goto X11.here hx rfl (pc0 := 175) (pc' := 179) rfl (hb hby at_175) (by decide) (by decide) ?_
    show Steps _ _ _ (T11.setTop (mkF m 179 #[.val (.int p1), .val (.int p2), .val (.int p3), .val (.ref b4), .val (.ref b6), .val (.ref b6), .val (.ref b4), .val (.int (p1 &&& (3 : Int32))), .val .null, .val (.int (1 : Int32)), .val .null, .unset, .unset] [(.int (1 : Int32))])) _
    refine XS.istore X11.here hx rfl (hb hby at_179) rfl (l' := #[.val (.int p1), .val (.int p2), .val (.int p3), .val (.ref b4), .val (.ref b6), .val (.ref b6), .val (.ref b4), .val (.int (p1 &&& (3 : Int32))), .val .null, .val (.int (1 : Int32)), .val .null, .val (.int (1 : Int32)), .unset]) rfl ?_
    show Steps _ _ _ (T11.setTop (mkF m 181 #[.val (.int p1), .val (.int p2), .val (.int p3), .val (.ref b4), .val (.ref b6), .val (.ref b6), .val (.ref b4), .val (.int (p1 &&& (3 : Int32))), .val .null, .val (.int (1 : Int32)), .val .null, .val (.int (1 : Int32)), .unset] [])) _
    refine XS.aload X11.here hx rfl (hb hby at_181) rfl rfl ?_
    show Steps _ _ _ (T11.setTop (mkF m 183 #[.val (.int p1), .val (.int p2), .val (.int p3), .val (.ref b4), .val (.ref b6), .val (.ref b6), .val (.ref b4), .val (.int (p1 &&& (3 : Int32))), .val .null, .val (.int (1 : Int32)), .val .null, .val (.int (1 : Int32)), .unset] [(.ref b4)])) _
    refine st12.trans ?_
    show Steps _ _ _ (T12.setTop (mkF m 186 #[.val (.int p1), .val (.int p2), .val (.int p3), .val (.ref b4), .val (.ref b6), .val (.ref b6), .val (.ref b4), .val (.int (p1 &&& (3 : Int32))), .val .null, .val (.int (1 : Int32)), .val .null, .val (.int (1 : Int32)), .unset] [.null])) _
    refine XS.astore X12.here hx rfl (hb hby at_186) rfl rfl (l' := #[.val (.int p1), .val (.int p2), .val (.int p3), .val (.ref b4), .val (.ref b6), .val (.ref b6), .val (.ref b4), .val (.int (p1 &&& (3 : Int32))), .val .null, .val (.int (1 : Int32)), .val .null, .val (.int (1 : Int32)), .val .null]) rfl ?_
    show Steps _ _ _ (T12.setTop (mkF m 188 #[.val (.int p1), .val (.int p2), .val (.int p3), .val (.ref b4), .val (.ref b6), .val (.ref b6), .val (.ref b4), .val (.int (p1 &&& (3 : Int32))), .val .null, .val (.int (1 : Int32)), .val .null, .val (.int (1 : Int32)), .val .null] [])) _
    refine XS.iload X12.here hx rfl (hb hby at_188) rfl ?_
    show Steps _ _ _ (T12.setTop (mkF m 190 #[.val (.int p1), .val (.int p2), .val (.int p3), .val (.ref b4), .val (.ref b6), .val (.ref b6), .val (.ref b4), .val (.int (p1 &&& (3 : Int32))), .val .null, .val (.int (1 : Int32)), .val .null, .val (.int (1 : Int32)), .val .null] [(.int (1 : Int32))])) _
    refine XS.ifNo X12.here hx rfl (hb hby at_190) rfl ((if0 _ _).trans (feq hc190).1) ?_
    show Steps _ _ _ (T12.setTop (mkF m 193 #[.val (.int p1), .val (.int p2), .val (.int p3), .val (.ref b4), .val (.ref b6), .val (.ref b6), .val (.ref b4), .val (.int (p1 &&& (3 : Int32))), .val .null, .val (.int (1 : Int32)), .val .null, .val (.int (1 : Int32)), .val .null] [])) _
    refine XS.aload X12.here hx rfl (hb hby at_193) rfl rfl ?_
    show Steps _ _ _ (T12.setTop (mkF m 195 #[.val (.int p1), .val (.int p2), .val (.int p3), .val (.ref b4), .val (.ref b6), .val (.ref b6), .val (.ref b4), .val (.int (p1 &&& (3 : Int32))), .val .null, .val (.int (1 : Int32)), .val .null, .val (.int (1 : Int32)), .val .null] [.null])) _
    refine XS.aload X12.here hx rfl (hb hby at_195) rfl rfl ?_
    show Steps _ _ _ (T12.setTop (mkF m 197 #[.val (.int p1), .val (.int p2), .val (.int p3), .val (.ref b4), .val (.ref b6), .val (.ref b6), .val (.ref b4), .val (.int (p1 &&& (3 : Int32))), .val .null, .val (.int (1 : Int32)), .val .null, .val (.int (1 : Int32)), .val .null] [.null, .null])) _
    refine Jvm.RoadKit.acmp (g := (mkF m 197 #[.val (.int p1), .val (.int p2), .val (.int p3), .val (.ref b4), .val (.ref b6), .val (.ref b6), .val (.ref b4), .val (.int (p1 &&& (3 : Int32))), .val .null, .val (.int (1 : Int32)), .val .null, .val (.int (1 : Int32)), .val .null] [.null, .null])) X12 hx rfl rfl rfl (pc0 := 197) (pc' := 200) (same := true) rfl (hb hby at_197) rfl (decide_eq_true rfl) (by decide) (by decide) ?_
    show Steps _ _ _ (T12.setTop (mkF m 200 #[.val (.int p1), .val (.int p2), .val (.int p3), .val (.ref b4), .val (.ref b6), .val (.ref b6), .val (.ref b4), .val (.int (p1 &&& (3 : Int32))), .val .null, .val (.int (1 : Int32)), .val .null, .val (.int (1 : Int32)), .val .null] [])) _
    refine XS.iload X12.here hx rfl (hb hby at_200) rfl ?_
    show Steps _ _ _ (T12.setTop (mkF m 202 #[.val (.int p1), .val (.int p2), .val (.int p3), .val (.ref b4), .val (.ref b6), .val (.ref b6), .val (.ref b4), .val (.int (p1 &&& (3 : Int32))), .val .null, .val (.int (1 : Int32)), .val .null, .val (.int (1 : Int32)), .val .null] [(.int (1 : Int32))])) _
    refine XS.ifNo X12.here hx rfl (hb hby at_202) rfl ((if0 _ _).trans (feq hc202).1) ?_
    show Steps _ _ _ (T12.setTop (mkF m 205 #[.val (.int p1), .val (.int p2), .val (.int p3), .val (.ref b4), .val (.ref b6), .val (.ref b6), .val (.ref b4), .val (.int (p1 &&& (3 : Int32))), .val .null, .val (.int (1 : Int32)), .val .null, .val (.int (1 : Int32)), .val .null] [])) _
    refine XS.aload X12.here hx rfl (hb hby at_205) rfl rfl ?_
    show Steps _ _ _ (T12.setTop (mkF m 207 #[.val (.int p1), .val (.int p2), .val (.int p3), .val (.ref b4), .val (.ref b6), .val (.ref b6), .val (.ref b4), .val (.int (p1 &&& (3 : Int32))), .val .null, .val (.int (1 : Int32)), .val .null, .val (.int (1 : Int32)), .val .null] [.null])) _
    refine XS.ifnonnullNo X12.here hx rfl (hb hby at_207) rfl ?_
    show Steps _ _ _ (T12.setTop (mkF m 210 #[.val (.int p1), .val (.int p2), .val (.int p3), .val (.ref b4), .val (.ref b6), .val (.ref b6), .val (.ref b4), .val (.int (p1 &&& (3 : Int32))), .val .null, .val (.int (1 : Int32)), .val .null, .val (.int (1 : Int32)), .val .null] [])) _
    refine XS.iconst X12.here hx rfl (hb hby at_210) ?_
    show Steps _ _ _ (T12.setTop (mkF m 211 #[.val (.int p1), .val (.int p2), .val (.int p3), .val (.ref b4), .val (.ref b6), .val (.ref b6), .val (.ref b4), .val (.int (p1 &&& (3 : Int32))), .val .null, .val (.int (1 : Int32)), .val .null, .val (.int (1 : Int32)), .val .null] [(.int (1 : Int32))])) _
    refine XS.goto X12.here hx rfl (pc0 := 211) (pc' := 215) rfl (hb hby at_211) (by decide) (by decide) ?_
    show Steps _ _ _ (T12.setTop (mkF m 215 #[.val (.int p1), .val (.int p2), .val (.int p3), .val (.ref b4), .val (.ref b6), .val (.ref b6), .val (.ref b4), .val (.int (p1 &&& (3 : Int32))), .val .null, .val (.int (1 : Int32)), .val .null, .val (.int (1 : Int32)), .val .null] [(.int (1 : Int32))])) _
    exact retN X12 hx (t := .boolean) Bd.returns (by simp) (hb hby at_215) hr
  · show Q0 Z p1 p2 p3 uB uC h0 n0 _ T12.heap _
    exact ⟨rfl, N12⟩
-- 2. THE CONTRACT: what this body leaves is yours
-- its room: frames: the greatest, locals: the greatest, cells 4 + .., slots 32 + ..: rm1: frames + 1; locals 1 + 3 + 11 + its room's locals; its cells and slots besides; rm5: frames + 1; locals 1 + 2 + 11 + its room's locals; its cells and slots besides; rm9: frames + 1; locals 0 + 2 + 11 + its room's locals; its cells and slots besides; rm7: frames + 1; locals 0 + 1 + 11 + its room's locals; its cells and slots besides; rm8: frames + 1; locals 0 + 2 + 11 + its room's locals; its cells and slots besides; rm7: frames + 1; locals 0 + 1 + 11 + its room's locals; its cells and slots besides; rm7: frames + 1; locals 0 + 1 + 11 + its room's locals; its cells and slots besides; rm8: frames + 1; locals 0 + 2 + 11 + its room's locals; its cells and slots besides
set_option maxRecDepth 65536 in
set_option maxHeartbeats 40000000 in
theorem rm0_ff1 (l : Launch) (Z : State) (a0 : Array Value) (hw : ∀ d ∈ tables_1, d.before a0 Z = true) (ws : List Jvm.Cond) (p1 : Int32) (p2 : Int32) (p3 : Int32) (uB : Addr) (uC : Addr) (h0 : Heap) (n0 : Nat) (Z0 : n0 ≤ h0.size) (S_BREAK : Sta Z h0 "com/example/transom/transom/Scope$Jump" "BREAK" "Lcom/example/transom/transom/Scope$Jump;" (.ref uB)) (S_CONTINUE : Sta Z h0 "com/example/transom/transom/Scope$Jump" "CONTINUE" "Lcom/example/transom/transom/Scope$Jump;" (.ref uC)) (hc23 : ¬ ((p2 &&& (1 : Int32)) = (0 : Int32))) (hc37 : ¬ ((p3 &&& (1 : Int32)) = (0 : Int32))) (hc59 : (p1 &&& (3 : Int32)) = (1 : Int32)) (hc190 : ¬ ((1 : Int32) = (0 : Int32))) (hc202 : ¬ ((1 : Int32) = (0 : Int32))) :
    MetFree l x (head1 (Jvm.Cond.code x code maxLocals ret :: ws) room_1) (fun a U => a = #[(.int p1), (.int p2), (.int p3)] ∧ Z.Warmed39 U.vm ∧ U.heap = h0) (fun _ _ _ _ _ => True) (fun _ U o U' => ∃ v L, o = .returned v ∧ Q0 Z p1 p2 p3 uB uC h0 n0 v U'.heap L ∧ FrameEnd U o U' L room_1.cells room_1.slots) := by
  refine MetFree.of_bodySF (plainFor_of_name pn_0) hisR ?_
  intro p e s m args below meth c s₁ Bd hml0 hP hK
  obtain ⟨rfl, hZ, hh⟩ := hP
  have hx := Bd.exec
  have hby := Bd.bytes
  have hml : c.maxLocals = 13 := hml0
  have hown : s.vm.findClass "com/example/transom/transom/ScopeLandPinLaw" = some m.cls := findClass_of_methodNamed Bd.named
  have hnm := (name_of_methodNamed Bd.named Bd.method).1
  have X0 : Stand p l e room_1 s m #[(.int p1), (.int p2), (.int p3)] below meth c s₁ [] 0 0 := Stand.of_body Bd
  have e0 : s₁.heap = h0 := by rw [← hh, Bd.state]; rfl
  have N0 := Fr.nil n0
  have pre0 : ∀ t, Steps p.tables e below (s₁.setTop (mkF m 0 #[.val (.int p1), .val (.int p2), .val (.int p3), .unset, .unset, .unset, .unset, .unset, .unset, .unset, .unset, .unset, .unset] [])) t → Steps p.tables e below (s₁.setTop (entryFrame m #[(.int p1), (.int p2), (.int p3)] maxLocals)) t := fun t k => castTop (ef_0 m p1 p2 p3) k
  obtain ⟨T4, h4, X4, e4, E4, A4, D4, -, st4⟩ := newO X0 hx hZ hown (ww hw 0 rfl) (ww hw 1 rfl) (ww hw 2 rfl) e0 (g := (mkF m 0 #[.val (.int p1), .val (.int p2), .val (.int p3), .unset, .unset, .unset, .unset, .unset, .unset, .unset, .unset, .unset, .unset] [])) rfl (hb hby at_0) (by decide) (by decide)
  obtain ⟨b4, g4⟩ : ∃ z, z = h0.size := ⟨_, rfl⟩
  rw [← g4] at A4 D4 st4
  have F_values_b4 : Fld Z h4 b4 "com/example/transom/transom/Scope" "values" "Ljava/util/Map;" .null := D4 (Or.inr (ww hw 26 rfl)) (ty := (.object "java/util/Map")) (by decide)
  have F_parent_b4 : Fld Z h4 b4 "com/example/transom/transom/Scope" "parent" "Lcom/example/transom/transom/Scope;" .null := D4 (Or.inr (ww hw 28 rfl)) (ty := (.object "com/example/transom/transom/Scope")) (by decide)
  have F_top_b4 : Fld Z h4 b4 "com/example/transom/transom/Scope" "top" "Lcom/example/transom/transom/Scope;" .null := D4 (Or.inr (ww hw 30 rfl)) (ty := (.object "com/example/transom/transom/Scope")) (by decide)
  have F_model_b4 : Fld Z h4 b4 "com/example/transom/transom/Scope" "model" "Ljava/util/Map;" .null := D4 (Or.inr (ww hw 32 rfl)) (ty := (.object "java/util/Map")) (by decide)
  have F_template_b4 : Fld Z h4 b4 "com/example/transom/transom/Scope" "template" "Lcom/example/transom/transom/Template;" .null := D4 (Or.inr (ww hw 34 rfl)) (ty := (.object "com/example/transom/transom/Template")) (by decide)
  have F_renderer_b4 : Fld Z h4 b4 "com/example/transom/transom/Scope" "renderer" "Lcom/example/transom/transom/Scope;" .null := D4 (Or.inr (ww hw 36 rfl)) (ty := (.object "com/example/transom/transom/Scope")) (by decide)
  have F_calls_b4 : Fld Z h4 b4 "com/example/transom/transom/Scope" "calls" "I" (.int (0 : Int32)) := D4 (Or.inr (ww hw 38 rfl)) (ty := .int) (by decide)
  have F_jump_b4 : Fld Z h4 b4 "com/example/transom/transom/Scope" "jump" "Lcom/example/transom/transom/Scope$Jump;" .null := D4 (Or.inl (ww hw 51 rfl)) (ty := (.object "com/example/transom/transom/Scope$Jump")) (by decide)
  have E_b4 := A4
  have g_b4 : n0 ≤ b4 := Nat.le_trans Z0 (Nat.le_of_eq g4.symm)
  have sz_b4 : h0.size ≤ b4 := (Nat.le_trans (Keep.refl h0 []).1 (Nat.le_of_eq g4.symm))
  have K4 : Keep h0 h4 [] := (Keep.refl h0 []).ext E4
  obtain ⟨_, _, ⟨T5, L5, k5, n5⟩, -, X5, ⟨Lc5, hQ5, l5, y5, z5⟩, st5⟩ := X4.specialBack hx (y := (⟨"com/example/transom/transom/Scope", "<init>", "(Ljava/util/Map;Lcom/example/transom/transom/Template;)V"⟩ : MethodName)) rfl hown (mvT hZ (ww hw 3 rfl)) (mvT hZ (ww hw 4 rfl)) (mvT hZ (ww hw 5 rfl)) (by decide) (backOf (W := 1) (rm1 l Z a0 hw [] b4 _ _ _ _ _ _ _  h4 n0 (Nat.le_trans Z0 E4.1) F_jump_b4 E_b4 F_values_b4 g_b4 F_parent_b4 F_top_b4 F_model_b4 F_template_b4 F_renderer_b4 F_calls_b4) hZ (ww hw 5 rfl) (ww hw 2 rfl) (by decide) (by decide)) (g := (mkF m 6 #[.val (.int p1), .val (.int p2), .val (.int p3), .unset, .unset, .unset, .unset, .unset, .unset, .unset, .unset, .unset, .unset] [.null, .null, (.ref b4), (.ref b4)])) rfl (by rw [hml]; rfl) (Steps.refl _) (a := b4) (argsL := [.null, .null]) (rest := [(.ref b4)]) (lenOf pd_0_0 rfl) rfl (by show 2 * 0 + _ ≤ _; exact Nat.le_of_eq rfl) (hb hby at_6) (fun _ _ => ⟨rfl, e4, (by decide : 1 + 1 ≤ _), (by decide : 8 + 8 ≤ _)⟩)
  dsimp only [Pt.U, Pt.locs, Pt.cells, Pt.slots] at X5 l5 y5 z5 st5 hQ5
  subst l5 y5 z5
  obtain ⟨rfl, N5q, Kc5, Ec5, Ftop5, Fmodel5, Ftemplate5, Frenderer5, Fcalls5, Fjump5⟩ := hQ5
  have N5 := Fr.app N0 N5q
  have S_BREAK_5 := own_stak (S_BREAK.ext E4) Kc5 (allS (own_nst E_b4) all0)
  have S_CONTINUE_5 := own_stak (S_CONTINUE.ext E4) Kc5 (allS (own_nst E_b4) all0)
  have K5 : Keep h0 T5.heap [] := K4.trans Kc5 (allS (Or.inr sz_b4) all0)
  obtain ⟨T6, h6, X6, e6, E6, A6, D6, -, st6⟩ := newO X5 hx hZ hown (ww hw 0 rfl) (ww hw 1 rfl) (ww hw 2 rfl) rfl (g := (mkF m 10 #[.val (.int p1), .val (.int p2), .val (.int p3), .val (.ref b4), .unset, .unset, .unset, .unset, .unset, .unset, .unset, .unset, .unset] [])) rfl (hb hby at_10) (by decide) (by decide)
  obtain ⟨b6, g6⟩ : ∃ z, z = T5.heap.size := ⟨_, rfl⟩
  rw [← g6] at A6 D6 st6
  have F_values_b6 : Fld Z h6 b6 "com/example/transom/transom/Scope" "values" "Ljava/util/Map;" .null := D6 (Or.inr (ww hw 26 rfl)) (ty := (.object "java/util/Map")) (by decide)
  have F_parent_b6 : Fld Z h6 b6 "com/example/transom/transom/Scope" "parent" "Lcom/example/transom/transom/Scope;" .null := D6 (Or.inr (ww hw 28 rfl)) (ty := (.object "com/example/transom/transom/Scope")) (by decide)
  have F_top_b6 : Fld Z h6 b6 "com/example/transom/transom/Scope" "top" "Lcom/example/transom/transom/Scope;" .null := D6 (Or.inr (ww hw 30 rfl)) (ty := (.object "com/example/transom/transom/Scope")) (by decide)
  have F_model_b6 : Fld Z h6 b6 "com/example/transom/transom/Scope" "model" "Ljava/util/Map;" .null := D6 (Or.inr (ww hw 32 rfl)) (ty := (.object "java/util/Map")) (by decide)
  have F_template_b6 : Fld Z h6 b6 "com/example/transom/transom/Scope" "template" "Lcom/example/transom/transom/Template;" .null := D6 (Or.inr (ww hw 34 rfl)) (ty := (.object "com/example/transom/transom/Template")) (by decide)
  have F_renderer_b6 : Fld Z h6 b6 "com/example/transom/transom/Scope" "renderer" "Lcom/example/transom/transom/Scope;" .null := D6 (Or.inr (ww hw 36 rfl)) (ty := (.object "com/example/transom/transom/Scope")) (by decide)
  have F_calls_b6 : Fld Z h6 b6 "com/example/transom/transom/Scope" "calls" "I" (.int (0 : Int32)) := D6 (Or.inr (ww hw 38 rfl)) (ty := .int) (by decide)
  have F_jump_b6 : Fld Z h6 b6 "com/example/transom/transom/Scope" "jump" "Lcom/example/transom/transom/Scope$Jump;" .null := D6 (Or.inl (ww hw 51 rfl)) (ty := (.object "com/example/transom/transom/Scope$Jump")) (by decide)
  have E_b6 := A6
  have g_b6 : n0 ≤ b6 := Nat.le_trans (Nat.le_trans (Nat.le_trans Z0 E4.1) Kc5.1) (Nat.le_of_eq g6.symm)
  have sz_b6 : h0.size ≤ b6 := (Nat.le_trans K5.1 (Nat.le_of_eq g6.symm))
  have K6 : Keep h0 h6 [] := K5.ext E6
  obtain ⟨_, _, ⟨T7, L7, k7, n7⟩, -, X7, ⟨Lc7, hQ7, l7, y7, z7⟩, st7⟩ := X6.specialBack hx (y := (⟨"com/example/transom/transom/Scope", "<init>", "(Lcom/example/transom/transom/Scope;)V"⟩ : MethodName)) rfl hown (mvT hZ (ww hw 39 rfl)) (mvT hZ (ww hw 40 rfl)) (mvT hZ (ww hw 41 rfl)) (by decide) (backOf (W := 1) (rm5 l Z a0 hw [] b6 b4 b4 (0 : Int32) h6 n0 (Nat.le_trans (Nat.le_trans (Nat.le_trans Z0 E4.1) Kc5.1) E6.1) (Nat.ne_of_lt (Nat.lt_of_lt_of_le (E_b4.keep Kc5).lt (Nat.le_of_eq g6.symm))) E_b6 F_values_b6 F_parent_b6 F_top_b6 F_model_b6 F_template_b6 F_renderer_b6 F_calls_b6 g_b6 (Ftop5.ext E6) (Fmodel5.ext E6) (Ftemplate5.ext E6) (Frenderer5.ext E6) (Fcalls5.ext E6)) hZ (ww hw 41 rfl) (ww hw 2 rfl) (by decide) (by decide)) (g := (mkF m 15 #[.val (.int p1), .val (.int p2), .val (.int p3), .val (.ref b4), .unset, .unset, .unset, .unset, .unset, .unset, .unset, .unset, .unset] [(.ref b4), (.ref b6), (.ref b6)])) rfl (by rw [hml]; rfl) (Steps.refl _) (a := b6) (argsL := [(.ref b4)]) (rest := [(.ref b6)]) (lenOf pd_0_2 rfl) rfl (by show 2 * 0 + _ ≤ _; exact Nat.le_of_eq rfl) (hb hby at_15) (fun _ _ => ⟨rfl, e6, (by decide : 3 + 1 ≤ _), (by decide : 24 + 8 ≤ _)⟩)
  dsimp only [Pt.U, Pt.locs, Pt.cells, Pt.slots] at X7 l7 y7 z7 st7 hQ7
  subst l7 y7 z7
  obtain ⟨rfl, N7q, Kc7, Ec7, Ft7⟩ := hQ7
  have N7 := Fr.app N5 N7q
  have S_BREAK_7 := own_stak (S_BREAK_5.ext E6) Kc7 (allS (own_nst E_b6) all0)
  have S_CONTINUE_7 := own_stak (S_CONTINUE_5.ext E6) Kc7 (allS (own_nst E_b6) all0)
  have K7 : Keep h0 T7.heap [] := K6.trans Kc7 (allS (Or.inr sz_b6) all0)
  obtain ⟨T8, X8, e8, st8⟩ := getS2 X7 hx hZ hown (host := "") (Or.inl (ww hw 57 rfl)) Via.refl rfl S_BREAK_7 (g := (mkF m 64 #[.val (.int p1), .val (.int p2), .val (.int p3), .val (.ref b4), .val (.ref b6), .val (.ref b6), .val (.ref b6), .val (.int (p1 &&& (3 : Int32))), .val .null, .unset, .unset, .unset, .unset] [(.ref b6)])) rfl (hb hby at_64)
  obtain ⟨cq9, kq9, q9a, q9b, q9c⟩ := isOf hZ e8 (E_b6.keep Kc7)
  obtain ⟨_, _, ⟨T9, L9, k9, n9⟩, -, X9, ⟨Lc9, hQ9, l9, y9, z9⟩, st9⟩ := X8.virtualBack hx (y := (⟨"com/example/transom/transom/Scope", "jump", "(Lcom/example/transom/transom/Scope$Jump;)V"⟩ : MethodName)) (z := (⟨"com/example/transom/transom/Scope", "jump", "(Lcom/example/transom/transom/Scope$Jump;)V"⟩ : MethodName)) hown (mvT hZ (ww hw 60 rfl)) (mvT hZ (ww hw 61 rfl)) (notFace_of_selects (args := #[]) (mvT hZ (ww hw 63 rfl))) (mvT hZ (ww hw 63 rfl)) (mvT hZ (ww hw 62 rfl)) (by decide) (backOf (W := 0) (rmS l Z a0 hw [] b6 uB b4 _ T7.heap n0 (Nat.le_trans (Nat.le_trans (Nat.le_trans (Nat.le_trans Z0 E4.1) Kc5.1) E6.1) Kc7.1) ((Ftop5.ext E6).keep Kc7 (ninS (Nat.ne_of_lt (Nat.lt_of_lt_of_le (E_b4.keep Kc5).lt (Nat.le_of_eq g6.symm))) nin0)) Ft7 (((E_b4.keep Kc5).ext E6).keep Kc7) ((Fjump5.ext E6).keep Kc7 (ninS (Nat.ne_of_lt (Nat.lt_of_lt_of_le (E_b4.keep Kc5).lt (Nat.le_of_eq g6.symm))) nin0)) g_b4) hZ (ww hw 64 rfl) (ww hw 2 rfl) (by decide) (by decide)) q9a q9c (g := (mkF m 67 #[.val (.int p1), .val (.int p2), .val (.int p3), .val (.ref b4), .val (.ref b6), .val (.ref b6), .val (.ref b6), .val (.int (p1 &&& (3 : Int32))), .val .null, .unset, .unset, .unset, .unset] [(.ref uB), (.ref b6)])) rfl (by rw [hml]; rfl) (Steps.refl _) (argsL := [(.ref uB)]) (rest := []) (lenOf pd_0_6 rfl) rfl (by show 2 * 0 + _ ≤ _; exact Nat.le_of_eq rfl) (hb hby at_67) (fun _ _ => ⟨rfl, e8, (by decide : 4 + 0 ≤ _), (by decide : 32 + 0 ≤ _)⟩)
  dsimp only [Pt.U, Pt.locs, Pt.cells, Pt.slots] at X9 l9 y9 z9 st9 hQ9
  subst l9 y9 z9
  obtain ⟨rfl, N9q, Kc9, Fj9, Ft9⟩ := hQ9
  have N9 := Fr.app N7 N9q
  have S_BREAK_9 := own_stak S_BREAK_7 Kc9 (allS (own_nst (((E_b4.keep Kc5).ext E6).keep Kc7)) all0)
  have S_CONTINUE_9 := own_stak S_CONTINUE_7 Kc9 (allS (own_nst (((E_b4.keep Kc5).ext E6).keep Kc7)) all0)
  have K9 : Keep h0 T9.heap [] := K7.trans Kc9 (allS (Or.inr sz_b4) all0)
  obtain ⟨T10, X10, e10, st10⟩ := getS2 X9 hx hZ hown (host := "") (Or.inl (ww hw 57 rfl)) Via.refl rfl S_BREAK_9 (g := (mkF m 70 #[.val (.int p1), .val (.int p2), .val (.int p3), .val (.ref b4), .val (.ref b6), .val (.ref b6), .val (.ref b6), .val (.int (p1 &&& (3 : Int32))), .val .null, .unset, .unset, .unset, .unset] [])) rfl (hb hby at_70)
  obtain ⟨cq11, kq11, q11a, q11b, q11c⟩ := isOf hZ e10 ((E_b6.keep Kc7).keep Kc9)
  obtain ⟨_, _, ⟨T11, L11, k11, n11⟩, -, X11, ⟨Lc11, hQ11, l11, y11, z11⟩, st11⟩ := X10.virtualBack hx (y := (⟨"com/example/transom/transom/Scope", "jumping", "()Z"⟩ : MethodName)) (z := (⟨"com/example/transom/transom/Scope", "jumping", "()Z"⟩ : MethodName)) hown (mvT hZ (ww hw 45 rfl)) (mvT hZ (ww hw 46 rfl)) (notFace_of_selects (args := #[]) (mvT hZ (ww hw 48 rfl))) (mvT hZ (ww hw 48 rfl)) (mvT hZ (ww hw 47 rfl)) (by decide) (backOf (W := 0) (rmJr l Z a0 hw [] b6 b4 uB T9.heap n0 (Nat.le_trans (Nat.le_trans (Nat.le_trans (Nat.le_trans (Nat.le_trans Z0 E4.1) Kc5.1) E6.1) Kc7.1) Kc9.1) (Ft7.keep Kc9 (ninS (Ne.symm (Nat.ne_of_lt (Nat.lt_of_lt_of_le (E_b4.keep Kc5).lt (Nat.le_of_eq g6.symm)))) nin0)) Fj9) hZ (ww hw 49 rfl) (ww hw 2 rfl) (by decide) (by decide)) q11a q11c (g := (mkF m 129 #[.val (.int p1), .val (.int p2), .val (.int p3), .val (.ref b4), .val (.ref b6), .val (.ref b6), .val (.ref b6), .val (.int (p1 &&& (3 : Int32))), .val (.ref uB), .unset, .unset, .unset, .unset] [(.ref b6)])) rfl (by rw [hml]; rfl) (Steps.refl _) (argsL := []) (rest := []) (lenOf pd_0_4 rfl) rfl (by show 2 * 0 + _ ≤ _; exact Nat.le_of_eq rfl) (hb hby at_129) (fun _ _ => ⟨rfl, e10, (by decide : 4 + 0 ≤ _), (by decide : 32 + 0 ≤ _)⟩)
  dsimp only [Pt.U, Pt.locs, Pt.cells, Pt.slots] at X11 l11 y11 z11 st11 hQ11
  subst l11 y11 z11
  obtain ⟨rfl, N11q, eh11⟩ := hQ11
  have N11 := Fr.app N9 N11q
  obtain ⟨cq12, kq12, q12a, q12b, q12c⟩ := isOf hZ eh11 ((E_b6.keep Kc7).keep Kc9)
  obtain ⟨_, _, ⟨T12, L12, k12, n12⟩, -, X12, ⟨Lc12, hQ12, l12, y12, z12⟩, st12⟩ := X11.virtualBack hx (y := (⟨"com/example/transom/transom/Scope", "land", "()Lcom/example/transom/transom/Scope$Jump;"⟩ : MethodName)) (z := (⟨"com/example/transom/transom/Scope", "land", "()Lcom/example/transom/transom/Scope$Jump;"⟩ : MethodName)) hown (mvT hZ (ww hw 52 rfl)) (mvT hZ (ww hw 53 rfl)) (notFace_of_selects (args := #[]) (mvT hZ (ww hw 55 rfl))) (mvT hZ (ww hw 55 rfl)) (mvT hZ (ww hw 54 rfl)) (by decide) (backOf (W := 0) (rmLr l Z a0 hw [] b6 b4 uB T9.heap n0 (Nat.le_trans (Nat.le_trans (Nat.le_trans (Nat.le_trans (Nat.le_trans Z0 E4.1) Kc5.1) E6.1) Kc7.1) Kc9.1) Ft9 (Ft7.keep Kc9 (ninS (Ne.symm (Nat.ne_of_lt (Nat.lt_of_lt_of_le (E_b4.keep Kc5).lt (Nat.le_of_eq g6.symm)))) nin0)) Fj9 ((((E_b4.keep Kc5).ext E6).keep Kc7).keep Kc9) g_b4) hZ (ww hw 56 rfl) (ww hw 2 rfl) (by decide) (by decide)) q12a q12c (g := (mkF m 154 #[.val (.int p1), .val (.int p2), .val (.int p3), .val (.ref b4), .val (.ref b6), .val (.ref b6), .val (.ref b6), .val (.int (p1 &&& (3 : Int32))), .val (.ref uB), .val (.int (1 : Int32)), .unset, .unset, .unset] [(.ref b6)])) rfl (by rw [hml]; rfl) (Steps.refl _) (argsL := []) (rest := []) (lenOf pd_0_5 rfl) rfl (by show 2 * 0 + _ ≤ _; exact Nat.le_of_eq rfl) (hb hby at_154) (fun _ _ => ⟨rfl, eh11, (by decide : 4 + 0 ≤ _), (by decide : 32 + 0 ≤ _)⟩)
  dsimp only [Pt.U, Pt.locs, Pt.cells, Pt.slots] at X12 l12 y12 z12 st12 hQ12
  subst l12 y12 z12
  obtain ⟨rfl, N12q, Kc12, Fj12, Ft12⟩ := hQ12
  have N12 := Fr.app N11 N12q
  have S_BREAK_12 := own_stak S_BREAK_9 Kc12 (allS (own_nst ((((E_b4.keep Kc5).ext E6).keep Kc7).keep Kc9)) all0)
  have S_CONTINUE_12 := own_stak S_CONTINUE_9 Kc12 (allS (own_nst ((((E_b4.keep Kc5).ext E6).keep Kc7).keep Kc9)) all0)
  have K12 : Keep h0 T12.heap [] := K9.trans Kc12 (allS (Or.inr sz_b4) all0)
  obtain ⟨cq13, kq13, q13a, q13b, q13c⟩ := isOf hZ rfl (((((E_b4.keep Kc5).ext E6).keep Kc7).keep Kc9).keep Kc12)
  obtain ⟨_, _, ⟨T13, L13, k13, n13⟩, -, X13, ⟨Lc13, hQ13, l13, y13, z13⟩, st13⟩ := X12.virtualBack hx (y := (⟨"com/example/transom/transom/Scope", "jumping", "()Z"⟩ : MethodName)) (z := (⟨"com/example/transom/transom/Scope", "jumping", "()Z"⟩ : MethodName)) hown (mvT hZ (ww hw 45 rfl)) (mvT hZ (ww hw 46 rfl)) (notFace_of_selects (args := #[]) (mvT hZ (ww hw 48 rfl))) (mvT hZ (ww hw 48 rfl)) (mvT hZ (ww hw 47 rfl)) (by decide) (backOf (W := 0) (rmJn l Z a0 hw [] b4 b4 T12.heap n0 (Nat.le_trans (Nat.le_trans (Nat.le_trans (Nat.le_trans (Nat.le_trans (Nat.le_trans Z0 E4.1) Kc5.1) E6.1) Kc7.1) Kc9.1) Kc12.1) Ft12 Fj12) hZ (ww hw 49 rfl) (ww hw 2 rfl) (by decide) (by decide)) q13a q13c (g := (mkF m 160 #[.val (.int p1), .val (.int p2), .val (.int p3), .val (.ref b4), .val (.ref b6), .val (.ref b6), .val (.ref b6), .val (.int (p1 &&& (3 : Int32))), .val (.ref uB), .val (.int (1 : Int32)), .val (.ref uB), .unset, .unset] [(.ref b4)])) rfl (by rw [hml]; rfl) (Steps.refl _) (argsL := []) (rest := []) (lenOf pd_0_4 rfl) rfl (by show 2 * 0 + _ ≤ _; exact Nat.le_of_eq rfl) (hb hby at_160) (fun _ _ => ⟨rfl, rfl, (by decide : 4 + 0 ≤ _), (by decide : 32 + 0 ≤ _)⟩)
  dsimp only [Pt.U, Pt.locs, Pt.cells, Pt.slots] at X13 l13 y13 z13 st13 hQ13
  subst l13 y13 z13
  obtain ⟨rfl, N13q, eh13⟩ := hQ13
  have N13 := Fr.app N12 N13q
  obtain ⟨cq14, kq14, q14a, q14b, q14c⟩ := isOf hZ eh13 (((E_b6.keep Kc7).keep Kc9).keep Kc12)
  obtain ⟨_, _, ⟨T14, L14, k14, n14⟩, -, X14, ⟨Lc14, hQ14, l14, y14, z14⟩, st14⟩ := X13.virtualBack hx (y := (⟨"com/example/transom/transom/Scope", "jumping", "()Z"⟩ : MethodName)) (z := (⟨"com/example/transom/transom/Scope", "jumping", "()Z"⟩ : MethodName)) hown (mvT hZ (ww hw 45 rfl)) (mvT hZ (ww hw 46 rfl)) (notFace_of_selects (args := #[]) (mvT hZ (ww hw 48 rfl))) (mvT hZ (ww hw 48 rfl)) (mvT hZ (ww hw 47 rfl)) (by decide) (backOf (W := 0) (rmJn l Z a0 hw [] b6 b4 T12.heap n0 (Nat.le_trans (Nat.le_trans (Nat.le_trans (Nat.le_trans (Nat.le_trans (Nat.le_trans Z0 E4.1) Kc5.1) E6.1) Kc7.1) Kc9.1) Kc12.1) ((Ft7.keep Kc9 (ninS (Ne.symm (Nat.ne_of_lt (Nat.lt_of_lt_of_le (E_b4.keep Kc5).lt (Nat.le_of_eq g6.symm)))) nin0)).keep Kc12 (ninS (Ne.symm (Nat.ne_of_lt (Nat.lt_of_lt_of_le (E_b4.keep Kc5).lt (Nat.le_of_eq g6.symm)))) nin0)) Fj12) hZ (ww hw 49 rfl) (ww hw 2 rfl) (by decide) (by decide)) q14a q14c (g := (mkF m 168 #[.val (.int p1), .val (.int p2), .val (.int p3), .val (.ref b4), .val (.ref b6), .val (.ref b6), .val (.ref b6), .val (.int (p1 &&& (3 : Int32))), .val (.ref uB), .val (.int (1 : Int32)), .val (.ref uB), .unset, .unset] [(.ref b6)])) rfl (by rw [hml]; rfl) (Steps.refl _) (argsL := []) (rest := []) (lenOf pd_0_4 rfl) rfl (by show 2 * 0 + _ ≤ _; exact Nat.le_of_eq rfl) (hb hby at_168) (fun _ _ => ⟨rfl, eh13, (by decide : 4 + 0 ≤ _), (by decide : 32 + 0 ≤ _)⟩)
  dsimp only [Pt.U, Pt.locs, Pt.cells, Pt.slots] at X14 l14 y14 z14 st14 hQ14
  subst l14 y14 z14
  obtain ⟨rfl, N14q, eh14⟩ := hQ14
  have N14 := Fr.app N13 N14q
  obtain ⟨cq15, kq15, q15a, q15b, q15c⟩ := isOf hZ eh14 (((E_b6.keep Kc7).keep Kc9).keep Kc12)
  obtain ⟨_, _, ⟨T15, L15, k15, n15⟩, -, X15, ⟨Lc15, hQ15, l15, y15, z15⟩, st15⟩ := X14.virtualBack hx (y := (⟨"com/example/transom/transom/Scope", "land", "()Lcom/example/transom/transom/Scope$Jump;"⟩ : MethodName)) (z := (⟨"com/example/transom/transom/Scope", "land", "()Lcom/example/transom/transom/Scope$Jump;"⟩ : MethodName)) hown (mvT hZ (ww hw 52 rfl)) (mvT hZ (ww hw 53 rfl)) (notFace_of_selects (args := #[]) (mvT hZ (ww hw 55 rfl))) (mvT hZ (ww hw 55 rfl)) (mvT hZ (ww hw 54 rfl)) (by decide) (backOf (W := 0) (rmLn l Z a0 hw [] b6 b4 T12.heap n0 (Nat.le_trans (Nat.le_trans (Nat.le_trans (Nat.le_trans (Nat.le_trans (Nat.le_trans Z0 E4.1) Kc5.1) E6.1) Kc7.1) Kc9.1) Kc12.1) Ft12 ((Ft7.keep Kc9 (ninS (Ne.symm (Nat.ne_of_lt (Nat.lt_of_lt_of_le (E_b4.keep Kc5).lt (Nat.le_of_eq g6.symm)))) nin0)).keep Kc12 (ninS (Ne.symm (Nat.ne_of_lt (Nat.lt_of_lt_of_le (E_b4.keep Kc5).lt (Nat.le_of_eq g6.symm)))) nin0)) Fj12 (((((E_b4.keep Kc5).ext E6).keep Kc7).keep Kc9).keep Kc12) g_b4) hZ (ww hw 56 rfl) (ww hw 2 rfl) (by decide) (by decide)) q15a q15c (g := (mkF m 183 #[.val (.int p1), .val (.int p2), .val (.int p3), .val (.ref b4), .val (.ref b6), .val (.ref b6), .val (.ref b6), .val (.int (p1 &&& (3 : Int32))), .val (.ref uB), .val (.int (1 : Int32)), .val (.ref uB), .val (.int (1 : Int32)), .unset] [(.ref b6)])) rfl (by rw [hml]; rfl) (Steps.refl _) (argsL := []) (rest := []) (lenOf pd_0_5 rfl) rfl (by show 2 * 0 + _ ≤ _; exact Nat.le_of_eq rfl) (hb hby at_183) (fun _ _ => ⟨rfl, eh14, (by decide : 4 + 0 ≤ _), (by decide : 32 + 0 ≤ _)⟩)
  dsimp only [Pt.U, Pt.locs, Pt.cells, Pt.slots] at X15 l15 y15 z15 st15 hQ15
  subst l15 y15 z15
  obtain ⟨rfl, N15q, Kc15, Fj15, Ft15⟩ := hQ15
  have N15 := Fr.app N14 N15q
  have S_BREAK_15 := own_stak S_BREAK_12 Kc15 (allS (own_nst (((((E_b4.keep Kc5).ext E6).keep Kc7).keep Kc9).keep Kc12)) all0)
  have S_CONTINUE_15 := own_stak S_CONTINUE_12 Kc15 (allS (own_nst (((((E_b4.keep Kc5).ext E6).keep Kc7).keep Kc9).keep Kc12)) all0)
  have K15 : Keep h0 T15.heap [] := K12.trans Kc15 (allS (Or.inr sz_b4) all0)
  obtain ⟨fs, hr, hrun, hended, hW, hsame⟩ := X15.leave (v := some (.int (1 : Int32))) (fun h => by rw [Bd.returns] at h; cases h)
  refine ⟨_, _, pre0 _ ?_, hrun, hended, _, _, rfl, ?_, ⟨_, rfl⟩, hW, hsame.mono (by decide) (by decide)⟩
  · show Steps _ _ _ (s₁.setTop (mkF m 0 #[.val (.int p1), .val (.int p2), .val (.int p3), .unset, .unset, .unset, .unset, .unset, .unset, .unset, .unset, .unset, .unset] [])) _
    refine st4 _ ?_
    show Steps _ _ _ (T4.setTop (mkF m 3 #[.val (.int p1), .val (.int p2), .val (.int p3), .unset, .unset, .unset, .unset, .unset, .unset, .unset, .unset, .unset, .unset] [(.ref b4)])) _
    refine XS.dup X4.here hx rfl (hb hby at_3) rfl rfl ?_
    show Steps _ _ _ (T4.setTop (mkF m 4 #[.val (.int p1), .val (.int p2), .val (.int p3), .unset, .unset, .unset, .unset, .unset, .unset, .unset, .unset, .unset, .unset] [(.ref b4), (.ref b4)])) _
    refine XS.aconstNull X4.here hx rfl (hb hby at_4) ?_
    show Steps _ _ _ (T4.setTop (mkF m 5 #[.val (.int p1), .val (.int p2), .val (.int p3), .unset, .unset, .unset, .unset, .unset, .unset, .unset, .unset, .unset, .unset] [.null, (.ref b4), (.ref b4)])) _
    refine XS.aconstNull X4.here hx rfl (hb hby at_5) ?_
    show Steps _ _ _ (T4.setTop (mkF m 6 #[.val (.int p1), .val (.int p2), .val (.int p3), .unset, .unset, .unset, .unset, .unset, .unset, .unset, .unset, .unset, .unset] [.null, .null, (.ref b4), (.ref b4)])) _
    refine st5.trans ?_
    show Steps _ _ _ (T5.setTop (mkF m 9 #[.val (.int p1), .val (.int p2), .val (.int p3), .unset, .unset, .unset, .unset, .unset, .unset, .unset, .unset, .unset, .unset] [(.ref b4)])) _
    refine XS.astoreN X5.here hx rfl (hb hby at_9) rfl rfl (l' := #[.val (.int p1), .val (.int p2), .val (.int p3), .val (.ref b4), .unset, .unset, .unset, .unset, .unset, .unset, .unset, .unset, .unset]) rfl ?_
    show Steps _ _ _ (T5.setTop (mkF m 10 #[.val (.int p1), .val (.int p2), .val (.int p3), .val (.ref b4), .unset, .unset, .unset, .unset, .unset, .unset, .unset, .unset, .unset] [])) _
    refine st6 _ ?_
    show Steps _ _ _ (T6.setTop (mkF m 13 #[.val (.int p1), .val (.int p2), .val (.int p3), .val (.ref b4), .unset, .unset, .unset, .unset, .unset, .unset, .unset, .unset, .unset] [(.ref b6)])) _
    refine XS.dup X6.here hx rfl (hb hby at_13) rfl rfl ?_
    show Steps _ _ _ (T6.setTop (mkF m 14 #[.val (.int p1), .val (.int p2), .val (.int p3), .val (.ref b4), .unset, .unset, .unset, .unset, .unset, .unset, .unset, .unset, .unset] [(.ref b6), (.ref b6)])) _
    refine XS.aloadN X6.here hx rfl (hb hby at_14) rfl rfl ?_
    show Steps _ _ _ (T6.setTop (mkF m 15 #[.val (.int p1), .val (.int p2), .val (.int p3), .val (.ref b4), .unset, .unset, .unset, .unset, .unset, .unset, .unset, .unset, .unset] [(.ref b4), (.ref b6), (.ref b6)])) _
    refine st7.trans ?_
    show Steps _ _ _ (T7.setTop (mkF m 18 #[.val (.int p1), .val (.int p2), .val (.int p3), .val (.ref b4), .unset, .unset, .unset, .unset, .unset, .unset, .unset, .unset, .unset] [(.ref b6)])) _
    refine XS.astore X7.here hx rfl (hb hby at_18) rfl rfl (l' := #[.val (.int p1), .val (.int p2), .val (.int p3), .val (.ref b4), .val (.ref b6), .unset, .unset, .unset, .unset, .unset, .unset, .unset, .unset]) rfl ?_
    show Steps _ _ _ (T7.setTop (mkF m 20 #[.val (.int p1), .val (.int p2), .val (.int p3), .val (.ref b4), .val (.ref b6), .unset, .unset, .unset, .unset, .unset, .unset, .unset, .unset] [])) _
    refine XS.iloadN X7.here hx rfl (hb hby at_20) rfl ?_
    show Steps _ _ _ (T7.setTop (mkF m 21 #[.val (.int p1), .val (.int p2), .val (.int p3), .val (.ref b4), .val (.ref b6), .unset, .unset, .unset, .unset, .unset, .unset, .unset, .unset] [(.int p2)])) _
    refine XS.iconst X7.here hx rfl (hb hby at_21) ?_
    show Steps _ _ _ (T7.setTop (mkF m 22 #[.val (.int p1), .val (.int p2), .val (.int p3), .val (.ref b4), .val (.ref b6), .unset, .unset, .unset, .unset, .unset, .unset, .unset, .unset] [(.int (1 : Int32)), (.int p2)])) _
    refine XS.iand X7.here hx rfl (hb hby at_22) rfl ?_
    show Steps _ _ _ (T7.setTop (mkF m 23 #[.val (.int p1), .val (.int p2), .val (.int p3), .val (.ref b4), .val (.ref b6), .unset, .unset, .unset, .unset, .unset, .unset, .unset, .unset] [(.int (p2 &&& (1 : Int32)))])) _
    refine XS.ifNo X7.here hx rfl (hb hby at_23) rfl ((if0 _ _).trans (feq hc23).1) ?_
    show Steps _ _ _ (T7.setTop (mkF m 26 #[.val (.int p1), .val (.int p2), .val (.int p3), .val (.ref b4), .val (.ref b6), .unset, .unset, .unset, .unset, .unset, .unset, .unset, .unset] [])) _
    refine XS.aload X7.here hx rfl (hb hby at_26) rfl rfl ?_
    show Steps _ _ _ (T7.setTop (mkF m 28 #[.val (.int p1), .val (.int p2), .val (.int p3), .val (.ref b4), .val (.ref b6), .unset, .unset, .unset, .unset, .unset, .unset, .unset, .unset] [(.ref b6)])) _
    refine XS.goto X7.here hx rfl (pc0 := 28) (pc' := 32) rfl (hb hby at_28) (by decide) (by decide) ?_
    show Steps _ _ _ (T7.setTop (mkF m 32 #[.val (.int p1), .val (.int p2), .val (.int p3), .val (.ref b4), .val (.ref b6), .unset, .unset, .unset, .unset, .unset, .unset, .unset, .unset] [(.ref b6)])) _
    refine XS.astore X7.here hx rfl (hb hby at_32) rfl rfl (l' := #[.val (.int p1), .val (.int p2), .val (.int p3), .val (.ref b4), .val (.ref b6), .val (.ref b6), .unset, .unset, .unset, .unset, .unset, .unset, .unset]) rfl ?_
    show Steps _ _ _ (T7.setTop (mkF m 34 #[.val (.int p1), .val (.int p2), .val (.int p3), .val (.ref b4), .val (.ref b6), .val (.ref b6), .unset, .unset, .unset, .unset, .unset, .unset, .unset] [])) _
    refine XS.iloadN X7.here hx rfl (hb hby at_34) rfl ?_
    show Steps _ _ _ (T7.setTop (mkF m 35 #[.val (.int p1), .val (.int p2), .val (.int p3), .val (.ref b4), .val (.ref b6), .val (.ref b6), .unset, .unset, .unset, .unset, .unset, .unset, .unset] [(.int p3)])) _
    refine XS.iconst X7.here hx rfl (hb hby at_35) ?_
    show Steps _ _ _ (T7.setTop (mkF m 36 #[.val (.int p1), .val (.int p2), .val (.int p3), .val (.ref b4), .val (.ref b6), .val (.ref b6), .unset, .unset, .unset, .unset, .unset, .unset, .unset] [(.int (1 : Int32)), (.int p3)])) _
    refine XS.iand X7.here hx rfl (hb hby at_36) rfl ?_
    show Steps _ _ _ (T7.setTop (mkF m 37 #[.val (.int p1), .val (.int p2), .val (.int p3), .val (.ref b4), .val (.ref b6), .val (.ref b6), .unset, .unset, .unset, .unset, .unset, .unset, .unset] [(.int (p3 &&& (1 : Int32)))])) _
    refine XS.ifNo X7.here hx rfl (hb hby at_37) rfl ((if0 _ _).trans (feq hc37).1) ?_
    show Steps _ _ _ (T7.setTop (mkF m 40 #[.val (.int p1), .val (.int p2), .val (.int p3), .val (.ref b4), .val (.ref b6), .val (.ref b6), .unset, .unset, .unset, .unset, .unset, .unset, .unset] [])) _
    refine XS.aload X7.here hx rfl (hb hby at_40) rfl rfl ?_
    show Steps _ _ _ (T7.setTop (mkF m 42 #[.val (.int p1), .val (.int p2), .val (.int p3), .val (.ref b4), .val (.ref b6), .val (.ref b6), .unset, .unset, .unset, .unset, .unset, .unset, .unset] [(.ref b6)])) _
    refine XS.goto X7.here hx rfl (pc0 := 42) (pc' := 46) rfl (hb hby at_42) (by decide) (by decide) ?_
    show Steps _ _ _ (T7.setTop (mkF m 46 #[.val (.int p1), .val (.int p2), .val (.int p3), .val (.ref b4), .val (.ref b6), .val (.ref b6), .unset, .unset, .unset, .unset, .unset, .unset, .unset] [(.ref b6)])) _
    refine XS.astore X7.here hx rfl (hb hby at_46) rfl rfl (l' := #[.val (.int p1), .val (.int p2), .val (.int p3), .val (.ref b4), .val (.ref b6), .val (.ref b6), .val (.ref b6), .unset, .unset, .unset, .unset, .unset, .unset]) rfl ?_
    show Steps _ _ _ (T7.setTop (mkF m 48 #[.val (.int p1), .val (.int p2), .val (.int p3), .val (.ref b4), .val (.ref b6), .val (.ref b6), .val (.ref b6), .unset, .unset, .unset, .unset, .unset, .unset] [])) _
    refine XS.iloadN X7.here hx rfl (hb hby at_48) rfl ?_
    show Steps _ _ _ (T7.setTop (mkF m 49 #[.val (.int p1), .val (.int p2), .val (.int p3), .val (.ref b4), .val (.ref b6), .val (.ref b6), .val (.ref b6), .unset, .unset, .unset, .unset, .unset, .unset] [(.int p1)])) _
    refine XS.iconst X7.here hx rfl (hb hby at_49) ?_
    show Steps _ _ _ (T7.setTop (mkF m 50 #[.val (.int p1), .val (.int p2), .val (.int p3), .val (.ref b4), .val (.ref b6), .val (.ref b6), .val (.ref b6), .unset, .unset, .unset, .unset, .unset, .unset] [(.int (3 : Int32)), (.int p1)])) _
    refine XS.iand X7.here hx rfl (hb hby at_50) rfl ?_
    show Steps _ _ _ (T7.setTop (mkF m 51 #[.val (.int p1), .val (.int p2), .val (.int p3), .val (.ref b4), .val (.ref b6), .val (.ref b6), .val (.ref b6), .unset, .unset, .unset, .unset, .unset, .unset] [(.int (p1 &&& (3 : Int32)))])) _
    refine XS.istore X7.here hx rfl (hb hby at_51) rfl (l' := #[.val (.int p1), .val (.int p2), .val (.int p3), .val (.ref b4), .val (.ref b6), .val (.ref b6), .val (.ref b6), .val (.int (p1 &&& (3 : Int32))), .unset, .unset, .unset, .unset, .unset]) rfl ?_
    show Steps _ _ _ (T7.setTop (mkF m 53 #[.val (.int p1), .val (.int p2), .val (.int p3), .val (.ref b4), .val (.ref b6), .val (.ref b6), .val (.ref b6), .val (.int (p1 &&& (3 : Int32))), .unset, .unset, .unset, .unset, .unset] [])) _
    refine XS.aconstNull X7.here hx rfl (hb hby at_53) ?_
    show Steps _ _ _ (T7.setTop (mkF m 54 #[.val (.int p1), .val (.int p2), .val (.int p3), .val (.ref b4), .val (.ref b6), .val (.ref b6), .val (.ref b6), .val (.int (p1 &&& (3 : Int32))), .unset, .unset, .unset, .unset, .unset] [.null])) _
    refine XS.astore X7.here hx rfl (hb hby at_54) rfl rfl (l' := #[.val (.int p1), .val (.int p2), .val (.int p3), .val (.ref b4), .val (.ref b6), .val (.ref b6), .val (.ref b6), .val (.int (p1 &&& (3 : Int32))), .val .null, .unset, .unset, .unset, .unset]) rfl ?_
    show Steps _ _ _ (T7.setTop (mkF m 56 #[.val (.int p1), .val (.int p2), .val (.int p3), .val (.ref b4), .val (.ref b6), .val (.ref b6), .val (.ref b6), .val (.int (p1 &&& (3 : Int32))), .val .null, .unset, .unset, .unset, .unset] [])) _
    refine XS.iload X7.here hx rfl (hb hby at_56) rfl ?_
    show Steps _ _ _ (T7.setTop (mkF m 58 #[.val (.int p1), .val (.int p2), .val (.int p3), .val (.ref b4), .val (.ref b6), .val (.ref b6), .val (.ref b6), .val (.int (p1 &&& (3 : Int32))), .val .null, .unset, .unset, .unset, .unset] [(.int (p1 &&& (3 : Int32)))])) _
    refine XS.iconst X7.here hx rfl (hb hby at_58) ?_
    show Steps _ _ _ (T7.setTop (mkF m 59 #[.val (.int p1), .val (.int p2), .val (.int p3), .val (.ref b4), .val (.ref b6), .val (.ref b6), .val (.ref b6), .val (.int (p1 &&& (3 : Int32))), .val .null, .unset, .unset, .unset, .unset] [(.int (1 : Int32)), (.int (p1 &&& (3 : Int32)))])) _
    refine XS.icmpNo X7.here hx rfl (hb hby at_59) rfl (teq hc59).2 ?_
    show Steps _ _ _ (T7.setTop (mkF m 62 #[.val (.int p1), .val (.int p2), .val (.int p3), .val (.ref b4), .val (.ref b6), .val (.ref b6), .val (.ref b6), .val (.int (p1 &&& (3 : Int32))), .val .null, .unset, .unset, .unset, .unset] [])) _
    refine XS.aload X7.here hx rfl (hb hby at_62) rfl rfl ?_
    show Steps _ _ _ (T7.setTop (mkF m 64 #[.val (.int p1), .val (.int p2), .val (.int p3), .val (.ref b4), .val (.ref b6), .val (.ref b6), .val (.ref b6), .val (.int (p1 &&& (3 : Int32))), .val .null, .unset, .unset, .unset, .unset] [(.ref b6)])) _
    refine st8 _ ?_
    show Steps _ _ _ (T8.setTop (mkF m 67 #[.val (.int p1), .val (.int p2), .val (.int p3), .val (.ref b4), .val (.ref b6), .val (.ref b6), .val (.ref b6), .val (.int (p1 &&& (3 : Int32))), .val .null, .unset, .unset, .unset, .unset] [(.ref uB), (.ref b6)])) _
    refine st9.trans ?_
    show Steps _ _ _ (T9.setTop (mkF m 70 #[.val (.int p1), .val (.int p2), .val (.int p3), .val (.ref b4), .val (.ref b6), .val (.ref b6), .val (.ref b6), .val (.int (p1 &&& (3 : Int32))), .val .null, .unset, .unset, .unset, .unset] [])) _
    refine st10 _ ?_
    show Steps _ _ _ (T10.setTop (mkF m 73 #[.val (.int p1), .val (.int p2), .val (.int p3), .val (.ref b4), .val (.ref b6), .val (.ref b6), .val (.ref b6), .val (.int (p1 &&& (3 : Int32))), .val .null, .unset, .unset, .unset, .unset] [(.ref uB)])) _
    refine XS.astore X10.here hx rfl (hb hby at_73) rfl rfl (l' := #[.val (.int p1), .val (.int p2), .val (.int p3), .val (.ref b4), .val (.ref b6), .val (.ref b6), .val (.ref b6), .val (.int (p1 &&& (3 : Int32))), .val (.ref uB), .unset, .unset, .unset, .unset]) rfl ?_
    show Steps _ _ _ (T10.setTop (mkF m 75 #[.val (.int p1), .val (.int p2), .val (.int p3), .val (.ref b4), .val (.ref b6), .val (.ref b6), .val (.ref b6), .val (.int (p1 &&& (3 : Int32))), .val (.ref uB), .unset, .unset, .unset, .unset] [])) _
    refine XS.goto X10.here hx rfl (pc0 := 75) (pc' := 127) rfl (hb hby at_75) (by decide) (by decide) ?_
    show Steps _ _ _ (T10.setTop (mkF m 127 #[.val (.int p1), .val (.int p2), .val (.int p3), .val (.ref b4), .val (.ref b6), .val (.ref b6), .val (.ref b6), .val (.int (p1 &&& (3 : Int32))), .val (.ref uB), .unset, .unset, .unset, .unset] [])) _
    refine XS.aload X10.here hx rfl (hb hby at_127) rfl rfl ?_
    show Steps _ _ _ (T10.setTop (mkF m 129 #[.val (.int p1), .val (.int p2), .val (.int p3), .val (.ref b4), .val (.ref b6), .val (.ref b6), .val (.ref b6), .val (.int (p1 &&& (3 : Int32))), .val (.ref uB), .unset, .unset, .unset, .unset] [(.ref b6)])) _
    refine st11.trans ?_
    show Steps _ _ _ (T11.setTop (mkF m 132 #[.val (.int p1), .val (.int p2), .val (.int p3), .val (.ref b4), .val (.ref b6), .val (.ref b6), .val (.ref b6), .val (.int (p1 &&& (3 : Int32))), .val (.ref uB), .unset, .unset, .unset, .unset] [(.int (1 : Int32))])) _
    refine XS.aload X11.here hx rfl (hb hby at_132) rfl rfl ?_
    show Steps _ _ _ (T11.setTop (mkF m 134 #[.val (.int p1), .val (.int p2), .val (.int p3), .val (.ref b4), .val (.ref b6), .val (.ref b6), .val (.ref b6), .val (.int (p1 &&& (3 : Int32))), .val (.ref uB), .unset, .unset, .unset, .unset] [(.ref uB), (.int (1 : Int32))])) _
    refine XS.ifnullNo X11.here hx rfl (hb hby at_134) rfl ?_
    show Steps _ _ _ (T11.setTop (mkF m 137 #[.val (.int p1), .val (.int p2), .val (.int p3), .val (.ref b4), .val (.ref b6), .val (.ref b6), .val (.ref b6), .val (.int (p1 &&& (3 : Int32))), .val (.ref uB), .unset, .unset, .unset, .unset] [(.int (1 : Int32))])) _
    refine XS.iconst X11.here hx rfl (hb hby at_137) ?_
    show Steps _ _ _ (T11.setTop (mkF m 138 #[.val (.int p1), .val (.int p2), .val (.int p3), .val (.ref b4), .val (.ref b6), .val (.ref b6), .val (.ref b6), .val (.int (p1 &&& (3 : Int32))), .val (.ref uB), .unset, .unset, .unset, .unset] [(.int (1 : Int32)), (.int (1 : Int32))])) _
    refine XS.goto X11.here hx rfl (pc0 := 138) (pc' := 142) rfl (hb hby at_138) (by decide) (by decide) ?_
    show Steps _ _ _ (T11.setTop (mkF m 142 #[.val (.int p1), .val (.int p2), .val (.int p3), .val (.ref b4), .val (.ref b6), .val (.ref b6), .val (.ref b6), .val (.int (p1 &&& (3 : Int32))), .val (.ref uB), .unset, .unset, .unset, .unset] [(.int (1 : Int32)), (.int (1 : Int32))])) _
    refine XS.icmpNo X11.here hx rfl (hb hby at_142) rfl (teq (rfl : (1 : Int32) = (1 : Int32))).2 ?_
    show Steps _ _ _ (T11.setTop (mkF m 145 #[.val (.int p1), .val (.int p2), .val (.int p3), .val (.ref b4), .val (.ref b6), .val (.ref b6), .val (.ref b6), .val (.int (p1 &&& (3 : Int32))), .val (.ref uB), .unset, .unset, .unset, .unset] [])) _
    refine XS.iconst X11.here hx rfl (hb hby at_145) ?_
    show Steps _ _ _ (T11.setTop (mkF m 146 #[.val (.int p1), .val (.int p2), .val (.int p3), .val (.ref b4), .val (.ref b6), .val (.ref b6), .val (.ref b6), .val (.int (p1 &&& (3 : Int32))), .val (.ref uB), .unset, .unset, .unset, .unset] [(.int (1 : Int32))])) _
    refine XS.goto X11.here hx rfl (pc0 := 146) (pc' := 150) rfl (hb hby at_146) (by decide) (by decide) ?_
    show Steps _ _ _ (T11.setTop (mkF m 150 #[.val (.int p1), .val (.int p2), .val (.int p3), .val (.ref b4), .val (.ref b6), .val (.ref b6), .val (.ref b6), .val (.int (p1 &&& (3 : Int32))), .val (.ref uB), .unset, .unset, .unset, .unset] [(.int (1 : Int32))])) _
    refine XS.istore X11.here hx rfl (hb hby at_150) rfl (l' := #[.val (.int p1), .val (.int p2), .val (.int p3), .val (.ref b4), .val (.ref b6), .val (.ref b6), .val (.ref b6), .val (.int (p1 &&& (3 : Int32))), .val (.ref uB), .val (.int (1 : Int32)), .unset, .unset, .unset]) rfl ?_
    show Steps _ _ _ (T11.setTop (mkF m 152 #[.val (.int p1), .val (.int p2), .val (.int p3), .val (.ref b4), .val (.ref b6), .val (.ref b6), .val (.ref b6), .val (.int (p1 &&& (3 : Int32))), .val (.ref uB), .val (.int (1 : Int32)), .unset, .unset, .unset] [])) _
    refine XS.aload X11.here hx rfl (hb hby at_152) rfl rfl ?_
    show Steps _ _ _ (T11.setTop (mkF m 154 #[.val (.int p1), .val (.int p2), .val (.int p3), .val (.ref b4), .val (.ref b6), .val (.ref b6), .val (.ref b6), .val (.int (p1 &&& (3 : Int32))), .val (.ref uB), .val (.int (1 : Int32)), .unset, .unset, .unset] [(.ref b6)])) _
    refine st12.trans ?_
    show Steps _ _ _ (T12.setTop (mkF m 157 #[.val (.int p1), .val (.int p2), .val (.int p3), .val (.ref b4), .val (.ref b6), .val (.ref b6), .val (.ref b6), .val (.int (p1 &&& (3 : Int32))), .val (.ref uB), .val (.int (1 : Int32)), .unset, .unset, .unset] [(.ref uB)])) _
    refine XS.astore X12.here hx rfl (hb hby at_157) rfl rfl (l' := #[.val (.int p1), .val (.int p2), .val (.int p3), .val (.ref b4), .val (.ref b6), .val (.ref b6), .val (.ref b6), .val (.int (p1 &&& (3 : Int32))), .val (.ref uB), .val (.int (1 : Int32)), .val (.ref uB), .unset, .unset]) rfl ?_
    show Steps _ _ _ (T12.setTop (mkF m 159 #[.val (.int p1), .val (.int p2), .val (.int p3), .val (.ref b4), .val (.ref b6), .val (.ref b6), .val (.ref b6), .val (.int (p1 &&& (3 : Int32))), .val (.ref uB), .val (.int (1 : Int32)), .val (.ref uB), .unset, .unset] [])) _
    refine XS.aloadN X12.here hx rfl (hb hby at_159) rfl rfl ?_
    show Steps _ _ _ (T12.setTop (mkF m 160 #[.val (.int p1), .val (.int p2), .val (.int p3), .val (.ref b4), .val (.ref b6), .val (.ref b6), .val (.ref b6), .val (.int (p1 &&& (3 : Int32))), .val (.ref uB), .val (.int (1 : Int32)), .val (.ref uB), .unset, .unset] [(.ref b4)])) _
    refine st13.trans ?_
    show Steps _ _ _ (T13.setTop (mkF m 163 #[.val (.int p1), .val (.int p2), .val (.int p3), .val (.ref b4), .val (.ref b6), .val (.ref b6), .val (.ref b6), .val (.int (p1 &&& (3 : Int32))), .val (.ref uB), .val (.int (1 : Int32)), .val (.ref uB), .unset, .unset] [(.int (0 : Int32))])) _
    refine XS.ifNo X13.here hx rfl (hb hby at_163) rfl ((if0 _ _).trans (teq (rfl : (0 : Int32) = (0 : Int32))).2) ?_
    show Steps _ _ _ (T13.setTop (mkF m 166 #[.val (.int p1), .val (.int p2), .val (.int p3), .val (.ref b4), .val (.ref b6), .val (.ref b6), .val (.ref b6), .val (.int (p1 &&& (3 : Int32))), .val (.ref uB), .val (.int (1 : Int32)), .val (.ref uB), .unset, .unset] [])) _
    refine XS.aload X13.here hx rfl (hb hby at_166) rfl rfl ?_
    show Steps _ _ _ (T13.setTop (mkF m 168 #[.val (.int p1), .val (.int p2), .val (.int p3), .val (.ref b4), .val (.ref b6), .val (.ref b6), .val (.ref b6), .val (.int (p1 &&& (3 : Int32))), .val (.ref uB), .val (.int (1 : Int32)), .val (.ref uB), .unset, .unset] [(.ref b6)])) _
    refine st14.trans ?_
    show Steps _ _ _ (T14.setTop (mkF m 171 #[.val (.int p1), .val (.int p2), .val (.int p3), .val (.ref b4), .val (.ref b6), .val (.ref b6), .val (.ref b6), .val (.int (p1 &&& (3 : Int32))), .val (.ref uB), .val (.int (1 : Int32)), .val (.ref uB), .unset, .unset] [(.int (0 : Int32))])) _
    refine XS.ifNo X14.here hx rfl (hb hby at_171) rfl ((if0 _ _).trans (teq (rfl : (0 : Int32) = (0 : Int32))).2) ?_
    show Steps _ _ _ (T14.setTop (mkF m 174 #[.val (.int p1), .val (.int p2), .val (.int p3), .val (.ref b4), .val (.ref b6), .val (.ref b6), .val (.ref b6), .val (.int (p1 &&& (3 : Int32))), .val (.ref uB), .val (.int (1 : Int32)), .val (.ref uB), .unset, .unset] [])) _
    refine XS.iconst X14.here hx rfl (hb hby at_174) ?_
    show Steps _ _ _ (T14.setTop (mkF m 175 #[.val (.int p1), .val (.int p2), .val (.int p3), .val (.ref b4), .val (.ref b6), .val (.ref b6), .val (.ref b6), .val (.int (p1 &&& (3 : Int32))), .val (.ref uB), .val (.int (1 : Int32)), .val (.ref uB), .unset, .unset] [(.int (1 : Int32))])) _
    refine XS.goto X14.here hx rfl (pc0 := 175) (pc' := 179) rfl (hb hby at_175) (by decide) (by decide) ?_
    show Steps _ _ _ (T14.setTop (mkF m 179 #[.val (.int p1), .val (.int p2), .val (.int p3), .val (.ref b4), .val (.ref b6), .val (.ref b6), .val (.ref b6), .val (.int (p1 &&& (3 : Int32))), .val (.ref uB), .val (.int (1 : Int32)), .val (.ref uB), .unset, .unset] [(.int (1 : Int32))])) _
    refine XS.istore X14.here hx rfl (hb hby at_179) rfl (l' := #[.val (.int p1), .val (.int p2), .val (.int p3), .val (.ref b4), .val (.ref b6), .val (.ref b6), .val (.ref b6), .val (.int (p1 &&& (3 : Int32))), .val (.ref uB), .val (.int (1 : Int32)), .val (.ref uB), .val (.int (1 : Int32)), .unset]) rfl ?_
    show Steps _ _ _ (T14.setTop (mkF m 181 #[.val (.int p1), .val (.int p2), .val (.int p3), .val (.ref b4), .val (.ref b6), .val (.ref b6), .val (.ref b6), .val (.int (p1 &&& (3 : Int32))), .val (.ref uB), .val (.int (1 : Int32)), .val (.ref uB), .val (.int (1 : Int32)), .unset] [])) _
    refine XS.aload X14.here hx rfl (hb hby at_181) rfl rfl ?_
    show Steps _ _ _ (T14.setTop (mkF m 183 #[.val (.int p1), .val (.int p2), .val (.int p3), .val (.ref b4), .val (.ref b6), .val (.ref b6), .val (.ref b6), .val (.int (p1 &&& (3 : Int32))), .val (.ref uB), .val (.int (1 : Int32)), .val (.ref uB), .val (.int (1 : Int32)), .unset] [(.ref b6)])) _
    refine st15.trans ?_
    show Steps _ _ _ (T15.setTop (mkF m 186 #[.val (.int p1), .val (.int p2), .val (.int p3), .val (.ref b4), .val (.ref b6), .val (.ref b6), .val (.ref b6), .val (.int (p1 &&& (3 : Int32))), .val (.ref uB), .val (.int (1 : Int32)), .val (.ref uB), .val (.int (1 : Int32)), .unset] [.null])) _
    refine XS.astore X15.here hx rfl (hb hby at_186) rfl rfl (l' := #[.val (.int p1), .val (.int p2), .val (.int p3), .val (.ref b4), .val (.ref b6), .val (.ref b6), .val (.ref b6), .val (.int (p1 &&& (3 : Int32))), .val (.ref uB), .val (.int (1 : Int32)), .val (.ref uB), .val (.int (1 : Int32)), .val .null]) rfl ?_
    show Steps _ _ _ (T15.setTop (mkF m 188 #[.val (.int p1), .val (.int p2), .val (.int p3), .val (.ref b4), .val (.ref b6), .val (.ref b6), .val (.ref b6), .val (.int (p1 &&& (3 : Int32))), .val (.ref uB), .val (.int (1 : Int32)), .val (.ref uB), .val (.int (1 : Int32)), .val .null] [])) _
    refine XS.iload X15.here hx rfl (hb hby at_188) rfl ?_
    show Steps _ _ _ (T15.setTop (mkF m 190 #[.val (.int p1), .val (.int p2), .val (.int p3), .val (.ref b4), .val (.ref b6), .val (.ref b6), .val (.ref b6), .val (.int (p1 &&& (3 : Int32))), .val (.ref uB), .val (.int (1 : Int32)), .val (.ref uB), .val (.int (1 : Int32)), .val .null] [(.int (1 : Int32))])) _
    refine XS.ifNo X15.here hx rfl (hb hby at_190) rfl ((if0 _ _).trans (feq hc190).1) ?_
    show Steps _ _ _ (T15.setTop (mkF m 193 #[.val (.int p1), .val (.int p2), .val (.int p3), .val (.ref b4), .val (.ref b6), .val (.ref b6), .val (.ref b6), .val (.int (p1 &&& (3 : Int32))), .val (.ref uB), .val (.int (1 : Int32)), .val (.ref uB), .val (.int (1 : Int32)), .val .null] [])) _
    refine XS.aload X15.here hx rfl (hb hby at_193) rfl rfl ?_
    show Steps _ _ _ (T15.setTop (mkF m 195 #[.val (.int p1), .val (.int p2), .val (.int p3), .val (.ref b4), .val (.ref b6), .val (.ref b6), .val (.ref b6), .val (.int (p1 &&& (3 : Int32))), .val (.ref uB), .val (.int (1 : Int32)), .val (.ref uB), .val (.int (1 : Int32)), .val .null] [(.ref uB)])) _
    refine XS.aload X15.here hx rfl (hb hby at_195) rfl rfl ?_
    show Steps _ _ _ (T15.setTop (mkF m 197 #[.val (.int p1), .val (.int p2), .val (.int p3), .val (.ref b4), .val (.ref b6), .val (.ref b6), .val (.ref b6), .val (.int (p1 &&& (3 : Int32))), .val (.ref uB), .val (.int (1 : Int32)), .val (.ref uB), .val (.int (1 : Int32)), .val .null] [(.ref uB), (.ref uB)])) _
    refine Jvm.RoadKit.acmp (g := (mkF m 197 #[.val (.int p1), .val (.int p2), .val (.int p3), .val (.ref b4), .val (.ref b6), .val (.ref b6), .val (.ref b6), .val (.int (p1 &&& (3 : Int32))), .val (.ref uB), .val (.int (1 : Int32)), .val (.ref uB), .val (.int (1 : Int32)), .val .null] [(.ref uB), (.ref uB)])) X15 hx rfl rfl rfl (pc0 := 197) (pc' := 200) (same := true) rfl (hb hby at_197) rfl (decide_eq_true rfl) (by decide) (by decide) ?_
    show Steps _ _ _ (T15.setTop (mkF m 200 #[.val (.int p1), .val (.int p2), .val (.int p3), .val (.ref b4), .val (.ref b6), .val (.ref b6), .val (.ref b6), .val (.int (p1 &&& (3 : Int32))), .val (.ref uB), .val (.int (1 : Int32)), .val (.ref uB), .val (.int (1 : Int32)), .val .null] [])) _
    refine XS.iload X15.here hx rfl (hb hby at_200) rfl ?_
    show Steps _ _ _ (T15.setTop (mkF m 202 #[.val (.int p1), .val (.int p2), .val (.int p3), .val (.ref b4), .val (.ref b6), .val (.ref b6), .val (.ref b6), .val (.int (p1 &&& (3 : Int32))), .val (.ref uB), .val (.int (1 : Int32)), .val (.ref uB), .val (.int (1 : Int32)), .val .null] [(.int (1 : Int32))])) _
    refine XS.ifNo X15.here hx rfl (hb hby at_202) rfl ((if0 _ _).trans (feq hc202).1) ?_
    show Steps _ _ _ (T15.setTop (mkF m 205 #[.val (.int p1), .val (.int p2), .val (.int p3), .val (.ref b4), .val (.ref b6), .val (.ref b6), .val (.ref b6), .val (.int (p1 &&& (3 : Int32))), .val (.ref uB), .val (.int (1 : Int32)), .val (.ref uB), .val (.int (1 : Int32)), .val .null] [])) _
    refine XS.aload X15.here hx rfl (hb hby at_205) rfl rfl ?_
    show Steps _ _ _ (T15.setTop (mkF m 207 #[.val (.int p1), .val (.int p2), .val (.int p3), .val (.ref b4), .val (.ref b6), .val (.ref b6), .val (.ref b6), .val (.int (p1 &&& (3 : Int32))), .val (.ref uB), .val (.int (1 : Int32)), .val (.ref uB), .val (.int (1 : Int32)), .val .null] [.null])) _
    refine XS.ifnonnullNo X15.here hx rfl (hb hby at_207) rfl ?_
    show Steps _ _ _ (T15.setTop (mkF m 210 #[.val (.int p1), .val (.int p2), .val (.int p3), .val (.ref b4), .val (.ref b6), .val (.ref b6), .val (.ref b6), .val (.int (p1 &&& (3 : Int32))), .val (.ref uB), .val (.int (1 : Int32)), .val (.ref uB), .val (.int (1 : Int32)), .val .null] [])) _
    refine XS.iconst X15.here hx rfl (hb hby at_210) ?_
    show Steps _ _ _ (T15.setTop (mkF m 211 #[.val (.int p1), .val (.int p2), .val (.int p3), .val (.ref b4), .val (.ref b6), .val (.ref b6), .val (.ref b6), .val (.int (p1 &&& (3 : Int32))), .val (.ref uB), .val (.int (1 : Int32)), .val (.ref uB), .val (.int (1 : Int32)), .val .null] [(.int (1 : Int32))])) _
    refine XS.goto X15.here hx rfl (pc0 := 211) (pc' := 215) rfl (hb hby at_211) (by decide) (by decide) ?_
    show Steps _ _ _ (T15.setTop (mkF m 215 #[.val (.int p1), .val (.int p2), .val (.int p3), .val (.ref b4), .val (.ref b6), .val (.ref b6), .val (.ref b6), .val (.int (p1 &&& (3 : Int32))), .val (.ref uB), .val (.int (1 : Int32)), .val (.ref uB), .val (.int (1 : Int32)), .val .null] [(.int (1 : Int32))])) _
    exact retN X15 hx (t := .boolean) Bd.returns (by simp) (hb hby at_215) hr
  · show Q0 Z p1 p2 p3 uB uC h0 n0 _ T15.heap _
    exact ⟨rfl, N15⟩
-- 2. THE CONTRACT: what this body leaves is yours
-- its room: frames: the greatest, locals: the greatest, cells 4 + .., slots 32 + ..: rm1: frames + 1; locals 1 + 3 + 11 + its room's locals; its cells and slots besides; rm5: frames + 1; locals 1 + 2 + 11 + its room's locals; its cells and slots besides; rm9: frames + 1; locals 0 + 2 + 11 + its room's locals; its cells and slots besides; rm7: frames + 1; locals 0 + 1 + 11 + its room's locals; its cells and slots besides; rm8: frames + 1; locals 0 + 2 + 11 + its room's locals; its cells and slots besides; rm7: frames + 1; locals 0 + 1 + 11 + its room's locals; its cells and slots besides; rm7: frames + 1; locals 0 + 1 + 11 + its room's locals; its cells and slots besides; rm8: frames + 1; locals 0 + 2 + 11 + its room's locals; its cells and slots besides
set_option maxRecDepth 65536 in
set_option maxHeartbeats 40000000 in
theorem rm0_ff2 (l : Launch) (Z : State) (a0 : Array Value) (hw : ∀ d ∈ tables_1, d.before a0 Z = true) (ws : List Jvm.Cond) (p1 : Int32) (p2 : Int32) (p3 : Int32) (uB : Addr) (uC : Addr) (h0 : Heap) (n0 : Nat) (Z0 : n0 ≤ h0.size) (S_BREAK : Sta Z h0 "com/example/transom/transom/Scope$Jump" "BREAK" "Lcom/example/transom/transom/Scope$Jump;" (.ref uB)) (S_CONTINUE : Sta Z h0 "com/example/transom/transom/Scope$Jump" "CONTINUE" "Lcom/example/transom/transom/Scope$Jump;" (.ref uC)) (hc23 : ¬ ((p2 &&& (1 : Int32)) = (0 : Int32))) (hc37 : ¬ ((p3 &&& (1 : Int32)) = (0 : Int32))) (hc59 : ¬ ((p1 &&& (3 : Int32)) = (1 : Int32))) (hc81 : (p1 &&& (3 : Int32)) = (2 : Int32)) (hc190 : ¬ ((1 : Int32) = (0 : Int32))) (hc202 : ¬ ((1 : Int32) = (0 : Int32))) :
    MetFree l x (head1 (Jvm.Cond.code x code maxLocals ret :: ws) room_1) (fun a U => a = #[(.int p1), (.int p2), (.int p3)] ∧ Z.Warmed39 U.vm ∧ U.heap = h0) (fun _ _ _ _ _ => True) (fun _ U o U' => ∃ v L, o = .returned v ∧ Q0 Z p1 p2 p3 uB uC h0 n0 v U'.heap L ∧ FrameEnd U o U' L room_1.cells room_1.slots) := by
  refine MetFree.of_bodySF (plainFor_of_name pn_0) hisR ?_
  intro p e s m args below meth c s₁ Bd hml0 hP hK
  obtain ⟨rfl, hZ, hh⟩ := hP
  have hx := Bd.exec
  have hby := Bd.bytes
  have hml : c.maxLocals = 13 := hml0
  have hown : s.vm.findClass "com/example/transom/transom/ScopeLandPinLaw" = some m.cls := findClass_of_methodNamed Bd.named
  have hnm := (name_of_methodNamed Bd.named Bd.method).1
  have X0 : Stand p l e room_1 s m #[(.int p1), (.int p2), (.int p3)] below meth c s₁ [] 0 0 := Stand.of_body Bd
  have e0 : s₁.heap = h0 := by rw [← hh, Bd.state]; rfl
  have N0 := Fr.nil n0
  have pre0 : ∀ t, Steps p.tables e below (s₁.setTop (mkF m 0 #[.val (.int p1), .val (.int p2), .val (.int p3), .unset, .unset, .unset, .unset, .unset, .unset, .unset, .unset, .unset, .unset] [])) t → Steps p.tables e below (s₁.setTop (entryFrame m #[(.int p1), (.int p2), (.int p3)] maxLocals)) t := fun t k => castTop (ef_0 m p1 p2 p3) k
  obtain ⟨T4, h4, X4, e4, E4, A4, D4, -, st4⟩ := newO X0 hx hZ hown (ww hw 0 rfl) (ww hw 1 rfl) (ww hw 2 rfl) e0 (g := (mkF m 0 #[.val (.int p1), .val (.int p2), .val (.int p3), .unset, .unset, .unset, .unset, .unset, .unset, .unset, .unset, .unset, .unset] [])) rfl (hb hby at_0) (by decide) (by decide)
  obtain ⟨b4, g4⟩ : ∃ z, z = h0.size := ⟨_, rfl⟩
  rw [← g4] at A4 D4 st4
  have F_values_b4 : Fld Z h4 b4 "com/example/transom/transom/Scope" "values" "Ljava/util/Map;" .null := D4 (Or.inr (ww hw 26 rfl)) (ty := (.object "java/util/Map")) (by decide)
  have F_parent_b4 : Fld Z h4 b4 "com/example/transom/transom/Scope" "parent" "Lcom/example/transom/transom/Scope;" .null := D4 (Or.inr (ww hw 28 rfl)) (ty := (.object "com/example/transom/transom/Scope")) (by decide)
  have F_top_b4 : Fld Z h4 b4 "com/example/transom/transom/Scope" "top" "Lcom/example/transom/transom/Scope;" .null := D4 (Or.inr (ww hw 30 rfl)) (ty := (.object "com/example/transom/transom/Scope")) (by decide)
  have F_model_b4 : Fld Z h4 b4 "com/example/transom/transom/Scope" "model" "Ljava/util/Map;" .null := D4 (Or.inr (ww hw 32 rfl)) (ty := (.object "java/util/Map")) (by decide)
  have F_template_b4 : Fld Z h4 b4 "com/example/transom/transom/Scope" "template" "Lcom/example/transom/transom/Template;" .null := D4 (Or.inr (ww hw 34 rfl)) (ty := (.object "com/example/transom/transom/Template")) (by decide)
  have F_renderer_b4 : Fld Z h4 b4 "com/example/transom/transom/Scope" "renderer" "Lcom/example/transom/transom/Scope;" .null := D4 (Or.inr (ww hw 36 rfl)) (ty := (.object "com/example/transom/transom/Scope")) (by decide)
  have F_calls_b4 : Fld Z h4 b4 "com/example/transom/transom/Scope" "calls" "I" (.int (0 : Int32)) := D4 (Or.inr (ww hw 38 rfl)) (ty := .int) (by decide)
  have F_jump_b4 : Fld Z h4 b4 "com/example/transom/transom/Scope" "jump" "Lcom/example/transom/transom/Scope$Jump;" .null := D4 (Or.inl (ww hw 51 rfl)) (ty := (.object "com/example/transom/transom/Scope$Jump")) (by decide)
  have E_b4 := A4
  have g_b4 : n0 ≤ b4 := Nat.le_trans Z0 (Nat.le_of_eq g4.symm)
  have sz_b4 : h0.size ≤ b4 := (Nat.le_trans (Keep.refl h0 []).1 (Nat.le_of_eq g4.symm))
  have K4 : Keep h0 h4 [] := (Keep.refl h0 []).ext E4
  obtain ⟨_, _, ⟨T5, L5, k5, n5⟩, -, X5, ⟨Lc5, hQ5, l5, y5, z5⟩, st5⟩ := X4.specialBack hx (y := (⟨"com/example/transom/transom/Scope", "<init>", "(Ljava/util/Map;Lcom/example/transom/transom/Template;)V"⟩ : MethodName)) rfl hown (mvT hZ (ww hw 3 rfl)) (mvT hZ (ww hw 4 rfl)) (mvT hZ (ww hw 5 rfl)) (by decide) (backOf (W := 1) (rm1 l Z a0 hw [] b4 _ _ _ _ _ _ _  h4 n0 (Nat.le_trans Z0 E4.1) F_jump_b4 E_b4 F_values_b4 g_b4 F_parent_b4 F_top_b4 F_model_b4 F_template_b4 F_renderer_b4 F_calls_b4) hZ (ww hw 5 rfl) (ww hw 2 rfl) (by decide) (by decide)) (g := (mkF m 6 #[.val (.int p1), .val (.int p2), .val (.int p3), .unset, .unset, .unset, .unset, .unset, .unset, .unset, .unset, .unset, .unset] [.null, .null, (.ref b4), (.ref b4)])) rfl (by rw [hml]; rfl) (Steps.refl _) (a := b4) (argsL := [.null, .null]) (rest := [(.ref b4)]) (lenOf pd_0_0 rfl) rfl (by show 2 * 0 + _ ≤ _; exact Nat.le_of_eq rfl) (hb hby at_6) (fun _ _ => ⟨rfl, e4, (by decide : 1 + 1 ≤ _), (by decide : 8 + 8 ≤ _)⟩)
  dsimp only [Pt.U, Pt.locs, Pt.cells, Pt.slots] at X5 l5 y5 z5 st5 hQ5
  subst l5 y5 z5
  obtain ⟨rfl, N5q, Kc5, Ec5, Ftop5, Fmodel5, Ftemplate5, Frenderer5, Fcalls5, Fjump5⟩ := hQ5
  have N5 := Fr.app N0 N5q
  have S_BREAK_5 := own_stak (S_BREAK.ext E4) Kc5 (allS (own_nst E_b4) all0)
  have S_CONTINUE_5 := own_stak (S_CONTINUE.ext E4) Kc5 (allS (own_nst E_b4) all0)
  have K5 : Keep h0 T5.heap [] := K4.trans Kc5 (allS (Or.inr sz_b4) all0)
  obtain ⟨T6, h6, X6, e6, E6, A6, D6, -, st6⟩ := newO X5 hx hZ hown (ww hw 0 rfl) (ww hw 1 rfl) (ww hw 2 rfl) rfl (g := (mkF m 10 #[.val (.int p1), .val (.int p2), .val (.int p3), .val (.ref b4), .unset, .unset, .unset, .unset, .unset, .unset, .unset, .unset, .unset] [])) rfl (hb hby at_10) (by decide) (by decide)
  obtain ⟨b6, g6⟩ : ∃ z, z = T5.heap.size := ⟨_, rfl⟩
  rw [← g6] at A6 D6 st6
  have F_values_b6 : Fld Z h6 b6 "com/example/transom/transom/Scope" "values" "Ljava/util/Map;" .null := D6 (Or.inr (ww hw 26 rfl)) (ty := (.object "java/util/Map")) (by decide)
  have F_parent_b6 : Fld Z h6 b6 "com/example/transom/transom/Scope" "parent" "Lcom/example/transom/transom/Scope;" .null := D6 (Or.inr (ww hw 28 rfl)) (ty := (.object "com/example/transom/transom/Scope")) (by decide)
  have F_top_b6 : Fld Z h6 b6 "com/example/transom/transom/Scope" "top" "Lcom/example/transom/transom/Scope;" .null := D6 (Or.inr (ww hw 30 rfl)) (ty := (.object "com/example/transom/transom/Scope")) (by decide)
  have F_model_b6 : Fld Z h6 b6 "com/example/transom/transom/Scope" "model" "Ljava/util/Map;" .null := D6 (Or.inr (ww hw 32 rfl)) (ty := (.object "java/util/Map")) (by decide)
  have F_template_b6 : Fld Z h6 b6 "com/example/transom/transom/Scope" "template" "Lcom/example/transom/transom/Template;" .null := D6 (Or.inr (ww hw 34 rfl)) (ty := (.object "com/example/transom/transom/Template")) (by decide)
  have F_renderer_b6 : Fld Z h6 b6 "com/example/transom/transom/Scope" "renderer" "Lcom/example/transom/transom/Scope;" .null := D6 (Or.inr (ww hw 36 rfl)) (ty := (.object "com/example/transom/transom/Scope")) (by decide)
  have F_calls_b6 : Fld Z h6 b6 "com/example/transom/transom/Scope" "calls" "I" (.int (0 : Int32)) := D6 (Or.inr (ww hw 38 rfl)) (ty := .int) (by decide)
  have F_jump_b6 : Fld Z h6 b6 "com/example/transom/transom/Scope" "jump" "Lcom/example/transom/transom/Scope$Jump;" .null := D6 (Or.inl (ww hw 51 rfl)) (ty := (.object "com/example/transom/transom/Scope$Jump")) (by decide)
  have E_b6 := A6
  have g_b6 : n0 ≤ b6 := Nat.le_trans (Nat.le_trans (Nat.le_trans Z0 E4.1) Kc5.1) (Nat.le_of_eq g6.symm)
  have sz_b6 : h0.size ≤ b6 := (Nat.le_trans K5.1 (Nat.le_of_eq g6.symm))
  have K6 : Keep h0 h6 [] := K5.ext E6
  obtain ⟨_, _, ⟨T7, L7, k7, n7⟩, -, X7, ⟨Lc7, hQ7, l7, y7, z7⟩, st7⟩ := X6.specialBack hx (y := (⟨"com/example/transom/transom/Scope", "<init>", "(Lcom/example/transom/transom/Scope;)V"⟩ : MethodName)) rfl hown (mvT hZ (ww hw 39 rfl)) (mvT hZ (ww hw 40 rfl)) (mvT hZ (ww hw 41 rfl)) (by decide) (backOf (W := 1) (rm5 l Z a0 hw [] b6 b4 b4 (0 : Int32) h6 n0 (Nat.le_trans (Nat.le_trans (Nat.le_trans Z0 E4.1) Kc5.1) E6.1) (Nat.ne_of_lt (Nat.lt_of_lt_of_le (E_b4.keep Kc5).lt (Nat.le_of_eq g6.symm))) E_b6 F_values_b6 F_parent_b6 F_top_b6 F_model_b6 F_template_b6 F_renderer_b6 F_calls_b6 g_b6 (Ftop5.ext E6) (Fmodel5.ext E6) (Ftemplate5.ext E6) (Frenderer5.ext E6) (Fcalls5.ext E6)) hZ (ww hw 41 rfl) (ww hw 2 rfl) (by decide) (by decide)) (g := (mkF m 15 #[.val (.int p1), .val (.int p2), .val (.int p3), .val (.ref b4), .unset, .unset, .unset, .unset, .unset, .unset, .unset, .unset, .unset] [(.ref b4), (.ref b6), (.ref b6)])) rfl (by rw [hml]; rfl) (Steps.refl _) (a := b6) (argsL := [(.ref b4)]) (rest := [(.ref b6)]) (lenOf pd_0_2 rfl) rfl (by show 2 * 0 + _ ≤ _; exact Nat.le_of_eq rfl) (hb hby at_15) (fun _ _ => ⟨rfl, e6, (by decide : 3 + 1 ≤ _), (by decide : 24 + 8 ≤ _)⟩)
  dsimp only [Pt.U, Pt.locs, Pt.cells, Pt.slots] at X7 l7 y7 z7 st7 hQ7
  subst l7 y7 z7
  obtain ⟨rfl, N7q, Kc7, Ec7, Ft7⟩ := hQ7
  have N7 := Fr.app N5 N7q
  have S_BREAK_7 := own_stak (S_BREAK_5.ext E6) Kc7 (allS (own_nst E_b6) all0)
  have S_CONTINUE_7 := own_stak (S_CONTINUE_5.ext E6) Kc7 (allS (own_nst E_b6) all0)
  have K7 : Keep h0 T7.heap [] := K6.trans Kc7 (allS (Or.inr sz_b6) all0)
  obtain ⟨T8, X8, e8, st8⟩ := getS2 X7 hx hZ hown (host := "") (Or.inl (ww hw 65 rfl)) Via.refl rfl S_CONTINUE_7 (g := (mkF m 86 #[.val (.int p1), .val (.int p2), .val (.int p3), .val (.ref b4), .val (.ref b6), .val (.ref b6), .val (.ref b6), .val (.int (p1 &&& (3 : Int32))), .val .null, .unset, .unset, .unset, .unset] [(.ref b6)])) rfl (hb hby at_86)
  obtain ⟨cq9, kq9, q9a, q9b, q9c⟩ := isOf hZ e8 (E_b6.keep Kc7)
  obtain ⟨_, _, ⟨T9, L9, k9, n9⟩, -, X9, ⟨Lc9, hQ9, l9, y9, z9⟩, st9⟩ := X8.virtualBack hx (y := (⟨"com/example/transom/transom/Scope", "jump", "(Lcom/example/transom/transom/Scope$Jump;)V"⟩ : MethodName)) (z := (⟨"com/example/transom/transom/Scope", "jump", "(Lcom/example/transom/transom/Scope$Jump;)V"⟩ : MethodName)) hown (mvT hZ (ww hw 60 rfl)) (mvT hZ (ww hw 61 rfl)) (notFace_of_selects (args := #[]) (mvT hZ (ww hw 63 rfl))) (mvT hZ (ww hw 63 rfl)) (mvT hZ (ww hw 62 rfl)) (by decide) (backOf (W := 0) (rmS l Z a0 hw [] b6 uC b4 _ T7.heap n0 (Nat.le_trans (Nat.le_trans (Nat.le_trans (Nat.le_trans Z0 E4.1) Kc5.1) E6.1) Kc7.1) ((Ftop5.ext E6).keep Kc7 (ninS (Nat.ne_of_lt (Nat.lt_of_lt_of_le (E_b4.keep Kc5).lt (Nat.le_of_eq g6.symm))) nin0)) Ft7 (((E_b4.keep Kc5).ext E6).keep Kc7) ((Fjump5.ext E6).keep Kc7 (ninS (Nat.ne_of_lt (Nat.lt_of_lt_of_le (E_b4.keep Kc5).lt (Nat.le_of_eq g6.symm))) nin0)) g_b4) hZ (ww hw 64 rfl) (ww hw 2 rfl) (by decide) (by decide)) q9a q9c (g := (mkF m 89 #[.val (.int p1), .val (.int p2), .val (.int p3), .val (.ref b4), .val (.ref b6), .val (.ref b6), .val (.ref b6), .val (.int (p1 &&& (3 : Int32))), .val .null, .unset, .unset, .unset, .unset] [(.ref uC), (.ref b6)])) rfl (by rw [hml]; rfl) (Steps.refl _) (argsL := [(.ref uC)]) (rest := []) (lenOf pd_0_6 rfl) rfl (by show 2 * 0 + _ ≤ _; exact Nat.le_of_eq rfl) (hb hby at_89) (fun _ _ => ⟨rfl, e8, (by decide : 4 + 0 ≤ _), (by decide : 32 + 0 ≤ _)⟩)
  dsimp only [Pt.U, Pt.locs, Pt.cells, Pt.slots] at X9 l9 y9 z9 st9 hQ9
  subst l9 y9 z9
  obtain ⟨rfl, N9q, Kc9, Fj9, Ft9⟩ := hQ9
  have N9 := Fr.app N7 N9q
  have S_BREAK_9 := own_stak S_BREAK_7 Kc9 (allS (own_nst (((E_b4.keep Kc5).ext E6).keep Kc7)) all0)
  have S_CONTINUE_9 := own_stak S_CONTINUE_7 Kc9 (allS (own_nst (((E_b4.keep Kc5).ext E6).keep Kc7)) all0)
  have K9 : Keep h0 T9.heap [] := K7.trans Kc9 (allS (Or.inr sz_b4) all0)
  obtain ⟨T10, X10, e10, st10⟩ := getS2 X9 hx hZ hown (host := "") (Or.inl (ww hw 65 rfl)) Via.refl rfl S_CONTINUE_9 (g := (mkF m 92 #[.val (.int p1), .val (.int p2), .val (.int p3), .val (.ref b4), .val (.ref b6), .val (.ref b6), .val (.ref b6), .val (.int (p1 &&& (3 : Int32))), .val .null, .unset, .unset, .unset, .unset] [])) rfl (hb hby at_92)
  obtain ⟨cq11, kq11, q11a, q11b, q11c⟩ := isOf hZ e10 ((E_b6.keep Kc7).keep Kc9)
  obtain ⟨_, _, ⟨T11, L11, k11, n11⟩, -, X11, ⟨Lc11, hQ11, l11, y11, z11⟩, st11⟩ := X10.virtualBack hx (y := (⟨"com/example/transom/transom/Scope", "jumping", "()Z"⟩ : MethodName)) (z := (⟨"com/example/transom/transom/Scope", "jumping", "()Z"⟩ : MethodName)) hown (mvT hZ (ww hw 45 rfl)) (mvT hZ (ww hw 46 rfl)) (notFace_of_selects (args := #[]) (mvT hZ (ww hw 48 rfl))) (mvT hZ (ww hw 48 rfl)) (mvT hZ (ww hw 47 rfl)) (by decide) (backOf (W := 0) (rmJr l Z a0 hw [] b6 b4 uC T9.heap n0 (Nat.le_trans (Nat.le_trans (Nat.le_trans (Nat.le_trans (Nat.le_trans Z0 E4.1) Kc5.1) E6.1) Kc7.1) Kc9.1) (Ft7.keep Kc9 (ninS (Ne.symm (Nat.ne_of_lt (Nat.lt_of_lt_of_le (E_b4.keep Kc5).lt (Nat.le_of_eq g6.symm)))) nin0)) Fj9) hZ (ww hw 49 rfl) (ww hw 2 rfl) (by decide) (by decide)) q11a q11c (g := (mkF m 129 #[.val (.int p1), .val (.int p2), .val (.int p3), .val (.ref b4), .val (.ref b6), .val (.ref b6), .val (.ref b6), .val (.int (p1 &&& (3 : Int32))), .val (.ref uC), .unset, .unset, .unset, .unset] [(.ref b6)])) rfl (by rw [hml]; rfl) (Steps.refl _) (argsL := []) (rest := []) (lenOf pd_0_4 rfl) rfl (by show 2 * 0 + _ ≤ _; exact Nat.le_of_eq rfl) (hb hby at_129) (fun _ _ => ⟨rfl, e10, (by decide : 4 + 0 ≤ _), (by decide : 32 + 0 ≤ _)⟩)
  dsimp only [Pt.U, Pt.locs, Pt.cells, Pt.slots] at X11 l11 y11 z11 st11 hQ11
  subst l11 y11 z11
  obtain ⟨rfl, N11q, eh11⟩ := hQ11
  have N11 := Fr.app N9 N11q
  obtain ⟨cq12, kq12, q12a, q12b, q12c⟩ := isOf hZ eh11 ((E_b6.keep Kc7).keep Kc9)
  obtain ⟨_, _, ⟨T12, L12, k12, n12⟩, -, X12, ⟨Lc12, hQ12, l12, y12, z12⟩, st12⟩ := X11.virtualBack hx (y := (⟨"com/example/transom/transom/Scope", "land", "()Lcom/example/transom/transom/Scope$Jump;"⟩ : MethodName)) (z := (⟨"com/example/transom/transom/Scope", "land", "()Lcom/example/transom/transom/Scope$Jump;"⟩ : MethodName)) hown (mvT hZ (ww hw 52 rfl)) (mvT hZ (ww hw 53 rfl)) (notFace_of_selects (args := #[]) (mvT hZ (ww hw 55 rfl))) (mvT hZ (ww hw 55 rfl)) (mvT hZ (ww hw 54 rfl)) (by decide) (backOf (W := 0) (rmLr l Z a0 hw [] b6 b4 uC T9.heap n0 (Nat.le_trans (Nat.le_trans (Nat.le_trans (Nat.le_trans (Nat.le_trans Z0 E4.1) Kc5.1) E6.1) Kc7.1) Kc9.1) Ft9 (Ft7.keep Kc9 (ninS (Ne.symm (Nat.ne_of_lt (Nat.lt_of_lt_of_le (E_b4.keep Kc5).lt (Nat.le_of_eq g6.symm)))) nin0)) Fj9 ((((E_b4.keep Kc5).ext E6).keep Kc7).keep Kc9) g_b4) hZ (ww hw 56 rfl) (ww hw 2 rfl) (by decide) (by decide)) q12a q12c (g := (mkF m 154 #[.val (.int p1), .val (.int p2), .val (.int p3), .val (.ref b4), .val (.ref b6), .val (.ref b6), .val (.ref b6), .val (.int (p1 &&& (3 : Int32))), .val (.ref uC), .val (.int (1 : Int32)), .unset, .unset, .unset] [(.ref b6)])) rfl (by rw [hml]; rfl) (Steps.refl _) (argsL := []) (rest := []) (lenOf pd_0_5 rfl) rfl (by show 2 * 0 + _ ≤ _; exact Nat.le_of_eq rfl) (hb hby at_154) (fun _ _ => ⟨rfl, eh11, (by decide : 4 + 0 ≤ _), (by decide : 32 + 0 ≤ _)⟩)
  dsimp only [Pt.U, Pt.locs, Pt.cells, Pt.slots] at X12 l12 y12 z12 st12 hQ12
  subst l12 y12 z12
  obtain ⟨rfl, N12q, Kc12, Fj12, Ft12⟩ := hQ12
  have N12 := Fr.app N11 N12q
  have S_BREAK_12 := own_stak S_BREAK_9 Kc12 (allS (own_nst ((((E_b4.keep Kc5).ext E6).keep Kc7).keep Kc9)) all0)
  have S_CONTINUE_12 := own_stak S_CONTINUE_9 Kc12 (allS (own_nst ((((E_b4.keep Kc5).ext E6).keep Kc7).keep Kc9)) all0)
  have K12 : Keep h0 T12.heap [] := K9.trans Kc12 (allS (Or.inr sz_b4) all0)
  obtain ⟨cq13, kq13, q13a, q13b, q13c⟩ := isOf hZ rfl (((((E_b4.keep Kc5).ext E6).keep Kc7).keep Kc9).keep Kc12)
  obtain ⟨_, _, ⟨T13, L13, k13, n13⟩, -, X13, ⟨Lc13, hQ13, l13, y13, z13⟩, st13⟩ := X12.virtualBack hx (y := (⟨"com/example/transom/transom/Scope", "jumping", "()Z"⟩ : MethodName)) (z := (⟨"com/example/transom/transom/Scope", "jumping", "()Z"⟩ : MethodName)) hown (mvT hZ (ww hw 45 rfl)) (mvT hZ (ww hw 46 rfl)) (notFace_of_selects (args := #[]) (mvT hZ (ww hw 48 rfl))) (mvT hZ (ww hw 48 rfl)) (mvT hZ (ww hw 47 rfl)) (by decide) (backOf (W := 0) (rmJn l Z a0 hw [] b4 b4 T12.heap n0 (Nat.le_trans (Nat.le_trans (Nat.le_trans (Nat.le_trans (Nat.le_trans (Nat.le_trans Z0 E4.1) Kc5.1) E6.1) Kc7.1) Kc9.1) Kc12.1) Ft12 Fj12) hZ (ww hw 49 rfl) (ww hw 2 rfl) (by decide) (by decide)) q13a q13c (g := (mkF m 160 #[.val (.int p1), .val (.int p2), .val (.int p3), .val (.ref b4), .val (.ref b6), .val (.ref b6), .val (.ref b6), .val (.int (p1 &&& (3 : Int32))), .val (.ref uC), .val (.int (1 : Int32)), .val (.ref uC), .unset, .unset] [(.ref b4)])) rfl (by rw [hml]; rfl) (Steps.refl _) (argsL := []) (rest := []) (lenOf pd_0_4 rfl) rfl (by show 2 * 0 + _ ≤ _; exact Nat.le_of_eq rfl) (hb hby at_160) (fun _ _ => ⟨rfl, rfl, (by decide : 4 + 0 ≤ _), (by decide : 32 + 0 ≤ _)⟩)
  dsimp only [Pt.U, Pt.locs, Pt.cells, Pt.slots] at X13 l13 y13 z13 st13 hQ13
  subst l13 y13 z13
  obtain ⟨rfl, N13q, eh13⟩ := hQ13
  have N13 := Fr.app N12 N13q
  obtain ⟨cq14, kq14, q14a, q14b, q14c⟩ := isOf hZ eh13 (((E_b6.keep Kc7).keep Kc9).keep Kc12)
  obtain ⟨_, _, ⟨T14, L14, k14, n14⟩, -, X14, ⟨Lc14, hQ14, l14, y14, z14⟩, st14⟩ := X13.virtualBack hx (y := (⟨"com/example/transom/transom/Scope", "jumping", "()Z"⟩ : MethodName)) (z := (⟨"com/example/transom/transom/Scope", "jumping", "()Z"⟩ : MethodName)) hown (mvT hZ (ww hw 45 rfl)) (mvT hZ (ww hw 46 rfl)) (notFace_of_selects (args := #[]) (mvT hZ (ww hw 48 rfl))) (mvT hZ (ww hw 48 rfl)) (mvT hZ (ww hw 47 rfl)) (by decide) (backOf (W := 0) (rmJn l Z a0 hw [] b6 b4 T12.heap n0 (Nat.le_trans (Nat.le_trans (Nat.le_trans (Nat.le_trans (Nat.le_trans (Nat.le_trans Z0 E4.1) Kc5.1) E6.1) Kc7.1) Kc9.1) Kc12.1) ((Ft7.keep Kc9 (ninS (Ne.symm (Nat.ne_of_lt (Nat.lt_of_lt_of_le (E_b4.keep Kc5).lt (Nat.le_of_eq g6.symm)))) nin0)).keep Kc12 (ninS (Ne.symm (Nat.ne_of_lt (Nat.lt_of_lt_of_le (E_b4.keep Kc5).lt (Nat.le_of_eq g6.symm)))) nin0)) Fj12) hZ (ww hw 49 rfl) (ww hw 2 rfl) (by decide) (by decide)) q14a q14c (g := (mkF m 168 #[.val (.int p1), .val (.int p2), .val (.int p3), .val (.ref b4), .val (.ref b6), .val (.ref b6), .val (.ref b6), .val (.int (p1 &&& (3 : Int32))), .val (.ref uC), .val (.int (1 : Int32)), .val (.ref uC), .unset, .unset] [(.ref b6)])) rfl (by rw [hml]; rfl) (Steps.refl _) (argsL := []) (rest := []) (lenOf pd_0_4 rfl) rfl (by show 2 * 0 + _ ≤ _; exact Nat.le_of_eq rfl) (hb hby at_168) (fun _ _ => ⟨rfl, eh13, (by decide : 4 + 0 ≤ _), (by decide : 32 + 0 ≤ _)⟩)
  dsimp only [Pt.U, Pt.locs, Pt.cells, Pt.slots] at X14 l14 y14 z14 st14 hQ14
  subst l14 y14 z14
  obtain ⟨rfl, N14q, eh14⟩ := hQ14
  have N14 := Fr.app N13 N14q
  obtain ⟨cq15, kq15, q15a, q15b, q15c⟩ := isOf hZ eh14 (((E_b6.keep Kc7).keep Kc9).keep Kc12)
  obtain ⟨_, _, ⟨T15, L15, k15, n15⟩, -, X15, ⟨Lc15, hQ15, l15, y15, z15⟩, st15⟩ := X14.virtualBack hx (y := (⟨"com/example/transom/transom/Scope", "land", "()Lcom/example/transom/transom/Scope$Jump;"⟩ : MethodName)) (z := (⟨"com/example/transom/transom/Scope", "land", "()Lcom/example/transom/transom/Scope$Jump;"⟩ : MethodName)) hown (mvT hZ (ww hw 52 rfl)) (mvT hZ (ww hw 53 rfl)) (notFace_of_selects (args := #[]) (mvT hZ (ww hw 55 rfl))) (mvT hZ (ww hw 55 rfl)) (mvT hZ (ww hw 54 rfl)) (by decide) (backOf (W := 0) (rmLn l Z a0 hw [] b6 b4 T12.heap n0 (Nat.le_trans (Nat.le_trans (Nat.le_trans (Nat.le_trans (Nat.le_trans (Nat.le_trans Z0 E4.1) Kc5.1) E6.1) Kc7.1) Kc9.1) Kc12.1) Ft12 ((Ft7.keep Kc9 (ninS (Ne.symm (Nat.ne_of_lt (Nat.lt_of_lt_of_le (E_b4.keep Kc5).lt (Nat.le_of_eq g6.symm)))) nin0)).keep Kc12 (ninS (Ne.symm (Nat.ne_of_lt (Nat.lt_of_lt_of_le (E_b4.keep Kc5).lt (Nat.le_of_eq g6.symm)))) nin0)) Fj12 (((((E_b4.keep Kc5).ext E6).keep Kc7).keep Kc9).keep Kc12) g_b4) hZ (ww hw 56 rfl) (ww hw 2 rfl) (by decide) (by decide)) q15a q15c (g := (mkF m 183 #[.val (.int p1), .val (.int p2), .val (.int p3), .val (.ref b4), .val (.ref b6), .val (.ref b6), .val (.ref b6), .val (.int (p1 &&& (3 : Int32))), .val (.ref uC), .val (.int (1 : Int32)), .val (.ref uC), .val (.int (1 : Int32)), .unset] [(.ref b6)])) rfl (by rw [hml]; rfl) (Steps.refl _) (argsL := []) (rest := []) (lenOf pd_0_5 rfl) rfl (by show 2 * 0 + _ ≤ _; exact Nat.le_of_eq rfl) (hb hby at_183) (fun _ _ => ⟨rfl, eh14, (by decide : 4 + 0 ≤ _), (by decide : 32 + 0 ≤ _)⟩)
  dsimp only [Pt.U, Pt.locs, Pt.cells, Pt.slots] at X15 l15 y15 z15 st15 hQ15
  subst l15 y15 z15
  obtain ⟨rfl, N15q, Kc15, Fj15, Ft15⟩ := hQ15
  have N15 := Fr.app N14 N15q
  have S_BREAK_15 := own_stak S_BREAK_12 Kc15 (allS (own_nst (((((E_b4.keep Kc5).ext E6).keep Kc7).keep Kc9).keep Kc12)) all0)
  have S_CONTINUE_15 := own_stak S_CONTINUE_12 Kc15 (allS (own_nst (((((E_b4.keep Kc5).ext E6).keep Kc7).keep Kc9).keep Kc12)) all0)
  have K15 : Keep h0 T15.heap [] := K12.trans Kc15 (allS (Or.inr sz_b4) all0)
  obtain ⟨fs, hr, hrun, hended, hW, hsame⟩ := X15.leave (v := some (.int (1 : Int32))) (fun h => by rw [Bd.returns] at h; cases h)
  refine ⟨_, _, pre0 _ ?_, hrun, hended, _, _, rfl, ?_, ⟨_, rfl⟩, hW, hsame.mono (by decide) (by decide)⟩
  · show Steps _ _ _ (s₁.setTop (mkF m 0 #[.val (.int p1), .val (.int p2), .val (.int p3), .unset, .unset, .unset, .unset, .unset, .unset, .unset, .unset, .unset, .unset] [])) _
    refine st4 _ ?_
    show Steps _ _ _ (T4.setTop (mkF m 3 #[.val (.int p1), .val (.int p2), .val (.int p3), .unset, .unset, .unset, .unset, .unset, .unset, .unset, .unset, .unset, .unset] [(.ref b4)])) _
    refine XS.dup X4.here hx rfl (hb hby at_3) rfl rfl ?_
    show Steps _ _ _ (T4.setTop (mkF m 4 #[.val (.int p1), .val (.int p2), .val (.int p3), .unset, .unset, .unset, .unset, .unset, .unset, .unset, .unset, .unset, .unset] [(.ref b4), (.ref b4)])) _
    refine XS.aconstNull X4.here hx rfl (hb hby at_4) ?_
    show Steps _ _ _ (T4.setTop (mkF m 5 #[.val (.int p1), .val (.int p2), .val (.int p3), .unset, .unset, .unset, .unset, .unset, .unset, .unset, .unset, .unset, .unset] [.null, (.ref b4), (.ref b4)])) _
    refine XS.aconstNull X4.here hx rfl (hb hby at_5) ?_
    show Steps _ _ _ (T4.setTop (mkF m 6 #[.val (.int p1), .val (.int p2), .val (.int p3), .unset, .unset, .unset, .unset, .unset, .unset, .unset, .unset, .unset, .unset] [.null, .null, (.ref b4), (.ref b4)])) _
    refine st5.trans ?_
    show Steps _ _ _ (T5.setTop (mkF m 9 #[.val (.int p1), .val (.int p2), .val (.int p3), .unset, .unset, .unset, .unset, .unset, .unset, .unset, .unset, .unset, .unset] [(.ref b4)])) _
    refine XS.astoreN X5.here hx rfl (hb hby at_9) rfl rfl (l' := #[.val (.int p1), .val (.int p2), .val (.int p3), .val (.ref b4), .unset, .unset, .unset, .unset, .unset, .unset, .unset, .unset, .unset]) rfl ?_
    show Steps _ _ _ (T5.setTop (mkF m 10 #[.val (.int p1), .val (.int p2), .val (.int p3), .val (.ref b4), .unset, .unset, .unset, .unset, .unset, .unset, .unset, .unset, .unset] [])) _
    refine st6 _ ?_
    show Steps _ _ _ (T6.setTop (mkF m 13 #[.val (.int p1), .val (.int p2), .val (.int p3), .val (.ref b4), .unset, .unset, .unset, .unset, .unset, .unset, .unset, .unset, .unset] [(.ref b6)])) _
    refine XS.dup X6.here hx rfl (hb hby at_13) rfl rfl ?_
    show Steps _ _ _ (T6.setTop (mkF m 14 #[.val (.int p1), .val (.int p2), .val (.int p3), .val (.ref b4), .unset, .unset, .unset, .unset, .unset, .unset, .unset, .unset, .unset] [(.ref b6), (.ref b6)])) _
    refine XS.aloadN X6.here hx rfl (hb hby at_14) rfl rfl ?_
    show Steps _ _ _ (T6.setTop (mkF m 15 #[.val (.int p1), .val (.int p2), .val (.int p3), .val (.ref b4), .unset, .unset, .unset, .unset, .unset, .unset, .unset, .unset, .unset] [(.ref b4), (.ref b6), (.ref b6)])) _
    refine st7.trans ?_
    show Steps _ _ _ (T7.setTop (mkF m 18 #[.val (.int p1), .val (.int p2), .val (.int p3), .val (.ref b4), .unset, .unset, .unset, .unset, .unset, .unset, .unset, .unset, .unset] [(.ref b6)])) _
    refine XS.astore X7.here hx rfl (hb hby at_18) rfl rfl (l' := #[.val (.int p1), .val (.int p2), .val (.int p3), .val (.ref b4), .val (.ref b6), .unset, .unset, .unset, .unset, .unset, .unset, .unset, .unset]) rfl ?_
    show Steps _ _ _ (T7.setTop (mkF m 20 #[.val (.int p1), .val (.int p2), .val (.int p3), .val (.ref b4), .val (.ref b6), .unset, .unset, .unset, .unset, .unset, .unset, .unset, .unset] [])) _
    refine XS.iloadN X7.here hx rfl (hb hby at_20) rfl ?_
    show Steps _ _ _ (T7.setTop (mkF m 21 #[.val (.int p1), .val (.int p2), .val (.int p3), .val (.ref b4), .val (.ref b6), .unset, .unset, .unset, .unset, .unset, .unset, .unset, .unset] [(.int p2)])) _
    refine XS.iconst X7.here hx rfl (hb hby at_21) ?_
    show Steps _ _ _ (T7.setTop (mkF m 22 #[.val (.int p1), .val (.int p2), .val (.int p3), .val (.ref b4), .val (.ref b6), .unset, .unset, .unset, .unset, .unset, .unset, .unset, .unset] [(.int (1 : Int32)), (.int p2)])) _
    refine XS.iand X7.here hx rfl (hb hby at_22) rfl ?_
    show Steps _ _ _ (T7.setTop (mkF m 23 #[.val (.int p1), .val (.int p2), .val (.int p3), .val (.ref b4), .val (.ref b6), .unset, .unset, .unset, .unset, .unset, .unset, .unset, .unset] [(.int (p2 &&& (1 : Int32)))])) _
    refine XS.ifNo X7.here hx rfl (hb hby at_23) rfl ((if0 _ _).trans (feq hc23).1) ?_
    show Steps _ _ _ (T7.setTop (mkF m 26 #[.val (.int p1), .val (.int p2), .val (.int p3), .val (.ref b4), .val (.ref b6), .unset, .unset, .unset, .unset, .unset, .unset, .unset, .unset] [])) _
    refine XS.aload X7.here hx rfl (hb hby at_26) rfl rfl ?_
    show Steps _ _ _ (T7.setTop (mkF m 28 #[.val (.int p1), .val (.int p2), .val (.int p3), .val (.ref b4), .val (.ref b6), .unset, .unset, .unset, .unset, .unset, .unset, .unset, .unset] [(.ref b6)])) _
    refine XS.goto X7.here hx rfl (pc0 := 28) (pc' := 32) rfl (hb hby at_28) (by decide) (by decide) ?_
    show Steps _ _ _ (T7.setTop (mkF m 32 #[.val (.int p1), .val (.int p2), .val (.int p3), .val (.ref b4), .val (.ref b6), .unset, .unset, .unset, .unset, .unset, .unset, .unset, .unset] [(.ref b6)])) _
    refine XS.astore X7.here hx rfl (hb hby at_32) rfl rfl (l' := #[.val (.int p1), .val (.int p2), .val (.int p3), .val (.ref b4), .val (.ref b6), .val (.ref b6), .unset, .unset, .unset, .unset, .unset, .unset, .unset]) rfl ?_
    show Steps _ _ _ (T7.setTop (mkF m 34 #[.val (.int p1), .val (.int p2), .val (.int p3), .val (.ref b4), .val (.ref b6), .val (.ref b6), .unset, .unset, .unset, .unset, .unset, .unset, .unset] [])) _
    refine XS.iloadN X7.here hx rfl (hb hby at_34) rfl ?_
    show Steps _ _ _ (T7.setTop (mkF m 35 #[.val (.int p1), .val (.int p2), .val (.int p3), .val (.ref b4), .val (.ref b6), .val (.ref b6), .unset, .unset, .unset, .unset, .unset, .unset, .unset] [(.int p3)])) _
    refine XS.iconst X7.here hx rfl (hb hby at_35) ?_
    show Steps _ _ _ (T7.setTop (mkF m 36 #[.val (.int p1), .val (.int p2), .val (.int p3), .val (.ref b4), .val (.ref b6), .val (.ref b6), .unset, .unset, .unset, .unset, .unset, .unset, .unset] [(.int (1 : Int32)), (.int p3)])) _
    refine XS.iand X7.here hx rfl (hb hby at_36) rfl ?_
    show Steps _ _ _ (T7.setTop (mkF m 37 #[.val (.int p1), .val (.int p2), .val (.int p3), .val (.ref b4), .val (.ref b6), .val (.ref b6), .unset, .unset, .unset, .unset, .unset, .unset, .unset] [(.int (p3 &&& (1 : Int32)))])) _
    refine XS.ifNo X7.here hx rfl (hb hby at_37) rfl ((if0 _ _).trans (feq hc37).1) ?_
    show Steps _ _ _ (T7.setTop (mkF m 40 #[.val (.int p1), .val (.int p2), .val (.int p3), .val (.ref b4), .val (.ref b6), .val (.ref b6), .unset, .unset, .unset, .unset, .unset, .unset, .unset] [])) _
    refine XS.aload X7.here hx rfl (hb hby at_40) rfl rfl ?_
    show Steps _ _ _ (T7.setTop (mkF m 42 #[.val (.int p1), .val (.int p2), .val (.int p3), .val (.ref b4), .val (.ref b6), .val (.ref b6), .unset, .unset, .unset, .unset, .unset, .unset, .unset] [(.ref b6)])) _
    refine XS.goto X7.here hx rfl (pc0 := 42) (pc' := 46) rfl (hb hby at_42) (by decide) (by decide) ?_
    show Steps _ _ _ (T7.setTop (mkF m 46 #[.val (.int p1), .val (.int p2), .val (.int p3), .val (.ref b4), .val (.ref b6), .val (.ref b6), .unset, .unset, .unset, .unset, .unset, .unset, .unset] [(.ref b6)])) _
    refine XS.astore X7.here hx rfl (hb hby at_46) rfl rfl (l' := #[.val (.int p1), .val (.int p2), .val (.int p3), .val (.ref b4), .val (.ref b6), .val (.ref b6), .val (.ref b6), .unset, .unset, .unset, .unset, .unset, .unset]) rfl ?_
    show Steps _ _ _ (T7.setTop (mkF m 48 #[.val (.int p1), .val (.int p2), .val (.int p3), .val (.ref b4), .val (.ref b6), .val (.ref b6), .val (.ref b6), .unset, .unset, .unset, .unset, .unset, .unset] [])) _
    refine XS.iloadN X7.here hx rfl (hb hby at_48) rfl ?_
    show Steps _ _ _ (T7.setTop (mkF m 49 #[.val (.int p1), .val (.int p2), .val (.int p3), .val (.ref b4), .val (.ref b6), .val (.ref b6), .val (.ref b6), .unset, .unset, .unset, .unset, .unset, .unset] [(.int p1)])) _
    refine XS.iconst X7.here hx rfl (hb hby at_49) ?_
    show Steps _ _ _ (T7.setTop (mkF m 50 #[.val (.int p1), .val (.int p2), .val (.int p3), .val (.ref b4), .val (.ref b6), .val (.ref b6), .val (.ref b6), .unset, .unset, .unset, .unset, .unset, .unset] [(.int (3 : Int32)), (.int p1)])) _
    refine XS.iand X7.here hx rfl (hb hby at_50) rfl ?_
    show Steps _ _ _ (T7.setTop (mkF m 51 #[.val (.int p1), .val (.int p2), .val (.int p3), .val (.ref b4), .val (.ref b6), .val (.ref b6), .val (.ref b6), .unset, .unset, .unset, .unset, .unset, .unset] [(.int (p1 &&& (3 : Int32)))])) _
    refine XS.istore X7.here hx rfl (hb hby at_51) rfl (l' := #[.val (.int p1), .val (.int p2), .val (.int p3), .val (.ref b4), .val (.ref b6), .val (.ref b6), .val (.ref b6), .val (.int (p1 &&& (3 : Int32))), .unset, .unset, .unset, .unset, .unset]) rfl ?_
    show Steps _ _ _ (T7.setTop (mkF m 53 #[.val (.int p1), .val (.int p2), .val (.int p3), .val (.ref b4), .val (.ref b6), .val (.ref b6), .val (.ref b6), .val (.int (p1 &&& (3 : Int32))), .unset, .unset, .unset, .unset, .unset] [])) _
    refine XS.aconstNull X7.here hx rfl (hb hby at_53) ?_
    show Steps _ _ _ (T7.setTop (mkF m 54 #[.val (.int p1), .val (.int p2), .val (.int p3), .val (.ref b4), .val (.ref b6), .val (.ref b6), .val (.ref b6), .val (.int (p1 &&& (3 : Int32))), .unset, .unset, .unset, .unset, .unset] [.null])) _
    refine XS.astore X7.here hx rfl (hb hby at_54) rfl rfl (l' := #[.val (.int p1), .val (.int p2), .val (.int p3), .val (.ref b4), .val (.ref b6), .val (.ref b6), .val (.ref b6), .val (.int (p1 &&& (3 : Int32))), .val .null, .unset, .unset, .unset, .unset]) rfl ?_
    show Steps _ _ _ (T7.setTop (mkF m 56 #[.val (.int p1), .val (.int p2), .val (.int p3), .val (.ref b4), .val (.ref b6), .val (.ref b6), .val (.ref b6), .val (.int (p1 &&& (3 : Int32))), .val .null, .unset, .unset, .unset, .unset] [])) _
    refine XS.iload X7.here hx rfl (hb hby at_56) rfl ?_
    show Steps _ _ _ (T7.setTop (mkF m 58 #[.val (.int p1), .val (.int p2), .val (.int p3), .val (.ref b4), .val (.ref b6), .val (.ref b6), .val (.ref b6), .val (.int (p1 &&& (3 : Int32))), .val .null, .unset, .unset, .unset, .unset] [(.int (p1 &&& (3 : Int32)))])) _
    refine XS.iconst X7.here hx rfl (hb hby at_58) ?_
    show Steps _ _ _ (T7.setTop (mkF m 59 #[.val (.int p1), .val (.int p2), .val (.int p3), .val (.ref b4), .val (.ref b6), .val (.ref b6), .val (.ref b6), .val (.int (p1 &&& (3 : Int32))), .val .null, .unset, .unset, .unset, .unset] [(.int (1 : Int32)), (.int (p1 &&& (3 : Int32)))])) _
    refine XS.icmpYes X7.here hx rfl (pc0 := 59) (pc' := 78) rfl (hb hby at_59) rfl (feq hc59).2 (by decide) (by decide) ?_
    show Steps _ _ _ (T7.setTop (mkF m 78 #[.val (.int p1), .val (.int p2), .val (.int p3), .val (.ref b4), .val (.ref b6), .val (.ref b6), .val (.ref b6), .val (.int (p1 &&& (3 : Int32))), .val .null, .unset, .unset, .unset, .unset] [])) _
    refine XS.iload X7.here hx rfl (hb hby at_78) rfl ?_
    show Steps _ _ _ (T7.setTop (mkF m 80 #[.val (.int p1), .val (.int p2), .val (.int p3), .val (.ref b4), .val (.ref b6), .val (.ref b6), .val (.ref b6), .val (.int (p1 &&& (3 : Int32))), .val .null, .unset, .unset, .unset, .unset] [(.int (p1 &&& (3 : Int32)))])) _
    refine XS.iconst X7.here hx rfl (hb hby at_80) ?_
    show Steps _ _ _ (T7.setTop (mkF m 81 #[.val (.int p1), .val (.int p2), .val (.int p3), .val (.ref b4), .val (.ref b6), .val (.ref b6), .val (.ref b6), .val (.int (p1 &&& (3 : Int32))), .val .null, .unset, .unset, .unset, .unset] [(.int (2 : Int32)), (.int (p1 &&& (3 : Int32)))])) _
    refine XS.icmpNo X7.here hx rfl (hb hby at_81) rfl (teq hc81).2 ?_
    show Steps _ _ _ (T7.setTop (mkF m 84 #[.val (.int p1), .val (.int p2), .val (.int p3), .val (.ref b4), .val (.ref b6), .val (.ref b6), .val (.ref b6), .val (.int (p1 &&& (3 : Int32))), .val .null, .unset, .unset, .unset, .unset] [])) _
    refine XS.aload X7.here hx rfl (hb hby at_84) rfl rfl ?_
    show Steps _ _ _ (T7.setTop (mkF m 86 #[.val (.int p1), .val (.int p2), .val (.int p3), .val (.ref b4), .val (.ref b6), .val (.ref b6), .val (.ref b6), .val (.int (p1 &&& (3 : Int32))), .val .null, .unset, .unset, .unset, .unset] [(.ref b6)])) _
    refine st8 _ ?_
    show Steps _ _ _ (T8.setTop (mkF m 89 #[.val (.int p1), .val (.int p2), .val (.int p3), .val (.ref b4), .val (.ref b6), .val (.ref b6), .val (.ref b6), .val (.int (p1 &&& (3 : Int32))), .val .null, .unset, .unset, .unset, .unset] [(.ref uC), (.ref b6)])) _
    refine st9.trans ?_
    show Steps _ _ _ (T9.setTop (mkF m 92 #[.val (.int p1), .val (.int p2), .val (.int p3), .val (.ref b4), .val (.ref b6), .val (.ref b6), .val (.ref b6), .val (.int (p1 &&& (3 : Int32))), .val .null, .unset, .unset, .unset, .unset] [])) _
    refine st10 _ ?_
    show Steps _ _ _ (T10.setTop (mkF m 95 #[.val (.int p1), .val (.int p2), .val (.int p3), .val (.ref b4), .val (.ref b6), .val (.ref b6), .val (.ref b6), .val (.int (p1 &&& (3 : Int32))), .val .null, .unset, .unset, .unset, .unset] [(.ref uC)])) _
    refine XS.astore X10.here hx rfl (hb hby at_95) rfl rfl (l' := #[.val (.int p1), .val (.int p2), .val (.int p3), .val (.ref b4), .val (.ref b6), .val (.ref b6), .val (.ref b6), .val (.int (p1 &&& (3 : Int32))), .val (.ref uC), .unset, .unset, .unset, .unset]) rfl ?_
    show Steps _ _ _ (T10.setTop (mkF m 97 #[.val (.int p1), .val (.int p2), .val (.int p3), .val (.ref b4), .val (.ref b6), .val (.ref b6), .val (.ref b6), .val (.int (p1 &&& (3 : Int32))), .val (.ref uC), .unset, .unset, .unset, .unset] [])) _
    refine XS.goto X10.here hx rfl (pc0 := 97) (pc' := 127) rfl (hb hby at_97) (by decide) (by decide) ?_
    show Steps _ _ _ (T10.setTop (mkF m 127 #[.val (.int p1), .val (.int p2), .val (.int p3), .val (.ref b4), .val (.ref b6), .val (.ref b6), .val (.ref b6), .val (.int (p1 &&& (3 : Int32))), .val (.ref uC), .unset, .unset, .unset, .unset] [])) _
    refine XS.aload X10.here hx rfl (hb hby at_127) rfl rfl ?_
    show Steps _ _ _ (T10.setTop (mkF m 129 #[.val (.int p1), .val (.int p2), .val (.int p3), .val (.ref b4), .val (.ref b6), .val (.ref b6), .val (.ref b6), .val (.int (p1 &&& (3 : Int32))), .val (.ref uC), .unset, .unset, .unset, .unset] [(.ref b6)])) _
    refine st11.trans ?_
    show Steps _ _ _ (T11.setTop (mkF m 132 #[.val (.int p1), .val (.int p2), .val (.int p3), .val (.ref b4), .val (.ref b6), .val (.ref b6), .val (.ref b6), .val (.int (p1 &&& (3 : Int32))), .val (.ref uC), .unset, .unset, .unset, .unset] [(.int (1 : Int32))])) _
    refine XS.aload X11.here hx rfl (hb hby at_132) rfl rfl ?_
    show Steps _ _ _ (T11.setTop (mkF m 134 #[.val (.int p1), .val (.int p2), .val (.int p3), .val (.ref b4), .val (.ref b6), .val (.ref b6), .val (.ref b6), .val (.int (p1 &&& (3 : Int32))), .val (.ref uC), .unset, .unset, .unset, .unset] [(.ref uC), (.int (1 : Int32))])) _
    refine XS.ifnullNo X11.here hx rfl (hb hby at_134) rfl ?_
    show Steps _ _ _ (T11.setTop (mkF m 137 #[.val (.int p1), .val (.int p2), .val (.int p3), .val (.ref b4), .val (.ref b6), .val (.ref b6), .val (.ref b6), .val (.int (p1 &&& (3 : Int32))), .val (.ref uC), .unset, .unset, .unset, .unset] [(.int (1 : Int32))])) _
    refine XS.iconst X11.here hx rfl (hb hby at_137) ?_
    show Steps _ _ _ (T11.setTop (mkF m 138 #[.val (.int p1), .val (.int p2), .val (.int p3), .val (.ref b4), .val (.ref b6), .val (.ref b6), .val (.ref b6), .val (.int (p1 &&& (3 : Int32))), .val (.ref uC), .unset, .unset, .unset, .unset] [(.int (1 : Int32)), (.int (1 : Int32))])) _
    refine XS.goto X11.here hx rfl (pc0 := 138) (pc' := 142) rfl (hb hby at_138) (by decide) (by decide) ?_
    show Steps _ _ _ (T11.setTop (mkF m 142 #[.val (.int p1), .val (.int p2), .val (.int p3), .val (.ref b4), .val (.ref b6), .val (.ref b6), .val (.ref b6), .val (.int (p1 &&& (3 : Int32))), .val (.ref uC), .unset, .unset, .unset, .unset] [(.int (1 : Int32)), (.int (1 : Int32))])) _
    refine XS.icmpNo X11.here hx rfl (hb hby at_142) rfl (teq (rfl : (1 : Int32) = (1 : Int32))).2 ?_
    show Steps _ _ _ (T11.setTop (mkF m 145 #[.val (.int p1), .val (.int p2), .val (.int p3), .val (.ref b4), .val (.ref b6), .val (.ref b6), .val (.ref b6), .val (.int (p1 &&& (3 : Int32))), .val (.ref uC), .unset, .unset, .unset, .unset] [])) _
    refine XS.iconst X11.here hx rfl (hb hby at_145) ?_
    show Steps _ _ _ (T11.setTop (mkF m 146 #[.val (.int p1), .val (.int p2), .val (.int p3), .val (.ref b4), .val (.ref b6), .val (.ref b6), .val (.ref b6), .val (.int (p1 &&& (3 : Int32))), .val (.ref uC), .unset, .unset, .unset, .unset] [(.int (1 : Int32))])) _
    refine XS.goto X11.here hx rfl (pc0 := 146) (pc' := 150) rfl (hb hby at_146) (by decide) (by decide) ?_
    show Steps _ _ _ (T11.setTop (mkF m 150 #[.val (.int p1), .val (.int p2), .val (.int p3), .val (.ref b4), .val (.ref b6), .val (.ref b6), .val (.ref b6), .val (.int (p1 &&& (3 : Int32))), .val (.ref uC), .unset, .unset, .unset, .unset] [(.int (1 : Int32))])) _
    refine XS.istore X11.here hx rfl (hb hby at_150) rfl (l' := #[.val (.int p1), .val (.int p2), .val (.int p3), .val (.ref b4), .val (.ref b6), .val (.ref b6), .val (.ref b6), .val (.int (p1 &&& (3 : Int32))), .val (.ref uC), .val (.int (1 : Int32)), .unset, .unset, .unset]) rfl ?_
    show Steps _ _ _ (T11.setTop (mkF m 152 #[.val (.int p1), .val (.int p2), .val (.int p3), .val (.ref b4), .val (.ref b6), .val (.ref b6), .val (.ref b6), .val (.int (p1 &&& (3 : Int32))), .val (.ref uC), .val (.int (1 : Int32)), .unset, .unset, .unset] [])) _
    refine XS.aload X11.here hx rfl (hb hby at_152) rfl rfl ?_
    show Steps _ _ _ (T11.setTop (mkF m 154 #[.val (.int p1), .val (.int p2), .val (.int p3), .val (.ref b4), .val (.ref b6), .val (.ref b6), .val (.ref b6), .val (.int (p1 &&& (3 : Int32))), .val (.ref uC), .val (.int (1 : Int32)), .unset, .unset, .unset] [(.ref b6)])) _
    refine st12.trans ?_
    show Steps _ _ _ (T12.setTop (mkF m 157 #[.val (.int p1), .val (.int p2), .val (.int p3), .val (.ref b4), .val (.ref b6), .val (.ref b6), .val (.ref b6), .val (.int (p1 &&& (3 : Int32))), .val (.ref uC), .val (.int (1 : Int32)), .unset, .unset, .unset] [(.ref uC)])) _
    refine XS.astore X12.here hx rfl (hb hby at_157) rfl rfl (l' := #[.val (.int p1), .val (.int p2), .val (.int p3), .val (.ref b4), .val (.ref b6), .val (.ref b6), .val (.ref b6), .val (.int (p1 &&& (3 : Int32))), .val (.ref uC), .val (.int (1 : Int32)), .val (.ref uC), .unset, .unset]) rfl ?_
    show Steps _ _ _ (T12.setTop (mkF m 159 #[.val (.int p1), .val (.int p2), .val (.int p3), .val (.ref b4), .val (.ref b6), .val (.ref b6), .val (.ref b6), .val (.int (p1 &&& (3 : Int32))), .val (.ref uC), .val (.int (1 : Int32)), .val (.ref uC), .unset, .unset] [])) _
    refine XS.aloadN X12.here hx rfl (hb hby at_159) rfl rfl ?_
    show Steps _ _ _ (T12.setTop (mkF m 160 #[.val (.int p1), .val (.int p2), .val (.int p3), .val (.ref b4), .val (.ref b6), .val (.ref b6), .val (.ref b6), .val (.int (p1 &&& (3 : Int32))), .val (.ref uC), .val (.int (1 : Int32)), .val (.ref uC), .unset, .unset] [(.ref b4)])) _
    refine st13.trans ?_
    show Steps _ _ _ (T13.setTop (mkF m 163 #[.val (.int p1), .val (.int p2), .val (.int p3), .val (.ref b4), .val (.ref b6), .val (.ref b6), .val (.ref b6), .val (.int (p1 &&& (3 : Int32))), .val (.ref uC), .val (.int (1 : Int32)), .val (.ref uC), .unset, .unset] [(.int (0 : Int32))])) _
    refine XS.ifNo X13.here hx rfl (hb hby at_163) rfl ((if0 _ _).trans (teq (rfl : (0 : Int32) = (0 : Int32))).2) ?_
    show Steps _ _ _ (T13.setTop (mkF m 166 #[.val (.int p1), .val (.int p2), .val (.int p3), .val (.ref b4), .val (.ref b6), .val (.ref b6), .val (.ref b6), .val (.int (p1 &&& (3 : Int32))), .val (.ref uC), .val (.int (1 : Int32)), .val (.ref uC), .unset, .unset] [])) _
    refine XS.aload X13.here hx rfl (hb hby at_166) rfl rfl ?_
    show Steps _ _ _ (T13.setTop (mkF m 168 #[.val (.int p1), .val (.int p2), .val (.int p3), .val (.ref b4), .val (.ref b6), .val (.ref b6), .val (.ref b6), .val (.int (p1 &&& (3 : Int32))), .val (.ref uC), .val (.int (1 : Int32)), .val (.ref uC), .unset, .unset] [(.ref b6)])) _
    refine st14.trans ?_
    show Steps _ _ _ (T14.setTop (mkF m 171 #[.val (.int p1), .val (.int p2), .val (.int p3), .val (.ref b4), .val (.ref b6), .val (.ref b6), .val (.ref b6), .val (.int (p1 &&& (3 : Int32))), .val (.ref uC), .val (.int (1 : Int32)), .val (.ref uC), .unset, .unset] [(.int (0 : Int32))])) _
    refine XS.ifNo X14.here hx rfl (hb hby at_171) rfl ((if0 _ _).trans (teq (rfl : (0 : Int32) = (0 : Int32))).2) ?_
    show Steps _ _ _ (T14.setTop (mkF m 174 #[.val (.int p1), .val (.int p2), .val (.int p3), .val (.ref b4), .val (.ref b6), .val (.ref b6), .val (.ref b6), .val (.int (p1 &&& (3 : Int32))), .val (.ref uC), .val (.int (1 : Int32)), .val (.ref uC), .unset, .unset] [])) _
    refine XS.iconst X14.here hx rfl (hb hby at_174) ?_
    show Steps _ _ _ (T14.setTop (mkF m 175 #[.val (.int p1), .val (.int p2), .val (.int p3), .val (.ref b4), .val (.ref b6), .val (.ref b6), .val (.ref b6), .val (.int (p1 &&& (3 : Int32))), .val (.ref uC), .val (.int (1 : Int32)), .val (.ref uC), .unset, .unset] [(.int (1 : Int32))])) _
    refine XS.goto X14.here hx rfl (pc0 := 175) (pc' := 179) rfl (hb hby at_175) (by decide) (by decide) ?_
    show Steps _ _ _ (T14.setTop (mkF m 179 #[.val (.int p1), .val (.int p2), .val (.int p3), .val (.ref b4), .val (.ref b6), .val (.ref b6), .val (.ref b6), .val (.int (p1 &&& (3 : Int32))), .val (.ref uC), .val (.int (1 : Int32)), .val (.ref uC), .unset, .unset] [(.int (1 : Int32))])) _
    refine XS.istore X14.here hx rfl (hb hby at_179) rfl (l' := #[.val (.int p1), .val (.int p2), .val (.int p3), .val (.ref b4), .val (.ref b6), .val (.ref b6), .val (.ref b6), .val (.int (p1 &&& (3 : Int32))), .val (.ref uC), .val (.int (1 : Int32)), .val (.ref uC), .val (.int (1 : Int32)), .unset]) rfl ?_
    show Steps _ _ _ (T14.setTop (mkF m 181 #[.val (.int p1), .val (.int p2), .val (.int p3), .val (.ref b4), .val (.ref b6), .val (.ref b6), .val (.ref b6), .val (.int (p1 &&& (3 : Int32))), .val (.ref uC), .val (.int (1 : Int32)), .val (.ref uC), .val (.int (1 : Int32)), .unset] [])) _
    refine XS.aload X14.here hx rfl (hb hby at_181) rfl rfl ?_
    show Steps _ _ _ (T14.setTop (mkF m 183 #[.val (.int p1), .val (.int p2), .val (.int p3), .val (.ref b4), .val (.ref b6), .val (.ref b6), .val (.ref b6), .val (.int (p1 &&& (3 : Int32))), .val (.ref uC), .val (.int (1 : Int32)), .val (.ref uC), .val (.int (1 : Int32)), .unset] [(.ref b6)])) _
    refine st15.trans ?_
    show Steps _ _ _ (T15.setTop (mkF m 186 #[.val (.int p1), .val (.int p2), .val (.int p3), .val (.ref b4), .val (.ref b6), .val (.ref b6), .val (.ref b6), .val (.int (p1 &&& (3 : Int32))), .val (.ref uC), .val (.int (1 : Int32)), .val (.ref uC), .val (.int (1 : Int32)), .unset] [.null])) _
    refine XS.astore X15.here hx rfl (hb hby at_186) rfl rfl (l' := #[.val (.int p1), .val (.int p2), .val (.int p3), .val (.ref b4), .val (.ref b6), .val (.ref b6), .val (.ref b6), .val (.int (p1 &&& (3 : Int32))), .val (.ref uC), .val (.int (1 : Int32)), .val (.ref uC), .val (.int (1 : Int32)), .val .null]) rfl ?_
    show Steps _ _ _ (T15.setTop (mkF m 188 #[.val (.int p1), .val (.int p2), .val (.int p3), .val (.ref b4), .val (.ref b6), .val (.ref b6), .val (.ref b6), .val (.int (p1 &&& (3 : Int32))), .val (.ref uC), .val (.int (1 : Int32)), .val (.ref uC), .val (.int (1 : Int32)), .val .null] [])) _
    refine XS.iload X15.here hx rfl (hb hby at_188) rfl ?_
    show Steps _ _ _ (T15.setTop (mkF m 190 #[.val (.int p1), .val (.int p2), .val (.int p3), .val (.ref b4), .val (.ref b6), .val (.ref b6), .val (.ref b6), .val (.int (p1 &&& (3 : Int32))), .val (.ref uC), .val (.int (1 : Int32)), .val (.ref uC), .val (.int (1 : Int32)), .val .null] [(.int (1 : Int32))])) _
    refine XS.ifNo X15.here hx rfl (hb hby at_190) rfl ((if0 _ _).trans (feq hc190).1) ?_
    show Steps _ _ _ (T15.setTop (mkF m 193 #[.val (.int p1), .val (.int p2), .val (.int p3), .val (.ref b4), .val (.ref b6), .val (.ref b6), .val (.ref b6), .val (.int (p1 &&& (3 : Int32))), .val (.ref uC), .val (.int (1 : Int32)), .val (.ref uC), .val (.int (1 : Int32)), .val .null] [])) _
    refine XS.aload X15.here hx rfl (hb hby at_193) rfl rfl ?_
    show Steps _ _ _ (T15.setTop (mkF m 195 #[.val (.int p1), .val (.int p2), .val (.int p3), .val (.ref b4), .val (.ref b6), .val (.ref b6), .val (.ref b6), .val (.int (p1 &&& (3 : Int32))), .val (.ref uC), .val (.int (1 : Int32)), .val (.ref uC), .val (.int (1 : Int32)), .val .null] [(.ref uC)])) _
    refine XS.aload X15.here hx rfl (hb hby at_195) rfl rfl ?_
    show Steps _ _ _ (T15.setTop (mkF m 197 #[.val (.int p1), .val (.int p2), .val (.int p3), .val (.ref b4), .val (.ref b6), .val (.ref b6), .val (.ref b6), .val (.int (p1 &&& (3 : Int32))), .val (.ref uC), .val (.int (1 : Int32)), .val (.ref uC), .val (.int (1 : Int32)), .val .null] [(.ref uC), (.ref uC)])) _
    refine Jvm.RoadKit.acmp (g := (mkF m 197 #[.val (.int p1), .val (.int p2), .val (.int p3), .val (.ref b4), .val (.ref b6), .val (.ref b6), .val (.ref b6), .val (.int (p1 &&& (3 : Int32))), .val (.ref uC), .val (.int (1 : Int32)), .val (.ref uC), .val (.int (1 : Int32)), .val .null] [(.ref uC), (.ref uC)])) X15 hx rfl rfl rfl (pc0 := 197) (pc' := 200) (same := true) rfl (hb hby at_197) rfl (decide_eq_true rfl) (by decide) (by decide) ?_
    show Steps _ _ _ (T15.setTop (mkF m 200 #[.val (.int p1), .val (.int p2), .val (.int p3), .val (.ref b4), .val (.ref b6), .val (.ref b6), .val (.ref b6), .val (.int (p1 &&& (3 : Int32))), .val (.ref uC), .val (.int (1 : Int32)), .val (.ref uC), .val (.int (1 : Int32)), .val .null] [])) _
    refine XS.iload X15.here hx rfl (hb hby at_200) rfl ?_
    show Steps _ _ _ (T15.setTop (mkF m 202 #[.val (.int p1), .val (.int p2), .val (.int p3), .val (.ref b4), .val (.ref b6), .val (.ref b6), .val (.ref b6), .val (.int (p1 &&& (3 : Int32))), .val (.ref uC), .val (.int (1 : Int32)), .val (.ref uC), .val (.int (1 : Int32)), .val .null] [(.int (1 : Int32))])) _
    refine XS.ifNo X15.here hx rfl (hb hby at_202) rfl ((if0 _ _).trans (feq hc202).1) ?_
    show Steps _ _ _ (T15.setTop (mkF m 205 #[.val (.int p1), .val (.int p2), .val (.int p3), .val (.ref b4), .val (.ref b6), .val (.ref b6), .val (.ref b6), .val (.int (p1 &&& (3 : Int32))), .val (.ref uC), .val (.int (1 : Int32)), .val (.ref uC), .val (.int (1 : Int32)), .val .null] [])) _
    refine XS.aload X15.here hx rfl (hb hby at_205) rfl rfl ?_
    show Steps _ _ _ (T15.setTop (mkF m 207 #[.val (.int p1), .val (.int p2), .val (.int p3), .val (.ref b4), .val (.ref b6), .val (.ref b6), .val (.ref b6), .val (.int (p1 &&& (3 : Int32))), .val (.ref uC), .val (.int (1 : Int32)), .val (.ref uC), .val (.int (1 : Int32)), .val .null] [.null])) _
    refine XS.ifnonnullNo X15.here hx rfl (hb hby at_207) rfl ?_
    show Steps _ _ _ (T15.setTop (mkF m 210 #[.val (.int p1), .val (.int p2), .val (.int p3), .val (.ref b4), .val (.ref b6), .val (.ref b6), .val (.ref b6), .val (.int (p1 &&& (3 : Int32))), .val (.ref uC), .val (.int (1 : Int32)), .val (.ref uC), .val (.int (1 : Int32)), .val .null] [])) _
    refine XS.iconst X15.here hx rfl (hb hby at_210) ?_
    show Steps _ _ _ (T15.setTop (mkF m 211 #[.val (.int p1), .val (.int p2), .val (.int p3), .val (.ref b4), .val (.ref b6), .val (.ref b6), .val (.ref b6), .val (.int (p1 &&& (3 : Int32))), .val (.ref uC), .val (.int (1 : Int32)), .val (.ref uC), .val (.int (1 : Int32)), .val .null] [(.int (1 : Int32))])) _
    refine XS.goto X15.here hx rfl (pc0 := 211) (pc' := 215) rfl (hb hby at_211) (by decide) (by decide) ?_
    show Steps _ _ _ (T15.setTop (mkF m 215 #[.val (.int p1), .val (.int p2), .val (.int p3), .val (.ref b4), .val (.ref b6), .val (.ref b6), .val (.ref b6), .val (.int (p1 &&& (3 : Int32))), .val (.ref uC), .val (.int (1 : Int32)), .val (.ref uC), .val (.int (1 : Int32)), .val .null] [(.int (1 : Int32))])) _
    exact retN X15 hx (t := .boolean) Bd.returns (by simp) (hb hby at_215) hr
  · show Q0 Z p1 p2 p3 uB uC h0 n0 _ T15.heap _
    exact ⟨rfl, N15⟩
-- 2. THE CONTRACT: what this body leaves is yours
-- its room: frames: the greatest, locals: the greatest, cells 4 + .., slots 32 + ..: rm1: frames + 1; locals 1 + 3 + 11 + its room's locals; its cells and slots besides; rm5: frames + 1; locals 1 + 2 + 11 + its room's locals; its cells and slots besides; rm9: frames + 1; locals 0 + 2 + 11 + its room's locals; its cells and slots besides; rm9: frames + 1; locals 0 + 2 + 11 + its room's locals; its cells and slots besides; rm7: frames + 1; locals 0 + 1 + 11 + its room's locals; its cells and slots besides; rm8: frames + 1; locals 0 + 2 + 11 + its room's locals; its cells and slots besides; rm7: frames + 1; locals 0 + 1 + 11 + its room's locals; its cells and slots besides; rm7: frames + 1; locals 0 + 1 + 11 + its room's locals; its cells and slots besides; rm8: frames + 1; locals 0 + 2 + 11 + its room's locals; its cells and slots besides
set_option maxRecDepth 65536 in
set_option maxHeartbeats 40000000 in
theorem rm0_ff3 (l : Launch) (Z : State) (a0 : Array Value) (hw : ∀ d ∈ tables_1, d.before a0 Z = true) (ws : List Jvm.Cond) (p1 : Int32) (p2 : Int32) (p3 : Int32) (uB : Addr) (uC : Addr) (h0 : Heap) (n0 : Nat) (Z0 : n0 ≤ h0.size) (S_BREAK : Sta Z h0 "com/example/transom/transom/Scope$Jump" "BREAK" "Lcom/example/transom/transom/Scope$Jump;" (.ref uB)) (S_CONTINUE : Sta Z h0 "com/example/transom/transom/Scope$Jump" "CONTINUE" "Lcom/example/transom/transom/Scope$Jump;" (.ref uC)) (hc23 : ¬ ((p2 &&& (1 : Int32)) = (0 : Int32))) (hc37 : ¬ ((p3 &&& (1 : Int32)) = (0 : Int32))) (hc59 : ¬ ((p1 &&& (3 : Int32)) = (1 : Int32))) (hc81 : ¬ ((p1 &&& (3 : Int32)) = (2 : Int32))) (hc103 : (p1 &&& (3 : Int32)) = (3 : Int32)) (hc190 : ¬ ((1 : Int32) = (0 : Int32))) (hc202 : ¬ ((1 : Int32) = (0 : Int32))) :
    MetFree l x (head1 (Jvm.Cond.code x code maxLocals ret :: ws) room_1) (fun a U => a = #[(.int p1), (.int p2), (.int p3)] ∧ Z.Warmed39 U.vm ∧ U.heap = h0) (fun _ _ _ _ _ => True) (fun _ U o U' => ∃ v L, o = .returned v ∧ Q0 Z p1 p2 p3 uB uC h0 n0 v U'.heap L ∧ FrameEnd U o U' L room_1.cells room_1.slots) := by
  refine MetFree.of_bodySF (plainFor_of_name pn_0) hisR ?_
  intro p e s m args below meth c s₁ Bd hml0 hP hK
  obtain ⟨rfl, hZ, hh⟩ := hP
  have hx := Bd.exec
  have hby := Bd.bytes
  have hml : c.maxLocals = 13 := hml0
  have hown : s.vm.findClass "com/example/transom/transom/ScopeLandPinLaw" = some m.cls := findClass_of_methodNamed Bd.named
  have hnm := (name_of_methodNamed Bd.named Bd.method).1
  have X0 : Stand p l e room_1 s m #[(.int p1), (.int p2), (.int p3)] below meth c s₁ [] 0 0 := Stand.of_body Bd
  have e0 : s₁.heap = h0 := by rw [← hh, Bd.state]; rfl
  have N0 := Fr.nil n0
  have pre0 : ∀ t, Steps p.tables e below (s₁.setTop (mkF m 0 #[.val (.int p1), .val (.int p2), .val (.int p3), .unset, .unset, .unset, .unset, .unset, .unset, .unset, .unset, .unset, .unset] [])) t → Steps p.tables e below (s₁.setTop (entryFrame m #[(.int p1), (.int p2), (.int p3)] maxLocals)) t := fun t k => castTop (ef_0 m p1 p2 p3) k
  obtain ⟨T4, h4, X4, e4, E4, A4, D4, -, st4⟩ := newO X0 hx hZ hown (ww hw 0 rfl) (ww hw 1 rfl) (ww hw 2 rfl) e0 (g := (mkF m 0 #[.val (.int p1), .val (.int p2), .val (.int p3), .unset, .unset, .unset, .unset, .unset, .unset, .unset, .unset, .unset, .unset] [])) rfl (hb hby at_0) (by decide) (by decide)
  obtain ⟨b4, g4⟩ : ∃ z, z = h0.size := ⟨_, rfl⟩
  rw [← g4] at A4 D4 st4
  have F_values_b4 : Fld Z h4 b4 "com/example/transom/transom/Scope" "values" "Ljava/util/Map;" .null := D4 (Or.inr (ww hw 26 rfl)) (ty := (.object "java/util/Map")) (by decide)
  have F_parent_b4 : Fld Z h4 b4 "com/example/transom/transom/Scope" "parent" "Lcom/example/transom/transom/Scope;" .null := D4 (Or.inr (ww hw 28 rfl)) (ty := (.object "com/example/transom/transom/Scope")) (by decide)
  have F_top_b4 : Fld Z h4 b4 "com/example/transom/transom/Scope" "top" "Lcom/example/transom/transom/Scope;" .null := D4 (Or.inr (ww hw 30 rfl)) (ty := (.object "com/example/transom/transom/Scope")) (by decide)
  have F_model_b4 : Fld Z h4 b4 "com/example/transom/transom/Scope" "model" "Ljava/util/Map;" .null := D4 (Or.inr (ww hw 32 rfl)) (ty := (.object "java/util/Map")) (by decide)
  have F_template_b4 : Fld Z h4 b4 "com/example/transom/transom/Scope" "template" "Lcom/example/transom/transom/Template;" .null := D4 (Or.inr (ww hw 34 rfl)) (ty := (.object "com/example/transom/transom/Template")) (by decide)
  have F_renderer_b4 : Fld Z h4 b4 "com/example/transom/transom/Scope" "renderer" "Lcom/example/transom/transom/Scope;" .null := D4 (Or.inr (ww hw 36 rfl)) (ty := (.object "com/example/transom/transom/Scope")) (by decide)
  have F_calls_b4 : Fld Z h4 b4 "com/example/transom/transom/Scope" "calls" "I" (.int (0 : Int32)) := D4 (Or.inr (ww hw 38 rfl)) (ty := .int) (by decide)
  have F_jump_b4 : Fld Z h4 b4 "com/example/transom/transom/Scope" "jump" "Lcom/example/transom/transom/Scope$Jump;" .null := D4 (Or.inl (ww hw 51 rfl)) (ty := (.object "com/example/transom/transom/Scope$Jump")) (by decide)
  have E_b4 := A4
  have g_b4 : n0 ≤ b4 := Nat.le_trans Z0 (Nat.le_of_eq g4.symm)
  have sz_b4 : h0.size ≤ b4 := (Nat.le_trans (Keep.refl h0 []).1 (Nat.le_of_eq g4.symm))
  have K4 : Keep h0 h4 [] := (Keep.refl h0 []).ext E4
  obtain ⟨_, _, ⟨T5, L5, k5, n5⟩, -, X5, ⟨Lc5, hQ5, l5, y5, z5⟩, st5⟩ := X4.specialBack hx (y := (⟨"com/example/transom/transom/Scope", "<init>", "(Ljava/util/Map;Lcom/example/transom/transom/Template;)V"⟩ : MethodName)) rfl hown (mvT hZ (ww hw 3 rfl)) (mvT hZ (ww hw 4 rfl)) (mvT hZ (ww hw 5 rfl)) (by decide) (backOf (W := 1) (rm1 l Z a0 hw [] b4 _ _ _ _ _ _ _  h4 n0 (Nat.le_trans Z0 E4.1) F_jump_b4 E_b4 F_values_b4 g_b4 F_parent_b4 F_top_b4 F_model_b4 F_template_b4 F_renderer_b4 F_calls_b4) hZ (ww hw 5 rfl) (ww hw 2 rfl) (by decide) (by decide)) (g := (mkF m 6 #[.val (.int p1), .val (.int p2), .val (.int p3), .unset, .unset, .unset, .unset, .unset, .unset, .unset, .unset, .unset, .unset] [.null, .null, (.ref b4), (.ref b4)])) rfl (by rw [hml]; rfl) (Steps.refl _) (a := b4) (argsL := [.null, .null]) (rest := [(.ref b4)]) (lenOf pd_0_0 rfl) rfl (by show 2 * 0 + _ ≤ _; exact Nat.le_of_eq rfl) (hb hby at_6) (fun _ _ => ⟨rfl, e4, (by decide : 1 + 1 ≤ _), (by decide : 8 + 8 ≤ _)⟩)
  dsimp only [Pt.U, Pt.locs, Pt.cells, Pt.slots] at X5 l5 y5 z5 st5 hQ5
  subst l5 y5 z5
  obtain ⟨rfl, N5q, Kc5, Ec5, Ftop5, Fmodel5, Ftemplate5, Frenderer5, Fcalls5, Fjump5⟩ := hQ5
  have N5 := Fr.app N0 N5q
  have S_BREAK_5 := own_stak (S_BREAK.ext E4) Kc5 (allS (own_nst E_b4) all0)
  have S_CONTINUE_5 := own_stak (S_CONTINUE.ext E4) Kc5 (allS (own_nst E_b4) all0)
  have K5 : Keep h0 T5.heap [] := K4.trans Kc5 (allS (Or.inr sz_b4) all0)
  obtain ⟨T6, h6, X6, e6, E6, A6, D6, -, st6⟩ := newO X5 hx hZ hown (ww hw 0 rfl) (ww hw 1 rfl) (ww hw 2 rfl) rfl (g := (mkF m 10 #[.val (.int p1), .val (.int p2), .val (.int p3), .val (.ref b4), .unset, .unset, .unset, .unset, .unset, .unset, .unset, .unset, .unset] [])) rfl (hb hby at_10) (by decide) (by decide)
  obtain ⟨b6, g6⟩ : ∃ z, z = T5.heap.size := ⟨_, rfl⟩
  rw [← g6] at A6 D6 st6
  have F_values_b6 : Fld Z h6 b6 "com/example/transom/transom/Scope" "values" "Ljava/util/Map;" .null := D6 (Or.inr (ww hw 26 rfl)) (ty := (.object "java/util/Map")) (by decide)
  have F_parent_b6 : Fld Z h6 b6 "com/example/transom/transom/Scope" "parent" "Lcom/example/transom/transom/Scope;" .null := D6 (Or.inr (ww hw 28 rfl)) (ty := (.object "com/example/transom/transom/Scope")) (by decide)
  have F_top_b6 : Fld Z h6 b6 "com/example/transom/transom/Scope" "top" "Lcom/example/transom/transom/Scope;" .null := D6 (Or.inr (ww hw 30 rfl)) (ty := (.object "com/example/transom/transom/Scope")) (by decide)
  have F_model_b6 : Fld Z h6 b6 "com/example/transom/transom/Scope" "model" "Ljava/util/Map;" .null := D6 (Or.inr (ww hw 32 rfl)) (ty := (.object "java/util/Map")) (by decide)
  have F_template_b6 : Fld Z h6 b6 "com/example/transom/transom/Scope" "template" "Lcom/example/transom/transom/Template;" .null := D6 (Or.inr (ww hw 34 rfl)) (ty := (.object "com/example/transom/transom/Template")) (by decide)
  have F_renderer_b6 : Fld Z h6 b6 "com/example/transom/transom/Scope" "renderer" "Lcom/example/transom/transom/Scope;" .null := D6 (Or.inr (ww hw 36 rfl)) (ty := (.object "com/example/transom/transom/Scope")) (by decide)
  have F_calls_b6 : Fld Z h6 b6 "com/example/transom/transom/Scope" "calls" "I" (.int (0 : Int32)) := D6 (Or.inr (ww hw 38 rfl)) (ty := .int) (by decide)
  have F_jump_b6 : Fld Z h6 b6 "com/example/transom/transom/Scope" "jump" "Lcom/example/transom/transom/Scope$Jump;" .null := D6 (Or.inl (ww hw 51 rfl)) (ty := (.object "com/example/transom/transom/Scope$Jump")) (by decide)
  have E_b6 := A6
  have g_b6 : n0 ≤ b6 := Nat.le_trans (Nat.le_trans (Nat.le_trans Z0 E4.1) Kc5.1) (Nat.le_of_eq g6.symm)
  have sz_b6 : h0.size ≤ b6 := (Nat.le_trans K5.1 (Nat.le_of_eq g6.symm))
  have K6 : Keep h0 h6 [] := K5.ext E6
  obtain ⟨_, _, ⟨T7, L7, k7, n7⟩, -, X7, ⟨Lc7, hQ7, l7, y7, z7⟩, st7⟩ := X6.specialBack hx (y := (⟨"com/example/transom/transom/Scope", "<init>", "(Lcom/example/transom/transom/Scope;)V"⟩ : MethodName)) rfl hown (mvT hZ (ww hw 39 rfl)) (mvT hZ (ww hw 40 rfl)) (mvT hZ (ww hw 41 rfl)) (by decide) (backOf (W := 1) (rm5 l Z a0 hw [] b6 b4 b4 (0 : Int32) h6 n0 (Nat.le_trans (Nat.le_trans (Nat.le_trans Z0 E4.1) Kc5.1) E6.1) (Nat.ne_of_lt (Nat.lt_of_lt_of_le (E_b4.keep Kc5).lt (Nat.le_of_eq g6.symm))) E_b6 F_values_b6 F_parent_b6 F_top_b6 F_model_b6 F_template_b6 F_renderer_b6 F_calls_b6 g_b6 (Ftop5.ext E6) (Fmodel5.ext E6) (Ftemplate5.ext E6) (Frenderer5.ext E6) (Fcalls5.ext E6)) hZ (ww hw 41 rfl) (ww hw 2 rfl) (by decide) (by decide)) (g := (mkF m 15 #[.val (.int p1), .val (.int p2), .val (.int p3), .val (.ref b4), .unset, .unset, .unset, .unset, .unset, .unset, .unset, .unset, .unset] [(.ref b4), (.ref b6), (.ref b6)])) rfl (by rw [hml]; rfl) (Steps.refl _) (a := b6) (argsL := [(.ref b4)]) (rest := [(.ref b6)]) (lenOf pd_0_2 rfl) rfl (by show 2 * 0 + _ ≤ _; exact Nat.le_of_eq rfl) (hb hby at_15) (fun _ _ => ⟨rfl, e6, (by decide : 3 + 1 ≤ _), (by decide : 24 + 8 ≤ _)⟩)
  dsimp only [Pt.U, Pt.locs, Pt.cells, Pt.slots] at X7 l7 y7 z7 st7 hQ7
  subst l7 y7 z7
  obtain ⟨rfl, N7q, Kc7, Ec7, Ft7⟩ := hQ7
  have N7 := Fr.app N5 N7q
  have S_BREAK_7 := own_stak (S_BREAK_5.ext E6) Kc7 (allS (own_nst E_b6) all0)
  have S_CONTINUE_7 := own_stak (S_CONTINUE_5.ext E6) Kc7 (allS (own_nst E_b6) all0)
  have K7 : Keep h0 T7.heap [] := K6.trans Kc7 (allS (Or.inr sz_b6) all0)
  obtain ⟨T8, X8, e8, st8⟩ := getS2 X7 hx hZ hown (host := "") (Or.inl (ww hw 57 rfl)) Via.refl rfl S_BREAK_7 (g := (mkF m 108 #[.val (.int p1), .val (.int p2), .val (.int p3), .val (.ref b4), .val (.ref b6), .val (.ref b6), .val (.ref b6), .val (.int (p1 &&& (3 : Int32))), .val .null, .unset, .unset, .unset, .unset] [(.ref b6)])) rfl (hb hby at_108)
  obtain ⟨cq9, kq9, q9a, q9b, q9c⟩ := isOf hZ e8 (E_b6.keep Kc7)
  obtain ⟨_, _, ⟨T9, L9, k9, n9⟩, -, X9, ⟨Lc9, hQ9, l9, y9, z9⟩, st9⟩ := X8.virtualBack hx (y := (⟨"com/example/transom/transom/Scope", "jump", "(Lcom/example/transom/transom/Scope$Jump;)V"⟩ : MethodName)) (z := (⟨"com/example/transom/transom/Scope", "jump", "(Lcom/example/transom/transom/Scope$Jump;)V"⟩ : MethodName)) hown (mvT hZ (ww hw 60 rfl)) (mvT hZ (ww hw 61 rfl)) (notFace_of_selects (args := #[]) (mvT hZ (ww hw 63 rfl))) (mvT hZ (ww hw 63 rfl)) (mvT hZ (ww hw 62 rfl)) (by decide) (backOf (W := 0) (rmS l Z a0 hw [] b6 uB b4 _ T7.heap n0 (Nat.le_trans (Nat.le_trans (Nat.le_trans (Nat.le_trans Z0 E4.1) Kc5.1) E6.1) Kc7.1) ((Ftop5.ext E6).keep Kc7 (ninS (Nat.ne_of_lt (Nat.lt_of_lt_of_le (E_b4.keep Kc5).lt (Nat.le_of_eq g6.symm))) nin0)) Ft7 (((E_b4.keep Kc5).ext E6).keep Kc7) ((Fjump5.ext E6).keep Kc7 (ninS (Nat.ne_of_lt (Nat.lt_of_lt_of_le (E_b4.keep Kc5).lt (Nat.le_of_eq g6.symm))) nin0)) g_b4) hZ (ww hw 64 rfl) (ww hw 2 rfl) (by decide) (by decide)) q9a q9c (g := (mkF m 111 #[.val (.int p1), .val (.int p2), .val (.int p3), .val (.ref b4), .val (.ref b6), .val (.ref b6), .val (.ref b6), .val (.int (p1 &&& (3 : Int32))), .val .null, .unset, .unset, .unset, .unset] [(.ref uB), (.ref b6)])) rfl (by rw [hml]; rfl) (Steps.refl _) (argsL := [(.ref uB)]) (rest := []) (lenOf pd_0_6 rfl) rfl (by show 2 * 0 + _ ≤ _; exact Nat.le_of_eq rfl) (hb hby at_111) (fun _ _ => ⟨rfl, e8, (by decide : 4 + 0 ≤ _), (by decide : 32 + 0 ≤ _)⟩)
  dsimp only [Pt.U, Pt.locs, Pt.cells, Pt.slots] at X9 l9 y9 z9 st9 hQ9
  subst l9 y9 z9
  obtain ⟨rfl, N9q, Kc9, Fj9, Ft9⟩ := hQ9
  have N9 := Fr.app N7 N9q
  have S_BREAK_9 := own_stak S_BREAK_7 Kc9 (allS (own_nst (((E_b4.keep Kc5).ext E6).keep Kc7)) all0)
  have S_CONTINUE_9 := own_stak S_CONTINUE_7 Kc9 (allS (own_nst (((E_b4.keep Kc5).ext E6).keep Kc7)) all0)
  have K9 : Keep h0 T9.heap [] := K7.trans Kc9 (allS (Or.inr sz_b4) all0)
  obtain ⟨T10, X10, e10, st10⟩ := getS2 X9 hx hZ hown (host := "") (Or.inl (ww hw 65 rfl)) Via.refl rfl S_CONTINUE_9 (g := (mkF m 116 #[.val (.int p1), .val (.int p2), .val (.int p3), .val (.ref b4), .val (.ref b6), .val (.ref b6), .val (.ref b6), .val (.int (p1 &&& (3 : Int32))), .val .null, .unset, .unset, .unset, .unset] [(.ref b6)])) rfl (hb hby at_116)
  obtain ⟨cq11, kq11, q11a, q11b, q11c⟩ := isOf hZ e10 ((E_b6.keep Kc7).keep Kc9)
  obtain ⟨_, _, ⟨T11, L11, k11, n11⟩, -, X11, ⟨Lc11, hQ11, l11, y11, z11⟩, st11⟩ := X10.virtualBack hx (y := (⟨"com/example/transom/transom/Scope", "jump", "(Lcom/example/transom/transom/Scope$Jump;)V"⟩ : MethodName)) (z := (⟨"com/example/transom/transom/Scope", "jump", "(Lcom/example/transom/transom/Scope$Jump;)V"⟩ : MethodName)) hown (mvT hZ (ww hw 60 rfl)) (mvT hZ (ww hw 61 rfl)) (notFace_of_selects (args := #[]) (mvT hZ (ww hw 63 rfl))) (mvT hZ (ww hw 63 rfl)) (mvT hZ (ww hw 62 rfl)) (by decide) (backOf (W := 0) (rmS l Z a0 hw [] b6 uC b4 _ T9.heap n0 (Nat.le_trans (Nat.le_trans (Nat.le_trans (Nat.le_trans (Nat.le_trans Z0 E4.1) Kc5.1) E6.1) Kc7.1) Kc9.1) Ft9 (Ft7.keep Kc9 (ninS (Ne.symm (Nat.ne_of_lt (Nat.lt_of_lt_of_le (E_b4.keep Kc5).lt (Nat.le_of_eq g6.symm)))) nin0)) ((((E_b4.keep Kc5).ext E6).keep Kc7).keep Kc9) Fj9 g_b4) hZ (ww hw 64 rfl) (ww hw 2 rfl) (by decide) (by decide)) q11a q11c (g := (mkF m 119 #[.val (.int p1), .val (.int p2), .val (.int p3), .val (.ref b4), .val (.ref b6), .val (.ref b6), .val (.ref b6), .val (.int (p1 &&& (3 : Int32))), .val .null, .unset, .unset, .unset, .unset] [(.ref uC), (.ref b6)])) rfl (by rw [hml]; rfl) (Steps.refl _) (argsL := [(.ref uC)]) (rest := []) (lenOf pd_0_6 rfl) rfl (by show 2 * 0 + _ ≤ _; exact Nat.le_of_eq rfl) (hb hby at_119) (fun _ _ => ⟨rfl, e10, (by decide : 4 + 0 ≤ _), (by decide : 32 + 0 ≤ _)⟩)
  dsimp only [Pt.U, Pt.locs, Pt.cells, Pt.slots] at X11 l11 y11 z11 st11 hQ11
  subst l11 y11 z11
  obtain ⟨rfl, N11q, Kc11, Fj11, Ft11⟩ := hQ11
  have N11 := Fr.app N9 N11q
  have S_BREAK_11 := own_stak S_BREAK_9 Kc11 (allS (own_nst ((((E_b4.keep Kc5).ext E6).keep Kc7).keep Kc9)) all0)
  have S_CONTINUE_11 := own_stak S_CONTINUE_9 Kc11 (allS (own_nst ((((E_b4.keep Kc5).ext E6).keep Kc7).keep Kc9)) all0)
  have K11 : Keep h0 T11.heap [] := K9.trans Kc11 (allS (Or.inr sz_b4) all0)
  obtain ⟨T12, X12, e12, st12⟩ := getS2 X11 hx hZ hown (host := "") (Or.inl (ww hw 65 rfl)) Via.refl rfl S_CONTINUE_11 (g := (mkF m 122 #[.val (.int p1), .val (.int p2), .val (.int p3), .val (.ref b4), .val (.ref b6), .val (.ref b6), .val (.ref b6), .val (.int (p1 &&& (3 : Int32))), .val .null, .unset, .unset, .unset, .unset] [])) rfl (hb hby at_122)
  obtain ⟨cq13, kq13, q13a, q13b, q13c⟩ := isOf hZ e12 (((E_b6.keep Kc7).keep Kc9).keep Kc11)
  obtain ⟨_, _, ⟨T13, L13, k13, n13⟩, -, X13, ⟨Lc13, hQ13, l13, y13, z13⟩, st13⟩ := X12.virtualBack hx (y := (⟨"com/example/transom/transom/Scope", "jumping", "()Z"⟩ : MethodName)) (z := (⟨"com/example/transom/transom/Scope", "jumping", "()Z"⟩ : MethodName)) hown (mvT hZ (ww hw 45 rfl)) (mvT hZ (ww hw 46 rfl)) (notFace_of_selects (args := #[]) (mvT hZ (ww hw 48 rfl))) (mvT hZ (ww hw 48 rfl)) (mvT hZ (ww hw 47 rfl)) (by decide) (backOf (W := 0) (rmJr l Z a0 hw [] b6 b4 uC T11.heap n0 (Nat.le_trans (Nat.le_trans (Nat.le_trans (Nat.le_trans (Nat.le_trans (Nat.le_trans Z0 E4.1) Kc5.1) E6.1) Kc7.1) Kc9.1) Kc11.1) ((Ft7.keep Kc9 (ninS (Ne.symm (Nat.ne_of_lt (Nat.lt_of_lt_of_le (E_b4.keep Kc5).lt (Nat.le_of_eq g6.symm)))) nin0)).keep Kc11 (ninS (Ne.symm (Nat.ne_of_lt (Nat.lt_of_lt_of_le (E_b4.keep Kc5).lt (Nat.le_of_eq g6.symm)))) nin0)) Fj11) hZ (ww hw 49 rfl) (ww hw 2 rfl) (by decide) (by decide)) q13a q13c (g := (mkF m 129 #[.val (.int p1), .val (.int p2), .val (.int p3), .val (.ref b4), .val (.ref b6), .val (.ref b6), .val (.ref b6), .val (.int (p1 &&& (3 : Int32))), .val (.ref uC), .unset, .unset, .unset, .unset] [(.ref b6)])) rfl (by rw [hml]; rfl) (Steps.refl _) (argsL := []) (rest := []) (lenOf pd_0_4 rfl) rfl (by show 2 * 0 + _ ≤ _; exact Nat.le_of_eq rfl) (hb hby at_129) (fun _ _ => ⟨rfl, e12, (by decide : 4 + 0 ≤ _), (by decide : 32 + 0 ≤ _)⟩)
  dsimp only [Pt.U, Pt.locs, Pt.cells, Pt.slots] at X13 l13 y13 z13 st13 hQ13
  subst l13 y13 z13
  obtain ⟨rfl, N13q, eh13⟩ := hQ13
  have N13 := Fr.app N11 N13q
  obtain ⟨cq14, kq14, q14a, q14b, q14c⟩ := isOf hZ eh13 (((E_b6.keep Kc7).keep Kc9).keep Kc11)
  obtain ⟨_, _, ⟨T14, L14, k14, n14⟩, -, X14, ⟨Lc14, hQ14, l14, y14, z14⟩, st14⟩ := X13.virtualBack hx (y := (⟨"com/example/transom/transom/Scope", "land", "()Lcom/example/transom/transom/Scope$Jump;"⟩ : MethodName)) (z := (⟨"com/example/transom/transom/Scope", "land", "()Lcom/example/transom/transom/Scope$Jump;"⟩ : MethodName)) hown (mvT hZ (ww hw 52 rfl)) (mvT hZ (ww hw 53 rfl)) (notFace_of_selects (args := #[]) (mvT hZ (ww hw 55 rfl))) (mvT hZ (ww hw 55 rfl)) (mvT hZ (ww hw 54 rfl)) (by decide) (backOf (W := 0) (rmLr l Z a0 hw [] b6 b4 uC T11.heap n0 (Nat.le_trans (Nat.le_trans (Nat.le_trans (Nat.le_trans (Nat.le_trans (Nat.le_trans Z0 E4.1) Kc5.1) E6.1) Kc7.1) Kc9.1) Kc11.1) Ft11 ((Ft7.keep Kc9 (ninS (Ne.symm (Nat.ne_of_lt (Nat.lt_of_lt_of_le (E_b4.keep Kc5).lt (Nat.le_of_eq g6.symm)))) nin0)).keep Kc11 (ninS (Ne.symm (Nat.ne_of_lt (Nat.lt_of_lt_of_le (E_b4.keep Kc5).lt (Nat.le_of_eq g6.symm)))) nin0)) Fj11 (((((E_b4.keep Kc5).ext E6).keep Kc7).keep Kc9).keep Kc11) g_b4) hZ (ww hw 56 rfl) (ww hw 2 rfl) (by decide) (by decide)) q14a q14c (g := (mkF m 154 #[.val (.int p1), .val (.int p2), .val (.int p3), .val (.ref b4), .val (.ref b6), .val (.ref b6), .val (.ref b6), .val (.int (p1 &&& (3 : Int32))), .val (.ref uC), .val (.int (1 : Int32)), .unset, .unset, .unset] [(.ref b6)])) rfl (by rw [hml]; rfl) (Steps.refl _) (argsL := []) (rest := []) (lenOf pd_0_5 rfl) rfl (by show 2 * 0 + _ ≤ _; exact Nat.le_of_eq rfl) (hb hby at_154) (fun _ _ => ⟨rfl, eh13, (by decide : 4 + 0 ≤ _), (by decide : 32 + 0 ≤ _)⟩)
  dsimp only [Pt.U, Pt.locs, Pt.cells, Pt.slots] at X14 l14 y14 z14 st14 hQ14
  subst l14 y14 z14
  obtain ⟨rfl, N14q, Kc14, Fj14, Ft14⟩ := hQ14
  have N14 := Fr.app N13 N14q
  have S_BREAK_14 := own_stak S_BREAK_11 Kc14 (allS (own_nst (((((E_b4.keep Kc5).ext E6).keep Kc7).keep Kc9).keep Kc11)) all0)
  have S_CONTINUE_14 := own_stak S_CONTINUE_11 Kc14 (allS (own_nst (((((E_b4.keep Kc5).ext E6).keep Kc7).keep Kc9).keep Kc11)) all0)
  have K14 : Keep h0 T14.heap [] := K11.trans Kc14 (allS (Or.inr sz_b4) all0)
  obtain ⟨cq15, kq15, q15a, q15b, q15c⟩ := isOf hZ rfl ((((((E_b4.keep Kc5).ext E6).keep Kc7).keep Kc9).keep Kc11).keep Kc14)
  obtain ⟨_, _, ⟨T15, L15, k15, n15⟩, -, X15, ⟨Lc15, hQ15, l15, y15, z15⟩, st15⟩ := X14.virtualBack hx (y := (⟨"com/example/transom/transom/Scope", "jumping", "()Z"⟩ : MethodName)) (z := (⟨"com/example/transom/transom/Scope", "jumping", "()Z"⟩ : MethodName)) hown (mvT hZ (ww hw 45 rfl)) (mvT hZ (ww hw 46 rfl)) (notFace_of_selects (args := #[]) (mvT hZ (ww hw 48 rfl))) (mvT hZ (ww hw 48 rfl)) (mvT hZ (ww hw 47 rfl)) (by decide) (backOf (W := 0) (rmJn l Z a0 hw [] b4 b4 T14.heap n0 (Nat.le_trans (Nat.le_trans (Nat.le_trans (Nat.le_trans (Nat.le_trans (Nat.le_trans (Nat.le_trans Z0 E4.1) Kc5.1) E6.1) Kc7.1) Kc9.1) Kc11.1) Kc14.1) Ft14 Fj14) hZ (ww hw 49 rfl) (ww hw 2 rfl) (by decide) (by decide)) q15a q15c (g := (mkF m 160 #[.val (.int p1), .val (.int p2), .val (.int p3), .val (.ref b4), .val (.ref b6), .val (.ref b6), .val (.ref b6), .val (.int (p1 &&& (3 : Int32))), .val (.ref uC), .val (.int (1 : Int32)), .val (.ref uC), .unset, .unset] [(.ref b4)])) rfl (by rw [hml]; rfl) (Steps.refl _) (argsL := []) (rest := []) (lenOf pd_0_4 rfl) rfl (by show 2 * 0 + _ ≤ _; exact Nat.le_of_eq rfl) (hb hby at_160) (fun _ _ => ⟨rfl, rfl, (by decide : 4 + 0 ≤ _), (by decide : 32 + 0 ≤ _)⟩)
  dsimp only [Pt.U, Pt.locs, Pt.cells, Pt.slots] at X15 l15 y15 z15 st15 hQ15
  subst l15 y15 z15
  obtain ⟨rfl, N15q, eh15⟩ := hQ15
  have N15 := Fr.app N14 N15q
  obtain ⟨cq16, kq16, q16a, q16b, q16c⟩ := isOf hZ eh15 ((((E_b6.keep Kc7).keep Kc9).keep Kc11).keep Kc14)
  obtain ⟨_, _, ⟨T16, L16, k16, n16⟩, -, X16, ⟨Lc16, hQ16, l16, y16, z16⟩, st16⟩ := X15.virtualBack hx (y := (⟨"com/example/transom/transom/Scope", "jumping", "()Z"⟩ : MethodName)) (z := (⟨"com/example/transom/transom/Scope", "jumping", "()Z"⟩ : MethodName)) hown (mvT hZ (ww hw 45 rfl)) (mvT hZ (ww hw 46 rfl)) (notFace_of_selects (args := #[]) (mvT hZ (ww hw 48 rfl))) (mvT hZ (ww hw 48 rfl)) (mvT hZ (ww hw 47 rfl)) (by decide) (backOf (W := 0) (rmJn l Z a0 hw [] b6 b4 T14.heap n0 (Nat.le_trans (Nat.le_trans (Nat.le_trans (Nat.le_trans (Nat.le_trans (Nat.le_trans (Nat.le_trans Z0 E4.1) Kc5.1) E6.1) Kc7.1) Kc9.1) Kc11.1) Kc14.1) (((Ft7.keep Kc9 (ninS (Ne.symm (Nat.ne_of_lt (Nat.lt_of_lt_of_le (E_b4.keep Kc5).lt (Nat.le_of_eq g6.symm)))) nin0)).keep Kc11 (ninS (Ne.symm (Nat.ne_of_lt (Nat.lt_of_lt_of_le (E_b4.keep Kc5).lt (Nat.le_of_eq g6.symm)))) nin0)).keep Kc14 (ninS (Ne.symm (Nat.ne_of_lt (Nat.lt_of_lt_of_le (E_b4.keep Kc5).lt (Nat.le_of_eq g6.symm)))) nin0)) Fj14) hZ (ww hw 49 rfl) (ww hw 2 rfl) (by decide) (by decide)) q16a q16c (g := (mkF m 168 #[.val (.int p1), .val (.int p2), .val (.int p3), .val (.ref b4), .val (.ref b6), .val (.ref b6), .val (.ref b6), .val (.int (p1 &&& (3 : Int32))), .val (.ref uC), .val (.int (1 : Int32)), .val (.ref uC), .unset, .unset] [(.ref b6)])) rfl (by rw [hml]; rfl) (Steps.refl _) (argsL := []) (rest := []) (lenOf pd_0_4 rfl) rfl (by show 2 * 0 + _ ≤ _; exact Nat.le_of_eq rfl) (hb hby at_168) (fun _ _ => ⟨rfl, eh15, (by decide : 4 + 0 ≤ _), (by decide : 32 + 0 ≤ _)⟩)
  dsimp only [Pt.U, Pt.locs, Pt.cells, Pt.slots] at X16 l16 y16 z16 st16 hQ16
  subst l16 y16 z16
  obtain ⟨rfl, N16q, eh16⟩ := hQ16
  have N16 := Fr.app N15 N16q
  obtain ⟨cq17, kq17, q17a, q17b, q17c⟩ := isOf hZ eh16 ((((E_b6.keep Kc7).keep Kc9).keep Kc11).keep Kc14)
  obtain ⟨_, _, ⟨T17, L17, k17, n17⟩, -, X17, ⟨Lc17, hQ17, l17, y17, z17⟩, st17⟩ := X16.virtualBack hx (y := (⟨"com/example/transom/transom/Scope", "land", "()Lcom/example/transom/transom/Scope$Jump;"⟩ : MethodName)) (z := (⟨"com/example/transom/transom/Scope", "land", "()Lcom/example/transom/transom/Scope$Jump;"⟩ : MethodName)) hown (mvT hZ (ww hw 52 rfl)) (mvT hZ (ww hw 53 rfl)) (notFace_of_selects (args := #[]) (mvT hZ (ww hw 55 rfl))) (mvT hZ (ww hw 55 rfl)) (mvT hZ (ww hw 54 rfl)) (by decide) (backOf (W := 0) (rmLn l Z a0 hw [] b6 b4 T14.heap n0 (Nat.le_trans (Nat.le_trans (Nat.le_trans (Nat.le_trans (Nat.le_trans (Nat.le_trans (Nat.le_trans Z0 E4.1) Kc5.1) E6.1) Kc7.1) Kc9.1) Kc11.1) Kc14.1) Ft14 (((Ft7.keep Kc9 (ninS (Ne.symm (Nat.ne_of_lt (Nat.lt_of_lt_of_le (E_b4.keep Kc5).lt (Nat.le_of_eq g6.symm)))) nin0)).keep Kc11 (ninS (Ne.symm (Nat.ne_of_lt (Nat.lt_of_lt_of_le (E_b4.keep Kc5).lt (Nat.le_of_eq g6.symm)))) nin0)).keep Kc14 (ninS (Ne.symm (Nat.ne_of_lt (Nat.lt_of_lt_of_le (E_b4.keep Kc5).lt (Nat.le_of_eq g6.symm)))) nin0)) Fj14 ((((((E_b4.keep Kc5).ext E6).keep Kc7).keep Kc9).keep Kc11).keep Kc14) g_b4) hZ (ww hw 56 rfl) (ww hw 2 rfl) (by decide) (by decide)) q17a q17c (g := (mkF m 183 #[.val (.int p1), .val (.int p2), .val (.int p3), .val (.ref b4), .val (.ref b6), .val (.ref b6), .val (.ref b6), .val (.int (p1 &&& (3 : Int32))), .val (.ref uC), .val (.int (1 : Int32)), .val (.ref uC), .val (.int (1 : Int32)), .unset] [(.ref b6)])) rfl (by rw [hml]; rfl) (Steps.refl _) (argsL := []) (rest := []) (lenOf pd_0_5 rfl) rfl (by show 2 * 0 + _ ≤ _; exact Nat.le_of_eq rfl) (hb hby at_183) (fun _ _ => ⟨rfl, eh16, (by decide : 4 + 0 ≤ _), (by decide : 32 + 0 ≤ _)⟩)
  dsimp only [Pt.U, Pt.locs, Pt.cells, Pt.slots] at X17 l17 y17 z17 st17 hQ17
  subst l17 y17 z17
  obtain ⟨rfl, N17q, Kc17, Fj17, Ft17⟩ := hQ17
  have N17 := Fr.app N16 N17q
  have S_BREAK_17 := own_stak S_BREAK_14 Kc17 (allS (own_nst ((((((E_b4.keep Kc5).ext E6).keep Kc7).keep Kc9).keep Kc11).keep Kc14)) all0)
  have S_CONTINUE_17 := own_stak S_CONTINUE_14 Kc17 (allS (own_nst ((((((E_b4.keep Kc5).ext E6).keep Kc7).keep Kc9).keep Kc11).keep Kc14)) all0)
  have K17 : Keep h0 T17.heap [] := K14.trans Kc17 (allS (Or.inr sz_b4) all0)
  obtain ⟨fs, hr, hrun, hended, hW, hsame⟩ := X17.leave (v := some (.int (1 : Int32))) (fun h => by rw [Bd.returns] at h; cases h)
  refine ⟨_, _, pre0 _ ?_, hrun, hended, _, _, rfl, ?_, ⟨_, rfl⟩, hW, hsame.mono (by decide) (by decide)⟩
  · show Steps _ _ _ (s₁.setTop (mkF m 0 #[.val (.int p1), .val (.int p2), .val (.int p3), .unset, .unset, .unset, .unset, .unset, .unset, .unset, .unset, .unset, .unset] [])) _
    refine st4 _ ?_
    show Steps _ _ _ (T4.setTop (mkF m 3 #[.val (.int p1), .val (.int p2), .val (.int p3), .unset, .unset, .unset, .unset, .unset, .unset, .unset, .unset, .unset, .unset] [(.ref b4)])) _
    refine XS.dup X4.here hx rfl (hb hby at_3) rfl rfl ?_
    show Steps _ _ _ (T4.setTop (mkF m 4 #[.val (.int p1), .val (.int p2), .val (.int p3), .unset, .unset, .unset, .unset, .unset, .unset, .unset, .unset, .unset, .unset] [(.ref b4), (.ref b4)])) _
    refine XS.aconstNull X4.here hx rfl (hb hby at_4) ?_
    show Steps _ _ _ (T4.setTop (mkF m 5 #[.val (.int p1), .val (.int p2), .val (.int p3), .unset, .unset, .unset, .unset, .unset, .unset, .unset, .unset, .unset, .unset] [.null, (.ref b4), (.ref b4)])) _
    refine XS.aconstNull X4.here hx rfl (hb hby at_5) ?_
    show Steps _ _ _ (T4.setTop (mkF m 6 #[.val (.int p1), .val (.int p2), .val (.int p3), .unset, .unset, .unset, .unset, .unset, .unset, .unset, .unset, .unset, .unset] [.null, .null, (.ref b4), (.ref b4)])) _
    refine st5.trans ?_
    show Steps _ _ _ (T5.setTop (mkF m 9 #[.val (.int p1), .val (.int p2), .val (.int p3), .unset, .unset, .unset, .unset, .unset, .unset, .unset, .unset, .unset, .unset] [(.ref b4)])) _
    refine XS.astoreN X5.here hx rfl (hb hby at_9) rfl rfl (l' := #[.val (.int p1), .val (.int p2), .val (.int p3), .val (.ref b4), .unset, .unset, .unset, .unset, .unset, .unset, .unset, .unset, .unset]) rfl ?_
    show Steps _ _ _ (T5.setTop (mkF m 10 #[.val (.int p1), .val (.int p2), .val (.int p3), .val (.ref b4), .unset, .unset, .unset, .unset, .unset, .unset, .unset, .unset, .unset] [])) _
    refine st6 _ ?_
    show Steps _ _ _ (T6.setTop (mkF m 13 #[.val (.int p1), .val (.int p2), .val (.int p3), .val (.ref b4), .unset, .unset, .unset, .unset, .unset, .unset, .unset, .unset, .unset] [(.ref b6)])) _
    refine XS.dup X6.here hx rfl (hb hby at_13) rfl rfl ?_
    show Steps _ _ _ (T6.setTop (mkF m 14 #[.val (.int p1), .val (.int p2), .val (.int p3), .val (.ref b4), .unset, .unset, .unset, .unset, .unset, .unset, .unset, .unset, .unset] [(.ref b6), (.ref b6)])) _
    refine XS.aloadN X6.here hx rfl (hb hby at_14) rfl rfl ?_
    show Steps _ _ _ (T6.setTop (mkF m 15 #[.val (.int p1), .val (.int p2), .val (.int p3), .val (.ref b4), .unset, .unset, .unset, .unset, .unset, .unset, .unset, .unset, .unset] [(.ref b4), (.ref b6), (.ref b6)])) _
    refine st7.trans ?_
    show Steps _ _ _ (T7.setTop (mkF m 18 #[.val (.int p1), .val (.int p2), .val (.int p3), .val (.ref b4), .unset, .unset, .unset, .unset, .unset, .unset, .unset, .unset, .unset] [(.ref b6)])) _
    refine XS.astore X7.here hx rfl (hb hby at_18) rfl rfl (l' := #[.val (.int p1), .val (.int p2), .val (.int p3), .val (.ref b4), .val (.ref b6), .unset, .unset, .unset, .unset, .unset, .unset, .unset, .unset]) rfl ?_
    show Steps _ _ _ (T7.setTop (mkF m 20 #[.val (.int p1), .val (.int p2), .val (.int p3), .val (.ref b4), .val (.ref b6), .unset, .unset, .unset, .unset, .unset, .unset, .unset, .unset] [])) _
    refine XS.iloadN X7.here hx rfl (hb hby at_20) rfl ?_
    show Steps _ _ _ (T7.setTop (mkF m 21 #[.val (.int p1), .val (.int p2), .val (.int p3), .val (.ref b4), .val (.ref b6), .unset, .unset, .unset, .unset, .unset, .unset, .unset, .unset] [(.int p2)])) _
    refine XS.iconst X7.here hx rfl (hb hby at_21) ?_
    show Steps _ _ _ (T7.setTop (mkF m 22 #[.val (.int p1), .val (.int p2), .val (.int p3), .val (.ref b4), .val (.ref b6), .unset, .unset, .unset, .unset, .unset, .unset, .unset, .unset] [(.int (1 : Int32)), (.int p2)])) _
    refine XS.iand X7.here hx rfl (hb hby at_22) rfl ?_
    show Steps _ _ _ (T7.setTop (mkF m 23 #[.val (.int p1), .val (.int p2), .val (.int p3), .val (.ref b4), .val (.ref b6), .unset, .unset, .unset, .unset, .unset, .unset, .unset, .unset] [(.int (p2 &&& (1 : Int32)))])) _
    refine XS.ifNo X7.here hx rfl (hb hby at_23) rfl ((if0 _ _).trans (feq hc23).1) ?_
    show Steps _ _ _ (T7.setTop (mkF m 26 #[.val (.int p1), .val (.int p2), .val (.int p3), .val (.ref b4), .val (.ref b6), .unset, .unset, .unset, .unset, .unset, .unset, .unset, .unset] [])) _
    refine XS.aload X7.here hx rfl (hb hby at_26) rfl rfl ?_
    show Steps _ _ _ (T7.setTop (mkF m 28 #[.val (.int p1), .val (.int p2), .val (.int p3), .val (.ref b4), .val (.ref b6), .unset, .unset, .unset, .unset, .unset, .unset, .unset, .unset] [(.ref b6)])) _
    refine XS.goto X7.here hx rfl (pc0 := 28) (pc' := 32) rfl (hb hby at_28) (by decide) (by decide) ?_
    show Steps _ _ _ (T7.setTop (mkF m 32 #[.val (.int p1), .val (.int p2), .val (.int p3), .val (.ref b4), .val (.ref b6), .unset, .unset, .unset, .unset, .unset, .unset, .unset, .unset] [(.ref b6)])) _
    refine XS.astore X7.here hx rfl (hb hby at_32) rfl rfl (l' := #[.val (.int p1), .val (.int p2), .val (.int p3), .val (.ref b4), .val (.ref b6), .val (.ref b6), .unset, .unset, .unset, .unset, .unset, .unset, .unset]) rfl ?_
    show Steps _ _ _ (T7.setTop (mkF m 34 #[.val (.int p1), .val (.int p2), .val (.int p3), .val (.ref b4), .val (.ref b6), .val (.ref b6), .unset, .unset, .unset, .unset, .unset, .unset, .unset] [])) _
    refine XS.iloadN X7.here hx rfl (hb hby at_34) rfl ?_
    show Steps _ _ _ (T7.setTop (mkF m 35 #[.val (.int p1), .val (.int p2), .val (.int p3), .val (.ref b4), .val (.ref b6), .val (.ref b6), .unset, .unset, .unset, .unset, .unset, .unset, .unset] [(.int p3)])) _
    refine XS.iconst X7.here hx rfl (hb hby at_35) ?_
    show Steps _ _ _ (T7.setTop (mkF m 36 #[.val (.int p1), .val (.int p2), .val (.int p3), .val (.ref b4), .val (.ref b6), .val (.ref b6), .unset, .unset, .unset, .unset, .unset, .unset, .unset] [(.int (1 : Int32)), (.int p3)])) _
    refine XS.iand X7.here hx rfl (hb hby at_36) rfl ?_
    show Steps _ _ _ (T7.setTop (mkF m 37 #[.val (.int p1), .val (.int p2), .val (.int p3), .val (.ref b4), .val (.ref b6), .val (.ref b6), .unset, .unset, .unset, .unset, .unset, .unset, .unset] [(.int (p3 &&& (1 : Int32)))])) _
    refine XS.ifNo X7.here hx rfl (hb hby at_37) rfl ((if0 _ _).trans (feq hc37).1) ?_
    show Steps _ _ _ (T7.setTop (mkF m 40 #[.val (.int p1), .val (.int p2), .val (.int p3), .val (.ref b4), .val (.ref b6), .val (.ref b6), .unset, .unset, .unset, .unset, .unset, .unset, .unset] [])) _
    refine XS.aload X7.here hx rfl (hb hby at_40) rfl rfl ?_
    show Steps _ _ _ (T7.setTop (mkF m 42 #[.val (.int p1), .val (.int p2), .val (.int p3), .val (.ref b4), .val (.ref b6), .val (.ref b6), .unset, .unset, .unset, .unset, .unset, .unset, .unset] [(.ref b6)])) _
    refine XS.goto X7.here hx rfl (pc0 := 42) (pc' := 46) rfl (hb hby at_42) (by decide) (by decide) ?_
    show Steps _ _ _ (T7.setTop (mkF m 46 #[.val (.int p1), .val (.int p2), .val (.int p3), .val (.ref b4), .val (.ref b6), .val (.ref b6), .unset, .unset, .unset, .unset, .unset, .unset, .unset] [(.ref b6)])) _
    refine XS.astore X7.here hx rfl (hb hby at_46) rfl rfl (l' := #[.val (.int p1), .val (.int p2), .val (.int p3), .val (.ref b4), .val (.ref b6), .val (.ref b6), .val (.ref b6), .unset, .unset, .unset, .unset, .unset, .unset]) rfl ?_
    show Steps _ _ _ (T7.setTop (mkF m 48 #[.val (.int p1), .val (.int p2), .val (.int p3), .val (.ref b4), .val (.ref b6), .val (.ref b6), .val (.ref b6), .unset, .unset, .unset, .unset, .unset, .unset] [])) _
    refine XS.iloadN X7.here hx rfl (hb hby at_48) rfl ?_
    show Steps _ _ _ (T7.setTop (mkF m 49 #[.val (.int p1), .val (.int p2), .val (.int p3), .val (.ref b4), .val (.ref b6), .val (.ref b6), .val (.ref b6), .unset, .unset, .unset, .unset, .unset, .unset] [(.int p1)])) _
    refine XS.iconst X7.here hx rfl (hb hby at_49) ?_
    show Steps _ _ _ (T7.setTop (mkF m 50 #[.val (.int p1), .val (.int p2), .val (.int p3), .val (.ref b4), .val (.ref b6), .val (.ref b6), .val (.ref b6), .unset, .unset, .unset, .unset, .unset, .unset] [(.int (3 : Int32)), (.int p1)])) _
    refine XS.iand X7.here hx rfl (hb hby at_50) rfl ?_
    show Steps _ _ _ (T7.setTop (mkF m 51 #[.val (.int p1), .val (.int p2), .val (.int p3), .val (.ref b4), .val (.ref b6), .val (.ref b6), .val (.ref b6), .unset, .unset, .unset, .unset, .unset, .unset] [(.int (p1 &&& (3 : Int32)))])) _
    refine XS.istore X7.here hx rfl (hb hby at_51) rfl (l' := #[.val (.int p1), .val (.int p2), .val (.int p3), .val (.ref b4), .val (.ref b6), .val (.ref b6), .val (.ref b6), .val (.int (p1 &&& (3 : Int32))), .unset, .unset, .unset, .unset, .unset]) rfl ?_
    show Steps _ _ _ (T7.setTop (mkF m 53 #[.val (.int p1), .val (.int p2), .val (.int p3), .val (.ref b4), .val (.ref b6), .val (.ref b6), .val (.ref b6), .val (.int (p1 &&& (3 : Int32))), .unset, .unset, .unset, .unset, .unset] [])) _
    refine XS.aconstNull X7.here hx rfl (hb hby at_53) ?_
    show Steps _ _ _ (T7.setTop (mkF m 54 #[.val (.int p1), .val (.int p2), .val (.int p3), .val (.ref b4), .val (.ref b6), .val (.ref b6), .val (.ref b6), .val (.int (p1 &&& (3 : Int32))), .unset, .unset, .unset, .unset, .unset] [.null])) _
    refine XS.astore X7.here hx rfl (hb hby at_54) rfl rfl (l' := #[.val (.int p1), .val (.int p2), .val (.int p3), .val (.ref b4), .val (.ref b6), .val (.ref b6), .val (.ref b6), .val (.int (p1 &&& (3 : Int32))), .val .null, .unset, .unset, .unset, .unset]) rfl ?_
    show Steps _ _ _ (T7.setTop (mkF m 56 #[.val (.int p1), .val (.int p2), .val (.int p3), .val (.ref b4), .val (.ref b6), .val (.ref b6), .val (.ref b6), .val (.int (p1 &&& (3 : Int32))), .val .null, .unset, .unset, .unset, .unset] [])) _
    refine XS.iload X7.here hx rfl (hb hby at_56) rfl ?_
    show Steps _ _ _ (T7.setTop (mkF m 58 #[.val (.int p1), .val (.int p2), .val (.int p3), .val (.ref b4), .val (.ref b6), .val (.ref b6), .val (.ref b6), .val (.int (p1 &&& (3 : Int32))), .val .null, .unset, .unset, .unset, .unset] [(.int (p1 &&& (3 : Int32)))])) _
    refine XS.iconst X7.here hx rfl (hb hby at_58) ?_
    show Steps _ _ _ (T7.setTop (mkF m 59 #[.val (.int p1), .val (.int p2), .val (.int p3), .val (.ref b4), .val (.ref b6), .val (.ref b6), .val (.ref b6), .val (.int (p1 &&& (3 : Int32))), .val .null, .unset, .unset, .unset, .unset] [(.int (1 : Int32)), (.int (p1 &&& (3 : Int32)))])) _
    refine XS.icmpYes X7.here hx rfl (pc0 := 59) (pc' := 78) rfl (hb hby at_59) rfl (feq hc59).2 (by decide) (by decide) ?_
    show Steps _ _ _ (T7.setTop (mkF m 78 #[.val (.int p1), .val (.int p2), .val (.int p3), .val (.ref b4), .val (.ref b6), .val (.ref b6), .val (.ref b6), .val (.int (p1 &&& (3 : Int32))), .val .null, .unset, .unset, .unset, .unset] [])) _
    refine XS.iload X7.here hx rfl (hb hby at_78) rfl ?_
    show Steps _ _ _ (T7.setTop (mkF m 80 #[.val (.int p1), .val (.int p2), .val (.int p3), .val (.ref b4), .val (.ref b6), .val (.ref b6), .val (.ref b6), .val (.int (p1 &&& (3 : Int32))), .val .null, .unset, .unset, .unset, .unset] [(.int (p1 &&& (3 : Int32)))])) _
    refine XS.iconst X7.here hx rfl (hb hby at_80) ?_
    show Steps _ _ _ (T7.setTop (mkF m 81 #[.val (.int p1), .val (.int p2), .val (.int p3), .val (.ref b4), .val (.ref b6), .val (.ref b6), .val (.ref b6), .val (.int (p1 &&& (3 : Int32))), .val .null, .unset, .unset, .unset, .unset] [(.int (2 : Int32)), (.int (p1 &&& (3 : Int32)))])) _
    refine XS.icmpYes X7.here hx rfl (pc0 := 81) (pc' := 100) rfl (hb hby at_81) rfl (feq hc81).2 (by decide) (by decide) ?_
    show Steps _ _ _ (T7.setTop (mkF m 100 #[.val (.int p1), .val (.int p2), .val (.int p3), .val (.ref b4), .val (.ref b6), .val (.ref b6), .val (.ref b6), .val (.int (p1 &&& (3 : Int32))), .val .null, .unset, .unset, .unset, .unset] [])) _
    refine XS.iload X7.here hx rfl (hb hby at_100) rfl ?_
    show Steps _ _ _ (T7.setTop (mkF m 102 #[.val (.int p1), .val (.int p2), .val (.int p3), .val (.ref b4), .val (.ref b6), .val (.ref b6), .val (.ref b6), .val (.int (p1 &&& (3 : Int32))), .val .null, .unset, .unset, .unset, .unset] [(.int (p1 &&& (3 : Int32)))])) _
    refine XS.iconst X7.here hx rfl (hb hby at_102) ?_
    show Steps _ _ _ (T7.setTop (mkF m 103 #[.val (.int p1), .val (.int p2), .val (.int p3), .val (.ref b4), .val (.ref b6), .val (.ref b6), .val (.ref b6), .val (.int (p1 &&& (3 : Int32))), .val .null, .unset, .unset, .unset, .unset] [(.int (3 : Int32)), (.int (p1 &&& (3 : Int32)))])) _
    refine XS.icmpNo X7.here hx rfl (hb hby at_103) rfl (teq hc103).2 ?_
    show Steps _ _ _ (T7.setTop (mkF m 106 #[.val (.int p1), .val (.int p2), .val (.int p3), .val (.ref b4), .val (.ref b6), .val (.ref b6), .val (.ref b6), .val (.int (p1 &&& (3 : Int32))), .val .null, .unset, .unset, .unset, .unset] [])) _
    refine XS.aload X7.here hx rfl (hb hby at_106) rfl rfl ?_
    show Steps _ _ _ (T7.setTop (mkF m 108 #[.val (.int p1), .val (.int p2), .val (.int p3), .val (.ref b4), .val (.ref b6), .val (.ref b6), .val (.ref b6), .val (.int (p1 &&& (3 : Int32))), .val .null, .unset, .unset, .unset, .unset] [(.ref b6)])) _
    refine st8 _ ?_
    show Steps _ _ _ (T8.setTop (mkF m 111 #[.val (.int p1), .val (.int p2), .val (.int p3), .val (.ref b4), .val (.ref b6), .val (.ref b6), .val (.ref b6), .val (.int (p1 &&& (3 : Int32))), .val .null, .unset, .unset, .unset, .unset] [(.ref uB), (.ref b6)])) _
    refine st9.trans ?_
    show Steps _ _ _ (T9.setTop (mkF m 114 #[.val (.int p1), .val (.int p2), .val (.int p3), .val (.ref b4), .val (.ref b6), .val (.ref b6), .val (.ref b6), .val (.int (p1 &&& (3 : Int32))), .val .null, .unset, .unset, .unset, .unset] [])) _
    refine XS.aload X9.here hx rfl (hb hby at_114) rfl rfl ?_
    show Steps _ _ _ (T9.setTop (mkF m 116 #[.val (.int p1), .val (.int p2), .val (.int p3), .val (.ref b4), .val (.ref b6), .val (.ref b6), .val (.ref b6), .val (.int (p1 &&& (3 : Int32))), .val .null, .unset, .unset, .unset, .unset] [(.ref b6)])) _
    refine st10 _ ?_
    show Steps _ _ _ (T10.setTop (mkF m 119 #[.val (.int p1), .val (.int p2), .val (.int p3), .val (.ref b4), .val (.ref b6), .val (.ref b6), .val (.ref b6), .val (.int (p1 &&& (3 : Int32))), .val .null, .unset, .unset, .unset, .unset] [(.ref uC), (.ref b6)])) _
    refine st11.trans ?_
    show Steps _ _ _ (T11.setTop (mkF m 122 #[.val (.int p1), .val (.int p2), .val (.int p3), .val (.ref b4), .val (.ref b6), .val (.ref b6), .val (.ref b6), .val (.int (p1 &&& (3 : Int32))), .val .null, .unset, .unset, .unset, .unset] [])) _
    refine st12 _ ?_
    show Steps _ _ _ (T12.setTop (mkF m 125 #[.val (.int p1), .val (.int p2), .val (.int p3), .val (.ref b4), .val (.ref b6), .val (.ref b6), .val (.ref b6), .val (.int (p1 &&& (3 : Int32))), .val .null, .unset, .unset, .unset, .unset] [(.ref uC)])) _
    refine XS.astore X12.here hx rfl (hb hby at_125) rfl rfl (l' := #[.val (.int p1), .val (.int p2), .val (.int p3), .val (.ref b4), .val (.ref b6), .val (.ref b6), .val (.ref b6), .val (.int (p1 &&& (3 : Int32))), .val (.ref uC), .unset, .unset, .unset, .unset]) rfl ?_
    show Steps _ _ _ (T12.setTop (mkF m 127 #[.val (.int p1), .val (.int p2), .val (.int p3), .val (.ref b4), .val (.ref b6), .val (.ref b6), .val (.ref b6), .val (.int (p1 &&& (3 : Int32))), .val (.ref uC), .unset, .unset, .unset, .unset] [])) _
    refine XS.aload X12.here hx rfl (hb hby at_127) rfl rfl ?_
    show Steps _ _ _ (T12.setTop (mkF m 129 #[.val (.int p1), .val (.int p2), .val (.int p3), .val (.ref b4), .val (.ref b6), .val (.ref b6), .val (.ref b6), .val (.int (p1 &&& (3 : Int32))), .val (.ref uC), .unset, .unset, .unset, .unset] [(.ref b6)])) _
    refine st13.trans ?_
    show Steps _ _ _ (T13.setTop (mkF m 132 #[.val (.int p1), .val (.int p2), .val (.int p3), .val (.ref b4), .val (.ref b6), .val (.ref b6), .val (.ref b6), .val (.int (p1 &&& (3 : Int32))), .val (.ref uC), .unset, .unset, .unset, .unset] [(.int (1 : Int32))])) _
    refine XS.aload X13.here hx rfl (hb hby at_132) rfl rfl ?_
    show Steps _ _ _ (T13.setTop (mkF m 134 #[.val (.int p1), .val (.int p2), .val (.int p3), .val (.ref b4), .val (.ref b6), .val (.ref b6), .val (.ref b6), .val (.int (p1 &&& (3 : Int32))), .val (.ref uC), .unset, .unset, .unset, .unset] [(.ref uC), (.int (1 : Int32))])) _
    refine XS.ifnullNo X13.here hx rfl (hb hby at_134) rfl ?_
    show Steps _ _ _ (T13.setTop (mkF m 137 #[.val (.int p1), .val (.int p2), .val (.int p3), .val (.ref b4), .val (.ref b6), .val (.ref b6), .val (.ref b6), .val (.int (p1 &&& (3 : Int32))), .val (.ref uC), .unset, .unset, .unset, .unset] [(.int (1 : Int32))])) _
    refine XS.iconst X13.here hx rfl (hb hby at_137) ?_
    show Steps _ _ _ (T13.setTop (mkF m 138 #[.val (.int p1), .val (.int p2), .val (.int p3), .val (.ref b4), .val (.ref b6), .val (.ref b6), .val (.ref b6), .val (.int (p1 &&& (3 : Int32))), .val (.ref uC), .unset, .unset, .unset, .unset] [(.int (1 : Int32)), (.int (1 : Int32))])) _
    refine XS.goto X13.here hx rfl (pc0 := 138) (pc' := 142) rfl (hb hby at_138) (by decide) (by decide) ?_
    show Steps _ _ _ (T13.setTop (mkF m 142 #[.val (.int p1), .val (.int p2), .val (.int p3), .val (.ref b4), .val (.ref b6), .val (.ref b6), .val (.ref b6), .val (.int (p1 &&& (3 : Int32))), .val (.ref uC), .unset, .unset, .unset, .unset] [(.int (1 : Int32)), (.int (1 : Int32))])) _
    refine XS.icmpNo X13.here hx rfl (hb hby at_142) rfl (teq (rfl : (1 : Int32) = (1 : Int32))).2 ?_
    show Steps _ _ _ (T13.setTop (mkF m 145 #[.val (.int p1), .val (.int p2), .val (.int p3), .val (.ref b4), .val (.ref b6), .val (.ref b6), .val (.ref b6), .val (.int (p1 &&& (3 : Int32))), .val (.ref uC), .unset, .unset, .unset, .unset] [])) _
    refine XS.iconst X13.here hx rfl (hb hby at_145) ?_
    show Steps _ _ _ (T13.setTop (mkF m 146 #[.val (.int p1), .val (.int p2), .val (.int p3), .val (.ref b4), .val (.ref b6), .val (.ref b6), .val (.ref b6), .val (.int (p1 &&& (3 : Int32))), .val (.ref uC), .unset, .unset, .unset, .unset] [(.int (1 : Int32))])) _
    refine XS.goto X13.here hx rfl (pc0 := 146) (pc' := 150) rfl (hb hby at_146) (by decide) (by decide) ?_
    show Steps _ _ _ (T13.setTop (mkF m 150 #[.val (.int p1), .val (.int p2), .val (.int p3), .val (.ref b4), .val (.ref b6), .val (.ref b6), .val (.ref b6), .val (.int (p1 &&& (3 : Int32))), .val (.ref uC), .unset, .unset, .unset, .unset] [(.int (1 : Int32))])) _
    refine XS.istore X13.here hx rfl (hb hby at_150) rfl (l' := #[.val (.int p1), .val (.int p2), .val (.int p3), .val (.ref b4), .val (.ref b6), .val (.ref b6), .val (.ref b6), .val (.int (p1 &&& (3 : Int32))), .val (.ref uC), .val (.int (1 : Int32)), .unset, .unset, .unset]) rfl ?_
    show Steps _ _ _ (T13.setTop (mkF m 152 #[.val (.int p1), .val (.int p2), .val (.int p3), .val (.ref b4), .val (.ref b6), .val (.ref b6), .val (.ref b6), .val (.int (p1 &&& (3 : Int32))), .val (.ref uC), .val (.int (1 : Int32)), .unset, .unset, .unset] [])) _
    refine XS.aload X13.here hx rfl (hb hby at_152) rfl rfl ?_
    show Steps _ _ _ (T13.setTop (mkF m 154 #[.val (.int p1), .val (.int p2), .val (.int p3), .val (.ref b4), .val (.ref b6), .val (.ref b6), .val (.ref b6), .val (.int (p1 &&& (3 : Int32))), .val (.ref uC), .val (.int (1 : Int32)), .unset, .unset, .unset] [(.ref b6)])) _
    refine st14.trans ?_
    show Steps _ _ _ (T14.setTop (mkF m 157 #[.val (.int p1), .val (.int p2), .val (.int p3), .val (.ref b4), .val (.ref b6), .val (.ref b6), .val (.ref b6), .val (.int (p1 &&& (3 : Int32))), .val (.ref uC), .val (.int (1 : Int32)), .unset, .unset, .unset] [(.ref uC)])) _
    refine XS.astore X14.here hx rfl (hb hby at_157) rfl rfl (l' := #[.val (.int p1), .val (.int p2), .val (.int p3), .val (.ref b4), .val (.ref b6), .val (.ref b6), .val (.ref b6), .val (.int (p1 &&& (3 : Int32))), .val (.ref uC), .val (.int (1 : Int32)), .val (.ref uC), .unset, .unset]) rfl ?_
    show Steps _ _ _ (T14.setTop (mkF m 159 #[.val (.int p1), .val (.int p2), .val (.int p3), .val (.ref b4), .val (.ref b6), .val (.ref b6), .val (.ref b6), .val (.int (p1 &&& (3 : Int32))), .val (.ref uC), .val (.int (1 : Int32)), .val (.ref uC), .unset, .unset] [])) _
    refine XS.aloadN X14.here hx rfl (hb hby at_159) rfl rfl ?_
    show Steps _ _ _ (T14.setTop (mkF m 160 #[.val (.int p1), .val (.int p2), .val (.int p3), .val (.ref b4), .val (.ref b6), .val (.ref b6), .val (.ref b6), .val (.int (p1 &&& (3 : Int32))), .val (.ref uC), .val (.int (1 : Int32)), .val (.ref uC), .unset, .unset] [(.ref b4)])) _
    refine st15.trans ?_
    show Steps _ _ _ (T15.setTop (mkF m 163 #[.val (.int p1), .val (.int p2), .val (.int p3), .val (.ref b4), .val (.ref b6), .val (.ref b6), .val (.ref b6), .val (.int (p1 &&& (3 : Int32))), .val (.ref uC), .val (.int (1 : Int32)), .val (.ref uC), .unset, .unset] [(.int (0 : Int32))])) _
    refine XS.ifNo X15.here hx rfl (hb hby at_163) rfl ((if0 _ _).trans (teq (rfl : (0 : Int32) = (0 : Int32))).2) ?_
    show Steps _ _ _ (T15.setTop (mkF m 166 #[.val (.int p1), .val (.int p2), .val (.int p3), .val (.ref b4), .val (.ref b6), .val (.ref b6), .val (.ref b6), .val (.int (p1 &&& (3 : Int32))), .val (.ref uC), .val (.int (1 : Int32)), .val (.ref uC), .unset, .unset] [])) _
    refine XS.aload X15.here hx rfl (hb hby at_166) rfl rfl ?_
    show Steps _ _ _ (T15.setTop (mkF m 168 #[.val (.int p1), .val (.int p2), .val (.int p3), .val (.ref b4), .val (.ref b6), .val (.ref b6), .val (.ref b6), .val (.int (p1 &&& (3 : Int32))), .val (.ref uC), .val (.int (1 : Int32)), .val (.ref uC), .unset, .unset] [(.ref b6)])) _
    refine st16.trans ?_
    show Steps _ _ _ (T16.setTop (mkF m 171 #[.val (.int p1), .val (.int p2), .val (.int p3), .val (.ref b4), .val (.ref b6), .val (.ref b6), .val (.ref b6), .val (.int (p1 &&& (3 : Int32))), .val (.ref uC), .val (.int (1 : Int32)), .val (.ref uC), .unset, .unset] [(.int (0 : Int32))])) _
    refine XS.ifNo X16.here hx rfl (hb hby at_171) rfl ((if0 _ _).trans (teq (rfl : (0 : Int32) = (0 : Int32))).2) ?_
    show Steps _ _ _ (T16.setTop (mkF m 174 #[.val (.int p1), .val (.int p2), .val (.int p3), .val (.ref b4), .val (.ref b6), .val (.ref b6), .val (.ref b6), .val (.int (p1 &&& (3 : Int32))), .val (.ref uC), .val (.int (1 : Int32)), .val (.ref uC), .unset, .unset] [])) _
    refine XS.iconst X16.here hx rfl (hb hby at_174) ?_
    show Steps _ _ _ (T16.setTop (mkF m 175 #[.val (.int p1), .val (.int p2), .val (.int p3), .val (.ref b4), .val (.ref b6), .val (.ref b6), .val (.ref b6), .val (.int (p1 &&& (3 : Int32))), .val (.ref uC), .val (.int (1 : Int32)), .val (.ref uC), .unset, .unset] [(.int (1 : Int32))])) _
    refine XS.goto X16.here hx rfl (pc0 := 175) (pc' := 179) rfl (hb hby at_175) (by decide) (by decide) ?_
    show Steps _ _ _ (T16.setTop (mkF m 179 #[.val (.int p1), .val (.int p2), .val (.int p3), .val (.ref b4), .val (.ref b6), .val (.ref b6), .val (.ref b6), .val (.int (p1 &&& (3 : Int32))), .val (.ref uC), .val (.int (1 : Int32)), .val (.ref uC), .unset, .unset] [(.int (1 : Int32))])) _
    refine XS.istore X16.here hx rfl (hb hby at_179) rfl (l' := #[.val (.int p1), .val (.int p2), .val (.int p3), .val (.ref b4), .val (.ref b6), .val (.ref b6), .val (.ref b6), .val (.int (p1 &&& (3 : Int32))), .val (.ref uC), .val (.int (1 : Int32)), .val (.ref uC), .val (.int (1 : Int32)), .unset]) rfl ?_
    show Steps _ _ _ (T16.setTop (mkF m 181 #[.val (.int p1), .val (.int p2), .val (.int p3), .val (.ref b4), .val (.ref b6), .val (.ref b6), .val (.ref b6), .val (.int (p1 &&& (3 : Int32))), .val (.ref uC), .val (.int (1 : Int32)), .val (.ref uC), .val (.int (1 : Int32)), .unset] [])) _
    refine XS.aload X16.here hx rfl (hb hby at_181) rfl rfl ?_
    show Steps _ _ _ (T16.setTop (mkF m 183 #[.val (.int p1), .val (.int p2), .val (.int p3), .val (.ref b4), .val (.ref b6), .val (.ref b6), .val (.ref b6), .val (.int (p1 &&& (3 : Int32))), .val (.ref uC), .val (.int (1 : Int32)), .val (.ref uC), .val (.int (1 : Int32)), .unset] [(.ref b6)])) _
    refine st17.trans ?_
    show Steps _ _ _ (T17.setTop (mkF m 186 #[.val (.int p1), .val (.int p2), .val (.int p3), .val (.ref b4), .val (.ref b6), .val (.ref b6), .val (.ref b6), .val (.int (p1 &&& (3 : Int32))), .val (.ref uC), .val (.int (1 : Int32)), .val (.ref uC), .val (.int (1 : Int32)), .unset] [.null])) _
    refine XS.astore X17.here hx rfl (hb hby at_186) rfl rfl (l' := #[.val (.int p1), .val (.int p2), .val (.int p3), .val (.ref b4), .val (.ref b6), .val (.ref b6), .val (.ref b6), .val (.int (p1 &&& (3 : Int32))), .val (.ref uC), .val (.int (1 : Int32)), .val (.ref uC), .val (.int (1 : Int32)), .val .null]) rfl ?_
    show Steps _ _ _ (T17.setTop (mkF m 188 #[.val (.int p1), .val (.int p2), .val (.int p3), .val (.ref b4), .val (.ref b6), .val (.ref b6), .val (.ref b6), .val (.int (p1 &&& (3 : Int32))), .val (.ref uC), .val (.int (1 : Int32)), .val (.ref uC), .val (.int (1 : Int32)), .val .null] [])) _
    refine XS.iload X17.here hx rfl (hb hby at_188) rfl ?_
    show Steps _ _ _ (T17.setTop (mkF m 190 #[.val (.int p1), .val (.int p2), .val (.int p3), .val (.ref b4), .val (.ref b6), .val (.ref b6), .val (.ref b6), .val (.int (p1 &&& (3 : Int32))), .val (.ref uC), .val (.int (1 : Int32)), .val (.ref uC), .val (.int (1 : Int32)), .val .null] [(.int (1 : Int32))])) _
    refine XS.ifNo X17.here hx rfl (hb hby at_190) rfl ((if0 _ _).trans (feq hc190).1) ?_
    show Steps _ _ _ (T17.setTop (mkF m 193 #[.val (.int p1), .val (.int p2), .val (.int p3), .val (.ref b4), .val (.ref b6), .val (.ref b6), .val (.ref b6), .val (.int (p1 &&& (3 : Int32))), .val (.ref uC), .val (.int (1 : Int32)), .val (.ref uC), .val (.int (1 : Int32)), .val .null] [])) _
    refine XS.aload X17.here hx rfl (hb hby at_193) rfl rfl ?_
    show Steps _ _ _ (T17.setTop (mkF m 195 #[.val (.int p1), .val (.int p2), .val (.int p3), .val (.ref b4), .val (.ref b6), .val (.ref b6), .val (.ref b6), .val (.int (p1 &&& (3 : Int32))), .val (.ref uC), .val (.int (1 : Int32)), .val (.ref uC), .val (.int (1 : Int32)), .val .null] [(.ref uC)])) _
    refine XS.aload X17.here hx rfl (hb hby at_195) rfl rfl ?_
    show Steps _ _ _ (T17.setTop (mkF m 197 #[.val (.int p1), .val (.int p2), .val (.int p3), .val (.ref b4), .val (.ref b6), .val (.ref b6), .val (.ref b6), .val (.int (p1 &&& (3 : Int32))), .val (.ref uC), .val (.int (1 : Int32)), .val (.ref uC), .val (.int (1 : Int32)), .val .null] [(.ref uC), (.ref uC)])) _
    refine Jvm.RoadKit.acmp (g := (mkF m 197 #[.val (.int p1), .val (.int p2), .val (.int p3), .val (.ref b4), .val (.ref b6), .val (.ref b6), .val (.ref b6), .val (.int (p1 &&& (3 : Int32))), .val (.ref uC), .val (.int (1 : Int32)), .val (.ref uC), .val (.int (1 : Int32)), .val .null] [(.ref uC), (.ref uC)])) X17 hx rfl rfl rfl (pc0 := 197) (pc' := 200) (same := true) rfl (hb hby at_197) rfl (decide_eq_true rfl) (by decide) (by decide) ?_
    show Steps _ _ _ (T17.setTop (mkF m 200 #[.val (.int p1), .val (.int p2), .val (.int p3), .val (.ref b4), .val (.ref b6), .val (.ref b6), .val (.ref b6), .val (.int (p1 &&& (3 : Int32))), .val (.ref uC), .val (.int (1 : Int32)), .val (.ref uC), .val (.int (1 : Int32)), .val .null] [])) _
    refine XS.iload X17.here hx rfl (hb hby at_200) rfl ?_
    show Steps _ _ _ (T17.setTop (mkF m 202 #[.val (.int p1), .val (.int p2), .val (.int p3), .val (.ref b4), .val (.ref b6), .val (.ref b6), .val (.ref b6), .val (.int (p1 &&& (3 : Int32))), .val (.ref uC), .val (.int (1 : Int32)), .val (.ref uC), .val (.int (1 : Int32)), .val .null] [(.int (1 : Int32))])) _
    refine XS.ifNo X17.here hx rfl (hb hby at_202) rfl ((if0 _ _).trans (feq hc202).1) ?_
    show Steps _ _ _ (T17.setTop (mkF m 205 #[.val (.int p1), .val (.int p2), .val (.int p3), .val (.ref b4), .val (.ref b6), .val (.ref b6), .val (.ref b6), .val (.int (p1 &&& (3 : Int32))), .val (.ref uC), .val (.int (1 : Int32)), .val (.ref uC), .val (.int (1 : Int32)), .val .null] [])) _
    refine XS.aload X17.here hx rfl (hb hby at_205) rfl rfl ?_
    show Steps _ _ _ (T17.setTop (mkF m 207 #[.val (.int p1), .val (.int p2), .val (.int p3), .val (.ref b4), .val (.ref b6), .val (.ref b6), .val (.ref b6), .val (.int (p1 &&& (3 : Int32))), .val (.ref uC), .val (.int (1 : Int32)), .val (.ref uC), .val (.int (1 : Int32)), .val .null] [.null])) _
    refine XS.ifnonnullNo X17.here hx rfl (hb hby at_207) rfl ?_
    show Steps _ _ _ (T17.setTop (mkF m 210 #[.val (.int p1), .val (.int p2), .val (.int p3), .val (.ref b4), .val (.ref b6), .val (.ref b6), .val (.ref b6), .val (.int (p1 &&& (3 : Int32))), .val (.ref uC), .val (.int (1 : Int32)), .val (.ref uC), .val (.int (1 : Int32)), .val .null] [])) _
    refine XS.iconst X17.here hx rfl (hb hby at_210) ?_
    show Steps _ _ _ (T17.setTop (mkF m 211 #[.val (.int p1), .val (.int p2), .val (.int p3), .val (.ref b4), .val (.ref b6), .val (.ref b6), .val (.ref b6), .val (.int (p1 &&& (3 : Int32))), .val (.ref uC), .val (.int (1 : Int32)), .val (.ref uC), .val (.int (1 : Int32)), .val .null] [(.int (1 : Int32))])) _
    refine XS.goto X17.here hx rfl (pc0 := 211) (pc' := 215) rfl (hb hby at_211) (by decide) (by decide) ?_
    show Steps _ _ _ (T17.setTop (mkF m 215 #[.val (.int p1), .val (.int p2), .val (.int p3), .val (.ref b4), .val (.ref b6), .val (.ref b6), .val (.ref b6), .val (.int (p1 &&& (3 : Int32))), .val (.ref uC), .val (.int (1 : Int32)), .val (.ref uC), .val (.int (1 : Int32)), .val .null] [(.int (1 : Int32))])) _
    exact retN X17 hx (t := .boolean) Bd.returns (by simp) (hb hby at_215) hr
  · show Q0 Z p1 p2 p3 uB uC h0 n0 _ T17.heap _
    exact ⟨rfl, N17⟩
-- 2. THE CONTRACT: what this body leaves is yours
-- its room: frames: the greatest, locals: the greatest, cells 4 + .., slots 32 + ..: rm1: frames + 1; locals 1 + 3 + 11 + its room's locals; its cells and slots besides; rm5: frames + 1; locals 1 + 2 + 11 + its room's locals; its cells and slots besides; rm7: frames + 1; locals 0 + 1 + 11 + its room's locals; its cells and slots besides; rm8: frames + 1; locals 0 + 2 + 11 + its room's locals; its cells and slots besides; rm7: frames + 1; locals 0 + 1 + 11 + its room's locals; its cells and slots besides; rm7: frames + 1; locals 0 + 1 + 11 + its room's locals; its cells and slots besides; rm8: frames + 1; locals 0 + 2 + 11 + its room's locals; its cells and slots besides
set_option maxRecDepth 65536 in
set_option maxHeartbeats 40000000 in
theorem rm0_ff0 (l : Launch) (Z : State) (a0 : Array Value) (hw : ∀ d ∈ tables_1, d.before a0 Z = true) (ws : List Jvm.Cond) (p1 : Int32) (p2 : Int32) (p3 : Int32) (uB : Addr) (uC : Addr) (h0 : Heap) (n0 : Nat) (Z0 : n0 ≤ h0.size) (S_BREAK : Sta Z h0 "com/example/transom/transom/Scope$Jump" "BREAK" "Lcom/example/transom/transom/Scope$Jump;" (.ref uB)) (S_CONTINUE : Sta Z h0 "com/example/transom/transom/Scope$Jump" "CONTINUE" "Lcom/example/transom/transom/Scope$Jump;" (.ref uC)) (hc23 : ¬ ((p2 &&& (1 : Int32)) = (0 : Int32))) (hc37 : ¬ ((p3 &&& (1 : Int32)) = (0 : Int32))) (hc59 : ¬ ((p1 &&& (3 : Int32)) = (1 : Int32))) (hc81 : ¬ ((p1 &&& (3 : Int32)) = (2 : Int32))) (hc103 : ¬ ((p1 &&& (3 : Int32)) = (3 : Int32))) (hc190 : ¬ ((1 : Int32) = (0 : Int32))) (hc202 : ¬ ((1 : Int32) = (0 : Int32))) :
    MetFree l x (head1 (Jvm.Cond.code x code maxLocals ret :: ws) room_1) (fun a U => a = #[(.int p1), (.int p2), (.int p3)] ∧ Z.Warmed39 U.vm ∧ U.heap = h0) (fun _ _ _ _ _ => True) (fun _ U o U' => ∃ v L, o = .returned v ∧ Q0 Z p1 p2 p3 uB uC h0 n0 v U'.heap L ∧ FrameEnd U o U' L room_1.cells room_1.slots) := by
  refine MetFree.of_bodySF (plainFor_of_name pn_0) hisR ?_
  intro p e s m args below meth c s₁ Bd hml0 hP hK
  obtain ⟨rfl, hZ, hh⟩ := hP
  have hx := Bd.exec
  have hby := Bd.bytes
  have hml : c.maxLocals = 13 := hml0
  have hown : s.vm.findClass "com/example/transom/transom/ScopeLandPinLaw" = some m.cls := findClass_of_methodNamed Bd.named
  have hnm := (name_of_methodNamed Bd.named Bd.method).1
  have X0 : Stand p l e room_1 s m #[(.int p1), (.int p2), (.int p3)] below meth c s₁ [] 0 0 := Stand.of_body Bd
  have e0 : s₁.heap = h0 := by rw [← hh, Bd.state]; rfl
  have N0 := Fr.nil n0
  have pre0 : ∀ t, Steps p.tables e below (s₁.setTop (mkF m 0 #[.val (.int p1), .val (.int p2), .val (.int p3), .unset, .unset, .unset, .unset, .unset, .unset, .unset, .unset, .unset, .unset] [])) t → Steps p.tables e below (s₁.setTop (entryFrame m #[(.int p1), (.int p2), (.int p3)] maxLocals)) t := fun t k => castTop (ef_0 m p1 p2 p3) k
  obtain ⟨T4, h4, X4, e4, E4, A4, D4, -, st4⟩ := newO X0 hx hZ hown (ww hw 0 rfl) (ww hw 1 rfl) (ww hw 2 rfl) e0 (g := (mkF m 0 #[.val (.int p1), .val (.int p2), .val (.int p3), .unset, .unset, .unset, .unset, .unset, .unset, .unset, .unset, .unset, .unset] [])) rfl (hb hby at_0) (by decide) (by decide)
  obtain ⟨b4, g4⟩ : ∃ z, z = h0.size := ⟨_, rfl⟩
  rw [← g4] at A4 D4 st4
  have F_values_b4 : Fld Z h4 b4 "com/example/transom/transom/Scope" "values" "Ljava/util/Map;" .null := D4 (Or.inr (ww hw 26 rfl)) (ty := (.object "java/util/Map")) (by decide)
  have F_parent_b4 : Fld Z h4 b4 "com/example/transom/transom/Scope" "parent" "Lcom/example/transom/transom/Scope;" .null := D4 (Or.inr (ww hw 28 rfl)) (ty := (.object "com/example/transom/transom/Scope")) (by decide)
  have F_top_b4 : Fld Z h4 b4 "com/example/transom/transom/Scope" "top" "Lcom/example/transom/transom/Scope;" .null := D4 (Or.inr (ww hw 30 rfl)) (ty := (.object "com/example/transom/transom/Scope")) (by decide)
  have F_model_b4 : Fld Z h4 b4 "com/example/transom/transom/Scope" "model" "Ljava/util/Map;" .null := D4 (Or.inr (ww hw 32 rfl)) (ty := (.object "java/util/Map")) (by decide)
  have F_template_b4 : Fld Z h4 b4 "com/example/transom/transom/Scope" "template" "Lcom/example/transom/transom/Template;" .null := D4 (Or.inr (ww hw 34 rfl)) (ty := (.object "com/example/transom/transom/Template")) (by decide)
  have F_renderer_b4 : Fld Z h4 b4 "com/example/transom/transom/Scope" "renderer" "Lcom/example/transom/transom/Scope;" .null := D4 (Or.inr (ww hw 36 rfl)) (ty := (.object "com/example/transom/transom/Scope")) (by decide)
  have F_calls_b4 : Fld Z h4 b4 "com/example/transom/transom/Scope" "calls" "I" (.int (0 : Int32)) := D4 (Or.inr (ww hw 38 rfl)) (ty := .int) (by decide)
  have F_jump_b4 : Fld Z h4 b4 "com/example/transom/transom/Scope" "jump" "Lcom/example/transom/transom/Scope$Jump;" .null := D4 (Or.inl (ww hw 51 rfl)) (ty := (.object "com/example/transom/transom/Scope$Jump")) (by decide)
  have E_b4 := A4
  have g_b4 : n0 ≤ b4 := Nat.le_trans Z0 (Nat.le_of_eq g4.symm)
  have sz_b4 : h0.size ≤ b4 := (Nat.le_trans (Keep.refl h0 []).1 (Nat.le_of_eq g4.symm))
  have K4 : Keep h0 h4 [] := (Keep.refl h0 []).ext E4
  obtain ⟨_, _, ⟨T5, L5, k5, n5⟩, -, X5, ⟨Lc5, hQ5, l5, y5, z5⟩, st5⟩ := X4.specialBack hx (y := (⟨"com/example/transom/transom/Scope", "<init>", "(Ljava/util/Map;Lcom/example/transom/transom/Template;)V"⟩ : MethodName)) rfl hown (mvT hZ (ww hw 3 rfl)) (mvT hZ (ww hw 4 rfl)) (mvT hZ (ww hw 5 rfl)) (by decide) (backOf (W := 1) (rm1 l Z a0 hw [] b4 _ _ _ _ _ _ _  h4 n0 (Nat.le_trans Z0 E4.1) F_jump_b4 E_b4 F_values_b4 g_b4 F_parent_b4 F_top_b4 F_model_b4 F_template_b4 F_renderer_b4 F_calls_b4) hZ (ww hw 5 rfl) (ww hw 2 rfl) (by decide) (by decide)) (g := (mkF m 6 #[.val (.int p1), .val (.int p2), .val (.int p3), .unset, .unset, .unset, .unset, .unset, .unset, .unset, .unset, .unset, .unset] [.null, .null, (.ref b4), (.ref b4)])) rfl (by rw [hml]; rfl) (Steps.refl _) (a := b4) (argsL := [.null, .null]) (rest := [(.ref b4)]) (lenOf pd_0_0 rfl) rfl (by show 2 * 0 + _ ≤ _; exact Nat.le_of_eq rfl) (hb hby at_6) (fun _ _ => ⟨rfl, e4, (by decide : 1 + 1 ≤ _), (by decide : 8 + 8 ≤ _)⟩)
  dsimp only [Pt.U, Pt.locs, Pt.cells, Pt.slots] at X5 l5 y5 z5 st5 hQ5
  subst l5 y5 z5
  obtain ⟨rfl, N5q, Kc5, Ec5, Ftop5, Fmodel5, Ftemplate5, Frenderer5, Fcalls5, Fjump5⟩ := hQ5
  have N5 := Fr.app N0 N5q
  have S_BREAK_5 := own_stak (S_BREAK.ext E4) Kc5 (allS (own_nst E_b4) all0)
  have S_CONTINUE_5 := own_stak (S_CONTINUE.ext E4) Kc5 (allS (own_nst E_b4) all0)
  have K5 : Keep h0 T5.heap [] := K4.trans Kc5 (allS (Or.inr sz_b4) all0)
  obtain ⟨T6, h6, X6, e6, E6, A6, D6, -, st6⟩ := newO X5 hx hZ hown (ww hw 0 rfl) (ww hw 1 rfl) (ww hw 2 rfl) rfl (g := (mkF m 10 #[.val (.int p1), .val (.int p2), .val (.int p3), .val (.ref b4), .unset, .unset, .unset, .unset, .unset, .unset, .unset, .unset, .unset] [])) rfl (hb hby at_10) (by decide) (by decide)
  obtain ⟨b6, g6⟩ : ∃ z, z = T5.heap.size := ⟨_, rfl⟩
  rw [← g6] at A6 D6 st6
  have F_values_b6 : Fld Z h6 b6 "com/example/transom/transom/Scope" "values" "Ljava/util/Map;" .null := D6 (Or.inr (ww hw 26 rfl)) (ty := (.object "java/util/Map")) (by decide)
  have F_parent_b6 : Fld Z h6 b6 "com/example/transom/transom/Scope" "parent" "Lcom/example/transom/transom/Scope;" .null := D6 (Or.inr (ww hw 28 rfl)) (ty := (.object "com/example/transom/transom/Scope")) (by decide)
  have F_top_b6 : Fld Z h6 b6 "com/example/transom/transom/Scope" "top" "Lcom/example/transom/transom/Scope;" .null := D6 (Or.inr (ww hw 30 rfl)) (ty := (.object "com/example/transom/transom/Scope")) (by decide)
  have F_model_b6 : Fld Z h6 b6 "com/example/transom/transom/Scope" "model" "Ljava/util/Map;" .null := D6 (Or.inr (ww hw 32 rfl)) (ty := (.object "java/util/Map")) (by decide)
  have F_template_b6 : Fld Z h6 b6 "com/example/transom/transom/Scope" "template" "Lcom/example/transom/transom/Template;" .null := D6 (Or.inr (ww hw 34 rfl)) (ty := (.object "com/example/transom/transom/Template")) (by decide)
  have F_renderer_b6 : Fld Z h6 b6 "com/example/transom/transom/Scope" "renderer" "Lcom/example/transom/transom/Scope;" .null := D6 (Or.inr (ww hw 36 rfl)) (ty := (.object "com/example/transom/transom/Scope")) (by decide)
  have F_calls_b6 : Fld Z h6 b6 "com/example/transom/transom/Scope" "calls" "I" (.int (0 : Int32)) := D6 (Or.inr (ww hw 38 rfl)) (ty := .int) (by decide)
  have F_jump_b6 : Fld Z h6 b6 "com/example/transom/transom/Scope" "jump" "Lcom/example/transom/transom/Scope$Jump;" .null := D6 (Or.inl (ww hw 51 rfl)) (ty := (.object "com/example/transom/transom/Scope$Jump")) (by decide)
  have E_b6 := A6
  have g_b6 : n0 ≤ b6 := Nat.le_trans (Nat.le_trans (Nat.le_trans Z0 E4.1) Kc5.1) (Nat.le_of_eq g6.symm)
  have sz_b6 : h0.size ≤ b6 := (Nat.le_trans K5.1 (Nat.le_of_eq g6.symm))
  have K6 : Keep h0 h6 [] := K5.ext E6
  obtain ⟨_, _, ⟨T7, L7, k7, n7⟩, -, X7, ⟨Lc7, hQ7, l7, y7, z7⟩, st7⟩ := X6.specialBack hx (y := (⟨"com/example/transom/transom/Scope", "<init>", "(Lcom/example/transom/transom/Scope;)V"⟩ : MethodName)) rfl hown (mvT hZ (ww hw 39 rfl)) (mvT hZ (ww hw 40 rfl)) (mvT hZ (ww hw 41 rfl)) (by decide) (backOf (W := 1) (rm5 l Z a0 hw [] b6 b4 b4 (0 : Int32) h6 n0 (Nat.le_trans (Nat.le_trans (Nat.le_trans Z0 E4.1) Kc5.1) E6.1) (Nat.ne_of_lt (Nat.lt_of_lt_of_le (E_b4.keep Kc5).lt (Nat.le_of_eq g6.symm))) E_b6 F_values_b6 F_parent_b6 F_top_b6 F_model_b6 F_template_b6 F_renderer_b6 F_calls_b6 g_b6 (Ftop5.ext E6) (Fmodel5.ext E6) (Ftemplate5.ext E6) (Frenderer5.ext E6) (Fcalls5.ext E6)) hZ (ww hw 41 rfl) (ww hw 2 rfl) (by decide) (by decide)) (g := (mkF m 15 #[.val (.int p1), .val (.int p2), .val (.int p3), .val (.ref b4), .unset, .unset, .unset, .unset, .unset, .unset, .unset, .unset, .unset] [(.ref b4), (.ref b6), (.ref b6)])) rfl (by rw [hml]; rfl) (Steps.refl _) (a := b6) (argsL := [(.ref b4)]) (rest := [(.ref b6)]) (lenOf pd_0_2 rfl) rfl (by show 2 * 0 + _ ≤ _; exact Nat.le_of_eq rfl) (hb hby at_15) (fun _ _ => ⟨rfl, e6, (by decide : 3 + 1 ≤ _), (by decide : 24 + 8 ≤ _)⟩)
  dsimp only [Pt.U, Pt.locs, Pt.cells, Pt.slots] at X7 l7 y7 z7 st7 hQ7
  subst l7 y7 z7
  obtain ⟨rfl, N7q, Kc7, Ec7, Ft7⟩ := hQ7
  have N7 := Fr.app N5 N7q
  have S_BREAK_7 := own_stak (S_BREAK_5.ext E6) Kc7 (allS (own_nst E_b6) all0)
  have S_CONTINUE_7 := own_stak (S_CONTINUE_5.ext E6) Kc7 (allS (own_nst E_b6) all0)
  have K7 : Keep h0 T7.heap [] := K6.trans Kc7 (allS (Or.inr sz_b6) all0)
  obtain ⟨cq8, kq8, q8a, q8b, q8c⟩ := isOf hZ rfl (E_b6.keep Kc7)
  obtain ⟨_, _, ⟨T8, L8, k8, n8⟩, -, X8, ⟨Lc8, hQ8, l8, y8, z8⟩, st8⟩ := X7.virtualBack hx (y := (⟨"com/example/transom/transom/Scope", "jumping", "()Z"⟩ : MethodName)) (z := (⟨"com/example/transom/transom/Scope", "jumping", "()Z"⟩ : MethodName)) hown (mvT hZ (ww hw 45 rfl)) (mvT hZ (ww hw 46 rfl)) (notFace_of_selects (args := #[]) (mvT hZ (ww hw 48 rfl))) (mvT hZ (ww hw 48 rfl)) (mvT hZ (ww hw 47 rfl)) (by decide) (backOf (W := 0) (rmJn l Z a0 hw [] b6 b4 T7.heap n0 (Nat.le_trans (Nat.le_trans (Nat.le_trans (Nat.le_trans Z0 E4.1) Kc5.1) E6.1) Kc7.1) Ft7 ((Fjump5.ext E6).keep Kc7 (ninS (Nat.ne_of_lt (Nat.lt_of_lt_of_le (E_b4.keep Kc5).lt (Nat.le_of_eq g6.symm))) nin0))) hZ (ww hw 49 rfl) (ww hw 2 rfl) (by decide) (by decide)) q8a q8c (g := (mkF m 129 #[.val (.int p1), .val (.int p2), .val (.int p3), .val (.ref b4), .val (.ref b6), .val (.ref b6), .val (.ref b6), .val (.int (p1 &&& (3 : Int32))), .val .null, .unset, .unset, .unset, .unset] [(.ref b6)])) rfl (by rw [hml]; rfl) (Steps.refl _) (argsL := []) (rest := []) (lenOf pd_0_4 rfl) rfl (by show 2 * 0 + _ ≤ _; exact Nat.le_of_eq rfl) (hb hby at_129) (fun _ _ => ⟨rfl, rfl, (by decide : 4 + 0 ≤ _), (by decide : 32 + 0 ≤ _)⟩)
  dsimp only [Pt.U, Pt.locs, Pt.cells, Pt.slots] at X8 l8 y8 z8 st8 hQ8
  subst l8 y8 z8
  obtain ⟨rfl, N8q, eh8⟩ := hQ8
  have N8 := Fr.app N7 N8q
  obtain ⟨cq9, kq9, q9a, q9b, q9c⟩ := isOf hZ eh8 (E_b6.keep Kc7)
  obtain ⟨_, _, ⟨T9, L9, k9, n9⟩, -, X9, ⟨Lc9, hQ9, l9, y9, z9⟩, st9⟩ := X8.virtualBack hx (y := (⟨"com/example/transom/transom/Scope", "land", "()Lcom/example/transom/transom/Scope$Jump;"⟩ : MethodName)) (z := (⟨"com/example/transom/transom/Scope", "land", "()Lcom/example/transom/transom/Scope$Jump;"⟩ : MethodName)) hown (mvT hZ (ww hw 52 rfl)) (mvT hZ (ww hw 53 rfl)) (notFace_of_selects (args := #[]) (mvT hZ (ww hw 55 rfl))) (mvT hZ (ww hw 55 rfl)) (mvT hZ (ww hw 54 rfl)) (by decide) (backOf (W := 0) (rmLn l Z a0 hw [] b6 b4 T7.heap n0 (Nat.le_trans (Nat.le_trans (Nat.le_trans (Nat.le_trans Z0 E4.1) Kc5.1) E6.1) Kc7.1) ((Ftop5.ext E6).keep Kc7 (ninS (Nat.ne_of_lt (Nat.lt_of_lt_of_le (E_b4.keep Kc5).lt (Nat.le_of_eq g6.symm))) nin0)) Ft7 ((Fjump5.ext E6).keep Kc7 (ninS (Nat.ne_of_lt (Nat.lt_of_lt_of_le (E_b4.keep Kc5).lt (Nat.le_of_eq g6.symm))) nin0)) (((E_b4.keep Kc5).ext E6).keep Kc7) g_b4) hZ (ww hw 56 rfl) (ww hw 2 rfl) (by decide) (by decide)) q9a q9c (g := (mkF m 154 #[.val (.int p1), .val (.int p2), .val (.int p3), .val (.ref b4), .val (.ref b6), .val (.ref b6), .val (.ref b6), .val (.int (p1 &&& (3 : Int32))), .val .null, .val (.int (1 : Int32)), .unset, .unset, .unset] [(.ref b6)])) rfl (by rw [hml]; rfl) (Steps.refl _) (argsL := []) (rest := []) (lenOf pd_0_5 rfl) rfl (by show 2 * 0 + _ ≤ _; exact Nat.le_of_eq rfl) (hb hby at_154) (fun _ _ => ⟨rfl, eh8, (by decide : 4 + 0 ≤ _), (by decide : 32 + 0 ≤ _)⟩)
  dsimp only [Pt.U, Pt.locs, Pt.cells, Pt.slots] at X9 l9 y9 z9 st9 hQ9
  subst l9 y9 z9
  obtain ⟨rfl, N9q, Kc9, Fj9, Ft9⟩ := hQ9
  have N9 := Fr.app N8 N9q
  have S_BREAK_9 := own_stak S_BREAK_7 Kc9 (allS (own_nst (((E_b4.keep Kc5).ext E6).keep Kc7)) all0)
  have S_CONTINUE_9 := own_stak S_CONTINUE_7 Kc9 (allS (own_nst (((E_b4.keep Kc5).ext E6).keep Kc7)) all0)
  have K9 : Keep h0 T9.heap [] := K7.trans Kc9 (allS (Or.inr sz_b4) all0)
  obtain ⟨cq10, kq10, q10a, q10b, q10c⟩ := isOf hZ rfl ((((E_b4.keep Kc5).ext E6).keep Kc7).keep Kc9)
  obtain ⟨_, _, ⟨T10, L10, k10, n10⟩, -, X10, ⟨Lc10, hQ10, l10, y10, z10⟩, st10⟩ := X9.virtualBack hx (y := (⟨"com/example/transom/transom/Scope", "jumping", "()Z"⟩ : MethodName)) (z := (⟨"com/example/transom/transom/Scope", "jumping", "()Z"⟩ : MethodName)) hown (mvT hZ (ww hw 45 rfl)) (mvT hZ (ww hw 46 rfl)) (notFace_of_selects (args := #[]) (mvT hZ (ww hw 48 rfl))) (mvT hZ (ww hw 48 rfl)) (mvT hZ (ww hw 47 rfl)) (by decide) (backOf (W := 0) (rmJn l Z a0 hw [] b4 b4 T9.heap n0 (Nat.le_trans (Nat.le_trans (Nat.le_trans (Nat.le_trans (Nat.le_trans Z0 E4.1) Kc5.1) E6.1) Kc7.1) Kc9.1) Ft9 Fj9) hZ (ww hw 49 rfl) (ww hw 2 rfl) (by decide) (by decide)) q10a q10c (g := (mkF m 160 #[.val (.int p1), .val (.int p2), .val (.int p3), .val (.ref b4), .val (.ref b6), .val (.ref b6), .val (.ref b6), .val (.int (p1 &&& (3 : Int32))), .val .null, .val (.int (1 : Int32)), .val .null, .unset, .unset] [(.ref b4)])) rfl (by rw [hml]; rfl) (Steps.refl _) (argsL := []) (rest := []) (lenOf pd_0_4 rfl) rfl (by show 2 * 0 + _ ≤ _; exact Nat.le_of_eq rfl) (hb hby at_160) (fun _ _ => ⟨rfl, rfl, (by decide : 4 + 0 ≤ _), (by decide : 32 + 0 ≤ _)⟩)
  dsimp only [Pt.U, Pt.locs, Pt.cells, Pt.slots] at X10 l10 y10 z10 st10 hQ10
  subst l10 y10 z10
  obtain ⟨rfl, N10q, eh10⟩ := hQ10
  have N10 := Fr.app N9 N10q
  obtain ⟨cq11, kq11, q11a, q11b, q11c⟩ := isOf hZ eh10 ((E_b6.keep Kc7).keep Kc9)
  obtain ⟨_, _, ⟨T11, L11, k11, n11⟩, -, X11, ⟨Lc11, hQ11, l11, y11, z11⟩, st11⟩ := X10.virtualBack hx (y := (⟨"com/example/transom/transom/Scope", "jumping", "()Z"⟩ : MethodName)) (z := (⟨"com/example/transom/transom/Scope", "jumping", "()Z"⟩ : MethodName)) hown (mvT hZ (ww hw 45 rfl)) (mvT hZ (ww hw 46 rfl)) (notFace_of_selects (args := #[]) (mvT hZ (ww hw 48 rfl))) (mvT hZ (ww hw 48 rfl)) (mvT hZ (ww hw 47 rfl)) (by decide) (backOf (W := 0) (rmJn l Z a0 hw [] b6 b4 T9.heap n0 (Nat.le_trans (Nat.le_trans (Nat.le_trans (Nat.le_trans (Nat.le_trans Z0 E4.1) Kc5.1) E6.1) Kc7.1) Kc9.1) (Ft7.keep Kc9 (ninS (Ne.symm (Nat.ne_of_lt (Nat.lt_of_lt_of_le (E_b4.keep Kc5).lt (Nat.le_of_eq g6.symm)))) nin0)) Fj9) hZ (ww hw 49 rfl) (ww hw 2 rfl) (by decide) (by decide)) q11a q11c (g := (mkF m 168 #[.val (.int p1), .val (.int p2), .val (.int p3), .val (.ref b4), .val (.ref b6), .val (.ref b6), .val (.ref b6), .val (.int (p1 &&& (3 : Int32))), .val .null, .val (.int (1 : Int32)), .val .null, .unset, .unset] [(.ref b6)])) rfl (by rw [hml]; rfl) (Steps.refl _) (argsL := []) (rest := []) (lenOf pd_0_4 rfl) rfl (by show 2 * 0 + _ ≤ _; exact Nat.le_of_eq rfl) (hb hby at_168) (fun _ _ => ⟨rfl, eh10, (by decide : 4 + 0 ≤ _), (by decide : 32 + 0 ≤ _)⟩)
  dsimp only [Pt.U, Pt.locs, Pt.cells, Pt.slots] at X11 l11 y11 z11 st11 hQ11
  subst l11 y11 z11
  obtain ⟨rfl, N11q, eh11⟩ := hQ11
  have N11 := Fr.app N10 N11q
  obtain ⟨cq12, kq12, q12a, q12b, q12c⟩ := isOf hZ eh11 ((E_b6.keep Kc7).keep Kc9)
  obtain ⟨_, _, ⟨T12, L12, k12, n12⟩, -, X12, ⟨Lc12, hQ12, l12, y12, z12⟩, st12⟩ := X11.virtualBack hx (y := (⟨"com/example/transom/transom/Scope", "land", "()Lcom/example/transom/transom/Scope$Jump;"⟩ : MethodName)) (z := (⟨"com/example/transom/transom/Scope", "land", "()Lcom/example/transom/transom/Scope$Jump;"⟩ : MethodName)) hown (mvT hZ (ww hw 52 rfl)) (mvT hZ (ww hw 53 rfl)) (notFace_of_selects (args := #[]) (mvT hZ (ww hw 55 rfl))) (mvT hZ (ww hw 55 rfl)) (mvT hZ (ww hw 54 rfl)) (by decide) (backOf (W := 0) (rmLn l Z a0 hw [] b6 b4 T9.heap n0 (Nat.le_trans (Nat.le_trans (Nat.le_trans (Nat.le_trans (Nat.le_trans Z0 E4.1) Kc5.1) E6.1) Kc7.1) Kc9.1) Ft9 (Ft7.keep Kc9 (ninS (Ne.symm (Nat.ne_of_lt (Nat.lt_of_lt_of_le (E_b4.keep Kc5).lt (Nat.le_of_eq g6.symm)))) nin0)) Fj9 ((((E_b4.keep Kc5).ext E6).keep Kc7).keep Kc9) g_b4) hZ (ww hw 56 rfl) (ww hw 2 rfl) (by decide) (by decide)) q12a q12c (g := (mkF m 183 #[.val (.int p1), .val (.int p2), .val (.int p3), .val (.ref b4), .val (.ref b6), .val (.ref b6), .val (.ref b6), .val (.int (p1 &&& (3 : Int32))), .val .null, .val (.int (1 : Int32)), .val .null, .val (.int (1 : Int32)), .unset] [(.ref b6)])) rfl (by rw [hml]; rfl) (Steps.refl _) (argsL := []) (rest := []) (lenOf pd_0_5 rfl) rfl (by show 2 * 0 + _ ≤ _; exact Nat.le_of_eq rfl) (hb hby at_183) (fun _ _ => ⟨rfl, eh11, (by decide : 4 + 0 ≤ _), (by decide : 32 + 0 ≤ _)⟩)
  dsimp only [Pt.U, Pt.locs, Pt.cells, Pt.slots] at X12 l12 y12 z12 st12 hQ12
  subst l12 y12 z12
  obtain ⟨rfl, N12q, Kc12, Fj12, Ft12⟩ := hQ12
  have N12 := Fr.app N11 N12q
  have S_BREAK_12 := own_stak S_BREAK_9 Kc12 (allS (own_nst ((((E_b4.keep Kc5).ext E6).keep Kc7).keep Kc9)) all0)
  have S_CONTINUE_12 := own_stak S_CONTINUE_9 Kc12 (allS (own_nst ((((E_b4.keep Kc5).ext E6).keep Kc7).keep Kc9)) all0)
  have K12 : Keep h0 T12.heap [] := K9.trans Kc12 (allS (Or.inr sz_b4) all0)
  obtain ⟨fs, hr, hrun, hended, hW, hsame⟩ := X12.leave (v := some (.int (1 : Int32))) (fun h => by rw [Bd.returns] at h; cases h)
  refine ⟨_, _, pre0 _ ?_, hrun, hended, _, _, rfl, ?_, ⟨_, rfl⟩, hW, hsame.mono (by decide) (by decide)⟩
  · show Steps _ _ _ (s₁.setTop (mkF m 0 #[.val (.int p1), .val (.int p2), .val (.int p3), .unset, .unset, .unset, .unset, .unset, .unset, .unset, .unset, .unset, .unset] [])) _
    refine st4 _ ?_
    show Steps _ _ _ (T4.setTop (mkF m 3 #[.val (.int p1), .val (.int p2), .val (.int p3), .unset, .unset, .unset, .unset, .unset, .unset, .unset, .unset, .unset, .unset] [(.ref b4)])) _
    refine XS.dup X4.here hx rfl (hb hby at_3) rfl rfl ?_
    show Steps _ _ _ (T4.setTop (mkF m 4 #[.val (.int p1), .val (.int p2), .val (.int p3), .unset, .unset, .unset, .unset, .unset, .unset, .unset, .unset, .unset, .unset] [(.ref b4), (.ref b4)])) _
    refine XS.aconstNull X4.here hx rfl (hb hby at_4) ?_
    show Steps _ _ _ (T4.setTop (mkF m 5 #[.val (.int p1), .val (.int p2), .val (.int p3), .unset, .unset, .unset, .unset, .unset, .unset, .unset, .unset, .unset, .unset] [.null, (.ref b4), (.ref b4)])) _
    refine XS.aconstNull X4.here hx rfl (hb hby at_5) ?_
    show Steps _ _ _ (T4.setTop (mkF m 6 #[.val (.int p1), .val (.int p2), .val (.int p3), .unset, .unset, .unset, .unset, .unset, .unset, .unset, .unset, .unset, .unset] [.null, .null, (.ref b4), (.ref b4)])) _
    refine st5.trans ?_
    show Steps _ _ _ (T5.setTop (mkF m 9 #[.val (.int p1), .val (.int p2), .val (.int p3), .unset, .unset, .unset, .unset, .unset, .unset, .unset, .unset, .unset, .unset] [(.ref b4)])) _
    refine XS.astoreN X5.here hx rfl (hb hby at_9) rfl rfl (l' := #[.val (.int p1), .val (.int p2), .val (.int p3), .val (.ref b4), .unset, .unset, .unset, .unset, .unset, .unset, .unset, .unset, .unset]) rfl ?_
    show Steps _ _ _ (T5.setTop (mkF m 10 #[.val (.int p1), .val (.int p2), .val (.int p3), .val (.ref b4), .unset, .unset, .unset, .unset, .unset, .unset, .unset, .unset, .unset] [])) _
    refine st6 _ ?_
    show Steps _ _ _ (T6.setTop (mkF m 13 #[.val (.int p1), .val (.int p2), .val (.int p3), .val (.ref b4), .unset, .unset, .unset, .unset, .unset, .unset, .unset, .unset, .unset] [(.ref b6)])) _
    refine XS.dup X6.here hx rfl (hb hby at_13) rfl rfl ?_
    show Steps _ _ _ (T6.setTop (mkF m 14 #[.val (.int p1), .val (.int p2), .val (.int p3), .val (.ref b4), .unset, .unset, .unset, .unset, .unset, .unset, .unset, .unset, .unset] [(.ref b6), (.ref b6)])) _
    refine XS.aloadN X6.here hx rfl (hb hby at_14) rfl rfl ?_
    show Steps _ _ _ (T6.setTop (mkF m 15 #[.val (.int p1), .val (.int p2), .val (.int p3), .val (.ref b4), .unset, .unset, .unset, .unset, .unset, .unset, .unset, .unset, .unset] [(.ref b4), (.ref b6), (.ref b6)])) _
    refine st7.trans ?_
    show Steps _ _ _ (T7.setTop (mkF m 18 #[.val (.int p1), .val (.int p2), .val (.int p3), .val (.ref b4), .unset, .unset, .unset, .unset, .unset, .unset, .unset, .unset, .unset] [(.ref b6)])) _
    refine XS.astore X7.here hx rfl (hb hby at_18) rfl rfl (l' := #[.val (.int p1), .val (.int p2), .val (.int p3), .val (.ref b4), .val (.ref b6), .unset, .unset, .unset, .unset, .unset, .unset, .unset, .unset]) rfl ?_
    show Steps _ _ _ (T7.setTop (mkF m 20 #[.val (.int p1), .val (.int p2), .val (.int p3), .val (.ref b4), .val (.ref b6), .unset, .unset, .unset, .unset, .unset, .unset, .unset, .unset] [])) _
    refine XS.iloadN X7.here hx rfl (hb hby at_20) rfl ?_
    show Steps _ _ _ (T7.setTop (mkF m 21 #[.val (.int p1), .val (.int p2), .val (.int p3), .val (.ref b4), .val (.ref b6), .unset, .unset, .unset, .unset, .unset, .unset, .unset, .unset] [(.int p2)])) _
    refine XS.iconst X7.here hx rfl (hb hby at_21) ?_
    show Steps _ _ _ (T7.setTop (mkF m 22 #[.val (.int p1), .val (.int p2), .val (.int p3), .val (.ref b4), .val (.ref b6), .unset, .unset, .unset, .unset, .unset, .unset, .unset, .unset] [(.int (1 : Int32)), (.int p2)])) _
    refine XS.iand X7.here hx rfl (hb hby at_22) rfl ?_
    show Steps _ _ _ (T7.setTop (mkF m 23 #[.val (.int p1), .val (.int p2), .val (.int p3), .val (.ref b4), .val (.ref b6), .unset, .unset, .unset, .unset, .unset, .unset, .unset, .unset] [(.int (p2 &&& (1 : Int32)))])) _
    refine XS.ifNo X7.here hx rfl (hb hby at_23) rfl ((if0 _ _).trans (feq hc23).1) ?_
    show Steps _ _ _ (T7.setTop (mkF m 26 #[.val (.int p1), .val (.int p2), .val (.int p3), .val (.ref b4), .val (.ref b6), .unset, .unset, .unset, .unset, .unset, .unset, .unset, .unset] [])) _
    refine XS.aload X7.here hx rfl (hb hby at_26) rfl rfl ?_
    show Steps _ _ _ (T7.setTop (mkF m 28 #[.val (.int p1), .val (.int p2), .val (.int p3), .val (.ref b4), .val (.ref b6), .unset, .unset, .unset, .unset, .unset, .unset, .unset, .unset] [(.ref b6)])) _
    refine XS.goto X7.here hx rfl (pc0 := 28) (pc' := 32) rfl (hb hby at_28) (by decide) (by decide) ?_
    show Steps _ _ _ (T7.setTop (mkF m 32 #[.val (.int p1), .val (.int p2), .val (.int p3), .val (.ref b4), .val (.ref b6), .unset, .unset, .unset, .unset, .unset, .unset, .unset, .unset] [(.ref b6)])) _
    refine XS.astore X7.here hx rfl (hb hby at_32) rfl rfl (l' := #[.val (.int p1), .val (.int p2), .val (.int p3), .val (.ref b4), .val (.ref b6), .val (.ref b6), .unset, .unset, .unset, .unset, .unset, .unset, .unset]) rfl ?_
    show Steps _ _ _ (T7.setTop (mkF m 34 #[.val (.int p1), .val (.int p2), .val (.int p3), .val (.ref b4), .val (.ref b6), .val (.ref b6), .unset, .unset, .unset, .unset, .unset, .unset, .unset] [])) _
    refine XS.iloadN X7.here hx rfl (hb hby at_34) rfl ?_
    show Steps _ _ _ (T7.setTop (mkF m 35 #[.val (.int p1), .val (.int p2), .val (.int p3), .val (.ref b4), .val (.ref b6), .val (.ref b6), .unset, .unset, .unset, .unset, .unset, .unset, .unset] [(.int p3)])) _
    refine XS.iconst X7.here hx rfl (hb hby at_35) ?_
    show Steps _ _ _ (T7.setTop (mkF m 36 #[.val (.int p1), .val (.int p2), .val (.int p3), .val (.ref b4), .val (.ref b6), .val (.ref b6), .unset, .unset, .unset, .unset, .unset, .unset, .unset] [(.int (1 : Int32)), (.int p3)])) _
    refine XS.iand X7.here hx rfl (hb hby at_36) rfl ?_
    show Steps _ _ _ (T7.setTop (mkF m 37 #[.val (.int p1), .val (.int p2), .val (.int p3), .val (.ref b4), .val (.ref b6), .val (.ref b6), .unset, .unset, .unset, .unset, .unset, .unset, .unset] [(.int (p3 &&& (1 : Int32)))])) _
    refine XS.ifNo X7.here hx rfl (hb hby at_37) rfl ((if0 _ _).trans (feq hc37).1) ?_
    show Steps _ _ _ (T7.setTop (mkF m 40 #[.val (.int p1), .val (.int p2), .val (.int p3), .val (.ref b4), .val (.ref b6), .val (.ref b6), .unset, .unset, .unset, .unset, .unset, .unset, .unset] [])) _
    refine XS.aload X7.here hx rfl (hb hby at_40) rfl rfl ?_
    show Steps _ _ _ (T7.setTop (mkF m 42 #[.val (.int p1), .val (.int p2), .val (.int p3), .val (.ref b4), .val (.ref b6), .val (.ref b6), .unset, .unset, .unset, .unset, .unset, .unset, .unset] [(.ref b6)])) _
    refine XS.goto X7.here hx rfl (pc0 := 42) (pc' := 46) rfl (hb hby at_42) (by decide) (by decide) ?_
    show Steps _ _ _ (T7.setTop (mkF m 46 #[.val (.int p1), .val (.int p2), .val (.int p3), .val (.ref b4), .val (.ref b6), .val (.ref b6), .unset, .unset, .unset, .unset, .unset, .unset, .unset] [(.ref b6)])) _
    refine XS.astore X7.here hx rfl (hb hby at_46) rfl rfl (l' := #[.val (.int p1), .val (.int p2), .val (.int p3), .val (.ref b4), .val (.ref b6), .val (.ref b6), .val (.ref b6), .unset, .unset, .unset, .unset, .unset, .unset]) rfl ?_
    show Steps _ _ _ (T7.setTop (mkF m 48 #[.val (.int p1), .val (.int p2), .val (.int p3), .val (.ref b4), .val (.ref b6), .val (.ref b6), .val (.ref b6), .unset, .unset, .unset, .unset, .unset, .unset] [])) _
    refine XS.iloadN X7.here hx rfl (hb hby at_48) rfl ?_
    show Steps _ _ _ (T7.setTop (mkF m 49 #[.val (.int p1), .val (.int p2), .val (.int p3), .val (.ref b4), .val (.ref b6), .val (.ref b6), .val (.ref b6), .unset, .unset, .unset, .unset, .unset, .unset] [(.int p1)])) _
    refine XS.iconst X7.here hx rfl (hb hby at_49) ?_
    show Steps _ _ _ (T7.setTop (mkF m 50 #[.val (.int p1), .val (.int p2), .val (.int p3), .val (.ref b4), .val (.ref b6), .val (.ref b6), .val (.ref b6), .unset, .unset, .unset, .unset, .unset, .unset] [(.int (3 : Int32)), (.int p1)])) _
    refine XS.iand X7.here hx rfl (hb hby at_50) rfl ?_
    show Steps _ _ _ (T7.setTop (mkF m 51 #[.val (.int p1), .val (.int p2), .val (.int p3), .val (.ref b4), .val (.ref b6), .val (.ref b6), .val (.ref b6), .unset, .unset, .unset, .unset, .unset, .unset] [(.int (p1 &&& (3 : Int32)))])) _
    refine XS.istore X7.here hx rfl (hb hby at_51) rfl (l' := #[.val (.int p1), .val (.int p2), .val (.int p3), .val (.ref b4), .val (.ref b6), .val (.ref b6), .val (.ref b6), .val (.int (p1 &&& (3 : Int32))), .unset, .unset, .unset, .unset, .unset]) rfl ?_
    show Steps _ _ _ (T7.setTop (mkF m 53 #[.val (.int p1), .val (.int p2), .val (.int p3), .val (.ref b4), .val (.ref b6), .val (.ref b6), .val (.ref b6), .val (.int (p1 &&& (3 : Int32))), .unset, .unset, .unset, .unset, .unset] [])) _
    refine XS.aconstNull X7.here hx rfl (hb hby at_53) ?_
    show Steps _ _ _ (T7.setTop (mkF m 54 #[.val (.int p1), .val (.int p2), .val (.int p3), .val (.ref b4), .val (.ref b6), .val (.ref b6), .val (.ref b6), .val (.int (p1 &&& (3 : Int32))), .unset, .unset, .unset, .unset, .unset] [.null])) _
    refine XS.astore X7.here hx rfl (hb hby at_54) rfl rfl (l' := #[.val (.int p1), .val (.int p2), .val (.int p3), .val (.ref b4), .val (.ref b6), .val (.ref b6), .val (.ref b6), .val (.int (p1 &&& (3 : Int32))), .val .null, .unset, .unset, .unset, .unset]) rfl ?_
    show Steps _ _ _ (T7.setTop (mkF m 56 #[.val (.int p1), .val (.int p2), .val (.int p3), .val (.ref b4), .val (.ref b6), .val (.ref b6), .val (.ref b6), .val (.int (p1 &&& (3 : Int32))), .val .null, .unset, .unset, .unset, .unset] [])) _
    refine XS.iload X7.here hx rfl (hb hby at_56) rfl ?_
    show Steps _ _ _ (T7.setTop (mkF m 58 #[.val (.int p1), .val (.int p2), .val (.int p3), .val (.ref b4), .val (.ref b6), .val (.ref b6), .val (.ref b6), .val (.int (p1 &&& (3 : Int32))), .val .null, .unset, .unset, .unset, .unset] [(.int (p1 &&& (3 : Int32)))])) _
    refine XS.iconst X7.here hx rfl (hb hby at_58) ?_
    show Steps _ _ _ (T7.setTop (mkF m 59 #[.val (.int p1), .val (.int p2), .val (.int p3), .val (.ref b4), .val (.ref b6), .val (.ref b6), .val (.ref b6), .val (.int (p1 &&& (3 : Int32))), .val .null, .unset, .unset, .unset, .unset] [(.int (1 : Int32)), (.int (p1 &&& (3 : Int32)))])) _
    refine XS.icmpYes X7.here hx rfl (pc0 := 59) (pc' := 78) rfl (hb hby at_59) rfl (feq hc59).2 (by decide) (by decide) ?_
    show Steps _ _ _ (T7.setTop (mkF m 78 #[.val (.int p1), .val (.int p2), .val (.int p3), .val (.ref b4), .val (.ref b6), .val (.ref b6), .val (.ref b6), .val (.int (p1 &&& (3 : Int32))), .val .null, .unset, .unset, .unset, .unset] [])) _
    refine XS.iload X7.here hx rfl (hb hby at_78) rfl ?_
    show Steps _ _ _ (T7.setTop (mkF m 80 #[.val (.int p1), .val (.int p2), .val (.int p3), .val (.ref b4), .val (.ref b6), .val (.ref b6), .val (.ref b6), .val (.int (p1 &&& (3 : Int32))), .val .null, .unset, .unset, .unset, .unset] [(.int (p1 &&& (3 : Int32)))])) _
    refine XS.iconst X7.here hx rfl (hb hby at_80) ?_
    show Steps _ _ _ (T7.setTop (mkF m 81 #[.val (.int p1), .val (.int p2), .val (.int p3), .val (.ref b4), .val (.ref b6), .val (.ref b6), .val (.ref b6), .val (.int (p1 &&& (3 : Int32))), .val .null, .unset, .unset, .unset, .unset] [(.int (2 : Int32)), (.int (p1 &&& (3 : Int32)))])) _
    refine XS.icmpYes X7.here hx rfl (pc0 := 81) (pc' := 100) rfl (hb hby at_81) rfl (feq hc81).2 (by decide) (by decide) ?_
    show Steps _ _ _ (T7.setTop (mkF m 100 #[.val (.int p1), .val (.int p2), .val (.int p3), .val (.ref b4), .val (.ref b6), .val (.ref b6), .val (.ref b6), .val (.int (p1 &&& (3 : Int32))), .val .null, .unset, .unset, .unset, .unset] [])) _
    refine XS.iload X7.here hx rfl (hb hby at_100) rfl ?_
    show Steps _ _ _ (T7.setTop (mkF m 102 #[.val (.int p1), .val (.int p2), .val (.int p3), .val (.ref b4), .val (.ref b6), .val (.ref b6), .val (.ref b6), .val (.int (p1 &&& (3 : Int32))), .val .null, .unset, .unset, .unset, .unset] [(.int (p1 &&& (3 : Int32)))])) _
    refine XS.iconst X7.here hx rfl (hb hby at_102) ?_
    show Steps _ _ _ (T7.setTop (mkF m 103 #[.val (.int p1), .val (.int p2), .val (.int p3), .val (.ref b4), .val (.ref b6), .val (.ref b6), .val (.ref b6), .val (.int (p1 &&& (3 : Int32))), .val .null, .unset, .unset, .unset, .unset] [(.int (3 : Int32)), (.int (p1 &&& (3 : Int32)))])) _
    refine XS.icmpYes X7.here hx rfl (pc0 := 103) (pc' := 127) rfl (hb hby at_103) rfl (feq hc103).2 (by decide) (by decide) ?_
    show Steps _ _ _ (T7.setTop (mkF m 127 #[.val (.int p1), .val (.int p2), .val (.int p3), .val (.ref b4), .val (.ref b6), .val (.ref b6), .val (.ref b6), .val (.int (p1 &&& (3 : Int32))), .val .null, .unset, .unset, .unset, .unset] [])) _
    refine XS.aload X7.here hx rfl (hb hby at_127) rfl rfl ?_
    show Steps _ _ _ (T7.setTop (mkF m 129 #[.val (.int p1), .val (.int p2), .val (.int p3), .val (.ref b4), .val (.ref b6), .val (.ref b6), .val (.ref b6), .val (.int (p1 &&& (3 : Int32))), .val .null, .unset, .unset, .unset, .unset] [(.ref b6)])) _
    refine st8.trans ?_
    show Steps _ _ _ (T8.setTop (mkF m 132 #[.val (.int p1), .val (.int p2), .val (.int p3), .val (.ref b4), .val (.ref b6), .val (.ref b6), .val (.ref b6), .val (.int (p1 &&& (3 : Int32))), .val .null, .unset, .unset, .unset, .unset] [(.int (0 : Int32))])) _
    refine XS.aload X8.here hx rfl (hb hby at_132) rfl rfl ?_
    show Steps _ _ _ (T8.setTop (mkF m 134 #[.val (.int p1), .val (.int p2), .val (.int p3), .val (.ref b4), .val (.ref b6), .val (.ref b6), .val (.ref b6), .val (.int (p1 &&& (3 : Int32))), .val .null, .unset, .unset, .unset, .unset] [.null, (.int (0 : Int32))])) _
    refine XS.ifnullYes X8.here hx rfl (pc0 := 134) (pc' := 141) rfl (hb hby at_134) rfl (by decide) (by decide) ?_
    show Steps _ _ _ (T8.setTop (mkF m 141 #[.val (.int p1), .val (.int p2), .val (.int p3), .val (.ref b4), .val (.ref b6), .val (.ref b6), .val (.ref b6), .val (.int (p1 &&& (3 : Int32))), .val .null, .unset, .unset, .unset, .unset] [(.int (0 : Int32))])) _
    refine XS.iconst X8.here hx rfl (hb hby at_141) ?_
    show Steps _ _ _ (T8.setTop (mkF m 142 #[.val (.int p1), .val (.int p2), .val (.int p3), .val (.ref b4), .val (.ref b6), .val (.ref b6), .val (.ref b6), .val (.int (p1 &&& (3 : Int32))), .val .null, .unset, .unset, .unset, .unset] [(.int (0 : Int32)), (.int (0 : Int32))])) _
    refine XS.icmpNo X8.here hx rfl (hb hby at_142) rfl (teq (rfl : (0 : Int32) = (0 : Int32))).2 ?_
    show Steps _ _ _ (T8.setTop (mkF m 145 #[.val (.int p1), .val (.int p2), .val (.int p3), .val (.ref b4), .val (.ref b6), .val (.ref b6), .val (.ref b6), .val (.int (p1 &&& (3 : Int32))), .val .null, .unset, .unset, .unset, .unset] [])) _
    refine XS.iconst X8.here hx rfl (hb hby at_145) ?_
    show Steps _ _ _ (T8.setTop (mkF m 146 #[.val (.int p1), .val (.int p2), .val (.int p3), .val (.ref b4), .val (.ref b6), .val (.ref b6), .val (.ref b6), .val (.int (p1 &&& (3 : Int32))), .val .null, .unset, .unset, .unset, .unset] [(.int (1 : Int32))])) _
    refine XS.goto X8.here hx rfl (pc0 := 146) (pc' := 150) rfl (hb hby at_146) (by decide) (by decide) ?_
    show Steps _ _ _ (T8.setTop (mkF m 150 #[.val (.int p1), .val (.int p2), .val (.int p3), .val (.ref b4), .val (.ref b6), .val (.ref b6), .val (.ref b6), .val (.int (p1 &&& (3 : Int32))), .val .null, .unset, .unset, .unset, .unset] [(.int (1 : Int32))])) _
    refine XS.istore X8.here hx rfl (hb hby at_150) rfl (l' := #[.val (.int p1), .val (.int p2), .val (.int p3), .val (.ref b4), .val (.ref b6), .val (.ref b6), .val (.ref b6), .val (.int (p1 &&& (3 : Int32))), .val .null, .val (.int (1 : Int32)), .unset, .unset, .unset]) rfl ?_
    show Steps _ _ _ (T8.setTop (mkF m 152 #[.val (.int p1), .val (.int p2), .val (.int p3), .val (.ref b4), .val (.ref b6), .val (.ref b6), .val (.ref b6), .val (.int (p1 &&& (3 : Int32))), .val .null, .val (.int (1 : Int32)), .unset, .unset, .unset] [])) _
    refine XS.aload X8.here hx rfl (hb hby at_152) rfl rfl ?_
    show Steps _ _ _ (T8.setTop (mkF m 154 #[.val (.int p1), .val (.int p2), .val (.int p3), .val (.ref b4), .val (.ref b6), .val (.ref b6), .val (.ref b6), .val (.int (p1 &&& (3 : Int32))), .val .null, .val (.int (1 : Int32)), .unset, .unset, .unset] [(.ref b6)])) _
    refine st9.trans ?_
    show Steps _ _ _ (T9.setTop (mkF m 157 #[.val (.int p1), .val (.int p2), .val (.int p3), .val (.ref b4), .val (.ref b6), .val (.ref b6), .val (.ref b6), .val (.int (p1 &&& (3 : Int32))), .val .null, .val (.int (1 : Int32)), .unset, .unset, .unset] [.null])) _
    refine XS.astore X9.here hx rfl (hb hby at_157) rfl rfl (l' := #[.val (.int p1), .val (.int p2), .val (.int p3), .val (.ref b4), .val (.ref b6), .val (.ref b6), .val (.ref b6), .val (.int (p1 &&& (3 : Int32))), .val .null, .val (.int (1 : Int32)), .val .null, .unset, .unset]) rfl ?_
    show Steps _ _ _ (T9.setTop (mkF m 159 #[.val (.int p1), .val (.int p2), .val (.int p3), .val (.ref b4), .val (.ref b6), .val (.ref b6), .val (.ref b6), .val (.int (p1 &&& (3 : Int32))), .val .null, .val (.int (1 : Int32)), .val .null, .unset, .unset] [])) _
    refine XS.aloadN X9.here hx rfl (hb hby at_159) rfl rfl ?_
    show Steps _ _ _ (T9.setTop (mkF m 160 #[.val (.int p1), .val (.int p2), .val (.int p3), .val (.ref b4), .val (.ref b6), .val (.ref b6), .val (.ref b6), .val (.int (p1 &&& (3 : Int32))), .val .null, .val (.int (1 : Int32)), .val .null, .unset, .unset] [(.ref b4)])) _
    refine st10.trans ?_
    show Steps _ _ _ (T10.setTop (mkF m 163 #[.val (.int p1), .val (.int p2), .val (.int p3), .val (.ref b4), .val (.ref b6), .val (.ref b6), .val (.ref b6), .val (.int (p1 &&& (3 : Int32))), .val .null, .val (.int (1 : Int32)), .val .null, .unset, .unset] [(.int (0 : Int32))])) _
    refine XS.ifNo X10.here hx rfl (hb hby at_163) rfl ((if0 _ _).trans (teq (rfl : (0 : Int32) = (0 : Int32))).2) ?_
    show Steps _ _ _ (T10.setTop (mkF m 166 #[.val (.int p1), .val (.int p2), .val (.int p3), .val (.ref b4), .val (.ref b6), .val (.ref b6), .val (.ref b6), .val (.int (p1 &&& (3 : Int32))), .val .null, .val (.int (1 : Int32)), .val .null, .unset, .unset] [])) _
    refine XS.aload X10.here hx rfl (hb hby at_166) rfl rfl ?_
    show Steps _ _ _ (T10.setTop (mkF m 168 #[.val (.int p1), .val (.int p2), .val (.int p3), .val (.ref b4), .val (.ref b6), .val (.ref b6), .val (.ref b6), .val (.int (p1 &&& (3 : Int32))), .val .null, .val (.int (1 : Int32)), .val .null, .unset, .unset] [(.ref b6)])) _
    refine st11.trans ?_
    show Steps _ _ _ (T11.setTop (mkF m 171 #[.val (.int p1), .val (.int p2), .val (.int p3), .val (.ref b4), .val (.ref b6), .val (.ref b6), .val (.ref b6), .val (.int (p1 &&& (3 : Int32))), .val .null, .val (.int (1 : Int32)), .val .null, .unset, .unset] [(.int (0 : Int32))])) _
    refine XS.ifNo X11.here hx rfl (hb hby at_171) rfl ((if0 _ _).trans (teq (rfl : (0 : Int32) = (0 : Int32))).2) ?_
    show Steps _ _ _ (T11.setTop (mkF m 174 #[.val (.int p1), .val (.int p2), .val (.int p3), .val (.ref b4), .val (.ref b6), .val (.ref b6), .val (.ref b6), .val (.int (p1 &&& (3 : Int32))), .val .null, .val (.int (1 : Int32)), .val .null, .unset, .unset] [])) _
    refine XS.iconst X11.here hx rfl (hb hby at_174) ?_
    show Steps _ _ _ (T11.setTop (mkF m 175 #[.val (.int p1), .val (.int p2), .val (.int p3), .val (.ref b4), .val (.ref b6), .val (.ref b6), .val (.ref b6), .val (.int (p1 &&& (3 : Int32))), .val .null, .val (.int (1 : Int32)), .val .null, .unset, .unset] [(.int (1 : Int32))])) _
    refine XS.goto X11.here hx rfl (pc0 := 175) (pc' := 179) rfl (hb hby at_175) (by decide) (by decide) ?_
    show Steps _ _ _ (T11.setTop (mkF m 179 #[.val (.int p1), .val (.int p2), .val (.int p3), .val (.ref b4), .val (.ref b6), .val (.ref b6), .val (.ref b6), .val (.int (p1 &&& (3 : Int32))), .val .null, .val (.int (1 : Int32)), .val .null, .unset, .unset] [(.int (1 : Int32))])) _
    refine XS.istore X11.here hx rfl (hb hby at_179) rfl (l' := #[.val (.int p1), .val (.int p2), .val (.int p3), .val (.ref b4), .val (.ref b6), .val (.ref b6), .val (.ref b6), .val (.int (p1 &&& (3 : Int32))), .val .null, .val (.int (1 : Int32)), .val .null, .val (.int (1 : Int32)), .unset]) rfl ?_
    show Steps _ _ _ (T11.setTop (mkF m 181 #[.val (.int p1), .val (.int p2), .val (.int p3), .val (.ref b4), .val (.ref b6), .val (.ref b6), .val (.ref b6), .val (.int (p1 &&& (3 : Int32))), .val .null, .val (.int (1 : Int32)), .val .null, .val (.int (1 : Int32)), .unset] [])) _
    refine XS.aload X11.here hx rfl (hb hby at_181) rfl rfl ?_
    show Steps _ _ _ (T11.setTop (mkF m 183 #[.val (.int p1), .val (.int p2), .val (.int p3), .val (.ref b4), .val (.ref b6), .val (.ref b6), .val (.ref b6), .val (.int (p1 &&& (3 : Int32))), .val .null, .val (.int (1 : Int32)), .val .null, .val (.int (1 : Int32)), .unset] [(.ref b6)])) _
    refine st12.trans ?_
    show Steps _ _ _ (T12.setTop (mkF m 186 #[.val (.int p1), .val (.int p2), .val (.int p3), .val (.ref b4), .val (.ref b6), .val (.ref b6), .val (.ref b6), .val (.int (p1 &&& (3 : Int32))), .val .null, .val (.int (1 : Int32)), .val .null, .val (.int (1 : Int32)), .unset] [.null])) _
    refine XS.astore X12.here hx rfl (hb hby at_186) rfl rfl (l' := #[.val (.int p1), .val (.int p2), .val (.int p3), .val (.ref b4), .val (.ref b6), .val (.ref b6), .val (.ref b6), .val (.int (p1 &&& (3 : Int32))), .val .null, .val (.int (1 : Int32)), .val .null, .val (.int (1 : Int32)), .val .null]) rfl ?_
    show Steps _ _ _ (T12.setTop (mkF m 188 #[.val (.int p1), .val (.int p2), .val (.int p3), .val (.ref b4), .val (.ref b6), .val (.ref b6), .val (.ref b6), .val (.int (p1 &&& (3 : Int32))), .val .null, .val (.int (1 : Int32)), .val .null, .val (.int (1 : Int32)), .val .null] [])) _
    refine XS.iload X12.here hx rfl (hb hby at_188) rfl ?_
    show Steps _ _ _ (T12.setTop (mkF m 190 #[.val (.int p1), .val (.int p2), .val (.int p3), .val (.ref b4), .val (.ref b6), .val (.ref b6), .val (.ref b6), .val (.int (p1 &&& (3 : Int32))), .val .null, .val (.int (1 : Int32)), .val .null, .val (.int (1 : Int32)), .val .null] [(.int (1 : Int32))])) _
    refine XS.ifNo X12.here hx rfl (hb hby at_190) rfl ((if0 _ _).trans (feq hc190).1) ?_
    show Steps _ _ _ (T12.setTop (mkF m 193 #[.val (.int p1), .val (.int p2), .val (.int p3), .val (.ref b4), .val (.ref b6), .val (.ref b6), .val (.ref b6), .val (.int (p1 &&& (3 : Int32))), .val .null, .val (.int (1 : Int32)), .val .null, .val (.int (1 : Int32)), .val .null] [])) _
    refine XS.aload X12.here hx rfl (hb hby at_193) rfl rfl ?_
    show Steps _ _ _ (T12.setTop (mkF m 195 #[.val (.int p1), .val (.int p2), .val (.int p3), .val (.ref b4), .val (.ref b6), .val (.ref b6), .val (.ref b6), .val (.int (p1 &&& (3 : Int32))), .val .null, .val (.int (1 : Int32)), .val .null, .val (.int (1 : Int32)), .val .null] [.null])) _
    refine XS.aload X12.here hx rfl (hb hby at_195) rfl rfl ?_
    show Steps _ _ _ (T12.setTop (mkF m 197 #[.val (.int p1), .val (.int p2), .val (.int p3), .val (.ref b4), .val (.ref b6), .val (.ref b6), .val (.ref b6), .val (.int (p1 &&& (3 : Int32))), .val .null, .val (.int (1 : Int32)), .val .null, .val (.int (1 : Int32)), .val .null] [.null, .null])) _
    refine Jvm.RoadKit.acmp (g := (mkF m 197 #[.val (.int p1), .val (.int p2), .val (.int p3), .val (.ref b4), .val (.ref b6), .val (.ref b6), .val (.ref b6), .val (.int (p1 &&& (3 : Int32))), .val .null, .val (.int (1 : Int32)), .val .null, .val (.int (1 : Int32)), .val .null] [.null, .null])) X12 hx rfl rfl rfl (pc0 := 197) (pc' := 200) (same := true) rfl (hb hby at_197) rfl (decide_eq_true rfl) (by decide) (by decide) ?_
    show Steps _ _ _ (T12.setTop (mkF m 200 #[.val (.int p1), .val (.int p2), .val (.int p3), .val (.ref b4), .val (.ref b6), .val (.ref b6), .val (.ref b6), .val (.int (p1 &&& (3 : Int32))), .val .null, .val (.int (1 : Int32)), .val .null, .val (.int (1 : Int32)), .val .null] [])) _
    refine XS.iload X12.here hx rfl (hb hby at_200) rfl ?_
    show Steps _ _ _ (T12.setTop (mkF m 202 #[.val (.int p1), .val (.int p2), .val (.int p3), .val (.ref b4), .val (.ref b6), .val (.ref b6), .val (.ref b6), .val (.int (p1 &&& (3 : Int32))), .val .null, .val (.int (1 : Int32)), .val .null, .val (.int (1 : Int32)), .val .null] [(.int (1 : Int32))])) _
    refine XS.ifNo X12.here hx rfl (hb hby at_202) rfl ((if0 _ _).trans (feq hc202).1) ?_
    show Steps _ _ _ (T12.setTop (mkF m 205 #[.val (.int p1), .val (.int p2), .val (.int p3), .val (.ref b4), .val (.ref b6), .val (.ref b6), .val (.ref b6), .val (.int (p1 &&& (3 : Int32))), .val .null, .val (.int (1 : Int32)), .val .null, .val (.int (1 : Int32)), .val .null] [])) _
    refine XS.aload X12.here hx rfl (hb hby at_205) rfl rfl ?_
    show Steps _ _ _ (T12.setTop (mkF m 207 #[.val (.int p1), .val (.int p2), .val (.int p3), .val (.ref b4), .val (.ref b6), .val (.ref b6), .val (.ref b6), .val (.int (p1 &&& (3 : Int32))), .val .null, .val (.int (1 : Int32)), .val .null, .val (.int (1 : Int32)), .val .null] [.null])) _
    refine XS.ifnonnullNo X12.here hx rfl (hb hby at_207) rfl ?_
    show Steps _ _ _ (T12.setTop (mkF m 210 #[.val (.int p1), .val (.int p2), .val (.int p3), .val (.ref b4), .val (.ref b6), .val (.ref b6), .val (.ref b6), .val (.int (p1 &&& (3 : Int32))), .val .null, .val (.int (1 : Int32)), .val .null, .val (.int (1 : Int32)), .val .null] [])) _
    refine XS.iconst X12.here hx rfl (hb hby at_210) ?_
    show Steps _ _ _ (T12.setTop (mkF m 211 #[.val (.int p1), .val (.int p2), .val (.int p3), .val (.ref b4), .val (.ref b6), .val (.ref b6), .val (.ref b6), .val (.int (p1 &&& (3 : Int32))), .val .null, .val (.int (1 : Int32)), .val .null, .val (.int (1 : Int32)), .val .null] [(.int (1 : Int32))])) _
    refine XS.goto X12.here hx rfl (pc0 := 211) (pc' := 215) rfl (hb hby at_211) (by decide) (by decide) ?_
    show Steps _ _ _ (T12.setTop (mkF m 215 #[.val (.int p1), .val (.int p2), .val (.int p3), .val (.ref b4), .val (.ref b6), .val (.ref b6), .val (.ref b6), .val (.int (p1 &&& (3 : Int32))), .val .null, .val (.int (1 : Int32)), .val .null, .val (.int (1 : Int32)), .val .null] [(.int (1 : Int32))])) _
    exact retN X12 hx (t := .boolean) Bd.returns (by simp) (hb hby at_215) hr
  · show Q0 Z p1 p2 p3 uB uC h0 n0 _ T12.heap _
    exact ⟨rfl, N12⟩
theorem rm0 (l : Launch) (Z : State) (a0 : Array Value) (hw : ∀ d ∈ tables_1, d.before a0 Z = true) (ws : List Jvm.Cond) (p1 : Int32) (p2 : Int32) (p3 : Int32) (uB : Addr) (uC : Addr) (h0 : Heap) (n0 : Nat) (Z0 : n0 ≤ h0.size) (S_BREAK : Sta Z h0 "com/example/transom/transom/Scope$Jump" "BREAK" "Lcom/example/transom/transom/Scope$Jump;" (.ref uB)) (S_CONTINUE : Sta Z h0 "com/example/transom/transom/Scope$Jump" "CONTINUE" "Lcom/example/transom/transom/Scope$Jump;" (.ref uC)) :
    MetFree l x (head1 (Jvm.Cond.code x code maxLocals ret :: ws) room_1) (fun a U => a = #[(.int p1), (.int p2), (.int p3)] ∧ Z.Warmed39 U.vm ∧ U.heap = h0) (fun _ _ _ _ _ => True) (fun _ U o U' => ∃ v L, o = .returned v ∧ Q0 Z p1 p2 p3 uB uC h0 n0 v U'.heap L ∧ FrameEnd U o U' L room_1.cells room_1.slots) := by
  by_cases c1 : (p2 &&& (1 : Int32)) = (0 : Int32)
  · by_cases c2 : (p3 &&& (1 : Int32)) = (0 : Int32)
    · by_cases q1 : (p1 &&& (3 : Int32)) = (1 : Int32)
      · exact rm0_tt1 l Z a0 hw ws p1 p2 p3 uB uC h0 n0 Z0 S_BREAK S_CONTINUE c1 c2 q1 (by decide) (by decide)
      by_cases q2 : (p1 &&& (3 : Int32)) = (2 : Int32)
      · exact rm0_tt2 l Z a0 hw ws p1 p2 p3 uB uC h0 n0 Z0 S_BREAK S_CONTINUE c1 c2 q1 q2 (by decide) (by decide)
      by_cases q3 : (p1 &&& (3 : Int32)) = (3 : Int32)
      · exact rm0_tt3 l Z a0 hw ws p1 p2 p3 uB uC h0 n0 Z0 S_BREAK S_CONTINUE c1 c2 q1 q2 q3 (by decide) (by decide)
      · exact rm0_tt0 l Z a0 hw ws p1 p2 p3 uB uC h0 n0 Z0 S_BREAK S_CONTINUE c1 c2 q1 q2 q3 (by decide) (by decide)
    · by_cases q1 : (p1 &&& (3 : Int32)) = (1 : Int32)
      · exact rm0_tf1 l Z a0 hw ws p1 p2 p3 uB uC h0 n0 Z0 S_BREAK S_CONTINUE c1 c2 q1 (by decide) (by decide)
      by_cases q2 : (p1 &&& (3 : Int32)) = (2 : Int32)
      · exact rm0_tf2 l Z a0 hw ws p1 p2 p3 uB uC h0 n0 Z0 S_BREAK S_CONTINUE c1 c2 q1 q2 (by decide) (by decide)
      by_cases q3 : (p1 &&& (3 : Int32)) = (3 : Int32)
      · exact rm0_tf3 l Z a0 hw ws p1 p2 p3 uB uC h0 n0 Z0 S_BREAK S_CONTINUE c1 c2 q1 q2 q3 (by decide) (by decide)
      · exact rm0_tf0 l Z a0 hw ws p1 p2 p3 uB uC h0 n0 Z0 S_BREAK S_CONTINUE c1 c2 q1 q2 q3 (by decide) (by decide)
  · by_cases c2 : (p3 &&& (1 : Int32)) = (0 : Int32)
    · by_cases q1 : (p1 &&& (3 : Int32)) = (1 : Int32)
      · exact rm0_ft1 l Z a0 hw ws p1 p2 p3 uB uC h0 n0 Z0 S_BREAK S_CONTINUE c1 c2 q1 (by decide) (by decide)
      by_cases q2 : (p1 &&& (3 : Int32)) = (2 : Int32)
      · exact rm0_ft2 l Z a0 hw ws p1 p2 p3 uB uC h0 n0 Z0 S_BREAK S_CONTINUE c1 c2 q1 q2 (by decide) (by decide)
      by_cases q3 : (p1 &&& (3 : Int32)) = (3 : Int32)
      · exact rm0_ft3 l Z a0 hw ws p1 p2 p3 uB uC h0 n0 Z0 S_BREAK S_CONTINUE c1 c2 q1 q2 q3 (by decide) (by decide)
      · exact rm0_ft0 l Z a0 hw ws p1 p2 p3 uB uC h0 n0 Z0 S_BREAK S_CONTINUE c1 c2 q1 q2 q3 (by decide) (by decide)
    · by_cases q1 : (p1 &&& (3 : Int32)) = (1 : Int32)
      · exact rm0_ff1 l Z a0 hw ws p1 p2 p3 uB uC h0 n0 Z0 S_BREAK S_CONTINUE c1 c2 q1 (by decide) (by decide)
      by_cases q2 : (p1 &&& (3 : Int32)) = (2 : Int32)
      · exact rm0_ff2 l Z a0 hw ws p1 p2 p3 uB uC h0 n0 Z0 S_BREAK S_CONTINUE c1 c2 q1 q2 (by decide) (by decide)
      by_cases q3 : (p1 &&& (3 : Int32)) = (3 : Int32)
      · exact rm0_ff3 l Z a0 hw ws p1 p2 p3 uB uC h0 n0 Z0 S_BREAK S_CONTINUE c1 c2 q1 q2 q3 (by decide) (by decide)
      · exact rm0_ff0 l Z a0 hw ws p1 p2 p3 uB uC h0 n0 Z0 S_BREAK S_CONTINUE c1 c2 q1 q2 q3 (by decide) (by decide)
-- 5. FROM THE CASE'S WORDS TO rm0, AND THE OWED THEOREMS
set_option maxRecDepth 65536 in
set_option maxHeartbeats 40000000 in
theorem comes_1 {Post : Tables → Env → Array Value → State → Outcome → State → Prop} (hpost : ∀ tb e args s v u, (limb_1_1.after args s (.returned v) u = true ∧ limb_1_2.after args s (.returned v) u = true ∧ True) → FrameEnd s (.returned v) u (Jvm.fieldLocs frame_1_writes args s ++ Jvm.arrayLocs frame_1_arrays args s ++ Jvm.staticLocs frame_1_statics s) 16 128 → Post tb e args s (.returned v) u) :
    ArmFor flags0 classFile x code maxLocals ret World_1 tables_1 room_1 Calls_1 rest_1 Pre_1 Post := by
  intro l hfl _ _ p e ha hc hk s m args below hf hA hF happ hP
  obtain ⟨hcalls, hrest, hpre⟩ := hP
  obtain ⟨-, -, -, hnamed, -, -, -, hat⟩ := (Spec.applies_iff hf).mp happ
  obtain ⟨hg, hn⟩ := and_e (Cond.before_iff.mp (show (Jvm.Cond.and given_1 narrow_1).before args s = true from hpre))
  obtain ⟨g13, g14⟩ := and_e hg
  obtain ⟨g15, g16⟩ := and_e g14
  obtain ⟨g17, g18⟩ := and_e g16
  obtain ⟨w0, w1, w2, rfl⟩ : ∃ w0 w1 w2 : Value, args = #[w0, w1, w2] := by
    have hs : args.size = 3 := by simpa [Cond.value, given_1] using g13
    obtain ⟨L⟩ := args
    match L, hs with
    | [w0, w1, w2], _ => exact ⟨w0, w1, w2, rfl⟩
  have hw := fun d (hd : d ∈ tables_1) => atoms_spec (ws := Jvm.Cond.code x code maxLocals ret :: tables_1) hat d (List.mem_cons_of_mem _ hd)
  have hfit : Fit s := fun {y c} hc i hi => by
    obtain ⟨ha, rfl⟩ := Array.getElem?_eq_some_iff.mp hc
    have q := List.all_eq_true.mp ((Array.all_eq_true_iff_forall_mem.mp hF) _ (Array.getElem_mem ha)) i (List.mem_range.mpr hi)
    simpa [Array.getElem?_eq_getElem hi] using q
  obtain ⟨i0, ei0⟩ := is_v g15
  obtain rfl : w0 = (.int i0) := Option.some.inj ei0
  obtain ⟨i1, ei1⟩ := is_v g17
  obtain rfl : w1 = (.int i1) := Option.some.inj ei1
  obtain ⟨i2, ei2⟩ := is_v g18
  obtain rfl : w2 = (.int i2) := Option.some.inj ei2
  obtain ⟨x_B, x_C⟩ := and_e hn
  obtain ⟨uB, e_B⟩ := exa_v x_B
  obtain ⟨uC, e_C⟩ := exa_v x_C
  have S_BREAK := Sta.start e_B (Or.inr ⟨hw _ (List.mem_of_getElem? (i := 58) rfl), hw _ (List.mem_of_getElem? (i := 59) rfl)⟩)
  have S_CONTINUE := Sta.start e_C (Or.inr ⟨hw _ (List.mem_of_getElem? (i := 58) rfl), hw _ (List.mem_of_getElem? (i := 66) rfl)⟩)
  obtain ⟨n, o, h1, h2, h3, _, L, rfl, ⟨rfl, N⟩, hq⟩ := rm0 l s _ hw tables_1 i0 i1 i2 uB uC s.heap s.heap.size (Nat.le_refl _) S_BREAK S_CONTINUE p e ha hc hk s m _ below hf ((Spec.applies_iff_loose hf).mp happ).1 ⟨rfl, State.Warmed39.refl s, rfl⟩ trivial
  refine ⟨n, _, h1, h2, h3, hpost _ _ _ _ _ _ ⟨Cond.after_iff.mpr rfl, Cond.after_iff.mpr (eq_i res_at (Term.int_eval (1)) rfl), trivial⟩ ⟨hq.1, hq.2.1, (hq.2.2.sift fun y hy => Or.inr (N y hy)).mono (by decide) (by decide)⟩⟩
theorem main_1_1 : Claimed_1_1 := comes_1 fun _ _ _ _ _ _ h hF => ⟨h.1, hF⟩
theorem main_1_2 : Claimed_1_2 := comes_1 fun _ _ _ _ _ _ h hF => ⟨h.2.1, hF⟩
end Jvm.Pilot.@@N@@
namespace Jvm.Pilot.@@N@@
open Jvm Jvm.ClassFile Sem Op Lib Jvm.Free Jvm.Stand Jvm.Pilot.@@N@@.Jvm.D
/-! MADE BY PROGRAM (witnessworld.py) out of the Statement's table words and the real class files: 16 classes; the members and pool entries that the words name. The judged class is class 1, her method 1. -/
namespace start1
open Jvm.ClassFile
def u (s : String) : CpInfo := .utf8 (stringToUtf16 s)
/-- a pool by its gaps: so many unusable entries, then the entry; so many at the end -/
def gap : Nat → List CpInfo → List CpInfo
  | 0, r => r
  | n + 1, r => .unusable :: gap n r
def poolList (es : List (Nat × CpInfo)) (last : Nat) : List CpInfo := es.foldr (fun e r => gap e.1 (e.2 :: r)) (gap last [])
def pool (es : List (Nat × CpInfo)) (last : Nat) : Array CpInfo := ⟨poolList es last⟩
def fileOf (pool : Array CpInfo) (this : Nat) (attrs : Array Attribute := #[]) (ms : Array MethodInfo := #[]) (fl : Nat := 33) (sup : Nat := 0) (ifs : Array Nat := #[]) (fds : Array FieldInfo := #[]) : ClassFile where
  minorVersion := 0
  majorVersion := 65
  constantPool := pool
  accessFlags := fl
  thisClass := this
  superClass := sup
  interfaces := ifs
  fields := fds
  methods := ms
  attributes := attrs
def plain (name : String) (sup : Option ClassId) : Class where
  name := name
  kind := .ordinary
  loader := none
  accessFlags := 33
  super := sup
  interfaces := #[]
  cf := none
  fields := #[]
  methods := #[]
  instanceTypes := #[]
  staticTypes := #[]
  resolved := #[]
  callSites := []
  init := .initialized
  statics := none
  mirror := none

def pool0 : Array CpInfo := pool [(5, u "<init>"), (0, u "()V"), (1, .class_ 10), (1, u "java/lang/Object")] 113

def k0c0 : Code := { maxStack := 0, maxLocals := 1, code := object_method_1_code, exceptionTable := #[], attributes := #[] }
def k0m0 : Method := { name := "<init>", desc := "()V", sig := { parameters := [], returnType := none }, accessFlags := 1, code := some k0c0 }
/-- java/lang/Object -/
def k0 : Class := { plain "java/lang/Object" none with
  accessFlags := 33
  interfaces := #[]
  cf := some (fileOf pool0 8 #[] #[{ accessFlags := 1, nameIndex := 5, descriptorIndex := 6, attributes := #[] }] 33 0 #[] #[])
  fields := #[]
  methods := #[k0m0]
  instanceTypes := #[]
  staticTypes := #[]
  resolved := Array.replicate 124 none
  statics := none }

def pool1 : Array CpInfo := pool [(2, .class_ 4), (1, u "java/lang/Object"), (0, u "<init>"), (0, u "()V"), (0, .class_ 8), (0, u "com/example/transom/transom/Scope"), (0, .methodref 7 10), (0, .nameAndType 5 11), (0, u "(Ljava/util/Map;Lcom/example/transom/transom/Template;)V"), (0, .methodref 7 13), (0, .nameAndType 5 14), (0, u "(Lcom/example/transom/transom/Scope;)V"), (0, .fieldref 16 17), (0, .class_ 18), (0, .nameAndType 19 20), (0, u "com/example/transom/transom/Scope$Jump"), (0, u "BREAK"), (0, u "Lcom/example/transom/transom/Scope$Jump;"), (0, .methodref 7 22), (0, .nameAndType 23 24), (0, u "jump"), (0, u "(Lcom/example/transom/transom/Scope$Jump;)V"), (0, .fieldref 16 26), (0, .nameAndType 27 20), (0, u "CONTINUE"), (0, .methodref 7 29), (0, .nameAndType 30 31), (0, u "jumping"), (0, u "()Z"), (0, .methodref 7 33), (0, .nameAndType 34 35), (0, u "land"), (0, u "()Lcom/example/transom/transom/Scope$Jump;"), (0, .class_ 37), (0, u "com/example/transom/transom/ScopeLandPinLaw"), (2, u "law"), (0, u "(III)Z")] 5

def k1m0 : Method := { name := "<init>", desc := "()V", sig := { parameters := [], returnType := none }, accessFlags := 1, code := none }
def k1c1 : Code := { maxStack := 4, maxLocals := 13, code := code, exceptionTable := #[], attributes := #[] }
def k1m1 : Method := { name := "law", desc := "(III)Z", sig := { parameters := [.int, .int, .int], returnType := some .boolean }, accessFlags := 9, code := some k1c1 }
/-- com/example/transom/transom/ScopeLandPinLaw -/
def k1 : Class := { plain "com/example/transom/transom/ScopeLandPinLaw" (some 0) with
  accessFlags := 49
  interfaces := #[]
  cf := some (fileOf pool1 36 #[] #[{ accessFlags := 1, nameIndex := 5, descriptorIndex := 6, attributes := #[] }, { accessFlags := 9, nameIndex := 40, descriptorIndex := 41, attributes := #[] }] 49 2 #[] #[])
  fields := #[]
  methods := #[k1m0, k1m1]
  instanceTypes := #[]
  staticTypes := #[]
  resolved := Array.replicate 47 none
  statics := none }

def pool2 : Array CpInfo := pool [(1, .methodref 2 3), (0, .class_ 4), (0, .nameAndType 5 6), (0, u "java/lang/Object"), (0, u "<init>"), (0, u "()V"), (0, .class_ 8), (0, u "java/util/HashMap"), (0, .methodref 7 3), (0, .fieldref 11 12), (0, .class_ 13), (0, .nameAndType 14 15), (0, u "com/example/transom/transom/Scope"), (0, u "values"), (0, u "Ljava/util/Map;"), (0, .fieldref 11 17), (0, .nameAndType 18 19), (0, u "parent"), (0, u "Lcom/example/transom/transom/Scope;"), (0, .fieldref 11 21), (0, .nameAndType 22 19), (0, u "top"), (0, .fieldref 11 24), (0, .nameAndType 25 15), (0, u "model"), (0, .fieldref 11 27), (0, .nameAndType 28 29), (0, u "template"), (0, u "Lcom/example/transom/transom/Template;"), (0, .fieldref 11 31), (0, .nameAndType 32 19), (0, u "renderer"), (0, .fieldref 11 34), (0, .nameAndType 35 36), (0, u "calls"), (0, u "I"), (0, .methodref 11 38), (0, .nameAndType 5 39), (0, u "(Lcom/example/transom/transom/Scope;Lcom/example/transom/transom/Template;Lcom/example/transom/transom/Scope;I)V"), (36, .fieldref 11 77), (0, .nameAndType 78 79), (0, u "jump"), (0, u "Lcom/example/transom/transom/Scope$Jump;"), (0, u "MAX_CALLS"), (4, u "(Ljava/util/Map;Lcom/example/transom/transom/Template;)V"), (3, u "(Lcom/example/transom/transom/Scope;)V"), (10, u "(Lcom/example/transom/transom/Scope$Jump;)V"), (0, u "jumping"), (0, u "()Z"), (0, u "land"), (0, u "()Lcom/example/transom/transom/Scope$Jump;"), (3, .class_ 109), (0, u "com/example/transom/transom/Scope$Jump")] 2

def k2c0 : Code := { maxStack := 3, maxLocals := 3, code := prog_61_method_1_code, exceptionTable := #[], attributes := #[] }
def k2m0 : Method := { name := "<init>", desc := "(Ljava/util/Map;Lcom/example/transom/transom/Template;)V", sig := { parameters := [(.object "java/util/Map"), (.object "com/example/transom/transom/Template")], returnType := none }, accessFlags := 0, code := some k2c0 }
def k2c1 : Code := { maxStack := 5, maxLocals := 2, code := prog_61_method_2_code, exceptionTable := #[], attributes := #[] }
def k2m1 : Method := { name := "<init>", desc := "(Lcom/example/transom/transom/Scope;)V", sig := { parameters := [(.object "com/example/transom/transom/Scope")], returnType := none }, accessFlags := 0, code := some k2c1 }
def k2c2 : Code := { maxStack := 3, maxLocals := 5, code := prog_61_method_3_code, exceptionTable := #[], attributes := #[] }
def k2m2 : Method := { name := "<init>", desc := "(Lcom/example/transom/transom/Scope;Lcom/example/transom/transom/Template;Lcom/example/transom/transom/Scope;I)V", sig := { parameters := [(.object "com/example/transom/transom/Scope"), (.object "com/example/transom/transom/Template"), (.object "com/example/transom/transom/Scope"), .int], returnType := none }, accessFlags := 2, code := some k2c2 }
def k2c3 : Code := { maxStack := 2, maxLocals := 2, code := prog_61_method_11_code, exceptionTable := #[], attributes := #[] }
def k2m3 : Method := { name := "jump", desc := "(Lcom/example/transom/transom/Scope$Jump;)V", sig := { parameters := [(.object "com/example/transom/transom/Scope$Jump")], returnType := none }, accessFlags := 0, code := some k2c3 }
def k2c4 : Code := { maxStack := 1, maxLocals := 1, code := prog_61_method_12_code, exceptionTable := #[], attributes := #[] }
def k2m4 : Method := { name := "jumping", desc := "()Z", sig := { parameters := [], returnType := some .boolean }, accessFlags := 0, code := some k2c4 }
def k2c5 : Code := { maxStack := 2, maxLocals := 2, code := prog_61_method_13_code, exceptionTable := #[], attributes := #[] }
def k2m5 : Method := { name := "land", desc := "()Lcom/example/transom/transom/Scope$Jump;", sig := { parameters := [], returnType := some (.object "com/example/transom/transom/Scope$Jump") }, accessFlags := 0, code := some k2c5 }
/-- com/example/transom/transom/Scope -/
def k2 : Class := { plain "com/example/transom/transom/Scope" (some 0) with
  accessFlags := 48
  interfaces := #[]
  cf := some (fileOf pool2 11 #[.nestMembers #[108]] #[{ accessFlags := 0, nameIndex := 5, descriptorIndex := 85, attributes := #[] }, { accessFlags := 0, nameIndex := 5, descriptorIndex := 89, attributes := #[] }, { accessFlags := 2, nameIndex := 5, descriptorIndex := 39, attributes := #[] }, { accessFlags := 0, nameIndex := 78, descriptorIndex := 100, attributes := #[] }, { accessFlags := 0, nameIndex := 101, descriptorIndex := 102, attributes := #[] }, { accessFlags := 0, nameIndex := 103, descriptorIndex := 104, attributes := #[] }] 48 2 #[] #[{ accessFlags := 24, nameIndex := 80, descriptorIndex := 36, attributes := #[] }, { accessFlags := 18, nameIndex := 18, descriptorIndex := 19, attributes := #[] }, { accessFlags := 18, nameIndex := 22, descriptorIndex := 19, attributes := #[] }, { accessFlags := 18, nameIndex := 25, descriptorIndex := 15, attributes := #[] }, { accessFlags := 18, nameIndex := 28, descriptorIndex := 29, attributes := #[] }, { accessFlags := 18, nameIndex := 32, descriptorIndex := 19, attributes := #[] }, { accessFlags := 18, nameIndex := 35, descriptorIndex := 36, attributes := #[] }, { accessFlags := 18, nameIndex := 14, descriptorIndex := 15, attributes := #[] }, { accessFlags := 2, nameIndex := 78, descriptorIndex := 79, attributes := #[] }])
  fields := #[{ name := "MAX_CALLS", type := .int, accessFlags := 24, slot := 0, constantValue := 0 }, { name := "parent", type := (.object "com/example/transom/transom/Scope"), accessFlags := 18, slot := 0, constantValue := 0 }, { name := "top", type := (.object "com/example/transom/transom/Scope"), accessFlags := 18, slot := 1, constantValue := 0 }, { name := "model", type := (.object "java/util/Map"), accessFlags := 18, slot := 2, constantValue := 0 }, { name := "template", type := (.object "com/example/transom/transom/Template"), accessFlags := 18, slot := 3, constantValue := 0 }, { name := "renderer", type := (.object "com/example/transom/transom/Scope"), accessFlags := 18, slot := 4, constantValue := 0 }, { name := "calls", type := .int, accessFlags := 18, slot := 5, constantValue := 0 }, { name := "values", type := (.object "java/util/Map"), accessFlags := 18, slot := 6, constantValue := 0 }, { name := "jump", type := (.object "com/example/transom/transom/Scope$Jump"), accessFlags := 2, slot := 7, constantValue := 0 }]
  methods := #[k2m0, k2m1, k2m2, k2m3, k2m4, k2m5]
  instanceTypes := #[(.object "com/example/transom/transom/Scope"), (.object "com/example/transom/transom/Scope"), (.object "java/util/Map"), (.object "com/example/transom/transom/Template"), (.object "com/example/transom/transom/Scope"), .int, (.object "java/util/Map"), (.object "com/example/transom/transom/Scope$Jump")]
  staticTypes := #[.int]
  resolved := Array.replicate 112 none
  statics := none }

def pool3 : Array CpInfo := pool [(2, .class_ 4), (1, u "java/util/Map"), (31, .class_ 37), (0, u "java/util/Map$Entry"), (55, .class_ 94), (0, u "java/lang/Object")] 168

/-- java/util/Map -/
def k3 : Class := { plain "java/util/Map" (some 0) with
  accessFlags := 1537
  interfaces := #[]
  cf := some (fileOf pool3 2 #[.nestMembers #[36]] #[] 1537 93 #[] #[])
  fields := #[]
  methods := #[]
  instanceTypes := #[]
  staticTypes := #[]
  resolved := Array.replicate 263 none
  statics := none }

def pool4 : Array CpInfo := pool [(1, .methodref 2 3), (0, .class_ 4), (0, .nameAndType 5 6), (0, u "java/lang/Object"), (0, u "<init>"), (0, u "()V"), (1, .class_ 10), (1, u "java/util/AbstractMap"), (42, .class_ 54), (0, u "java/util/Map"), (9, u "keySet"), (0, u "Ljava/util/Set;"), (0, .class_ 67), (0, u "java/util/AbstractMap$1"), (5, u "values"), (0, u "Ljava/util/Collection;"), (0, .class_ 76), (0, u "java/util/AbstractMap$2"), (104, .class_ 182), (0, u "java/util/AbstractMap$ViewCollection"), (0, .class_ 184), (0, u "java/util/AbstractMap$SimpleImmutableEntry"), (0, .class_ 186), (0, u "java/util/AbstractMap$SimpleEntry"), (0, .class_ 188), (0, u "java/util/AbstractMap$2$1"), (0, .class_ 190), (0, u "java/util/AbstractMap$1$1")] 5

def k4c0 : Code := { maxStack := 1, maxLocals := 1, code := jdk_71_method_1_code, exceptionTable := #[], attributes := #[] }
def k4m0 : Method := { name := "<init>", desc := "()V", sig := { parameters := [], returnType := none }, accessFlags := 4, code := some k4c0 }
/-- java/util/AbstractMap -/
def k4 : Class := { plain "java/util/AbstractMap" (some 0) with
  accessFlags := 1057
  interfaces := #[3]
  cf := some (fileOf pool4 8 #[.nestMembers #[181, 183, 185, 75, 187, 66, 189]] #[{ accessFlags := 4, nameIndex := 5, descriptorIndex := 6, attributes := #[] }] 1057 2 #[53] #[{ accessFlags := 128, nameIndex := 64, descriptorIndex := 65, attributes := #[] }, { accessFlags := 128, nameIndex := 73, descriptorIndex := 74, attributes := #[] }])
  fields := #[{ name := "keySet", type := (.object "java/util/Set"), accessFlags := 128, slot := 0, constantValue := 0 }, { name := "values", type := (.object "java/util/Collection"), accessFlags := 128, slot := 1, constantValue := 0 }]
  methods := #[k4m0]
  instanceTypes := #[(.object "java/util/Set"), (.object "java/util/Collection")]
  staticTypes := #[]
  resolved := Array.replicate 196 none
  statics := none }

def pool5 : Array CpInfo := pool [(1, .class_ 2), (0, u "java/lang/Cloneable"), (0, .class_ 4), (0, u "java/lang/Object")] 2

/-- java/lang/Cloneable -/
def k5 : Class := { plain "java/lang/Cloneable" (some 0) with
  accessFlags := 1537
  interfaces := #[]
  cf := some (fileOf pool5 1 #[] #[] 1537 3 #[] #[])
  fields := #[]
  methods := #[]
  instanceTypes := #[]
  staticTypes := #[]
  resolved := Array.replicate 7 none
  statics := none }

def pool6 : Array CpInfo := pool [(1, .class_ 2), (0, u "java/io/Serializable"), (0, .class_ 4), (0, u "java/lang/Object")] 2

/-- java/io/Serializable -/
def k6 : Class := { plain "java/io/Serializable" (some 0) with
  accessFlags := 1537
  interfaces := #[]
  cf := some (fileOf pool6 1 #[] #[] 1537 3 #[] #[])
  fields := #[]
  methods := #[]
  instanceTypes := #[]
  staticTypes := #[]
  resolved := Array.replicate 7 none
  statics := none }

def pool7 : Array CpInfo := pool [(40, .class_ 41), (0, u "java/util/HashMap"), (1, .methodref 44 45), (0, .class_ 46), (0, .nameAndType 47 48), (0, u "java/util/AbstractMap"), (0, u "<init>"), (0, u "()V"), (32, .fieldref 40 82), (0, .nameAndType 83 84), (0, u "loadFactor"), (0, u "F"), (5, u "threshold"), (0, u "I"), (0, .float 1061158912), (8, .class_ 103), (1, u "java/util/Map"), (0, u "size"), (2, u "table"), (0, u "[Ljava/util/HashMap$Node;"), (14, u "entrySet"), (39, .class_ 165), (1, u "java/util/HashMap$Node"), (14, .class_ 181), (0, u "java/util/HashMap$TreeNode"), (22, u "modCount"), (37, u "Ljava/util/Set;"), (0, .class_ 244), (0, u "java/util/HashMap$KeySet"), (18, .class_ 264), (0, u "java/util/HashMap$Values"), (3, .class_ 269), (0, u "java/util/HashMap$EntrySet"), (76, .class_ 348), (1, u "java/util/HashMap$UnsafeHolder"), (43, .class_ 393), (0, u "java/lang/Cloneable"), (0, .class_ 395), (0, u "java/io/Serializable"), (0, u "serialVersionUID"), (0, u "J"), (3, u "DEFAULT_INITIAL_CAPACITY"), (1, u "MAXIMUM_CAPACITY"), (0, u "DEFAULT_LOAD_FACTOR"), (0, u "TREEIFY_THRESHOLD"), (1, u "UNTREEIFY_THRESHOLD"), (1, u "MIN_TREEIFY_CAPACITY"), (186, .class_ 597), (0, u "java/util/HashMap$EntrySpliterator"), (0, .class_ 599), (0, u "java/util/HashMap$ValueSpliterator"), (0, .class_ 601), (0, u "java/util/HashMap$KeySpliterator"), (0, .class_ 603), (0, u "java/util/HashMap$HashMapSpliterator"), (0, .class_ 605), (0, u "java/util/HashMap$EntryIterator"), (0, .class_ 607), (0, u "java/util/HashMap$ValueIterator"), (0, .class_ 609), (0, u "java/util/HashMap$KeyIterator"), (0, .class_ 611), (0, u "java/util/HashMap$HashIterator")] 17

def k7c0 : Code := { maxStack := 2, maxLocals := 1, code := jdk_69_method_7_code, exceptionTable := #[], attributes := #[] }
def k7m0 : Method := { name := "<init>", desc := "()V", sig := { parameters := [], returnType := none }, accessFlags := 1, code := some k7c0 }
/-- java/util/HashMap -/
def k7 : Class := { plain "java/util/HashMap" (some 4) with
  accessFlags := 33
  interfaces := #[3, 5, 6]
  cf := some (fileOf pool7 40 #[.nestMembers #[180, 596, 598, 600, 602, 604, 606, 608, 610, 346, 268, 263, 243, 163]] #[{ accessFlags := 1, nameIndex := 47, descriptorIndex := 48, attributes := #[] }] 33 44 #[101, 392, 394] #[{ accessFlags := 26, nameIndex := 396, descriptorIndex := 397, attributes := #[] }, { accessFlags := 24, nameIndex := 401, descriptorIndex := 91, attributes := #[] }, { accessFlags := 24, nameIndex := 403, descriptorIndex := 91, attributes := #[] }, { accessFlags := 24, nameIndex := 404, descriptorIndex := 84, attributes := #[] }, { accessFlags := 24, nameIndex := 405, descriptorIndex := 91, attributes := #[] }, { accessFlags := 24, nameIndex := 407, descriptorIndex := 91, attributes := #[] }, { accessFlags := 24, nameIndex := 409, descriptorIndex := 91, attributes := #[] }, { accessFlags := 128, nameIndex := 107, descriptorIndex := 108, attributes := #[] }, { accessFlags := 128, nameIndex := 123, descriptorIndex := 242, attributes := #[] }, { accessFlags := 128, nameIndex := 104, descriptorIndex := 91, attributes := #[] }, { accessFlags := 128, nameIndex := 204, descriptorIndex := 91, attributes := #[] }, { accessFlags := 0, nameIndex := 90, descriptorIndex := 91, attributes := #[] }, { accessFlags := 16, nameIndex := 83, descriptorIndex := 84, attributes := #[] }])
  fields := #[{ name := "serialVersionUID", type := .long, accessFlags := 26, slot := 0, constantValue := 0 }, { name := "DEFAULT_INITIAL_CAPACITY", type := .int, accessFlags := 24, slot := 1, constantValue := 0 }, { name := "MAXIMUM_CAPACITY", type := .int, accessFlags := 24, slot := 2, constantValue := 0 }, { name := "DEFAULT_LOAD_FACTOR", type := .float, accessFlags := 24, slot := 3, constantValue := 0 }, { name := "TREEIFY_THRESHOLD", type := .int, accessFlags := 24, slot := 4, constantValue := 0 }, { name := "UNTREEIFY_THRESHOLD", type := .int, accessFlags := 24, slot := 5, constantValue := 0 }, { name := "MIN_TREEIFY_CAPACITY", type := .int, accessFlags := 24, slot := 6, constantValue := 0 }, { name := "table", type := (.array (.object "java/util/HashMap$Node")), accessFlags := 128, slot := 2, constantValue := 0 }, { name := "entrySet", type := (.object "java/util/Set"), accessFlags := 128, slot := 3, constantValue := 0 }, { name := "size", type := .int, accessFlags := 128, slot := 4, constantValue := 0 }, { name := "modCount", type := .int, accessFlags := 128, slot := 5, constantValue := 0 }, { name := "threshold", type := .int, accessFlags := 0, slot := 6, constantValue := 0 }, { name := "loadFactor", type := .float, accessFlags := 16, slot := 7, constantValue := 0 }]
  methods := #[k7m0]
  instanceTypes := #[(.object "java/util/Set"), (.object "java/util/Collection"), (.array (.object "java/util/HashMap$Node")), (.object "java/util/Set"), .int, .int, .int, .float]
  staticTypes := #[.long, .int, .int, .float, .int, .int, .int]
  resolved := Array.replicate 629 none
  statics := none }

def pool8 : Array CpInfo := pool [(1, .class_ 2), (0, u "java/lang/constant/Constable"), (0, .class_ 4), (0, u "java/lang/Object")] 6

/-- java/lang/constant/Constable -/
def k8 : Class := { plain "java/lang/constant/Constable" (some 0) with
  accessFlags := 1537
  interfaces := #[]
  cf := some (fileOf pool8 1 #[] #[] 1537 3 #[] #[])
  fields := #[]
  methods := #[]
  instanceTypes := #[]
  staticTypes := #[]
  resolved := Array.replicate 11 none
  statics := none }

def pool9 : Array CpInfo := pool [(1, .class_ 2), (0, u "java/lang/Comparable"), (0, .class_ 4), (0, u "java/lang/Object")] 7

/-- java/lang/Comparable -/
def k9 : Class := { plain "java/lang/Comparable" (some 0) with
  accessFlags := 1537
  interfaces := #[]
  cf := some (fileOf pool9 1 #[] #[] 1537 3 #[] #[])
  fields := #[]
  methods := #[]
  instanceTypes := #[]
  staticTypes := #[]
  resolved := Array.replicate 12 none
  statics := none }

def pool10 : Array CpInfo := pool [(2, .class_ 4), (1, u "java/lang/Enum"), (0, u "name"), (0, u "Ljava/lang/String;"), (2, u "ordinal"), (0, u "I"), (1, .class_ 14), (1, u "java/lang/Object"), (4, u "hash"), (86, .class_ 108), (1, u "java/lang/Enum$EnumDesc"), (2, .class_ 112), (0, u "java/lang/constant/Constable"), (0, .class_ 114), (0, u "java/lang/Comparable"), (0, .class_ 116), (0, u "java/io/Serializable")] 87

/-- java/lang/Enum -/
def k10 : Class := { plain "java/lang/Enum" (some 0) with
  accessFlags := 1057
  interfaces := #[8, 9, 6]
  cf := some (fileOf pool10 2 #[.nestMembers #[106]] #[] 1057 12 #[111, 113, 115] #[{ accessFlags := 18, nameIndex := 5, descriptorIndex := 6, attributes := #[] }, { accessFlags := 18, nameIndex := 9, descriptorIndex := 10, attributes := #[] }, { accessFlags := 2, nameIndex := 19, descriptorIndex := 10, attributes := #[] }])
  fields := #[{ name := "name", type := (.object "java/lang/String"), accessFlags := 18, slot := 0, constantValue := 0 }, { name := "ordinal", type := .int, accessFlags := 18, slot := 1, constantValue := 0 }, { name := "hash", type := .int, accessFlags := 2, slot := 2, constantValue := 0 }]
  methods := #[]
  instanceTypes := #[(.object "java/lang/String"), .int, .int]
  staticTypes := #[]
  resolved := Array.replicate 204 none
  statics := none }

def pool11 : Array CpInfo := pool [(1, .class_ 2), (0, u "com/example/transom/transom/Scope$Jump"), (2, u "BREAK"), (0, u "Lcom/example/transom/transom/Scope$Jump;"), (2, u "CONTINUE"), (2, u "$VALUES"), (0, u "[Lcom/example/transom/transom/Scope$Jump;"), (6, .class_ 22), (1, u "java/lang/Enum"), (25, .class_ 49), (0, u "com/example/transom/transom/Scope")] 2

/-- com/example/transom/transom/Scope$Jump -/
def k11 : Class := { plain "com/example/transom/transom/Scope$Jump" (some 10) with
  accessFlags := 16432
  interfaces := #[]
  cf := some (fileOf pool11 1 #[.nestHost 48] #[] 16432 20 #[] #[{ accessFlags := 16409, nameIndex := 5, descriptorIndex := 6, attributes := #[] }, { accessFlags := 16409, nameIndex := 9, descriptorIndex := 6, attributes := #[] }, { accessFlags := 4122, nameIndex := 12, descriptorIndex := 13, attributes := #[] }])
  fields := #[{ name := "BREAK", type := (.object "com/example/transom/transom/Scope$Jump"), accessFlags := 16409, slot := 0, constantValue := 0 }, { name := "CONTINUE", type := (.object "com/example/transom/transom/Scope$Jump"), accessFlags := 16409, slot := 1, constantValue := 0 }, { name := "$VALUES", type := (.array (.object "com/example/transom/transom/Scope$Jump")), accessFlags := 4122, slot := 2, constantValue := 0 }]
  methods := #[]
  instanceTypes := #[(.object "java/lang/String"), .int, .int]
  staticTypes := #[(.object "com/example/transom/transom/Scope$Jump"), (.object "com/example/transom/transom/Scope$Jump"), (.array (.object "com/example/transom/transom/Scope$Jump"))]
  resolved := Array.replicate 52 none
  statics := some 0 }

/-- the primitive byte -/
def k12 : Class := { plain "byte" none with kind := .primitive 'B', accessFlags := 0x411 }
/-- [B -/
def k13 : Class := { plain "[B" (some 0) with kind := .array 12 .byte, interfaces := #[5, 6], accessFlags := 1041 }

/-- the primitive int -/
def k14 : Class := { plain "int" none with kind := .primitive 'I', accessFlags := 0x411 }
/-- [I -/
def k15 : Class := { plain "[I" (some 0) with kind := .array 14 .int, interfaces := #[5, 6], accessFlags := 1041 }

def heap : Heap := #[{ cls := 11, slots := #[.ref 1, .ref 2, .null], vm := .statics 11 },
  { cls := 11, slots := #[.null, .int 0, .int 0], vm := .none },
  { cls := 11, slots := #[.null, .int 1, .int 0], vm := .none }]
def classes : Array Class := #[k0, k1, k2, k3, k4, k5, k6, k7, k8, k9, k10, k11, k12, k13, k14, k15]
def interned : List (Array UInt16 × Addr) := []
def slotsUsed : Nat := 9
def theMethod : MethodId := ⟨1, 1⟩
def args0 : Array Value := #[.int 5, .int 6, .int 7]
def aboutOver (below : List Frame) : State where
  vm := { classes := classes, interned := interned.toArray }
  heap := heap
  slotsUsed := slotsUsed
  threads := #[{ frames := .invoking theMethod args0 :: below }]
def below0 : List Frame := [.native { method := ⟨0, 0⟩, args := #[] }]
def about1 : State := aboutOver below0
def p0 : Program := .bare "" "" ""
def e0 : Env := launch0.env 0 0 0
theorem w_frames : about1.frames = Frame.invoking theMethod args0 :: below0 := rfl
set_option maxRecDepth 65536 in
theorem w_args : argsFit about1.vm theMethod args0 = true := by decide +kernel
set_option maxRecDepth 65536 in
theorem w_heap : heapFits about1 = true := by decide +kernel
set_option maxRecDepth 65536 in
theorem w_runnable : about1.curStatus? = some .runnable := by decide +kernel
set_option maxRecDepth 65536 in
theorem w_alone : about1.alone = true := by decide +kernel
set_option maxRecDepth 65536 in
theorem w_named : about1.methodNamed? x = some theMethod := by decide +kernel
set_option maxRecDepth 65536 in
theorem w_hears : about1.hears theMethod below0 = true := by decide +kernel
set_option maxRecDepth 65536 in
theorem w_ripe : about1.ripe theMethod args0 below0 = true := by decide +kernel
theorem w_running : about1.status = .running := rfl
set_option maxRecDepth 65536 in
theorem w_room : about1.hasRoom e0.platform room_1 = true :=
  launch0.hasRoom_least _ room_1 (by decide +kernel) (by decide +kernel) (by decide +kernel) (by decide +kernel) (by decide +kernel) (by decide +kernel)
theorem allAtoms_all (ts : List Jvm.Cond) (a : Array Jvm.Value) (st : Jvm.State) : (allAtoms ts).before a st = ts.all (fun c => c.before a st) := by
  induction ts with
  | nil => rfl
  | cons c t ih =>
    show (Jvm.Cond.and c (allAtoms t)).before a st = _
    rw [Jvm.Cond.before_and, ih, List.all_cons]
def words1 : List Jvm.Cond := Jvm.Cond.code x code maxLocals ret :: tables_1
/-- a 'code' word, met by the world's own term for the bytes: nothing is compared byte by byte -/
theorem code_word {y : MethodName} {bytes : ByteArray} {mx : Nat} {rt : Option FieldType} {a : Array Value} {s : State} {m : MethodId} {meth : Method} {c : Code} (h1 : s.methodNamed? y = some m) (h2 : s.vm.method? m = some meth) (h3 : meth.code = some c) (h4 : c.code = bytes)
    (h5 : (c.maxLocals == mx && c.exceptionTable.isEmpty && decide (c.maxStack ≤ mostOperands) && decide (meth.sig.returnType = rt) && !meth.locks && decide (parseMethodDescriptor y.desc = some meth.sig)) = true) : (Jvm.Cond.code y bytes mx rt).before a s = true := by
  simp only [Bool.and_eq_true, beq_iff_eq, Bool.not_eq_true', decide_eq_true_eq] at h5
  obtain ⟨⟨⟨⟨⟨g1, g2⟩, g3⟩, g4⟩, g5⟩, g6⟩ := h5
  simp [Cond.before, Cond.holds, Cond.value, h1, h2, h3, h4, g1, g2, g3, g4, g5, g6]
def isCode : Jvm.Cond → Bool
  | .code _ _ _ _ => true
  | _ => false
theorem all_split {L : List Jvm.Cond} {P : Jvm.Cond → Bool} (h1 : L.all (fun c => isCode c || P c) = true) (h2 : ∀ c ∈ L.filter isCode, P c = true) : L.all P = true := by
  refine List.all_eq_true.mpr fun c hc => ?_
  have h := List.all_eq_true.mp h1 c hc
  rcases Bool.eq_false_or_eq_true (isCode c) with hi | hi
  · exact h2 c (List.mem_filter.mpr ⟨hc, hi⟩)
  · simpa [hi] using h
set_option maxRecDepth 65536 in
theorem w_c0 : (Jvm.Cond.code x code maxLocals ret).before args0 about1 = true := code_word (m := ⟨1, 1⟩) (meth := k1m1) (c := k1c1) (by decide +kernel) rfl rfl rfl (by decide +kernel)
set_option maxRecDepth 65536 in
theorem w_c1 : (Jvm.Cond.code ({ cls := "com/example/transom/transom/Scope", name := "<init>", desc := "(Ljava/util/Map;Lcom/example/transom/transom/Template;)V" } : Jvm.MethodName) prog_61_method_1_code (3 : Nat) (Option.none : Option Jvm.ClassFile.FieldType)).before args0 about1 = true := code_word (m := ⟨2, 0⟩) (meth := k2m0) (c := k2c0) (by decide +kernel) rfl rfl rfl (by decide +kernel)
set_option maxRecDepth 65536 in
theorem w_c2 : (Jvm.Cond.code ({ cls := "java/lang/Object", name := "<init>", desc := "()V" } : Jvm.MethodName) object_method_1_code (1 : Nat) (Option.none : Option Jvm.ClassFile.FieldType)).before args0 about1 = true := code_word (m := ⟨0, 0⟩) (meth := k0m0) (c := k0c0) (by decide +kernel) rfl rfl rfl (by decide +kernel)
set_option maxRecDepth 65536 in
theorem w_c3 : (Jvm.Cond.code ({ cls := "java/util/HashMap", name := "<init>", desc := "()V" } : Jvm.MethodName) jdk_69_method_7_code (1 : Nat) (Option.none : Option Jvm.ClassFile.FieldType)).before args0 about1 = true := code_word (m := ⟨7, 0⟩) (meth := k7m0) (c := k7c0) (by decide +kernel) rfl rfl rfl (by decide +kernel)
set_option maxRecDepth 65536 in
theorem w_c4 : (Jvm.Cond.code ({ cls := "java/util/AbstractMap", name := "<init>", desc := "()V" } : Jvm.MethodName) jdk_71_method_1_code (1 : Nat) (Option.none : Option Jvm.ClassFile.FieldType)).before args0 about1 = true := code_word (m := ⟨4, 0⟩) (meth := k4m0) (c := k4c0) (by decide +kernel) rfl rfl rfl (by decide +kernel)
set_option maxRecDepth 65536 in
theorem w_c5 : (Jvm.Cond.code ({ cls := "com/example/transom/transom/Scope", name := "<init>", desc := "(Lcom/example/transom/transom/Scope;)V" } : Jvm.MethodName) prog_61_method_2_code (2 : Nat) (Option.none : Option Jvm.ClassFile.FieldType)).before args0 about1 = true := code_word (m := ⟨2, 1⟩) (meth := k2m1) (c := k2c1) (by decide +kernel) rfl rfl rfl (by decide +kernel)
set_option maxRecDepth 65536 in
theorem w_c6 : (Jvm.Cond.code ({ cls := "com/example/transom/transom/Scope", name := "<init>", desc := "(Lcom/example/transom/transom/Scope;Lcom/example/transom/transom/Template;Lcom/example/transom/transom/Scope;I)V" } : Jvm.MethodName) prog_61_method_3_code (5 : Nat) (Option.none : Option Jvm.ClassFile.FieldType)).before args0 about1 = true := code_word (m := ⟨2, 2⟩) (meth := k2m2) (c := k2c2) (by decide +kernel) rfl rfl rfl (by decide +kernel)
set_option maxRecDepth 65536 in
theorem w_c7 : (Jvm.Cond.code ({ cls := "com/example/transom/transom/Scope", name := "jumping", desc := "()Z" } : Jvm.MethodName) prog_61_method_12_code (1 : Nat) (Option.some Jvm.ClassFile.FieldType.boolean)).before args0 about1 = true := code_word (m := ⟨2, 4⟩) (meth := k2m4) (c := k2c4) (by decide +kernel) rfl rfl rfl (by decide +kernel)
set_option maxRecDepth 65536 in
theorem w_c8 : (Jvm.Cond.code ({ cls := "com/example/transom/transom/Scope", name := "land", desc := "()Lcom/example/transom/transom/Scope$Jump;" } : Jvm.MethodName) prog_61_method_13_code (2 : Nat) (Option.some (Jvm.ClassFile.FieldType.object "com/example/transom/transom/Scope$Jump"))).before args0 about1 = true := code_word (m := ⟨2, 5⟩) (meth := k2m5) (c := k2c5) (by decide +kernel) rfl rfl rfl (by decide +kernel)
set_option maxRecDepth 65536 in
theorem w_c9 : (Jvm.Cond.code ({ cls := "com/example/transom/transom/Scope", name := "jump", desc := "(Lcom/example/transom/transom/Scope$Jump;)V" } : Jvm.MethodName) prog_61_method_11_code (2 : Nat) (Option.none : Option Jvm.ClassFile.FieldType)).before args0 about1 = true := code_word (m := ⟨2, 3⟩) (meth := k2m3) (c := k2c3) (by decide +kernel) rfl rfl rfl (by decide +kernel)
def codes1 : List Jvm.Cond := [Jvm.Cond.code x code maxLocals ret, Jvm.Cond.code ({ cls := "com/example/transom/transom/Scope", name := "<init>", desc := "(Ljava/util/Map;Lcom/example/transom/transom/Template;)V" } : Jvm.MethodName) prog_61_method_1_code (3 : Nat) (Option.none : Option Jvm.ClassFile.FieldType), Jvm.Cond.code ({ cls := "java/lang/Object", name := "<init>", desc := "()V" } : Jvm.MethodName) object_method_1_code (1 : Nat) (Option.none : Option Jvm.ClassFile.FieldType), Jvm.Cond.code ({ cls := "java/util/HashMap", name := "<init>", desc := "()V" } : Jvm.MethodName) jdk_69_method_7_code (1 : Nat) (Option.none : Option Jvm.ClassFile.FieldType), Jvm.Cond.code ({ cls := "java/util/AbstractMap", name := "<init>", desc := "()V" } : Jvm.MethodName) jdk_71_method_1_code (1 : Nat) (Option.none : Option Jvm.ClassFile.FieldType), Jvm.Cond.code ({ cls := "com/example/transom/transom/Scope", name := "<init>", desc := "(Lcom/example/transom/transom/Scope;)V" } : Jvm.MethodName) prog_61_method_2_code (2 : Nat) (Option.none : Option Jvm.ClassFile.FieldType), Jvm.Cond.code ({ cls := "com/example/transom/transom/Scope", name := "<init>", desc := "(Lcom/example/transom/transom/Scope;Lcom/example/transom/transom/Template;Lcom/example/transom/transom/Scope;I)V" } : Jvm.MethodName) prog_61_method_3_code (5 : Nat) (Option.none : Option Jvm.ClassFile.FieldType), Jvm.Cond.code ({ cls := "com/example/transom/transom/Scope", name := "jumping", desc := "()Z" } : Jvm.MethodName) prog_61_method_12_code (1 : Nat) (Option.some Jvm.ClassFile.FieldType.boolean), Jvm.Cond.code ({ cls := "com/example/transom/transom/Scope", name := "land", desc := "()Lcom/example/transom/transom/Scope$Jump;" } : Jvm.MethodName) prog_61_method_13_code (2 : Nat) (Option.some (Jvm.ClassFile.FieldType.object "com/example/transom/transom/Scope$Jump")), Jvm.Cond.code ({ cls := "com/example/transom/transom/Scope", name := "jump", desc := "(Lcom/example/transom/transom/Scope$Jump;)V" } : Jvm.MethodName) prog_61_method_11_code (2 : Nat) (Option.none : Option Jvm.ClassFile.FieldType)]
set_option maxRecDepth 65536 in
theorem codes_eq : words1.filter isCode = codes1 := rfl
theorem w_codes : ∀ c ∈ words1.filter isCode, c.before args0 about1 = true := by
  rw [codes_eq]
  intro c hc
  simp only [codes1, List.mem_cons, List.not_mem_nil, or_false] at hc
  rcases hc with rfl | rfl | rfl | rfl | rfl | rfl | rfl | rfl | rfl | rfl
  · exact w_c0
  · exact w_c1
  · exact w_c2
  · exact w_c3
  · exact w_c4
  · exact w_c5
  · exact w_c6
  · exact w_c7
  · exact w_c8
  · exact w_c9
set_option maxRecDepth 65536 in
theorem w_t1 : (words1.take 24).all (fun c => isCode c || c.before args0 about1) = true := by decide +kernel
set_option maxRecDepth 65536 in
theorem w_t2 : ((words1.drop 24).take 24).all (fun c => isCode c || c.before args0 about1) = true := by decide +kernel
set_option maxRecDepth 65536 in
theorem w_t3 : ((words1.drop 24).drop 24).all (fun c => isCode c || c.before args0 about1) = true := by decide +kernel
theorem w_tables : (allAtoms (Jvm.Cond.code x code maxLocals ret :: tables_1)).before args0 about1 = true := by
  rw [allAtoms_all]
  show words1.all (fun c => c.before args0 about1) = true
  refine all_split ?_ w_codes
  rw [← List.take_append_drop 24 words1, List.all_append, w_t1, ← List.take_append_drop 24 (words1.drop 24), List.all_append, w_t2, w_t3]
  rfl
set_option maxRecDepth 65536 in
theorem w_case : (Jvm.Cond.and given_1 narrow_1).before args0 about1 = true := by decide +kernel
theorem w_applies : (headSpec (Jvm.Cond.code x code maxLocals ret :: tables_1) room_1).applies x e0.platform about1 = true :=
  (Spec.applies_iff w_frames).mpr ⟨w_running, w_runnable, w_alone, w_named, w_hears, w_ripe, w_room, w_tables⟩
theorem atStart : AtStart classFile x code maxLocals ret World_1 tables_1 room_1 Calls_1 rest_1 Pre_1 launch0 p0 e0 about1 theMethod args0 below0 :=
  ⟨lists_1, trivial, launch0.admits_env _ _ _, launch0.least_env, fairChoices_fair.cas, fairChoices_fair.clock, w_frames, w_args, w_heap, w_applies, trivial, trivial, w_case⟩
end start1
theorem witness_1 : WitnessClaimed_1 := ⟨start1.p0, start1.e0, start1.about1, start1.theMethod, start1.args0, start1.below0, start1.atStart⟩
end Jvm.Pilot.@@N@@
