import JvmDerived
import JvmDerived.Pilot.@@N@@Statement
import JvmDerived.Pilot.@@N@@Code
set_option linter.unusedVariables false
set_option linter.unusedSimpArgs false
@@BLOCK:NumsL.lean.txt@@
namespace Jvm.RoadKit
open Sem ClassFile Op Lib Jvm.Stand Jvm.Free Jvm.LawKit
section New
variable {p : Program} {l : Launch} {e : Env} {R : Room} {s : State} {m : MethodId} {args : Array Value} {below : List Frame} {meth : Method} {c : Code} {T : State} {locs : List Loc} {cells slots : Nat}
theorem retI (X : Stand p l e R s m args below meth c T locs cells slots) (hx : p.tables.exec = Jvm.exec) {pc : Nat} {Ls : Array Slot} {z : Int32} {rest : List Value} (hret : meth.sig.returnType = some .int) (hd : decode c.code pc = .ok (.ireturn, 1)) {fs : List Frame}
    (hl : ∀ (f : JFrame) (acts : List Action), f.method = m → f.locked = none → f.entered = [] → (doReturn e (T.setTop f) acts (some (.int z))).1 = T.setFrames fs) : Steps p.tables e below (T.setTop (mkF m pc Ls (.int z :: rest))) (T.setFrames fs) := by
  have hm' : T.vm.method? m = some meth := X.method'
  have hn : narrow .int (.int z) = .int z := rfl
  show Steps _ _ _ (T.setTop { method := m, pc := pc, locals := Ls, stack := _ :: rest, locked := none }) _
  jvm_step X.here [X.here.top, hx, hd, hm', hret, hn]
  first | (intro acts; rw [hl _ acts rfl rfl rfl]) | rw [hl _ _ rfl rfl rfl]
  exact Steps.refl _
end New
end Jvm.RoadKit
namespace Jvm.Pilot.@@N@@
open Jvm Jvm.ClassFile Sem Op Lib Jvm.Free Jvm.Stand Jvm.LawKit Jvm.RoadKit Bundle Jvm.Pilot.@@N@@.Jvm.D
theorem ww {Z : State} {a0 : Array Value} (hw : ∀ d ∈ tables_1, d.before a0 Z = true) (i : Nat) {d : Jvm.Cond} (h : tables_1[i]? = some d) : d.before a0 Z = true := hw _ (List.mem_of_getElem? h)
theorem d3_0 : decode jdk_30_method_1_code 0 = .ok (.aload_n 0, 1) := by decide +kernel
theorem d3_1 : decode jdk_30_method_1_code 1 = .ok (.invokespecial 1, 3) := by decide +kernel
theorem d3_4 : decode jdk_30_method_1_code 4 = .ok (.return_, 1) := by decide +kernel
theorem pn_3 : plainName "java/lang/Record" = true := by first | (simp [plainName, overriddenIn]; done) | decide +kernel
theorem ef_3 (m : MethodId) (x0 : Addr) : entryFrame m #[(.ref x0)] 1 = mkF m 0 #[.val (.ref x0)] [] := by first | (simp [entryFrame, mkF, argsToLocals, Value.category]; done) | rfl
-- 2. THE CONTRACT: what this body leaves is yours
def Q3 (Z : State) (a1 : Addr) (h0 : Heap) (n0 : Nat) (v : Option Value) (h : Heap) (L : List Loc) : Prop := v = none ∧ Fr n0 L ∧ h = h0
set_option maxRecDepth 65536 in
set_option maxHeartbeats 40000000 in
theorem rm3 (l : Launch) (Z : State) (a0 : Array Value) (hw : ∀ d ∈ tables_1, d.before a0 Z = true) (ws : List Jvm.Cond) (a1 : Addr) (h0 : Heap) (n0 : Nat) (Z0 : n0 ≤ h0.size) :
    MetFree l (⟨"java/lang/Record", "<init>", "()V"⟩ : MethodName) (head1 (Jvm.Cond.code (⟨"java/lang/Record", "<init>", "()V"⟩ : MethodName) jdk_30_method_1_code 1 none :: ws) ({ frames := 1, cells := 0, slots := 0, locals := 12 } : Room)) (fun a U => a = #[(.ref a1)] ∧ Z.Warmed39 U.vm ∧ U.heap = h0) (fun _ _ _ _ _ => True) (fun _ U o U' => ∃ v L, o = .returned v ∧ Q3 Z a1 h0 n0 v U'.heap L ∧ FrameEnd U o U' L ({ frames := 1, cells := 0, slots := 0, locals := 12 } : Room).cells ({ frames := 1, cells := 0, slots := 0, locals := 12 } : Room).slots) := by
  refine MetFree.of_bodySF (plainFor_of_name pn_3) hisR ?_
  intro p e s m args below meth c s₁ Bd hml0 hP hK
  obtain ⟨rfl, hZ, hh⟩ := hP
  have hx := Bd.exec
  have hby := Bd.bytes
  have hml : c.maxLocals = 1 := hml0
  have hown : s.vm.findClass "java/lang/Record" = some m.cls := findClass_of_methodNamed Bd.named
  have hnm := (name_of_methodNamed Bd.named Bd.method).1
  have X0 : Stand p l e ({ frames := 1, cells := 0, slots := 0, locals := 12 } : Room) s m #[(.ref a1)] below meth c s₁ [] 0 0 := Stand.of_body Bd
  have e0 : s₁.heap = h0 := by rw [← hh, Bd.state]; rfl
  have N0 := Fr.nil n0
  have pre0 : ∀ t, Steps p.tables e below (s₁.setTop (mkF m 0 #[.val (.ref a1)] [])) t → Steps p.tables e below (s₁.setTop (entryFrame m #[(.ref a1)] 1)) t := fun t k => castTop (ef_3 m a1) k
  obtain ⟨T2, X2, e2, st2⟩ := initO X0 hx hZ hown (ww hw 15 rfl) (ww hw 16 rfl) (ww hw 17 rfl) e0 (g := (mkF m 1 #[.val (.ref a1)] [(.ref a1)])) rfl (by rw [hml]; rfl) rfl (hb hby d3_1) (by decide) (W := 0) (by show 2 * 0 + _ ≤ _; exact Nat.le_of_eq rfl) (by decide)
  obtain ⟨fs, hr, hrun, hended, hW, hsame⟩ := X2.leave (v := none) (fun _ => rfl)
  refine ⟨_, _, pre0 _ ?_, hrun, hended, _, _, rfl, ?_, ⟨_, rfl⟩, hW, hsame.mono (by decide) (by decide)⟩
  · show Steps _ _ _ (s₁.setTop (mkF m 0 #[.val (.ref a1)] [])) _
    refine XS.aloadN X0.here hx rfl (hb hby d3_0) rfl rfl ?_
    show Steps _ _ _ (s₁.setTop (mkF m 1 #[.val (.ref a1)] [(.ref a1)])) _
    refine st2 _ ?_
    show Steps _ _ _ (T2.setTop (mkF m 4 #[.val (.ref a1)] [])) _
    exact X2.returnOut hx Bd.returns (hb hby d3_4) hr
  · show Q3 Z a1 h0 n0 _ T2.heap _
    rw [e2]
    exact ⟨rfl, N0, rfl⟩
theorem d2_0 : decode prog_7_method_1_code 0 = .ok (.aload_n 0, 1) := by decide +kernel
theorem d2_1 : decode prog_7_method_1_code 1 = .ok (.invokespecial 3, 3) := by decide +kernel
theorem d2_4 : decode prog_7_method_1_code 4 = .ok (.iload_n 1, 1) := by decide +kernel
theorem d2_5 : decode prog_7_method_1_code 5 = .ok (.ifCond .lt 18, 3) := by decide +kernel
theorem d2_8 : decode prog_7_method_1_code 8 = .ok (.iload_n 1, 1) := by decide +kernel
theorem d2_9 : decode prog_7_method_1_code 9 = .ok (.sipush 255, 3) := by decide +kernel
theorem d2_12 : decode prog_7_method_1_code 12 = .ok (.if_icmp .gt 11, 3) := by decide +kernel
theorem d2_15 : decode prog_7_method_1_code 15 = .ok (.aload_n 2, 1) := by decide +kernel
theorem d2_16 : decode prog_7_method_1_code 16 = .ok (.arraylength, 1) := by decide +kernel
theorem d2_17 : decode prog_7_method_1_code 17 = .ok (.sipush 253, 3) := by decide +kernel
theorem d2_20 : decode prog_7_method_1_code 20 = .ok (.if_icmp .le 13, 3) := by decide +kernel
theorem d2_33 : decode prog_7_method_1_code 33 = .ok (.aload_n 0, 1) := by decide +kernel
theorem d2_34 : decode prog_7_method_1_code 34 = .ok (.iload_n 1, 1) := by decide +kernel
theorem d2_35 : decode prog_7_method_1_code 35 = .ok (.putfield 16, 3) := by decide +kernel
theorem d2_38 : decode prog_7_method_1_code 38 = .ok (.aload_n 0, 1) := by decide +kernel
theorem d2_39 : decode prog_7_method_1_code 39 = .ok (.aload_n 2, 1) := by decide +kernel
theorem d2_40 : decode prog_7_method_1_code 40 = .ok (.putfield 22, 3) := by decide +kernel
theorem d2_43 : decode prog_7_method_1_code 43 = .ok (.return_, 1) := by decide +kernel
theorem pn_2 : plainName "com/example/tallykey/tallykey/io/RadiusPacket$Attribute" = true := by first | (simp [plainName, overriddenIn]; done) | decide +kernel
theorem pd_2_2 : parseMethodDescriptor "()V" = some ⟨[], none⟩ := by decide +kernel
theorem ef_2 (m : MethodId) (x0 : Addr) (x1 : Int32) (x2 : Addr) : entryFrame m #[(.ref x0), (.int x1), (.ref x2)] 3 = mkF m 0 #[.val (.ref x0), .val (.int x1), .val (.ref x2)] [] := by first | (simp [entryFrame, mkF, argsToLocals, Value.category]; done) | rfl
-- 2. THE CONTRACT: what this body leaves is yours
def Q2 (Z : State) (a1 : Addr) (p2 : Int32) (a3 : Addr) (cl_a3 : Cell) (z_a3 : Int32) (u_type_a1 : Value) (u_value_a1 : Value) (h0 : Heap) (n0 : Nat) (v : Option Value) (h : Heap) (L : List Loc) : Prop := v = none ∧ Fr n0 L ∧ Keep h0 h [a1] ∧ Exa Z h a1 "com/example/tallykey/tallykey/io/RadiusPacket$Attribute" ∧ Fld Z h a1 "com/example/tallykey/tallykey/io/RadiusPacket$Attribute" "type" "I" (.int p2) ∧ Fld Z h a1 "com/example/tallykey/tallykey/io/RadiusPacket$Attribute" "value" "[B" (.ref a3)
-- its room: frames: the greatest, locals: the greatest, cells 0 + .., slots 0 + ..: rm3: frames + 1; locals 0 + 1 + 11 + its room's locals; its cells and slots besides
set_option maxRecDepth 65536 in
set_option maxHeartbeats 40000000 in
theorem rm2 (l : Launch) (Z : State) (a0 : Array Value) (hw : ∀ d ∈ tables_1, d.before a0 Z = true) (ws : List Jvm.Cond) (a1 : Addr) (p2 : Int32) (a3 : Addr) (cl_a3 : Cell) (z_a3 : Int32) (u_type_a1 : Value) (u_value_a1 : Value) (h0 : Heap) (n0 : Nat) (Z0 : n0 ≤ h0.size) (Ar_a3 : Arr Z h0 a3 cl_a3 .byte) (S_a3 : cl_a3.slots.size = z_a3.toNatClampNeg) (N_a3 : ¬ z_a3 < 0) (E_a1 : Exa Z h0 a1 "com/example/tallykey/tallykey/io/RadiusPacket$Attribute") (F_type_a1 : Fld Z h0 a1 "com/example/tallykey/tallykey/io/RadiusPacket$Attribute" "type" "I" u_type_a1) (g_a1 : n0 ≤ a1) (F_value_a1 : Fld Z h0 a1 "com/example/tallykey/tallykey/io/RadiusPacket$Attribute" "value" "[B" u_value_a1) (hc5 : ¬ (p2 < (0 : Int32))) (hc12 : ¬ ((255 : Int32) < p2)) (hc20 : ¬ ((253 : Int32) < z_a3)) :
    MetFree l (⟨"com/example/tallykey/tallykey/io/RadiusPacket$Attribute", "<init>", "(I[B)V"⟩ : MethodName) (head1 (Jvm.Cond.code (⟨"com/example/tallykey/tallykey/io/RadiusPacket$Attribute", "<init>", "(I[B)V"⟩ : MethodName) prog_7_method_1_code 3 none :: ws) ({ frames := 2, cells := 0, slots := 0, locals := 24 } : Room)) (fun a U => a = #[(.ref a1), (.int p2), (.ref a3)] ∧ Z.Warmed39 U.vm ∧ U.heap = h0) (fun _ _ _ _ _ => True) (fun _ U o U' => ∃ v L, o = .returned v ∧ Q2 Z a1 p2 a3 cl_a3 z_a3 u_type_a1 u_value_a1 h0 n0 v U'.heap L ∧ FrameEnd U o U' L ({ frames := 2, cells := 0, slots := 0, locals := 24 } : Room).cells ({ frames := 2, cells := 0, slots := 0, locals := 24 } : Room).slots) := by
  refine MetFree.of_bodySF (plainFor_of_name pn_2) hisR ?_
  intro p e s m args below meth c s₁ Bd hml0 hP hK
  obtain ⟨rfl, hZ, hh⟩ := hP
  have hx := Bd.exec
  have hby := Bd.bytes
  have hml : c.maxLocals = 3 := hml0
  have hown : s.vm.findClass "com/example/tallykey/tallykey/io/RadiusPacket$Attribute" = some m.cls := findClass_of_methodNamed Bd.named
  have hnm := (name_of_methodNamed Bd.named Bd.method).1
  have X0 : Stand p l e ({ frames := 2, cells := 0, slots := 0, locals := 24 } : Room) s m #[(.ref a1), (.int p2), (.ref a3)] below meth c s₁ [] 0 0 := Stand.of_body Bd
  have e0 : s₁.heap = h0 := by rw [← hh, Bd.state]; rfl
  have N0 := Fr.nil n0
  have pre0 : ∀ t, Steps p.tables e below (s₁.setTop (mkF m 0 #[.val (.ref a1), .val (.int p2), .val (.ref a3)] [])) t → Steps p.tables e below (s₁.setTop (entryFrame m #[(.ref a1), (.int p2), (.ref a3)] 3)) t := fun t k => castTop (ef_2 m a1 p2 a3) k
  obtain ⟨_, _, ⟨T4, L4, k4, n4⟩, -, X4, ⟨Lc4, hQ4, l4, y4, z4⟩, st4⟩ := X0.specialBack hx (y := (⟨"java/lang/Record", "<init>", "()V"⟩ : MethodName)) rfl hown (mvT hZ (ww hw 10 rfl)) (mvT hZ (ww hw 11 rfl)) (mvT hZ (ww hw 14 rfl)) (by decide) (backOf (W := 0) (rm3 l Z a0 hw [] a1  h0 n0 Z0) hZ (ww hw 14 rfl) (ww hw 13 rfl) (by decide) (by decide)) (g := (mkF m 1 #[.val (.ref a1), .val (.int p2), .val (.ref a3)] [(.ref a1)])) rfl (by rw [hml]; rfl) (Steps.refl _) (a := a1) (argsL := []) (rest := []) (lenOf pd_2_2 rfl) rfl (by show 2 * 0 + _ ≤ _; exact Nat.le_of_eq rfl) (hb hby d2_1) (fun _ _ => ⟨rfl, e0, (by decide : 0 + 0 ≤ _), (by decide : 0 + 0 ≤ _)⟩)
  dsimp only [Pt.U, Pt.locs, Pt.cells, Pt.slots] at X4 l4 y4 z4 st4 hQ4
  subst l4 y4 z4
  obtain ⟨rfl, N4q, eh4⟩ := hQ4
  have N4 := Fr.app N0 N4q
  obtain ⟨T5, h5, X5, e5, W5, st5⟩ := putF X4 hx hZ hown (host := "") (Or.inl (ww hw 18 rfl)) Via.refl eh4 F_type_a1 E_a1 (Or.inr ⟨(ww hw 19 rfl), rfl, hnm⟩) (ww hw 5 rfl) (ty := .int) (by decide) rfl rfl (g := (mkF m 35 #[.val (.ref a1), .val (.int p2), .val (.ref a3)] [(.int p2), (.ref a1)])) rfl rfl (hb hby d2_35)
  have Fw5 := F_type_a1.same W5
  have K5 : Keep h0 h5 [a1] := (Keep.refl h0 [a1]).wr W5 (Or.inl (List.mem_of_getElem? (i := 0) rfl))
  have N5 := Fr.snoc X5 N4 g_a1
  obtain ⟨T6, h6, X6, e6, W6, st6⟩ := putF X5 hx hZ hown (host := "") (Or.inl (ww hw 20 rfl)) Via.refl e5 (F_value_a1.other W5 (Or.inr (slot_ne (Or.inr (ww hw 21 rfl)) (Or.inr (ww hw 19 rfl)) (by decide) (t := (.array .byte)) (t' := .int) (by decide) (by decide)))) (E_a1.wr W5) (Or.inr ⟨(ww hw 21 rfl), rfl, hnm⟩) (ww hw 5 rfl) (ty := (.array .byte)) (by decide) rfl rfl (g := (mkF m 40 #[.val (.ref a1), .val (.int p2), .val (.ref a3)] [(.ref a3), (.ref a1)])) rfl rfl (hb hby d2_40)
  have Fw6 := (F_value_a1.other W5 (Or.inr (slot_ne (Or.inr (ww hw 21 rfl)) (Or.inr (ww hw 19 rfl)) (by decide) (t := (.array .byte)) (t' := .int) (by decide) (by decide)))).same W6
  have K6 : Keep h0 h6 [a1] := K5.wr W6 (Or.inl (List.mem_of_getElem? (i := 0) rfl))
  have N6 := Fr.snoc X6 N5 g_a1
  obtain ⟨fs, hr, hrun, hended, hW, hsame⟩ := X6.leave (v := none) (fun _ => rfl)
  refine ⟨_, _, pre0 _ ?_, hrun, hended, _, _, rfl, ?_, ⟨_, rfl⟩, hW, hsame.mono (by decide) (by decide)⟩
  · show Steps _ _ _ (s₁.setTop (mkF m 0 #[.val (.ref a1), .val (.int p2), .val (.ref a3)] [])) _
    refine XS.aloadN X0.here hx rfl (hb hby d2_0) rfl rfl ?_
    show Steps _ _ _ (s₁.setTop (mkF m 1 #[.val (.ref a1), .val (.int p2), .val (.ref a3)] [(.ref a1)])) _
    refine st4.trans ?_
    show Steps _ _ _ (T4.setTop (mkF m 4 #[.val (.ref a1), .val (.int p2), .val (.ref a3)] [])) _
    refine XS.iloadN X4.here hx rfl (hb hby d2_4) rfl ?_
    show Steps _ _ _ (T4.setTop (mkF m 5 #[.val (.ref a1), .val (.int p2), .val (.ref a3)] [(.int p2)])) _
    refine XS.ifNo X4.here hx rfl (hb hby d2_5) rfl ((if0 _ _).trans (flt hc5).1) ?_
    show Steps _ _ _ (T4.setTop (mkF m 8 #[.val (.ref a1), .val (.int p2), .val (.ref a3)] [])) _
    refine XS.iloadN X4.here hx rfl (hb hby d2_8) rfl ?_
    show Steps _ _ _ (T4.setTop (mkF m 9 #[.val (.ref a1), .val (.int p2), .val (.ref a3)] [(.int p2)])) _
    refine XS.sipush X4.here hx rfl (hb hby d2_9) ?_
    show Steps _ _ _ (T4.setTop (mkF m 12 #[.val (.ref a1), .val (.int p2), .val (.ref a3)] [(.int (255 : Int32)), (.int p2)])) _
    refine XS.icmpNo X4.here hx rfl (hb hby d2_12) rfl (flt hc12).2.2.1 ?_
    show Steps _ _ _ (T4.setTop (mkF m 15 #[.val (.ref a1), .val (.int p2), .val (.ref a3)] [])) _
    refine XS.aloadN X4.here hx rfl (hb hby d2_15) rfl rfl ?_
    show Steps _ _ _ (T4.setTop (mkF m 16 #[.val (.ref a1), .val (.int p2), .val (.ref a3)] [(.ref a3)])) _
    refine X4.arraylength hx (by rw [eh4]; exact Ar_a3.1) (State.isArrayOf_alike hZ.alike Ar_a3.2.1) (g := (mkF m 16 #[.val (.ref a1), .val (.int p2), .val (.ref a3)] [(.ref a3)])) rfl rfl (hb hby d2_16) _ ?_
    rw [len_of S_a3 N_a3]
    show Steps _ _ _ (T4.setTop (mkF m 17 #[.val (.ref a1), .val (.int p2), .val (.ref a3)] [(.int z_a3)])) _
    refine XS.sipush X4.here hx rfl (hb hby d2_17) ?_
    show Steps _ _ _ (T4.setTop (mkF m 20 #[.val (.ref a1), .val (.int p2), .val (.ref a3)] [(.int (253 : Int32)), (.int z_a3)])) _
    refine XS.icmpYes X4.here hx rfl (pc0 := 20) (pc' := 33) rfl (hb hby d2_20) rfl (flt hc20).2.2.2 (by decide) (by decide) ?_
    show Steps _ _ _ (T4.setTop (mkF m 33 #[.val (.ref a1), .val (.int p2), .val (.ref a3)] [])) _
    refine XS.aloadN X4.here hx rfl (hb hby d2_33) rfl rfl ?_
    show Steps _ _ _ (T4.setTop (mkF m 34 #[.val (.ref a1), .val (.int p2), .val (.ref a3)] [(.ref a1)])) _
    refine XS.iloadN X4.here hx rfl (hb hby d2_34) rfl ?_
    show Steps _ _ _ (T4.setTop (mkF m 35 #[.val (.ref a1), .val (.int p2), .val (.ref a3)] [(.int p2), (.ref a1)])) _
    refine st5 _ ?_
    show Steps _ _ _ (T5.setTop (mkF m 38 #[.val (.ref a1), .val (.int p2), .val (.ref a3)] [])) _
    refine XS.aloadN X5.here hx rfl (hb hby d2_38) rfl rfl ?_
    show Steps _ _ _ (T5.setTop (mkF m 39 #[.val (.ref a1), .val (.int p2), .val (.ref a3)] [(.ref a1)])) _
    refine XS.aloadN X5.here hx rfl (hb hby d2_39) rfl rfl ?_
    show Steps _ _ _ (T5.setTop (mkF m 40 #[.val (.ref a1), .val (.int p2), .val (.ref a3)] [(.ref a3), (.ref a1)])) _
    refine st6 _ ?_
    show Steps _ _ _ (T6.setTop (mkF m 43 #[.val (.ref a1), .val (.int p2), .val (.ref a3)] [])) _
    exact X6.returnOut hx Bd.returns (hb hby d2_43) hr
  · show Q2 Z a1 p2 a3 cl_a3 z_a3 u_type_a1 u_value_a1 h0 n0 _ T6.heap _
    rw [e6]
    exact ⟨rfl, N6, K6, ((E_a1.wr W5).wr W6), (Fw5.other W6 (Or.inr (slot_ne (Or.inr (ww hw 19 rfl)) (Or.inr (ww hw 21 rfl)) (by decide) (t := .int) (t' := (.array .byte)) (by decide) (by decide)))), Fw6⟩
def own_b (q : Int64) (k : Int32) : Int32 := ((((q.toUInt64 >>> (k &&& 0x3f).toInt64.toUInt64).toInt64).toInt32).toInt8.toInt32)
theorem d1_0 : decode prog_7_method_3_code 0 = .ok (.new 17, 3) := by decide +kernel
theorem d1_3 : decode prog_7_method_3_code 3 = .ok (.dup, 1) := by decide +kernel
theorem d1_4 : decode prog_7_method_3_code 4 = .ok (.iload_n 0, 1) := by decide +kernel
theorem d1_5 : decode prog_7_method_3_code 5 = .ok (.iconst 4, 1) := by decide +kernel
theorem d1_6 : decode prog_7_method_3_code 6 = .ok (.newarray .byte, 2) := by decide +kernel
theorem d1_8 : decode prog_7_method_3_code 8 = .ok (.dup, 1) := by decide +kernel
theorem d1_9 : decode prog_7_method_3_code 9 = .ok (.iconst 0, 1) := by decide +kernel
theorem d1_10 : decode prog_7_method_3_code 10 = .ok (.lload_n 1, 1) := by decide +kernel
theorem d1_11 : decode prog_7_method_3_code 11 = .ok (.bipush 24, 2) := by decide +kernel
theorem d1_13 : decode prog_7_method_3_code 13 = .ok (.lushr, 1) := by decide +kernel
theorem d1_14 : decode prog_7_method_3_code 14 = .ok (.l2i, 1) := by decide +kernel
theorem d1_15 : decode prog_7_method_3_code 15 = .ok (.i2b, 1) := by decide +kernel
theorem d1_16 : decode prog_7_method_3_code 16 = .ok (.bastore, 1) := by decide +kernel
theorem d1_17 : decode prog_7_method_3_code 17 = .ok (.dup, 1) := by decide +kernel
theorem d1_18 : decode prog_7_method_3_code 18 = .ok (.iconst 1, 1) := by decide +kernel
theorem d1_19 : decode prog_7_method_3_code 19 = .ok (.lload_n 1, 1) := by decide +kernel
theorem d1_20 : decode prog_7_method_3_code 20 = .ok (.bipush 16, 2) := by decide +kernel
theorem d1_22 : decode prog_7_method_3_code 22 = .ok (.lushr, 1) := by decide +kernel
theorem d1_23 : decode prog_7_method_3_code 23 = .ok (.l2i, 1) := by decide +kernel
theorem d1_24 : decode prog_7_method_3_code 24 = .ok (.i2b, 1) := by decide +kernel
theorem d1_25 : decode prog_7_method_3_code 25 = .ok (.bastore, 1) := by decide +kernel
theorem d1_26 : decode prog_7_method_3_code 26 = .ok (.dup, 1) := by decide +kernel
theorem d1_27 : decode prog_7_method_3_code 27 = .ok (.iconst 2, 1) := by decide +kernel
theorem d1_28 : decode prog_7_method_3_code 28 = .ok (.lload_n 1, 1) := by decide +kernel
theorem d1_29 : decode prog_7_method_3_code 29 = .ok (.bipush 8, 2) := by decide +kernel
theorem d1_31 : decode prog_7_method_3_code 31 = .ok (.lushr, 1) := by decide +kernel
theorem d1_32 : decode prog_7_method_3_code 32 = .ok (.l2i, 1) := by decide +kernel
theorem d1_33 : decode prog_7_method_3_code 33 = .ok (.i2b, 1) := by decide +kernel
theorem d1_34 : decode prog_7_method_3_code 34 = .ok (.bastore, 1) := by decide +kernel
theorem d1_35 : decode prog_7_method_3_code 35 = .ok (.dup, 1) := by decide +kernel
theorem d1_36 : decode prog_7_method_3_code 36 = .ok (.iconst 3, 1) := by decide +kernel
theorem d1_37 : decode prog_7_method_3_code 37 = .ok (.lload_n 1, 1) := by decide +kernel
theorem d1_38 : decode prog_7_method_3_code 38 = .ok (.l2i, 1) := by decide +kernel
theorem d1_39 : decode prog_7_method_3_code 39 = .ok (.i2b, 1) := by decide +kernel
theorem d1_40 : decode prog_7_method_3_code 40 = .ok (.bastore, 1) := by decide +kernel
theorem d1_41 : decode prog_7_method_3_code 41 = .ok (.invokespecial 38, 3) := by decide +kernel
theorem d1_44 : decode prog_7_method_3_code 44 = .ok (.areturn, 1) := by decide +kernel
theorem pn_1 : plainName "com/example/tallykey/tallykey/io/RadiusPacket$Attribute" = true := by first | (simp [plainName, overriddenIn]; done) | decide +kernel
theorem pd_1_1 : parseMethodDescriptor "(I[B)V" = some ⟨[.int, (.array .byte)], none⟩ := by decide +kernel
theorem ef_1 (m : MethodId) (x0 : Int32) (x1 : Int64) : entryFrame m #[(.int x0), (.long x1)] 3 = mkF m 0 #[.val (.int x0), .val (.long x1), .second] [] := by first | (simp [entryFrame, mkF, argsToLocals, Value.category]; done) | rfl
-- 2. THE CONTRACT: what this body leaves is yours
def Q1 (Z : State) (p1 : Int32) (q2 : Int64) (h0 : Heap) (n0 : Nat) (v : Option Value) (h : Heap) (L : List Loc) : Prop := ∃ (b d : Addr) (k : ClassId), v = some (.ref b) ∧ Fr n0 L ∧ Keep h0 h [] ∧ h0.size ≤ b ∧ h0.size ≤ d ∧ Exa Z h b "com/example/tallykey/tallykey/io/RadiusPacket$Attribute" ∧ Fld Z h b "com/example/tallykey/tallykey/io/RadiusPacket$Attribute" "type" "I" (.int p1) ∧ Fld Z h b "com/example/tallykey/tallykey/io/RadiusPacket$Attribute" "value" "[B" (.ref d) ∧ Arv Z h d k .byte (4 : Int32) [(.int (nar .byte (own_b q2 24))), (.int (nar .byte (own_b q2 16))), (.int (nar .byte (own_b q2 8))), (.int (nar .byte ((q2.toInt32).toInt8.toInt32)))] (.int (0 : Int32))
-- its room: frames: the greatest, locals: the greatest, cells 2 + .., slots 6 + ..: rm2: frames + 1; locals 1 + 3 + 11 + its room's locals; its cells and slots besides
set_option maxRecDepth 65536 in
set_option maxHeartbeats 40000000 in
theorem rm1 (l : Launch) (Z : State) (a0 : Array Value) (hw : ∀ d ∈ tables_1, d.before a0 Z = true) (ws : List Jvm.Cond) (p1 : Int32) (q2 : Int64) (h0 : Heap) (n0 : Nat) (Z0 : n0 ≤ h0.size) (hp0 : ¬ (p1 < (0 : Int32))) (hp1 : ¬ ((255 : Int32) < p1)) :
    MetFree l (⟨"com/example/tallykey/tallykey/io/RadiusPacket$Attribute", "integer", "(IJ)Lcom/example/tallykey/tallykey/io/RadiusPacket$Attribute;"⟩ : MethodName) (head1 (Jvm.Cond.code (⟨"com/example/tallykey/tallykey/io/RadiusPacket$Attribute", "integer", "(IJ)Lcom/example/tallykey/tallykey/io/RadiusPacket$Attribute;"⟩ : MethodName) prog_7_method_3_code 3 (some (.object "com/example/tallykey/tallykey/io/RadiusPacket$Attribute")) :: ws) ({ frames := 3, cells := 2, slots := 6, locals := 60 } : Room)) (fun a U => a = #[(.int p1), (.long q2)] ∧ Z.Warmed39 U.vm ∧ U.heap = h0) (fun _ _ _ _ _ => True) (fun _ U o U' => ∃ v L, o = .returned v ∧ Q1 Z p1 q2 h0 n0 v U'.heap L ∧ FrameEnd U o U' L ({ frames := 3, cells := 2, slots := 6, locals := 60 } : Room).cells ({ frames := 3, cells := 2, slots := 6, locals := 60 } : Room).slots) := by
  refine MetFree.of_bodySF (plainFor_of_name pn_1) hisR ?_
  intro p e s m args below meth c s₁ Bd hml0 hP hK
  obtain ⟨rfl, hZ, hh⟩ := hP
  have hx := Bd.exec
  have hby := Bd.bytes
  have hml : c.maxLocals = 3 := hml0
  have hown : s.vm.findClass "com/example/tallykey/tallykey/io/RadiusPacket$Attribute" = some m.cls := findClass_of_methodNamed Bd.named
  have hnm := (name_of_methodNamed Bd.named Bd.method).1
  have X0 : Stand p l e ({ frames := 3, cells := 2, slots := 6, locals := 60 } : Room) s m #[(.int p1), (.long q2)] below meth c s₁ [] 0 0 := Stand.of_body Bd
  have e0 : s₁.heap = h0 := by rw [← hh, Bd.state]; rfl
  have N0 := Fr.nil n0
  have pre0 : ∀ t, Steps p.tables e below (s₁.setTop (mkF m 0 #[.val (.int p1), .val (.long q2), .second] [])) t → Steps p.tables e below (s₁.setTop (entryFrame m #[(.int p1), (.long q2)] 3)) t := fun t k => castTop (ef_1 m p1 q2) k
  obtain ⟨T3, h3, X3, e3, E3, A3, D3, -, st3⟩ := newO X0 hx hZ hown (ww hw 4 rfl) (ww hw 5 rfl) (ww hw 2 rfl) e0 (g := (mkF m 0 #[.val (.int p1), .val (.long q2), .second] [])) rfl (hb hby d1_0) (by decide) (by decide)
  obtain ⟨b3, g3⟩ : ∃ z, z = h0.size := ⟨_, rfl⟩
  rw [← g3] at A3 D3 st3
  have F_type_b3 : Fld Z h3 b3 "com/example/tallykey/tallykey/io/RadiusPacket$Attribute" "type" "I" (.int (0 : Int32)) := D3 (Or.inr (ww hw 19 rfl)) (ty := .int) (by decide)
  have F_value_b3 : Fld Z h3 b3 "com/example/tallykey/tallykey/io/RadiusPacket$Attribute" "value" "[B" .null := D3 (Or.inr (ww hw 21 rfl)) (ty := (.array .byte)) (by decide)
  have E_b3 := A3
  have g_b3 : n0 ≤ b3 := Nat.le_trans Z0 (Nat.le_of_eq g3.symm)
  have sz_b3 : h0.size ≤ b3 := (Nat.le_trans (Keep.refl h0 []).1 (Nat.le_of_eq g3.symm))
  have K3 : Keep h0 h3 [] := (Keep.refl h0 []).ext E3
  obtain ⟨T4, h4, k4, X4, e4, E4, A4, st4⟩ := newP X3 hx hZ (ww hw 6 rfl) e3 (g := (mkF m 6 #[.val (.int p1), .val (.long q2), .second] [(.int (4 : Int32)), (.int p1), (.ref b3), (.ref b3)])) rfl (hb hby d1_6) rfl (by decide) (cap := 4) (by decide) (by decide) (by decide) (by decide)
  obtain ⟨b4, g4⟩ : ∃ z, z = h3.size := ⟨_, rfl⟩
  rw [← g4] at A4 st4
  have V_b4 : Arv Z h4 b4 k4 .byte (4 : Int32) [(.int (0 : Int32)), (.int (0 : Int32)), (.int (0 : Int32)), (.int (0 : Int32))] (.int (0 : Int32)) := (Arv.new A4 (by decide)).pad (pad_rep [] (.int (0 : Int32)) 4)
  have g_b4 : n0 ≤ b4 := Nat.le_trans (Nat.le_trans Z0 E3.1) (Nat.le_of_eq g4.symm)
  have sz_b4 : h0.size ≤ b4 := (Nat.le_trans K3.1 (Nat.le_of_eq g4.symm))
  have K4 : Keep h0 h4 [] := K3.ext E4
  obtain ⟨cl_b4_16, Ar_b4, q_b4, S_b4, N_b4, H_b4, G_b4⟩ := V_b4
  have hin16 : ¬ ((0 : Int32) < 0 ∨ cl_b4_16.slots.size ≤ ((0 : Int32)).toNatClampNeg) := inb_of S_b4 ⟨by decide, by decide⟩
  obtain ⟨T5, h5, X5, e5, W5, st5⟩ := stB X4 hx hZ e4 Ar_b4 (j := (0 : Int32)) hin16 (g := (mkF m 16 #[.val (.int p1), .val (.long q2), .second] [(.int ((((q2.toUInt64 >>> ((24 : Int32) &&& 0x3f).toInt64.toUInt64).toInt64).toInt32).toInt8.toInt32)), (.int (0 : Int32)), (.ref b4), (.ref b4), (.int p1), (.ref b3), (.ref b3)])) rfl rfl (hb hby d1_16)
  have V_b4_5 := Arv.set Ar_b4 q_b4 S_b4 N_b4 H_b4 G_b4 (fits_nar_byte _) W5 0 rfl (Nat.le_of_ble_eq_true rfl)
  have K5 : Keep h0 h5 [] := K4.wr W5 (Or.inr sz_b4)
  have N5 := Fr.snoc X5 N0 g_b4
  obtain ⟨cl_b4_25, Ar_b4, q_b4, S_b4, N_b4, H_b4, G_b4⟩ := V_b4_5
  have hin25 : ¬ ((1 : Int32) < 0 ∨ cl_b4_25.slots.size ≤ ((1 : Int32)).toNatClampNeg) := inb_of S_b4 ⟨by decide, by decide⟩
  obtain ⟨T6, h6, X6, e6, W6, st6⟩ := stB X5 hx hZ e5 Ar_b4 (j := (1 : Int32)) hin25 (g := (mkF m 25 #[.val (.int p1), .val (.long q2), .second] [(.int ((((q2.toUInt64 >>> ((16 : Int32) &&& 0x3f).toInt64.toUInt64).toInt64).toInt32).toInt8.toInt32)), (.int (1 : Int32)), (.ref b4), (.ref b4), (.int p1), (.ref b3), (.ref b3)])) rfl rfl (hb hby d1_25)
  have V_b4_6 := Arv.set Ar_b4 q_b4 S_b4 N_b4 H_b4 G_b4 (fits_nar_byte _) W6 1 rfl (Nat.le_of_ble_eq_true rfl)
  have K6 : Keep h0 h6 [] := K5.wr W6 (Or.inr sz_b4)
  have N6 := Fr.snoc X6 N5 g_b4
  obtain ⟨cl_b4_34, Ar_b4, q_b4, S_b4, N_b4, H_b4, G_b4⟩ := V_b4_6
  have hin34 : ¬ ((2 : Int32) < 0 ∨ cl_b4_34.slots.size ≤ ((2 : Int32)).toNatClampNeg) := inb_of S_b4 ⟨by decide, by decide⟩
  obtain ⟨T7, h7, X7, e7, W7, st7⟩ := stB X6 hx hZ e6 Ar_b4 (j := (2 : Int32)) hin34 (g := (mkF m 34 #[.val (.int p1), .val (.long q2), .second] [(.int ((((q2.toUInt64 >>> ((8 : Int32) &&& 0x3f).toInt64.toUInt64).toInt64).toInt32).toInt8.toInt32)), (.int (2 : Int32)), (.ref b4), (.ref b4), (.int p1), (.ref b3), (.ref b3)])) rfl rfl (hb hby d1_34)
  have V_b4_7 := Arv.set Ar_b4 q_b4 S_b4 N_b4 H_b4 G_b4 (fits_nar_byte _) W7 2 rfl (Nat.le_of_ble_eq_true rfl)
  have K7 : Keep h0 h7 [] := K6.wr W7 (Or.inr sz_b4)
  have N7 := Fr.snoc X7 N6 g_b4
  obtain ⟨cl_b4_40, Ar_b4, q_b4, S_b4, N_b4, H_b4, G_b4⟩ := V_b4_7
  have hin40 : ¬ ((3 : Int32) < 0 ∨ cl_b4_40.slots.size ≤ ((3 : Int32)).toNatClampNeg) := inb_of S_b4 ⟨by decide, by decide⟩
  obtain ⟨T8, h8, X8, e8, W8, st8⟩ := stB X7 hx hZ e7 Ar_b4 (j := (3 : Int32)) hin40 (g := (mkF m 40 #[.val (.int p1), .val (.long q2), .second] [(.int ((q2.toInt32).toInt8.toInt32)), (.int (3 : Int32)), (.ref b4), (.ref b4), (.int p1), (.ref b3), (.ref b3)])) rfl rfl (hb hby d1_40)
  have V_b4_8 := Arv.set Ar_b4 q_b4 S_b4 N_b4 H_b4 G_b4 (fits_nar_byte _) W8 3 rfl (Nat.le_of_ble_eq_true rfl)
  have K8 : Keep h0 h8 [] := K7.wr W8 (Or.inr sz_b4)
  have N8 := Fr.snoc X8 N7 g_b4
  obtain ⟨clc, Arc, qc, Sc, Nc, -, -⟩ := id (V_b4_8)
  obtain ⟨_, _, ⟨T9, L9, k9, n9⟩, -, X9, ⟨Lc9, hQ9, l9, y9, z9⟩, st9⟩ := X8.specialBack hx (y := (⟨"com/example/tallykey/tallykey/io/RadiusPacket$Attribute", "<init>", "(I[B)V"⟩ : MethodName)) rfl hown (mvT hZ (ww hw 7 rfl)) (mvT hZ (ww hw 8 rfl)) (mvT hZ (ww hw 9 rfl)) (by decide) (backOf (W := 1) (rm2 l Z a0 hw [] b3 p1 b4 clc (4 : Int32) _ _ h8 n0 (Nat.le_trans (Nat.le_trans (Nat.le_trans (Nat.le_trans (Nat.le_trans (Nat.le_trans Z0 E3.1) E4.1) (Keep.of_wr W5).1) (Keep.of_wr W6).1) (Keep.of_wr W7).1) (Keep.of_wr W8).1) Arc Sc Nc (((((E_b3.ext E4).wr W5).wr W6).wr W7).wr W8) (((((F_type_b3.ext E4).other W5 (Or.inl (Nat.ne_of_lt (Nat.lt_of_lt_of_le E_b3.lt (Nat.le_of_eq g4.symm))))).other W6 (Or.inl (Nat.ne_of_lt (Nat.lt_of_lt_of_le E_b3.lt (Nat.le_of_eq g4.symm))))).other W7 (Or.inl (Nat.ne_of_lt (Nat.lt_of_lt_of_le E_b3.lt (Nat.le_of_eq g4.symm))))).other W8 (Or.inl (Nat.ne_of_lt (Nat.lt_of_lt_of_le E_b3.lt (Nat.le_of_eq g4.symm))))) g_b3 (((((F_value_b3.ext E4).other W5 (Or.inl (Nat.ne_of_lt (Nat.lt_of_lt_of_le E_b3.lt (Nat.le_of_eq g4.symm))))).other W6 (Or.inl (Nat.ne_of_lt (Nat.lt_of_lt_of_le E_b3.lt (Nat.le_of_eq g4.symm))))).other W7 (Or.inl (Nat.ne_of_lt (Nat.lt_of_lt_of_le E_b3.lt (Nat.le_of_eq g4.symm))))).other W8 (Or.inl (Nat.ne_of_lt (Nat.lt_of_lt_of_le E_b3.lt (Nat.le_of_eq g4.symm))))) hp0 hp1 (by decide)) hZ (ww hw 9 rfl) (ww hw 2 rfl) (by decide) (by decide)) (g := (mkF m 41 #[.val (.int p1), .val (.long q2), .second] [(.ref b4), (.int p1), (.ref b3), (.ref b3)])) rfl (by rw [hml]; rfl) (Steps.refl _) (a := b3) (argsL := [(.int p1), (.ref b4)]) (rest := [(.ref b3)]) (lenOf pd_1_1 rfl) rfl (by show 2 * 0 + _ ≤ _; exact Nat.le_of_eq rfl) (hb hby d1_41) (fun _ _ => ⟨rfl, e8, (by decide : 2 + 0 ≤ _), (by decide : 6 + 0 ≤ _)⟩)
  dsimp only [Pt.U, Pt.locs, Pt.cells, Pt.slots] at X9 l9 y9 z9 st9 hQ9
  subst l9 y9 z9
  obtain ⟨rfl, N9q, Kc9, Ec9, Ft9, Fv9⟩ := hQ9
  have N9 := Fr.app N8 N9q
  have K9 : Keep h0 T9.heap [] := K8.trans Kc9 (allS (Or.inr sz_b3) all0)
  obtain ⟨fs, hr, hrun, hended, hW, hsame⟩ := X9.leave (v := some (.ref b3)) (fun h => by rw [Bd.returns] at h; cases h)
  refine ⟨_, _, pre0 _ ?_, hrun, hended, _, _, rfl, ?_, ⟨_, rfl⟩, hW, hsame.mono (by decide) (by decide)⟩
  · show Steps _ _ _ (s₁.setTop (mkF m 0 #[.val (.int p1), .val (.long q2), .second] [])) _
    refine st3 _ ?_
    show Steps _ _ _ (T3.setTop (mkF m 3 #[.val (.int p1), .val (.long q2), .second] [(.ref b3)])) _
    refine XS.dup X3.here hx rfl (hb hby d1_3) rfl rfl ?_
    show Steps _ _ _ (T3.setTop (mkF m 4 #[.val (.int p1), .val (.long q2), .second] [(.ref b3), (.ref b3)])) _
    refine XS.iloadN X3.here hx rfl (hb hby d1_4) rfl ?_
    show Steps _ _ _ (T3.setTop (mkF m 5 #[.val (.int p1), .val (.long q2), .second] [(.int p1), (.ref b3), (.ref b3)])) _
    refine XS.iconst X3.here hx rfl (hb hby d1_5) ?_
    show Steps _ _ _ (T3.setTop (mkF m 6 #[.val (.int p1), .val (.long q2), .second] [(.int (4 : Int32)), (.int p1), (.ref b3), (.ref b3)])) _
    refine st4 _ ?_
    show Steps _ _ _ (T4.setTop (mkF m 8 #[.val (.int p1), .val (.long q2), .second] [(.ref b4), (.int p1), (.ref b3), (.ref b3)])) _
    refine XS.dup X4.here hx rfl (hb hby d1_8) rfl rfl ?_
    show Steps _ _ _ (T4.setTop (mkF m 9 #[.val (.int p1), .val (.long q2), .second] [(.ref b4), (.ref b4), (.int p1), (.ref b3), (.ref b3)])) _
    refine XS.iconst X4.here hx rfl (hb hby d1_9) ?_
    show Steps _ _ _ (T4.setTop (mkF m 10 #[.val (.int p1), .val (.long q2), .second] [(.int (0 : Int32)), (.ref b4), (.ref b4), (.int p1), (.ref b3), (.ref b3)])) _
    refine XS.lloadN X4.here hx rfl (hb hby d1_10) rfl ?_
    show Steps _ _ _ (T4.setTop (mkF m 11 #[.val (.int p1), .val (.long q2), .second] [(.long q2), (.int (0 : Int32)), (.ref b4), (.ref b4), (.int p1), (.ref b3), (.ref b3)])) _
    refine XS.bipush X4.here hx rfl (hb hby d1_11) ?_
    show Steps _ _ _ (T4.setTop (mkF m 13 #[.val (.int p1), .val (.long q2), .second] [(.int (24 : Int32)), (.long q2), (.int (0 : Int32)), (.ref b4), (.ref b4), (.int p1), (.ref b3), (.ref b3)])) _
    refine XS.lushr X4.here hx rfl (hb hby d1_13) rfl ?_
    show Steps _ _ _ (T4.setTop (mkF m 14 #[.val (.int p1), .val (.long q2), .second] [(.long ((q2.toUInt64 >>> ((24 : Int32) &&& 0x3f).toInt64.toUInt64).toInt64)), (.int (0 : Int32)), (.ref b4), (.ref b4), (.int p1), (.ref b3), (.ref b3)])) _
    refine XS.l2i X4.here hx rfl (hb hby d1_14) rfl ?_
    show Steps _ _ _ (T4.setTop (mkF m 15 #[.val (.int p1), .val (.long q2), .second] [(.int (((q2.toUInt64 >>> ((24 : Int32) &&& 0x3f).toInt64.toUInt64).toInt64).toInt32)), (.int (0 : Int32)), (.ref b4), (.ref b4), (.int p1), (.ref b3), (.ref b3)])) _
    refine XS.i2b X4.here hx rfl (hb hby d1_15) rfl ?_
    show Steps _ _ _ (T4.setTop (mkF m 16 #[.val (.int p1), .val (.long q2), .second] [(.int ((((q2.toUInt64 >>> ((24 : Int32) &&& 0x3f).toInt64.toUInt64).toInt64).toInt32).toInt8.toInt32)), (.int (0 : Int32)), (.ref b4), (.ref b4), (.int p1), (.ref b3), (.ref b3)])) _
    refine st5 _ ?_
    show Steps _ _ _ (T5.setTop (mkF m 17 #[.val (.int p1), .val (.long q2), .second] [(.ref b4), (.int p1), (.ref b3), (.ref b3)])) _
    refine XS.dup X5.here hx rfl (hb hby d1_17) rfl rfl ?_
    show Steps _ _ _ (T5.setTop (mkF m 18 #[.val (.int p1), .val (.long q2), .second] [(.ref b4), (.ref b4), (.int p1), (.ref b3), (.ref b3)])) _
    refine XS.iconst X5.here hx rfl (hb hby d1_18) ?_
    show Steps _ _ _ (T5.setTop (mkF m 19 #[.val (.int p1), .val (.long q2), .second] [(.int (1 : Int32)), (.ref b4), (.ref b4), (.int p1), (.ref b3), (.ref b3)])) _
    refine XS.lloadN X5.here hx rfl (hb hby d1_19) rfl ?_
    show Steps _ _ _ (T5.setTop (mkF m 20 #[.val (.int p1), .val (.long q2), .second] [(.long q2), (.int (1 : Int32)), (.ref b4), (.ref b4), (.int p1), (.ref b3), (.ref b3)])) _
    refine XS.bipush X5.here hx rfl (hb hby d1_20) ?_
    show Steps _ _ _ (T5.setTop (mkF m 22 #[.val (.int p1), .val (.long q2), .second] [(.int (16 : Int32)), (.long q2), (.int (1 : Int32)), (.ref b4), (.ref b4), (.int p1), (.ref b3), (.ref b3)])) _
    refine XS.lushr X5.here hx rfl (hb hby d1_22) rfl ?_
    show Steps _ _ _ (T5.setTop (mkF m 23 #[.val (.int p1), .val (.long q2), .second] [(.long ((q2.toUInt64 >>> ((16 : Int32) &&& 0x3f).toInt64.toUInt64).toInt64)), (.int (1 : Int32)), (.ref b4), (.ref b4), (.int p1), (.ref b3), (.ref b3)])) _
    refine XS.l2i X5.here hx rfl (hb hby d1_23) rfl ?_
    show Steps _ _ _ (T5.setTop (mkF m 24 #[.val (.int p1), .val (.long q2), .second] [(.int (((q2.toUInt64 >>> ((16 : Int32) &&& 0x3f).toInt64.toUInt64).toInt64).toInt32)), (.int (1 : Int32)), (.ref b4), (.ref b4), (.int p1), (.ref b3), (.ref b3)])) _
    refine XS.i2b X5.here hx rfl (hb hby d1_24) rfl ?_
    show Steps _ _ _ (T5.setTop (mkF m 25 #[.val (.int p1), .val (.long q2), .second] [(.int ((((q2.toUInt64 >>> ((16 : Int32) &&& 0x3f).toInt64.toUInt64).toInt64).toInt32).toInt8.toInt32)), (.int (1 : Int32)), (.ref b4), (.ref b4), (.int p1), (.ref b3), (.ref b3)])) _
    refine st6 _ ?_
    show Steps _ _ _ (T6.setTop (mkF m 26 #[.val (.int p1), .val (.long q2), .second] [(.ref b4), (.int p1), (.ref b3), (.ref b3)])) _
    refine XS.dup X6.here hx rfl (hb hby d1_26) rfl rfl ?_
    show Steps _ _ _ (T6.setTop (mkF m 27 #[.val (.int p1), .val (.long q2), .second] [(.ref b4), (.ref b4), (.int p1), (.ref b3), (.ref b3)])) _
    refine XS.iconst X6.here hx rfl (hb hby d1_27) ?_
    show Steps _ _ _ (T6.setTop (mkF m 28 #[.val (.int p1), .val (.long q2), .second] [(.int (2 : Int32)), (.ref b4), (.ref b4), (.int p1), (.ref b3), (.ref b3)])) _
    refine XS.lloadN X6.here hx rfl (hb hby d1_28) rfl ?_
    show Steps _ _ _ (T6.setTop (mkF m 29 #[.val (.int p1), .val (.long q2), .second] [(.long q2), (.int (2 : Int32)), (.ref b4), (.ref b4), (.int p1), (.ref b3), (.ref b3)])) _
    refine XS.bipush X6.here hx rfl (hb hby d1_29) ?_
    show Steps _ _ _ (T6.setTop (mkF m 31 #[.val (.int p1), .val (.long q2), .second] [(.int (8 : Int32)), (.long q2), (.int (2 : Int32)), (.ref b4), (.ref b4), (.int p1), (.ref b3), (.ref b3)])) _
    refine XS.lushr X6.here hx rfl (hb hby d1_31) rfl ?_
    show Steps _ _ _ (T6.setTop (mkF m 32 #[.val (.int p1), .val (.long q2), .second] [(.long ((q2.toUInt64 >>> ((8 : Int32) &&& 0x3f).toInt64.toUInt64).toInt64)), (.int (2 : Int32)), (.ref b4), (.ref b4), (.int p1), (.ref b3), (.ref b3)])) _
    refine XS.l2i X6.here hx rfl (hb hby d1_32) rfl ?_
    show Steps _ _ _ (T6.setTop (mkF m 33 #[.val (.int p1), .val (.long q2), .second] [(.int (((q2.toUInt64 >>> ((8 : Int32) &&& 0x3f).toInt64.toUInt64).toInt64).toInt32)), (.int (2 : Int32)), (.ref b4), (.ref b4), (.int p1), (.ref b3), (.ref b3)])) _
    refine XS.i2b X6.here hx rfl (hb hby d1_33) rfl ?_
    show Steps _ _ _ (T6.setTop (mkF m 34 #[.val (.int p1), .val (.long q2), .second] [(.int ((((q2.toUInt64 >>> ((8 : Int32) &&& 0x3f).toInt64.toUInt64).toInt64).toInt32).toInt8.toInt32)), (.int (2 : Int32)), (.ref b4), (.ref b4), (.int p1), (.ref b3), (.ref b3)])) _
    refine st7 _ ?_
    show Steps _ _ _ (T7.setTop (mkF m 35 #[.val (.int p1), .val (.long q2), .second] [(.ref b4), (.int p1), (.ref b3), (.ref b3)])) _
    refine XS.dup X7.here hx rfl (hb hby d1_35) rfl rfl ?_
    show Steps _ _ _ (T7.setTop (mkF m 36 #[.val (.int p1), .val (.long q2), .second] [(.ref b4), (.ref b4), (.int p1), (.ref b3), (.ref b3)])) _
    refine XS.iconst X7.here hx rfl (hb hby d1_36) ?_
    show Steps _ _ _ (T7.setTop (mkF m 37 #[.val (.int p1), .val (.long q2), .second] [(.int (3 : Int32)), (.ref b4), (.ref b4), (.int p1), (.ref b3), (.ref b3)])) _
    refine XS.lloadN X7.here hx rfl (hb hby d1_37) rfl ?_
    show Steps _ _ _ (T7.setTop (mkF m 38 #[.val (.int p1), .val (.long q2), .second] [(.long q2), (.int (3 : Int32)), (.ref b4), (.ref b4), (.int p1), (.ref b3), (.ref b3)])) _
    refine XS.l2i X7.here hx rfl (hb hby d1_38) rfl ?_
    show Steps _ _ _ (T7.setTop (mkF m 39 #[.val (.int p1), .val (.long q2), .second] [(.int (q2.toInt32)), (.int (3 : Int32)), (.ref b4), (.ref b4), (.int p1), (.ref b3), (.ref b3)])) _
    refine XS.i2b X7.here hx rfl (hb hby d1_39) rfl ?_
    show Steps _ _ _ (T7.setTop (mkF m 40 #[.val (.int p1), .val (.long q2), .second] [(.int ((q2.toInt32).toInt8.toInt32)), (.int (3 : Int32)), (.ref b4), (.ref b4), (.int p1), (.ref b3), (.ref b3)])) _
    refine st8 _ ?_
    show Steps _ _ _ (T8.setTop (mkF m 41 #[.val (.int p1), .val (.long q2), .second] [(.ref b4), (.int p1), (.ref b3), (.ref b3)])) _
    refine st9.trans ?_
    show Steps _ _ _ (T9.setTop (mkF m 44 #[.val (.int p1), .val (.long q2), .second] [(.ref b3)])) _
    jvm_step X9.here [X9.here.top, hx, (hb hby d1_44), X9.method', Bd.returns, Value.isRef, FieldType.isReference]
    first | (intro acts; rw [hr _ acts rfl rfl rfl]) | rw [hr _ _ rfl rfl rfl]
    exact Steps.refl _
  · show Q1 Z p1 q2 h0 n0 _ T9.heap _
    exact ⟨b3, b4, k4, rfl, N9, K9, sz_b3, sz_b4, Ec9, Ft9, Fv9, V_b4_8.keep Kc9 (ninS (Ne.symm (Nat.ne_of_lt (Nat.lt_of_lt_of_le E_b3.lt (Nat.le_of_eq g4.symm)))) nin0)⟩
theorem d5_0 : decode prog_7_method_7_code 0 = .ok (.aload_n 0, 1) := by decide +kernel
theorem d5_1 : decode prog_7_method_7_code 1 = .ok (.getfield 16, 3) := by decide +kernel
theorem d5_4 : decode prog_7_method_7_code 4 = .ok (.ireturn, 1) := by decide +kernel
theorem pn_5 : plainName "com/example/tallykey/tallykey/io/RadiusPacket$Attribute" = true := by first | (simp [plainName, overriddenIn]; done) | decide +kernel
theorem ef_5 (m : MethodId) (x0 : Addr) : entryFrame m #[(.ref x0)] 1 = mkF m 0 #[.val (.ref x0)] [] := by first | (simp [entryFrame, mkF, argsToLocals, Value.category]; done) | rfl
-- 2. THE CONTRACT: what this body leaves is yours
def Q5 (Z : State) (a1 : Addr) (w2 : Int32) (h0 : Heap) (n0 : Nat) (v : Option Value) (h : Heap) (L : List Loc) : Prop := v = some (.int w2) ∧ Fr n0 L ∧ h = h0
set_option maxRecDepth 65536 in
set_option maxHeartbeats 40000000 in
theorem rm5 (l : Launch) (Z : State) (a0 : Array Value) (hw : ∀ d ∈ tables_1, d.before a0 Z = true) (ws : List Jvm.Cond) (a1 : Addr) (w2 : Int32) (h0 : Heap) (n0 : Nat) (Z0 : n0 ≤ h0.size) (F_type_a1 : Fld Z h0 a1 "com/example/tallykey/tallykey/io/RadiusPacket$Attribute" "type" "I" (.int w2)) :
    MetFree l (⟨"com/example/tallykey/tallykey/io/RadiusPacket$Attribute", "type", "()I"⟩ : MethodName) (head1 (Jvm.Cond.code (⟨"com/example/tallykey/tallykey/io/RadiusPacket$Attribute", "type", "()I"⟩ : MethodName) prog_7_method_7_code 1 (some .int) :: ws) ({ frames := 0, cells := 0, slots := 0, locals := 0 } : Room)) (fun a U => a = #[(.ref a1)] ∧ Z.Warmed39 U.vm ∧ U.heap = h0) (fun _ _ _ _ _ => True) (fun _ U o U' => ∃ v L, o = .returned v ∧ Q5 Z a1 w2 h0 n0 v U'.heap L ∧ FrameEnd U o U' L ({ frames := 0, cells := 0, slots := 0, locals := 0 } : Room).cells ({ frames := 0, cells := 0, slots := 0, locals := 0 } : Room).slots) := by
  refine MetFree.of_bodySF (plainFor_of_name pn_5) hisR ?_
  intro p e s m args below meth c s₁ Bd hml0 hP hK
  obtain ⟨rfl, hZ, hh⟩ := hP
  have hx := Bd.exec
  have hby := Bd.bytes
  have hml : c.maxLocals = 1 := hml0
  have hown : s.vm.findClass "com/example/tallykey/tallykey/io/RadiusPacket$Attribute" = some m.cls := findClass_of_methodNamed Bd.named
  have hnm := (name_of_methodNamed Bd.named Bd.method).1
  have X0 : Stand p l e ({ frames := 0, cells := 0, slots := 0, locals := 0 } : Room) s m #[(.ref a1)] below meth c s₁ [] 0 0 := Stand.of_body Bd
  have e0 : s₁.heap = h0 := by rw [← hh, Bd.state]; rfl
  have N0 := Fr.nil n0
  have pre0 : ∀ t, Steps p.tables e below (s₁.setTop (mkF m 0 #[.val (.ref a1)] [])) t → Steps p.tables e below (s₁.setTop (entryFrame m #[(.ref a1)] 1)) t := fun t k => castTop (ef_5 m a1) k
  obtain ⟨T3, X3, e3, st3⟩ := getF X0 hx hZ hown (host := "") (Or.inl (ww hw 18 rfl)) Via.refl e0 F_type_a1 (g := (mkF m 1 #[.val (.ref a1)] [(.ref a1)])) rfl rfl (hb hby d5_1)
  obtain ⟨fs, hr, hrun, hended, hW, hsame⟩ := X3.leave (v := some (.int w2)) (fun h => by rw [Bd.returns] at h; cases h)
  refine ⟨_, _, pre0 _ ?_, hrun, hended, _, _, rfl, ?_, ⟨_, rfl⟩, hW, hsame.mono (by decide) (by decide)⟩
  · show Steps _ _ _ (s₁.setTop (mkF m 0 #[.val (.ref a1)] [])) _
    refine XS.aloadN X0.here hx rfl (hb hby d5_0) rfl rfl ?_
    show Steps _ _ _ (s₁.setTop (mkF m 1 #[.val (.ref a1)] [(.ref a1)])) _
    refine st3 _ ?_
    show Steps _ _ _ (T3.setTop (mkF m 4 #[.val (.ref a1)] [(.int w2)])) _
    exact retI X3 hx Bd.returns (hb hby d5_4) hr
  · show Q5 Z a1 w2 h0 n0 _ T3.heap _
    rw [e3]
    exact ⟨rfl, N0, rfl⟩
theorem d6_0 : decode prog_7_method_8_code 0 = .ok (.aload_n 0, 1) := by decide +kernel
theorem d6_1 : decode prog_7_method_8_code 1 = .ok (.getfield 22, 3) := by decide +kernel
theorem d6_4 : decode prog_7_method_8_code 4 = .ok (.areturn, 1) := by decide +kernel
theorem pn_6 : plainName "com/example/tallykey/tallykey/io/RadiusPacket$Attribute" = true := by first | (simp [plainName, overriddenIn]; done) | decide +kernel
theorem ef_6 (m : MethodId) (x0 : Addr) : entryFrame m #[(.ref x0)] 1 = mkF m 0 #[.val (.ref x0)] [] := by first | (simp [entryFrame, mkF, argsToLocals, Value.category]; done) | rfl
-- 2. THE CONTRACT: what this body leaves is yours
def Q6 (Z : State) (a1 : Addr) (w2 : Addr) (h0 : Heap) (n0 : Nat) (v : Option Value) (h : Heap) (L : List Loc) : Prop := v = some (.ref w2) ∧ Fr n0 L ∧ h = h0
set_option maxRecDepth 65536 in
set_option maxHeartbeats 40000000 in
theorem rm6 (l : Launch) (Z : State) (a0 : Array Value) (hw : ∀ d ∈ tables_1, d.before a0 Z = true) (ws : List Jvm.Cond) (a1 : Addr) (w2 : Addr) (h0 : Heap) (n0 : Nat) (Z0 : n0 ≤ h0.size) (F_value_a1 : Fld Z h0 a1 "com/example/tallykey/tallykey/io/RadiusPacket$Attribute" "value" "[B" (.ref w2)) :
    MetFree l (⟨"com/example/tallykey/tallykey/io/RadiusPacket$Attribute", "value", "()[B"⟩ : MethodName) (head1 (Jvm.Cond.code (⟨"com/example/tallykey/tallykey/io/RadiusPacket$Attribute", "value", "()[B"⟩ : MethodName) prog_7_method_8_code 1 (some (.array .byte)) :: ws) ({ frames := 0, cells := 0, slots := 0, locals := 0 } : Room)) (fun a U => a = #[(.ref a1)] ∧ Z.Warmed39 U.vm ∧ U.heap = h0) (fun _ _ _ _ _ => True) (fun _ U o U' => ∃ v L, o = .returned v ∧ Q6 Z a1 w2 h0 n0 v U'.heap L ∧ FrameEnd U o U' L ({ frames := 0, cells := 0, slots := 0, locals := 0 } : Room).cells ({ frames := 0, cells := 0, slots := 0, locals := 0 } : Room).slots) := by
  refine MetFree.of_bodySF (plainFor_of_name pn_6) hisR ?_
  intro p e s m args below meth c s₁ Bd hml0 hP hK
  obtain ⟨rfl, hZ, hh⟩ := hP
  have hx := Bd.exec
  have hby := Bd.bytes
  have hml : c.maxLocals = 1 := hml0
  have hown : s.vm.findClass "com/example/tallykey/tallykey/io/RadiusPacket$Attribute" = some m.cls := findClass_of_methodNamed Bd.named
  have hnm := (name_of_methodNamed Bd.named Bd.method).1
  have X0 : Stand p l e ({ frames := 0, cells := 0, slots := 0, locals := 0 } : Room) s m #[(.ref a1)] below meth c s₁ [] 0 0 := Stand.of_body Bd
  have e0 : s₁.heap = h0 := by rw [← hh, Bd.state]; rfl
  have N0 := Fr.nil n0
  have pre0 : ∀ t, Steps p.tables e below (s₁.setTop (mkF m 0 #[.val (.ref a1)] [])) t → Steps p.tables e below (s₁.setTop (entryFrame m #[(.ref a1)] 1)) t := fun t k => castTop (ef_6 m a1) k
  obtain ⟨T3, X3, e3, st3⟩ := getF X0 hx hZ hown (host := "") (Or.inl (ww hw 20 rfl)) Via.refl e0 F_value_a1 (g := (mkF m 1 #[.val (.ref a1)] [(.ref a1)])) rfl rfl (hb hby d6_1)
  obtain ⟨fs, hr, hrun, hended, hW, hsame⟩ := X3.leave (v := some (.ref w2)) (fun h => by rw [Bd.returns] at h; cases h)
  refine ⟨_, _, pre0 _ ?_, hrun, hended, _, _, rfl, ?_, ⟨_, rfl⟩, hW, hsame.mono (by decide) (by decide)⟩
  · show Steps _ _ _ (s₁.setTop (mkF m 0 #[.val (.ref a1)] [])) _
    refine XS.aloadN X0.here hx rfl (hb hby d6_0) rfl rfl ?_
    show Steps _ _ _ (s₁.setTop (mkF m 1 #[.val (.ref a1)] [(.ref a1)])) _
    refine st3 _ ?_
    show Steps _ _ _ (T3.setTop (mkF m 4 #[.val (.ref a1)] [(.ref w2)])) _
    jvm_step X3.here [X3.here.top, hx, (hb hby d6_4), X3.method', Bd.returns, Value.isRef, FieldType.isReference]
    first | (intro acts; rw [hr _ acts rfl rfl rfl]) | rw [hr _ _ rfl rfl rfl]
    exact Steps.refl _
  · show Q6 Z a1 w2 h0 n0 _ T3.heap _
    rw [e3]
    exact ⟨rfl, N0, rfl⟩
theorem own_msk (p1 : Int32) : (p1 &&& (255 : Int32)).toInt = p1.toInt % 2 ^ 8 := Jvm.Kit.i32_mask p1 255 (k := 8) (by decide) (by decide)
theorem own_lo (p1 : Int32) : ¬ ((p1 &&& (255 : Int32)) < (0 : Int32)) := by
  have e := own_msk p1
  rw [Int32.lt_iff_toInt_lt]
  have e4 : (0 : Int32).toInt = 0 := rfl
  omega
theorem own_hi (p1 : Int32) : ¬ ((255 : Int32) < (p1 &&& (255 : Int32))) := by
  have e := own_msk p1
  rw [Int32.lt_iff_toInt_lt]
  have e4 : (255 : Int32).toInt = 255 := rfl
  omega
theorem own_nar (y : Int32) : nar .byte (y.toInt8.toInt32) = y.toInt8.toInt32 := by simp [nar]
theorem own_byte (y : Int64) : (((nar .byte (y.toInt32.toInt8.toInt32)) &&& (255 : Int32)).toInt64).toInt = y.toInt % 256 := by
  have h1 := c_l2i y
  have h2 := (c_i2b y.toInt32).1
  rw [own_nar, c_i2l, c_mask _ 255 8 (by decide) (by decide)]
  have e : ((2 ^ 8 : Nat) : Int) = 256 := rfl
  rw [e]
  omega
theorem own_byteS (q : Int64) (k : Int32) (n : Nat) (hk : k.toBitVec.toNat % 64 = n) (h0 : 0 < n) : (((nar .byte (own_b q k)) &&& (255 : Int32)).toInt64).toInt = ((q.toInt % 18446744073709551616) / (2 ^ n : Nat)) % 256 := by
  have h := own_byte ((q.toUInt64 >>> (k &&& 0x3f).toInt64.toUInt64).toInt64)
  rw [c_lushr q k n hk h0] at h
  exact h
theorem own_ad {x y : Int64} {a b : Int} (hx : x.toInt = a) (hy : y.toInt = b) (h1 : -9223372036854775808 ≤ a + b) (h2 : a + b < 9223372036854775808) : (x + y).toInt = a + b := by
  rw [Jvm.Kit.i64_add (by rw [hx, hy]; exact h1) (by rw [hx, hy]; exact h2), hx, hy]
theorem own_mu {x y : Int64} {a b : Int} (hx : x.toInt = a) (hy : y.toInt = b) (h1 : -9223372036854775808 ≤ a * b) (h2 : a * b < 9223372036854775808) : (x * y).toInt = a * b := by
  rw [Jvm.Kit.i64_mul (by rw [hx, hy]; exact h1) (by rw [hx, hy]; exact h2), hx, hy]
theorem own_sum4 (A B C D : Int64) (a b c d : Int) (ea : A.toInt = a) (eb : B.toInt = b) (ec : C.toInt = c) (ed : D.toInt = d) (ha : 0 ≤ a ∧ a < 256) (hb : 0 ≤ b ∧ b < 256) (hc : 0 ≤ c ∧ c < 256) (hd : 0 ≤ d ∧ d < 256) :
    (A * 16777216 + B * 65536 + C * 256 + D).toInt = a * 16777216 + b * 65536 + c * 256 + d := by
  have r1 : (A * 16777216).toInt = a * 16777216 := own_mu ea rfl (by omega) (by omega)
  have r2 : (B * 65536).toInt = b * 65536 := own_mu eb rfl (by omega) (by omega)
  have r3 : (C * 256).toInt = c * 256 := own_mu ec rfl (by omega) (by omega)
  exact own_ad (own_ad (own_ad r1 r2 (by omega) (by omega)) r3 (by omega) (by omega)) ed (by omega) (by omega)
theorem own_split (Q : Int) : ((Q % 18446744073709551616) / 16777216) % 256 * 16777216 + ((Q % 18446744073709551616) / 65536) % 256 * 65536 + ((Q % 18446744073709551616) / 256) % 256 * 256 + Q % 256 = Q % 4294967296 := by
  have e0 : Q % 256 = (Q % 18446744073709551616) % 256 := by omega
  have e1 : Q % 4294967296 = (Q % 18446744073709551616) % 4294967296 := by omega
  rw [e0, e1]
  have h0 : 0 ≤ Q % 18446744073709551616 := by omega
  generalize Q % 18446744073709551616 = U at h0
  have e2 : U / 65536 = U / 256 / 256 := by omega
  have e3 : U / 16777216 = U / 256 / 256 / 256 := by omega
  rw [e2, e3]
  omega
theorem own_back (q2 : Int64) : (((((((nar .byte (own_b q2 24)) &&& (255 : Int32)).toInt64) * (16777216 : Int64)) + ((((nar .byte (own_b q2 16)) &&& (255 : Int32)).toInt64) * (65536 : Int64))) + ((((nar .byte (own_b q2 8)) &&& (255 : Int32)).toInt64) * (256 : Int64))) + (((nar .byte ((q2.toInt32).toInt8.toInt32)) &&& (255 : Int32)).toInt64)) = (q2 &&& (4294967295 : Int64)) := by
  have a := own_byteS q2 24 24 (by decide) (by decide)
  have b := own_byteS q2 16 16 (by decide) (by decide)
  have c := own_byteS q2 8 8 (by decide) (by decide)
  have d := own_byte q2
  have m := c_maskL q2 4294967295 32 (by decide) (by decide)
  have n1 : ((2 ^ 24 : Nat) : Int) = 16777216 := rfl
  have n2 : ((2 ^ 16 : Nat) : Int) = 65536 := rfl
  have n3 : ((2 ^ 8 : Nat) : Int) = 256 := rfl
  have n4 : ((2 ^ 32 : Nat) : Int) = 4294967296 := rfl
  rw [n1] at a
  rw [n2] at b
  rw [n3] at c
  rw [n4] at m
  apply Int64.toInt_inj.mp
  rw [m, own_sum4 _ _ _ _ _ _ _ _ a b c d (by omega) (by omega) (by omega) (by omega)]
  exact own_split _
theorem pn_0 : plainName "com/example/tallykey/tallykey/io/AttributeIntegerPinLaw" = true := by first | (simp [plainName, overriddenIn]; done) | decide +kernel
theorem pd_0_0 : parseMethodDescriptor "(IJ)Lcom/example/tallykey/tallykey/io/RadiusPacket$Attribute;" = some ⟨[.int, .long], some (.object "com/example/tallykey/tallykey/io/RadiusPacket$Attribute")⟩ := by decide +kernel
theorem pd_0_3 : parseMethodDescriptor "()I" = some ⟨[], some .int⟩ := by decide +kernel
theorem pd_0_4 : parseMethodDescriptor "()[B" = some ⟨[], some (.array .byte)⟩ := by decide +kernel
theorem ef_0 (m : MethodId) (x0 : Int32) (x1 : Int64) : entryFrame m #[(.int x0), (.long x1)] maxLocals = mkF m 0 #[.val (.int x0), .val (.long x1), .second, .unset, .unset, .unset, .unset, .unset, .unset, .unset, .unset, .unset, .unset, .unset, .unset, .unset] [] := by first | (simp [entryFrame, mkF, argsToLocals, Value.category, maxLocals]; done) | rfl
-- 2. THE CONTRACT: what this body leaves is yours
def Q0 (Z : State) (p1 : Int32) (q2 : Int64) (h0 : Heap) (n0 : Nat) (v : Option Value) (h : Heap) (L : List Loc) : Prop := v = some (.int (1 : Int32)) ∧ Fr n0 L
-- its room: frames: the greatest, locals: the greatest, cells 2 + .., slots 6 + ..: rm1: frames + 1; locals 0 + 3 + 11 + its room's locals; its cells and slots besides; rm5: frames + 1; locals 0 + 1 + 11 + its room's locals; its cells and slots besides; rm6: frames + 1; locals 0 + 1 + 11 + its room's locals; its cells and slots besides
set_option maxRecDepth 65536 in
set_option maxHeartbeats 40000000 in
theorem rm0 (l : Launch) (Z : State) (a0 : Array Value) (hw : ∀ d ∈ tables_1, d.before a0 Z = true) (ws : List Jvm.Cond) (p1 : Int32) (q2 : Int64) (h0 : Heap) (n0 : Nat) (Z0 : n0 ≤ h0.size) (hc117 : (lcmpW (((((((nar .byte (own_b q2 24)) &&& (255 : Int32)).toInt64) * (16777216 : Int64)) + ((((nar .byte (own_b q2 16)) &&& (255 : Int32)).toInt64) * (65536 : Int64))) + ((((nar .byte (own_b q2 8)) &&& (255 : Int32)).toInt64) * (256 : Int64))) + (((nar .byte ((q2.toInt32).toInt8.toInt32)) &&& (255 : Int32)).toInt64)) (q2 &&& (4294967295 : Int64))) = (0 : Int32)) :
    MetFree l x (head1 (Jvm.Cond.code x code maxLocals ret :: ws) room_1) (fun a U => a = #[(.int p1), (.long q2)] ∧ Z.Warmed39 U.vm ∧ U.heap = h0) (fun _ _ _ _ _ => True) (fun _ U o U' => ∃ v L, o = .returned v ∧ Q0 Z p1 q2 h0 n0 v U'.heap L ∧ FrameEnd U o U' L room_1.cells room_1.slots) := by
  refine MetFree.of_bodySF (plainFor_of_name pn_0) hisR ?_
  intro p e s m args below meth c s₁ Bd hml0 hP hK
  obtain ⟨rfl, hZ, hh⟩ := hP
  have hx := Bd.exec
  have hby := Bd.bytes
  have hml : c.maxLocals = 16 := hml0
  have hown : s.vm.findClass "com/example/tallykey/tallykey/io/AttributeIntegerPinLaw" = some m.cls := findClass_of_methodNamed Bd.named
  have hnm := (name_of_methodNamed Bd.named Bd.method).1
  have X0 : Stand p l e room_1 s m #[(.int p1), (.long q2)] below meth c s₁ [] 0 0 := Stand.of_body Bd
  have e0 : s₁.heap = h0 := by rw [← hh, Bd.state]; rfl
  have N0 := Fr.nil n0
  have pre0 : ∀ t, Steps p.tables e below (s₁.setTop (mkF m 0 #[.val (.int p1), .val (.long q2), .second, .unset, .unset, .unset, .unset, .unset, .unset, .unset, .unset, .unset, .unset, .unset, .unset, .unset] [])) t → Steps p.tables e below (s₁.setTop (entryFrame m #[(.int p1), (.long q2)] maxLocals)) t := fun t k => castTop (ef_0 m p1 q2) k
  obtain ⟨_, _, ⟨T3, L3, k3, n3⟩, -, X3, ⟨Lc3, hQ3, l3, y3, z3⟩, st3⟩ := Jvm.LawKit.callS X0 hx (y := (⟨"com/example/tallykey/tallykey/io/RadiusPacket$Attribute", "integer", "(IJ)Lcom/example/tallykey/tallykey/io/RadiusPacket$Attribute;"⟩ : MethodName)) hown (mvT hZ (ww hw 0 rfl)) (mvT hZ (ww hw 1 rfl)) (mvT hZ (ww hw 2 rfl)) (mvT hZ (ww hw 3 rfl)) (by decide) (backOf (W := 0) (rm1 l Z a0 hw [] (p1 &&& (255 : Int32)) q2  h0 n0 Z0 (own_lo p1) (own_hi p1)) hZ (ww hw 3 rfl) (ww hw 2 rfl) (by decide) (by decide)) (g := (mkF m 8 #[.val (.int p1), .val (.long q2), .second, .val (.int (p1 &&& (255 : Int32))), .unset, .unset, .unset, .unset, .unset, .unset, .unset, .unset, .unset, .unset, .unset, .unset] [(.long q2), (.int (p1 &&& (255 : Int32)))])) rfl (by rw [hml]; rfl) (argsL := [(.int (p1 &&& (255 : Int32))), (.long q2)]) (rest := []) (lenOf pd_0_0 rfl) rfl (by show 2 * 0 + _ ≤ _; exact Nat.le_of_eq rfl) (hb hby at_8) (fun _ _ => ⟨rfl, e0, (by decide : 0 + 2 ≤ _), (by decide : 0 + 6 ≤ _)⟩)
  dsimp only [Pt.U, Pt.locs, Pt.cells, Pt.slots] at X3 l3 y3 z3 st3 hQ3
  subst l3 y3 z3
  obtain ⟨r3, d3, kd3, rfl, N3q, Kc3, hb3, hd3, Ec3, Ft3, Fv3, V3⟩ := hQ3
  have N3 := Fr.app N0 N3q
  have g_r3 : n0 ≤ r3 := Nat.le_trans Z0 hb3
  have sz_r3 : h0.size ≤ r3 := Nat.le_trans (Keep.refl h0 []).1 hb3
  have g_d3 : n0 ≤ d3 := Nat.le_trans Z0 hd3
  have sz_d3 : h0.size ≤ d3 := Nat.le_trans (Keep.refl h0 []).1 hd3
  have K3 : Keep h0 T3.heap [] := (Keep.refl h0 []).trans Kc3 all0
  obtain ⟨cq4, kq4, q4a, q4b, q4c⟩ := isOf hZ rfl Ec3
  obtain ⟨_, _, ⟨T4, L4, k4, n4⟩, -, X4, ⟨Lc4, hQ4, l4, y4, z4⟩, st4⟩ := X3.virtualBack hx (y := (⟨"com/example/tallykey/tallykey/io/RadiusPacket$Attribute", "type", "()I"⟩ : MethodName)) (z := (⟨"com/example/tallykey/tallykey/io/RadiusPacket$Attribute", "type", "()I"⟩ : MethodName)) hown (mvT hZ (ww hw 22 rfl)) (mvT hZ (ww hw 23 rfl)) (notFace_of_selects (args := #[]) (mvT hZ (ww hw 25 rfl))) (mvT hZ (ww hw 25 rfl)) (mvT hZ (ww hw 24 rfl)) (by decide) (backOf (W := 0) (rm5 l Z a0 hw [] r3 _ T3.heap n0 (Nat.le_trans Z0 Kc3.1) Ft3) hZ (ww hw 26 rfl) (ww hw 2 rfl) (by decide) (by decide)) q4a q4c (g := (mkF m 15 #[.val (.int p1), .val (.long q2), .second, .val (.int (p1 &&& (255 : Int32))), .val (.ref r3), .unset, .unset, .unset, .unset, .unset, .unset, .unset, .unset, .unset, .unset, .unset] [(.ref r3)])) rfl (by rw [hml]; rfl) (Steps.refl _) (argsL := []) (rest := []) (lenOf pd_0_3 rfl) rfl (by show 2 * 0 + _ ≤ _; exact Nat.le_of_eq rfl) (hb hby at_15) (fun _ _ => ⟨rfl, rfl, (by decide : 2 + 0 ≤ _), (by decide : 6 + 0 ≤ _)⟩)
  dsimp only [Pt.U, Pt.locs, Pt.cells, Pt.slots] at X4 l4 y4 z4 st4 hQ4
  subst l4 y4 z4
  obtain ⟨rfl, N4q, eh4⟩ := hQ4
  have N4 := Fr.app N3 N4q
  obtain ⟨cq5, kq5, q5a, q5b, q5c⟩ := isOf hZ eh4 Ec3
  obtain ⟨_, _, ⟨T5, L5, k5, n5⟩, -, X5, ⟨Lc5, hQ5, l5, y5, z5⟩, st5⟩ := X4.virtualBack hx (y := (⟨"com/example/tallykey/tallykey/io/RadiusPacket$Attribute", "value", "()[B"⟩ : MethodName)) (z := (⟨"com/example/tallykey/tallykey/io/RadiusPacket$Attribute", "value", "()[B"⟩ : MethodName)) hown (mvT hZ (ww hw 27 rfl)) (mvT hZ (ww hw 28 rfl)) (notFace_of_selects (args := #[]) (mvT hZ (ww hw 30 rfl))) (mvT hZ (ww hw 30 rfl)) (mvT hZ (ww hw 29 rfl)) (by decide) (backOf (W := 0) (rm6 l Z a0 hw [] r3 _ T3.heap n0 (Nat.le_trans Z0 Kc3.1) Fv3) hZ (ww hw 31 rfl) (ww hw 2 rfl) (by decide) (by decide)) q5a q5c (g := (mkF m 26 #[.val (.int p1), .val (.long q2), .second, .val (.int (p1 &&& (255 : Int32))), .val (.ref r3), .unset, .unset, .unset, .unset, .unset, .unset, .unset, .unset, .unset, .unset, .unset] [(.ref r3)])) rfl (by rw [hml]; rfl) (Steps.refl _) (argsL := []) (rest := []) (lenOf pd_0_4 rfl) rfl (by show 2 * 0 + _ ≤ _; exact Nat.le_of_eq rfl) (hb hby at_26) (fun _ _ => ⟨rfl, eh4, (by decide : 2 + 0 ≤ _), (by decide : 6 + 0 ≤ _)⟩)
  dsimp only [Pt.U, Pt.locs, Pt.cells, Pt.slots] at X5 l5 y5 z5 st5 hQ5
  subst l5 y5 z5
  obtain ⟨rfl, N5q, eh5⟩ := hQ5
  have N5 := Fr.app N4 N5q
  obtain ⟨cl_d3_33, Ar_d3, -, S_d3, N_d3, -, -⟩ := id (V3)
  obtain ⟨cl_d3_43, Ar_d3_43, -, S_d3_43, N_d3_43, H_d3_43, -⟩ := id (V3)
  have hin43 : ¬ ((0 : Int32) < 0 ∨ cl_d3_43.slots.size ≤ ((0 : Int32)).toNatClampNeg) := inb_of S_d3_43 ⟨by decide, by decide⟩
  have hat43 := H_d3_43.at hin43 (v := (.int (nar .byte (own_b q2 24)))) rfl
  obtain ⟨cl_d3_54, Ar_d3_54, -, S_d3_54, N_d3_54, H_d3_54, -⟩ := id (V3)
  have hin54 : ¬ ((1 : Int32) < 0 ∨ cl_d3_54.slots.size ≤ ((1 : Int32)).toNatClampNeg) := inb_of S_d3_54 ⟨by decide, by decide⟩
  have hat54 := H_d3_54.at hin54 (v := (.int (nar .byte (own_b q2 16)))) rfl
  obtain ⟨cl_d3_65, Ar_d3_65, -, S_d3_65, N_d3_65, H_d3_65, -⟩ := id (V3)
  have hin65 : ¬ ((2 : Int32) < 0 ∨ cl_d3_65.slots.size ≤ ((2 : Int32)).toNatClampNeg) := inb_of S_d3_65 ⟨by decide, by decide⟩
  have hat65 := H_d3_65.at hin65 (v := (.int (nar .byte (own_b q2 8)))) rfl
  obtain ⟨cl_d3_76, Ar_d3_76, -, S_d3_76, N_d3_76, H_d3_76, -⟩ := id (V3)
  have hin76 : ¬ ((3 : Int32) < 0 ∨ cl_d3_76.slots.size ≤ ((3 : Int32)).toNatClampNeg) := inb_of S_d3_76 ⟨by decide, by decide⟩
  have hat76 := H_d3_76.at hin76 (v := (.int (nar .byte ((q2.toInt32).toInt8.toInt32)))) rfl
  obtain ⟨fs, hr, hrun, hended, hW, hsame⟩ := X5.leave (v := some (.int (1 : Int32))) (fun h => by rw [Bd.returns] at h; cases h)
  refine ⟨_, _, pre0 _ ?_, hrun, hended, _, _, rfl, ?_, ⟨_, rfl⟩, hW, hsame.mono (by decide) (by decide)⟩
  · show Steps _ _ _ (s₁.setTop (mkF m 0 #[.val (.int p1), .val (.long q2), .second, .unset, .unset, .unset, .unset, .unset, .unset, .unset, .unset, .unset, .unset, .unset, .unset, .unset] [])) _
    refine XS.iloadN X0.here hx rfl (hb hby at_0) rfl ?_
    show Steps _ _ _ (s₁.setTop (mkF m 1 #[.val (.int p1), .val (.long q2), .second, .unset, .unset, .unset, .unset, .unset, .unset, .unset, .unset, .unset, .unset, .unset, .unset, .unset] [(.int p1)])) _
    refine XS.sipush X0.here hx rfl (hb hby at_1) ?_
    show Steps _ _ _ (s₁.setTop (mkF m 4 #[.val (.int p1), .val (.long q2), .second, .unset, .unset, .unset, .unset, .unset, .unset, .unset, .unset, .unset, .unset, .unset, .unset, .unset] [(.int (255 : Int32)), (.int p1)])) _
    refine XS.iand X0.here hx rfl (hb hby at_4) rfl ?_
    show Steps _ _ _ (s₁.setTop (mkF m 5 #[.val (.int p1), .val (.long q2), .second, .unset, .unset, .unset, .unset, .unset, .unset, .unset, .unset, .unset, .unset, .unset, .unset, .unset] [(.int (p1 &&& (255 : Int32)))])) _
    refine XS.istoreN X0.here hx rfl (hb hby at_5) rfl (l' := #[.val (.int p1), .val (.long q2), .second, .val (.int (p1 &&& (255 : Int32))), .unset, .unset, .unset, .unset, .unset, .unset, .unset, .unset, .unset, .unset, .unset, .unset]) rfl ?_
    show Steps _ _ _ (s₁.setTop (mkF m 6 #[.val (.int p1), .val (.long q2), .second, .val (.int (p1 &&& (255 : Int32))), .unset, .unset, .unset, .unset, .unset, .unset, .unset, .unset, .unset, .unset, .unset, .unset] [])) _
    refine XS.iloadN X0.here hx rfl (hb hby at_6) rfl ?_
    show Steps _ _ _ (s₁.setTop (mkF m 7 #[.val (.int p1), .val (.long q2), .second, .val (.int (p1 &&& (255 : Int32))), .unset, .unset, .unset, .unset, .unset, .unset, .unset, .unset, .unset, .unset, .unset, .unset] [(.int (p1 &&& (255 : Int32)))])) _
    refine XS.lloadN X0.here hx rfl (hb hby at_7) rfl ?_
    show Steps _ _ _ (s₁.setTop (mkF m 8 #[.val (.int p1), .val (.long q2), .second, .val (.int (p1 &&& (255 : Int32))), .unset, .unset, .unset, .unset, .unset, .unset, .unset, .unset, .unset, .unset, .unset, .unset] [(.long q2), (.int (p1 &&& (255 : Int32)))])) _
    refine st3 _ ?_
    show Steps _ _ _ (T3.setTop (mkF m 11 #[.val (.int p1), .val (.long q2), .second, .val (.int (p1 &&& (255 : Int32))), .unset, .unset, .unset, .unset, .unset, .unset, .unset, .unset, .unset, .unset, .unset, .unset] [(.ref r3)])) _
    refine XS.astore X3.here hx rfl (hb hby at_11) rfl rfl (l' := #[.val (.int p1), .val (.long q2), .second, .val (.int (p1 &&& (255 : Int32))), .val (.ref r3), .unset, .unset, .unset, .unset, .unset, .unset, .unset, .unset, .unset, .unset, .unset]) rfl ?_
    show Steps _ _ _ (T3.setTop (mkF m 13 #[.val (.int p1), .val (.long q2), .second, .val (.int (p1 &&& (255 : Int32))), .val (.ref r3), .unset, .unset, .unset, .unset, .unset, .unset, .unset, .unset, .unset, .unset, .unset] [])) _
    refine XS.aload X3.here hx rfl (hb hby at_13) rfl rfl ?_
    show Steps _ _ _ (T3.setTop (mkF m 15 #[.val (.int p1), .val (.long q2), .second, .val (.int (p1 &&& (255 : Int32))), .val (.ref r3), .unset, .unset, .unset, .unset, .unset, .unset, .unset, .unset, .unset, .unset, .unset] [(.ref r3)])) _
    refine st4.trans ?_
    show Steps _ _ _ (T4.setTop (mkF m 18 #[.val (.int p1), .val (.long q2), .second, .val (.int (p1 &&& (255 : Int32))), .val (.ref r3), .unset, .unset, .unset, .unset, .unset, .unset, .unset, .unset, .unset, .unset, .unset] [(.int (p1 &&& (255 : Int32)))])) _
    refine XS.iloadN X4.here hx rfl (hb hby at_18) rfl ?_
    show Steps _ _ _ (T4.setTop (mkF m 19 #[.val (.int p1), .val (.long q2), .second, .val (.int (p1 &&& (255 : Int32))), .val (.ref r3), .unset, .unset, .unset, .unset, .unset, .unset, .unset, .unset, .unset, .unset, .unset] [(.int (p1 &&& (255 : Int32))), (.int (p1 &&& (255 : Int32)))])) _
    refine XS.icmpYes X4.here hx rfl (pc0 := 19) (pc' := 24) rfl (hb hby at_19) rfl (teq (rfl : (p1 &&& (255 : Int32)) = (p1 &&& (255 : Int32)))).1 (by decide) (by decide) ?_
    show Steps _ _ _ (T4.setTop (mkF m 24 #[.val (.int p1), .val (.long q2), .second, .val (.int (p1 &&& (255 : Int32))), .val (.ref r3), .unset, .unset, .unset, .unset, .unset, .unset, .unset, .unset, .unset, .unset, .unset] [])) _
    refine XS.aload X4.here hx rfl (hb hby at_24) rfl rfl ?_
    show Steps _ _ _ (T4.setTop (mkF m 26 #[.val (.int p1), .val (.long q2), .second, .val (.int (p1 &&& (255 : Int32))), .val (.ref r3), .unset, .unset, .unset, .unset, .unset, .unset, .unset, .unset, .unset, .unset, .unset] [(.ref r3)])) _
    refine st5.trans ?_
    show Steps _ _ _ (T5.setTop (mkF m 29 #[.val (.int p1), .val (.long q2), .second, .val (.int (p1 &&& (255 : Int32))), .val (.ref r3), .unset, .unset, .unset, .unset, .unset, .unset, .unset, .unset, .unset, .unset, .unset] [(.ref d3)])) _
    refine XS.astore X5.here hx rfl (hb hby at_29) rfl rfl (l' := #[.val (.int p1), .val (.long q2), .second, .val (.int (p1 &&& (255 : Int32))), .val (.ref r3), .val (.ref d3), .unset, .unset, .unset, .unset, .unset, .unset, .unset, .unset, .unset, .unset]) rfl ?_
    show Steps _ _ _ (T5.setTop (mkF m 31 #[.val (.int p1), .val (.long q2), .second, .val (.int (p1 &&& (255 : Int32))), .val (.ref r3), .val (.ref d3), .unset, .unset, .unset, .unset, .unset, .unset, .unset, .unset, .unset, .unset] [])) _
    refine XS.aload X5.here hx rfl (hb hby at_31) rfl rfl ?_
    show Steps _ _ _ (T5.setTop (mkF m 33 #[.val (.int p1), .val (.long q2), .second, .val (.int (p1 &&& (255 : Int32))), .val (.ref r3), .val (.ref d3), .unset, .unset, .unset, .unset, .unset, .unset, .unset, .unset, .unset, .unset] [(.ref d3)])) _
    refine X5.arraylength hx (by rw [eh5]; exact Ar_d3.1) (State.isArrayOf_alike hZ.alike Ar_d3.2.1) (g := (mkF m 33 #[.val (.int p1), .val (.long q2), .second, .val (.int (p1 &&& (255 : Int32))), .val (.ref r3), .val (.ref d3), .unset, .unset, .unset, .unset, .unset, .unset, .unset, .unset, .unset, .unset] [(.ref d3)])) rfl rfl (hb hby at_33) _ ?_
    rw [len_of S_d3 N_d3]
    show Steps _ _ _ (T5.setTop (mkF m 34 #[.val (.int p1), .val (.long q2), .second, .val (.int (p1 &&& (255 : Int32))), .val (.ref r3), .val (.ref d3), .unset, .unset, .unset, .unset, .unset, .unset, .unset, .unset, .unset, .unset] [(.int (4 : Int32))])) _
    refine XS.iconst X5.here hx rfl (hb hby at_34) ?_
    show Steps _ _ _ (T5.setTop (mkF m 35 #[.val (.int p1), .val (.long q2), .second, .val (.int (p1 &&& (255 : Int32))), .val (.ref r3), .val (.ref d3), .unset, .unset, .unset, .unset, .unset, .unset, .unset, .unset, .unset, .unset] [(.int (4 : Int32)), (.int (4 : Int32))])) _
    refine XS.icmpYes X5.here hx rfl (pc0 := 35) (pc' := 40) rfl (hb hby at_35) rfl (teq (rfl : (4 : Int32) = (4 : Int32))).1 (by decide) (by decide) ?_
    show Steps _ _ _ (T5.setTop (mkF m 40 #[.val (.int p1), .val (.long q2), .second, .val (.int (p1 &&& (255 : Int32))), .val (.ref r3), .val (.ref d3), .unset, .unset, .unset, .unset, .unset, .unset, .unset, .unset, .unset, .unset] [])) _
    refine XS.aload X5.here hx rfl (hb hby at_40) rfl rfl ?_
    show Steps _ _ _ (T5.setTop (mkF m 42 #[.val (.int p1), .val (.long q2), .second, .val (.int (p1 &&& (255 : Int32))), .val (.ref r3), .val (.ref d3), .unset, .unset, .unset, .unset, .unset, .unset, .unset, .unset, .unset, .unset] [(.ref d3)])) _
    refine XS.iconst X5.here hx rfl (hb hby at_42) ?_
    show Steps _ _ _ (T5.setTop (mkF m 43 #[.val (.int p1), .val (.long q2), .second, .val (.int (p1 &&& (255 : Int32))), .val (.ref r3), .val (.ref d3), .unset, .unset, .unset, .unset, .unset, .unset, .unset, .unset, .unset, .unset] [(.int (0 : Int32)), (.ref d3)])) _
    refine X5.baloadBytes hx (j := (0 : Int32)) (v := (.int (nar .byte (own_b q2 24)))) (by rw [eh5]; exact Ar_d3_43.1) (State.isArrayOf_alike hZ.alike Ar_d3_43.2.1) Ar_d3_43.2.2 hin43 hat43 (g := (mkF m 43 #[.val (.int p1), .val (.long q2), .second, .val (.int (p1 &&& (255 : Int32))), .val (.ref r3), .val (.ref d3), .unset, .unset, .unset, .unset, .unset, .unset, .unset, .unset, .unset, .unset] [(.int (0 : Int32)), (.ref d3)])) rfl rfl (hb hby at_43) _ ?_
    show Steps _ _ _ (T5.setTop (mkF m 44 #[.val (.int p1), .val (.long q2), .second, .val (.int (p1 &&& (255 : Int32))), .val (.ref r3), .val (.ref d3), .unset, .unset, .unset, .unset, .unset, .unset, .unset, .unset, .unset, .unset] [(.int (nar .byte (own_b q2 24)))])) _
    refine XS.sipush X5.here hx rfl (hb hby at_44) ?_
    show Steps _ _ _ (T5.setTop (mkF m 47 #[.val (.int p1), .val (.long q2), .second, .val (.int (p1 &&& (255 : Int32))), .val (.ref r3), .val (.ref d3), .unset, .unset, .unset, .unset, .unset, .unset, .unset, .unset, .unset, .unset] [(.int (255 : Int32)), (.int (nar .byte (own_b q2 24)))])) _
    refine XS.iand X5.here hx rfl (hb hby at_47) rfl ?_
    show Steps _ _ _ (T5.setTop (mkF m 48 #[.val (.int p1), .val (.long q2), .second, .val (.int (p1 &&& (255 : Int32))), .val (.ref r3), .val (.ref d3), .unset, .unset, .unset, .unset, .unset, .unset, .unset, .unset, .unset, .unset] [(.int ((nar .byte (own_b q2 24)) &&& (255 : Int32)))])) _
    refine XS.i2l X5.here hx rfl (hb hby at_48) rfl ?_
    show Steps _ _ _ (T5.setTop (mkF m 49 #[.val (.int p1), .val (.long q2), .second, .val (.int (p1 &&& (255 : Int32))), .val (.ref r3), .val (.ref d3), .unset, .unset, .unset, .unset, .unset, .unset, .unset, .unset, .unset, .unset] [(.long (((nar .byte (own_b q2 24)) &&& (255 : Int32)).toInt64))])) _
    refine XS.lstore X5.here hx rfl (hb hby at_49) rfl (l' := #[.val (.int p1), .val (.long q2), .second, .val (.int (p1 &&& (255 : Int32))), .val (.ref r3), .val (.ref d3), .val (.long (((nar .byte (own_b q2 24)) &&& (255 : Int32)).toInt64)), .second, .unset, .unset, .unset, .unset, .unset, .unset, .unset, .unset]) rfl ?_
    show Steps _ _ _ (T5.setTop (mkF m 51 #[.val (.int p1), .val (.long q2), .second, .val (.int (p1 &&& (255 : Int32))), .val (.ref r3), .val (.ref d3), .val (.long (((nar .byte (own_b q2 24)) &&& (255 : Int32)).toInt64)), .second, .unset, .unset, .unset, .unset, .unset, .unset, .unset, .unset] [])) _
    refine XS.aload X5.here hx rfl (hb hby at_51) rfl rfl ?_
    show Steps _ _ _ (T5.setTop (mkF m 53 #[.val (.int p1), .val (.long q2), .second, .val (.int (p1 &&& (255 : Int32))), .val (.ref r3), .val (.ref d3), .val (.long (((nar .byte (own_b q2 24)) &&& (255 : Int32)).toInt64)), .second, .unset, .unset, .unset, .unset, .unset, .unset, .unset, .unset] [(.ref d3)])) _
    refine XS.iconst X5.here hx rfl (hb hby at_53) ?_
    show Steps _ _ _ (T5.setTop (mkF m 54 #[.val (.int p1), .val (.long q2), .second, .val (.int (p1 &&& (255 : Int32))), .val (.ref r3), .val (.ref d3), .val (.long (((nar .byte (own_b q2 24)) &&& (255 : Int32)).toInt64)), .second, .unset, .unset, .unset, .unset, .unset, .unset, .unset, .unset] [(.int (1 : Int32)), (.ref d3)])) _
    refine X5.baloadBytes hx (j := (1 : Int32)) (v := (.int (nar .byte (own_b q2 16)))) (by rw [eh5]; exact Ar_d3_54.1) (State.isArrayOf_alike hZ.alike Ar_d3_54.2.1) Ar_d3_54.2.2 hin54 hat54 (g := (mkF m 54 #[.val (.int p1), .val (.long q2), .second, .val (.int (p1 &&& (255 : Int32))), .val (.ref r3), .val (.ref d3), .val (.long (((nar .byte (own_b q2 24)) &&& (255 : Int32)).toInt64)), .second, .unset, .unset, .unset, .unset, .unset, .unset, .unset, .unset] [(.int (1 : Int32)), (.ref d3)])) rfl rfl (hb hby at_54) _ ?_
    show Steps _ _ _ (T5.setTop (mkF m 55 #[.val (.int p1), .val (.long q2), .second, .val (.int (p1 &&& (255 : Int32))), .val (.ref r3), .val (.ref d3), .val (.long (((nar .byte (own_b q2 24)) &&& (255 : Int32)).toInt64)), .second, .unset, .unset, .unset, .unset, .unset, .unset, .unset, .unset] [(.int (nar .byte (own_b q2 16)))])) _
    refine XS.sipush X5.here hx rfl (hb hby at_55) ?_
    show Steps _ _ _ (T5.setTop (mkF m 58 #[.val (.int p1), .val (.long q2), .second, .val (.int (p1 &&& (255 : Int32))), .val (.ref r3), .val (.ref d3), .val (.long (((nar .byte (own_b q2 24)) &&& (255 : Int32)).toInt64)), .second, .unset, .unset, .unset, .unset, .unset, .unset, .unset, .unset] [(.int (255 : Int32)), (.int (nar .byte (own_b q2 16)))])) _
    refine XS.iand X5.here hx rfl (hb hby at_58) rfl ?_
    show Steps _ _ _ (T5.setTop (mkF m 59 #[.val (.int p1), .val (.long q2), .second, .val (.int (p1 &&& (255 : Int32))), .val (.ref r3), .val (.ref d3), .val (.long (((nar .byte (own_b q2 24)) &&& (255 : Int32)).toInt64)), .second, .unset, .unset, .unset, .unset, .unset, .unset, .unset, .unset] [(.int ((nar .byte (own_b q2 16)) &&& (255 : Int32)))])) _
    refine XS.i2l X5.here hx rfl (hb hby at_59) rfl ?_
    show Steps _ _ _ (T5.setTop (mkF m 60 #[.val (.int p1), .val (.long q2), .second, .val (.int (p1 &&& (255 : Int32))), .val (.ref r3), .val (.ref d3), .val (.long (((nar .byte (own_b q2 24)) &&& (255 : Int32)).toInt64)), .second, .unset, .unset, .unset, .unset, .unset, .unset, .unset, .unset] [(.long (((nar .byte (own_b q2 16)) &&& (255 : Int32)).toInt64))])) _
    refine XS.lstore X5.here hx rfl (hb hby at_60) rfl (l' := #[.val (.int p1), .val (.long q2), .second, .val (.int (p1 &&& (255 : Int32))), .val (.ref r3), .val (.ref d3), .val (.long (((nar .byte (own_b q2 24)) &&& (255 : Int32)).toInt64)), .second, .val (.long (((nar .byte (own_b q2 16)) &&& (255 : Int32)).toInt64)), .second, .unset, .unset, .unset, .unset, .unset, .unset]) rfl ?_
    show Steps _ _ _ (T5.setTop (mkF m 62 #[.val (.int p1), .val (.long q2), .second, .val (.int (p1 &&& (255 : Int32))), .val (.ref r3), .val (.ref d3), .val (.long (((nar .byte (own_b q2 24)) &&& (255 : Int32)).toInt64)), .second, .val (.long (((nar .byte (own_b q2 16)) &&& (255 : Int32)).toInt64)), .second, .unset, .unset, .unset, .unset, .unset, .unset] [])) _
    refine XS.aload X5.here hx rfl (hb hby at_62) rfl rfl ?_
    show Steps _ _ _ (T5.setTop (mkF m 64 #[.val (.int p1), .val (.long q2), .second, .val (.int (p1 &&& (255 : Int32))), .val (.ref r3), .val (.ref d3), .val (.long (((nar .byte (own_b q2 24)) &&& (255 : Int32)).toInt64)), .second, .val (.long (((nar .byte (own_b q2 16)) &&& (255 : Int32)).toInt64)), .second, .unset, .unset, .unset, .unset, .unset, .unset] [(.ref d3)])) _
    refine XS.iconst X5.here hx rfl (hb hby at_64) ?_
    show Steps _ _ _ (T5.setTop (mkF m 65 #[.val (.int p1), .val (.long q2), .second, .val (.int (p1 &&& (255 : Int32))), .val (.ref r3), .val (.ref d3), .val (.long (((nar .byte (own_b q2 24)) &&& (255 : Int32)).toInt64)), .second, .val (.long (((nar .byte (own_b q2 16)) &&& (255 : Int32)).toInt64)), .second, .unset, .unset, .unset, .unset, .unset, .unset] [(.int (2 : Int32)), (.ref d3)])) _
    refine X5.baloadBytes hx (j := (2 : Int32)) (v := (.int (nar .byte (own_b q2 8)))) (by rw [eh5]; exact Ar_d3_65.1) (State.isArrayOf_alike hZ.alike Ar_d3_65.2.1) Ar_d3_65.2.2 hin65 hat65 (g := (mkF m 65 #[.val (.int p1), .val (.long q2), .second, .val (.int (p1 &&& (255 : Int32))), .val (.ref r3), .val (.ref d3), .val (.long (((nar .byte (own_b q2 24)) &&& (255 : Int32)).toInt64)), .second, .val (.long (((nar .byte (own_b q2 16)) &&& (255 : Int32)).toInt64)), .second, .unset, .unset, .unset, .unset, .unset, .unset] [(.int (2 : Int32)), (.ref d3)])) rfl rfl (hb hby at_65) _ ?_
    show Steps _ _ _ (T5.setTop (mkF m 66 #[.val (.int p1), .val (.long q2), .second, .val (.int (p1 &&& (255 : Int32))), .val (.ref r3), .val (.ref d3), .val (.long (((nar .byte (own_b q2 24)) &&& (255 : Int32)).toInt64)), .second, .val (.long (((nar .byte (own_b q2 16)) &&& (255 : Int32)).toInt64)), .second, .unset, .unset, .unset, .unset, .unset, .unset] [(.int (nar .byte (own_b q2 8)))])) _
    refine XS.sipush X5.here hx rfl (hb hby at_66) ?_
    show Steps _ _ _ (T5.setTop (mkF m 69 #[.val (.int p1), .val (.long q2), .second, .val (.int (p1 &&& (255 : Int32))), .val (.ref r3), .val (.ref d3), .val (.long (((nar .byte (own_b q2 24)) &&& (255 : Int32)).toInt64)), .second, .val (.long (((nar .byte (own_b q2 16)) &&& (255 : Int32)).toInt64)), .second, .unset, .unset, .unset, .unset, .unset, .unset] [(.int (255 : Int32)), (.int (nar .byte (own_b q2 8)))])) _
    refine XS.iand X5.here hx rfl (hb hby at_69) rfl ?_
    show Steps _ _ _ (T5.setTop (mkF m 70 #[.val (.int p1), .val (.long q2), .second, .val (.int (p1 &&& (255 : Int32))), .val (.ref r3), .val (.ref d3), .val (.long (((nar .byte (own_b q2 24)) &&& (255 : Int32)).toInt64)), .second, .val (.long (((nar .byte (own_b q2 16)) &&& (255 : Int32)).toInt64)), .second, .unset, .unset, .unset, .unset, .unset, .unset] [(.int ((nar .byte (own_b q2 8)) &&& (255 : Int32)))])) _
    refine XS.i2l X5.here hx rfl (hb hby at_70) rfl ?_
    show Steps _ _ _ (T5.setTop (mkF m 71 #[.val (.int p1), .val (.long q2), .second, .val (.int (p1 &&& (255 : Int32))), .val (.ref r3), .val (.ref d3), .val (.long (((nar .byte (own_b q2 24)) &&& (255 : Int32)).toInt64)), .second, .val (.long (((nar .byte (own_b q2 16)) &&& (255 : Int32)).toInt64)), .second, .unset, .unset, .unset, .unset, .unset, .unset] [(.long (((nar .byte (own_b q2 8)) &&& (255 : Int32)).toInt64))])) _
    refine XS.lstore X5.here hx rfl (hb hby at_71) rfl (l' := #[.val (.int p1), .val (.long q2), .second, .val (.int (p1 &&& (255 : Int32))), .val (.ref r3), .val (.ref d3), .val (.long (((nar .byte (own_b q2 24)) &&& (255 : Int32)).toInt64)), .second, .val (.long (((nar .byte (own_b q2 16)) &&& (255 : Int32)).toInt64)), .second, .val (.long (((nar .byte (own_b q2 8)) &&& (255 : Int32)).toInt64)), .second, .unset, .unset, .unset, .unset]) rfl ?_
    show Steps _ _ _ (T5.setTop (mkF m 73 #[.val (.int p1), .val (.long q2), .second, .val (.int (p1 &&& (255 : Int32))), .val (.ref r3), .val (.ref d3), .val (.long (((nar .byte (own_b q2 24)) &&& (255 : Int32)).toInt64)), .second, .val (.long (((nar .byte (own_b q2 16)) &&& (255 : Int32)).toInt64)), .second, .val (.long (((nar .byte (own_b q2 8)) &&& (255 : Int32)).toInt64)), .second, .unset, .unset, .unset, .unset] [])) _
    refine XS.aload X5.here hx rfl (hb hby at_73) rfl rfl ?_
    show Steps _ _ _ (T5.setTop (mkF m 75 #[.val (.int p1), .val (.long q2), .second, .val (.int (p1 &&& (255 : Int32))), .val (.ref r3), .val (.ref d3), .val (.long (((nar .byte (own_b q2 24)) &&& (255 : Int32)).toInt64)), .second, .val (.long (((nar .byte (own_b q2 16)) &&& (255 : Int32)).toInt64)), .second, .val (.long (((nar .byte (own_b q2 8)) &&& (255 : Int32)).toInt64)), .second, .unset, .unset, .unset, .unset] [(.ref d3)])) _
    refine XS.iconst X5.here hx rfl (hb hby at_75) ?_
    show Steps _ _ _ (T5.setTop (mkF m 76 #[.val (.int p1), .val (.long q2), .second, .val (.int (p1 &&& (255 : Int32))), .val (.ref r3), .val (.ref d3), .val (.long (((nar .byte (own_b q2 24)) &&& (255 : Int32)).toInt64)), .second, .val (.long (((nar .byte (own_b q2 16)) &&& (255 : Int32)).toInt64)), .second, .val (.long (((nar .byte (own_b q2 8)) &&& (255 : Int32)).toInt64)), .second, .unset, .unset, .unset, .unset] [(.int (3 : Int32)), (.ref d3)])) _
    refine X5.baloadBytes hx (j := (3 : Int32)) (v := (.int (nar .byte ((q2.toInt32).toInt8.toInt32)))) (by rw [eh5]; exact Ar_d3_76.1) (State.isArrayOf_alike hZ.alike Ar_d3_76.2.1) Ar_d3_76.2.2 hin76 hat76 (g := (mkF m 76 #[.val (.int p1), .val (.long q2), .second, .val (.int (p1 &&& (255 : Int32))), .val (.ref r3), .val (.ref d3), .val (.long (((nar .byte (own_b q2 24)) &&& (255 : Int32)).toInt64)), .second, .val (.long (((nar .byte (own_b q2 16)) &&& (255 : Int32)).toInt64)), .second, .val (.long (((nar .byte (own_b q2 8)) &&& (255 : Int32)).toInt64)), .second, .unset, .unset, .unset, .unset] [(.int (3 : Int32)), (.ref d3)])) rfl rfl (hb hby at_76) _ ?_
    show Steps _ _ _ (T5.setTop (mkF m 77 #[.val (.int p1), .val (.long q2), .second, .val (.int (p1 &&& (255 : Int32))), .val (.ref r3), .val (.ref d3), .val (.long (((nar .byte (own_b q2 24)) &&& (255 : Int32)).toInt64)), .second, .val (.long (((nar .byte (own_b q2 16)) &&& (255 : Int32)).toInt64)), .second, .val (.long (((nar .byte (own_b q2 8)) &&& (255 : Int32)).toInt64)), .second, .unset, .unset, .unset, .unset] [(.int (nar .byte ((q2.toInt32).toInt8.toInt32)))])) _
    refine XS.sipush X5.here hx rfl (hb hby at_77) ?_
    show Steps _ _ _ (T5.setTop (mkF m 80 #[.val (.int p1), .val (.long q2), .second, .val (.int (p1 &&& (255 : Int32))), .val (.ref r3), .val (.ref d3), .val (.long (((nar .byte (own_b q2 24)) &&& (255 : Int32)).toInt64)), .second, .val (.long (((nar .byte (own_b q2 16)) &&& (255 : Int32)).toInt64)), .second, .val (.long (((nar .byte (own_b q2 8)) &&& (255 : Int32)).toInt64)), .second, .unset, .unset, .unset, .unset] [(.int (255 : Int32)), (.int (nar .byte ((q2.toInt32).toInt8.toInt32)))])) _
    refine XS.iand X5.here hx rfl (hb hby at_80) rfl ?_
    show Steps _ _ _ (T5.setTop (mkF m 81 #[.val (.int p1), .val (.long q2), .second, .val (.int (p1 &&& (255 : Int32))), .val (.ref r3), .val (.ref d3), .val (.long (((nar .byte (own_b q2 24)) &&& (255 : Int32)).toInt64)), .second, .val (.long (((nar .byte (own_b q2 16)) &&& (255 : Int32)).toInt64)), .second, .val (.long (((nar .byte (own_b q2 8)) &&& (255 : Int32)).toInt64)), .second, .unset, .unset, .unset, .unset] [(.int ((nar .byte ((q2.toInt32).toInt8.toInt32)) &&& (255 : Int32)))])) _
    refine XS.i2l X5.here hx rfl (hb hby at_81) rfl ?_
    show Steps _ _ _ (T5.setTop (mkF m 82 #[.val (.int p1), .val (.long q2), .second, .val (.int (p1 &&& (255 : Int32))), .val (.ref r3), .val (.ref d3), .val (.long (((nar .byte (own_b q2 24)) &&& (255 : Int32)).toInt64)), .second, .val (.long (((nar .byte (own_b q2 16)) &&& (255 : Int32)).toInt64)), .second, .val (.long (((nar .byte (own_b q2 8)) &&& (255 : Int32)).toInt64)), .second, .unset, .unset, .unset, .unset] [(.long (((nar .byte ((q2.toInt32).toInt8.toInt32)) &&& (255 : Int32)).toInt64))])) _
    refine XS.lstore X5.here hx rfl (hb hby at_82) rfl (l' := #[.val (.int p1), .val (.long q2), .second, .val (.int (p1 &&& (255 : Int32))), .val (.ref r3), .val (.ref d3), .val (.long (((nar .byte (own_b q2 24)) &&& (255 : Int32)).toInt64)), .second, .val (.long (((nar .byte (own_b q2 16)) &&& (255 : Int32)).toInt64)), .second, .val (.long (((nar .byte (own_b q2 8)) &&& (255 : Int32)).toInt64)), .second, .val (.long (((nar .byte ((q2.toInt32).toInt8.toInt32)) &&& (255 : Int32)).toInt64)), .second, .unset, .unset]) rfl ?_
    show Steps _ _ _ (T5.setTop (mkF m 84 #[.val (.int p1), .val (.long q2), .second, .val (.int (p1 &&& (255 : Int32))), .val (.ref r3), .val (.ref d3), .val (.long (((nar .byte (own_b q2 24)) &&& (255 : Int32)).toInt64)), .second, .val (.long (((nar .byte (own_b q2 16)) &&& (255 : Int32)).toInt64)), .second, .val (.long (((nar .byte (own_b q2 8)) &&& (255 : Int32)).toInt64)), .second, .val (.long (((nar .byte ((q2.toInt32).toInt8.toInt32)) &&& (255 : Int32)).toInt64)), .second, .unset, .unset] [])) _
    refine XS.lload X5.here hx rfl (hb hby at_84) rfl ?_
    show Steps _ _ _ (T5.setTop (mkF m 86 #[.val (.int p1), .val (.long q2), .second, .val (.int (p1 &&& (255 : Int32))), .val (.ref r3), .val (.ref d3), .val (.long (((nar .byte (own_b q2 24)) &&& (255 : Int32)).toInt64)), .second, .val (.long (((nar .byte (own_b q2 16)) &&& (255 : Int32)).toInt64)), .second, .val (.long (((nar .byte (own_b q2 8)) &&& (255 : Int32)).toInt64)), .second, .val (.long (((nar .byte ((q2.toInt32).toInt8.toInt32)) &&& (255 : Int32)).toInt64)), .second, .unset, .unset] [(.long (((nar .byte (own_b q2 24)) &&& (255 : Int32)).toInt64))])) _
    refine X5.ldc2Long hx hown (mvT hZ (ww hw 32 rfl)) (g := (mkF m 86 #[.val (.int p1), .val (.long q2), .second, .val (.int (p1 &&& (255 : Int32))), .val (.ref r3), .val (.ref d3), .val (.long (((nar .byte (own_b q2 24)) &&& (255 : Int32)).toInt64)), .second, .val (.long (((nar .byte (own_b q2 16)) &&& (255 : Int32)).toInt64)), .second, .val (.long (((nar .byte (own_b q2 8)) &&& (255 : Int32)).toInt64)), .second, .val (.long (((nar .byte ((q2.toInt32).toInt8.toInt32)) &&& (255 : Int32)).toInt64)), .second, .unset, .unset] [(.long (((nar .byte (own_b q2 24)) &&& (255 : Int32)).toInt64))])) rfl (hb hby at_86) _ ?_
    show Steps _ _ _ (T5.setTop (mkF m 89 #[.val (.int p1), .val (.long q2), .second, .val (.int (p1 &&& (255 : Int32))), .val (.ref r3), .val (.ref d3), .val (.long (((nar .byte (own_b q2 24)) &&& (255 : Int32)).toInt64)), .second, .val (.long (((nar .byte (own_b q2 16)) &&& (255 : Int32)).toInt64)), .second, .val (.long (((nar .byte (own_b q2 8)) &&& (255 : Int32)).toInt64)), .second, .val (.long (((nar .byte ((q2.toInt32).toInt8.toInt32)) &&& (255 : Int32)).toInt64)), .second, .unset, .unset] [(.long (16777216 : Int64)), (.long (((nar .byte (own_b q2 24)) &&& (255 : Int32)).toInt64))])) _
    refine XS.lmul X5.here hx rfl (hb hby at_89) rfl ?_
    show Steps _ _ _ (T5.setTop (mkF m 90 #[.val (.int p1), .val (.long q2), .second, .val (.int (p1 &&& (255 : Int32))), .val (.ref r3), .val (.ref d3), .val (.long (((nar .byte (own_b q2 24)) &&& (255 : Int32)).toInt64)), .second, .val (.long (((nar .byte (own_b q2 16)) &&& (255 : Int32)).toInt64)), .second, .val (.long (((nar .byte (own_b q2 8)) &&& (255 : Int32)).toInt64)), .second, .val (.long (((nar .byte ((q2.toInt32).toInt8.toInt32)) &&& (255 : Int32)).toInt64)), .second, .unset, .unset] [(.long ((((nar .byte (own_b q2 24)) &&& (255 : Int32)).toInt64) * (16777216 : Int64)))])) _
    refine XS.lload X5.here hx rfl (hb hby at_90) rfl ?_
    show Steps _ _ _ (T5.setTop (mkF m 92 #[.val (.int p1), .val (.long q2), .second, .val (.int (p1 &&& (255 : Int32))), .val (.ref r3), .val (.ref d3), .val (.long (((nar .byte (own_b q2 24)) &&& (255 : Int32)).toInt64)), .second, .val (.long (((nar .byte (own_b q2 16)) &&& (255 : Int32)).toInt64)), .second, .val (.long (((nar .byte (own_b q2 8)) &&& (255 : Int32)).toInt64)), .second, .val (.long (((nar .byte ((q2.toInt32).toInt8.toInt32)) &&& (255 : Int32)).toInt64)), .second, .unset, .unset] [(.long (((nar .byte (own_b q2 16)) &&& (255 : Int32)).toInt64)), (.long ((((nar .byte (own_b q2 24)) &&& (255 : Int32)).toInt64) * (16777216 : Int64)))])) _
    refine X5.ldc2Long hx hown (mvT hZ (ww hw 33 rfl)) (g := (mkF m 92 #[.val (.int p1), .val (.long q2), .second, .val (.int (p1 &&& (255 : Int32))), .val (.ref r3), .val (.ref d3), .val (.long (((nar .byte (own_b q2 24)) &&& (255 : Int32)).toInt64)), .second, .val (.long (((nar .byte (own_b q2 16)) &&& (255 : Int32)).toInt64)), .second, .val (.long (((nar .byte (own_b q2 8)) &&& (255 : Int32)).toInt64)), .second, .val (.long (((nar .byte ((q2.toInt32).toInt8.toInt32)) &&& (255 : Int32)).toInt64)), .second, .unset, .unset] [(.long (((nar .byte (own_b q2 16)) &&& (255 : Int32)).toInt64)), (.long ((((nar .byte (own_b q2 24)) &&& (255 : Int32)).toInt64) * (16777216 : Int64)))])) rfl (hb hby at_92) _ ?_
    show Steps _ _ _ (T5.setTop (mkF m 95 #[.val (.int p1), .val (.long q2), .second, .val (.int (p1 &&& (255 : Int32))), .val (.ref r3), .val (.ref d3), .val (.long (((nar .byte (own_b q2 24)) &&& (255 : Int32)).toInt64)), .second, .val (.long (((nar .byte (own_b q2 16)) &&& (255 : Int32)).toInt64)), .second, .val (.long (((nar .byte (own_b q2 8)) &&& (255 : Int32)).toInt64)), .second, .val (.long (((nar .byte ((q2.toInt32).toInt8.toInt32)) &&& (255 : Int32)).toInt64)), .second, .unset, .unset] [(.long (65536 : Int64)), (.long (((nar .byte (own_b q2 16)) &&& (255 : Int32)).toInt64)), (.long ((((nar .byte (own_b q2 24)) &&& (255 : Int32)).toInt64) * (16777216 : Int64)))])) _
    refine XS.lmul X5.here hx rfl (hb hby at_95) rfl ?_
    show Steps _ _ _ (T5.setTop (mkF m 96 #[.val (.int p1), .val (.long q2), .second, .val (.int (p1 &&& (255 : Int32))), .val (.ref r3), .val (.ref d3), .val (.long (((nar .byte (own_b q2 24)) &&& (255 : Int32)).toInt64)), .second, .val (.long (((nar .byte (own_b q2 16)) &&& (255 : Int32)).toInt64)), .second, .val (.long (((nar .byte (own_b q2 8)) &&& (255 : Int32)).toInt64)), .second, .val (.long (((nar .byte ((q2.toInt32).toInt8.toInt32)) &&& (255 : Int32)).toInt64)), .second, .unset, .unset] [(.long ((((nar .byte (own_b q2 16)) &&& (255 : Int32)).toInt64) * (65536 : Int64))), (.long ((((nar .byte (own_b q2 24)) &&& (255 : Int32)).toInt64) * (16777216 : Int64)))])) _
    refine XS.ladd X5.here hx rfl (hb hby at_96) rfl ?_
    show Steps _ _ _ (T5.setTop (mkF m 97 #[.val (.int p1), .val (.long q2), .second, .val (.int (p1 &&& (255 : Int32))), .val (.ref r3), .val (.ref d3), .val (.long (((nar .byte (own_b q2 24)) &&& (255 : Int32)).toInt64)), .second, .val (.long (((nar .byte (own_b q2 16)) &&& (255 : Int32)).toInt64)), .second, .val (.long (((nar .byte (own_b q2 8)) &&& (255 : Int32)).toInt64)), .second, .val (.long (((nar .byte ((q2.toInt32).toInt8.toInt32)) &&& (255 : Int32)).toInt64)), .second, .unset, .unset] [(.long (((((nar .byte (own_b q2 24)) &&& (255 : Int32)).toInt64) * (16777216 : Int64)) + ((((nar .byte (own_b q2 16)) &&& (255 : Int32)).toInt64) * (65536 : Int64))))])) _
    refine XS.lload X5.here hx rfl (hb hby at_97) rfl ?_
    show Steps _ _ _ (T5.setTop (mkF m 99 #[.val (.int p1), .val (.long q2), .second, .val (.int (p1 &&& (255 : Int32))), .val (.ref r3), .val (.ref d3), .val (.long (((nar .byte (own_b q2 24)) &&& (255 : Int32)).toInt64)), .second, .val (.long (((nar .byte (own_b q2 16)) &&& (255 : Int32)).toInt64)), .second, .val (.long (((nar .byte (own_b q2 8)) &&& (255 : Int32)).toInt64)), .second, .val (.long (((nar .byte ((q2.toInt32).toInt8.toInt32)) &&& (255 : Int32)).toInt64)), .second, .unset, .unset] [(.long (((nar .byte (own_b q2 8)) &&& (255 : Int32)).toInt64)), (.long (((((nar .byte (own_b q2 24)) &&& (255 : Int32)).toInt64) * (16777216 : Int64)) + ((((nar .byte (own_b q2 16)) &&& (255 : Int32)).toInt64) * (65536 : Int64))))])) _
    refine X5.ldc2Long hx hown (mvT hZ (ww hw 34 rfl)) (g := (mkF m 99 #[.val (.int p1), .val (.long q2), .second, .val (.int (p1 &&& (255 : Int32))), .val (.ref r3), .val (.ref d3), .val (.long (((nar .byte (own_b q2 24)) &&& (255 : Int32)).toInt64)), .second, .val (.long (((nar .byte (own_b q2 16)) &&& (255 : Int32)).toInt64)), .second, .val (.long (((nar .byte (own_b q2 8)) &&& (255 : Int32)).toInt64)), .second, .val (.long (((nar .byte ((q2.toInt32).toInt8.toInt32)) &&& (255 : Int32)).toInt64)), .second, .unset, .unset] [(.long (((nar .byte (own_b q2 8)) &&& (255 : Int32)).toInt64)), (.long (((((nar .byte (own_b q2 24)) &&& (255 : Int32)).toInt64) * (16777216 : Int64)) + ((((nar .byte (own_b q2 16)) &&& (255 : Int32)).toInt64) * (65536 : Int64))))])) rfl (hb hby at_99) _ ?_
    show Steps _ _ _ (T5.setTop (mkF m 102 #[.val (.int p1), .val (.long q2), .second, .val (.int (p1 &&& (255 : Int32))), .val (.ref r3), .val (.ref d3), .val (.long (((nar .byte (own_b q2 24)) &&& (255 : Int32)).toInt64)), .second, .val (.long (((nar .byte (own_b q2 16)) &&& (255 : Int32)).toInt64)), .second, .val (.long (((nar .byte (own_b q2 8)) &&& (255 : Int32)).toInt64)), .second, .val (.long (((nar .byte ((q2.toInt32).toInt8.toInt32)) &&& (255 : Int32)).toInt64)), .second, .unset, .unset] [(.long (256 : Int64)), (.long (((nar .byte (own_b q2 8)) &&& (255 : Int32)).toInt64)), (.long (((((nar .byte (own_b q2 24)) &&& (255 : Int32)).toInt64) * (16777216 : Int64)) + ((((nar .byte (own_b q2 16)) &&& (255 : Int32)).toInt64) * (65536 : Int64))))])) _
    refine XS.lmul X5.here hx rfl (hb hby at_102) rfl ?_
    show Steps _ _ _ (T5.setTop (mkF m 103 #[.val (.int p1), .val (.long q2), .second, .val (.int (p1 &&& (255 : Int32))), .val (.ref r3), .val (.ref d3), .val (.long (((nar .byte (own_b q2 24)) &&& (255 : Int32)).toInt64)), .second, .val (.long (((nar .byte (own_b q2 16)) &&& (255 : Int32)).toInt64)), .second, .val (.long (((nar .byte (own_b q2 8)) &&& (255 : Int32)).toInt64)), .second, .val (.long (((nar .byte ((q2.toInt32).toInt8.toInt32)) &&& (255 : Int32)).toInt64)), .second, .unset, .unset] [(.long ((((nar .byte (own_b q2 8)) &&& (255 : Int32)).toInt64) * (256 : Int64))), (.long (((((nar .byte (own_b q2 24)) &&& (255 : Int32)).toInt64) * (16777216 : Int64)) + ((((nar .byte (own_b q2 16)) &&& (255 : Int32)).toInt64) * (65536 : Int64))))])) _
    refine XS.ladd X5.here hx rfl (hb hby at_103) rfl ?_
    show Steps _ _ _ (T5.setTop (mkF m 104 #[.val (.int p1), .val (.long q2), .second, .val (.int (p1 &&& (255 : Int32))), .val (.ref r3), .val (.ref d3), .val (.long (((nar .byte (own_b q2 24)) &&& (255 : Int32)).toInt64)), .second, .val (.long (((nar .byte (own_b q2 16)) &&& (255 : Int32)).toInt64)), .second, .val (.long (((nar .byte (own_b q2 8)) &&& (255 : Int32)).toInt64)), .second, .val (.long (((nar .byte ((q2.toInt32).toInt8.toInt32)) &&& (255 : Int32)).toInt64)), .second, .unset, .unset] [(.long ((((((nar .byte (own_b q2 24)) &&& (255 : Int32)).toInt64) * (16777216 : Int64)) + ((((nar .byte (own_b q2 16)) &&& (255 : Int32)).toInt64) * (65536 : Int64))) + ((((nar .byte (own_b q2 8)) &&& (255 : Int32)).toInt64) * (256 : Int64))))])) _
    refine XS.lload X5.here hx rfl (hb hby at_104) rfl ?_
    show Steps _ _ _ (T5.setTop (mkF m 106 #[.val (.int p1), .val (.long q2), .second, .val (.int (p1 &&& (255 : Int32))), .val (.ref r3), .val (.ref d3), .val (.long (((nar .byte (own_b q2 24)) &&& (255 : Int32)).toInt64)), .second, .val (.long (((nar .byte (own_b q2 16)) &&& (255 : Int32)).toInt64)), .second, .val (.long (((nar .byte (own_b q2 8)) &&& (255 : Int32)).toInt64)), .second, .val (.long (((nar .byte ((q2.toInt32).toInt8.toInt32)) &&& (255 : Int32)).toInt64)), .second, .unset, .unset] [(.long (((nar .byte ((q2.toInt32).toInt8.toInt32)) &&& (255 : Int32)).toInt64)), (.long ((((((nar .byte (own_b q2 24)) &&& (255 : Int32)).toInt64) * (16777216 : Int64)) + ((((nar .byte (own_b q2 16)) &&& (255 : Int32)).toInt64) * (65536 : Int64))) + ((((nar .byte (own_b q2 8)) &&& (255 : Int32)).toInt64) * (256 : Int64))))])) _
    refine XS.ladd X5.here hx rfl (hb hby at_106) rfl ?_
    show Steps _ _ _ (T5.setTop (mkF m 107 #[.val (.int p1), .val (.long q2), .second, .val (.int (p1 &&& (255 : Int32))), .val (.ref r3), .val (.ref d3), .val (.long (((nar .byte (own_b q2 24)) &&& (255 : Int32)).toInt64)), .second, .val (.long (((nar .byte (own_b q2 16)) &&& (255 : Int32)).toInt64)), .second, .val (.long (((nar .byte (own_b q2 8)) &&& (255 : Int32)).toInt64)), .second, .val (.long (((nar .byte ((q2.toInt32).toInt8.toInt32)) &&& (255 : Int32)).toInt64)), .second, .unset, .unset] [(.long (((((((nar .byte (own_b q2 24)) &&& (255 : Int32)).toInt64) * (16777216 : Int64)) + ((((nar .byte (own_b q2 16)) &&& (255 : Int32)).toInt64) * (65536 : Int64))) + ((((nar .byte (own_b q2 8)) &&& (255 : Int32)).toInt64) * (256 : Int64))) + (((nar .byte ((q2.toInt32).toInt8.toInt32)) &&& (255 : Int32)).toInt64)))])) _
    refine XS.lstore X5.here hx rfl (hb hby at_107) rfl (l' := #[.val (.int p1), .val (.long q2), .second, .val (.int (p1 &&& (255 : Int32))), .val (.ref r3), .val (.ref d3), .val (.long (((nar .byte (own_b q2 24)) &&& (255 : Int32)).toInt64)), .second, .val (.long (((nar .byte (own_b q2 16)) &&& (255 : Int32)).toInt64)), .second, .val (.long (((nar .byte (own_b q2 8)) &&& (255 : Int32)).toInt64)), .second, .val (.long (((nar .byte ((q2.toInt32).toInt8.toInt32)) &&& (255 : Int32)).toInt64)), .second, .val (.long (((((((nar .byte (own_b q2 24)) &&& (255 : Int32)).toInt64) * (16777216 : Int64)) + ((((nar .byte (own_b q2 16)) &&& (255 : Int32)).toInt64) * (65536 : Int64))) + ((((nar .byte (own_b q2 8)) &&& (255 : Int32)).toInt64) * (256 : Int64))) + (((nar .byte ((q2.toInt32).toInt8.toInt32)) &&& (255 : Int32)).toInt64))), .second]) rfl ?_
    show Steps _ _ _ (T5.setTop (mkF m 109 #[.val (.int p1), .val (.long q2), .second, .val (.int (p1 &&& (255 : Int32))), .val (.ref r3), .val (.ref d3), .val (.long (((nar .byte (own_b q2 24)) &&& (255 : Int32)).toInt64)), .second, .val (.long (((nar .byte (own_b q2 16)) &&& (255 : Int32)).toInt64)), .second, .val (.long (((nar .byte (own_b q2 8)) &&& (255 : Int32)).toInt64)), .second, .val (.long (((nar .byte ((q2.toInt32).toInt8.toInt32)) &&& (255 : Int32)).toInt64)), .second, .val (.long (((((((nar .byte (own_b q2 24)) &&& (255 : Int32)).toInt64) * (16777216 : Int64)) + ((((nar .byte (own_b q2 16)) &&& (255 : Int32)).toInt64) * (65536 : Int64))) + ((((nar .byte (own_b q2 8)) &&& (255 : Int32)).toInt64) * (256 : Int64))) + (((nar .byte ((q2.toInt32).toInt8.toInt32)) &&& (255 : Int32)).toInt64))), .second] [])) _
    refine XS.lload X5.here hx rfl (hb hby at_109) rfl ?_
    show Steps _ _ _ (T5.setTop (mkF m 111 #[.val (.int p1), .val (.long q2), .second, .val (.int (p1 &&& (255 : Int32))), .val (.ref r3), .val (.ref d3), .val (.long (((nar .byte (own_b q2 24)) &&& (255 : Int32)).toInt64)), .second, .val (.long (((nar .byte (own_b q2 16)) &&& (255 : Int32)).toInt64)), .second, .val (.long (((nar .byte (own_b q2 8)) &&& (255 : Int32)).toInt64)), .second, .val (.long (((nar .byte ((q2.toInt32).toInt8.toInt32)) &&& (255 : Int32)).toInt64)), .second, .val (.long (((((((nar .byte (own_b q2 24)) &&& (255 : Int32)).toInt64) * (16777216 : Int64)) + ((((nar .byte (own_b q2 16)) &&& (255 : Int32)).toInt64) * (65536 : Int64))) + ((((nar .byte (own_b q2 8)) &&& (255 : Int32)).toInt64) * (256 : Int64))) + (((nar .byte ((q2.toInt32).toInt8.toInt32)) &&& (255 : Int32)).toInt64))), .second] [(.long (((((((nar .byte (own_b q2 24)) &&& (255 : Int32)).toInt64) * (16777216 : Int64)) + ((((nar .byte (own_b q2 16)) &&& (255 : Int32)).toInt64) * (65536 : Int64))) + ((((nar .byte (own_b q2 8)) &&& (255 : Int32)).toInt64) * (256 : Int64))) + (((nar .byte ((q2.toInt32).toInt8.toInt32)) &&& (255 : Int32)).toInt64)))])) _
    refine XS.lloadN X5.here hx rfl (hb hby at_111) rfl ?_
    show Steps _ _ _ (T5.setTop (mkF m 112 #[.val (.int p1), .val (.long q2), .second, .val (.int (p1 &&& (255 : Int32))), .val (.ref r3), .val (.ref d3), .val (.long (((nar .byte (own_b q2 24)) &&& (255 : Int32)).toInt64)), .second, .val (.long (((nar .byte (own_b q2 16)) &&& (255 : Int32)).toInt64)), .second, .val (.long (((nar .byte (own_b q2 8)) &&& (255 : Int32)).toInt64)), .second, .val (.long (((nar .byte ((q2.toInt32).toInt8.toInt32)) &&& (255 : Int32)).toInt64)), .second, .val (.long (((((((nar .byte (own_b q2 24)) &&& (255 : Int32)).toInt64) * (16777216 : Int64)) + ((((nar .byte (own_b q2 16)) &&& (255 : Int32)).toInt64) * (65536 : Int64))) + ((((nar .byte (own_b q2 8)) &&& (255 : Int32)).toInt64) * (256 : Int64))) + (((nar .byte ((q2.toInt32).toInt8.toInt32)) &&& (255 : Int32)).toInt64))), .second] [(.long q2), (.long (((((((nar .byte (own_b q2 24)) &&& (255 : Int32)).toInt64) * (16777216 : Int64)) + ((((nar .byte (own_b q2 16)) &&& (255 : Int32)).toInt64) * (65536 : Int64))) + ((((nar .byte (own_b q2 8)) &&& (255 : Int32)).toInt64) * (256 : Int64))) + (((nar .byte ((q2.toInt32).toInt8.toInt32)) &&& (255 : Int32)).toInt64)))])) _
    refine X5.ldc2Long hx hown (mvT hZ (ww hw 35 rfl)) (g := (mkF m 112 #[.val (.int p1), .val (.long q2), .second, .val (.int (p1 &&& (255 : Int32))), .val (.ref r3), .val (.ref d3), .val (.long (((nar .byte (own_b q2 24)) &&& (255 : Int32)).toInt64)), .second, .val (.long (((nar .byte (own_b q2 16)) &&& (255 : Int32)).toInt64)), .second, .val (.long (((nar .byte (own_b q2 8)) &&& (255 : Int32)).toInt64)), .second, .val (.long (((nar .byte ((q2.toInt32).toInt8.toInt32)) &&& (255 : Int32)).toInt64)), .second, .val (.long (((((((nar .byte (own_b q2 24)) &&& (255 : Int32)).toInt64) * (16777216 : Int64)) + ((((nar .byte (own_b q2 16)) &&& (255 : Int32)).toInt64) * (65536 : Int64))) + ((((nar .byte (own_b q2 8)) &&& (255 : Int32)).toInt64) * (256 : Int64))) + (((nar .byte ((q2.toInt32).toInt8.toInt32)) &&& (255 : Int32)).toInt64))), .second] [(.long q2), (.long (((((((nar .byte (own_b q2 24)) &&& (255 : Int32)).toInt64) * (16777216 : Int64)) + ((((nar .byte (own_b q2 16)) &&& (255 : Int32)).toInt64) * (65536 : Int64))) + ((((nar .byte (own_b q2 8)) &&& (255 : Int32)).toInt64) * (256 : Int64))) + (((nar .byte ((q2.toInt32).toInt8.toInt32)) &&& (255 : Int32)).toInt64)))])) rfl (hb hby at_112) _ ?_
    show Steps _ _ _ (T5.setTop (mkF m 115 #[.val (.int p1), .val (.long q2), .second, .val (.int (p1 &&& (255 : Int32))), .val (.ref r3), .val (.ref d3), .val (.long (((nar .byte (own_b q2 24)) &&& (255 : Int32)).toInt64)), .second, .val (.long (((nar .byte (own_b q2 16)) &&& (255 : Int32)).toInt64)), .second, .val (.long (((nar .byte (own_b q2 8)) &&& (255 : Int32)).toInt64)), .second, .val (.long (((nar .byte ((q2.toInt32).toInt8.toInt32)) &&& (255 : Int32)).toInt64)), .second, .val (.long (((((((nar .byte (own_b q2 24)) &&& (255 : Int32)).toInt64) * (16777216 : Int64)) + ((((nar .byte (own_b q2 16)) &&& (255 : Int32)).toInt64) * (65536 : Int64))) + ((((nar .byte (own_b q2 8)) &&& (255 : Int32)).toInt64) * (256 : Int64))) + (((nar .byte ((q2.toInt32).toInt8.toInt32)) &&& (255 : Int32)).toInt64))), .second] [(.long (4294967295 : Int64)), (.long q2), (.long (((((((nar .byte (own_b q2 24)) &&& (255 : Int32)).toInt64) * (16777216 : Int64)) + ((((nar .byte (own_b q2 16)) &&& (255 : Int32)).toInt64) * (65536 : Int64))) + ((((nar .byte (own_b q2 8)) &&& (255 : Int32)).toInt64) * (256 : Int64))) + (((nar .byte ((q2.toInt32).toInt8.toInt32)) &&& (255 : Int32)).toInt64)))])) _
    refine XS.land X5.here hx rfl (hb hby at_115) rfl ?_
    show Steps _ _ _ (T5.setTop (mkF m 116 #[.val (.int p1), .val (.long q2), .second, .val (.int (p1 &&& (255 : Int32))), .val (.ref r3), .val (.ref d3), .val (.long (((nar .byte (own_b q2 24)) &&& (255 : Int32)).toInt64)), .second, .val (.long (((nar .byte (own_b q2 16)) &&& (255 : Int32)).toInt64)), .second, .val (.long (((nar .byte (own_b q2 8)) &&& (255 : Int32)).toInt64)), .second, .val (.long (((nar .byte ((q2.toInt32).toInt8.toInt32)) &&& (255 : Int32)).toInt64)), .second, .val (.long (((((((nar .byte (own_b q2 24)) &&& (255 : Int32)).toInt64) * (16777216 : Int64)) + ((((nar .byte (own_b q2 16)) &&& (255 : Int32)).toInt64) * (65536 : Int64))) + ((((nar .byte (own_b q2 8)) &&& (255 : Int32)).toInt64) * (256 : Int64))) + (((nar .byte ((q2.toInt32).toInt8.toInt32)) &&& (255 : Int32)).toInt64))), .second] [(.long (q2 &&& (4294967295 : Int64))), (.long (((((((nar .byte (own_b q2 24)) &&& (255 : Int32)).toInt64) * (16777216 : Int64)) + ((((nar .byte (own_b q2 16)) &&& (255 : Int32)).toInt64) * (65536 : Int64))) + ((((nar .byte (own_b q2 8)) &&& (255 : Int32)).toInt64) * (256 : Int64))) + (((nar .byte ((q2.toInt32).toInt8.toInt32)) &&& (255 : Int32)).toInt64)))])) _
    refine XS.lcmp X5.here hx rfl (hb hby at_116) rfl ?_
    show Steps _ _ _ (T5.setTop (mkF m 117 #[.val (.int p1), .val (.long q2), .second, .val (.int (p1 &&& (255 : Int32))), .val (.ref r3), .val (.ref d3), .val (.long (((nar .byte (own_b q2 24)) &&& (255 : Int32)).toInt64)), .second, .val (.long (((nar .byte (own_b q2 16)) &&& (255 : Int32)).toInt64)), .second, .val (.long (((nar .byte (own_b q2 8)) &&& (255 : Int32)).toInt64)), .second, .val (.long (((nar .byte ((q2.toInt32).toInt8.toInt32)) &&& (255 : Int32)).toInt64)), .second, .val (.long (((((((nar .byte (own_b q2 24)) &&& (255 : Int32)).toInt64) * (16777216 : Int64)) + ((((nar .byte (own_b q2 16)) &&& (255 : Int32)).toInt64) * (65536 : Int64))) + ((((nar .byte (own_b q2 8)) &&& (255 : Int32)).toInt64) * (256 : Int64))) + (((nar .byte ((q2.toInt32).toInt8.toInt32)) &&& (255 : Int32)).toInt64))), .second] [(.int (lcmpW (((((((nar .byte (own_b q2 24)) &&& (255 : Int32)).toInt64) * (16777216 : Int64)) + ((((nar .byte (own_b q2 16)) &&& (255 : Int32)).toInt64) * (65536 : Int64))) + ((((nar .byte (own_b q2 8)) &&& (255 : Int32)).toInt64) * (256 : Int64))) + (((nar .byte ((q2.toInt32).toInt8.toInt32)) &&& (255 : Int32)).toInt64)) (q2 &&& (4294967295 : Int64))))])) _
    refine XS.ifNo X5.here hx rfl (hb hby at_117) rfl ((if0 _ _).trans (teq hc117).2) ?_
    show Steps _ _ _ (T5.setTop (mkF m 120 #[.val (.int p1), .val (.long q2), .second, .val (.int (p1 &&& (255 : Int32))), .val (.ref r3), .val (.ref d3), .val (.long (((nar .byte (own_b q2 24)) &&& (255 : Int32)).toInt64)), .second, .val (.long (((nar .byte (own_b q2 16)) &&& (255 : Int32)).toInt64)), .second, .val (.long (((nar .byte (own_b q2 8)) &&& (255 : Int32)).toInt64)), .second, .val (.long (((nar .byte ((q2.toInt32).toInt8.toInt32)) &&& (255 : Int32)).toInt64)), .second, .val (.long (((((((nar .byte (own_b q2 24)) &&& (255 : Int32)).toInt64) * (16777216 : Int64)) + ((((nar .byte (own_b q2 16)) &&& (255 : Int32)).toInt64) * (65536 : Int64))) + ((((nar .byte (own_b q2 8)) &&& (255 : Int32)).toInt64) * (256 : Int64))) + (((nar .byte ((q2.toInt32).toInt8.toInt32)) &&& (255 : Int32)).toInt64))), .second] [])) _
    refine XS.iconst X5.here hx rfl (hb hby at_120) ?_
    show Steps _ _ _ (T5.setTop (mkF m 121 #[.val (.int p1), .val (.long q2), .second, .val (.int (p1 &&& (255 : Int32))), .val (.ref r3), .val (.ref d3), .val (.long (((nar .byte (own_b q2 24)) &&& (255 : Int32)).toInt64)), .second, .val (.long (((nar .byte (own_b q2 16)) &&& (255 : Int32)).toInt64)), .second, .val (.long (((nar .byte (own_b q2 8)) &&& (255 : Int32)).toInt64)), .second, .val (.long (((nar .byte ((q2.toInt32).toInt8.toInt32)) &&& (255 : Int32)).toInt64)), .second, .val (.long (((((((nar .byte (own_b q2 24)) &&& (255 : Int32)).toInt64) * (16777216 : Int64)) + ((((nar .byte (own_b q2 16)) &&& (255 : Int32)).toInt64) * (65536 : Int64))) + ((((nar .byte (own_b q2 8)) &&& (255 : Int32)).toInt64) * (256 : Int64))) + (((nar .byte ((q2.toInt32).toInt8.toInt32)) &&& (255 : Int32)).toInt64))), .second] [(.int (1 : Int32))])) _
    refine XS.goto X5.here hx rfl (pc0 := 121) (pc' := 125) rfl (hb hby at_121) (by decide) (by decide) ?_
    show Steps _ _ _ (T5.setTop (mkF m 125 #[.val (.int p1), .val (.long q2), .second, .val (.int (p1 &&& (255 : Int32))), .val (.ref r3), .val (.ref d3), .val (.long (((nar .byte (own_b q2 24)) &&& (255 : Int32)).toInt64)), .second, .val (.long (((nar .byte (own_b q2 16)) &&& (255 : Int32)).toInt64)), .second, .val (.long (((nar .byte (own_b q2 8)) &&& (255 : Int32)).toInt64)), .second, .val (.long (((nar .byte ((q2.toInt32).toInt8.toInt32)) &&& (255 : Int32)).toInt64)), .second, .val (.long (((((((nar .byte (own_b q2 24)) &&& (255 : Int32)).toInt64) * (16777216 : Int64)) + ((((nar .byte (own_b q2 16)) &&& (255 : Int32)).toInt64) * (65536 : Int64))) + ((((nar .byte (own_b q2 8)) &&& (255 : Int32)).toInt64) * (256 : Int64))) + (((nar .byte ((q2.toInt32).toInt8.toInt32)) &&& (255 : Int32)).toInt64))), .second] [(.int (1 : Int32))])) _
    exact retN X5 hx (t := .boolean) Bd.returns (by simp) (hb hby at_125) hr
  · show Q0 Z p1 q2 h0 n0 _ T5.heap _
    rw [eh5]
    exact ⟨rfl, N5⟩
-- 5. FROM THE CASE'S WORDS TO rm0, AND THE OWED THEOREMS
set_option maxRecDepth 65536 in
set_option maxHeartbeats 40000000 in
theorem comes_1 {Post : Tables → Env → Array Value → State → Outcome → State → Prop} (hpost : ∀ tb e args s v u, (limb_1_1.after args s (.returned v) u = true ∧ limb_1_2.after args s (.returned v) u = true ∧ True) → FrameEnd s (.returned v) u (Jvm.fieldLocs frame_1_writes args s ++ Jvm.arrayLocs frame_1_arrays args s ++ Jvm.staticLocs frame_1_statics s) 16 128 → Post tb e args s (.returned v) u) :
    ArmFor flags0 classFile x code maxLocals ret World_1 tables_1 room_1 Calls_1 rest_1 Pre_1 Post := by
  intro l hfl _ _ p e ha hc hk s m args below hf hA hF happ hP
  obtain ⟨hcalls, hrest, hpre⟩ := hP
  obtain ⟨-, -, -, hnamed, -, -, -, hat⟩ := (Spec.applies_iff hf).mp happ
  obtain ⟨hg, hn⟩ := and_e (Cond.before_iff.mp (show (Jvm.Cond.and given_1 narrow_1).before args s = true from hpre))
  obtain ⟨g6, g7⟩ := and_e hg
  obtain ⟨g8, g9⟩ := and_e g7
  obtain ⟨w0, w1, rfl⟩ : ∃ w0 w1 : Value, args = #[w0, w1] := by
    have hs : args.size = 2 := by simpa [Cond.value, given_1] using g6
    obtain ⟨L⟩ := args
    match L, hs with
    | [w0, w1], _ => exact ⟨w0, w1, rfl⟩
  have hw := fun d (hd : d ∈ tables_1) => atoms_spec (ws := Jvm.Cond.code x code maxLocals ret :: tables_1) hat d (List.mem_cons_of_mem _ hd)
  have hfit : Fit s := fun {y c} hc i hi => by
    obtain ⟨ha, rfl⟩ := Array.getElem?_eq_some_iff.mp hc
    have q := List.all_eq_true.mp ((Array.all_eq_true_iff_forall_mem.mp hF) _ (Array.getElem_mem ha)) i (List.mem_range.mpr hi)
    simpa [Array.getElem?_eq_getElem hi] using q
  obtain ⟨i0, ei0⟩ := is_v g8
  obtain rfl : w0 = (.int i0) := Option.some.inj ei0
  obtain ⟨i1, ei1⟩ := isL_v g9
  obtain rfl : w1 = (.long i1) := Option.some.inj ei1
  obtain ⟨n, o, h1, h2, h3, _, L, rfl, ⟨rfl, N⟩, hq⟩ := rm0 l s _ hw tables_1 i0 i1 s.heap s.heap.size (Nat.le_refl _) ((lw_eq _ _).mpr (own_back _)) p e ha hc hk s m _ below hf ((Spec.applies_iff_loose hf).mp happ).1 ⟨rfl, State.Warmed39.refl s, rfl⟩ trivial
  refine ⟨n, _, h1, h2, h3, hpost _ _ _ _ _ _ ⟨Cond.after_iff.mpr rfl, Cond.after_iff.mpr (eq_i res_at (Term.int_eval (1)) rfl), trivial⟩ ⟨hq.1, hq.2.1, (hq.2.2.sift fun y hy => Or.inr (N y hy)).mono (by decide) (by decide)⟩⟩
theorem main_1_1 : Claimed_1_1 := comes_1 fun _ _ _ _ _ _ h hF => ⟨h.1, hF⟩
theorem main_1_2 : Claimed_1_2 := comes_1 fun _ _ _ _ _ _ h hF => ⟨h.2.1, hF⟩
end Jvm.Pilot.@@N@@
namespace Jvm.Pilot.@@N@@
open Jvm Jvm.ClassFile Sem Op Lib Jvm.Free Jvm.Stand Jvm.Pilot.@@N@@.Jvm.D
/-! MADE BY PROGRAM (witnessworld.py) out of the Statement's table words and the real class files: 10 classes; the members and pool entries that the words name. The judged class is class 1, her method 1. -/
namespace start1
open Jvm.ClassFile
def u (s : String) : CpInfo := .utf8 (stringToUtf16 s)
/-- a pool by its gaps: so many unusable entries, then the entry; so many at the end -/
def gap : Nat → List CpInfo → List CpInfo
  | 0, r => r
  | n + 1, r => .unusable :: gap n r
def poolList (es : List (Nat × CpInfo)) (last : Nat) : List CpInfo := es.foldr (fun e r => gap e.1 (e.2 :: r)) (gap last [])
def pool (es : List (Nat × CpInfo)) (last : Nat) : Array CpInfo := ⟨poolList es last⟩
def fileOf (pool : Array CpInfo) (this : Nat) (attrs : Array Attribute := #[]) (ms : Array MethodInfo := #[]) (fl : Nat := 33) (sup : Nat := 0) (ifs : Array Nat := #[]) (fds : Array FieldInfo := #[]) : ClassFile where
  minorVersion := 0
  majorVersion := 65
  constantPool := pool
  accessFlags := fl
  thisClass := this
  superClass := sup
  interfaces := ifs
  fields := fds
  methods := ms
  attributes := attrs
def plain (name : String) (sup : Option ClassId) : Class where
  name := name
  kind := .ordinary
  loader := none
  accessFlags := 33
  super := sup
  interfaces := #[]
  cf := none
  fields := #[]
  methods := #[]
  instanceTypes := #[]
  staticTypes := #[]
  resolved := #[]
  callSites := []
  init := .initialized
  statics := none
  mirror := none

def pool0 : Array CpInfo := pool [(5, u "<init>"), (0, u "()V"), (1, .class_ 10), (1, u "java/lang/Object")] 113

def k0c0 : Code := { maxStack := 0, maxLocals := 1, code := object_method_1_code, exceptionTable := #[], attributes := #[] }
def k0m0 : Method := { name := "<init>", desc := "()V", sig := { parameters := [], returnType := none }, accessFlags := 1, code := some k0c0 }
/-- java/lang/Object -/
def k0 : Class := { plain "java/lang/Object" none with
  accessFlags := 33
  interfaces := #[]
  cf := some (fileOf pool0 8 #[] #[{ accessFlags := 1, nameIndex := 5, descriptorIndex := 6, attributes := #[] }] 33 0 #[] #[])
  fields := #[]
  methods := #[k0m0]
  instanceTypes := #[]
  staticTypes := #[]
  resolved := Array.replicate 124 none
  statics := none }

def pool1 : Array CpInfo := pool [(2, .class_ 4), (1, u "java/lang/Object"), (0, u "<init>"), (0, u "()V"), (0, .methodref 8 9), (0, .class_ 10), (0, .nameAndType 11 12), (0, u "com/example/tallykey/tallykey/io/RadiusPacket$Attribute"), (0, u "integer"), (0, u "(IJ)Lcom/example/tallykey/tallykey/io/RadiusPacket$Attribute;"), (0, .methodref 8 14), (0, .nameAndType 15 16), (0, u "type"), (0, u "()I"), (0, .methodref 8 18), (0, .nameAndType 19 20), (0, u "value"), (0, u "()[B"), (0, .long 16777216), (1, .long 65536), (1, .long 256), (1, .long 4294967295), (1, .class_ 30), (0, u "com/example/tallykey/tallykey/io/AttributeIntegerPinLaw"), (2, u "law"), (0, u "(IJ)Z")] 9

def k1m0 : Method := { name := "<init>", desc := "()V", sig := { parameters := [], returnType := none }, accessFlags := 1, code := none }
def k1c1 : Code := { maxStack := 6, maxLocals := 16, code := code, exceptionTable := #[], attributes := #[] }
def k1m1 : Method := { name := "law", desc := "(IJ)Z", sig := { parameters := [.int, .long], returnType := some .boolean }, accessFlags := 9, code := some k1c1 }
/-- com/example/tallykey/tallykey/io/AttributeIntegerPinLaw -/
def k1 : Class := { plain "com/example/tallykey/tallykey/io/AttributeIntegerPinLaw" (some 0) with
  accessFlags := 49
  interfaces := #[]
  cf := some (fileOf pool1 29 #[] #[{ accessFlags := 1, nameIndex := 5, descriptorIndex := 6, attributes := #[] }, { accessFlags := 9, nameIndex := 33, descriptorIndex := 34, attributes := #[] }] 49 2 #[] #[])
  fields := #[]
  methods := #[k1m0, k1m1]
  instanceTypes := #[]
  staticTypes := #[]
  resolved := Array.replicate 44 none
  statics := none }

def pool2 : Array CpInfo := pool [(1, .methodref 2 3), (0, .class_ 4), (0, .nameAndType 5 6), (0, u "java/lang/Object"), (0, u "<init>"), (0, u "()V"), (0, .class_ 8), (0, u "java/lang/Record")] 13

def k2c0 : Code := { maxStack := 1, maxLocals := 1, code := jdk_30_method_1_code, exceptionTable := #[], attributes := #[] }
def k2m0 : Method := { name := "<init>", desc := "()V", sig := { parameters := [], returnType := none }, accessFlags := 4, code := some k2c0 }
/-- java/lang/Record -/
def k2 : Class := { plain "java/lang/Record" (some 0) with
  accessFlags := 1057
  interfaces := #[]
  cf := some (fileOf pool2 7 #[] #[{ accessFlags := 4, nameIndex := 5, descriptorIndex := 6, attributes := #[] }] 1057 2 #[] #[])
  fields := #[]
  methods := #[k2m0]
  instanceTypes := #[]
  staticTypes := #[]
  resolved := Array.replicate 22 none
  statics := none }

def pool3 : Array CpInfo := pool [(1, .class_ 2), (0, u "com/example/tallykey/tallykey/io/RadiusPacket"), (0, .methodref 4 5), (0, .class_ 6), (0, .nameAndType 7 8), (0, u "java/lang/Record"), (0, u "<init>"), (0, u "()V"), (7, .fieldref 17 18), (0, .class_ 19), (0, .nameAndType 20 21), (0, u "com/example/tallykey/tallykey/io/RadiusPacket$Attribute"), (0, u "type"), (0, u "I"), (0, .fieldref 17 23), (0, .nameAndType 24 25), (0, u "value"), (0, u "[B"), (12, .methodref 17 39), (0, .nameAndType 7 40), (0, u "(I[B)V"), (19, u "integer"), (0, u "(IJ)Lcom/example/tallykey/tallykey/io/RadiusPacket$Attribute;"), (1, u "()I"), (1, u "()[B")] 23

def k3c0 : Code := { maxStack := 3, maxLocals := 3, code := prog_7_method_1_code, exceptionTable := #[], attributes := #[] }
def k3m0 : Method := { name := "<init>", desc := "(I[B)V", sig := { parameters := [.int, (.array .byte)], returnType := none }, accessFlags := 0, code := some k3c0 }
def k3c1 : Code := { maxStack := 9, maxLocals := 3, code := prog_7_method_3_code, exceptionTable := #[], attributes := #[] }
def k3m1 : Method := { name := "integer", desc := "(IJ)Lcom/example/tallykey/tallykey/io/RadiusPacket$Attribute;", sig := { parameters := [.int, .long], returnType := some (.object "com/example/tallykey/tallykey/io/RadiusPacket$Attribute") }, accessFlags := 8, code := some k3c1 }
def k3c2 : Code := { maxStack := 1, maxLocals := 1, code := prog_7_method_7_code, exceptionTable := #[], attributes := #[] }
def k3m2 : Method := { name := "type", desc := "()I", sig := { parameters := [], returnType := some .int }, accessFlags := 1, code := some k3c2 }
def k3c3 : Code := { maxStack := 1, maxLocals := 1, code := prog_7_method_8_code, exceptionTable := #[], attributes := #[] }
def k3m3 : Method := { name := "value", desc := "()[B", sig := { parameters := [], returnType := some (.array .byte) }, accessFlags := 1, code := some k3c3 }
/-- com/example/tallykey/tallykey/io/RadiusPacket$Attribute -/
def k3 : Class := { plain "com/example/tallykey/tallykey/io/RadiusPacket$Attribute" (some 2) with
  accessFlags := 48
  interfaces := #[]
  cf := some (fileOf pool3 17 #[.nestHost 1] #[{ accessFlags := 0, nameIndex := 7, descriptorIndex := 40, attributes := #[] }, { accessFlags := 8, nameIndex := 60, descriptorIndex := 61, attributes := #[] }, { accessFlags := 1, nameIndex := 20, descriptorIndex := 63, attributes := #[] }, { accessFlags := 1, nameIndex := 24, descriptorIndex := 65, attributes := #[] }] 48 4 #[] #[{ accessFlags := 18, nameIndex := 20, descriptorIndex := 21, attributes := #[] }, { accessFlags := 18, nameIndex := 24, descriptorIndex := 25, attributes := #[] }])
  fields := #[{ name := "type", type := .int, accessFlags := 18, slot := 0, constantValue := 0 }, { name := "value", type := (.array .byte), accessFlags := 18, slot := 1, constantValue := 0 }]
  methods := #[k3m0, k3m1, k3m2, k3m3]
  instanceTypes := #[.int, (.array .byte)]
  staticTypes := #[]
  resolved := Array.replicate 89 none
  statics := none }

def pool4 : Array CpInfo := pool [(1, u "java/lang/Cloneable"), (0, .class_ 1), (0, u "java/lang/Object"), (0, .class_ 3)] 3

/-- java/lang/Cloneable -/
def k4 : Class := { plain "java/lang/Cloneable" (some 0) with
  accessFlags := 1537
  interfaces := #[]
  cf := some (fileOf pool4 2 #[] #[] 1537 4 #[] #[])
  fields := #[]
  methods := #[]
  instanceTypes := #[]
  staticTypes := #[]
  resolved := Array.replicate 8 none
  statics := none }

def pool5 : Array CpInfo := pool [(1, u "java/io/Serializable"), (0, .class_ 1), (0, u "java/lang/Object"), (0, .class_ 3)] 3

/-- java/io/Serializable -/
def k5 : Class := { plain "java/io/Serializable" (some 0) with
  accessFlags := 1537
  interfaces := #[]
  cf := some (fileOf pool5 2 #[] #[] 1537 4 #[] #[])
  fields := #[]
  methods := #[]
  instanceTypes := #[]
  staticTypes := #[]
  resolved := Array.replicate 8 none
  statics := none }

/-- the primitive byte -/
def k6 : Class := { plain "byte" none with kind := .primitive 'B', accessFlags := 0x411 }
/-- [B -/
def k7 : Class := { plain "[B" (some 0) with kind := .array 6 .byte, interfaces := #[4, 5], accessFlags := 1041 }

/-- the primitive int -/
def k8 : Class := { plain "int" none with kind := .primitive 'I', accessFlags := 0x411 }
/-- [I -/
def k9 : Class := { plain "[I" (some 0) with kind := .array 8 .int, interfaces := #[4, 5], accessFlags := 1041 }

def heap : Heap := #[]
def classes : Array Class := #[k0, k1, k2, k3, k4, k5, k6, k7, k8, k9]
def interned : List (Array UInt16 × Addr) := []
def slotsUsed : Nat := 0
def theMethod : MethodId := ⟨1, 1⟩
def args0 : Array Value := #[.int 5, .long 6]
def aboutOver (below : List Frame) : State where
  vm := { classes := classes, interned := interned.toArray }
  heap := heap
  slotsUsed := slotsUsed
  threads := #[{ frames := .invoking theMethod args0 :: below }]
def below0 : List Frame := [.native { method := ⟨0, 0⟩, args := #[] }]
def about1 : State := aboutOver below0
def p0 : Program := .bare "" "" ""
def e0 : Env := launch0.env 0 0 0
theorem w_frames : about1.frames = Frame.invoking theMethod args0 :: below0 := rfl
set_option maxRecDepth 65536 in
theorem w_args : argsFit about1.vm theMethod args0 = true := by decide +kernel
set_option maxRecDepth 65536 in
theorem w_heap : heapFits about1 = true := by decide +kernel
set_option maxRecDepth 65536 in
theorem w_runnable : about1.curStatus? = some .runnable := by decide +kernel
set_option maxRecDepth 65536 in
theorem w_alone : about1.alone = true := by decide +kernel
set_option maxRecDepth 65536 in
theorem w_named : about1.methodNamed? x = some theMethod := by decide +kernel
set_option maxRecDepth 65536 in
theorem w_hears : about1.hears theMethod below0 = true := by decide +kernel
set_option maxRecDepth 65536 in
theorem w_ripe : about1.ripe theMethod args0 below0 = true := by decide +kernel
theorem w_running : about1.status = .running := rfl
set_option maxRecDepth 65536 in
theorem w_room : about1.hasRoom e0.platform room_1 = true :=
  launch0.hasRoom_least _ room_1 (by decide +kernel) (by decide +kernel) (by decide +kernel) (by decide +kernel) (by decide +kernel) (by decide +kernel)
theorem allAtoms_all (ts : List Jvm.Cond) (a : Array Jvm.Value) (st : Jvm.State) : (allAtoms ts).before a st = ts.all (fun c => c.before a st) := by
  induction ts with
  | nil => rfl
  | cons c t ih =>
    show (Jvm.Cond.and c (allAtoms t)).before a st = _
    rw [Jvm.Cond.before_and, ih, List.all_cons]
def words1 : List Jvm.Cond := Jvm.Cond.code x code maxLocals ret :: tables_1
/-- a 'code' word, met by the world's own term for the bytes: nothing is compared byte by byte -/
theorem code_word {y : MethodName} {bytes : ByteArray} {mx : Nat} {rt : Option FieldType} {a : Array Value} {s : State} {m : MethodId} {meth : Method} {c : Code} (h1 : s.methodNamed? y = some m) (h2 : s.vm.method? m = some meth) (h3 : meth.code = some c) (h4 : c.code = bytes)
    (h5 : (c.maxLocals == mx && c.exceptionTable.isEmpty && decide (c.maxStack ≤ mostOperands) && decide (meth.sig.returnType = rt) && !meth.locks && decide (parseMethodDescriptor y.desc = some meth.sig)) = true) : (Jvm.Cond.code y bytes mx rt).before a s = true := by
  simp only [Bool.and_eq_true, beq_iff_eq, Bool.not_eq_true', decide_eq_true_eq] at h5
  obtain ⟨⟨⟨⟨⟨g1, g2⟩, g3⟩, g4⟩, g5⟩, g6⟩ := h5
  simp [Cond.before, Cond.holds, Cond.value, h1, h2, h3, h4, g1, g2, g3, g4, g5, g6]
def isCode : Jvm.Cond → Bool
  | .code _ _ _ _ => true
  | _ => false
theorem all_split {L : List Jvm.Cond} {P : Jvm.Cond → Bool} (h1 : L.all (fun c => isCode c || P c) = true) (h2 : ∀ c ∈ L.filter isCode, P c = true) : L.all P = true := by
  refine List.all_eq_true.mpr fun c hc => ?_
  have h := List.all_eq_true.mp h1 c hc
  rcases Bool.eq_false_or_eq_true (isCode c) with hi | hi
  · exact h2 c (List.mem_filter.mpr ⟨hc, hi⟩)
  · simpa [hi] using h
set_option maxRecDepth 65536 in
theorem w_c0 : (Jvm.Cond.code x code maxLocals ret).before args0 about1 = true := code_word (m := ⟨1, 1⟩) (meth := k1m1) (c := k1c1) (by decide +kernel) rfl rfl rfl (by decide +kernel)
set_option maxRecDepth 65536 in
theorem w_c1 : (Jvm.Cond.code ({ cls := "com/example/tallykey/tallykey/io/RadiusPacket$Attribute", name := "integer", desc := "(IJ)Lcom/example/tallykey/tallykey/io/RadiusPacket$Attribute;" } : Jvm.MethodName) prog_7_method_3_code (3 : Nat) (Option.some (Jvm.ClassFile.FieldType.object "com/example/tallykey/tallykey/io/RadiusPacket$Attribute"))).before args0 about1 = true := code_word (m := ⟨3, 1⟩) (meth := k3m1) (c := k3c1) (by decide +kernel) rfl rfl rfl (by decide +kernel)
set_option maxRecDepth 65536 in
theorem w_c2 : (Jvm.Cond.code ({ cls := "com/example/tallykey/tallykey/io/RadiusPacket$Attribute", name := "<init>", desc := "(I[B)V" } : Jvm.MethodName) prog_7_method_1_code (3 : Nat) (Option.none : Option Jvm.ClassFile.FieldType)).before args0 about1 = true := code_word (m := ⟨3, 0⟩) (meth := k3m0) (c := k3c0) (by decide +kernel) rfl rfl rfl (by decide +kernel)
set_option maxRecDepth 65536 in
theorem w_c3 : (Jvm.Cond.code ({ cls := "java/lang/Record", name := "<init>", desc := "()V" } : Jvm.MethodName) jdk_30_method_1_code (1 : Nat) (Option.none : Option Jvm.ClassFile.FieldType)).before args0 about1 = true := code_word (m := ⟨2, 0⟩) (meth := k2m0) (c := k2c0) (by decide +kernel) rfl rfl rfl (by decide +kernel)
set_option maxRecDepth 65536 in
theorem w_c4 : (Jvm.Cond.code ({ cls := "java/lang/Object", name := "<init>", desc := "()V" } : Jvm.MethodName) object_method_1_code (1 : Nat) (Option.none : Option Jvm.ClassFile.FieldType)).before args0 about1 = true := code_word (m := ⟨0, 0⟩) (meth := k0m0) (c := k0c0) (by decide +kernel) rfl rfl rfl (by decide +kernel)
set_option maxRecDepth 65536 in
theorem w_c5 : (Jvm.Cond.code ({ cls := "com/example/tallykey/tallykey/io/RadiusPacket$Attribute", name := "type", desc := "()I" } : Jvm.MethodName) prog_7_method_7_code (1 : Nat) (Option.some Jvm.ClassFile.FieldType.int)).before args0 about1 = true := code_word (m := ⟨3, 2⟩) (meth := k3m2) (c := k3c2) (by decide +kernel) rfl rfl rfl (by decide +kernel)
set_option maxRecDepth 65536 in
theorem w_c6 : (Jvm.Cond.code ({ cls := "com/example/tallykey/tallykey/io/RadiusPacket$Attribute", name := "value", desc := "()[B" } : Jvm.MethodName) prog_7_method_8_code (1 : Nat) (Option.some (Jvm.ClassFile.FieldType.array Jvm.ClassFile.FieldType.byte))).before args0 about1 = true := code_word (m := ⟨3, 3⟩) (meth := k3m3) (c := k3c3) (by decide +kernel) rfl rfl rfl (by decide +kernel)
def codes1 : List Jvm.Cond := [Jvm.Cond.code x code maxLocals ret, Jvm.Cond.code ({ cls := "com/example/tallykey/tallykey/io/RadiusPacket$Attribute", name := "integer", desc := "(IJ)Lcom/example/tallykey/tallykey/io/RadiusPacket$Attribute;" } : Jvm.MethodName) prog_7_method_3_code (3 : Nat) (Option.some (Jvm.ClassFile.FieldType.object "com/example/tallykey/tallykey/io/RadiusPacket$Attribute")), Jvm.Cond.code ({ cls := "com/example/tallykey/tallykey/io/RadiusPacket$Attribute", name := "<init>", desc := "(I[B)V" } : Jvm.MethodName) prog_7_method_1_code (3 : Nat) (Option.none : Option Jvm.ClassFile.FieldType), Jvm.Cond.code ({ cls := "java/lang/Record", name := "<init>", desc := "()V" } : Jvm.MethodName) jdk_30_method_1_code (1 : Nat) (Option.none : Option Jvm.ClassFile.FieldType), Jvm.Cond.code ({ cls := "java/lang/Object", name := "<init>", desc := "()V" } : Jvm.MethodName) object_method_1_code (1 : Nat) (Option.none : Option Jvm.ClassFile.FieldType), Jvm.Cond.code ({ cls := "com/example/tallykey/tallykey/io/RadiusPacket$Attribute", name := "type", desc := "()I" } : Jvm.MethodName) prog_7_method_7_code (1 : Nat) (Option.some Jvm.ClassFile.FieldType.int), Jvm.Cond.code ({ cls := "com/example/tallykey/tallykey/io/RadiusPacket$Attribute", name := "value", desc := "()[B" } : Jvm.MethodName) prog_7_method_8_code (1 : Nat) (Option.some (Jvm.ClassFile.FieldType.array Jvm.ClassFile.FieldType.byte))]
set_option maxRecDepth 65536 in
theorem codes_eq : words1.filter isCode = codes1 := rfl
theorem w_codes : ∀ c ∈ words1.filter isCode, c.before args0 about1 = true := by
  rw [codes_eq]
  intro c hc
  simp only [codes1, List.mem_cons, List.not_mem_nil, or_false] at hc
  rcases hc with rfl | rfl | rfl | rfl | rfl | rfl | rfl
  · exact w_c0
  · exact w_c1
  · exact w_c2
  · exact w_c3
  · exact w_c4
  · exact w_c5
  · exact w_c6
set_option maxRecDepth 65536 in
theorem w_t1 : (words1.take 24).all (fun c => isCode c || c.before args0 about1) = true := by decide +kernel
set_option maxRecDepth 65536 in
theorem w_t2 : (words1.drop 24).all (fun c => isCode c || c.before args0 about1) = true := by decide +kernel
theorem w_tables : (allAtoms (Jvm.Cond.code x code maxLocals ret :: tables_1)).before args0 about1 = true := by
  rw [allAtoms_all]
  show words1.all (fun c => c.before args0 about1) = true
  refine all_split ?_ w_codes
  rw [← List.take_append_drop 24 words1, List.all_append, w_t1, w_t2]
  rfl
set_option maxRecDepth 65536 in
theorem w_case : (Jvm.Cond.and given_1 narrow_1).before args0 about1 = true := by decide +kernel
theorem w_applies : (headSpec (Jvm.Cond.code x code maxLocals ret :: tables_1) room_1).applies x e0.platform about1 = true :=
  (Spec.applies_iff w_frames).mpr ⟨w_running, w_runnable, w_alone, w_named, w_hears, w_ripe, w_room, w_tables⟩
theorem atStart : AtStart classFile x code maxLocals ret World_1 tables_1 room_1 Calls_1 rest_1 Pre_1 launch0 p0 e0 about1 theMethod args0 below0 :=
  ⟨lists_1, trivial, launch0.admits_env _ _ _, launch0.least_env, fairChoices_fair.cas, fairChoices_fair.clock, w_frames, w_args, w_heap, w_applies, trivial, trivial, w_case⟩
end start1
theorem witness_1 : WitnessClaimed_1 := ⟨start1.p0, start1.e0, start1.about1, start1.theMethod, start1.args0, start1.below0, start1.atStart⟩
end Jvm.Pilot.@@N@@
