import JvmDerived
import JvmDerived.Pilot.@@N@@Statement
import JvmDerived.Pilot.@@N@@Code
set_option linter.unusedVariables false
set_option linter.unusedSimpArgs false
@@BLOCK:NumsL.lean.txt@@
namespace Jvm.RoadKit
open Sem ClassFile Op Lib Jvm.Stand Jvm.Free Jvm.LawKit
section New
variable {p : Program} {l : Launch} {e : Env} {R : Room} {s : State} {m : MethodId} {args : Array Value} {below : List Frame} {meth : Method} {c : Code} {T : State} {locs : List Loc} {cells slots : Nat}
theorem retI (X : Stand p l e R s m args below meth c T locs cells slots) (hx : p.tables.exec = Jvm.exec) {pc : Nat} {Ls : Array Slot} {z : Int32} {rest : List Value} (hret : meth.sig.returnType = some .int) (hd : decode c.code pc = .ok (.ireturn, 1)) {fs : List Frame}
    (hl : ∀ (f : JFrame) (acts : List Action), f.method = m → f.locked = none → f.entered = [] → (doReturn e (T.setTop f) acts (some (.int z))).1 = T.setFrames fs) : Steps p.tables e below (T.setTop (mkF m pc Ls (.int z :: rest))) (T.setFrames fs) := by
  have hm' : T.vm.method? m = some meth := X.method'
  have hn : narrow .int (.int z) = .int z := rfl
  show Steps _ _ _ (T.setTop { method := m, pc := pc, locals := Ls, stack := _ :: rest, locked := none }) _
  jvm_step X.here [X.here.top, hx, hd, hm', hret, hn]
  first | (intro acts; rw [hl _ acts rfl rfl rfl]) | rw [hl _ _ rfl rfl rfl]
  exact Steps.refl _
end New
end Jvm.RoadKit
namespace Jvm.Pilot.@@N@@
open Jvm Jvm.ClassFile Sem Op Lib Jvm.Free Jvm.Stand Jvm.LawKit Jvm.RoadKit Bundle Jvm.Pilot.@@N@@.Jvm.D
theorem ww {Z : State} {a0 : Array Value} (hw : ∀ d ∈ tables_1, d.before a0 Z = true) (i : Nat) {d : Jvm.Cond} (h : tables_1[i]? = some d) : d.before a0 Z = true := hw _ (List.mem_of_getElem? h)
theorem d2_0 : decode jdk_30_method_1_code 0 = .ok (.aload_n 0, 1) := by decide +kernel
theorem d2_1 : decode jdk_30_method_1_code 1 = .ok (.invokespecial 1, 3) := by decide +kernel
theorem d2_4 : decode jdk_30_method_1_code 4 = .ok (.return_, 1) := by decide +kernel
theorem pn_2 : plainName "java/lang/Record" = true := by first | (simp [plainName, overriddenIn]; done) | decide +kernel
theorem ef_2 (m : MethodId) (x0 : Addr) : entryFrame m #[(.ref x0)] 1 = mkF m 0 #[.val (.ref x0)] [] := by first | (simp [entryFrame, mkF, argsToLocals, Value.category]; done) | rfl
-- 2. THE CONTRACT: what this body leaves is yours
def Q2 (Z : State) (a1 : Addr) (h0 : Heap) (n0 : Nat) (v : Option Value) (h : Heap) (L : List Loc) : Prop := v = none ∧ Fr n0 L ∧ h = h0
set_option maxRecDepth 65536 in
set_option maxHeartbeats 40000000 in
theorem rm2 (l : Launch) (Z : State) (a0 : Array Value) (hw : ∀ d ∈ tables_1, d.before a0 Z = true) (ws : List Jvm.Cond) (a1 : Addr) (h0 : Heap) (n0 : Nat) (Z0 : n0 ≤ h0.size) :
    MetFree l (⟨"java/lang/Record", "<init>", "()V"⟩ : MethodName) (head1 (Jvm.Cond.code (⟨"java/lang/Record", "<init>", "()V"⟩ : MethodName) jdk_30_method_1_code 1 none :: ws) ({ frames := 1, cells := 0, slots := 0, locals := 12 } : Room)) (fun a U => a = #[(.ref a1)] ∧ Z.Warmed39 U.vm ∧ U.heap = h0) (fun _ _ _ _ _ => True) (fun _ U o U' => ∃ v L, o = .returned v ∧ Q2 Z a1 h0 n0 v U'.heap L ∧ FrameEnd U o U' L ({ frames := 1, cells := 0, slots := 0, locals := 12 } : Room).cells ({ frames := 1, cells := 0, slots := 0, locals := 12 } : Room).slots) := by
  refine MetFree.of_bodySF (plainFor_of_name pn_2) hisR ?_
  intro p e s m args below meth c s₁ Bd hml0 hP hK
  obtain ⟨rfl, hZ, hh⟩ := hP
  have hx := Bd.exec
  have hby := Bd.bytes
  have hml : c.maxLocals = 1 := hml0
  have hown : s.vm.findClass "java/lang/Record" = some m.cls := findClass_of_methodNamed Bd.named
  have hnm := (name_of_methodNamed Bd.named Bd.method).1
  have X0 : Stand p l e ({ frames := 1, cells := 0, slots := 0, locals := 12 } : Room) s m #[(.ref a1)] below meth c s₁ [] 0 0 := Stand.of_body Bd
  have e0 : s₁.heap = h0 := by rw [← hh, Bd.state]; rfl
  have N0 := Fr.nil n0
  have pre0 : ∀ t, Steps p.tables e below (s₁.setTop (mkF m 0 #[.val (.ref a1)] [])) t → Steps p.tables e below (s₁.setTop (entryFrame m #[(.ref a1)] 1)) t := fun t k => castTop (ef_2 m a1) k
  obtain ⟨T2, X2, e2, st2⟩ := initO X0 hx hZ hown (ww hw 12 rfl) (ww hw 13 rfl) (ww hw 14 rfl) e0 (g := (mkF m 1 #[.val (.ref a1)] [(.ref a1)])) rfl (by rw [hml]; rfl) rfl (hb hby d2_1) (by decide) (W := 0) (by show 2 * 0 + _ ≤ _; exact Nat.le_of_eq rfl) (by decide)
  obtain ⟨fs, hr, hrun, hended, hW, hsame⟩ := X2.leave (v := none) (fun _ => rfl)
  refine ⟨_, _, pre0 _ ?_, hrun, hended, _, _, rfl, ?_, ⟨_, rfl⟩, hW, hsame.mono (by decide) (by decide)⟩
  · show Steps _ _ _ (s₁.setTop (mkF m 0 #[.val (.ref a1)] [])) _
    refine XS.aloadN X0.here hx rfl (hb hby d2_0) rfl rfl ?_
    show Steps _ _ _ (s₁.setTop (mkF m 1 #[.val (.ref a1)] [(.ref a1)])) _
    refine st2 _ ?_
    show Steps _ _ _ (T2.setTop (mkF m 4 #[.val (.ref a1)] [])) _
    exact X2.returnOut hx Bd.returns (hb hby d2_4) hr
  · show Q2 Z a1 h0 n0 _ T2.heap _
    rw [e2]
    exact ⟨rfl, N0, rfl⟩
theorem d1_0 : decode prog_73_method_2_code 0 = .ok (.aload_n 0, 1) := by decide +kernel
theorem d1_1 : decode prog_73_method_2_code 1 = .ok (.invokespecial 1, 3) := by decide +kernel
theorem d1_4 : decode prog_73_method_2_code 4 = .ok (.aload_n 0, 1) := by decide +kernel
theorem d1_5 : decode prog_73_method_2_code 5 = .ok (.lload_n 1, 1) := by decide +kernel
theorem d1_6 : decode prog_73_method_2_code 6 = .ok (.putfield 7, 3) := by decide +kernel
theorem d1_9 : decode prog_73_method_2_code 9 = .ok (.aload_n 0, 1) := by decide +kernel
theorem d1_10 : decode prog_73_method_2_code 10 = .ok (.lload_n 3, 1) := by decide +kernel
theorem d1_11 : decode prog_73_method_2_code 11 = .ok (.putfield 13, 3) := by decide +kernel
theorem d1_14 : decode prog_73_method_2_code 14 = .ok (.aload_n 0, 1) := by decide +kernel
theorem d1_15 : decode prog_73_method_2_code 15 = .ok (.lload 5, 2) := by decide +kernel
theorem d1_17 : decode prog_73_method_2_code 17 = .ok (.putfield 16, 3) := by decide +kernel
theorem d1_20 : decode prog_73_method_2_code 20 = .ok (.aload_n 0, 1) := by decide +kernel
theorem d1_21 : decode prog_73_method_2_code 21 = .ok (.iload 7, 2) := by decide +kernel
theorem d1_23 : decode prog_73_method_2_code 23 = .ok (.putfield 19, 3) := by decide +kernel
theorem d1_26 : decode prog_73_method_2_code 26 = .ok (.aload_n 0, 1) := by decide +kernel
theorem d1_27 : decode prog_73_method_2_code 27 = .ok (.iload 8, 2) := by decide +kernel
theorem d1_29 : decode prog_73_method_2_code 29 = .ok (.putfield 23, 3) := by decide +kernel
theorem d1_32 : decode prog_73_method_2_code 32 = .ok (.aload_n 0, 1) := by decide +kernel
theorem d1_33 : decode prog_73_method_2_code 33 = .ok (.iload 9, 2) := by decide +kernel
theorem d1_35 : decode prog_73_method_2_code 35 = .ok (.putfield 26, 3) := by decide +kernel
theorem d1_38 : decode prog_73_method_2_code 38 = .ok (.aload_n 0, 1) := by decide +kernel
theorem d1_39 : decode prog_73_method_2_code 39 = .ok (.iload 10, 2) := by decide +kernel
theorem d1_41 : decode prog_73_method_2_code 41 = .ok (.putfield 29, 3) := by decide +kernel
theorem d1_44 : decode prog_73_method_2_code 44 = .ok (.aload_n 0, 1) := by decide +kernel
theorem d1_45 : decode prog_73_method_2_code 45 = .ok (.iload 11, 2) := by decide +kernel
theorem d1_47 : decode prog_73_method_2_code 47 = .ok (.putfield 32, 3) := by decide +kernel
theorem d1_50 : decode prog_73_method_2_code 50 = .ok (.return_, 1) := by decide +kernel
theorem pn_1 : plainName "com/example/binario/binario/rules/Score" = true := by first | (simp [plainName, overriddenIn]; done) | decide +kernel
theorem pd_1_1 : parseMethodDescriptor "()V" = some ⟨[], none⟩ := by decide +kernel
theorem ef_1 (m : MethodId) (x0 : Addr) (x1 : Int64) (x2 : Int64) (x3 : Int64) (x4 : Int32) (x5 : Int32) (x6 : Int32) (x7 : Int32) (x8 : Int32) : entryFrame m #[(.ref x0), (.long x1), (.long x2), (.long x3), (.int x4), (.int x5), (.int x6), (.int x7), (.int x8)] 12 = mkF m 0 #[.val (.ref x0), .val (.long x1), .second, .val (.long x2), .second, .val (.long x3), .second, .val (.int x4), .val (.int x5), .val (.int x6), .val (.int x7), .val (.int x8)] [] := by first | (simp [entryFrame, mkF, argsToLocals, Value.category]; done) | rfl
-- 2. THE CONTRACT: what this body leaves is yours
def Q1 (Z : State) (a1 : Addr) (q2 : Int64) (q3 : Int64) (q4 : Int64) (p5 : Int32) (p6 : Int32) (p7 : Int32) (p8 : Int32) (p9 : Int32) (u_routes_a1 : Value) (u_completed_a1 : Value) (u_failed_a1 : Value) (u_completedTickets_a1 : Value) (u_bonus_a1 : Value) (u_passengers_a1 : Value) (u_passengerCount_a1 : Value) (u_attractions_a1 : Value) (h0 : Heap) (n0 : Nat) (v : Option Value) (h : Heap) (L : List Loc) : Prop := v = none ∧ Fr n0 L ∧ Keep h0 h [a1] ∧ Exa Z h a1 "com/example/binario/binario/rules/Score" ∧ Fld Z h a1 "com/example/binario/binario/rules/Score" "routes" "J" (.long q2) ∧ Fld Z h a1 "com/example/binario/binario/rules/Score" "completed" "J" (.long q3) ∧ Fld Z h a1 "com/example/binario/binario/rules/Score" "failed" "J" (.long q4) ∧ Fld Z h a1 "com/example/binario/binario/rules/Score" "completedTickets" "I" (.int p5) ∧ Fld Z h a1 "com/example/binario/binario/rules/Score" "bonus" "I" (.int p6) ∧ Fld Z h a1 "com/example/binario/binario/rules/Score" "passengers" "I" (.int p7) ∧ Fld Z h a1 "com/example/binario/binario/rules/Score" "passengerCount" "I" (.int p8) ∧ Fld Z h a1 "com/example/binario/binario/rules/Score" "attractions" "I" (.int p9)
-- its room: frames: the greatest, locals: the greatest, cells 0 + .., slots 0 + ..: rm2: frames + 1; locals 0 + 1 + 11 + its room's locals; its cells and slots besides
set_option maxRecDepth 65536 in
set_option maxHeartbeats 40000000 in
theorem rm1 (l : Launch) (Z : State) (a0 : Array Value) (hw : ∀ d ∈ tables_1, d.before a0 Z = true) (ws : List Jvm.Cond) (a1 : Addr) (q2 : Int64) (q3 : Int64) (q4 : Int64) (p5 : Int32) (p6 : Int32) (p7 : Int32) (p8 : Int32) (p9 : Int32) (u_routes_a1 : Value) (u_completed_a1 : Value) (u_failed_a1 : Value) (u_completedTickets_a1 : Value) (u_bonus_a1 : Value) (u_passengers_a1 : Value) (u_passengerCount_a1 : Value) (u_attractions_a1 : Value) (h0 : Heap) (n0 : Nat) (Z0 : n0 ≤ h0.size) (E_a1 : Exa Z h0 a1 "com/example/binario/binario/rules/Score") (F_routes_a1 : Fld Z h0 a1 "com/example/binario/binario/rules/Score" "routes" "J" u_routes_a1) (g_a1 : n0 ≤ a1) (F_completed_a1 : Fld Z h0 a1 "com/example/binario/binario/rules/Score" "completed" "J" u_completed_a1) (F_failed_a1 : Fld Z h0 a1 "com/example/binario/binario/rules/Score" "failed" "J" u_failed_a1) (F_completedTickets_a1 : Fld Z h0 a1 "com/example/binario/binario/rules/Score" "completedTickets" "I" u_completedTickets_a1) (F_bonus_a1 : Fld Z h0 a1 "com/example/binario/binario/rules/Score" "bonus" "I" u_bonus_a1) (F_passengers_a1 : Fld Z h0 a1 "com/example/binario/binario/rules/Score" "passengers" "I" u_passengers_a1) (F_passengerCount_a1 : Fld Z h0 a1 "com/example/binario/binario/rules/Score" "passengerCount" "I" u_passengerCount_a1) (F_attractions_a1 : Fld Z h0 a1 "com/example/binario/binario/rules/Score" "attractions" "I" u_attractions_a1) :
    MetFree l (⟨"com/example/binario/binario/rules/Score", "<init>", "(JJJIIIII)V"⟩ : MethodName) (head1 (Jvm.Cond.code (⟨"com/example/binario/binario/rules/Score", "<init>", "(JJJIIIII)V"⟩ : MethodName) prog_73_method_2_code 12 none :: ws) ({ frames := 2, cells := 0, slots := 0, locals := 24 } : Room)) (fun a U => a = #[(.ref a1), (.long q2), (.long q3), (.long q4), (.int p5), (.int p6), (.int p7), (.int p8), (.int p9)] ∧ Z.Warmed39 U.vm ∧ U.heap = h0) (fun _ _ _ _ _ => True) (fun _ U o U' => ∃ v L, o = .returned v ∧ Q1 Z a1 q2 q3 q4 p5 p6 p7 p8 p9 u_routes_a1 u_completed_a1 u_failed_a1 u_completedTickets_a1 u_bonus_a1 u_passengers_a1 u_passengerCount_a1 u_attractions_a1 h0 n0 v U'.heap L ∧ FrameEnd U o U' L ({ frames := 2, cells := 0, slots := 0, locals := 24 } : Room).cells ({ frames := 2, cells := 0, slots := 0, locals := 24 } : Room).slots) := by
  refine MetFree.of_bodySF (plainFor_of_name pn_1) hisR ?_
  intro p e s m args below meth c s₁ Bd hml0 hP hK
  obtain ⟨rfl, hZ, hh⟩ := hP
  have hx := Bd.exec
  have hby := Bd.bytes
  have hml : c.maxLocals = 12 := hml0
  have hown : s.vm.findClass "com/example/binario/binario/rules/Score" = some m.cls := findClass_of_methodNamed Bd.named
  have hnm := (name_of_methodNamed Bd.named Bd.method).1
  have X0 : Stand p l e ({ frames := 2, cells := 0, slots := 0, locals := 24 } : Room) s m #[(.ref a1), (.long q2), (.long q3), (.long q4), (.int p5), (.int p6), (.int p7), (.int p8), (.int p9)] below meth c s₁ [] 0 0 := Stand.of_body Bd
  have e0 : s₁.heap = h0 := by rw [← hh, Bd.state]; rfl
  have N0 := Fr.nil n0
  have pre0 : ∀ t, Steps p.tables e below (s₁.setTop (mkF m 0 #[.val (.ref a1), .val (.long q2), .second, .val (.long q3), .second, .val (.long q4), .second, .val (.int p5), .val (.int p6), .val (.int p7), .val (.int p8), .val (.int p9)] [])) t → Steps p.tables e below (s₁.setTop (entryFrame m #[(.ref a1), (.long q2), (.long q3), (.long q4), (.int p5), (.int p6), (.int p7), (.int p8), (.int p9)] 12)) t := fun t k => castTop (ef_1 m a1 q2 q3 q4 p5 p6 p7 p8 p9) k
  obtain ⟨_, _, ⟨T10, L10, k10, n10⟩, -, X10, ⟨Lc10, hQ10, l10, y10, z10⟩, st10⟩ := X0.specialBack hx (y := (⟨"java/lang/Record", "<init>", "()V"⟩ : MethodName)) rfl hown (mvT hZ (ww hw 7 rfl)) (mvT hZ (ww hw 8 rfl)) (mvT hZ (ww hw 11 rfl)) (by decide) (backOf (W := 0) (rm2 l Z a0 hw [] a1  h0 n0 Z0) hZ (ww hw 11 rfl) (ww hw 10 rfl) (by decide) (by decide)) (g := (mkF m 1 #[.val (.ref a1), .val (.long q2), .second, .val (.long q3), .second, .val (.long q4), .second, .val (.int p5), .val (.int p6), .val (.int p7), .val (.int p8), .val (.int p9)] [(.ref a1)])) rfl (by rw [hml]; rfl) (Steps.refl _) (a := a1) (argsL := []) (rest := []) (lenOf pd_1_1 rfl) rfl (by show 2 * 0 + _ ≤ _; exact Nat.le_of_eq rfl) (hb hby d1_1) (fun _ _ => ⟨rfl, e0, (by decide : 0 + 0 ≤ _), (by decide : 0 + 0 ≤ _)⟩)
  dsimp only [Pt.U, Pt.locs, Pt.cells, Pt.slots] at X10 l10 y10 z10 st10 hQ10
  subst l10 y10 z10
  obtain ⟨rfl, N10q, eh10⟩ := hQ10
  have N10 := Fr.app N0 N10q
  obtain ⟨T11, h11, X11, e11, W11, st11⟩ := putF X10 hx hZ hown (host := "") (Or.inl (ww hw 15 rfl)) Via.refl eh10 F_routes_a1 E_a1 (Or.inr ⟨(ww hw 16 rfl), rfl, hnm⟩) (ww hw 2 rfl) (ty := .long) (by decide) rfl rfl (g := (mkF m 6 #[.val (.ref a1), .val (.long q2), .second, .val (.long q3), .second, .val (.long q4), .second, .val (.int p5), .val (.int p6), .val (.int p7), .val (.int p8), .val (.int p9)] [(.long q2), (.ref a1)])) rfl rfl (hb hby d1_6)
  have Fw11 := F_routes_a1.same W11
  have K11 : Keep h0 h11 [a1] := (Keep.refl h0 [a1]).wr W11 (Or.inl (List.mem_of_getElem? (i := 0) rfl))
  have N11 := Fr.snoc X11 N10 g_a1
  obtain ⟨T12, h12, X12, e12, W12, st12⟩ := putF X11 hx hZ hown (host := "") (Or.inl (ww hw 17 rfl)) Via.refl e11 (F_completed_a1.other W11 (Or.inr (slot_ne (Or.inr (ww hw 18 rfl)) (Or.inr (ww hw 16 rfl)) (by decide) (t := .long) (t' := .long) (by decide) (by decide)))) (E_a1.wr W11) (Or.inr ⟨(ww hw 18 rfl), rfl, hnm⟩) (ww hw 2 rfl) (ty := .long) (by decide) rfl rfl (g := (mkF m 11 #[.val (.ref a1), .val (.long q2), .second, .val (.long q3), .second, .val (.long q4), .second, .val (.int p5), .val (.int p6), .val (.int p7), .val (.int p8), .val (.int p9)] [(.long q3), (.ref a1)])) rfl rfl (hb hby d1_11)
  have Fw12 := (F_completed_a1.other W11 (Or.inr (slot_ne (Or.inr (ww hw 18 rfl)) (Or.inr (ww hw 16 rfl)) (by decide) (t := .long) (t' := .long) (by decide) (by decide)))).same W12
  have K12 : Keep h0 h12 [a1] := K11.wr W12 (Or.inl (List.mem_of_getElem? (i := 0) rfl))
  have N12 := Fr.snoc X12 N11 g_a1
  obtain ⟨T13, h13, X13, e13, W13, st13⟩ := putF X12 hx hZ hown (host := "") (Or.inl (ww hw 19 rfl)) Via.refl e12 ((F_failed_a1.other W11 (Or.inr (slot_ne (Or.inr (ww hw 20 rfl)) (Or.inr (ww hw 16 rfl)) (by decide) (t := .long) (t' := .long) (by decide) (by decide)))).other W12 (Or.inr (slot_ne (Or.inr (ww hw 20 rfl)) (Or.inr (ww hw 18 rfl)) (by decide) (t := .long) (t' := .long) (by decide) (by decide)))) ((E_a1.wr W11).wr W12) (Or.inr ⟨(ww hw 20 rfl), rfl, hnm⟩) (ww hw 2 rfl) (ty := .long) (by decide) rfl rfl (g := (mkF m 17 #[.val (.ref a1), .val (.long q2), .second, .val (.long q3), .second, .val (.long q4), .second, .val (.int p5), .val (.int p6), .val (.int p7), .val (.int p8), .val (.int p9)] [(.long q4), (.ref a1)])) rfl rfl (hb hby d1_17)
  have Fw13 := ((F_failed_a1.other W11 (Or.inr (slot_ne (Or.inr (ww hw 20 rfl)) (Or.inr (ww hw 16 rfl)) (by decide) (t := .long) (t' := .long) (by decide) (by decide)))).other W12 (Or.inr (slot_ne (Or.inr (ww hw 20 rfl)) (Or.inr (ww hw 18 rfl)) (by decide) (t := .long) (t' := .long) (by decide) (by decide)))).same W13
  have K13 : Keep h0 h13 [a1] := K12.wr W13 (Or.inl (List.mem_of_getElem? (i := 0) rfl))
  have N13 := Fr.snoc X13 N12 g_a1
  obtain ⟨T14, h14, X14, e14, W14, st14⟩ := putF X13 hx hZ hown (host := "") (Or.inl (ww hw 21 rfl)) Via.refl e13 (((F_completedTickets_a1.other W11 (Or.inr (slot_ne (Or.inr (ww hw 22 rfl)) (Or.inr (ww hw 16 rfl)) (by decide) (t := .int) (t' := .long) (by decide) (by decide)))).other W12 (Or.inr (slot_ne (Or.inr (ww hw 22 rfl)) (Or.inr (ww hw 18 rfl)) (by decide) (t := .int) (t' := .long) (by decide) (by decide)))).other W13 (Or.inr (slot_ne (Or.inr (ww hw 22 rfl)) (Or.inr (ww hw 20 rfl)) (by decide) (t := .int) (t' := .long) (by decide) (by decide)))) (((E_a1.wr W11).wr W12).wr W13) (Or.inr ⟨(ww hw 22 rfl), rfl, hnm⟩) (ww hw 2 rfl) (ty := .int) (by decide) rfl rfl (g := (mkF m 23 #[.val (.ref a1), .val (.long q2), .second, .val (.long q3), .second, .val (.long q4), .second, .val (.int p5), .val (.int p6), .val (.int p7), .val (.int p8), .val (.int p9)] [(.int p5), (.ref a1)])) rfl rfl (hb hby d1_23)
  have Fw14 := (((F_completedTickets_a1.other W11 (Or.inr (slot_ne (Or.inr (ww hw 22 rfl)) (Or.inr (ww hw 16 rfl)) (by decide) (t := .int) (t' := .long) (by decide) (by decide)))).other W12 (Or.inr (slot_ne (Or.inr (ww hw 22 rfl)) (Or.inr (ww hw 18 rfl)) (by decide) (t := .int) (t' := .long) (by decide) (by decide)))).other W13 (Or.inr (slot_ne (Or.inr (ww hw 22 rfl)) (Or.inr (ww hw 20 rfl)) (by decide) (t := .int) (t' := .long) (by decide) (by decide)))).same W14
  have K14 : Keep h0 h14 [a1] := K13.wr W14 (Or.inl (List.mem_of_getElem? (i := 0) rfl))
  have N14 := Fr.snoc X14 N13 g_a1
  obtain ⟨T15, h15, X15, e15, W15, st15⟩ := putF X14 hx hZ hown (host := "") (Or.inl (ww hw 23 rfl)) Via.refl e14 ((((F_bonus_a1.other W11 (Or.inr (slot_ne (Or.inr (ww hw 24 rfl)) (Or.inr (ww hw 16 rfl)) (by decide) (t := .int) (t' := .long) (by decide) (by decide)))).other W12 (Or.inr (slot_ne (Or.inr (ww hw 24 rfl)) (Or.inr (ww hw 18 rfl)) (by decide) (t := .int) (t' := .long) (by decide) (by decide)))).other W13 (Or.inr (slot_ne (Or.inr (ww hw 24 rfl)) (Or.inr (ww hw 20 rfl)) (by decide) (t := .int) (t' := .long) (by decide) (by decide)))).other W14 (Or.inr (slot_ne (Or.inr (ww hw 24 rfl)) (Or.inr (ww hw 22 rfl)) (by decide) (t := .int) (t' := .int) (by decide) (by decide)))) ((((E_a1.wr W11).wr W12).wr W13).wr W14) (Or.inr ⟨(ww hw 24 rfl), rfl, hnm⟩) (ww hw 2 rfl) (ty := .int) (by decide) rfl rfl (g := (mkF m 29 #[.val (.ref a1), .val (.long q2), .second, .val (.long q3), .second, .val (.long q4), .second, .val (.int p5), .val (.int p6), .val (.int p7), .val (.int p8), .val (.int p9)] [(.int p6), (.ref a1)])) rfl rfl (hb hby d1_29)
  have Fw15 := ((((F_bonus_a1.other W11 (Or.inr (slot_ne (Or.inr (ww hw 24 rfl)) (Or.inr (ww hw 16 rfl)) (by decide) (t := .int) (t' := .long) (by decide) (by decide)))).other W12 (Or.inr (slot_ne (Or.inr (ww hw 24 rfl)) (Or.inr (ww hw 18 rfl)) (by decide) (t := .int) (t' := .long) (by decide) (by decide)))).other W13 (Or.inr (slot_ne (Or.inr (ww hw 24 rfl)) (Or.inr (ww hw 20 rfl)) (by decide) (t := .int) (t' := .long) (by decide) (by decide)))).other W14 (Or.inr (slot_ne (Or.inr (ww hw 24 rfl)) (Or.inr (ww hw 22 rfl)) (by decide) (t := .int) (t' := .int) (by decide) (by decide)))).same W15
  have K15 : Keep h0 h15 [a1] := K14.wr W15 (Or.inl (List.mem_of_getElem? (i := 0) rfl))
  have N15 := Fr.snoc X15 N14 g_a1
  obtain ⟨T16, h16, X16, e16, W16, st16⟩ := putF X15 hx hZ hown (host := "") (Or.inl (ww hw 25 rfl)) Via.refl e15 (((((F_passengers_a1.other W11 (Or.inr (slot_ne (Or.inr (ww hw 26 rfl)) (Or.inr (ww hw 16 rfl)) (by decide) (t := .int) (t' := .long) (by decide) (by decide)))).other W12 (Or.inr (slot_ne (Or.inr (ww hw 26 rfl)) (Or.inr (ww hw 18 rfl)) (by decide) (t := .int) (t' := .long) (by decide) (by decide)))).other W13 (Or.inr (slot_ne (Or.inr (ww hw 26 rfl)) (Or.inr (ww hw 20 rfl)) (by decide) (t := .int) (t' := .long) (by decide) (by decide)))).other W14 (Or.inr (slot_ne (Or.inr (ww hw 26 rfl)) (Or.inr (ww hw 22 rfl)) (by decide) (t := .int) (t' := .int) (by decide) (by decide)))).other W15 (Or.inr (slot_ne (Or.inr (ww hw 26 rfl)) (Or.inr (ww hw 24 rfl)) (by decide) (t := .int) (t' := .int) (by decide) (by decide)))) (((((E_a1.wr W11).wr W12).wr W13).wr W14).wr W15) (Or.inr ⟨(ww hw 26 rfl), rfl, hnm⟩) (ww hw 2 rfl) (ty := .int) (by decide) rfl rfl (g := (mkF m 35 #[.val (.ref a1), .val (.long q2), .second, .val (.long q3), .second, .val (.long q4), .second, .val (.int p5), .val (.int p6), .val (.int p7), .val (.int p8), .val (.int p9)] [(.int p7), (.ref a1)])) rfl rfl (hb hby d1_35)
  have Fw16 := (((((F_passengers_a1.other W11 (Or.inr (slot_ne (Or.inr (ww hw 26 rfl)) (Or.inr (ww hw 16 rfl)) (by decide) (t := .int) (t' := .long) (by decide) (by decide)))).other W12 (Or.inr (slot_ne (Or.inr (ww hw 26 rfl)) (Or.inr (ww hw 18 rfl)) (by decide) (t := .int) (t' := .long) (by decide) (by decide)))).other W13 (Or.inr (slot_ne (Or.inr (ww hw 26 rfl)) (Or.inr (ww hw 20 rfl)) (by decide) (t := .int) (t' := .long) (by decide) (by decide)))).other W14 (Or.inr (slot_ne (Or.inr (ww hw 26 rfl)) (Or.inr (ww hw 22 rfl)) (by decide) (t := .int) (t' := .int) (by decide) (by decide)))).other W15 (Or.inr (slot_ne (Or.inr (ww hw 26 rfl)) (Or.inr (ww hw 24 rfl)) (by decide) (t := .int) (t' := .int) (by decide) (by decide)))).same W16
  have K16 : Keep h0 h16 [a1] := K15.wr W16 (Or.inl (List.mem_of_getElem? (i := 0) rfl))
  have N16 := Fr.snoc X16 N15 g_a1
  obtain ⟨T17, h17, X17, e17, W17, st17⟩ := putF X16 hx hZ hown (host := "") (Or.inl (ww hw 27 rfl)) Via.refl e16 ((((((F_passengerCount_a1.other W11 (Or.inr (slot_ne (Or.inr (ww hw 28 rfl)) (Or.inr (ww hw 16 rfl)) (by decide) (t := .int) (t' := .long) (by decide) (by decide)))).other W12 (Or.inr (slot_ne (Or.inr (ww hw 28 rfl)) (Or.inr (ww hw 18 rfl)) (by decide) (t := .int) (t' := .long) (by decide) (by decide)))).other W13 (Or.inr (slot_ne (Or.inr (ww hw 28 rfl)) (Or.inr (ww hw 20 rfl)) (by decide) (t := .int) (t' := .long) (by decide) (by decide)))).other W14 (Or.inr (slot_ne (Or.inr (ww hw 28 rfl)) (Or.inr (ww hw 22 rfl)) (by decide) (t := .int) (t' := .int) (by decide) (by decide)))).other W15 (Or.inr (slot_ne (Or.inr (ww hw 28 rfl)) (Or.inr (ww hw 24 rfl)) (by decide) (t := .int) (t' := .int) (by decide) (by decide)))).other W16 (Or.inr (slot_ne (Or.inr (ww hw 28 rfl)) (Or.inr (ww hw 26 rfl)) (by decide) (t := .int) (t' := .int) (by decide) (by decide)))) ((((((E_a1.wr W11).wr W12).wr W13).wr W14).wr W15).wr W16) (Or.inr ⟨(ww hw 28 rfl), rfl, hnm⟩) (ww hw 2 rfl) (ty := .int) (by decide) rfl rfl (g := (mkF m 41 #[.val (.ref a1), .val (.long q2), .second, .val (.long q3), .second, .val (.long q4), .second, .val (.int p5), .val (.int p6), .val (.int p7), .val (.int p8), .val (.int p9)] [(.int p8), (.ref a1)])) rfl rfl (hb hby d1_41)
  have Fw17 := ((((((F_passengerCount_a1.other W11 (Or.inr (slot_ne (Or.inr (ww hw 28 rfl)) (Or.inr (ww hw 16 rfl)) (by decide) (t := .int) (t' := .long) (by decide) (by decide)))).other W12 (Or.inr (slot_ne (Or.inr (ww hw 28 rfl)) (Or.inr (ww hw 18 rfl)) (by decide) (t := .int) (t' := .long) (by decide) (by decide)))).other W13 (Or.inr (slot_ne (Or.inr (ww hw 28 rfl)) (Or.inr (ww hw 20 rfl)) (by decide) (t := .int) (t' := .long) (by decide) (by decide)))).other W14 (Or.inr (slot_ne (Or.inr (ww hw 28 rfl)) (Or.inr (ww hw 22 rfl)) (by decide) (t := .int) (t' := .int) (by decide) (by decide)))).other W15 (Or.inr (slot_ne (Or.inr (ww hw 28 rfl)) (Or.inr (ww hw 24 rfl)) (by decide) (t := .int) (t' := .int) (by decide) (by decide)))).other W16 (Or.inr (slot_ne (Or.inr (ww hw 28 rfl)) (Or.inr (ww hw 26 rfl)) (by decide) (t := .int) (t' := .int) (by decide) (by decide)))).same W17
  have K17 : Keep h0 h17 [a1] := K16.wr W17 (Or.inl (List.mem_of_getElem? (i := 0) rfl))
  have N17 := Fr.snoc X17 N16 g_a1
  obtain ⟨T18, h18, X18, e18, W18, st18⟩ := putF X17 hx hZ hown (host := "") (Or.inl (ww hw 29 rfl)) Via.refl e17 (((((((F_attractions_a1.other W11 (Or.inr (slot_ne (Or.inr (ww hw 30 rfl)) (Or.inr (ww hw 16 rfl)) (by decide) (t := .int) (t' := .long) (by decide) (by decide)))).other W12 (Or.inr (slot_ne (Or.inr (ww hw 30 rfl)) (Or.inr (ww hw 18 rfl)) (by decide) (t := .int) (t' := .long) (by decide) (by decide)))).other W13 (Or.inr (slot_ne (Or.inr (ww hw 30 rfl)) (Or.inr (ww hw 20 rfl)) (by decide) (t := .int) (t' := .long) (by decide) (by decide)))).other W14 (Or.inr (slot_ne (Or.inr (ww hw 30 rfl)) (Or.inr (ww hw 22 rfl)) (by decide) (t := .int) (t' := .int) (by decide) (by decide)))).other W15 (Or.inr (slot_ne (Or.inr (ww hw 30 rfl)) (Or.inr (ww hw 24 rfl)) (by decide) (t := .int) (t' := .int) (by decide) (by decide)))).other W16 (Or.inr (slot_ne (Or.inr (ww hw 30 rfl)) (Or.inr (ww hw 26 rfl)) (by decide) (t := .int) (t' := .int) (by decide) (by decide)))).other W17 (Or.inr (slot_ne (Or.inr (ww hw 30 rfl)) (Or.inr (ww hw 28 rfl)) (by decide) (t := .int) (t' := .int) (by decide) (by decide)))) (((((((E_a1.wr W11).wr W12).wr W13).wr W14).wr W15).wr W16).wr W17) (Or.inr ⟨(ww hw 30 rfl), rfl, hnm⟩) (ww hw 2 rfl) (ty := .int) (by decide) rfl rfl (g := (mkF m 47 #[.val (.ref a1), .val (.long q2), .second, .val (.long q3), .second, .val (.long q4), .second, .val (.int p5), .val (.int p6), .val (.int p7), .val (.int p8), .val (.int p9)] [(.int p9), (.ref a1)])) rfl rfl (hb hby d1_47)
  have Fw18 := (((((((F_attractions_a1.other W11 (Or.inr (slot_ne (Or.inr (ww hw 30 rfl)) (Or.inr (ww hw 16 rfl)) (by decide) (t := .int) (t' := .long) (by decide) (by decide)))).other W12 (Or.inr (slot_ne (Or.inr (ww hw 30 rfl)) (Or.inr (ww hw 18 rfl)) (by decide) (t := .int) (t' := .long) (by decide) (by decide)))).other W13 (Or.inr (slot_ne (Or.inr (ww hw 30 rfl)) (Or.inr (ww hw 20 rfl)) (by decide) (t := .int) (t' := .long) (by decide) (by decide)))).other W14 (Or.inr (slot_ne (Or.inr (ww hw 30 rfl)) (Or.inr (ww hw 22 rfl)) (by decide) (t := .int) (t' := .int) (by decide) (by decide)))).other W15 (Or.inr (slot_ne (Or.inr (ww hw 30 rfl)) (Or.inr (ww hw 24 rfl)) (by decide) (t := .int) (t' := .int) (by decide) (by decide)))).other W16 (Or.inr (slot_ne (Or.inr (ww hw 30 rfl)) (Or.inr (ww hw 26 rfl)) (by decide) (t := .int) (t' := .int) (by decide) (by decide)))).other W17 (Or.inr (slot_ne (Or.inr (ww hw 30 rfl)) (Or.inr (ww hw 28 rfl)) (by decide) (t := .int) (t' := .int) (by decide) (by decide)))).same W18
  have K18 : Keep h0 h18 [a1] := K17.wr W18 (Or.inl (List.mem_of_getElem? (i := 0) rfl))
  have N18 := Fr.snoc X18 N17 g_a1
  obtain ⟨fs, hr, hrun, hended, hW, hsame⟩ := X18.leave (v := none) (fun _ => rfl)
  refine ⟨_, _, pre0 _ ?_, hrun, hended, _, _, rfl, ?_, ⟨_, rfl⟩, hW, hsame.mono (by decide) (by decide)⟩
  · show Steps _ _ _ (s₁.setTop (mkF m 0 #[.val (.ref a1), .val (.long q2), .second, .val (.long q3), .second, .val (.long q4), .second, .val (.int p5), .val (.int p6), .val (.int p7), .val (.int p8), .val (.int p9)] [])) _
    refine XS.aloadN X0.here hx rfl (hb hby d1_0) rfl rfl ?_
    show Steps _ _ _ (s₁.setTop (mkF m 1 #[.val (.ref a1), .val (.long q2), .second, .val (.long q3), .second, .val (.long q4), .second, .val (.int p5), .val (.int p6), .val (.int p7), .val (.int p8), .val (.int p9)] [(.ref a1)])) _
    refine st10.trans ?_
    show Steps _ _ _ (T10.setTop (mkF m 4 #[.val (.ref a1), .val (.long q2), .second, .val (.long q3), .second, .val (.long q4), .second, .val (.int p5), .val (.int p6), .val (.int p7), .val (.int p8), .val (.int p9)] [])) _
    refine XS.aloadN X10.here hx rfl (hb hby d1_4) rfl rfl ?_
    show Steps _ _ _ (T10.setTop (mkF m 5 #[.val (.ref a1), .val (.long q2), .second, .val (.long q3), .second, .val (.long q4), .second, .val (.int p5), .val (.int p6), .val (.int p7), .val (.int p8), .val (.int p9)] [(.ref a1)])) _
    refine XS.lloadN X10.here hx rfl (hb hby d1_5) rfl ?_
    show Steps _ _ _ (T10.setTop (mkF m 6 #[.val (.ref a1), .val (.long q2), .second, .val (.long q3), .second, .val (.long q4), .second, .val (.int p5), .val (.int p6), .val (.int p7), .val (.int p8), .val (.int p9)] [(.long q2), (.ref a1)])) _
    refine st11 _ ?_
    show Steps _ _ _ (T11.setTop (mkF m 9 #[.val (.ref a1), .val (.long q2), .second, .val (.long q3), .second, .val (.long q4), .second, .val (.int p5), .val (.int p6), .val (.int p7), .val (.int p8), .val (.int p9)] [])) _
    refine XS.aloadN X11.here hx rfl (hb hby d1_9) rfl rfl ?_
    show Steps _ _ _ (T11.setTop (mkF m 10 #[.val (.ref a1), .val (.long q2), .second, .val (.long q3), .second, .val (.long q4), .second, .val (.int p5), .val (.int p6), .val (.int p7), .val (.int p8), .val (.int p9)] [(.ref a1)])) _
    refine XS.lloadN X11.here hx rfl (hb hby d1_10) rfl ?_
    show Steps _ _ _ (T11.setTop (mkF m 11 #[.val (.ref a1), .val (.long q2), .second, .val (.long q3), .second, .val (.long q4), .second, .val (.int p5), .val (.int p6), .val (.int p7), .val (.int p8), .val (.int p9)] [(.long q3), (.ref a1)])) _
    refine st12 _ ?_
    show Steps _ _ _ (T12.setTop (mkF m 14 #[.val (.ref a1), .val (.long q2), .second, .val (.long q3), .second, .val (.long q4), .second, .val (.int p5), .val (.int p6), .val (.int p7), .val (.int p8), .val (.int p9)] [])) _
    refine XS.aloadN X12.here hx rfl (hb hby d1_14) rfl rfl ?_
    show Steps _ _ _ (T12.setTop (mkF m 15 #[.val (.ref a1), .val (.long q2), .second, .val (.long q3), .second, .val (.long q4), .second, .val (.int p5), .val (.int p6), .val (.int p7), .val (.int p8), .val (.int p9)] [(.ref a1)])) _
    refine XS.lload X12.here hx rfl (hb hby d1_15) rfl ?_
    show Steps _ _ _ (T12.setTop (mkF m 17 #[.val (.ref a1), .val (.long q2), .second, .val (.long q3), .second, .val (.long q4), .second, .val (.int p5), .val (.int p6), .val (.int p7), .val (.int p8), .val (.int p9)] [(.long q4), (.ref a1)])) _
    refine st13 _ ?_
    show Steps _ _ _ (T13.setTop (mkF m 20 #[.val (.ref a1), .val (.long q2), .second, .val (.long q3), .second, .val (.long q4), .second, .val (.int p5), .val (.int p6), .val (.int p7), .val (.int p8), .val (.int p9)] [])) _
    refine XS.aloadN X13.here hx rfl (hb hby d1_20) rfl rfl ?_
    show Steps _ _ _ (T13.setTop (mkF m 21 #[.val (.ref a1), .val (.long q2), .second, .val (.long q3), .second, .val (.long q4), .second, .val (.int p5), .val (.int p6), .val (.int p7), .val (.int p8), .val (.int p9)] [(.ref a1)])) _
    refine XS.iload X13.here hx rfl (hb hby d1_21) rfl ?_
    show Steps _ _ _ (T13.setTop (mkF m 23 #[.val (.ref a1), .val (.long q2), .second, .val (.long q3), .second, .val (.long q4), .second, .val (.int p5), .val (.int p6), .val (.int p7), .val (.int p8), .val (.int p9)] [(.int p5), (.ref a1)])) _
    refine st14 _ ?_
    show Steps _ _ _ (T14.setTop (mkF m 26 #[.val (.ref a1), .val (.long q2), .second, .val (.long q3), .second, .val (.long q4), .second, .val (.int p5), .val (.int p6), .val (.int p7), .val (.int p8), .val (.int p9)] [])) _
    refine XS.aloadN X14.here hx rfl (hb hby d1_26) rfl rfl ?_
    show Steps _ _ _ (T14.setTop (mkF m 27 #[.val (.ref a1), .val (.long q2), .second, .val (.long q3), .second, .val (.long q4), .second, .val (.int p5), .val (.int p6), .val (.int p7), .val (.int p8), .val (.int p9)] [(.ref a1)])) _
    refine XS.iload X14.here hx rfl (hb hby d1_27) rfl ?_
    show Steps _ _ _ (T14.setTop (mkF m 29 #[.val (.ref a1), .val (.long q2), .second, .val (.long q3), .second, .val (.long q4), .second, .val (.int p5), .val (.int p6), .val (.int p7), .val (.int p8), .val (.int p9)] [(.int p6), (.ref a1)])) _
    refine st15 _ ?_
    show Steps _ _ _ (T15.setTop (mkF m 32 #[.val (.ref a1), .val (.long q2), .second, .val (.long q3), .second, .val (.long q4), .second, .val (.int p5), .val (.int p6), .val (.int p7), .val (.int p8), .val (.int p9)] [])) _
    refine XS.aloadN X15.here hx rfl (hb hby d1_32) rfl rfl ?_
    show Steps _ _ _ (T15.setTop (mkF m 33 #[.val (.ref a1), .val (.long q2), .second, .val (.long q3), .second, .val (.long q4), .second, .val (.int p5), .val (.int p6), .val (.int p7), .val (.int p8), .val (.int p9)] [(.ref a1)])) _
    refine XS.iload X15.here hx rfl (hb hby d1_33) rfl ?_
    show Steps _ _ _ (T15.setTop (mkF m 35 #[.val (.ref a1), .val (.long q2), .second, .val (.long q3), .second, .val (.long q4), .second, .val (.int p5), .val (.int p6), .val (.int p7), .val (.int p8), .val (.int p9)] [(.int p7), (.ref a1)])) _
    refine st16 _ ?_
    show Steps _ _ _ (T16.setTop (mkF m 38 #[.val (.ref a1), .val (.long q2), .second, .val (.long q3), .second, .val (.long q4), .second, .val (.int p5), .val (.int p6), .val (.int p7), .val (.int p8), .val (.int p9)] [])) _
    refine XS.aloadN X16.here hx rfl (hb hby d1_38) rfl rfl ?_
    show Steps _ _ _ (T16.setTop (mkF m 39 #[.val (.ref a1), .val (.long q2), .second, .val (.long q3), .second, .val (.long q4), .second, .val (.int p5), .val (.int p6), .val (.int p7), .val (.int p8), .val (.int p9)] [(.ref a1)])) _
    refine XS.iload X16.here hx rfl (hb hby d1_39) rfl ?_
    show Steps _ _ _ (T16.setTop (mkF m 41 #[.val (.ref a1), .val (.long q2), .second, .val (.long q3), .second, .val (.long q4), .second, .val (.int p5), .val (.int p6), .val (.int p7), .val (.int p8), .val (.int p9)] [(.int p8), (.ref a1)])) _
    refine st17 _ ?_
    show Steps _ _ _ (T17.setTop (mkF m 44 #[.val (.ref a1), .val (.long q2), .second, .val (.long q3), .second, .val (.long q4), .second, .val (.int p5), .val (.int p6), .val (.int p7), .val (.int p8), .val (.int p9)] [])) _
    refine XS.aloadN X17.here hx rfl (hb hby d1_44) rfl rfl ?_
    show Steps _ _ _ (T17.setTop (mkF m 45 #[.val (.ref a1), .val (.long q2), .second, .val (.long q3), .second, .val (.long q4), .second, .val (.int p5), .val (.int p6), .val (.int p7), .val (.int p8), .val (.int p9)] [(.ref a1)])) _
    refine XS.iload X17.here hx rfl (hb hby d1_45) rfl ?_
    show Steps _ _ _ (T17.setTop (mkF m 47 #[.val (.ref a1), .val (.long q2), .second, .val (.long q3), .second, .val (.long q4), .second, .val (.int p5), .val (.int p6), .val (.int p7), .val (.int p8), .val (.int p9)] [(.int p9), (.ref a1)])) _
    refine st18 _ ?_
    show Steps _ _ _ (T18.setTop (mkF m 50 #[.val (.ref a1), .val (.long q2), .second, .val (.long q3), .second, .val (.long q4), .second, .val (.int p5), .val (.int p6), .val (.int p7), .val (.int p8), .val (.int p9)] [])) _
    exact X18.returnOut hx Bd.returns (hb hby d1_50) hr
  · show Q1 Z a1 q2 q3 q4 p5 p6 p7 p8 p9 u_routes_a1 u_completed_a1 u_failed_a1 u_completedTickets_a1 u_bonus_a1 u_passengers_a1 u_passengerCount_a1 u_attractions_a1 h0 n0 _ T18.heap _
    rw [e18]
    exact ⟨rfl, N18, K18, ((((((((E_a1.wr W11).wr W12).wr W13).wr W14).wr W15).wr W16).wr W17).wr W18), (((((((Fw11.other W12 (Or.inr (slot_ne (Or.inr (ww hw 16 rfl)) (Or.inr (ww hw 18 rfl)) (by decide) (t := .long) (t' := .long) (by decide) (by decide)))).other W13 (Or.inr (slot_ne (Or.inr (ww hw 16 rfl)) (Or.inr (ww hw 20 rfl)) (by decide) (t := .long) (t' := .long) (by decide) (by decide)))).other W14 (Or.inr (slot_ne (Or.inr (ww hw 16 rfl)) (Or.inr (ww hw 22 rfl)) (by decide) (t := .long) (t' := .int) (by decide) (by decide)))).other W15 (Or.inr (slot_ne (Or.inr (ww hw 16 rfl)) (Or.inr (ww hw 24 rfl)) (by decide) (t := .long) (t' := .int) (by decide) (by decide)))).other W16 (Or.inr (slot_ne (Or.inr (ww hw 16 rfl)) (Or.inr (ww hw 26 rfl)) (by decide) (t := .long) (t' := .int) (by decide) (by decide)))).other W17 (Or.inr (slot_ne (Or.inr (ww hw 16 rfl)) (Or.inr (ww hw 28 rfl)) (by decide) (t := .long) (t' := .int) (by decide) (by decide)))).other W18 (Or.inr (slot_ne (Or.inr (ww hw 16 rfl)) (Or.inr (ww hw 30 rfl)) (by decide) (t := .long) (t' := .int) (by decide) (by decide)))), ((((((Fw12.other W13 (Or.inr (slot_ne (Or.inr (ww hw 18 rfl)) (Or.inr (ww hw 20 rfl)) (by decide) (t := .long) (t' := .long) (by decide) (by decide)))).other W14 (Or.inr (slot_ne (Or.inr (ww hw 18 rfl)) (Or.inr (ww hw 22 rfl)) (by decide) (t := .long) (t' := .int) (by decide) (by decide)))).other W15 (Or.inr (slot_ne (Or.inr (ww hw 18 rfl)) (Or.inr (ww hw 24 rfl)) (by decide) (t := .long) (t' := .int) (by decide) (by decide)))).other W16 (Or.inr (slot_ne (Or.inr (ww hw 18 rfl)) (Or.inr (ww hw 26 rfl)) (by decide) (t := .long) (t' := .int) (by decide) (by decide)))).other W17 (Or.inr (slot_ne (Or.inr (ww hw 18 rfl)) (Or.inr (ww hw 28 rfl)) (by decide) (t := .long) (t' := .int) (by decide) (by decide)))).other W18 (Or.inr (slot_ne (Or.inr (ww hw 18 rfl)) (Or.inr (ww hw 30 rfl)) (by decide) (t := .long) (t' := .int) (by decide) (by decide)))), (((((Fw13.other W14 (Or.inr (slot_ne (Or.inr (ww hw 20 rfl)) (Or.inr (ww hw 22 rfl)) (by decide) (t := .long) (t' := .int) (by decide) (by decide)))).other W15 (Or.inr (slot_ne (Or.inr (ww hw 20 rfl)) (Or.inr (ww hw 24 rfl)) (by decide) (t := .long) (t' := .int) (by decide) (by decide)))).other W16 (Or.inr (slot_ne (Or.inr (ww hw 20 rfl)) (Or.inr (ww hw 26 rfl)) (by decide) (t := .long) (t' := .int) (by decide) (by decide)))).other W17 (Or.inr (slot_ne (Or.inr (ww hw 20 rfl)) (Or.inr (ww hw 28 rfl)) (by decide) (t := .long) (t' := .int) (by decide) (by decide)))).other W18 (Or.inr (slot_ne (Or.inr (ww hw 20 rfl)) (Or.inr (ww hw 30 rfl)) (by decide) (t := .long) (t' := .int) (by decide) (by decide)))), ((((Fw14.other W15 (Or.inr (slot_ne (Or.inr (ww hw 22 rfl)) (Or.inr (ww hw 24 rfl)) (by decide) (t := .int) (t' := .int) (by decide) (by decide)))).other W16 (Or.inr (slot_ne (Or.inr (ww hw 22 rfl)) (Or.inr (ww hw 26 rfl)) (by decide) (t := .int) (t' := .int) (by decide) (by decide)))).other W17 (Or.inr (slot_ne (Or.inr (ww hw 22 rfl)) (Or.inr (ww hw 28 rfl)) (by decide) (t := .int) (t' := .int) (by decide) (by decide)))).other W18 (Or.inr (slot_ne (Or.inr (ww hw 22 rfl)) (Or.inr (ww hw 30 rfl)) (by decide) (t := .int) (t' := .int) (by decide) (by decide)))), (((Fw15.other W16 (Or.inr (slot_ne (Or.inr (ww hw 24 rfl)) (Or.inr (ww hw 26 rfl)) (by decide) (t := .int) (t' := .int) (by decide) (by decide)))).other W17 (Or.inr (slot_ne (Or.inr (ww hw 24 rfl)) (Or.inr (ww hw 28 rfl)) (by decide) (t := .int) (t' := .int) (by decide) (by decide)))).other W18 (Or.inr (slot_ne (Or.inr (ww hw 24 rfl)) (Or.inr (ww hw 30 rfl)) (by decide) (t := .int) (t' := .int) (by decide) (by decide)))), ((Fw16.other W17 (Or.inr (slot_ne (Or.inr (ww hw 26 rfl)) (Or.inr (ww hw 28 rfl)) (by decide) (t := .int) (t' := .int) (by decide) (by decide)))).other W18 (Or.inr (slot_ne (Or.inr (ww hw 26 rfl)) (Or.inr (ww hw 30 rfl)) (by decide) (t := .int) (t' := .int) (by decide) (by decide)))), (Fw17.other W18 (Or.inr (slot_ne (Or.inr (ww hw 28 rfl)) (Or.inr (ww hw 30 rfl)) (by decide) (t := .int) (t' := .int) (by decide) (by decide)))), Fw18⟩
theorem d4_0 : decode prog_73_method_3_code 0 = .ok (.aload_n 0, 1) := by decide +kernel
theorem d4_1 : decode prog_73_method_3_code 1 = .ok (.getfield 7, 3) := by decide +kernel
theorem d4_4 : decode prog_73_method_3_code 4 = .ok (.aload_n 0, 1) := by decide +kernel
theorem d4_5 : decode prog_73_method_3_code 5 = .ok (.getfield 13, 3) := by decide +kernel
theorem d4_8 : decode prog_73_method_3_code 8 = .ok (.ladd, 1) := by decide +kernel
theorem d4_9 : decode prog_73_method_3_code 9 = .ok (.aload_n 0, 1) := by decide +kernel
theorem d4_10 : decode prog_73_method_3_code 10 = .ok (.getfield 16, 3) := by decide +kernel
theorem d4_13 : decode prog_73_method_3_code 13 = .ok (.lsub, 1) := by decide +kernel
theorem d4_14 : decode prog_73_method_3_code 14 = .ok (.aload_n 0, 1) := by decide +kernel
theorem d4_15 : decode prog_73_method_3_code 15 = .ok (.getfield 23, 3) := by decide +kernel
theorem d4_18 : decode prog_73_method_3_code 18 = .ok (.i2l, 1) := by decide +kernel
theorem d4_19 : decode prog_73_method_3_code 19 = .ok (.ladd, 1) := by decide +kernel
theorem d4_20 : decode prog_73_method_3_code 20 = .ok (.aload_n 0, 1) := by decide +kernel
theorem d4_21 : decode prog_73_method_3_code 21 = .ok (.getfield 26, 3) := by decide +kernel
theorem d4_24 : decode prog_73_method_3_code 24 = .ok (.i2l, 1) := by decide +kernel
theorem d4_25 : decode prog_73_method_3_code 25 = .ok (.ladd, 1) := by decide +kernel
theorem d4_26 : decode prog_73_method_3_code 26 = .ok (.aload_n 0, 1) := by decide +kernel
theorem d4_27 : decode prog_73_method_3_code 27 = .ok (.getfield 32, 3) := by decide +kernel
theorem d4_30 : decode prog_73_method_3_code 30 = .ok (.i2l, 1) := by decide +kernel
theorem d4_31 : decode prog_73_method_3_code 31 = .ok (.ladd, 1) := by decide +kernel
theorem d4_32 : decode prog_73_method_3_code 32 = .ok (.lreturn, 1) := by decide +kernel
theorem pn_4 : plainName "com/example/binario/binario/rules/Score" = true := by first | (simp [plainName, overriddenIn]; done) | decide +kernel
theorem ef_4 (m : MethodId) (x0 : Addr) : entryFrame m #[(.ref x0)] 1 = mkF m 0 #[.val (.ref x0)] [] := by first | (simp [entryFrame, mkF, argsToLocals, Value.category]; done) | rfl
-- 2. THE CONTRACT: what this body leaves is yours
def Q4 (Z : State) (a1 : Addr) (w2 : Int64) (w4 : Int64) (w6 : Int64) (w8 : Int32) (w10 : Int32) (w12 : Int32) (h0 : Heap) (n0 : Nat) (v : Option Value) (h : Heap) (L : List Loc) : Prop := v = some (.long (((((w2 + w4) - w6) + (w8.toInt64)) + (w10.toInt64)) + (w12.toInt64))) ∧ Fr n0 L ∧ h = h0
set_option maxRecDepth 65536 in
set_option maxHeartbeats 40000000 in
theorem rm4 (l : Launch) (Z : State) (a0 : Array Value) (hw : ∀ d ∈ tables_1, d.before a0 Z = true) (ws : List Jvm.Cond) (a1 : Addr) (w2 : Int64) (w4 : Int64) (w6 : Int64) (w8 : Int32) (w10 : Int32) (w12 : Int32) (h0 : Heap) (n0 : Nat) (Z0 : n0 ≤ h0.size) (F_routes_a1 : Fld Z h0 a1 "com/example/binario/binario/rules/Score" "routes" "J" (.long w2)) (F_completed_a1 : Fld Z h0 a1 "com/example/binario/binario/rules/Score" "completed" "J" (.long w4)) (F_failed_a1 : Fld Z h0 a1 "com/example/binario/binario/rules/Score" "failed" "J" (.long w6)) (F_bonus_a1 : Fld Z h0 a1 "com/example/binario/binario/rules/Score" "bonus" "I" (.int w8)) (F_passengers_a1 : Fld Z h0 a1 "com/example/binario/binario/rules/Score" "passengers" "I" (.int w10)) (F_attractions_a1 : Fld Z h0 a1 "com/example/binario/binario/rules/Score" "attractions" "I" (.int w12)) :
    MetFree l (⟨"com/example/binario/binario/rules/Score", "total", "()J"⟩ : MethodName) (head1 (Jvm.Cond.code (⟨"com/example/binario/binario/rules/Score", "total", "()J"⟩ : MethodName) prog_73_method_3_code 1 (some .long) :: ws) ({ frames := 0, cells := 0, slots := 0, locals := 0 } : Room)) (fun a U => a = #[(.ref a1)] ∧ Z.Warmed39 U.vm ∧ U.heap = h0) (fun _ _ _ _ _ => True) (fun _ U o U' => ∃ v L, o = .returned v ∧ Q4 Z a1 w2 w4 w6 w8 w10 w12 h0 n0 v U'.heap L ∧ FrameEnd U o U' L ({ frames := 0, cells := 0, slots := 0, locals := 0 } : Room).cells ({ frames := 0, cells := 0, slots := 0, locals := 0 } : Room).slots) := by
  refine MetFree.of_bodySF (plainFor_of_name pn_4) hisR ?_
  intro p e s m args below meth c s₁ Bd hml0 hP hK
  obtain ⟨rfl, hZ, hh⟩ := hP
  have hx := Bd.exec
  have hby := Bd.bytes
  have hml : c.maxLocals = 1 := hml0
  have hown : s.vm.findClass "com/example/binario/binario/rules/Score" = some m.cls := findClass_of_methodNamed Bd.named
  have hnm := (name_of_methodNamed Bd.named Bd.method).1
  have X0 : Stand p l e ({ frames := 0, cells := 0, slots := 0, locals := 0 } : Room) s m #[(.ref a1)] below meth c s₁ [] 0 0 := Stand.of_body Bd
  have e0 : s₁.heap = h0 := by rw [← hh, Bd.state]; rfl
  have N0 := Fr.nil n0
  have pre0 : ∀ t, Steps p.tables e below (s₁.setTop (mkF m 0 #[.val (.ref a1)] [])) t → Steps p.tables e below (s₁.setTop (entryFrame m #[(.ref a1)] 1)) t := fun t k => castTop (ef_4 m a1) k
  obtain ⟨T3, X3, e3, st3⟩ := getF X0 hx hZ hown (host := "") (Or.inl (ww hw 15 rfl)) Via.refl e0 F_routes_a1 (g := (mkF m 1 #[.val (.ref a1)] [(.ref a1)])) rfl rfl (hb hby d4_1)
  obtain ⟨T5, X5, e5, st5⟩ := getF X3 hx hZ hown (host := "") (Or.inl (ww hw 17 rfl)) Via.refl e3 F_completed_a1 (g := (mkF m 5 #[.val (.ref a1)] [(.ref a1), (.long w2)])) rfl rfl (hb hby d4_5)
  obtain ⟨T7, X7, e7, st7⟩ := getF X5 hx hZ hown (host := "") (Or.inl (ww hw 19 rfl)) Via.refl e5 F_failed_a1 (g := (mkF m 10 #[.val (.ref a1)] [(.ref a1), (.long (w2 + w4))])) rfl rfl (hb hby d4_10)
  obtain ⟨T9, X9, e9, st9⟩ := getF X7 hx hZ hown (host := "") (Or.inl (ww hw 23 rfl)) Via.refl e7 F_bonus_a1 (g := (mkF m 15 #[.val (.ref a1)] [(.ref a1), (.long ((w2 + w4) - w6))])) rfl rfl (hb hby d4_15)
  obtain ⟨T11, X11, e11, st11⟩ := getF X9 hx hZ hown (host := "") (Or.inl (ww hw 25 rfl)) Via.refl e9 F_passengers_a1 (g := (mkF m 21 #[.val (.ref a1)] [(.ref a1), (.long (((w2 + w4) - w6) + (w8.toInt64)))])) rfl rfl (hb hby d4_21)
  obtain ⟨T13, X13, e13, st13⟩ := getF X11 hx hZ hown (host := "") (Or.inl (ww hw 29 rfl)) Via.refl e11 F_attractions_a1 (g := (mkF m 27 #[.val (.ref a1)] [(.ref a1), (.long ((((w2 + w4) - w6) + (w8.toInt64)) + (w10.toInt64)))])) rfl rfl (hb hby d4_27)
  obtain ⟨fs, hr, hrun, hended, hW, hsame⟩ := X13.leave (v := some (.long (((((w2 + w4) - w6) + (w8.toInt64)) + (w10.toInt64)) + (w12.toInt64)))) (fun h => by rw [Bd.returns] at h; cases h)
  refine ⟨_, _, pre0 _ ?_, hrun, hended, _, _, rfl, ?_, ⟨_, rfl⟩, hW, hsame.mono (by decide) (by decide)⟩
  · show Steps _ _ _ (s₁.setTop (mkF m 0 #[.val (.ref a1)] [])) _
    refine XS.aloadN X0.here hx rfl (hb hby d4_0) rfl rfl ?_
    show Steps _ _ _ (s₁.setTop (mkF m 1 #[.val (.ref a1)] [(.ref a1)])) _
    refine st3 _ ?_
    show Steps _ _ _ (T3.setTop (mkF m 4 #[.val (.ref a1)] [(.long w2)])) _
    refine XS.aloadN X3.here hx rfl (hb hby d4_4) rfl rfl ?_
    show Steps _ _ _ (T3.setTop (mkF m 5 #[.val (.ref a1)] [(.ref a1), (.long w2)])) _
    refine st5 _ ?_
    show Steps _ _ _ (T5.setTop (mkF m 8 #[.val (.ref a1)] [(.long w4), (.long w2)])) _
    refine XS.ladd X5.here hx rfl (hb hby d4_8) rfl ?_
    show Steps _ _ _ (T5.setTop (mkF m 9 #[.val (.ref a1)] [(.long (w2 + w4))])) _
    refine XS.aloadN X5.here hx rfl (hb hby d4_9) rfl rfl ?_
    show Steps _ _ _ (T5.setTop (mkF m 10 #[.val (.ref a1)] [(.ref a1), (.long (w2 + w4))])) _
    refine st7 _ ?_
    show Steps _ _ _ (T7.setTop (mkF m 13 #[.val (.ref a1)] [(.long w6), (.long (w2 + w4))])) _
    refine XS.lsub X7.here hx rfl (hb hby d4_13) rfl ?_
    show Steps _ _ _ (T7.setTop (mkF m 14 #[.val (.ref a1)] [(.long ((w2 + w4) - w6))])) _
    refine XS.aloadN X7.here hx rfl (hb hby d4_14) rfl rfl ?_
    show Steps _ _ _ (T7.setTop (mkF m 15 #[.val (.ref a1)] [(.ref a1), (.long ((w2 + w4) - w6))])) _
    refine st9 _ ?_
    show Steps _ _ _ (T9.setTop (mkF m 18 #[.val (.ref a1)] [(.int w8), (.long ((w2 + w4) - w6))])) _
    refine XS.i2l X9.here hx rfl (hb hby d4_18) rfl ?_
    show Steps _ _ _ (T9.setTop (mkF m 19 #[.val (.ref a1)] [(.long (w8.toInt64)), (.long ((w2 + w4) - w6))])) _
    refine XS.ladd X9.here hx rfl (hb hby d4_19) rfl ?_
    show Steps _ _ _ (T9.setTop (mkF m 20 #[.val (.ref a1)] [(.long (((w2 + w4) - w6) + (w8.toInt64)))])) _
    refine XS.aloadN X9.here hx rfl (hb hby d4_20) rfl rfl ?_
    show Steps _ _ _ (T9.setTop (mkF m 21 #[.val (.ref a1)] [(.ref a1), (.long (((w2 + w4) - w6) + (w8.toInt64)))])) _
    refine st11 _ ?_
    show Steps _ _ _ (T11.setTop (mkF m 24 #[.val (.ref a1)] [(.int w10), (.long (((w2 + w4) - w6) + (w8.toInt64)))])) _
    refine XS.i2l X11.here hx rfl (hb hby d4_24) rfl ?_
    show Steps _ _ _ (T11.setTop (mkF m 25 #[.val (.ref a1)] [(.long (w10.toInt64)), (.long (((w2 + w4) - w6) + (w8.toInt64)))])) _
    refine XS.ladd X11.here hx rfl (hb hby d4_25) rfl ?_
    show Steps _ _ _ (T11.setTop (mkF m 26 #[.val (.ref a1)] [(.long ((((w2 + w4) - w6) + (w8.toInt64)) + (w10.toInt64)))])) _
    refine XS.aloadN X11.here hx rfl (hb hby d4_26) rfl rfl ?_
    show Steps _ _ _ (T11.setTop (mkF m 27 #[.val (.ref a1)] [(.ref a1), (.long ((((w2 + w4) - w6) + (w8.toInt64)) + (w10.toInt64)))])) _
    refine st13 _ ?_
    show Steps _ _ _ (T13.setTop (mkF m 30 #[.val (.ref a1)] [(.int w12), (.long ((((w2 + w4) - w6) + (w8.toInt64)) + (w10.toInt64)))])) _
    refine XS.i2l X13.here hx rfl (hb hby d4_30) rfl ?_
    show Steps _ _ _ (T13.setTop (mkF m 31 #[.val (.ref a1)] [(.long (w12.toInt64)), (.long ((((w2 + w4) - w6) + (w8.toInt64)) + (w10.toInt64)))])) _
    refine XS.ladd X13.here hx rfl (hb hby d4_31) rfl ?_
    show Steps _ _ _ (T13.setTop (mkF m 32 #[.val (.ref a1)] [(.long (((((w2 + w4) - w6) + (w8.toInt64)) + (w10.toInt64)) + (w12.toInt64)))])) _
    jvm_step X13.here [X13.here.top, hx, (hb hby d4_32), X13.method', Bd.returns, narrow]
    first | (intro acts; rw [hr _ acts rfl rfl rfl]) | rw [hr _ _ rfl rfl rfl]
    exact Steps.refl _
  · show Q4 Z a1 w2 w4 w6 w8 w10 w12 h0 n0 _ T13.heap _
    rw [e13]
    exact ⟨rfl, N0, rfl⟩
theorem own_sum (a b c d e f : Int64) : ((((a + b) - c) + d) + e) + f = ((a + b) - c) + ((d + e) + f) := by
  simp only [Int64.add_assoc]
theorem pn_0 : plainName "com/example/binario/binario/rules/ScoreTotalPinLaw" = true := by first | (simp [plainName, overriddenIn]; done) | decide +kernel
theorem pd_0_0 : parseMethodDescriptor "(JJJIIIII)V" = some ⟨[.long, .long, .long, .int, .int, .int, .int, .int], none⟩ := by decide +kernel
theorem pd_0_2 : parseMethodDescriptor "()J" = some ⟨[], some .long⟩ := by decide +kernel
theorem ef_0 (m : MethodId) (x0 : Int64) (x1 : Int64) (x2 : Int64) (x3 : Int32) (x4 : Int32) (x5 : Int32) : entryFrame m #[(.long x0), (.long x1), (.long x2), (.int x3), (.int x4), (.int x5)] maxLocals = mkF m 0 #[.val (.long x0), .second, .val (.long x1), .second, .val (.long x2), .second, .val (.int x3), .val (.int x4), .val (.int x5), .unset, .unset, .unset, .unset, .unset, .unset, .unset, .unset, .unset] [] := by first | (simp [entryFrame, mkF, argsToLocals, Value.category, maxLocals]; done) | rfl
-- 2. THE CONTRACT: what this body leaves is yours
def Q0 (Z : State) (q1 : Int64) (q2 : Int64) (q3 : Int64) (p4 : Int32) (p5 : Int32) (p6 : Int32) (h0 : Heap) (n0 : Nat) (v : Option Value) (h : Heap) (L : List Loc) : Prop := v = some (.int (1 : Int32)) ∧ Fr n0 L
-- its room: frames: the greatest, locals: the greatest, cells 1 + .., slots 8 + ..: rm1: frames + 1; locals 1 + 12 + 11 + its room's locals; its cells and slots besides; rm4: frames + 1; locals 0 + 1 + 11 + its room's locals; its cells and slots besides
set_option maxRecDepth 65536 in
set_option maxHeartbeats 40000000 in
theorem rm0 (l : Launch) (Z : State) (a0 : Array Value) (hw : ∀ d ∈ tables_1, d.before a0 Z = true) (ws : List Jvm.Cond) (q1 : Int64) (q2 : Int64) (q3 : Int64) (p4 : Int32) (p5 : Int32) (p6 : Int32) (h0 : Heap) (n0 : Nat) (Z0 : n0 ≤ h0.size) (hc79 : (lcmpW (((((q1 + q2) - q3) + (p4.toInt64)) + (p5.toInt64)) + (p6.toInt64)) (((q1 + q2) - q3) + (((p4.toInt64) + (p5.toInt64)) + (p6.toInt64)))) = (0 : Int32)) :
    MetFree l x (head1 (Jvm.Cond.code x code maxLocals ret :: ws) room_1) (fun a U => a = #[(.long q1), (.long q2), (.long q3), (.int p4), (.int p5), (.int p6)] ∧ Z.Warmed39 U.vm ∧ U.heap = h0) (fun _ _ _ _ _ => True) (fun _ U o U' => ∃ v L, o = .returned v ∧ Q0 Z q1 q2 q3 p4 p5 p6 h0 n0 v U'.heap L ∧ FrameEnd U o U' L room_1.cells room_1.slots) := by
  refine MetFree.of_bodySF (plainFor_of_name pn_0) hisR ?_
  intro p e s m args below meth c s₁ Bd hml0 hP hK
  obtain ⟨rfl, hZ, hh⟩ := hP
  have hx := Bd.exec
  have hby := Bd.bytes
  have hml : c.maxLocals = 18 := hml0
  have hown : s.vm.findClass "com/example/binario/binario/rules/ScoreTotalPinLaw" = some m.cls := findClass_of_methodNamed Bd.named
  have hnm := (name_of_methodNamed Bd.named Bd.method).1
  have X0 : Stand p l e room_1 s m #[(.long q1), (.long q2), (.long q3), (.int p4), (.int p5), (.int p6)] below meth c s₁ [] 0 0 := Stand.of_body Bd
  have e0 : s₁.heap = h0 := by rw [← hh, Bd.state]; rfl
  have N0 := Fr.nil n0
  have pre0 : ∀ t, Steps p.tables e below (s₁.setTop (mkF m 0 #[.val (.long q1), .second, .val (.long q2), .second, .val (.long q3), .second, .val (.int p4), .val (.int p5), .val (.int p6), .unset, .unset, .unset, .unset, .unset, .unset, .unset, .unset, .unset] [])) t → Steps p.tables e below (s₁.setTop (entryFrame m #[(.long q1), (.long q2), (.long q3), (.int p4), (.int p5), (.int p6)] maxLocals)) t := fun t k => castTop (ef_0 m q1 q2 q3 p4 p5 p6) k
  obtain ⟨T7, h7, X7, e7, E7, A7, D7, -, st7⟩ := newO X0 hx hZ hown (ww hw 1 rfl) (ww hw 2 rfl) (ww hw 3 rfl) e0 (g := (mkF m 20 #[.val (.long q1), .second, .val (.long q2), .second, .val (.long q3), .second, .val (.int p4), .val (.int p5), .val (.int p6), .val (.int (((q1 ^^^ (p4.toInt64)).toInt32) ^^^ (1515870810 : Int32))), .val (.int ((p5 ^^^ p6) ^^^ (1 : Int32))), .unset, .unset, .unset, .unset, .unset, .unset, .unset] [])) rfl (hb hby at_20) (by decide) (by decide)
  obtain ⟨b7, g7⟩ : ∃ z, z = h0.size := ⟨_, rfl⟩
  rw [← g7] at A7 D7 st7
  have F_routes_b7 : Fld Z h7 b7 "com/example/binario/binario/rules/Score" "routes" "J" (.long (0 : Int64)) := D7 (Or.inr (ww hw 16 rfl)) (ty := .long) (by decide)
  have F_completed_b7 : Fld Z h7 b7 "com/example/binario/binario/rules/Score" "completed" "J" (.long (0 : Int64)) := D7 (Or.inr (ww hw 18 rfl)) (ty := .long) (by decide)
  have F_failed_b7 : Fld Z h7 b7 "com/example/binario/binario/rules/Score" "failed" "J" (.long (0 : Int64)) := D7 (Or.inr (ww hw 20 rfl)) (ty := .long) (by decide)
  have F_completedTickets_b7 : Fld Z h7 b7 "com/example/binario/binario/rules/Score" "completedTickets" "I" (.int (0 : Int32)) := D7 (Or.inr (ww hw 22 rfl)) (ty := .int) (by decide)
  have F_bonus_b7 : Fld Z h7 b7 "com/example/binario/binario/rules/Score" "bonus" "I" (.int (0 : Int32)) := D7 (Or.inr (ww hw 24 rfl)) (ty := .int) (by decide)
  have F_passengers_b7 : Fld Z h7 b7 "com/example/binario/binario/rules/Score" "passengers" "I" (.int (0 : Int32)) := D7 (Or.inr (ww hw 26 rfl)) (ty := .int) (by decide)
  have F_passengerCount_b7 : Fld Z h7 b7 "com/example/binario/binario/rules/Score" "passengerCount" "I" (.int (0 : Int32)) := D7 (Or.inr (ww hw 28 rfl)) (ty := .int) (by decide)
  have F_attractions_b7 : Fld Z h7 b7 "com/example/binario/binario/rules/Score" "attractions" "I" (.int (0 : Int32)) := D7 (Or.inr (ww hw 30 rfl)) (ty := .int) (by decide)
  have E_b7 := A7
  have g_b7 : n0 ≤ b7 := Nat.le_trans Z0 (Nat.le_of_eq g7.symm)
  have sz_b7 : h0.size ≤ b7 := (Nat.le_trans (Keep.refl h0 []).1 (Nat.le_of_eq g7.symm))
  have K7 : Keep h0 h7 [] := (Keep.refl h0 []).ext E7
  obtain ⟨_, _, ⟨T8, L8, k8, n8⟩, -, X8, ⟨Lc8, hQ8, l8, y8, z8⟩, st8⟩ := X7.specialBack hx (y := (⟨"com/example/binario/binario/rules/Score", "<init>", "(JJJIIIII)V"⟩ : MethodName)) rfl hown (mvT hZ (ww hw 4 rfl)) (mvT hZ (ww hw 5 rfl)) (mvT hZ (ww hw 6 rfl)) (by decide) (backOf (W := 1) (rm1 l Z a0 hw [] b7 q1 q2 q3 (((q1 ^^^ (p4.toInt64)).toInt32) ^^^ (1515870810 : Int32)) p4 p5 ((p5 ^^^ p6) ^^^ (1 : Int32)) p6 _ _ _ _ _ _ _ _  h7 n0 (Nat.le_trans Z0 E7.1) E_b7 F_routes_b7 g_b7 F_completed_b7 F_failed_b7 F_completedTickets_b7 F_bonus_b7 F_passengers_b7 F_passengerCount_b7 F_attractions_b7) hZ (ww hw 6 rfl) (ww hw 3 rfl) (by decide) (by decide)) (g := (mkF m 38 #[.val (.long q1), .second, .val (.long q2), .second, .val (.long q3), .second, .val (.int p4), .val (.int p5), .val (.int p6), .val (.int (((q1 ^^^ (p4.toInt64)).toInt32) ^^^ (1515870810 : Int32))), .val (.int ((p5 ^^^ p6) ^^^ (1 : Int32))), .unset, .unset, .unset, .unset, .unset, .unset, .unset] [(.int p6), (.int ((p5 ^^^ p6) ^^^ (1 : Int32))), (.int p5), (.int p4), (.int (((q1 ^^^ (p4.toInt64)).toInt32) ^^^ (1515870810 : Int32))), (.long q3), (.long q2), (.long q1), (.ref b7), (.ref b7)])) rfl (by rw [hml]; rfl) (Steps.refl _) (a := b7) (argsL := [(.long q1), (.long q2), (.long q3), (.int (((q1 ^^^ (p4.toInt64)).toInt32) ^^^ (1515870810 : Int32))), (.int p4), (.int p5), (.int ((p5 ^^^ p6) ^^^ (1 : Int32))), (.int p6)]) (rest := [(.ref b7)]) (lenOf pd_0_0 rfl) rfl (by show 2 * 0 + _ ≤ _; exact Nat.le_of_eq rfl) (hb hby at_38) (fun _ _ => ⟨rfl, e7, (by decide : 1 + 0 ≤ _), (by decide : 8 + 0 ≤ _)⟩)
  dsimp only [Pt.U, Pt.locs, Pt.cells, Pt.slots] at X8 l8 y8 z8 st8 hQ8
  subst l8 y8 z8
  obtain ⟨rfl, N8q, Kc8, Ec8, Froutes8, Fcompleted8, Ffailed8, FcompletedTickets8, Fbonus8, Fpassengers8, FpassengerCount8, Fattractions8⟩ := hQ8
  have N8 := Fr.app N0 N8q
  have K8 : Keep h0 T8.heap [] := K7.trans Kc8 (allS (Or.inr sz_b7) all0)
  obtain ⟨cq9, kq9, q9a, q9b, q9c⟩ := isOf hZ rfl Ec8
  obtain ⟨_, _, ⟨T9, L9, k9, n9⟩, -, X9, ⟨Lc9, hQ9, l9, y9, z9⟩, st9⟩ := X8.virtualBack hx (y := (⟨"com/example/binario/binario/rules/Score", "total", "()J"⟩ : MethodName)) (z := (⟨"com/example/binario/binario/rules/Score", "total", "()J"⟩ : MethodName)) hown (mvT hZ (ww hw 31 rfl)) (mvT hZ (ww hw 32 rfl)) (notFace_of_selects (args := #[]) (mvT hZ (ww hw 34 rfl))) (mvT hZ (ww hw 34 rfl)) (mvT hZ (ww hw 33 rfl)) (by decide) (backOf (W := 0) (rm4 l Z a0 hw [] b7 _ _ _ _ _ _ T8.heap n0 (Nat.le_trans (Nat.le_trans Z0 E7.1) Kc8.1) Froutes8 Fcompleted8 Ffailed8 Fbonus8 Fpassengers8 Fattractions8) hZ (ww hw 35 rfl) (ww hw 3 rfl) (by decide) (by decide)) q9a q9c (g := (mkF m 73 #[.val (.long q1), .second, .val (.long q2), .second, .val (.long q3), .second, .val (.int p4), .val (.int p5), .val (.int p6), .val (.int (((q1 ^^^ (p4.toInt64)).toInt32) ^^^ (1515870810 : Int32))), .val (.int ((p5 ^^^ p6) ^^^ (1 : Int32))), .val (.ref b7), .val (.long (q1 + q2)), .second, .val (.long (((p4.toInt64) + (p5.toInt64)) + (p6.toInt64))), .second, .val (.long (((q1 + q2) - q3) + (((p4.toInt64) + (p5.toInt64)) + (p6.toInt64)))), .second] [(.ref b7)])) rfl (by rw [hml]; rfl) (Steps.refl _) (argsL := []) (rest := []) (lenOf pd_0_2 rfl) rfl (by show 2 * 0 + _ ≤ _; exact Nat.le_of_eq rfl) (hb hby at_73) (fun _ _ => ⟨rfl, rfl, (by decide : 1 + 0 ≤ _), (by decide : 8 + 0 ≤ _)⟩)
  dsimp only [Pt.U, Pt.locs, Pt.cells, Pt.slots] at X9 l9 y9 z9 st9 hQ9
  subst l9 y9 z9
  obtain ⟨rfl, N9q, eh9⟩ := hQ9
  have N9 := Fr.app N8 N9q
  obtain ⟨fs, hr, hrun, hended, hW, hsame⟩ := X9.leave (v := some (.int (1 : Int32))) (fun h => by rw [Bd.returns] at h; cases h)
  refine ⟨_, _, pre0 _ ?_, hrun, hended, _, _, rfl, ?_, ⟨_, rfl⟩, hW, hsame.mono (by decide) (by decide)⟩
  · show Steps _ _ _ (s₁.setTop (mkF m 0 #[.val (.long q1), .second, .val (.long q2), .second, .val (.long q3), .second, .val (.int p4), .val (.int p5), .val (.int p6), .unset, .unset, .unset, .unset, .unset, .unset, .unset, .unset, .unset] [])) _
    refine XS.lloadN X0.here hx rfl (hb hby at_0) rfl ?_
    show Steps _ _ _ (s₁.setTop (mkF m 1 #[.val (.long q1), .second, .val (.long q2), .second, .val (.long q3), .second, .val (.int p4), .val (.int p5), .val (.int p6), .unset, .unset, .unset, .unset, .unset, .unset, .unset, .unset, .unset] [(.long q1)])) _
    refine XS.iload X0.here hx rfl (hb hby at_1) rfl ?_
    show Steps _ _ _ (s₁.setTop (mkF m 3 #[.val (.long q1), .second, .val (.long q2), .second, .val (.long q3), .second, .val (.int p4), .val (.int p5), .val (.int p6), .unset, .unset, .unset, .unset, .unset, .unset, .unset, .unset, .unset] [(.int p4), (.long q1)])) _
    refine XS.i2l X0.here hx rfl (hb hby at_3) rfl ?_
    show Steps _ _ _ (s₁.setTop (mkF m 4 #[.val (.long q1), .second, .val (.long q2), .second, .val (.long q3), .second, .val (.int p4), .val (.int p5), .val (.int p6), .unset, .unset, .unset, .unset, .unset, .unset, .unset, .unset, .unset] [(.long (p4.toInt64)), (.long q1)])) _
    refine XS.lxor X0.here hx rfl (hb hby at_4) rfl ?_
    show Steps _ _ _ (s₁.setTop (mkF m 5 #[.val (.long q1), .second, .val (.long q2), .second, .val (.long q3), .second, .val (.int p4), .val (.int p5), .val (.int p6), .unset, .unset, .unset, .unset, .unset, .unset, .unset, .unset, .unset] [(.long (q1 ^^^ (p4.toInt64)))])) _
    refine XS.l2i X0.here hx rfl (hb hby at_5) rfl ?_
    show Steps _ _ _ (s₁.setTop (mkF m 6 #[.val (.long q1), .second, .val (.long q2), .second, .val (.long q3), .second, .val (.int p4), .val (.int p5), .val (.int p6), .unset, .unset, .unset, .unset, .unset, .unset, .unset, .unset, .unset] [(.int ((q1 ^^^ (p4.toInt64)).toInt32))])) _
    refine X0.ldcInt hx hown (mvT hZ (ww hw 0 rfl)) (g := (mkF m 6 #[.val (.long q1), .second, .val (.long q2), .second, .val (.long q3), .second, .val (.int p4), .val (.int p5), .val (.int p6), .unset, .unset, .unset, .unset, .unset, .unset, .unset, .unset, .unset] [(.int ((q1 ^^^ (p4.toInt64)).toInt32))])) rfl (hb hby at_6) _ ?_
    show Steps _ _ _ (s₁.setTop (mkF m 8 #[.val (.long q1), .second, .val (.long q2), .second, .val (.long q3), .second, .val (.int p4), .val (.int p5), .val (.int p6), .unset, .unset, .unset, .unset, .unset, .unset, .unset, .unset, .unset] [(.int (1515870810 : Int32)), (.int ((q1 ^^^ (p4.toInt64)).toInt32))])) _
    refine XS.ixor X0.here hx rfl (hb hby at_8) rfl ?_
    show Steps _ _ _ (s₁.setTop (mkF m 9 #[.val (.long q1), .second, .val (.long q2), .second, .val (.long q3), .second, .val (.int p4), .val (.int p5), .val (.int p6), .unset, .unset, .unset, .unset, .unset, .unset, .unset, .unset, .unset] [(.int (((q1 ^^^ (p4.toInt64)).toInt32) ^^^ (1515870810 : Int32)))])) _
    refine XS.istore X0.here hx rfl (hb hby at_9) rfl (l' := #[.val (.long q1), .second, .val (.long q2), .second, .val (.long q3), .second, .val (.int p4), .val (.int p5), .val (.int p6), .val (.int (((q1 ^^^ (p4.toInt64)).toInt32) ^^^ (1515870810 : Int32))), .unset, .unset, .unset, .unset, .unset, .unset, .unset, .unset]) rfl ?_
    show Steps _ _ _ (s₁.setTop (mkF m 11 #[.val (.long q1), .second, .val (.long q2), .second, .val (.long q3), .second, .val (.int p4), .val (.int p5), .val (.int p6), .val (.int (((q1 ^^^ (p4.toInt64)).toInt32) ^^^ (1515870810 : Int32))), .unset, .unset, .unset, .unset, .unset, .unset, .unset, .unset] [])) _
    refine XS.iload X0.here hx rfl (hb hby at_11) rfl ?_
    show Steps _ _ _ (s₁.setTop (mkF m 13 #[.val (.long q1), .second, .val (.long q2), .second, .val (.long q3), .second, .val (.int p4), .val (.int p5), .val (.int p6), .val (.int (((q1 ^^^ (p4.toInt64)).toInt32) ^^^ (1515870810 : Int32))), .unset, .unset, .unset, .unset, .unset, .unset, .unset, .unset] [(.int p5)])) _
    refine XS.iload X0.here hx rfl (hb hby at_13) rfl ?_
    show Steps _ _ _ (s₁.setTop (mkF m 15 #[.val (.long q1), .second, .val (.long q2), .second, .val (.long q3), .second, .val (.int p4), .val (.int p5), .val (.int p6), .val (.int (((q1 ^^^ (p4.toInt64)).toInt32) ^^^ (1515870810 : Int32))), .unset, .unset, .unset, .unset, .unset, .unset, .unset, .unset] [(.int p6), (.int p5)])) _
    refine XS.ixor X0.here hx rfl (hb hby at_15) rfl ?_
    show Steps _ _ _ (s₁.setTop (mkF m 16 #[.val (.long q1), .second, .val (.long q2), .second, .val (.long q3), .second, .val (.int p4), .val (.int p5), .val (.int p6), .val (.int (((q1 ^^^ (p4.toInt64)).toInt32) ^^^ (1515870810 : Int32))), .unset, .unset, .unset, .unset, .unset, .unset, .unset, .unset] [(.int (p5 ^^^ p6))])) _
    refine XS.iconst X0.here hx rfl (hb hby at_16) ?_
    show Steps _ _ _ (s₁.setTop (mkF m 17 #[.val (.long q1), .second, .val (.long q2), .second, .val (.long q3), .second, .val (.int p4), .val (.int p5), .val (.int p6), .val (.int (((q1 ^^^ (p4.toInt64)).toInt32) ^^^ (1515870810 : Int32))), .unset, .unset, .unset, .unset, .unset, .unset, .unset, .unset] [(.int (1 : Int32)), (.int (p5 ^^^ p6))])) _
    refine XS.ixor X0.here hx rfl (hb hby at_17) rfl ?_
    show Steps _ _ _ (s₁.setTop (mkF m 18 #[.val (.long q1), .second, .val (.long q2), .second, .val (.long q3), .second, .val (.int p4), .val (.int p5), .val (.int p6), .val (.int (((q1 ^^^ (p4.toInt64)).toInt32) ^^^ (1515870810 : Int32))), .unset, .unset, .unset, .unset, .unset, .unset, .unset, .unset] [(.int ((p5 ^^^ p6) ^^^ (1 : Int32)))])) _
    refine XS.istore X0.here hx rfl (hb hby at_18) rfl (l' := #[.val (.long q1), .second, .val (.long q2), .second, .val (.long q3), .second, .val (.int p4), .val (.int p5), .val (.int p6), .val (.int (((q1 ^^^ (p4.toInt64)).toInt32) ^^^ (1515870810 : Int32))), .val (.int ((p5 ^^^ p6) ^^^ (1 : Int32))), .unset, .unset, .unset, .unset, .unset, .unset, .unset]) rfl ?_
    show Steps _ _ _ (s₁.setTop (mkF m 20 #[.val (.long q1), .second, .val (.long q2), .second, .val (.long q3), .second, .val (.int p4), .val (.int p5), .val (.int p6), .val (.int (((q1 ^^^ (p4.toInt64)).toInt32) ^^^ (1515870810 : Int32))), .val (.int ((p5 ^^^ p6) ^^^ (1 : Int32))), .unset, .unset, .unset, .unset, .unset, .unset, .unset] [])) _
    refine st7 _ ?_
    show Steps _ _ _ (T7.setTop (mkF m 23 #[.val (.long q1), .second, .val (.long q2), .second, .val (.long q3), .second, .val (.int p4), .val (.int p5), .val (.int p6), .val (.int (((q1 ^^^ (p4.toInt64)).toInt32) ^^^ (1515870810 : Int32))), .val (.int ((p5 ^^^ p6) ^^^ (1 : Int32))), .unset, .unset, .unset, .unset, .unset, .unset, .unset] [(.ref b7)])) _
    refine XS.dup X7.here hx rfl (hb hby at_23) rfl rfl ?_
    show Steps _ _ _ (T7.setTop (mkF m 24 #[.val (.long q1), .second, .val (.long q2), .second, .val (.long q3), .second, .val (.int p4), .val (.int p5), .val (.int p6), .val (.int (((q1 ^^^ (p4.toInt64)).toInt32) ^^^ (1515870810 : Int32))), .val (.int ((p5 ^^^ p6) ^^^ (1 : Int32))), .unset, .unset, .unset, .unset, .unset, .unset, .unset] [(.ref b7), (.ref b7)])) _
    refine XS.lloadN X7.here hx rfl (hb hby at_24) rfl ?_
    show Steps _ _ _ (T7.setTop (mkF m 25 #[.val (.long q1), .second, .val (.long q2), .second, .val (.long q3), .second, .val (.int p4), .val (.int p5), .val (.int p6), .val (.int (((q1 ^^^ (p4.toInt64)).toInt32) ^^^ (1515870810 : Int32))), .val (.int ((p5 ^^^ p6) ^^^ (1 : Int32))), .unset, .unset, .unset, .unset, .unset, .unset, .unset] [(.long q1), (.ref b7), (.ref b7)])) _
    refine XS.lloadN X7.here hx rfl (hb hby at_25) rfl ?_
    show Steps _ _ _ (T7.setTop (mkF m 26 #[.val (.long q1), .second, .val (.long q2), .second, .val (.long q3), .second, .val (.int p4), .val (.int p5), .val (.int p6), .val (.int (((q1 ^^^ (p4.toInt64)).toInt32) ^^^ (1515870810 : Int32))), .val (.int ((p5 ^^^ p6) ^^^ (1 : Int32))), .unset, .unset, .unset, .unset, .unset, .unset, .unset] [(.long q2), (.long q1), (.ref b7), (.ref b7)])) _
    refine XS.lload X7.here hx rfl (hb hby at_26) rfl ?_
    show Steps _ _ _ (T7.setTop (mkF m 28 #[.val (.long q1), .second, .val (.long q2), .second, .val (.long q3), .second, .val (.int p4), .val (.int p5), .val (.int p6), .val (.int (((q1 ^^^ (p4.toInt64)).toInt32) ^^^ (1515870810 : Int32))), .val (.int ((p5 ^^^ p6) ^^^ (1 : Int32))), .unset, .unset, .unset, .unset, .unset, .unset, .unset] [(.long q3), (.long q2), (.long q1), (.ref b7), (.ref b7)])) _
    refine XS.iload X7.here hx rfl (hb hby at_28) rfl ?_
    show Steps _ _ _ (T7.setTop (mkF m 30 #[.val (.long q1), .second, .val (.long q2), .second, .val (.long q3), .second, .val (.int p4), .val (.int p5), .val (.int p6), .val (.int (((q1 ^^^ (p4.toInt64)).toInt32) ^^^ (1515870810 : Int32))), .val (.int ((p5 ^^^ p6) ^^^ (1 : Int32))), .unset, .unset, .unset, .unset, .unset, .unset, .unset] [(.int (((q1 ^^^ (p4.toInt64)).toInt32) ^^^ (1515870810 : Int32))), (.long q3), (.long q2), (.long q1), (.ref b7), (.ref b7)])) _
    refine XS.iload X7.here hx rfl (hb hby at_30) rfl ?_
    show Steps _ _ _ (T7.setTop (mkF m 32 #[.val (.long q1), .second, .val (.long q2), .second, .val (.long q3), .second, .val (.int p4), .val (.int p5), .val (.int p6), .val (.int (((q1 ^^^ (p4.toInt64)).toInt32) ^^^ (1515870810 : Int32))), .val (.int ((p5 ^^^ p6) ^^^ (1 : Int32))), .unset, .unset, .unset, .unset, .unset, .unset, .unset] [(.int p4), (.int (((q1 ^^^ (p4.toInt64)).toInt32) ^^^ (1515870810 : Int32))), (.long q3), (.long q2), (.long q1), (.ref b7), (.ref b7)])) _
    refine XS.iload X7.here hx rfl (hb hby at_32) rfl ?_
    show Steps _ _ _ (T7.setTop (mkF m 34 #[.val (.long q1), .second, .val (.long q2), .second, .val (.long q3), .second, .val (.int p4), .val (.int p5), .val (.int p6), .val (.int (((q1 ^^^ (p4.toInt64)).toInt32) ^^^ (1515870810 : Int32))), .val (.int ((p5 ^^^ p6) ^^^ (1 : Int32))), .unset, .unset, .unset, .unset, .unset, .unset, .unset] [(.int p5), (.int p4), (.int (((q1 ^^^ (p4.toInt64)).toInt32) ^^^ (1515870810 : Int32))), (.long q3), (.long q2), (.long q1), (.ref b7), (.ref b7)])) _
    refine XS.iload X7.here hx rfl (hb hby at_34) rfl ?_
    show Steps _ _ _ (T7.setTop (mkF m 36 #[.val (.long q1), .second, .val (.long q2), .second, .val (.long q3), .second, .val (.int p4), .val (.int p5), .val (.int p6), .val (.int (((q1 ^^^ (p4.toInt64)).toInt32) ^^^ (1515870810 : Int32))), .val (.int ((p5 ^^^ p6) ^^^ (1 : Int32))), .unset, .unset, .unset, .unset, .unset, .unset, .unset] [(.int ((p5 ^^^ p6) ^^^ (1 : Int32))), (.int p5), (.int p4), (.int (((q1 ^^^ (p4.toInt64)).toInt32) ^^^ (1515870810 : Int32))), (.long q3), (.long q2), (.long q1), (.ref b7), (.ref b7)])) _
    refine XS.iload X7.here hx rfl (hb hby at_36) rfl ?_
    show Steps _ _ _ (T7.setTop (mkF m 38 #[.val (.long q1), .second, .val (.long q2), .second, .val (.long q3), .second, .val (.int p4), .val (.int p5), .val (.int p6), .val (.int (((q1 ^^^ (p4.toInt64)).toInt32) ^^^ (1515870810 : Int32))), .val (.int ((p5 ^^^ p6) ^^^ (1 : Int32))), .unset, .unset, .unset, .unset, .unset, .unset, .unset] [(.int p6), (.int ((p5 ^^^ p6) ^^^ (1 : Int32))), (.int p5), (.int p4), (.int (((q1 ^^^ (p4.toInt64)).toInt32) ^^^ (1515870810 : Int32))), (.long q3), (.long q2), (.long q1), (.ref b7), (.ref b7)])) _
    refine st8.trans ?_
    show Steps _ _ _ (T8.setTop (mkF m 41 #[.val (.long q1), .second, .val (.long q2), .second, .val (.long q3), .second, .val (.int p4), .val (.int p5), .val (.int p6), .val (.int (((q1 ^^^ (p4.toInt64)).toInt32) ^^^ (1515870810 : Int32))), .val (.int ((p5 ^^^ p6) ^^^ (1 : Int32))), .unset, .unset, .unset, .unset, .unset, .unset, .unset] [(.ref b7)])) _
    refine XS.astore X8.here hx rfl (hb hby at_41) rfl rfl (l' := #[.val (.long q1), .second, .val (.long q2), .second, .val (.long q3), .second, .val (.int p4), .val (.int p5), .val (.int p6), .val (.int (((q1 ^^^ (p4.toInt64)).toInt32) ^^^ (1515870810 : Int32))), .val (.int ((p5 ^^^ p6) ^^^ (1 : Int32))), .val (.ref b7), .unset, .unset, .unset, .unset, .unset, .unset]) rfl ?_
    show Steps _ _ _ (T8.setTop (mkF m 43 #[.val (.long q1), .second, .val (.long q2), .second, .val (.long q3), .second, .val (.int p4), .val (.int p5), .val (.int p6), .val (.int (((q1 ^^^ (p4.toInt64)).toInt32) ^^^ (1515870810 : Int32))), .val (.int ((p5 ^^^ p6) ^^^ (1 : Int32))), .val (.ref b7), .unset, .unset, .unset, .unset, .unset, .unset] [])) _
    refine XS.lloadN X8.here hx rfl (hb hby at_43) rfl ?_
    show Steps _ _ _ (T8.setTop (mkF m 44 #[.val (.long q1), .second, .val (.long q2), .second, .val (.long q3), .second, .val (.int p4), .val (.int p5), .val (.int p6), .val (.int (((q1 ^^^ (p4.toInt64)).toInt32) ^^^ (1515870810 : Int32))), .val (.int ((p5 ^^^ p6) ^^^ (1 : Int32))), .val (.ref b7), .unset, .unset, .unset, .unset, .unset, .unset] [(.long q1)])) _
    refine XS.lloadN X8.here hx rfl (hb hby at_44) rfl ?_
    show Steps _ _ _ (T8.setTop (mkF m 45 #[.val (.long q1), .second, .val (.long q2), .second, .val (.long q3), .second, .val (.int p4), .val (.int p5), .val (.int p6), .val (.int (((q1 ^^^ (p4.toInt64)).toInt32) ^^^ (1515870810 : Int32))), .val (.int ((p5 ^^^ p6) ^^^ (1 : Int32))), .val (.ref b7), .unset, .unset, .unset, .unset, .unset, .unset] [(.long q2), (.long q1)])) _
    refine XS.ladd X8.here hx rfl (hb hby at_45) rfl ?_
    show Steps _ _ _ (T8.setTop (mkF m 46 #[.val (.long q1), .second, .val (.long q2), .second, .val (.long q3), .second, .val (.int p4), .val (.int p5), .val (.int p6), .val (.int (((q1 ^^^ (p4.toInt64)).toInt32) ^^^ (1515870810 : Int32))), .val (.int ((p5 ^^^ p6) ^^^ (1 : Int32))), .val (.ref b7), .unset, .unset, .unset, .unset, .unset, .unset] [(.long (q1 + q2))])) _
    refine XS.lstore X8.here hx rfl (hb hby at_46) rfl (l' := #[.val (.long q1), .second, .val (.long q2), .second, .val (.long q3), .second, .val (.int p4), .val (.int p5), .val (.int p6), .val (.int (((q1 ^^^ (p4.toInt64)).toInt32) ^^^ (1515870810 : Int32))), .val (.int ((p5 ^^^ p6) ^^^ (1 : Int32))), .val (.ref b7), .val (.long (q1 + q2)), .second, .unset, .unset, .unset, .unset]) rfl ?_
    show Steps _ _ _ (T8.setTop (mkF m 48 #[.val (.long q1), .second, .val (.long q2), .second, .val (.long q3), .second, .val (.int p4), .val (.int p5), .val (.int p6), .val (.int (((q1 ^^^ (p4.toInt64)).toInt32) ^^^ (1515870810 : Int32))), .val (.int ((p5 ^^^ p6) ^^^ (1 : Int32))), .val (.ref b7), .val (.long (q1 + q2)), .second, .unset, .unset, .unset, .unset] [])) _
    refine XS.iload X8.here hx rfl (hb hby at_48) rfl ?_
    show Steps _ _ _ (T8.setTop (mkF m 50 #[.val (.long q1), .second, .val (.long q2), .second, .val (.long q3), .second, .val (.int p4), .val (.int p5), .val (.int p6), .val (.int (((q1 ^^^ (p4.toInt64)).toInt32) ^^^ (1515870810 : Int32))), .val (.int ((p5 ^^^ p6) ^^^ (1 : Int32))), .val (.ref b7), .val (.long (q1 + q2)), .second, .unset, .unset, .unset, .unset] [(.int p4)])) _
    refine XS.i2l X8.here hx rfl (hb hby at_50) rfl ?_
    show Steps _ _ _ (T8.setTop (mkF m 51 #[.val (.long q1), .second, .val (.long q2), .second, .val (.long q3), .second, .val (.int p4), .val (.int p5), .val (.int p6), .val (.int (((q1 ^^^ (p4.toInt64)).toInt32) ^^^ (1515870810 : Int32))), .val (.int ((p5 ^^^ p6) ^^^ (1 : Int32))), .val (.ref b7), .val (.long (q1 + q2)), .second, .unset, .unset, .unset, .unset] [(.long (p4.toInt64))])) _
    refine XS.iload X8.here hx rfl (hb hby at_51) rfl ?_
    show Steps _ _ _ (T8.setTop (mkF m 53 #[.val (.long q1), .second, .val (.long q2), .second, .val (.long q3), .second, .val (.int p4), .val (.int p5), .val (.int p6), .val (.int (((q1 ^^^ (p4.toInt64)).toInt32) ^^^ (1515870810 : Int32))), .val (.int ((p5 ^^^ p6) ^^^ (1 : Int32))), .val (.ref b7), .val (.long (q1 + q2)), .second, .unset, .unset, .unset, .unset] [(.int p5), (.long (p4.toInt64))])) _
    refine XS.i2l X8.here hx rfl (hb hby at_53) rfl ?_
    show Steps _ _ _ (T8.setTop (mkF m 54 #[.val (.long q1), .second, .val (.long q2), .second, .val (.long q3), .second, .val (.int p4), .val (.int p5), .val (.int p6), .val (.int (((q1 ^^^ (p4.toInt64)).toInt32) ^^^ (1515870810 : Int32))), .val (.int ((p5 ^^^ p6) ^^^ (1 : Int32))), .val (.ref b7), .val (.long (q1 + q2)), .second, .unset, .unset, .unset, .unset] [(.long (p5.toInt64)), (.long (p4.toInt64))])) _
    refine XS.ladd X8.here hx rfl (hb hby at_54) rfl ?_
    show Steps _ _ _ (T8.setTop (mkF m 55 #[.val (.long q1), .second, .val (.long q2), .second, .val (.long q3), .second, .val (.int p4), .val (.int p5), .val (.int p6), .val (.int (((q1 ^^^ (p4.toInt64)).toInt32) ^^^ (1515870810 : Int32))), .val (.int ((p5 ^^^ p6) ^^^ (1 : Int32))), .val (.ref b7), .val (.long (q1 + q2)), .second, .unset, .unset, .unset, .unset] [(.long ((p4.toInt64) + (p5.toInt64)))])) _
    refine XS.iload X8.here hx rfl (hb hby at_55) rfl ?_
    show Steps _ _ _ (T8.setTop (mkF m 57 #[.val (.long q1), .second, .val (.long q2), .second, .val (.long q3), .second, .val (.int p4), .val (.int p5), .val (.int p6), .val (.int (((q1 ^^^ (p4.toInt64)).toInt32) ^^^ (1515870810 : Int32))), .val (.int ((p5 ^^^ p6) ^^^ (1 : Int32))), .val (.ref b7), .val (.long (q1 + q2)), .second, .unset, .unset, .unset, .unset] [(.int p6), (.long ((p4.toInt64) + (p5.toInt64)))])) _
    refine XS.i2l X8.here hx rfl (hb hby at_57) rfl ?_
    show Steps _ _ _ (T8.setTop (mkF m 58 #[.val (.long q1), .second, .val (.long q2), .second, .val (.long q3), .second, .val (.int p4), .val (.int p5), .val (.int p6), .val (.int (((q1 ^^^ (p4.toInt64)).toInt32) ^^^ (1515870810 : Int32))), .val (.int ((p5 ^^^ p6) ^^^ (1 : Int32))), .val (.ref b7), .val (.long (q1 + q2)), .second, .unset, .unset, .unset, .unset] [(.long (p6.toInt64)), (.long ((p4.toInt64) + (p5.toInt64)))])) _
    refine XS.ladd X8.here hx rfl (hb hby at_58) rfl ?_
    show Steps _ _ _ (T8.setTop (mkF m 59 #[.val (.long q1), .second, .val (.long q2), .second, .val (.long q3), .second, .val (.int p4), .val (.int p5), .val (.int p6), .val (.int (((q1 ^^^ (p4.toInt64)).toInt32) ^^^ (1515870810 : Int32))), .val (.int ((p5 ^^^ p6) ^^^ (1 : Int32))), .val (.ref b7), .val (.long (q1 + q2)), .second, .unset, .unset, .unset, .unset] [(.long (((p4.toInt64) + (p5.toInt64)) + (p6.toInt64)))])) _
    refine XS.lstore X8.here hx rfl (hb hby at_59) rfl (l' := #[.val (.long q1), .second, .val (.long q2), .second, .val (.long q3), .second, .val (.int p4), .val (.int p5), .val (.int p6), .val (.int (((q1 ^^^ (p4.toInt64)).toInt32) ^^^ (1515870810 : Int32))), .val (.int ((p5 ^^^ p6) ^^^ (1 : Int32))), .val (.ref b7), .val (.long (q1 + q2)), .second, .val (.long (((p4.toInt64) + (p5.toInt64)) + (p6.toInt64))), .second, .unset, .unset]) rfl ?_
    show Steps _ _ _ (T8.setTop (mkF m 61 #[.val (.long q1), .second, .val (.long q2), .second, .val (.long q3), .second, .val (.int p4), .val (.int p5), .val (.int p6), .val (.int (((q1 ^^^ (p4.toInt64)).toInt32) ^^^ (1515870810 : Int32))), .val (.int ((p5 ^^^ p6) ^^^ (1 : Int32))), .val (.ref b7), .val (.long (q1 + q2)), .second, .val (.long (((p4.toInt64) + (p5.toInt64)) + (p6.toInt64))), .second, .unset, .unset] [])) _
    refine XS.lload X8.here hx rfl (hb hby at_61) rfl ?_
    show Steps _ _ _ (T8.setTop (mkF m 63 #[.val (.long q1), .second, .val (.long q2), .second, .val (.long q3), .second, .val (.int p4), .val (.int p5), .val (.int p6), .val (.int (((q1 ^^^ (p4.toInt64)).toInt32) ^^^ (1515870810 : Int32))), .val (.int ((p5 ^^^ p6) ^^^ (1 : Int32))), .val (.ref b7), .val (.long (q1 + q2)), .second, .val (.long (((p4.toInt64) + (p5.toInt64)) + (p6.toInt64))), .second, .unset, .unset] [(.long (q1 + q2))])) _
    refine XS.lload X8.here hx rfl (hb hby at_63) rfl ?_
    show Steps _ _ _ (T8.setTop (mkF m 65 #[.val (.long q1), .second, .val (.long q2), .second, .val (.long q3), .second, .val (.int p4), .val (.int p5), .val (.int p6), .val (.int (((q1 ^^^ (p4.toInt64)).toInt32) ^^^ (1515870810 : Int32))), .val (.int ((p5 ^^^ p6) ^^^ (1 : Int32))), .val (.ref b7), .val (.long (q1 + q2)), .second, .val (.long (((p4.toInt64) + (p5.toInt64)) + (p6.toInt64))), .second, .unset, .unset] [(.long q3), (.long (q1 + q2))])) _
    refine XS.lsub X8.here hx rfl (hb hby at_65) rfl ?_
    show Steps _ _ _ (T8.setTop (mkF m 66 #[.val (.long q1), .second, .val (.long q2), .second, .val (.long q3), .second, .val (.int p4), .val (.int p5), .val (.int p6), .val (.int (((q1 ^^^ (p4.toInt64)).toInt32) ^^^ (1515870810 : Int32))), .val (.int ((p5 ^^^ p6) ^^^ (1 : Int32))), .val (.ref b7), .val (.long (q1 + q2)), .second, .val (.long (((p4.toInt64) + (p5.toInt64)) + (p6.toInt64))), .second, .unset, .unset] [(.long ((q1 + q2) - q3))])) _
    refine XS.lload X8.here hx rfl (hb hby at_66) rfl ?_
    show Steps _ _ _ (T8.setTop (mkF m 68 #[.val (.long q1), .second, .val (.long q2), .second, .val (.long q3), .second, .val (.int p4), .val (.int p5), .val (.int p6), .val (.int (((q1 ^^^ (p4.toInt64)).toInt32) ^^^ (1515870810 : Int32))), .val (.int ((p5 ^^^ p6) ^^^ (1 : Int32))), .val (.ref b7), .val (.long (q1 + q2)), .second, .val (.long (((p4.toInt64) + (p5.toInt64)) + (p6.toInt64))), .second, .unset, .unset] [(.long (((p4.toInt64) + (p5.toInt64)) + (p6.toInt64))), (.long ((q1 + q2) - q3))])) _
    refine XS.ladd X8.here hx rfl (hb hby at_68) rfl ?_
    show Steps _ _ _ (T8.setTop (mkF m 69 #[.val (.long q1), .second, .val (.long q2), .second, .val (.long q3), .second, .val (.int p4), .val (.int p5), .val (.int p6), .val (.int (((q1 ^^^ (p4.toInt64)).toInt32) ^^^ (1515870810 : Int32))), .val (.int ((p5 ^^^ p6) ^^^ (1 : Int32))), .val (.ref b7), .val (.long (q1 + q2)), .second, .val (.long (((p4.toInt64) + (p5.toInt64)) + (p6.toInt64))), .second, .unset, .unset] [(.long (((q1 + q2) - q3) + (((p4.toInt64) + (p5.toInt64)) + (p6.toInt64))))])) _
    refine XS.lstore X8.here hx rfl (hb hby at_69) rfl (l' := #[.val (.long q1), .second, .val (.long q2), .second, .val (.long q3), .second, .val (.int p4), .val (.int p5), .val (.int p6), .val (.int (((q1 ^^^ (p4.toInt64)).toInt32) ^^^ (1515870810 : Int32))), .val (.int ((p5 ^^^ p6) ^^^ (1 : Int32))), .val (.ref b7), .val (.long (q1 + q2)), .second, .val (.long (((p4.toInt64) + (p5.toInt64)) + (p6.toInt64))), .second, .val (.long (((q1 + q2) - q3) + (((p4.toInt64) + (p5.toInt64)) + (p6.toInt64)))), .second]) rfl ?_
    show Steps _ _ _ (T8.setTop (mkF m 71 #[.val (.long q1), .second, .val (.long q2), .second, .val (.long q3), .second, .val (.int p4), .val (.int p5), .val (.int p6), .val (.int (((q1 ^^^ (p4.toInt64)).toInt32) ^^^ (1515870810 : Int32))), .val (.int ((p5 ^^^ p6) ^^^ (1 : Int32))), .val (.ref b7), .val (.long (q1 + q2)), .second, .val (.long (((p4.toInt64) + (p5.toInt64)) + (p6.toInt64))), .second, .val (.long (((q1 + q2) - q3) + (((p4.toInt64) + (p5.toInt64)) + (p6.toInt64)))), .second] [])) _
    refine XS.aload X8.here hx rfl (hb hby at_71) rfl rfl ?_
    show Steps _ _ _ (T8.setTop (mkF m 73 #[.val (.long q1), .second, .val (.long q2), .second, .val (.long q3), .second, .val (.int p4), .val (.int p5), .val (.int p6), .val (.int (((q1 ^^^ (p4.toInt64)).toInt32) ^^^ (1515870810 : Int32))), .val (.int ((p5 ^^^ p6) ^^^ (1 : Int32))), .val (.ref b7), .val (.long (q1 + q2)), .second, .val (.long (((p4.toInt64) + (p5.toInt64)) + (p6.toInt64))), .second, .val (.long (((q1 + q2) - q3) + (((p4.toInt64) + (p5.toInt64)) + (p6.toInt64)))), .second] [(.ref b7)])) _
    refine st9.trans ?_
    show Steps _ _ _ (T9.setTop (mkF m 76 #[.val (.long q1), .second, .val (.long q2), .second, .val (.long q3), .second, .val (.int p4), .val (.int p5), .val (.int p6), .val (.int (((q1 ^^^ (p4.toInt64)).toInt32) ^^^ (1515870810 : Int32))), .val (.int ((p5 ^^^ p6) ^^^ (1 : Int32))), .val (.ref b7), .val (.long (q1 + q2)), .second, .val (.long (((p4.toInt64) + (p5.toInt64)) + (p6.toInt64))), .second, .val (.long (((q1 + q2) - q3) + (((p4.toInt64) + (p5.toInt64)) + (p6.toInt64)))), .second] [(.long (((((q1 + q2) - q3) + (p4.toInt64)) + (p5.toInt64)) + (p6.toInt64)))])) _
    refine XS.lload X9.here hx rfl (hb hby at_76) rfl ?_
    show Steps _ _ _ (T9.setTop (mkF m 78 #[.val (.long q1), .second, .val (.long q2), .second, .val (.long q3), .second, .val (.int p4), .val (.int p5), .val (.int p6), .val (.int (((q1 ^^^ (p4.toInt64)).toInt32) ^^^ (1515870810 : Int32))), .val (.int ((p5 ^^^ p6) ^^^ (1 : Int32))), .val (.ref b7), .val (.long (q1 + q2)), .second, .val (.long (((p4.toInt64) + (p5.toInt64)) + (p6.toInt64))), .second, .val (.long (((q1 + q2) - q3) + (((p4.toInt64) + (p5.toInt64)) + (p6.toInt64)))), .second] [(.long (((q1 + q2) - q3) + (((p4.toInt64) + (p5.toInt64)) + (p6.toInt64)))), (.long (((((q1 + q2) - q3) + (p4.toInt64)) + (p5.toInt64)) + (p6.toInt64)))])) _
    refine XS.lcmp X9.here hx rfl (hb hby at_78) rfl ?_
    show Steps _ _ _ (T9.setTop (mkF m 79 #[.val (.long q1), .second, .val (.long q2), .second, .val (.long q3), .second, .val (.int p4), .val (.int p5), .val (.int p6), .val (.int (((q1 ^^^ (p4.toInt64)).toInt32) ^^^ (1515870810 : Int32))), .val (.int ((p5 ^^^ p6) ^^^ (1 : Int32))), .val (.ref b7), .val (.long (q1 + q2)), .second, .val (.long (((p4.toInt64) + (p5.toInt64)) + (p6.toInt64))), .second, .val (.long (((q1 + q2) - q3) + (((p4.toInt64) + (p5.toInt64)) + (p6.toInt64)))), .second] [(.int (lcmpW (((((q1 + q2) - q3) + (p4.toInt64)) + (p5.toInt64)) + (p6.toInt64)) (((q1 + q2) - q3) + (((p4.toInt64) + (p5.toInt64)) + (p6.toInt64)))))])) _
    refine XS.ifNo X9.here hx rfl (hb hby at_79) rfl ((if0 _ _).trans (teq hc79).2) ?_
    show Steps _ _ _ (T9.setTop (mkF m 82 #[.val (.long q1), .second, .val (.long q2), .second, .val (.long q3), .second, .val (.int p4), .val (.int p5), .val (.int p6), .val (.int (((q1 ^^^ (p4.toInt64)).toInt32) ^^^ (1515870810 : Int32))), .val (.int ((p5 ^^^ p6) ^^^ (1 : Int32))), .val (.ref b7), .val (.long (q1 + q2)), .second, .val (.long (((p4.toInt64) + (p5.toInt64)) + (p6.toInt64))), .second, .val (.long (((q1 + q2) - q3) + (((p4.toInt64) + (p5.toInt64)) + (p6.toInt64)))), .second] [])) _
    refine XS.iconst X9.here hx rfl (hb hby at_82) ?_
    show Steps _ _ _ (T9.setTop (mkF m 83 #[.val (.long q1), .second, .val (.long q2), .second, .val (.long q3), .second, .val (.int p4), .val (.int p5), .val (.int p6), .val (.int (((q1 ^^^ (p4.toInt64)).toInt32) ^^^ (1515870810 : Int32))), .val (.int ((p5 ^^^ p6) ^^^ (1 : Int32))), .val (.ref b7), .val (.long (q1 + q2)), .second, .val (.long (((p4.toInt64) + (p5.toInt64)) + (p6.toInt64))), .second, .val (.long (((q1 + q2) - q3) + (((p4.toInt64) + (p5.toInt64)) + (p6.toInt64)))), .second] [(.int (1 : Int32))])) _
    refine XS.goto X9.here hx rfl (pc0 := 83) (pc' := 87) rfl (hb hby at_83) (by decide) (by decide) ?_
    show Steps _ _ _ (T9.setTop (mkF m 87 #[.val (.long q1), .second, .val (.long q2), .second, .val (.long q3), .second, .val (.int p4), .val (.int p5), .val (.int p6), .val (.int (((q1 ^^^ (p4.toInt64)).toInt32) ^^^ (1515870810 : Int32))), .val (.int ((p5 ^^^ p6) ^^^ (1 : Int32))), .val (.ref b7), .val (.long (q1 + q2)), .second, .val (.long (((p4.toInt64) + (p5.toInt64)) + (p6.toInt64))), .second, .val (.long (((q1 + q2) - q3) + (((p4.toInt64) + (p5.toInt64)) + (p6.toInt64)))), .second] [(.int (1 : Int32))])) _
    exact retN X9 hx (t := .boolean) Bd.returns (by simp) (hb hby at_87) hr
  · show Q0 Z q1 q2 q3 p4 p5 p6 h0 n0 _ T9.heap _
    rw [eh9]
    exact ⟨rfl, N9⟩
-- 5. FROM THE CASE'S WORDS TO rm0, AND THE OWED THEOREMS
set_option maxRecDepth 65536 in
set_option maxHeartbeats 40000000 in
theorem comes_1 {Post : Tables → Env → Array Value → State → Outcome → State → Prop} (hpost : ∀ tb e args s v u, (limb_1_1.after args s (.returned v) u = true ∧ limb_1_2.after args s (.returned v) u = true ∧ True) → FrameEnd s (.returned v) u (Jvm.fieldLocs frame_1_writes args s ++ Jvm.arrayLocs frame_1_arrays args s ++ Jvm.staticLocs frame_1_statics s) 16 128 → Post tb e args s (.returned v) u) :
    ArmFor flags0 classFile x code maxLocals ret World_1 tables_1 room_1 Calls_1 rest_1 Pre_1 Post := by
  intro l hfl _ _ p e ha hc hk s m args below hf hA hF happ hP
  obtain ⟨hcalls, hrest, hpre⟩ := hP
  obtain ⟨-, -, -, hnamed, -, -, -, hat⟩ := (Spec.applies_iff hf).mp happ
  obtain ⟨hg, hn⟩ := and_e (Cond.before_iff.mp (show (Jvm.Cond.and given_1 narrow_1).before args s = true from hpre))
  obtain ⟨g10, g11⟩ := and_e hg
  obtain ⟨g12, g13⟩ := and_e g11
  obtain ⟨g14, g15⟩ := and_e g13
  obtain ⟨g16, g17⟩ := and_e g15
  obtain ⟨g18, g19⟩ := and_e g17
  obtain ⟨g20, g21⟩ := and_e g19
  obtain ⟨w0, w1, w2, w3, w4, w5, rfl⟩ : ∃ w0 w1 w2 w3 w4 w5 : Value, args = #[w0, w1, w2, w3, w4, w5] := by
    have hs : args.size = 6 := by simpa [Cond.value, given_1] using g10
    obtain ⟨L⟩ := args
    match L, hs with
    | [w0, w1, w2, w3, w4, w5], _ => exact ⟨w0, w1, w2, w3, w4, w5, rfl⟩
  have hw := fun d (hd : d ∈ tables_1) => atoms_spec (ws := Jvm.Cond.code x code maxLocals ret :: tables_1) hat d (List.mem_cons_of_mem _ hd)
  have hfit : Fit s := fun {y c} hc i hi => by
    obtain ⟨ha, rfl⟩ := Array.getElem?_eq_some_iff.mp hc
    have q := List.all_eq_true.mp ((Array.all_eq_true_iff_forall_mem.mp hF) _ (Array.getElem_mem ha)) i (List.mem_range.mpr hi)
    simpa [Array.getElem?_eq_getElem hi] using q
  obtain ⟨i0, ei0⟩ := isL_v g12
  obtain rfl : w0 = (.long i0) := Option.some.inj ei0
  obtain ⟨i1, ei1⟩ := isL_v g14
  obtain rfl : w1 = (.long i1) := Option.some.inj ei1
  obtain ⟨i2, ei2⟩ := isL_v g16
  obtain rfl : w2 = (.long i2) := Option.some.inj ei2
  obtain ⟨i3, ei3⟩ := is_v g18
  obtain rfl : w3 = (.int i3) := Option.some.inj ei3
  obtain ⟨i4, ei4⟩ := is_v g20
  obtain rfl : w4 = (.int i4) := Option.some.inj ei4
  obtain ⟨i5, ei5⟩ := is_v g21
  obtain rfl : w5 = (.int i5) := Option.some.inj ei5
  obtain ⟨n, o, h1, h2, h3, _, L, rfl, ⟨rfl, N⟩, hq⟩ := rm0 l s _ hw tables_1 i0 i1 i2 i3 i4 i5 s.heap s.heap.size (Nat.le_refl _) ((lw_eq _ _).mpr (own_sum _ _ _ _ _ _)) p e ha hc hk s m _ below hf ((Spec.applies_iff_loose hf).mp happ).1 ⟨rfl, State.Warmed39.refl s, rfl⟩ trivial
  refine ⟨n, _, h1, h2, h3, hpost _ _ _ _ _ _ ⟨Cond.after_iff.mpr rfl, Cond.after_iff.mpr (eq_i res_at (Term.int_eval (1)) rfl), trivial⟩ ⟨hq.1, hq.2.1, (hq.2.2.sift fun y hy => Or.inr (N y hy)).mono (by decide) (by decide)⟩⟩
theorem main_1_1 : Claimed_1_1 := comes_1 fun _ _ _ _ _ _ h hF => ⟨h.1, hF⟩
theorem main_1_2 : Claimed_1_2 := comes_1 fun _ _ _ _ _ _ h hF => ⟨h.2.1, hF⟩
end Jvm.Pilot.@@N@@
namespace Jvm.Pilot.@@N@@
open Jvm Jvm.ClassFile Sem Op Lib Jvm.Free Jvm.Stand Jvm.Pilot.@@N@@.Jvm.D
/-! MADE BY PROGRAM (witnessworld.py) out of the Statement's table words and the real class files: 8 classes; the members and pool entries that the words name. The judged class is class 1, her method 1. -/
namespace start1
open Jvm.ClassFile
def u (s : String) : CpInfo := .utf8 (stringToUtf16 s)
/-- a pool by its gaps: so many unusable entries, then the entry; so many at the end -/
def gap : Nat → List CpInfo → List CpInfo
  | 0, r => r
  | n + 1, r => .unusable :: gap n r
def poolList (es : List (Nat × CpInfo)) (last : Nat) : List CpInfo := es.foldr (fun e r => gap e.1 (e.2 :: r)) (gap last [])
def pool (es : List (Nat × CpInfo)) (last : Nat) : Array CpInfo := ⟨poolList es last⟩
def fileOf (pool : Array CpInfo) (this : Nat) (attrs : Array Attribute := #[]) (ms : Array MethodInfo := #[]) (fl : Nat := 33) (sup : Nat := 0) (ifs : Array Nat := #[]) (fds : Array FieldInfo := #[]) : ClassFile where
  minorVersion := 0
  majorVersion := 65
  constantPool := pool
  accessFlags := fl
  thisClass := this
  superClass := sup
  interfaces := ifs
  fields := fds
  methods := ms
  attributes := attrs
def plain (name : String) (sup : Option ClassId) : Class where
  name := name
  kind := .ordinary
  loader := none
  accessFlags := 33
  super := sup
  interfaces := #[]
  cf := none
  fields := #[]
  methods := #[]
  instanceTypes := #[]
  staticTypes := #[]
  resolved := #[]
  callSites := []
  init := .initialized
  statics := none
  mirror := none

def pool0 : Array CpInfo := pool [(5, u "<init>"), (0, u "()V"), (1, .class_ 10), (1, u "java/lang/Object")] 113

def k0c0 : Code := { maxStack := 0, maxLocals := 1, code := object_method_1_code, exceptionTable := #[], attributes := #[] }
def k0m0 : Method := { name := "<init>", desc := "()V", sig := { parameters := [], returnType := none }, accessFlags := 1, code := some k0c0 }
/-- java/lang/Object -/
def k0 : Class := { plain "java/lang/Object" none with
  accessFlags := 33
  interfaces := #[]
  cf := some (fileOf pool0 8 #[] #[{ accessFlags := 1, nameIndex := 5, descriptorIndex := 6, attributes := #[] }] 33 0 #[] #[])
  fields := #[]
  methods := #[k0m0]
  instanceTypes := #[]
  staticTypes := #[]
  resolved := Array.replicate 124 none
  statics := none }

def pool1 : Array CpInfo := pool [(2, .class_ 4), (1, u "java/lang/Object"), (0, u "<init>"), (0, u "()V"), (0, .integer 1515870810), (0, .class_ 9), (0, u "com/example/binario/binario/rules/Score"), (0, .methodref 8 11), (0, .nameAndType 5 12), (0, u "(JJJIIIII)V"), (0, .methodref 8 14), (0, .nameAndType 15 16), (0, u "total"), (0, u "()J"), (0, .class_ 18), (0, u "com/example/binario/binario/rules/ScoreTotalPinLaw"), (2, u "law"), (0, u "(JJJIII)Z")] 3

def k1m0 : Method := { name := "<init>", desc := "()V", sig := { parameters := [], returnType := none }, accessFlags := 2, code := none }
def k1c1 : Code := { maxStack := 13, maxLocals := 18, code := code, exceptionTable := #[], attributes := #[] }
def k1m1 : Method := { name := "law", desc := "(JJJIII)Z", sig := { parameters := [.long, .long, .long, .int, .int, .int], returnType := some .boolean }, accessFlags := 9, code := some k1c1 }
/-- com/example/binario/binario/rules/ScoreTotalPinLaw -/
def k1 : Class := { plain "com/example/binario/binario/rules/ScoreTotalPinLaw" (some 0) with
  accessFlags := 49
  interfaces := #[]
  cf := some (fileOf pool1 17 #[] #[{ accessFlags := 2, nameIndex := 5, descriptorIndex := 6, attributes := #[] }, { accessFlags := 9, nameIndex := 21, descriptorIndex := 22, attributes := #[] }] 49 2 #[] #[])
  fields := #[]
  methods := #[k1m0, k1m1]
  instanceTypes := #[]
  staticTypes := #[]
  resolved := Array.replicate 26 none
  statics := none }

def pool2 : Array CpInfo := pool [(1, .methodref 2 3), (0, .class_ 4), (0, .nameAndType 5 6), (0, u "java/lang/Object"), (0, u "<init>"), (0, u "()V"), (0, .class_ 8), (0, u "java/lang/Record")] 13

def k2c0 : Code := { maxStack := 1, maxLocals := 1, code := jdk_30_method_1_code, exceptionTable := #[], attributes := #[] }
def k2m0 : Method := { name := "<init>", desc := "()V", sig := { parameters := [], returnType := none }, accessFlags := 4, code := some k2c0 }
/-- java/lang/Record -/
def k2 : Class := { plain "java/lang/Record" (some 0) with
  accessFlags := 1057
  interfaces := #[]
  cf := some (fileOf pool2 7 #[] #[{ accessFlags := 4, nameIndex := 5, descriptorIndex := 6, attributes := #[] }] 1057 2 #[] #[])
  fields := #[]
  methods := #[k2m0]
  instanceTypes := #[]
  staticTypes := #[]
  resolved := Array.replicate 22 none
  statics := none }

def pool3 : Array CpInfo := pool [(1, .methodref 2 3), (0, .class_ 4), (0, .nameAndType 5 6), (0, u "java/lang/Record"), (0, u "<init>"), (0, u "()V"), (0, .fieldref 8 9), (0, .class_ 10), (0, .nameAndType 11 12), (0, u "com/example/binario/binario/rules/Score"), (0, u "routes"), (0, u "J"), (0, .fieldref 8 14), (0, .nameAndType 15 12), (0, u "completed"), (0, .fieldref 8 17), (0, .nameAndType 18 12), (0, u "failed"), (0, .fieldref 8 20), (0, .nameAndType 21 22), (0, u "completedTickets"), (0, u "I"), (0, .fieldref 8 24), (0, .nameAndType 25 22), (0, u "bonus"), (0, .fieldref 8 27), (0, .nameAndType 28 22), (0, u "passengers"), (0, .fieldref 8 30), (0, .nameAndType 31 22), (0, u "passengerCount"), (0, .fieldref 8 33), (0, .nameAndType 34 22), (0, u "attractions"), (2, u "(JJJIIIII)V"), (16, u "total"), (0, u "()J")] 30

def k3c0 : Code := { maxStack := 3, maxLocals := 12, code := prog_73_method_2_code, exceptionTable := #[], attributes := #[] }
def k3m0 : Method := { name := "<init>", desc := "(JJJIIIII)V", sig := { parameters := [.long, .long, .long, .int, .int, .int, .int, .int], returnType := none }, accessFlags := 1, code := some k3c0 }
def k3c1 : Code := { maxStack := 4, maxLocals := 1, code := prog_73_method_3_code, exceptionTable := #[], attributes := #[] }
def k3m1 : Method := { name := "total", desc := "()J", sig := { parameters := [], returnType := some .long }, accessFlags := 1, code := some k3c1 }
/-- com/example/binario/binario/rules/Score -/
def k3 : Class := { plain "com/example/binario/binario/rules/Score" (some 2) with
  accessFlags := 49
  interfaces := #[]
  cf := some (fileOf pool3 8 #[] #[{ accessFlags := 1, nameIndex := 5, descriptorIndex := 37, attributes := #[] }, { accessFlags := 1, nameIndex := 54, descriptorIndex := 55, attributes := #[] }] 49 2 #[] #[{ accessFlags := 18, nameIndex := 11, descriptorIndex := 12, attributes := #[] }, { accessFlags := 18, nameIndex := 15, descriptorIndex := 12, attributes := #[] }, { accessFlags := 18, nameIndex := 18, descriptorIndex := 12, attributes := #[] }, { accessFlags := 18, nameIndex := 21, descriptorIndex := 22, attributes := #[] }, { accessFlags := 18, nameIndex := 25, descriptorIndex := 22, attributes := #[] }, { accessFlags := 18, nameIndex := 28, descriptorIndex := 22, attributes := #[] }, { accessFlags := 18, nameIndex := 31, descriptorIndex := 22, attributes := #[] }, { accessFlags := 18, nameIndex := 34, descriptorIndex := 22, attributes := #[] }])
  fields := #[{ name := "routes", type := .long, accessFlags := 18, slot := 0, constantValue := 0 }, { name := "completed", type := .long, accessFlags := 18, slot := 1, constantValue := 0 }, { name := "failed", type := .long, accessFlags := 18, slot := 2, constantValue := 0 }, { name := "completedTickets", type := .int, accessFlags := 18, slot := 3, constantValue := 0 }, { name := "bonus", type := .int, accessFlags := 18, slot := 4, constantValue := 0 }, { name := "passengers", type := .int, accessFlags := 18, slot := 5, constantValue := 0 }, { name := "passengerCount", type := .int, accessFlags := 18, slot := 6, constantValue := 0 }, { name := "attractions", type := .int, accessFlags := 18, slot := 7, constantValue := 0 }]
  methods := #[k3m0, k3m1]
  instanceTypes := #[.long, .long, .long, .int, .int, .int, .int, .int]
  staticTypes := #[]
  resolved := Array.replicate 86 none
  statics := none }

def pool4 : Array CpInfo := pool [(1, u "java/lang/Cloneable"), (0, .class_ 1), (0, u "java/lang/Object"), (0, .class_ 3)] 3

/-- java/lang/Cloneable -/
def k4 : Class := { plain "java/lang/Cloneable" (some 0) with
  accessFlags := 1537
  interfaces := #[]
  cf := some (fileOf pool4 2 #[] #[] 1537 4 #[] #[])
  fields := #[]
  methods := #[]
  instanceTypes := #[]
  staticTypes := #[]
  resolved := Array.replicate 8 none
  statics := none }

def pool5 : Array CpInfo := pool [(1, u "java/io/Serializable"), (0, .class_ 1), (0, u "java/lang/Object"), (0, .class_ 3)] 3

/-- java/io/Serializable -/
def k5 : Class := { plain "java/io/Serializable" (some 0) with
  accessFlags := 1537
  interfaces := #[]
  cf := some (fileOf pool5 2 #[] #[] 1537 4 #[] #[])
  fields := #[]
  methods := #[]
  instanceTypes := #[]
  staticTypes := #[]
  resolved := Array.replicate 8 none
  statics := none }

/-- the primitive byte -/
def k6 : Class := { plain "byte" none with kind := .primitive 'B', accessFlags := 0x411 }
/-- [B -/
def k7 : Class := { plain "[B" (some 0) with kind := .array 6 .byte, interfaces := #[4, 5], accessFlags := 1041 }

def heap : Heap := #[]
def classes : Array Class := #[k0, k1, k2, k3, k4, k5, k6, k7]
def interned : List (Array UInt16 × Addr) := []
def slotsUsed : Nat := 0
def theMethod : MethodId := ⟨1, 1⟩
def args0 : Array Value := #[.long 5, .long 6, .long 7, .int 1, .int 2, .int 3]
def aboutOver (below : List Frame) : State where
  vm := { classes := classes, interned := interned.toArray }
  heap := heap
  slotsUsed := slotsUsed
  threads := #[{ frames := .invoking theMethod args0 :: below }]
def below0 : List Frame := [.native { method := ⟨0, 0⟩, args := #[] }]
def about1 : State := aboutOver below0
def p0 : Program := .bare "" "" ""
def e0 : Env := launch0.env 0 0 0
theorem w_frames : about1.frames = Frame.invoking theMethod args0 :: below0 := rfl
set_option maxRecDepth 65536 in
theorem w_args : argsFit about1.vm theMethod args0 = true := by decide +kernel
set_option maxRecDepth 65536 in
theorem w_heap : heapFits about1 = true := by decide +kernel
set_option maxRecDepth 65536 in
theorem w_runnable : about1.curStatus? = some .runnable := by decide +kernel
set_option maxRecDepth 65536 in
theorem w_alone : about1.alone = true := by decide +kernel
set_option maxRecDepth 65536 in
theorem w_named : about1.methodNamed? x = some theMethod := by decide +kernel
set_option maxRecDepth 65536 in
theorem w_hears : about1.hears theMethod below0 = true := by decide +kernel
set_option maxRecDepth 65536 in
theorem w_ripe : about1.ripe theMethod args0 below0 = true := by decide +kernel
theorem w_running : about1.status = .running := rfl
set_option maxRecDepth 65536 in
theorem w_room : about1.hasRoom e0.platform room_1 = true :=
  launch0.hasRoom_least _ room_1 (by decide +kernel) (by decide +kernel) (by decide +kernel) (by decide +kernel) (by decide +kernel) (by decide +kernel)
theorem allAtoms_all (ts : List Jvm.Cond) (a : Array Jvm.Value) (st : Jvm.State) : (allAtoms ts).before a st = ts.all (fun c => c.before a st) := by
  induction ts with
  | nil => rfl
  | cons c t ih =>
    show (Jvm.Cond.and c (allAtoms t)).before a st = _
    rw [Jvm.Cond.before_and, ih, List.all_cons]
def words1 : List Jvm.Cond := Jvm.Cond.code x code maxLocals ret :: tables_1
/-- a 'code' word, met by the world's own term for the bytes: nothing is compared byte by byte -/
theorem code_word {y : MethodName} {bytes : ByteArray} {mx : Nat} {rt : Option FieldType} {a : Array Value} {s : State} {m : MethodId} {meth : Method} {c : Code} (h1 : s.methodNamed? y = some m) (h2 : s.vm.method? m = some meth) (h3 : meth.code = some c) (h4 : c.code = bytes)
    (h5 : (c.maxLocals == mx && c.exceptionTable.isEmpty && decide (c.maxStack ≤ mostOperands) && decide (meth.sig.returnType = rt) && !meth.locks && decide (parseMethodDescriptor y.desc = some meth.sig)) = true) : (Jvm.Cond.code y bytes mx rt).before a s = true := by
  simp only [Bool.and_eq_true, beq_iff_eq, Bool.not_eq_true', decide_eq_true_eq] at h5
  obtain ⟨⟨⟨⟨⟨g1, g2⟩, g3⟩, g4⟩, g5⟩, g6⟩ := h5
  simp [Cond.before, Cond.holds, Cond.value, h1, h2, h3, h4, g1, g2, g3, g4, g5, g6]
def isCode : Jvm.Cond → Bool
  | .code _ _ _ _ => true
  | _ => false
theorem all_split {L : List Jvm.Cond} {P : Jvm.Cond → Bool} (h1 : L.all (fun c => isCode c || P c) = true) (h2 : ∀ c ∈ L.filter isCode, P c = true) : L.all P = true := by
  refine List.all_eq_true.mpr fun c hc => ?_
  have h := List.all_eq_true.mp h1 c hc
  rcases Bool.eq_false_or_eq_true (isCode c) with hi | hi
  · exact h2 c (List.mem_filter.mpr ⟨hc, hi⟩)
  · simpa [hi] using h
set_option maxRecDepth 65536 in
theorem w_c0 : (Jvm.Cond.code x code maxLocals ret).before args0 about1 = true := code_word (m := ⟨1, 1⟩) (meth := k1m1) (c := k1c1) (by decide +kernel) rfl rfl rfl (by decide +kernel)
set_option maxRecDepth 65536 in
theorem w_c1 : (Jvm.Cond.code ({ cls := "com/example/binario/binario/rules/Score", name := "<init>", desc := "(JJJIIIII)V" } : Jvm.MethodName) prog_73_method_2_code (12 : Nat) (Option.none : Option Jvm.ClassFile.FieldType)).before args0 about1 = true := code_word (m := ⟨3, 0⟩) (meth := k3m0) (c := k3c0) (by decide +kernel) rfl rfl rfl (by decide +kernel)
set_option maxRecDepth 65536 in
theorem w_c2 : (Jvm.Cond.code ({ cls := "java/lang/Record", name := "<init>", desc := "()V" } : Jvm.MethodName) jdk_30_method_1_code (1 : Nat) (Option.none : Option Jvm.ClassFile.FieldType)).before args0 about1 = true := code_word (m := ⟨2, 0⟩) (meth := k2m0) (c := k2c0) (by decide +kernel) rfl rfl rfl (by decide +kernel)
set_option maxRecDepth 65536 in
theorem w_c3 : (Jvm.Cond.code ({ cls := "java/lang/Object", name := "<init>", desc := "()V" } : Jvm.MethodName) object_method_1_code (1 : Nat) (Option.none : Option Jvm.ClassFile.FieldType)).before args0 about1 = true := code_word (m := ⟨0, 0⟩) (meth := k0m0) (c := k0c0) (by decide +kernel) rfl rfl rfl (by decide +kernel)
set_option maxRecDepth 65536 in
theorem w_c4 : (Jvm.Cond.code ({ cls := "com/example/binario/binario/rules/Score", name := "total", desc := "()J" } : Jvm.MethodName) prog_73_method_3_code (1 : Nat) (Option.some Jvm.ClassFile.FieldType.long)).before args0 about1 = true := code_word (m := ⟨3, 1⟩) (meth := k3m1) (c := k3c1) (by decide +kernel) rfl rfl rfl (by decide +kernel)
def codes1 : List Jvm.Cond := [Jvm.Cond.code x code maxLocals ret, Jvm.Cond.code ({ cls := "com/example/binario/binario/rules/Score", name := "<init>", desc := "(JJJIIIII)V" } : Jvm.MethodName) prog_73_method_2_code (12 : Nat) (Option.none : Option Jvm.ClassFile.FieldType), Jvm.Cond.code ({ cls := "java/lang/Record", name := "<init>", desc := "()V" } : Jvm.MethodName) jdk_30_method_1_code (1 : Nat) (Option.none : Option Jvm.ClassFile.FieldType), Jvm.Cond.code ({ cls := "java/lang/Object", name := "<init>", desc := "()V" } : Jvm.MethodName) object_method_1_code (1 : Nat) (Option.none : Option Jvm.ClassFile.FieldType), Jvm.Cond.code ({ cls := "com/example/binario/binario/rules/Score", name := "total", desc := "()J" } : Jvm.MethodName) prog_73_method_3_code (1 : Nat) (Option.some Jvm.ClassFile.FieldType.long)]
set_option maxRecDepth 65536 in
theorem codes_eq : words1.filter isCode = codes1 := rfl
theorem w_codes : ∀ c ∈ words1.filter isCode, c.before args0 about1 = true := by
  rw [codes_eq]
  intro c hc
  simp only [codes1, List.mem_cons, List.not_mem_nil, or_false] at hc
  rcases hc with rfl | rfl | rfl | rfl | rfl
  · exact w_c0
  · exact w_c1
  · exact w_c2
  · exact w_c3
  · exact w_c4
set_option maxRecDepth 65536 in
theorem w_t1 : (words1.take 24).all (fun c => isCode c || c.before args0 about1) = true := by decide +kernel
set_option maxRecDepth 65536 in
theorem w_t2 : (words1.drop 24).all (fun c => isCode c || c.before args0 about1) = true := by decide +kernel
theorem w_tables : (allAtoms (Jvm.Cond.code x code maxLocals ret :: tables_1)).before args0 about1 = true := by
  rw [allAtoms_all]
  show words1.all (fun c => c.before args0 about1) = true
  refine all_split ?_ w_codes
  rw [← List.take_append_drop 24 words1, List.all_append, w_t1, w_t2]
  rfl
set_option maxRecDepth 65536 in
theorem w_case : (Jvm.Cond.and given_1 narrow_1).before args0 about1 = true := by decide +kernel
theorem w_applies : (headSpec (Jvm.Cond.code x code maxLocals ret :: tables_1) room_1).applies x e0.platform about1 = true :=
  (Spec.applies_iff w_frames).mpr ⟨w_running, w_runnable, w_alone, w_named, w_hears, w_ripe, w_room, w_tables⟩
theorem atStart : AtStart classFile x code maxLocals ret World_1 tables_1 room_1 Calls_1 rest_1 Pre_1 launch0 p0 e0 about1 theMethod args0 below0 :=
  ⟨lists_1, trivial, launch0.admits_env _ _ _, launch0.least_env, fairChoices_fair.cas, fairChoices_fair.clock, w_frames, w_args, w_heap, w_applies, trivial, trivial, w_case⟩
end start1
theorem witness_1 : WitnessClaimed_1 := ⟨start1.p0, start1.e0, start1.about1, start1.theMethod, start1.args0, start1.below0, start1.atStart⟩
end Jvm.Pilot.@@N@@
