import JvmDerived
import JvmDerived.Pilot.@@N@@Statement
import JvmDerived.Pilot.@@N@@Code
set_option linter.unusedVariables false
set_option linter.unusedSimpArgs false
@@BLOCK:NumsL.lean.txt@@
namespace Jvm.RoadKit
open Sem ClassFile Op Lib Jvm.Stand Jvm.Free Jvm.LawKit
section New
variable {p : Program} {l : Launch} {e : Env} {R : Room} {s : State} {m : MethodId} {args : Array Value} {below : List Frame} {meth : Method} {c : Code} {T : State} {locs : List Loc} {cells slots : Nat}
theorem retI (X : Stand p l e R s m args below meth c T locs cells slots) (hx : p.tables.exec = Jvm.exec) {pc : Nat} {Ls : Array Slot} {z : Int32} {rest : List Value} (hret : meth.sig.returnType = some .int) (hd : decode c.code pc = .ok (.ireturn, 1)) {fs : List Frame}
    (hl : ∀ (f : JFrame) (acts : List Action), f.method = m → f.locked = none → f.entered = [] → (doReturn e (T.setTop f) acts (some (.int z))).1 = T.setFrames fs) : Steps p.tables e below (T.setTop (mkF m pc Ls (.int z :: rest))) (T.setFrames fs) := by
  have hm' : T.vm.method? m = some meth := X.method'
  have hn : narrow .int (.int z) = .int z := rfl
  show Steps _ _ _ (T.setTop { method := m, pc := pc, locals := Ls, stack := _ :: rest, locked := none }) _
  jvm_step X.here [X.here.top, hx, hd, hm', hret, hn]
  first | (intro acts; rw [hl _ acts rfl rfl rfl]) | rw [hl _ _ rfl rfl rfl]
  exact Steps.refl _
end New
end Jvm.RoadKit
namespace Jvm.Pilot.@@N@@
open Jvm Jvm.ClassFile Sem Op Lib Jvm.Free Jvm.Stand Jvm.LawKit Jvm.RoadKit Bundle Jvm.Pilot.@@N@@.Jvm.D
theorem ww {Z : State} {a0 : Array Value} (hw : ∀ d ∈ tables_1, d.before a0 Z = true) (i : Nat) {d : Jvm.Cond} (h : tables_1[i]? = some d) : d.before a0 Z = true := hw _ (List.mem_of_getElem? h)
theorem d4_5 : decode jdk_65_method_109_code 5 = .ok (.iload_n 2, 1) := by decide +kernel
theorem d4_6 : decode jdk_65_method_109_code 6 = .ok (.iload_n 3, 1) := by decide +kernel
theorem d4_7 : decode jdk_65_method_109_code 7 = .ok (.if_icmp .ge 13, 3) := by decide +kernel
theorem d4_10 : decode jdk_65_method_109_code 10 = .ok (.aload_n 0, 1) := by decide +kernel
theorem d4_11 : decode jdk_65_method_109_code 11 = .ok (.iload_n 2, 1) := by decide +kernel
theorem d4_12 : decode jdk_65_method_109_code 12 = .ok (.iload_n 1, 1) := by decide +kernel
theorem d4_13 : decode jdk_65_method_109_code 13 = .ok (.bastore, 1) := by decide +kernel
theorem d4_14 : decode jdk_65_method_109_code 14 = .ok (.iinc 2 1, 3) := by decide +kernel
theorem d4_17 : decode jdk_65_method_109_code 17 = .ok (.goto (-12), 3) := by decide +kernel
-- 2. ONE TURN: the run stands at pc 5 with these locals and an empty stack, and comes to pc 5 with those
set_option maxRecDepth 65536 in
set_option maxHeartbeats 40000000 in
theorem tn4_5_5 {p : Program} {l : Launch} {e : Env} {R : Room} {s : State} {m : MethodId} {args : Array Value} {below : List Frame} {meth : Method} {c : Code} {T0 : State} {locs : List Loc} {cells slots : Nat} {Z : State} {a0 : Array Value} {h0 : Heap} (o0 : Addr) (i1 : Int32) (i2 : Int32) (i3 : Int32) (cl_o0 : Cell)
    (X0 : Stand p l e R s m args below meth c T0 locs cells slots) (hx : p.tables.exec = Jvm.exec) (hZ : Z.Warmed39 s.vm) (hw : ∀ d ∈ tables_1, d.before a0 Z = true) (hby : c.code = jdk_65_method_109_code) (hml : c.maxLocals = 4) (hown : s.vm.findClass "java/util/Arrays" = some m.cls) (e0 : T0.heap = h0) (Ar_o0 : Arr Z h0 o0 cl_o0 .byte) (hin13 : ¬ (i2 < 0 ∨ cl_o0.slots.size ≤ (i2).toNatClampNeg)) (hc7 : i2 < i3) :
    ∃ (T' : State) (h' : Heap), Stand p l e R s m args below meth c T' (locs ++ [⟨o0, (i2).toNatClampNeg⟩]) cells slots ∧ T'.heap = h' ∧ Wr h0 h' o0 (i2).toNatClampNeg (.int (nar .byte i1)) ∧
      ∀ target, Steps p.tables e below (T'.setTop (mkF m 5 #[.val (.ref o0), .val (.int i1), .val (.int (i2 + (1 : Int32))), .val (.int i3)] [])) target → Steps p.tables e below (T0.setTop (mkF m 5 #[.val (.ref o0), .val (.int i1), .val (.int i2), .val (.int i3)] [])) target := by
  obtain ⟨T3, h3, X3, e3, W3, st3⟩ := stB X0 hx hZ e0 Ar_o0 (j := i2) hin13 (g := (mkF m 13 #[.val (.ref o0), .val (.int i1), .val (.int i2), .val (.int i3)] [(.int i1), (.int i2), (.ref o0)])) rfl rfl (hb hby d4_13)
  refine ⟨T3, _, X3, e3, W3, fun target kt => ?_⟩
  show Steps _ _ _ (T0.setTop (mkF m 5 #[.val (.ref o0), .val (.int i1), .val (.int i2), .val (.int i3)] [])) _
  refine XS.iloadN X0.here hx rfl (hb hby d4_5) rfl ?_
  show Steps _ _ _ (T0.setTop (mkF m 6 #[.val (.ref o0), .val (.int i1), .val (.int i2), .val (.int i3)] [(.int i2)])) _
  refine XS.iloadN X0.here hx rfl (hb hby d4_6) rfl ?_
  show Steps _ _ _ (T0.setTop (mkF m 7 #[.val (.ref o0), .val (.int i1), .val (.int i2), .val (.int i3)] [(.int i3), (.int i2)])) _
  refine XS.icmpNo X0.here hx rfl (hb hby d4_7) rfl (tlt hc7).2.1 ?_
  show Steps _ _ _ (T0.setTop (mkF m 10 #[.val (.ref o0), .val (.int i1), .val (.int i2), .val (.int i3)] [])) _
  refine XS.aloadN X0.here hx rfl (hb hby d4_10) rfl rfl ?_
  show Steps _ _ _ (T0.setTop (mkF m 11 #[.val (.ref o0), .val (.int i1), .val (.int i2), .val (.int i3)] [(.ref o0)])) _
  refine XS.iloadN X0.here hx rfl (hb hby d4_11) rfl ?_
  show Steps _ _ _ (T0.setTop (mkF m 12 #[.val (.ref o0), .val (.int i1), .val (.int i2), .val (.int i3)] [(.int i2), (.ref o0)])) _
  refine XS.iloadN X0.here hx rfl (hb hby d4_12) rfl ?_
  show Steps _ _ _ (T0.setTop (mkF m 13 #[.val (.ref o0), .val (.int i1), .val (.int i2), .val (.int i3)] [(.int i1), (.int i2), (.ref o0)])) _
  refine st3 _ ?_
  show Steps _ _ _ (T3.setTop (mkF m 14 #[.val (.ref o0), .val (.int i1), .val (.int i2), .val (.int i3)] [])) _
  refine XS.iinc X3.here hx rfl (hb hby d4_14) rfl (l' := #[.val (.ref o0), .val (.int i1), .val (.int (i2 + (1 : Int32))), .val (.int i3)]) rfl ?_
  show Steps _ _ _ (T3.setTop (mkF m 17 #[.val (.ref o0), .val (.int i1), .val (.int (i2 + (1 : Int32))), .val (.int i3)] [])) _
  refine XS.goto X3.here hx rfl (pc0 := 17) (pc' := 5) rfl (hb hby d4_17) (by decide) (by decide) ?_
  exact kt
-- 2. THE ROAD: the run stands at pc 5 with these locals and an empty stack, and comes to pc 20 with those
set_option maxRecDepth 65536 in
set_option maxHeartbeats 40000000 in
theorem tn4_5_20 {p : Program} {l : Launch} {e : Env} {R : Room} {s : State} {m : MethodId} {args : Array Value} {below : List Frame} {meth : Method} {c : Code} {T0 : State} {locs : List Loc} {cells slots : Nat} {Z : State} {a0 : Array Value} {h0 : Heap} (s0 : Slot) (s1 : Slot) (i2 : Int32) (i3 : Int32)
    (X0 : Stand p l e R s m args below meth c T0 locs cells slots) (hx : p.tables.exec = Jvm.exec) (hZ : Z.Warmed39 s.vm) (hw : ∀ d ∈ tables_1, d.before a0 Z = true) (hby : c.code = jdk_65_method_109_code) (hml : c.maxLocals = 4) (hown : s.vm.findClass "java/util/Arrays" = some m.cls) (e0 : T0.heap = h0) (hc7 : ¬ (i2 < i3)) :
    ∃ (T' : State), Stand p l e R s m args below meth c T' locs cells slots ∧ T'.heap = h0 ∧
      ∀ target, Steps p.tables e below (T'.setTop (mkF m 20 #[s0, s1, .val (.int i2), .val (.int i3)] [])) target → Steps p.tables e below (T0.setTop (mkF m 5 #[s0, s1, .val (.int i2), .val (.int i3)] [])) target := by

  refine ⟨T0, X0, e0, fun target kt => ?_⟩
  show Steps _ _ _ (T0.setTop (mkF m 5 #[s0, s1, .val (.int i2), .val (.int i3)] [])) _
  refine XS.iloadN X0.here hx rfl (hb hby d4_5) rfl ?_
  show Steps _ _ _ (T0.setTop (mkF m 6 #[s0, s1, .val (.int i2), .val (.int i3)] [(.int i2)])) _
  refine XS.iloadN X0.here hx rfl (hb hby d4_6) rfl ?_
  show Steps _ _ _ (T0.setTop (mkF m 7 #[s0, s1, .val (.int i2), .val (.int i3)] [(.int i3), (.int i2)])) _
  refine XS.icmpYes X0.here hx rfl (pc0 := 7) (pc' := 20) rfl (hb hby d4_7) rfl (flt hc7).2.1 (by decide) (by decide) ?_
  exact kt
set_option maxHeartbeats 40000000 in
theorem own_loop4 {p : Program} {l : Launch} {e : Env} {R : Room} {s : State} {m : MethodId} {args : Array Value} {below : List Frame} {meth : Method} {c : Code} {cells slots : Nat} {Z : State} {a0 : Array Value} (o0 : Addr) (i1 : Int32) (n0 : Nat) (kc : ClassId)
    (hx : p.tables.exec = Jvm.exec) (hZ : Z.Warmed39 s.vm) (hw : ∀ d ∈ tables_1, d.before a0 Z = true) (hby : c.code = jdk_65_method_109_code) (hml : c.maxLocals = 4) (hown : s.vm.findClass "java/util/Arrays" = some m.cls) (g_o0 : n0 ≤ o0) :
    ∀ (k : Nat) (i2 : Int32) (T0 : State) (h0 : Heap) (locs : List Loc) (cl : Cell), i2.toInt + k = 32 → 0 ≤ i2.toInt → Stand p l e R s m args below meth c T0 locs cells slots → T0.heap = h0 → Arr Z h0 o0 cl .byte → cl.cls = kc → cl.slots.size = (32 : Int32).toNatClampNeg →
      (∀ j : Nat, j < i2.toNatClampNeg → cl.slots[j]? = some (.int (nar .byte i1))) → Fr n0 locs →
      ∃ (T' : State) (h' : Heap) (L' : List Loc) (cl' : Cell), Stand p l e R s m args below meth c T' L' cells slots ∧ T'.heap = h' ∧ Fr n0 L' ∧ Keep h0 h' [o0] ∧ Arr Z h' o0 cl' .byte ∧ cl'.cls = kc ∧ cl'.slots.size = (32 : Int32).toNatClampNeg ∧
        (∀ j : Nat, j < (32 : Int32).toNatClampNeg → cl'.slots[j]? = some (.int (nar .byte i1))) ∧
        ∀ target, Steps p.tables e below (T'.setTop (mkF m 20 #[.val (.ref o0), .val (.int i1), .val (.int (32 : Int32)), .val (.int (32 : Int32))] [])) target → Steps p.tables e below (T0.setTop (mkF m 5 #[.val (.ref o0), .val (.int i1), .val (.int i2), .val (.int (32 : Int32))] [])) target := by
  have e32 : (32 : Int32).toInt = 32 := rfl
  have e00 : (0 : Int32).toInt = 0 := rfl
  have e01 : (1 : Int32).toInt = 1 := rfl
  intro k
  induction k with
  | zero =>
    intro i2 T0 h0 locs cl hk h0i X0 e0 Ar hc S H N
    have ei : i2 = 32 := Int32.toInt_inj.mp (by rw [e32]; omega)
    subst ei
    obtain ⟨T', X', e', st⟩ := tn4_5_20 (.val (.ref o0)) (.val (.int i1)) 32 32 X0 hx hZ hw hby hml hown e0 (by decide)
    exact ⟨T', h0, locs, cl, X', e', N, Keep.refl _ _, Ar, hc, S, H, st⟩
  | succ k ih =>
    intro i2 T0 h0 locs cl hk h0i X0 e0 Ar hc S H N
    have hlt : i2 < 32 := by rw [Int32.lt_iff_toInt_lt, e32]; omega
    have hnn : ¬ i2 < 0 := by rw [Int32.lt_iff_toInt_lt, e00]; omega
    have hin : ¬ (i2 < 0 ∨ cl.slots.size ≤ i2.toNatClampNeg) := inb_of S ⟨hnn, hlt⟩
    obtain ⟨T1, h1, X1, e1, W1, st1⟩ := tn4_5_5 o0 i1 i2 32 cl X0 hx hZ hw hby hml hown e0 Ar hin hlt
    have e2 : (i2 + 1).toInt = i2.toInt + 1 := Jvm.Kit.i32_add (by rw [e01]; omega) (by rw [e01]; omega)
    have hn1 : ¬ i2 + 1 < 0 := by rw [Int32.lt_iff_toInt_lt, e00]; omega
    have a1 := nat_of hnn
    have a2 := nat_of hn1
    have hin' : i2.toNatClampNeg < cl.slots.size := Nat.lt_of_not_le fun y => hin (Or.inr y)
    obtain ⟨T', h', L', cl', X', e', N', K', Ar', hc', S', H', st'⟩ := ih (i2 + 1) T1 h1 _ (cl.setSlot i2.toNatClampNeg (.int (nar .byte i1))) (by omega) (by omega) X1 e1 (Ar.same W1) hc (by rw [sz_set]; exact S) (fun j hj => by
      by_cases q : i2.toNatClampNeg = j
      · subst q
        simp [Cell.setSlot, hin']
      · simp only [Cell.setSlot]
        rw [Array.getElem?_setIfInBounds_ne q]
        exact H j (by omega)) (Fr.snoc X1 N g_o0)
    exact ⟨T', h', L', cl', X', e', N', (Keep.of_wr W1).trans K' (fun x hx => Or.inl hx), Ar', hc', S', H', fun target kt => st1 target (st' target kt)⟩
theorem d4_0 : decode jdk_65_method_109_code 0 = .ok (.iconst 0, 1) := by decide +kernel
theorem d4_1 : decode jdk_65_method_109_code 1 = .ok (.istore_n 2, 1) := by decide +kernel
theorem d4_2 : decode jdk_65_method_109_code 2 = .ok (.aload_n 0, 1) := by decide +kernel
theorem d4_3 : decode jdk_65_method_109_code 3 = .ok (.arraylength, 1) := by decide +kernel
theorem d4_4 : decode jdk_65_method_109_code 4 = .ok (.istore_n 3, 1) := by decide +kernel
theorem d4_20 : decode jdk_65_method_109_code 20 = .ok (.return_, 1) := by decide +kernel
theorem pn_4 : plainName "java/util/Arrays" = true := by first | (simp [plainName, overriddenIn]; done) | decide +kernel
theorem ef_4 (m : MethodId) (x0 : Addr) (x1 : Int32) : entryFrame m #[(.ref x0), (.int x1)] 4 = mkF m 0 #[.val (.ref x0), .val (.int x1), .unset, .unset] [] := by first | (simp [entryFrame, mkF, argsToLocals, Value.category]; done) | rfl
-- 2. THE CONTRACT: what this body leaves is yours
def Q4 (Z : State) (a1 : Addr) (p2 : Int32) (kk : ClassId) (cl_a1 : Cell) (h0 : Heap) (n0 : Nat) (v : Option Value) (h : Heap) (L : List Loc) : Prop := v = none ∧ Fr n0 L ∧ Keep h0 h [a1] ∧ Arh Z h a1 kk .byte (32 : Int32) [] [] (.int (nar .byte p2))
set_option maxRecDepth 65536 in
set_option maxHeartbeats 40000000 in
theorem rm4 (l : Launch) (Z : State) (a0 : Array Value) (hw : ∀ d ∈ tables_1, d.before a0 Z = true) (ws : List Jvm.Cond) (a1 : Addr) (p2 : Int32) (kk : ClassId) (cl_a1 : Cell) (h0 : Heap) (n0 : Nat) (Z0 : n0 ≤ h0.size) (g_a1 : n0 ≤ a1) (hkk : cl_a1.cls = kk) (Ar_a1 : Arr Z h0 a1 cl_a1 .byte) (S_a1 : cl_a1.slots.size = (32 : Int32).toNatClampNeg) :
    MetFree l (⟨"java/util/Arrays", "fill", "([BB)V"⟩ : MethodName) (head1 (Jvm.Cond.code (⟨"java/util/Arrays", "fill", "([BB)V"⟩ : MethodName) jdk_65_method_109_code 4 none :: ws) ({ frames := 0, cells := 0, slots := 0, locals := 0 } : Room)) (fun a U => a = #[(.ref a1), (.int p2)] ∧ Z.Warmed39 U.vm ∧ U.heap = h0) (fun _ _ _ _ _ => True) (fun _ U o U' => ∃ v L, o = .returned v ∧ Q4 Z a1 p2 kk cl_a1 h0 n0 v U'.heap L ∧ FrameEnd U o U' L ({ frames := 0, cells := 0, slots := 0, locals := 0 } : Room).cells ({ frames := 0, cells := 0, slots := 0, locals := 0 } : Room).slots) := by
  refine MetFree.of_bodySF (plainFor_of_name pn_4) hisR ?_
  intro p e s m args below meth c s₁ Bd hml0 hP hK
  obtain ⟨rfl, hZ, hh⟩ := hP
  have hx := Bd.exec
  have hby := Bd.bytes
  have hml : c.maxLocals = 4 := hml0
  have hown : s.vm.findClass "java/util/Arrays" = some m.cls := findClass_of_methodNamed Bd.named
  have hnm := (name_of_methodNamed Bd.named Bd.method).1
  have X0 : Stand p l e ({ frames := 0, cells := 0, slots := 0, locals := 0 } : Room) s m #[(.ref a1), (.int p2)] below meth c s₁ [] 0 0 := Stand.of_body Bd
  have e0 : s₁.heap = h0 := by rw [← hh, Bd.state]; rfl
  have N0 := Fr.nil n0
  have pre0 : ∀ t, Steps p.tables e below (s₁.setTop (mkF m 0 #[.val (.ref a1), .val (.int p2), .unset, .unset] [])) t → Steps p.tables e below (s₁.setTop (entryFrame m #[(.ref a1), (.int p2)] 4)) t := fun t k => castTop (ef_4 m a1 p2) k
  obtain ⟨T9, h9, L9, cl9, X9, e9, N9, K9, Ar9, hc9, S9, H9, st9⟩ := own_loop4 a1 p2 n0 kk hx hZ hw hby hml hown g_a1 32 (0 : Int32) s₁ h0 [] cl_a1 rfl (by decide) X0 e0 Ar_a1 hkk S_a1 (fun j hj => absurd hj (Nat.not_lt_zero j)) N0

  obtain ⟨fs, hr, hrun, hended, hW, hsame⟩ := X9.leave (v := none) (fun _ => rfl)
  refine ⟨_, _, pre0 _ ?_, hrun, hended, _, _, rfl, ?_, ⟨_, rfl⟩, hW, hsame.mono (by decide) (by decide)⟩
  · show Steps _ _ _ (s₁.setTop (mkF m 0 #[.val (.ref a1), .val (.int p2), .unset, .unset] [])) _
    refine XS.iconst X0.here hx rfl (hb hby d4_0) ?_
    show Steps _ _ _ (s₁.setTop (mkF m 1 #[.val (.ref a1), .val (.int p2), .unset, .unset] [(.int (0 : Int32))])) _
    refine XS.istoreN X0.here hx rfl (hb hby d4_1) rfl (l' := #[.val (.ref a1), .val (.int p2), .val (.int (0 : Int32)), .unset]) rfl ?_
    show Steps _ _ _ (s₁.setTop (mkF m 2 #[.val (.ref a1), .val (.int p2), .val (.int (0 : Int32)), .unset] [])) _
    refine XS.aloadN X0.here hx rfl (hb hby d4_2) rfl rfl ?_
    show Steps _ _ _ (s₁.setTop (mkF m 3 #[.val (.ref a1), .val (.int p2), .val (.int (0 : Int32)), .unset] [(.ref a1)])) _
    refine X0.arraylength hx (by rw [e0]; exact Ar_a1.1) (State.isArrayOf_alike hZ.alike Ar_a1.2.1) (g := (mkF m 3 #[.val (.ref a1), .val (.int p2), .val (.int (0 : Int32)), .unset] [(.ref a1)])) rfl rfl (hb hby d4_3) _ ?_
    rw [len_of S_a1 (by decide)]
    show Steps _ _ _ (s₁.setTop (mkF m 4 #[.val (.ref a1), .val (.int p2), .val (.int (0 : Int32)), .unset] [(.int (32 : Int32))])) _
    refine XS.istoreN X0.here hx rfl (hb hby d4_4) rfl (l' := #[.val (.ref a1), .val (.int p2), .val (.int (0 : Int32)), .val (.int (32 : Int32))]) rfl ?_
    show Steps _ _ _ (s₁.setTop (mkF m 5 #[.val (.ref a1), .val (.int p2), .val (.int (0 : Int32)), .val (.int (32 : Int32))] [])) _
    refine st9 _ ?_
    exact X9.returnOut hx Bd.returns (hb hby d4_20) hr
  · show Q4 Z a1 p2 kk cl_a1 h0 n0 _ T9.heap _
    rw [e9]
    exact ⟨rfl, N9, K9, cl9, Ar9, hc9, S9, by decide, fun i hi => H9 i (by rw [← S9]; exact hi), fun _ _ => fits_nar_byte _⟩
theorem d1_0 : decode prog_8_method_1_code 0 = .ok (.aload_n 0, 1) := by decide +kernel
theorem d1_1 : decode prog_8_method_1_code 1 = .ok (.invokespecial 1, 3) := by decide +kernel
theorem d1_4 : decode prog_8_method_1_code 4 = .ok (.aload_n 1, 1) := by decide +kernel
theorem d1_5 : decode prog_8_method_1_code 5 = .ok (.arraylength, 1) := by decide +kernel
theorem d1_6 : decode prog_8_method_1_code 6 = .ok (.bipush 32, 2) := by decide +kernel
theorem d1_8 : decode prog_8_method_1_code 8 = .ok (.if_icmp .ne 10, 3) := by decide +kernel
theorem d1_11 : decode prog_8_method_1_code 11 = .ok (.aload_n 2, 1) := by decide +kernel
theorem d1_12 : decode prog_8_method_1_code 12 = .ok (.arraylength, 1) := by decide +kernel
theorem d1_13 : decode prog_8_method_1_code 13 = .ok (.bipush 32, 2) := by decide +kernel
theorem d1_15 : decode prog_8_method_1_code 15 = .ok (.if_icmp .eq 13, 3) := by decide +kernel
theorem d1_28 : decode prog_8_method_1_code 28 = .ok (.aload_n 0, 1) := by decide +kernel
theorem d1_29 : decode prog_8_method_1_code 29 = .ok (.aload_n 1, 1) := by decide +kernel
theorem d1_30 : decode prog_8_method_1_code 30 = .ok (.invokevirtual 16, 3) := by decide +kernel
theorem d1_33 : decode prog_8_method_1_code 33 = .ok (.checkcast 17, 3) := by decide +kernel
theorem d1_36 : decode prog_8_method_1_code 36 = .ok (.putfield 22, 3) := by decide +kernel
theorem d1_39 : decode prog_8_method_1_code 39 = .ok (.aload_n 0, 1) := by decide +kernel
theorem d1_40 : decode prog_8_method_1_code 40 = .ok (.aload_n 2, 1) := by decide +kernel
theorem d1_41 : decode prog_8_method_1_code 41 = .ok (.invokevirtual 16, 3) := by decide +kernel
theorem d1_44 : decode prog_8_method_1_code 44 = .ok (.checkcast 17, 3) := by decide +kernel
theorem d1_47 : decode prog_8_method_1_code 47 = .ok (.putfield 25, 3) := by decide +kernel
theorem d1_50 : decode prog_8_method_1_code 50 = .ok (.return_, 1) := by decide +kernel
theorem pn_1 : plainName "com/example/hush_vault/hushvault/crypto/MasterKey" = true := by first | (simp [plainName, overriddenIn]; done) | decide +kernel
theorem ef_1 (m : MethodId) (x0 : Addr) (x1 : Addr) (x2 : Addr) : entryFrame m #[(.ref x0), (.ref x1), (.ref x2)] 3 = mkF m 0 #[.val (.ref x0), .val (.ref x1), .val (.ref x2)] [] := by first | (simp [entryFrame, mkF, argsToLocals, Value.category]; done) | rfl
-- 2. THE CONTRACT: what this body leaves is yours
def Q1 (Z : State) (a1 : Addr) (a2 : Addr) (a3 : Addr) (k_a2 : ClassId) (hs_a2 : List (Int32 × Value)) (vs_a2 : List Value) (d_a2 : Value) (k_a3 : ClassId) (hs_a3 : List (Int32 × Value)) (vs_a3 : List Value) (d_a3 : Value) (u_encryptionKey_a1 : Value) (u_macKey_a1 : Value) (h0 : Heap) (n0 : Nat) (v : Option Value) (h : Heap) (L : List Loc) : Prop := ∃ x y : Addr, v = none ∧ Fr n0 L ∧ Keep h0 h [a1] ∧ h0.size ≤ x ∧ h0.size ≤ y ∧ x ≠ y ∧ Fld Z h a1 "com/example/hush_vault/hushvault/crypto/MasterKey" "encryptionKey" "[B" (.ref x) ∧ Fld Z h a1 "com/example/hush_vault/hushvault/crypto/MasterKey" "macKey" "[B" (.ref y) ∧ Exa Z h x "[B" ∧ Exa Z h y "[B" ∧ Arh Z h x k_a2 .byte (32 : Int32) hs_a2 vs_a2 d_a2 ∧ Arh Z h y k_a3 .byte (32 : Int32) hs_a3 vs_a3 d_a3
set_option maxRecDepth 65536 in
set_option maxHeartbeats 40000000 in
theorem rm1 (l : Launch) (Z : State) (a0 : Array Value) (hw : ∀ d ∈ tables_1, d.before a0 Z = true) (ws : List Jvm.Cond) (a1 : Addr) (a2 : Addr) (a3 : Addr) (k_a2 : ClassId) (hs_a2 : List (Int32 × Value)) (vs_a2 : List Value) (d_a2 : Value) (k_a3 : ClassId) (hs_a3 : List (Int32 × Value)) (vs_a3 : List Value) (d_a3 : Value) (u_encryptionKey_a1 : Value) (u_macKey_a1 : Value) (h0 : Heap) (n0 : Nat) (Z0 : n0 ≤ h0.size) (V_a2 : Arh Z h0 a2 k_a2 .byte (32 : Int32) hs_a2 vs_a2 d_a2) (E_a2 : Exa Z h0 a2 "[B") (V_a3 : Arh Z h0 a3 k_a3 .byte (32 : Int32) hs_a3 vs_a3 d_a3) (E_a3 : Exa Z h0 a3 "[B") (ne21 : a2 ≠ a1) (ne31 : a3 ≠ a1) (E_a1 : Exa Z h0 a1 "com/example/hush_vault/hushvault/crypto/MasterKey") (F_encryptionKey_a1 : Fld Z h0 a1 "com/example/hush_vault/hushvault/crypto/MasterKey" "encryptionKey" "[B" u_encryptionKey_a1) (g_a1 : n0 ≤ a1) (F_macKey_a1 : Fld Z h0 a1 "com/example/hush_vault/hushvault/crypto/MasterKey" "macKey" "[B" u_macKey_a1) :
    MetFree l (⟨"com/example/hush_vault/hushvault/crypto/MasterKey", "<init>", "([B[B)V"⟩ : MethodName) (head1 (Jvm.Cond.code (⟨"com/example/hush_vault/hushvault/crypto/MasterKey", "<init>", "([B[B)V"⟩ : MethodName) prog_8_method_1_code 3 none :: ws) ({ frames := 1, cells := 2, slots := 64, locals := 15 } : Room)) (fun a U => a = #[(.ref a1), (.ref a2), (.ref a3)] ∧ Z.Warmed39 U.vm ∧ U.heap = h0) (fun _ _ _ _ _ => True) (fun _ U o U' => ∃ v L, o = .returned v ∧ Q1 Z a1 a2 a3 k_a2 hs_a2 vs_a2 d_a2 k_a3 hs_a3 vs_a3 d_a3 u_encryptionKey_a1 u_macKey_a1 h0 n0 v U'.heap L ∧ FrameEnd U o U' L ({ frames := 1, cells := 2, slots := 64, locals := 15 } : Room).cells ({ frames := 1, cells := 2, slots := 64, locals := 15 } : Room).slots) := by
  refine MetFree.of_bodySF (plainFor_of_name pn_1) hisR ?_
  intro p e s m args below meth c s₁ Bd hml0 hP hK
  obtain ⟨rfl, hZ, hh⟩ := hP
  have hx := Bd.exec
  have hby := Bd.bytes
  have hml : c.maxLocals = 3 := hml0
  have hown : s.vm.findClass "com/example/hush_vault/hushvault/crypto/MasterKey" = some m.cls := findClass_of_methodNamed Bd.named
  have hnm := (name_of_methodNamed Bd.named Bd.method).1
  have X0 : Stand p l e ({ frames := 1, cells := 2, slots := 64, locals := 15 } : Room) s m #[(.ref a1), (.ref a2), (.ref a3)] below meth c s₁ [] 0 0 := Stand.of_body Bd
  have e0 : s₁.heap = h0 := by rw [← hh, Bd.state]; rfl
  have N0 := Fr.nil n0
  have pre0 : ∀ t, Steps p.tables e below (s₁.setTop (mkF m 0 #[.val (.ref a1), .val (.ref a2), .val (.ref a3)] [])) t → Steps p.tables e below (s₁.setTop (entryFrame m #[(.ref a1), (.ref a2), (.ref a3)] 3)) t := fun t k => castTop (ef_1 m a1 a2 a3) k
  obtain ⟨T4, X4, e4, st4⟩ := initO X0 hx hZ hown (ww hw 7 rfl) (ww hw 8 rfl) (ww hw 9 rfl) e0 (g := (mkF m 1 #[.val (.ref a1), .val (.ref a2), .val (.ref a3)] [(.ref a1)])) rfl (by rw [hml]; rfl) rfl (hb hby d1_1) (by decide) (W := 0) (by show 2 * 0 + _ ≤ _; exact Nat.le_of_eq rfl) (by decide)
  obtain ⟨cl_a2_5, Ar_a2, -, S_a2, N_a2, -, -⟩ := id (V_a2)
  obtain ⟨cl_a3_12, Ar_a3, -, S_a3, N_a3, -, -⟩ := id (V_a3)
  obtain ⟨T5, h5, X5, e5, E5, V5, Ex5, st5⟩ := cloneH X4 hx hZ hown (ww hw 10 rfl) (ww hw 11 rfl) (ww hw 15 rfl) (ww hw 13 rfl) (ww hw 14 rfl) (ww hw 16 rfl) e4 V_a2 E_a2 (g := (mkF m 30 #[.val (.ref a1), .val (.ref a2), .val (.ref a3)] [(.ref a2), (.ref a1)])) rfl (by rw [hml]; rfl) rfl (hb hby d1_30) (by decide) (W := 1) (by show 2 * 0 + _ ≤ _; exact Nat.le_of_eq rfl) (by decide) (cap := 32) (by decide) (by decide) (by decide)
  obtain ⟨b5, g5⟩ : ∃ z, z = h0.size := ⟨_, rfl⟩
  rw [← g5] at V5 Ex5 st5
  have E_b5 := Ex5
  have g_b5 : n0 ≤ b5 := Nat.le_trans Z0 (Nat.le_of_eq g5.symm)
  have sz_b5 : h0.size ≤ b5 := (Nat.le_trans (Keep.refl h0 [a1]).1 (Nat.le_of_eq g5.symm))
  have K5 : Keep h0 h5 [a1] := (Keep.refl h0 [a1]).ext E5
  obtain ⟨T6, X6, e6, st6⟩ := castY X5 hx hZ hown (ww hw 17 rfl) e5 (Ins.self E_b5) (g := (mkF m 33 #[.val (.ref a1), .val (.ref a2), .val (.ref a3)] [(.ref b5), (.ref a1)])) rfl rfl (hb hby d1_33)
  obtain ⟨T7, h7, X7, e7, W7, st7⟩ := putF X6 hx hZ hown (host := "") (Or.inl (ww hw 19 rfl)) Via.refl e6 (F_encryptionKey_a1.ext E5) (E_a1.ext E5) (Or.inr ⟨(ww hw 20 rfl), rfl, hnm⟩) (ww hw 2 rfl) (ty := (.array .byte)) (by decide) rfl rfl (g := (mkF m 36 #[.val (.ref a1), .val (.ref a2), .val (.ref a3)] [(.ref b5), (.ref a1)])) rfl rfl (hb hby d1_36)
  have Fw7 := (F_encryptionKey_a1.ext E5).same W7
  have K7 : Keep h0 h7 [a1] := K5.wr W7 (Or.inl (List.mem_of_getElem? (i := 0) rfl))
  have N7 := Fr.snoc X7 N0 g_a1
  obtain ⟨T8, h8, X8, e8, E8, V8, Ex8, st8⟩ := cloneH X7 hx hZ hown (ww hw 10 rfl) (ww hw 11 rfl) (ww hw 15 rfl) (ww hw 13 rfl) (ww hw 14 rfl) (ww hw 16 rfl) e7 ((V_a3.ext E5).other W7 ne31) ((E_a3.ext E5).wr W7) (g := (mkF m 41 #[.val (.ref a1), .val (.ref a2), .val (.ref a3)] [(.ref a3), (.ref a1)])) rfl (by rw [hml]; rfl) rfl (hb hby d1_41) (by decide) (W := 1) (by show 2 * 0 + _ ≤ _; exact Nat.le_of_eq rfl) (by decide) (cap := 32) (by decide) (by decide) (by decide)
  obtain ⟨b8, g8⟩ : ∃ z, z = h7.size := ⟨_, rfl⟩
  rw [← g8] at V8 Ex8 st8
  have E_b8 := Ex8
  have g_b8 : n0 ≤ b8 := Nat.le_trans (Nat.le_trans (Nat.le_trans Z0 E5.1) (Keep.of_wr W7).1) (Nat.le_of_eq g8.symm)
  have sz_b8 : h0.size ≤ b8 := (Nat.le_trans K7.1 (Nat.le_of_eq g8.symm))
  have K8 : Keep h0 h8 [a1] := K7.ext E8
  obtain ⟨T9, X9, e9, st9⟩ := castY X8 hx hZ hown (ww hw 17 rfl) e8 (Ins.self E_b8) (g := (mkF m 44 #[.val (.ref a1), .val (.ref a2), .val (.ref a3)] [(.ref b8), (.ref a1)])) rfl rfl (hb hby d1_44)
  obtain ⟨T10, h10, X10, e10, W10, st10⟩ := putF X9 hx hZ hown (host := "") (Or.inl (ww hw 21 rfl)) Via.refl e9 (((F_macKey_a1.ext E5).other W7 (Or.inr (slot_ne (Or.inr (ww hw 22 rfl)) (Or.inr (ww hw 20 rfl)) (by decide) (t := (.array .byte)) (t' := (.array .byte)) (by decide) (by decide)))).ext E8) (((E_a1.ext E5).wr W7).ext E8) (Or.inr ⟨(ww hw 22 rfl), rfl, hnm⟩) (ww hw 2 rfl) (ty := (.array .byte)) (by decide) rfl rfl (g := (mkF m 47 #[.val (.ref a1), .val (.ref a2), .val (.ref a3)] [(.ref b8), (.ref a1)])) rfl rfl (hb hby d1_47)
  have Fw10 := (((F_macKey_a1.ext E5).other W7 (Or.inr (slot_ne (Or.inr (ww hw 22 rfl)) (Or.inr (ww hw 20 rfl)) (by decide) (t := (.array .byte)) (t' := (.array .byte)) (by decide) (by decide)))).ext E8).same W10
  have K10 : Keep h0 h10 [a1] := K8.wr W10 (Or.inl (List.mem_of_getElem? (i := 0) rfl))
  have N10 := Fr.snoc X10 N7 g_a1
  obtain ⟨fs, hr, hrun, hended, hW, hsame⟩ := X10.leave (v := none) (fun _ => rfl)
  refine ⟨_, _, pre0 _ ?_, hrun, hended, _, _, rfl, ?_, ⟨_, rfl⟩, hW, hsame.mono (by decide) (by decide)⟩
  · show Steps _ _ _ (s₁.setTop (mkF m 0 #[.val (.ref a1), .val (.ref a2), .val (.ref a3)] [])) _
    refine XS.aloadN X0.here hx rfl (hb hby d1_0) rfl rfl ?_
    show Steps _ _ _ (s₁.setTop (mkF m 1 #[.val (.ref a1), .val (.ref a2), .val (.ref a3)] [(.ref a1)])) _
    refine st4 _ ?_
    show Steps _ _ _ (T4.setTop (mkF m 4 #[.val (.ref a1), .val (.ref a2), .val (.ref a3)] [])) _
    refine XS.aloadN X4.here hx rfl (hb hby d1_4) rfl rfl ?_
    show Steps _ _ _ (T4.setTop (mkF m 5 #[.val (.ref a1), .val (.ref a2), .val (.ref a3)] [(.ref a2)])) _
    refine X4.arraylength hx (by rw [e4]; exact Ar_a2.1) (State.isArrayOf_alike hZ.alike Ar_a2.2.1) (g := (mkF m 5 #[.val (.ref a1), .val (.ref a2), .val (.ref a3)] [(.ref a2)])) rfl rfl (hb hby d1_5) _ ?_
    rw [len_of S_a2 N_a2]
    show Steps _ _ _ (T4.setTop (mkF m 6 #[.val (.ref a1), .val (.ref a2), .val (.ref a3)] [(.int (32 : Int32))])) _
    refine XS.bipush X4.here hx rfl (hb hby d1_6) ?_
    show Steps _ _ _ (T4.setTop (mkF m 8 #[.val (.ref a1), .val (.ref a2), .val (.ref a3)] [(.int (32 : Int32)), (.int (32 : Int32))])) _
    refine XS.icmpNo X4.here hx rfl (hb hby d1_8) rfl (teq (rfl : (32 : Int32) = (32 : Int32))).2 ?_
    show Steps _ _ _ (T4.setTop (mkF m 11 #[.val (.ref a1), .val (.ref a2), .val (.ref a3)] [])) _
    refine XS.aloadN X4.here hx rfl (hb hby d1_11) rfl rfl ?_
    show Steps _ _ _ (T4.setTop (mkF m 12 #[.val (.ref a1), .val (.ref a2), .val (.ref a3)] [(.ref a3)])) _
    refine X4.arraylength hx (by rw [e4]; exact Ar_a3.1) (State.isArrayOf_alike hZ.alike Ar_a3.2.1) (g := (mkF m 12 #[.val (.ref a1), .val (.ref a2), .val (.ref a3)] [(.ref a3)])) rfl rfl (hb hby d1_12) _ ?_
    rw [len_of S_a3 N_a3]
    show Steps _ _ _ (T4.setTop (mkF m 13 #[.val (.ref a1), .val (.ref a2), .val (.ref a3)] [(.int (32 : Int32))])) _
    refine XS.bipush X4.here hx rfl (hb hby d1_13) ?_
    show Steps _ _ _ (T4.setTop (mkF m 15 #[.val (.ref a1), .val (.ref a2), .val (.ref a3)] [(.int (32 : Int32)), (.int (32 : Int32))])) _
    refine XS.icmpYes X4.here hx rfl (pc0 := 15) (pc' := 28) rfl (hb hby d1_15) rfl (teq (rfl : (32 : Int32) = (32 : Int32))).1 (by decide) (by decide) ?_
    show Steps _ _ _ (T4.setTop (mkF m 28 #[.val (.ref a1), .val (.ref a2), .val (.ref a3)] [])) _
    refine XS.aloadN X4.here hx rfl (hb hby d1_28) rfl rfl ?_
    show Steps _ _ _ (T4.setTop (mkF m 29 #[.val (.ref a1), .val (.ref a2), .val (.ref a3)] [(.ref a1)])) _
    refine XS.aloadN X4.here hx rfl (hb hby d1_29) rfl rfl ?_
    show Steps _ _ _ (T4.setTop (mkF m 30 #[.val (.ref a1), .val (.ref a2), .val (.ref a3)] [(.ref a2), (.ref a1)])) _
    refine st5 _ ?_
    show Steps _ _ _ (T5.setTop (mkF m 33 #[.val (.ref a1), .val (.ref a2), .val (.ref a3)] [(.ref b5), (.ref a1)])) _
    refine st6 _ ?_
    show Steps _ _ _ (T6.setTop (mkF m 36 #[.val (.ref a1), .val (.ref a2), .val (.ref a3)] [(.ref b5), (.ref a1)])) _
    refine st7 _ ?_
    show Steps _ _ _ (T7.setTop (mkF m 39 #[.val (.ref a1), .val (.ref a2), .val (.ref a3)] [])) _
    refine XS.aloadN X7.here hx rfl (hb hby d1_39) rfl rfl ?_
    show Steps _ _ _ (T7.setTop (mkF m 40 #[.val (.ref a1), .val (.ref a2), .val (.ref a3)] [(.ref a1)])) _
    refine XS.aloadN X7.here hx rfl (hb hby d1_40) rfl rfl ?_
    show Steps _ _ _ (T7.setTop (mkF m 41 #[.val (.ref a1), .val (.ref a2), .val (.ref a3)] [(.ref a3), (.ref a1)])) _
    refine st8 _ ?_
    show Steps _ _ _ (T8.setTop (mkF m 44 #[.val (.ref a1), .val (.ref a2), .val (.ref a3)] [(.ref b8), (.ref a1)])) _
    refine st9 _ ?_
    show Steps _ _ _ (T9.setTop (mkF m 47 #[.val (.ref a1), .val (.ref a2), .val (.ref a3)] [(.ref b8), (.ref a1)])) _
    refine st10 _ ?_
    show Steps _ _ _ (T10.setTop (mkF m 50 #[.val (.ref a1), .val (.ref a2), .val (.ref a3)] [])) _
    exact X10.returnOut hx Bd.returns (hb hby d1_50) hr
  · show Q1 Z a1 a2 a3 k_a2 hs_a2 vs_a2 d_a2 k_a3 hs_a3 vs_a3 d_a3 u_encryptionKey_a1 u_macKey_a1 h0 n0 _ T10.heap _
    rw [e10]
    exact ⟨b5, b8, rfl, N10, K10, sz_b5, sz_b8, (Nat.ne_of_lt (Nat.lt_of_lt_of_le (V5.other W7 (Ne.symm (Nat.ne_of_lt (Nat.lt_of_lt_of_le E_a1.lt (Nat.le_of_eq g5.symm))))).lt (Nat.le_of_eq g8.symm))), ((Fw7.ext E8).other W10 (Or.inr (slot_ne (Or.inr (ww hw 20 rfl)) (Or.inr (ww hw 22 rfl)) (by decide) (t := (.array .byte)) (t' := (.array .byte)) (by decide) (by decide)))), Fw10, (((E_b5.wr W7).ext E8).wr W10), (E_b8.wr W10), (((V5.other W7 (Ne.symm (Nat.ne_of_lt (Nat.lt_of_lt_of_le E_a1.lt (Nat.le_of_eq g5.symm))))).ext E8).other W10 (Ne.symm (Nat.ne_of_lt (Nat.lt_of_lt_of_le E_a1.lt (Nat.le_of_eq g5.symm))))), (V8.other W10 (Ne.symm (Nat.ne_of_lt (Nat.lt_of_lt_of_le ((E_a1.ext E5).wr W7).lt (Nat.le_of_eq g8.symm)))))⟩
theorem d3_0 : decode prog_8_method_8_code 0 = .ok (.aload_n 0, 1) := by decide +kernel
theorem d3_1 : decode prog_8_method_8_code 1 = .ok (.getfield 22, 3) := by decide +kernel
theorem d3_4 : decode prog_8_method_8_code 4 = .ok (.iconst 0, 1) := by decide +kernel
theorem d3_5 : decode prog_8_method_8_code 5 = .ok (.invokestatic 37, 3) := by decide +kernel
theorem d3_8 : decode prog_8_method_8_code 8 = .ok (.aload_n 0, 1) := by decide +kernel
theorem d3_9 : decode prog_8_method_8_code 9 = .ok (.getfield 25, 3) := by decide +kernel
theorem d3_12 : decode prog_8_method_8_code 12 = .ok (.iconst 0, 1) := by decide +kernel
theorem d3_13 : decode prog_8_method_8_code 13 = .ok (.invokestatic 37, 3) := by decide +kernel
theorem d3_16 : decode prog_8_method_8_code 16 = .ok (.return_, 1) := by decide +kernel
theorem pn_3 : plainName "com/example/hush_vault/hushvault/crypto/MasterKey" = true := by first | (simp [plainName, overriddenIn]; done) | decide +kernel
theorem pd_3_3 : parseMethodDescriptor "([BB)V" = some ⟨[(.array .byte), .byte], none⟩ := by decide +kernel
theorem ef_3 (m : MethodId) (x0 : Addr) : entryFrame m #[(.ref x0)] 1 = mkF m 0 #[.val (.ref x0)] [] := by first | (simp [entryFrame, mkF, argsToLocals, Value.category]; done) | rfl
-- 2. THE CONTRACT: what this body leaves is yours
def Q3 (Z : State) (a1 : Addr) (x : Addr) (y : Addr) (k_x : ClassId) (hs_x : List (Int32 × Value)) (vs_x : List Value) (d_x : Value) (k_y : ClassId) (hs_y : List (Int32 × Value)) (vs_y : List Value) (d_y : Value) (h0 : Heap) (n0 : Nat) (v : Option Value) (h : Heap) (L : List Loc) : Prop := v = none ∧ Fr n0 L ∧ Keep h0 h [x, y] ∧ Arh Z h x k_x .byte (32 : Int32) [] [] (.int (nar .byte (0 : Int32))) ∧ Arh Z h y k_y .byte (32 : Int32) [] [] (.int (nar .byte (0 : Int32)))
-- its room: frames: the greatest, locals: the greatest, cells 0 + .., slots 0 + ..: rm4: frames + 1; locals 0 + 4 + 11 + its room's locals; its cells and slots besides; rm4: frames + 1; locals 0 + 4 + 11 + its room's locals; its cells and slots besides
set_option maxRecDepth 65536 in
set_option maxHeartbeats 40000000 in
theorem rm3 (l : Launch) (Z : State) (a0 : Array Value) (hw : ∀ d ∈ tables_1, d.before a0 Z = true) (ws : List Jvm.Cond) (a1 : Addr) (x : Addr) (y : Addr) (k_x : ClassId) (hs_x : List (Int32 × Value)) (vs_x : List Value) (d_x : Value) (k_y : ClassId) (hs_y : List (Int32 × Value)) (vs_y : List Value) (d_y : Value) (h0 : Heap) (n0 : Nat) (Z0 : n0 ≤ h0.size) (F_encryptionKey_a1 : Fld Z h0 a1 "com/example/hush_vault/hushvault/crypto/MasterKey" "encryptionKey" "[B" (.ref x)) (F_macKey_a1 : Fld Z h0 a1 "com/example/hush_vault/hushvault/crypto/MasterKey" "macKey" "[B" (.ref y)) (V_x : Arh Z h0 x k_x .byte (32 : Int32) hs_x vs_x d_x) (V_y : Arh Z h0 y k_y .byte (32 : Int32) hs_y vs_y d_y) (g_x : n0 ≤ x) (g_y : n0 ≤ y) (nxy : x ≠ y) (nax : a1 ≠ x) :
    MetFree l (⟨"com/example/hush_vault/hushvault/crypto/MasterKey", "close", "()V"⟩ : MethodName) (head1 (Jvm.Cond.code (⟨"com/example/hush_vault/hushvault/crypto/MasterKey", "close", "()V"⟩ : MethodName) prog_8_method_8_code 1 none :: ws) ({ frames := 1, cells := 0, slots := 0, locals := 20 } : Room)) (fun a U => a = #[(.ref a1)] ∧ Z.Warmed39 U.vm ∧ U.heap = h0) (fun _ _ _ _ _ => True) (fun _ U o U' => ∃ v L, o = .returned v ∧ Q3 Z a1 x y k_x hs_x vs_x d_x k_y hs_y vs_y d_y h0 n0 v U'.heap L ∧ FrameEnd U o U' L ({ frames := 1, cells := 0, slots := 0, locals := 20 } : Room).cells ({ frames := 1, cells := 0, slots := 0, locals := 20 } : Room).slots) := by
  refine MetFree.of_bodySF (plainFor_of_name pn_3) hisR ?_
  intro p e s m args below meth c s₁ Bd hml0 hP hK
  obtain ⟨rfl, hZ, hh⟩ := hP
  have hx := Bd.exec
  have hby := Bd.bytes
  have hml : c.maxLocals = 1 := hml0
  have hown : s.vm.findClass "com/example/hush_vault/hushvault/crypto/MasterKey" = some m.cls := findClass_of_methodNamed Bd.named
  have hnm := (name_of_methodNamed Bd.named Bd.method).1
  have X0 : Stand p l e ({ frames := 1, cells := 0, slots := 0, locals := 20 } : Room) s m #[(.ref a1)] below meth c s₁ [] 0 0 := Stand.of_body Bd
  have e0 : s₁.heap = h0 := by rw [← hh, Bd.state]; rfl
  have N0 := Fr.nil n0
  have pre0 : ∀ t, Steps p.tables e below (s₁.setTop (mkF m 0 #[.val (.ref a1)] [])) t → Steps p.tables e below (s₁.setTop (entryFrame m #[(.ref a1)] 1)) t := fun t k => castTop (ef_3 m a1) k
  obtain ⟨T2, X2, e2, st2⟩ := getF X0 hx hZ hown (host := "") (Or.inl (ww hw 19 rfl)) Via.refl e0 F_encryptionKey_a1 (g := (mkF m 1 #[.val (.ref a1)] [(.ref a1)])) rfl rfl (hb hby d3_1)
  obtain ⟨clc3, Arc3, qc3, Sc3, -, -, -⟩ := id (V_x)
  obtain ⟨_, _, ⟨T3, L3, k3, n3⟩, -, X3, ⟨Lc3, hQ3, l3, y3, z3⟩, st3⟩ := Jvm.LawKit.callS X2 hx (y := (⟨"java/util/Arrays", "fill", "([BB)V"⟩ : MethodName)) hown (mvT hZ (ww hw 28 rfl)) (mvT hZ (ww hw 29 rfl)) (mvT hZ (ww hw 30 rfl)) (mvT hZ (ww hw 31 rfl)) (by decide) (backOf (W := 0) (rm4 l Z a0 hw [] x (0 : Int32) _ clc3 h0 n0 Z0 g_x qc3 Arc3 Sc3) hZ (ww hw 31 rfl) (ww hw 30 rfl) (by decide) (by decide)) (g := (mkF m 5 #[.val (.ref a1)] [(.int (0 : Int32)), (.ref x)])) rfl (by rw [hml]; rfl) (argsL := [(.ref x), (.int (0 : Int32))]) (rest := []) (lenOf pd_3_3 rfl) rfl (by show 2 * 0 + _ ≤ _; exact Nat.le_of_eq rfl) (hb hby d3_5) (fun _ _ => ⟨rfl, e2, (by decide : 0 + 0 ≤ _), (by decide : 0 + 0 ≤ _)⟩)
  dsimp only [Pt.U, Pt.locs, Pt.cells, Pt.slots] at X3 l3 y3 z3 st3 hQ3
  subst l3 y3 z3
  obtain ⟨rfl, N3q, Kc3, Vc3⟩ := hQ3
  have N3 := Fr.app N0 N3q
  have K3 : Keep h0 T3.heap [x, y] := (Keep.refl h0 [x, y]).trans Kc3 (allS (Or.inl (List.mem_of_getElem? (i := 0) rfl)) all0)
  obtain ⟨T4, X4, e4, st4⟩ := getF X3 hx hZ hown (host := "") (Or.inl (ww hw 21 rfl)) Via.refl rfl (F_macKey_a1.keep Kc3 (ninS nax nin0)) (g := (mkF m 9 #[.val (.ref a1)] [(.ref a1)])) rfl rfl (hb hby d3_9)
  obtain ⟨clc5, Arc5, qc5, Sc5, -, -, -⟩ := id ((V_y.keep Kc3 (ninS (Ne.symm nxy) nin0)))
  obtain ⟨_, _, ⟨T5, L5, k5, n5⟩, -, X5, ⟨Lc5, hQ5, l5, y5, z5⟩, st5⟩ := Jvm.LawKit.callS X4 hx (y := (⟨"java/util/Arrays", "fill", "([BB)V"⟩ : MethodName)) hown (mvT hZ (ww hw 28 rfl)) (mvT hZ (ww hw 29 rfl)) (mvT hZ (ww hw 30 rfl)) (mvT hZ (ww hw 31 rfl)) (by decide) (backOf (W := 0) (rm4 l Z a0 hw [] y (0 : Int32) _ clc5 T3.heap n0 (Nat.le_trans Z0 Kc3.1) g_y qc5 Arc5 Sc5) hZ (ww hw 31 rfl) (ww hw 30 rfl) (by decide) (by decide)) (g := (mkF m 13 #[.val (.ref a1)] [(.int (0 : Int32)), (.ref y)])) rfl (by rw [hml]; rfl) (argsL := [(.ref y), (.int (0 : Int32))]) (rest := []) (lenOf pd_3_3 rfl) rfl (by show 2 * 0 + _ ≤ _; exact Nat.le_of_eq rfl) (hb hby d3_13) (fun _ _ => ⟨rfl, e4, (by decide : 0 + 0 ≤ _), (by decide : 0 + 0 ≤ _)⟩)
  dsimp only [Pt.U, Pt.locs, Pt.cells, Pt.slots] at X5 l5 y5 z5 st5 hQ5
  subst l5 y5 z5
  obtain ⟨rfl, N5q, Kc5, Vc5⟩ := hQ5
  have N5 := Fr.app N3 N5q
  have K5 : Keep h0 T5.heap [x, y] := K3.trans Kc5 (allS (Or.inl (List.mem_of_getElem? (i := 1) rfl)) all0)
  obtain ⟨fs, hr, hrun, hended, hW, hsame⟩ := X5.leave (v := none) (fun _ => rfl)
  refine ⟨_, _, pre0 _ ?_, hrun, hended, _, _, rfl, ?_, ⟨_, rfl⟩, hW, hsame.mono (by decide) (by decide)⟩
  · show Steps _ _ _ (s₁.setTop (mkF m 0 #[.val (.ref a1)] [])) _
    refine XS.aloadN X0.here hx rfl (hb hby d3_0) rfl rfl ?_
    show Steps _ _ _ (s₁.setTop (mkF m 1 #[.val (.ref a1)] [(.ref a1)])) _
    refine st2 _ ?_
    show Steps _ _ _ (T2.setTop (mkF m 4 #[.val (.ref a1)] [(.ref x)])) _
    refine XS.iconst X2.here hx rfl (hb hby d3_4) ?_
    show Steps _ _ _ (T2.setTop (mkF m 5 #[.val (.ref a1)] [(.int (0 : Int32)), (.ref x)])) _
    refine st3 _ ?_
    show Steps _ _ _ (T3.setTop (mkF m 8 #[.val (.ref a1)] [])) _
    refine XS.aloadN X3.here hx rfl (hb hby d3_8) rfl rfl ?_
    show Steps _ _ _ (T3.setTop (mkF m 9 #[.val (.ref a1)] [(.ref a1)])) _
    refine st4 _ ?_
    show Steps _ _ _ (T4.setTop (mkF m 12 #[.val (.ref a1)] [(.ref y)])) _
    refine XS.iconst X4.here hx rfl (hb hby d3_12) ?_
    show Steps _ _ _ (T4.setTop (mkF m 13 #[.val (.ref a1)] [(.int (0 : Int32)), (.ref y)])) _
    refine st5 _ ?_
    show Steps _ _ _ (T5.setTop (mkF m 16 #[.val (.ref a1)] [])) _
    exact X5.returnOut hx Bd.returns (hb hby d3_16) hr
  · show Q3 Z a1 x y k_x hs_x vs_x d_x k_y hs_y vs_y d_y h0 n0 _ T5.heap _
    exact ⟨rfl, N5, K5, (Vc3.keep Kc5 (ninS nxy nin0)), Vc5⟩
theorem d5_0 : decode prog_8_method_4_code 0 = .ok (.aload_n 0, 1) := by decide +kernel
theorem d5_1 : decode prog_8_method_4_code 1 = .ok (.getfield 22, 3) := by decide +kernel
theorem d5_4 : decode prog_8_method_4_code 4 = .ok (.invokevirtual 16, 3) := by decide +kernel
theorem d5_7 : decode prog_8_method_4_code 7 = .ok (.checkcast 17, 3) := by decide +kernel
theorem d5_10 : decode prog_8_method_4_code 10 = .ok (.areturn, 1) := by decide +kernel
theorem pn_5 : plainName "com/example/hush_vault/hushvault/crypto/MasterKey" = true := by first | (simp [plainName, overriddenIn]; done) | decide +kernel
theorem ef_5 (m : MethodId) (x0 : Addr) : entryFrame m #[(.ref x0)] 1 = mkF m 0 #[.val (.ref x0)] [] := by first | (simp [entryFrame, mkF, argsToLocals, Value.category]; done) | rfl
-- 2. THE CONTRACT: what this body leaves is yours
def Q5 (Z : State) (a1 : Addr) (x : Addr) (k_x : ClassId) (hs_x : List (Int32 × Value)) (vs_x : List Value) (d_x : Value) (h0 : Heap) (n0 : Nat) (v : Option Value) (h : Heap) (L : List Loc) : Prop := ∃ b : Addr, v = some (.ref b) ∧ Fr n0 L ∧ Keep h0 h [] ∧ h0.size ≤ b ∧ Arh Z h b k_x .byte (32 : Int32) hs_x vs_x d_x
set_option maxRecDepth 65536 in
set_option maxHeartbeats 40000000 in
theorem rm5 (l : Launch) (Z : State) (a0 : Array Value) (hw : ∀ d ∈ tables_1, d.before a0 Z = true) (ws : List Jvm.Cond) (a1 : Addr) (x : Addr) (k_x : ClassId) (hs_x : List (Int32 × Value)) (vs_x : List Value) (d_x : Value) (h0 : Heap) (n0 : Nat) (Z0 : n0 ≤ h0.size) (F_a1 : Fld Z h0 a1 "com/example/hush_vault/hushvault/crypto/MasterKey" "encryptionKey" "[B" (.ref x)) (V_x : Arh Z h0 x k_x .byte (32 : Int32) hs_x vs_x d_x) (E_x : Exa Z h0 x "[B") :
    MetFree l (⟨"com/example/hush_vault/hushvault/crypto/MasterKey", "encryptionKeyBytes", "()[B"⟩ : MethodName) (head1 (Jvm.Cond.code (⟨"com/example/hush_vault/hushvault/crypto/MasterKey", "encryptionKeyBytes", "()[B"⟩ : MethodName) prog_8_method_4_code 1 (some (.array .byte)) :: ws) ({ frames := 1, cells := 1, slots := 32, locals := 14 } : Room)) (fun a U => a = #[(.ref a1)] ∧ Z.Warmed39 U.vm ∧ U.heap = h0) (fun _ _ _ _ _ => True) (fun _ U o U' => ∃ v L, o = .returned v ∧ Q5 Z a1 x k_x hs_x vs_x d_x h0 n0 v U'.heap L ∧ FrameEnd U o U' L ({ frames := 1, cells := 1, slots := 32, locals := 14 } : Room).cells ({ frames := 1, cells := 1, slots := 32, locals := 14 } : Room).slots) := by
  refine MetFree.of_bodySF (plainFor_of_name pn_5) hisR ?_
  intro p e s m args below meth c s₁ Bd hml0 hP hK
  obtain ⟨rfl, hZ, hh⟩ := hP
  have hx := Bd.exec
  have hby := Bd.bytes
  have hml : c.maxLocals = 1 := hml0
  have hown : s.vm.findClass "com/example/hush_vault/hushvault/crypto/MasterKey" = some m.cls := findClass_of_methodNamed Bd.named
  have hnm := (name_of_methodNamed Bd.named Bd.method).1
  have X0 : Stand p l e ({ frames := 1, cells := 1, slots := 32, locals := 14 } : Room) s m #[(.ref a1)] below meth c s₁ [] 0 0 := Stand.of_body Bd
  have e0 : s₁.heap = h0 := by rw [← hh, Bd.state]; rfl
  have N0 := Fr.nil n0
  have pre0 : ∀ t, Steps p.tables e below (s₁.setTop (mkF m 0 #[.val (.ref a1)] [])) t → Steps p.tables e below (s₁.setTop (entryFrame m #[(.ref a1)] 1)) t := fun t k => castTop (ef_5 m a1) k
  obtain ⟨T2, X2, e2, st2⟩ := getF X0 hx hZ hown (host := "") (Or.inl (ww hw 19 rfl)) Via.refl e0 F_a1 (g := (mkF m 1 #[.val (.ref a1)] [(.ref a1)])) rfl rfl (hb hby d5_1)
  obtain ⟨T3, h3, X3, e3, E3, V3, Ex3, st3⟩ := cloneH X2 hx hZ hown (ww hw 10 rfl) (ww hw 11 rfl) (ww hw 15 rfl) (ww hw 13 rfl) (ww hw 14 rfl) (ww hw 16 rfl) e2 V_x E_x (g := (mkF m 4 #[.val (.ref a1)] [(.ref x)])) rfl (by rw [hml]; rfl) rfl (hb hby d5_4) (by decide) (W := 0) (by show 2 * 0 + _ ≤ _; exact Nat.le_of_eq rfl) (by decide) (cap := 32) (by decide) (by decide) (by decide)
  obtain ⟨b3, g3⟩ : ∃ z, z = h0.size := ⟨_, rfl⟩
  rw [← g3] at V3 Ex3 st3
  have E_b3 := Ex3
  have g_b3 : n0 ≤ b3 := Nat.le_trans Z0 (Nat.le_of_eq g3.symm)
  have sz_b3 : h0.size ≤ b3 := (Nat.le_trans (Keep.refl h0 []).1 (Nat.le_of_eq g3.symm))
  have K3 : Keep h0 h3 [] := (Keep.refl h0 []).ext E3
  obtain ⟨T4, X4, e4, st4⟩ := castY X3 hx hZ hown (ww hw 17 rfl) e3 (Ins.self E_b3) (g := (mkF m 7 #[.val (.ref a1)] [(.ref b3)])) rfl rfl (hb hby d5_7)
  obtain ⟨fs, hr, hrun, hended, hW, hsame⟩ := X4.leave (v := some (.ref b3)) (fun h => by rw [Bd.returns] at h; cases h)
  refine ⟨_, _, pre0 _ ?_, hrun, hended, _, _, rfl, ?_, ⟨_, rfl⟩, hW, hsame.mono (by decide) (by decide)⟩
  · show Steps _ _ _ (s₁.setTop (mkF m 0 #[.val (.ref a1)] [])) _
    refine XS.aloadN X0.here hx rfl (hb hby d5_0) rfl rfl ?_
    show Steps _ _ _ (s₁.setTop (mkF m 1 #[.val (.ref a1)] [(.ref a1)])) _
    refine st2 _ ?_
    show Steps _ _ _ (T2.setTop (mkF m 4 #[.val (.ref a1)] [(.ref x)])) _
    refine st3 _ ?_
    show Steps _ _ _ (T3.setTop (mkF m 7 #[.val (.ref a1)] [(.ref b3)])) _
    refine st4 _ ?_
    show Steps _ _ _ (T4.setTop (mkF m 10 #[.val (.ref a1)] [(.ref b3)])) _
    jvm_step X4.here [X4.here.top, hx, (hb hby d5_10), X4.method', Bd.returns, Value.isRef, FieldType.isReference]
    first | (intro acts; rw [hr _ acts rfl rfl rfl]) | rw [hr _ _ rfl rfl rfl]
    exact Steps.refl _
  · show Q5 Z a1 x k_x hs_x vs_x d_x h0 n0 _ T4.heap _
    rw [e4]
    exact ⟨b3, rfl, N0, K3, sz_b3, V3⟩
theorem d6_0 : decode prog_8_method_5_code 0 = .ok (.aload_n 0, 1) := by decide +kernel
theorem d6_1 : decode prog_8_method_5_code 1 = .ok (.getfield 25, 3) := by decide +kernel
theorem d6_4 : decode prog_8_method_5_code 4 = .ok (.invokevirtual 16, 3) := by decide +kernel
theorem d6_7 : decode prog_8_method_5_code 7 = .ok (.checkcast 17, 3) := by decide +kernel
theorem d6_10 : decode prog_8_method_5_code 10 = .ok (.areturn, 1) := by decide +kernel
theorem pn_6 : plainName "com/example/hush_vault/hushvault/crypto/MasterKey" = true := by first | (simp [plainName, overriddenIn]; done) | decide +kernel
theorem ef_6 (m : MethodId) (x0 : Addr) : entryFrame m #[(.ref x0)] 1 = mkF m 0 #[.val (.ref x0)] [] := by first | (simp [entryFrame, mkF, argsToLocals, Value.category]; done) | rfl
-- 2. THE CONTRACT: what this body leaves is yours
def Q6 (Z : State) (a1 : Addr) (x : Addr) (k_x : ClassId) (hs_x : List (Int32 × Value)) (vs_x : List Value) (d_x : Value) (h0 : Heap) (n0 : Nat) (v : Option Value) (h : Heap) (L : List Loc) : Prop := ∃ b : Addr, v = some (.ref b) ∧ Fr n0 L ∧ Keep h0 h [] ∧ h0.size ≤ b ∧ Arh Z h b k_x .byte (32 : Int32) hs_x vs_x d_x
set_option maxRecDepth 65536 in
set_option maxHeartbeats 40000000 in
theorem rm6 (l : Launch) (Z : State) (a0 : Array Value) (hw : ∀ d ∈ tables_1, d.before a0 Z = true) (ws : List Jvm.Cond) (a1 : Addr) (x : Addr) (k_x : ClassId) (hs_x : List (Int32 × Value)) (vs_x : List Value) (d_x : Value) (h0 : Heap) (n0 : Nat) (Z0 : n0 ≤ h0.size) (F_a1 : Fld Z h0 a1 "com/example/hush_vault/hushvault/crypto/MasterKey" "macKey" "[B" (.ref x)) (V_x : Arh Z h0 x k_x .byte (32 : Int32) hs_x vs_x d_x) (E_x : Exa Z h0 x "[B") :
    MetFree l (⟨"com/example/hush_vault/hushvault/crypto/MasterKey", "macKeyBytes", "()[B"⟩ : MethodName) (head1 (Jvm.Cond.code (⟨"com/example/hush_vault/hushvault/crypto/MasterKey", "macKeyBytes", "()[B"⟩ : MethodName) prog_8_method_5_code 1 (some (.array .byte)) :: ws) ({ frames := 1, cells := 1, slots := 32, locals := 14 } : Room)) (fun a U => a = #[(.ref a1)] ∧ Z.Warmed39 U.vm ∧ U.heap = h0) (fun _ _ _ _ _ => True) (fun _ U o U' => ∃ v L, o = .returned v ∧ Q6 Z a1 x k_x hs_x vs_x d_x h0 n0 v U'.heap L ∧ FrameEnd U o U' L ({ frames := 1, cells := 1, slots := 32, locals := 14 } : Room).cells ({ frames := 1, cells := 1, slots := 32, locals := 14 } : Room).slots) := by
  refine MetFree.of_bodySF (plainFor_of_name pn_6) hisR ?_
  intro p e s m args below meth c s₁ Bd hml0 hP hK
  obtain ⟨rfl, hZ, hh⟩ := hP
  have hx := Bd.exec
  have hby := Bd.bytes
  have hml : c.maxLocals = 1 := hml0
  have hown : s.vm.findClass "com/example/hush_vault/hushvault/crypto/MasterKey" = some m.cls := findClass_of_methodNamed Bd.named
  have hnm := (name_of_methodNamed Bd.named Bd.method).1
  have X0 : Stand p l e ({ frames := 1, cells := 1, slots := 32, locals := 14 } : Room) s m #[(.ref a1)] below meth c s₁ [] 0 0 := Stand.of_body Bd
  have e0 : s₁.heap = h0 := by rw [← hh, Bd.state]; rfl
  have N0 := Fr.nil n0
  have pre0 : ∀ t, Steps p.tables e below (s₁.setTop (mkF m 0 #[.val (.ref a1)] [])) t → Steps p.tables e below (s₁.setTop (entryFrame m #[(.ref a1)] 1)) t := fun t k => castTop (ef_6 m a1) k
  obtain ⟨T2, X2, e2, st2⟩ := getF X0 hx hZ hown (host := "") (Or.inl (ww hw 21 rfl)) Via.refl e0 F_a1 (g := (mkF m 1 #[.val (.ref a1)] [(.ref a1)])) rfl rfl (hb hby d6_1)
  obtain ⟨T3, h3, X3, e3, E3, V3, Ex3, st3⟩ := cloneH X2 hx hZ hown (ww hw 10 rfl) (ww hw 11 rfl) (ww hw 15 rfl) (ww hw 13 rfl) (ww hw 14 rfl) (ww hw 16 rfl) e2 V_x E_x (g := (mkF m 4 #[.val (.ref a1)] [(.ref x)])) rfl (by rw [hml]; rfl) rfl (hb hby d6_4) (by decide) (W := 0) (by show 2 * 0 + _ ≤ _; exact Nat.le_of_eq rfl) (by decide) (cap := 32) (by decide) (by decide) (by decide)
  obtain ⟨b3, g3⟩ : ∃ z, z = h0.size := ⟨_, rfl⟩
  rw [← g3] at V3 Ex3 st3
  have E_b3 := Ex3
  have g_b3 : n0 ≤ b3 := Nat.le_trans Z0 (Nat.le_of_eq g3.symm)
  have sz_b3 : h0.size ≤ b3 := (Nat.le_trans (Keep.refl h0 []).1 (Nat.le_of_eq g3.symm))
  have K3 : Keep h0 h3 [] := (Keep.refl h0 []).ext E3
  obtain ⟨T4, X4, e4, st4⟩ := castY X3 hx hZ hown (ww hw 17 rfl) e3 (Ins.self E_b3) (g := (mkF m 7 #[.val (.ref a1)] [(.ref b3)])) rfl rfl (hb hby d6_7)
  obtain ⟨fs, hr, hrun, hended, hW, hsame⟩ := X4.leave (v := some (.ref b3)) (fun h => by rw [Bd.returns] at h; cases h)
  refine ⟨_, _, pre0 _ ?_, hrun, hended, _, _, rfl, ?_, ⟨_, rfl⟩, hW, hsame.mono (by decide) (by decide)⟩
  · show Steps _ _ _ (s₁.setTop (mkF m 0 #[.val (.ref a1)] [])) _
    refine XS.aloadN X0.here hx rfl (hb hby d6_0) rfl rfl ?_
    show Steps _ _ _ (s₁.setTop (mkF m 1 #[.val (.ref a1)] [(.ref a1)])) _
    refine st2 _ ?_
    show Steps _ _ _ (T2.setTop (mkF m 4 #[.val (.ref a1)] [(.ref x)])) _
    refine st3 _ ?_
    show Steps _ _ _ (T3.setTop (mkF m 7 #[.val (.ref a1)] [(.ref b3)])) _
    refine st4 _ ?_
    show Steps _ _ _ (T4.setTop (mkF m 10 #[.val (.ref a1)] [(.ref b3)])) _
    jvm_step X4.here [X4.here.top, hx, (hb hby d6_10), X4.method', Bd.returns, Value.isRef, FieldType.isReference]
    first | (intro acts; rw [hr _ acts rfl rfl rfl]) | rw [hr _ _ rfl rfl rfl]
    exact Steps.refl _
  · show Q6 Z a1 x k_x hs_x vs_x d_x h0 n0 _ T4.heap _
    rw [e4]
    exact ⟨b3, rfl, N0, K3, sz_b3, V3⟩
theorem own_msk (q : Int32) : ¬ (q &&& (31 : Int32)) < 0 ∧ (q &&& (31 : Int32)) < 32 := by
  have e : (q &&& (31 : Int32)).toInt = q.toInt % 2 ^ 5 := Jvm.Kit.i32_mask q 31 (k := 5) (by decide) (by decide)
  have e1 : (0 : Int32).toInt = 0 := rfl
  have e2 : (32 : Int32).toInt = 32 := rfl
  rw [Int32.lt_iff_toInt_lt, Int32.lt_iff_toInt_lt, e1, e2]
  omega
theorem own_nar (y : Int32) : nar .byte (y.toInt8.toInt32) = y.toInt8.toInt32 := by simp [nar]
theorem pn_0 : plainName "com/example/hush_vault/hushvault/crypto/MasterKeyClosePinLaw" = true := by first | (simp [plainName, overriddenIn]; done) | decide +kernel
theorem pd_0_0 : parseMethodDescriptor "([B[B)V" = some ⟨[(.array .byte), (.array .byte)], none⟩ := by decide +kernel
theorem pd_0_1 : parseMethodDescriptor "()V" = some ⟨[], none⟩ := by decide +kernel
theorem pd_0_4 : parseMethodDescriptor "()[B" = some ⟨[], some (.array .byte)⟩ := by decide +kernel
theorem ef_0 (m : MethodId) (x0 : Int32) (x1 : Int32) (x2 : Int32) (x3 : Int32) (x4 : Int32) : entryFrame m #[(.int x0), (.int x1), (.int x2), (.int x3), (.int x4)] maxLocals = mkF m 0 #[.val (.int x0), .val (.int x1), .val (.int x2), .val (.int x3), .val (.int x4), .unset, .unset, .unset, .unset, .unset, .unset, .unset, .unset, .unset, .unset] [] := by first | (simp [entryFrame, mkF, argsToLocals, Value.category, maxLocals]; done) | rfl
-- 2. THE CONTRACT: what this body leaves is yours
def Q0 (Z : State) (p1 : Int32) (p2 : Int32) (p3 : Int32) (p4 : Int32) (p5 : Int32) (h0 : Heap) (n0 : Nat) (v : Option Value) (h : Heap) (L : List Loc) : Prop := v = some (.int (1 : Int32)) ∧ Fr n0 L
-- its room: frames: the greatest, locals: the greatest, cells 7 + .., slots 194 + ..: rm1: frames + 1; locals 1 + 3 + 11 + its room's locals; its cells and slots besides; rm3: frames + 1; locals 0 + 1 + 11 + its room's locals; its cells and slots besides; rm5: frames + 1; locals 0 + 1 + 11 + its room's locals; its cells and slots besides; rm6: frames + 1; locals 0 + 1 + 11 + its room's locals; its cells and slots besides
set_option maxRecDepth 65536 in
set_option maxHeartbeats 40000000 in
theorem rm0 (l : Launch) (Z : State) (a0 : Array Value) (hw : ∀ d ∈ tables_1, d.before a0 Z = true) (ws : List Jvm.Cond) (p1 : Int32) (p2 : Int32) (p3 : Int32) (p4 : Int32) (p5 : Int32) (h0 : Heap) (n0 : Nat) (Z0 : n0 ≤ h0.size) (hc180 : (nar .byte (((p1.toUInt32 >>> ((8 : Int32) &&& 31).toUInt32).toInt32).toInt8.toInt32)) = (((p1.toUInt32 >>> ((8 : Int32) &&& 31).toUInt32).toInt32).toInt8.toInt32)) (hc193 : (nar .byte (((p2.toUInt32 >>> ((8 : Int32) &&& 31).toUInt32).toInt32).toInt8.toInt32)) = (((p2.toUInt32 >>> ((8 : Int32) &&& 31).toUInt32).toInt32).toInt8.toInt32)) (hc205 : ¬ ((1 : Int32) = (0 : Int32))) (hc210 : ¬ ((1 : Int32) = (0 : Int32))) :
    MetFree l x (head1 (Jvm.Cond.code x code maxLocals ret :: ws) room_1) (fun a U => a = #[(.int p1), (.int p2), (.int p3), (.int p4), (.int p5)] ∧ Z.Warmed39 U.vm ∧ U.heap = h0) (fun _ _ _ _ _ => True) (fun _ U o U' => ∃ v L, o = .returned v ∧ Q0 Z p1 p2 p3 p4 p5 h0 n0 v U'.heap L ∧ FrameEnd U o U' L room_1.cells room_1.slots) := by
  refine MetFree.of_bodySF (plainFor_of_name pn_0) hisR ?_
  intro p e s m args below meth c s₁ Bd hml0 hP hK
  obtain ⟨rfl, hZ, hh⟩ := hP
  have hx := Bd.exec
  have hby := Bd.bytes
  have hml : c.maxLocals = 15 := hml0
  have hown : s.vm.findClass "com/example/hush_vault/hushvault/crypto/MasterKeyClosePinLaw" = some m.cls := findClass_of_methodNamed Bd.named
  have hnm := (name_of_methodNamed Bd.named Bd.method).1
  have X0 : Stand p l e room_1 s m #[(.int p1), (.int p2), (.int p3), (.int p4), (.int p5)] below meth c s₁ [] 0 0 := Stand.of_body Bd
  have e0 : s₁.heap = h0 := by rw [← hh, Bd.state]; rfl
  have N0 := Fr.nil n0
  have pre0 : ∀ t, Steps p.tables e below (s₁.setTop (mkF m 0 #[.val (.int p1), .val (.int p2), .val (.int p3), .val (.int p4), .val (.int p5), .unset, .unset, .unset, .unset, .unset, .unset, .unset, .unset, .unset, .unset] [])) t → Steps p.tables e below (s₁.setTop (entryFrame m #[(.int p1), (.int p2), (.int p3), (.int p4), (.int p5)] maxLocals)) t := fun t k => castTop (ef_0 m p1 p2 p3 p4 p5) k
  obtain ⟨T6, h6, k6, X6, e6, E6, A6, Ex6, st6⟩ := newPE X0 hx hZ (ww hw 0 rfl) e0 (g := (mkF m 21 #[.val (.int p1), .val (.int p2), .val (.int p3), .val (.int p4), .val (.int p5), .val (.int (p3 &&& (31 : Int32))), .val (.int (p4 &&& (31 : Int32))), .val (.int (p5 &&& (31 : Int32))), .unset, .unset, .unset, .unset, .unset, .unset, .unset] [(.int (32 : Int32))])) rfl (hb hby at_21) rfl (by decide) (cap := 32) (by decide) (by decide) (by decide) (by decide) (ad := "[B") rfl
  obtain ⟨b6, g6⟩ : ∃ z, z = h0.size := ⟨_, rfl⟩
  rw [← g6] at A6 Ex6 st6
  have V_b6 := (Arv.new A6 (by decide)).arh
  have E_b6 := Ex6
  have g_b6 : n0 ≤ b6 := Nat.le_trans Z0 (Nat.le_of_eq g6.symm)
  have sz_b6 : h0.size ≤ b6 := (Nat.le_trans (Keep.refl h0 []).1 (Nat.le_of_eq g6.symm))
  have K6 : Keep h0 h6 [] := (Keep.refl h0 []).ext E6
  obtain ⟨T7, h7, k7, X7, e7, E7, A7, Ex7, st7⟩ := newPE X6 hx hZ (ww hw 0 rfl) e6 (g := (mkF m 27 #[.val (.int p1), .val (.int p2), .val (.int p3), .val (.int p4), .val (.int p5), .val (.int (p3 &&& (31 : Int32))), .val (.int (p4 &&& (31 : Int32))), .val (.int (p5 &&& (31 : Int32))), .val (.ref b6), .unset, .unset, .unset, .unset, .unset, .unset] [(.int (32 : Int32))])) rfl (hb hby at_27) rfl (by decide) (cap := 32) (by decide) (by decide) (by decide) (by decide) (ad := "[B") rfl
  obtain ⟨b7, g7⟩ : ∃ z, z = h6.size := ⟨_, rfl⟩
  rw [← g7] at A7 Ex7 st7
  have V_b7 := (Arv.new A7 (by decide)).arh
  have E_b7 := Ex7
  have g_b7 : n0 ≤ b7 := Nat.le_trans (Nat.le_trans Z0 E6.1) (Nat.le_of_eq g7.symm)
  have sz_b7 : h0.size ≤ b7 := (Nat.le_trans K6.1 (Nat.le_of_eq g7.symm))
  have K7 : Keep h0 h7 [] := K6.ext E7
  obtain ⟨cl_37, Ar_37, q_37, S_37, N_37, H_37, G_37⟩ := id ((V_b6.ext E7))
  have hin37 : ¬ ((p3 &&& (31 : Int32)) < 0 ∨ cl_37.slots.size ≤ ((p3 &&& (31 : Int32))).toNatClampNeg) := inb_of S_37 (own_msk p3)
  obtain ⟨T8, h8, X8, e8, W8, st8⟩ := stB X7 hx hZ e7 Ar_37 (j := (p3 &&& (31 : Int32))) hin37 (g := (mkF m 37 #[.val (.int p1), .val (.int p2), .val (.int p3), .val (.int p4), .val (.int p5), .val (.int (p3 &&& (31 : Int32))), .val (.int (p4 &&& (31 : Int32))), .val (.int (p5 &&& (31 : Int32))), .val (.ref b6), .val (.ref b7), .unset, .unset, .unset, .unset, .unset] [(.int (p1.toInt8.toInt32)), (.int (p3 &&& (31 : Int32))), (.ref b6)])) rfl rfl (hb hby at_37)
  have V_b6_8 := Arh.push Ar_37 q_37 S_37 N_37 H_37 G_37 (fits_nar_byte _) W8 hin37
  have K8 : Keep h0 h8 [] := K7.wr W8 (Or.inr sz_b6)
  have N8 := Fr.snoc X8 N0 g_b6
  obtain ⟨cl_47, Ar_47, q_47, S_47, N_47, H_47, G_47⟩ := id (V_b6_8)
  have hin47 : ¬ ((p5 &&& (31 : Int32)) < 0 ∨ cl_47.slots.size ≤ ((p5 &&& (31 : Int32))).toNatClampNeg) := inb_of S_47 (own_msk p5)
  obtain ⟨T9, h9, X9, e9, W9, st9⟩ := stB X8 hx hZ e8 Ar_47 (j := (p5 &&& (31 : Int32))) hin47 (g := (mkF m 47 #[.val (.int p1), .val (.int p2), .val (.int p3), .val (.int p4), .val (.int p5), .val (.int (p3 &&& (31 : Int32))), .val (.int (p4 &&& (31 : Int32))), .val (.int (p5 &&& (31 : Int32))), .val (.ref b6), .val (.ref b7), .unset, .unset, .unset, .unset, .unset] [(.int (((p1.toUInt32 >>> ((8 : Int32) &&& 31).toUInt32).toInt32).toInt8.toInt32)), (.int (p5 &&& (31 : Int32))), (.ref b6)])) rfl rfl (hb hby at_47)
  have V_b6_9 := Arh.push Ar_47 q_47 S_47 N_47 H_47 G_47 (fits_nar_byte _) W9 hin47
  have K9 : Keep h0 h9 [] := K8.wr W9 (Or.inr sz_b6)
  have N9 := Fr.snoc X9 N8 g_b6
  obtain ⟨cl_54, Ar_54, q_54, S_54, N_54, H_54, G_54⟩ := id (((V_b7.other W8 (Ne.symm (Nat.ne_of_lt (Nat.lt_of_lt_of_le E_b6.lt (Nat.le_of_eq g7.symm))))).other W9 (Ne.symm (Nat.ne_of_lt (Nat.lt_of_lt_of_le E_b6.lt (Nat.le_of_eq g7.symm))))))
  have hin54 : ¬ ((p4 &&& (31 : Int32)) < 0 ∨ cl_54.slots.size ≤ ((p4 &&& (31 : Int32))).toNatClampNeg) := inb_of S_54 (own_msk p4)
  obtain ⟨T10, h10, X10, e10, W10, st10⟩ := stB X9 hx hZ e9 Ar_54 (j := (p4 &&& (31 : Int32))) hin54 (g := (mkF m 54 #[.val (.int p1), .val (.int p2), .val (.int p3), .val (.int p4), .val (.int p5), .val (.int (p3 &&& (31 : Int32))), .val (.int (p4 &&& (31 : Int32))), .val (.int (p5 &&& (31 : Int32))), .val (.ref b6), .val (.ref b7), .unset, .unset, .unset, .unset, .unset] [(.int (p2.toInt8.toInt32)), (.int (p4 &&& (31 : Int32))), (.ref b7)])) rfl rfl (hb hby at_54)
  have V_b7_10 := Arh.push Ar_54 q_54 S_54 N_54 H_54 G_54 (fits_nar_byte _) W10 hin54
  have K10 : Keep h0 h10 [] := K9.wr W10 (Or.inr sz_b7)
  have N10 := Fr.snoc X10 N9 g_b7
  obtain ⟨cl_64, Ar_64, q_64, S_64, N_64, H_64, G_64⟩ := id (V_b7_10)
  have hin64 : ¬ ((p5 &&& (31 : Int32)) < 0 ∨ cl_64.slots.size ≤ ((p5 &&& (31 : Int32))).toNatClampNeg) := inb_of S_64 (own_msk p5)
  obtain ⟨T11, h11, X11, e11, W11, st11⟩ := stB X10 hx hZ e10 Ar_64 (j := (p5 &&& (31 : Int32))) hin64 (g := (mkF m 64 #[.val (.int p1), .val (.int p2), .val (.int p3), .val (.int p4), .val (.int p5), .val (.int (p3 &&& (31 : Int32))), .val (.int (p4 &&& (31 : Int32))), .val (.int (p5 &&& (31 : Int32))), .val (.ref b6), .val (.ref b7), .unset, .unset, .unset, .unset, .unset] [(.int (((p2.toUInt32 >>> ((8 : Int32) &&& 31).toUInt32).toInt32).toInt8.toInt32)), (.int (p5 &&& (31 : Int32))), (.ref b7)])) rfl rfl (hb hby at_64)
  have V_b7_11 := Arh.push Ar_64 q_64 S_64 N_64 H_64 G_64 (fits_nar_byte _) W11 hin64
  have K11 : Keep h0 h11 [] := K10.wr W11 (Or.inr sz_b7)
  have N11 := Fr.snoc X11 N10 g_b7
  obtain ⟨T12, h12, X12, e12, E12, A12, D12, -, st12⟩ := newO X11 hx hZ hown (ww hw 1 rfl) (ww hw 2 rfl) (ww hw 3 rfl) e11 (g := (mkF m 65 #[.val (.int p1), .val (.int p2), .val (.int p3), .val (.int p4), .val (.int p5), .val (.int (p3 &&& (31 : Int32))), .val (.int (p4 &&& (31 : Int32))), .val (.int (p5 &&& (31 : Int32))), .val (.ref b6), .val (.ref b7), .unset, .unset, .unset, .unset, .unset] [])) rfl (hb hby at_65) (by decide) (by decide)
  obtain ⟨b12, g12⟩ : ∃ z, z = h11.size := ⟨_, rfl⟩
  rw [← g12] at A12 D12 st12
  have F_encryptionKey_b12 : Fld Z h12 b12 "com/example/hush_vault/hushvault/crypto/MasterKey" "encryptionKey" "[B" .null := D12 (Or.inr (ww hw 20 rfl)) (ty := (.array .byte)) (by decide)
  have F_macKey_b12 : Fld Z h12 b12 "com/example/hush_vault/hushvault/crypto/MasterKey" "macKey" "[B" .null := D12 (Or.inr (ww hw 22 rfl)) (ty := (.array .byte)) (by decide)
  have E_b12 := A12
  have g_b12 : n0 ≤ b12 := Nat.le_trans (Nat.le_trans (Nat.le_trans (Nat.le_trans (Nat.le_trans (Nat.le_trans (Nat.le_trans Z0 E6.1) E7.1) (Keep.of_wr W8).1) (Keep.of_wr W9).1) (Keep.of_wr W10).1) (Keep.of_wr W11).1) (Nat.le_of_eq g12.symm)
  have sz_b12 : h0.size ≤ b12 := (Nat.le_trans K11.1 (Nat.le_of_eq g12.symm))
  have K12 : Keep h0 h12 [] := K11.ext E12
  obtain ⟨_, _, ⟨T13, L13, k13, n13⟩, -, X13, ⟨Lc13, hQ13, l13, y13, z13⟩, st13⟩ := X12.specialBack hx (y := (⟨"com/example/hush_vault/hushvault/crypto/MasterKey", "<init>", "([B[B)V"⟩ : MethodName)) rfl hown (mvT hZ (ww hw 4 rfl)) (mvT hZ (ww hw 5 rfl)) (mvT hZ (ww hw 6 rfl)) (by decide) (backOf (W := 1) (rm1 l Z a0 hw [] b12 b6 b7 _ _ _ _ _ _ _ _ _ _  h12 n0 (Nat.le_trans (Nat.le_trans (Nat.le_trans (Nat.le_trans (Nat.le_trans (Nat.le_trans (Nat.le_trans Z0 E6.1) E7.1) (Keep.of_wr W8).1) (Keep.of_wr W9).1) (Keep.of_wr W10).1) (Keep.of_wr W11).1) E12.1) (((V_b6_9.other W10 (Nat.ne_of_lt (Nat.lt_of_lt_of_le E_b6.lt (Nat.le_of_eq g7.symm)))).other W11 (Nat.ne_of_lt (Nat.lt_of_lt_of_le E_b6.lt (Nat.le_of_eq g7.symm)))).ext E12) ((((((E_b6.ext E7).wr W8).wr W9).wr W10).wr W11).ext E12) (V_b7_11.ext E12) (((((E_b7.wr W8).wr W9).wr W10).wr W11).ext E12) (Nat.ne_of_lt (Nat.lt_of_lt_of_le ((V_b6_9.other W10 (Nat.ne_of_lt (Nat.lt_of_lt_of_le E_b6.lt (Nat.le_of_eq g7.symm)))).other W11 (Nat.ne_of_lt (Nat.lt_of_lt_of_le E_b6.lt (Nat.le_of_eq g7.symm)))).lt (Nat.le_of_eq g12.symm))) (Nat.ne_of_lt (Nat.lt_of_lt_of_le V_b7_11.lt (Nat.le_of_eq g12.symm))) E_b12 F_encryptionKey_b12 g_b12 F_macKey_b12) hZ (ww hw 6 rfl) (ww hw 3 rfl) (by decide) (by decide)) (g := (mkF m 73 #[.val (.int p1), .val (.int p2), .val (.int p3), .val (.int p4), .val (.int p5), .val (.int (p3 &&& (31 : Int32))), .val (.int (p4 &&& (31 : Int32))), .val (.int (p5 &&& (31 : Int32))), .val (.ref b6), .val (.ref b7), .unset, .unset, .unset, .unset, .unset] [(.ref b7), (.ref b6), (.ref b12), (.ref b12)])) rfl (by rw [hml]; rfl) (Steps.refl _) (a := b12) (argsL := [(.ref b6), (.ref b7)]) (rest := [(.ref b12)]) (lenOf pd_0_0 rfl) rfl (by show 2 * 0 + _ ≤ _; exact Nat.le_of_eq rfl) (hb hby at_73) (fun _ _ => ⟨rfl, e12, (by decide : 3 + 2 ≤ _), (by decide : 66 + 64 ≤ _)⟩)
  dsimp only [Pt.U, Pt.locs, Pt.cells, Pt.slots] at X13 l13 y13 z13 st13 hQ13
  subst l13 y13 z13
  obtain ⟨xE, yM, rfl, N13q, Kc13, hxE, hyM, nxy, Fe13, Fm13, Ex13, Ey13, Vx13, Vy13⟩ := hQ13
  have N13 := Fr.app N11 N13q
  have g_xE : n0 ≤ xE := Nat.le_trans (Nat.le_trans (Nat.le_trans (Nat.le_trans (Nat.le_trans (Nat.le_trans (Nat.le_trans (Nat.le_trans Z0 E6.1) E7.1) (Keep.of_wr W8).1) (Keep.of_wr W9).1) (Keep.of_wr W10).1) (Keep.of_wr W11).1) E12.1) hxE
  have sz_xE : h0.size ≤ xE := Nat.le_trans K12.1 hxE
  have g_yM : n0 ≤ yM := Nat.le_trans (Nat.le_trans (Nat.le_trans (Nat.le_trans (Nat.le_trans (Nat.le_trans (Nat.le_trans (Nat.le_trans Z0 E6.1) E7.1) (Keep.of_wr W8).1) (Keep.of_wr W9).1) (Keep.of_wr W10).1) (Keep.of_wr W11).1) E12.1) hyM
  have sz_yM : h0.size ≤ yM := Nat.le_trans K12.1 hyM
  have K13 : Keep h0 T13.heap [] := K12.trans Kc13 (allS (Or.inr sz_b12) all0)
  have nax : b12 ≠ xE := Nat.ne_of_lt (Nat.lt_of_lt_of_le E_b12.lt hxE)
  obtain ⟨cq14, kq14, q14a, q14b, q14c⟩ := isOf hZ rfl (E_b12.keep Kc13)
  obtain ⟨_, _, ⟨T14, L14, k14, n14⟩, -, X14, ⟨Lc14, hQ14, l14, y14, z14⟩, st14⟩ := X13.virtualBack hx (y := (⟨"com/example/hush_vault/hushvault/crypto/MasterKey", "close", "()V"⟩ : MethodName)) (z := (⟨"com/example/hush_vault/hushvault/crypto/MasterKey", "close", "()V"⟩ : MethodName)) hown (mvT hZ (ww hw 23 rfl)) (mvT hZ (ww hw 24 rfl)) (notFace_of_selects (args := #[]) (mvT hZ (ww hw 26 rfl))) (mvT hZ (ww hw 26 rfl)) (mvT hZ (ww hw 25 rfl)) (by decide) (backOf (W := 0) (rm3 l Z a0 hw [] b12 xE yM _ _ _ _ _ _ _ _ T13.heap n0 (Nat.le_trans (Nat.le_trans (Nat.le_trans (Nat.le_trans (Nat.le_trans (Nat.le_trans (Nat.le_trans (Nat.le_trans Z0 E6.1) E7.1) (Keep.of_wr W8).1) (Keep.of_wr W9).1) (Keep.of_wr W10).1) (Keep.of_wr W11).1) E12.1) Kc13.1) Fe13 Fm13 Vx13 Vy13 g_xE g_yM nxy nax) hZ (ww hw 27 rfl) (ww hw 3 rfl) (by decide) (by decide)) q14a q14c (g := (mkF m 80 #[.val (.int p1), .val (.int p2), .val (.int p3), .val (.int p4), .val (.int p5), .val (.int (p3 &&& (31 : Int32))), .val (.int (p4 &&& (31 : Int32))), .val (.int (p5 &&& (31 : Int32))), .val (.ref b6), .val (.ref b7), .val (.ref b12), .unset, .unset, .unset, .unset] [(.ref b12)])) rfl (by rw [hml]; rfl) (Steps.refl _) (argsL := []) (rest := []) (lenOf pd_0_1 rfl) rfl (by show 2 * 0 + _ ≤ _; exact Nat.le_of_eq rfl) (hb hby at_80) (fun _ _ => ⟨rfl, rfl, (by decide : 5 + 0 ≤ _), (by decide : 130 + 0 ≤ _)⟩)
  dsimp only [Pt.U, Pt.locs, Pt.cells, Pt.slots] at X14 l14 y14 z14 st14 hQ14
  subst l14 y14 z14
  obtain ⟨rfl, N14q, Kc14, Vx14, Vy14⟩ := hQ14
  have N14 := Fr.app N13 N14q
  have K14 : Keep h0 T14.heap [] := K13.trans Kc14 (allS (Or.inr sz_xE) (allS (Or.inr sz_yM) all0))
  obtain ⟨cq15, kq15, q15a, q15b, q15c⟩ := isOf hZ rfl ((E_b12.keep Kc13).keep Kc14)
  obtain ⟨_, _, ⟨T15, L15, k15, n15⟩, -, X15, ⟨Lc15, hQ15, l15, y15, z15⟩, st15⟩ := X14.virtualBack hx (y := (⟨"com/example/hush_vault/hushvault/crypto/MasterKey", "encryptionKeyBytes", "()[B"⟩ : MethodName)) (z := (⟨"com/example/hush_vault/hushvault/crypto/MasterKey", "encryptionKeyBytes", "()[B"⟩ : MethodName)) hown (mvT hZ (ww hw 32 rfl)) (mvT hZ (ww hw 33 rfl)) (notFace_of_selects (args := #[]) (mvT hZ (ww hw 35 rfl))) (mvT hZ (ww hw 35 rfl)) (mvT hZ (ww hw 34 rfl)) (by decide) (backOf (W := 0) (rm5 l Z a0 hw [] b12 xE _ _ _ _ T14.heap n0 (Nat.le_trans (Nat.le_trans (Nat.le_trans (Nat.le_trans (Nat.le_trans (Nat.le_trans (Nat.le_trans (Nat.le_trans (Nat.le_trans Z0 E6.1) E7.1) (Keep.of_wr W8).1) (Keep.of_wr W9).1) (Keep.of_wr W10).1) (Keep.of_wr W11).1) E12.1) Kc13.1) Kc14.1) (Fe13.keep Kc14 (ninS (Nat.ne_of_lt (Nat.lt_of_lt_of_le E_b12.lt hxE)) (ninS (Nat.ne_of_lt (Nat.lt_of_lt_of_le E_b12.lt hyM)) nin0))) Vx14 (Ex13.keep Kc14)) hZ (ww hw 36 rfl) (ww hw 3 rfl) (by decide) (by decide)) q15a q15c (g := (mkF m 85 #[.val (.int p1), .val (.int p2), .val (.int p3), .val (.int p4), .val (.int p5), .val (.int (p3 &&& (31 : Int32))), .val (.int (p4 &&& (31 : Int32))), .val (.int (p5 &&& (31 : Int32))), .val (.ref b6), .val (.ref b7), .val (.ref b12), .unset, .unset, .unset, .unset] [(.ref b12)])) rfl (by rw [hml]; rfl) (Steps.refl _) (argsL := []) (rest := []) (lenOf pd_0_4 rfl) rfl (by show 2 * 0 + _ ≤ _; exact Nat.le_of_eq rfl) (hb hby at_85) (fun _ _ => ⟨rfl, rfl, (by decide : 5 + 1 ≤ _), (by decide : 130 + 32 ≤ _)⟩)
  dsimp only [Pt.U, Pt.locs, Pt.cells, Pt.slots] at X15 l15 y15 z15 st15 hQ15
  subst l15 y15 z15
  obtain ⟨r15, rfl, N15q, Kc15, hr15, Vr15⟩ := hQ15
  have N15 := Fr.app N14 N15q
  have g_r15 : n0 ≤ r15 := Nat.le_trans (Nat.le_trans (Nat.le_trans (Nat.le_trans (Nat.le_trans (Nat.le_trans (Nat.le_trans (Nat.le_trans (Nat.le_trans (Nat.le_trans Z0 E6.1) E7.1) (Keep.of_wr W8).1) (Keep.of_wr W9).1) (Keep.of_wr W10).1) (Keep.of_wr W11).1) E12.1) Kc13.1) Kc14.1) hr15
  have sz_r15 : h0.size ≤ r15 := Nat.le_trans K14.1 hr15
  have K15 : Keep h0 T15.heap [] := K14.trans Kc15 all0
  obtain ⟨cq16, kq16, q16a, q16b, q16c⟩ := isOf hZ rfl (((E_b12.keep Kc13).keep Kc14).keep Kc15)
  obtain ⟨_, _, ⟨T16, L16, k16, n16⟩, -, X16, ⟨Lc16, hQ16, l16, y16, z16⟩, st16⟩ := X15.virtualBack hx (y := (⟨"com/example/hush_vault/hushvault/crypto/MasterKey", "macKeyBytes", "()[B"⟩ : MethodName)) (z := (⟨"com/example/hush_vault/hushvault/crypto/MasterKey", "macKeyBytes", "()[B"⟩ : MethodName)) hown (mvT hZ (ww hw 37 rfl)) (mvT hZ (ww hw 38 rfl)) (notFace_of_selects (args := #[]) (mvT hZ (ww hw 40 rfl))) (mvT hZ (ww hw 40 rfl)) (mvT hZ (ww hw 39 rfl)) (by decide) (backOf (W := 0) (rm6 l Z a0 hw [] b12 yM _ _ _ _ T15.heap n0 (Nat.le_trans (Nat.le_trans (Nat.le_trans (Nat.le_trans (Nat.le_trans (Nat.le_trans (Nat.le_trans (Nat.le_trans (Nat.le_trans (Nat.le_trans Z0 E6.1) E7.1) (Keep.of_wr W8).1) (Keep.of_wr W9).1) (Keep.of_wr W10).1) (Keep.of_wr W11).1) E12.1) Kc13.1) Kc14.1) Kc15.1) ((Fm13.keep Kc14 (ninS (Nat.ne_of_lt (Nat.lt_of_lt_of_le E_b12.lt hxE)) (ninS (Nat.ne_of_lt (Nat.lt_of_lt_of_le E_b12.lt hyM)) nin0))).keep Kc15 nin0) (Vy14.keep Kc15 nin0) ((Ey13.keep Kc14).keep Kc15)) hZ (ww hw 41 rfl) (ww hw 3 rfl) (by decide) (by decide)) q16a q16c (g := (mkF m 92 #[.val (.int p1), .val (.int p2), .val (.int p3), .val (.int p4), .val (.int p5), .val (.int (p3 &&& (31 : Int32))), .val (.int (p4 &&& (31 : Int32))), .val (.int (p5 &&& (31 : Int32))), .val (.ref b6), .val (.ref b7), .val (.ref b12), .val (.ref r15), .unset, .unset, .unset] [(.ref b12)])) rfl (by rw [hml]; rfl) (Steps.refl _) (argsL := []) (rest := []) (lenOf pd_0_4 rfl) rfl (by show 2 * 0 + _ ≤ _; exact Nat.le_of_eq rfl) (hb hby at_92) (fun _ _ => ⟨rfl, rfl, (by decide : 6 + 1 ≤ _), (by decide : 162 + 32 ≤ _)⟩)
  dsimp only [Pt.U, Pt.locs, Pt.cells, Pt.slots] at X16 l16 y16 z16 st16 hQ16
  subst l16 y16 z16
  obtain ⟨r16, rfl, N16q, Kc16, hr16, Vr16⟩ := hQ16
  have N16 := Fr.app N15 N16q
  have g_r16 : n0 ≤ r16 := Nat.le_trans (Nat.le_trans (Nat.le_trans (Nat.le_trans (Nat.le_trans (Nat.le_trans (Nat.le_trans (Nat.le_trans (Nat.le_trans (Nat.le_trans (Nat.le_trans Z0 E6.1) E7.1) (Keep.of_wr W8).1) (Keep.of_wr W9).1) (Keep.of_wr W10).1) (Keep.of_wr W11).1) E12.1) Kc13.1) Kc14.1) Kc15.1) hr16
  have sz_r16 : h0.size ≤ r16 := Nat.le_trans K15.1 hr16
  have K16 : Keep h0 T16.heap [] := K15.trans Kc16 all0
  obtain ⟨cl_r15_99, Ar_r15, -, S_r15, N_r15, -, -⟩ := id ((Vr15.keep Kc16 nin0))
  obtain ⟨cl_r16_107, Ar_r16, -, S_r16, N_r16, -, -⟩ := id (Vr16)
  obtain ⟨cl_119, Ar_119, -, S_119, N_119, H_119, -⟩ := id ((Vr15.keep Kc16 nin0))
  have hin119 : ¬ ((p3 &&& (31 : Int32)) < 0 ∨ cl_119.slots.size ≤ ((p3 &&& (31 : Int32))).toNatClampNeg) := inb_of S_119 (own_msk p3)
  have hat119 := atH H_119 hin119 (v := (.int (0 : Int32))) rfl
  obtain ⟨cl_127, Ar_127, -, S_127, N_127, H_127, -⟩ := id ((Vr15.keep Kc16 nin0))
  have hin127 : ¬ ((p4 &&& (31 : Int32)) < 0 ∨ cl_127.slots.size ≤ ((p4 &&& (31 : Int32))).toNatClampNeg) := inb_of S_127 (own_msk p4)
  have hat127 := atH H_127 hin127 (v := (.int (0 : Int32))) rfl
  obtain ⟨cl_135, Ar_135, -, S_135, N_135, H_135, -⟩ := id ((Vr15.keep Kc16 nin0))
  have hin135 : ¬ ((p5 &&& (31 : Int32)) < 0 ∨ cl_135.slots.size ≤ ((p5 &&& (31 : Int32))).toNatClampNeg) := inb_of S_135 (own_msk p5)
  have hat135 := atH H_135 hin135 (v := (.int (0 : Int32))) rfl
  obtain ⟨cl_143, Ar_143, -, S_143, N_143, H_143, -⟩ := id (Vr16)
  have hin143 : ¬ ((p3 &&& (31 : Int32)) < 0 ∨ cl_143.slots.size ≤ ((p3 &&& (31 : Int32))).toNatClampNeg) := inb_of S_143 (own_msk p3)
  have hat143 := atH H_143 hin143 (v := (.int (0 : Int32))) rfl
  obtain ⟨cl_151, Ar_151, -, S_151, N_151, H_151, -⟩ := id (Vr16)
  have hin151 : ¬ ((p4 &&& (31 : Int32)) < 0 ∨ cl_151.slots.size ≤ ((p4 &&& (31 : Int32))).toNatClampNeg) := inb_of S_151 (own_msk p4)
  have hat151 := atH H_151 hin151 (v := (.int (0 : Int32))) rfl
  obtain ⟨cl_159, Ar_159, -, S_159, N_159, H_159, -⟩ := id (Vr16)
  have hin159 : ¬ ((p5 &&& (31 : Int32)) < 0 ∨ cl_159.slots.size ≤ ((p5 &&& (31 : Int32))).toNatClampNeg) := inb_of S_159 (own_msk p5)
  have hat159 := atH H_159 hin159 (v := (.int (0 : Int32))) rfl
  obtain ⟨cl_174, Ar_174, -, S_174, N_174, H_174, -⟩ := id ((((((((V_b6_9.other W10 (Nat.ne_of_lt (Nat.lt_of_lt_of_le E_b6.lt (Nat.le_of_eq g7.symm)))).other W11 (Nat.ne_of_lt (Nat.lt_of_lt_of_le E_b6.lt (Nat.le_of_eq g7.symm)))).ext E12).keep Kc13 (ninS (Nat.ne_of_lt (Nat.lt_of_lt_of_le ((V_b6_9.other W10 (Nat.ne_of_lt (Nat.lt_of_lt_of_le E_b6.lt (Nat.le_of_eq g7.symm)))).other W11 (Nat.ne_of_lt (Nat.lt_of_lt_of_le E_b6.lt (Nat.le_of_eq g7.symm)))).lt (Nat.le_of_eq g12.symm))) nin0)).keep Kc14 (ninS (Nat.ne_of_lt (Nat.lt_of_lt_of_le (((V_b6_9.other W10 (Nat.ne_of_lt (Nat.lt_of_lt_of_le E_b6.lt (Nat.le_of_eq g7.symm)))).other W11 (Nat.ne_of_lt (Nat.lt_of_lt_of_le E_b6.lt (Nat.le_of_eq g7.symm)))).ext E12).lt hxE)) (ninS (Nat.ne_of_lt (Nat.lt_of_lt_of_le (((V_b6_9.other W10 (Nat.ne_of_lt (Nat.lt_of_lt_of_le E_b6.lt (Nat.le_of_eq g7.symm)))).other W11 (Nat.ne_of_lt (Nat.lt_of_lt_of_le E_b6.lt (Nat.le_of_eq g7.symm)))).ext E12).lt hyM)) nin0))).keep Kc15 nin0).keep Kc16 nin0))
  have hin174 : ¬ ((p5 &&& (31 : Int32)) < 0 ∨ cl_174.slots.size ≤ ((p5 &&& (31 : Int32))).toNatClampNeg) := inb_of S_174 (own_msk p5)
  have hat174 := atH H_174 hin174 (v := (.int (nar .byte (((p1.toUInt32 >>> ((8 : Int32) &&& 31).toUInt32).toInt32).toInt8.toInt32)))) (getH_hit (own_msk p5).1 rfl)
  obtain ⟨cl_187, Ar_187, -, S_187, N_187, H_187, -⟩ := id ((((((V_b7_11.ext E12).keep Kc13 (ninS (Nat.ne_of_lt (Nat.lt_of_lt_of_le V_b7_11.lt (Nat.le_of_eq g12.symm))) nin0)).keep Kc14 (ninS (Nat.ne_of_lt (Nat.lt_of_lt_of_le (V_b7_11.ext E12).lt hxE)) (ninS (Nat.ne_of_lt (Nat.lt_of_lt_of_le (V_b7_11.ext E12).lt hyM)) nin0))).keep Kc15 nin0).keep Kc16 nin0))
  have hin187 : ¬ ((p5 &&& (31 : Int32)) < 0 ∨ cl_187.slots.size ≤ ((p5 &&& (31 : Int32))).toNatClampNeg) := inb_of S_187 (own_msk p5)
  have hat187 := atH H_187 hin187 (v := (.int (nar .byte (((p2.toUInt32 >>> ((8 : Int32) &&& 31).toUInt32).toInt32).toInt8.toInt32)))) (getH_hit (own_msk p5).1 rfl)
  obtain ⟨fs, hr, hrun, hended, hW, hsame⟩ := X16.leave (v := some (.int (1 : Int32))) (fun h => by rw [Bd.returns] at h; cases h)
  refine ⟨_, _, pre0 _ ?_, hrun, hended, _, _, rfl, ?_, ⟨_, rfl⟩, hW, hsame.mono (by decide) (by decide)⟩
  · show Steps _ _ _ (s₁.setTop (mkF m 0 #[.val (.int p1), .val (.int p2), .val (.int p3), .val (.int p4), .val (.int p5), .unset, .unset, .unset, .unset, .unset, .unset, .unset, .unset, .unset, .unset] [])) _
    refine XS.iloadN X0.here hx rfl (hb hby at_0) rfl ?_
    show Steps _ _ _ (s₁.setTop (mkF m 1 #[.val (.int p1), .val (.int p2), .val (.int p3), .val (.int p4), .val (.int p5), .unset, .unset, .unset, .unset, .unset, .unset, .unset, .unset, .unset, .unset] [(.int p3)])) _
    refine XS.bipush X0.here hx rfl (hb hby at_1) ?_
    show Steps _ _ _ (s₁.setTop (mkF m 3 #[.val (.int p1), .val (.int p2), .val (.int p3), .val (.int p4), .val (.int p5), .unset, .unset, .unset, .unset, .unset, .unset, .unset, .unset, .unset, .unset] [(.int (31 : Int32)), (.int p3)])) _
    refine XS.iand X0.here hx rfl (hb hby at_3) rfl ?_
    show Steps _ _ _ (s₁.setTop (mkF m 4 #[.val (.int p1), .val (.int p2), .val (.int p3), .val (.int p4), .val (.int p5), .unset, .unset, .unset, .unset, .unset, .unset, .unset, .unset, .unset, .unset] [(.int (p3 &&& (31 : Int32)))])) _
    refine XS.istore X0.here hx rfl (hb hby at_4) rfl (l' := #[.val (.int p1), .val (.int p2), .val (.int p3), .val (.int p4), .val (.int p5), .val (.int (p3 &&& (31 : Int32))), .unset, .unset, .unset, .unset, .unset, .unset, .unset, .unset, .unset]) rfl ?_
    show Steps _ _ _ (s₁.setTop (mkF m 6 #[.val (.int p1), .val (.int p2), .val (.int p3), .val (.int p4), .val (.int p5), .val (.int (p3 &&& (31 : Int32))), .unset, .unset, .unset, .unset, .unset, .unset, .unset, .unset, .unset] [])) _
    refine XS.iloadN X0.here hx rfl (hb hby at_6) rfl ?_
    show Steps _ _ _ (s₁.setTop (mkF m 7 #[.val (.int p1), .val (.int p2), .val (.int p3), .val (.int p4), .val (.int p5), .val (.int (p3 &&& (31 : Int32))), .unset, .unset, .unset, .unset, .unset, .unset, .unset, .unset, .unset] [(.int p4)])) _
    refine XS.bipush X0.here hx rfl (hb hby at_7) ?_
    show Steps _ _ _ (s₁.setTop (mkF m 9 #[.val (.int p1), .val (.int p2), .val (.int p3), .val (.int p4), .val (.int p5), .val (.int (p3 &&& (31 : Int32))), .unset, .unset, .unset, .unset, .unset, .unset, .unset, .unset, .unset] [(.int (31 : Int32)), (.int p4)])) _
    refine XS.iand X0.here hx rfl (hb hby at_9) rfl ?_
    show Steps _ _ _ (s₁.setTop (mkF m 10 #[.val (.int p1), .val (.int p2), .val (.int p3), .val (.int p4), .val (.int p5), .val (.int (p3 &&& (31 : Int32))), .unset, .unset, .unset, .unset, .unset, .unset, .unset, .unset, .unset] [(.int (p4 &&& (31 : Int32)))])) _
    refine XS.istore X0.here hx rfl (hb hby at_10) rfl (l' := #[.val (.int p1), .val (.int p2), .val (.int p3), .val (.int p4), .val (.int p5), .val (.int (p3 &&& (31 : Int32))), .val (.int (p4 &&& (31 : Int32))), .unset, .unset, .unset, .unset, .unset, .unset, .unset, .unset]) rfl ?_
    show Steps _ _ _ (s₁.setTop (mkF m 12 #[.val (.int p1), .val (.int p2), .val (.int p3), .val (.int p4), .val (.int p5), .val (.int (p3 &&& (31 : Int32))), .val (.int (p4 &&& (31 : Int32))), .unset, .unset, .unset, .unset, .unset, .unset, .unset, .unset] [])) _
    refine XS.iload X0.here hx rfl (hb hby at_12) rfl ?_
    show Steps _ _ _ (s₁.setTop (mkF m 14 #[.val (.int p1), .val (.int p2), .val (.int p3), .val (.int p4), .val (.int p5), .val (.int (p3 &&& (31 : Int32))), .val (.int (p4 &&& (31 : Int32))), .unset, .unset, .unset, .unset, .unset, .unset, .unset, .unset] [(.int p5)])) _
    refine XS.bipush X0.here hx rfl (hb hby at_14) ?_
    show Steps _ _ _ (s₁.setTop (mkF m 16 #[.val (.int p1), .val (.int p2), .val (.int p3), .val (.int p4), .val (.int p5), .val (.int (p3 &&& (31 : Int32))), .val (.int (p4 &&& (31 : Int32))), .unset, .unset, .unset, .unset, .unset, .unset, .unset, .unset] [(.int (31 : Int32)), (.int p5)])) _
    refine XS.iand X0.here hx rfl (hb hby at_16) rfl ?_
    show Steps _ _ _ (s₁.setTop (mkF m 17 #[.val (.int p1), .val (.int p2), .val (.int p3), .val (.int p4), .val (.int p5), .val (.int (p3 &&& (31 : Int32))), .val (.int (p4 &&& (31 : Int32))), .unset, .unset, .unset, .unset, .unset, .unset, .unset, .unset] [(.int (p5 &&& (31 : Int32)))])) _
    refine XS.istore X0.here hx rfl (hb hby at_17) rfl (l' := #[.val (.int p1), .val (.int p2), .val (.int p3), .val (.int p4), .val (.int p5), .val (.int (p3 &&& (31 : Int32))), .val (.int (p4 &&& (31 : Int32))), .val (.int (p5 &&& (31 : Int32))), .unset, .unset, .unset, .unset, .unset, .unset, .unset]) rfl ?_
    show Steps _ _ _ (s₁.setTop (mkF m 19 #[.val (.int p1), .val (.int p2), .val (.int p3), .val (.int p4), .val (.int p5), .val (.int (p3 &&& (31 : Int32))), .val (.int (p4 &&& (31 : Int32))), .val (.int (p5 &&& (31 : Int32))), .unset, .unset, .unset, .unset, .unset, .unset, .unset] [])) _
    refine XS.bipush X0.here hx rfl (hb hby at_19) ?_
    show Steps _ _ _ (s₁.setTop (mkF m 21 #[.val (.int p1), .val (.int p2), .val (.int p3), .val (.int p4), .val (.int p5), .val (.int (p3 &&& (31 : Int32))), .val (.int (p4 &&& (31 : Int32))), .val (.int (p5 &&& (31 : Int32))), .unset, .unset, .unset, .unset, .unset, .unset, .unset] [(.int (32 : Int32))])) _
    refine st6 _ ?_
    show Steps _ _ _ (T6.setTop (mkF m 23 #[.val (.int p1), .val (.int p2), .val (.int p3), .val (.int p4), .val (.int p5), .val (.int (p3 &&& (31 : Int32))), .val (.int (p4 &&& (31 : Int32))), .val (.int (p5 &&& (31 : Int32))), .unset, .unset, .unset, .unset, .unset, .unset, .unset] [(.ref b6)])) _
    refine XS.astore X6.here hx rfl (hb hby at_23) rfl rfl (l' := #[.val (.int p1), .val (.int p2), .val (.int p3), .val (.int p4), .val (.int p5), .val (.int (p3 &&& (31 : Int32))), .val (.int (p4 &&& (31 : Int32))), .val (.int (p5 &&& (31 : Int32))), .val (.ref b6), .unset, .unset, .unset, .unset, .unset, .unset]) rfl ?_
    show Steps _ _ _ (T6.setTop (mkF m 25 #[.val (.int p1), .val (.int p2), .val (.int p3), .val (.int p4), .val (.int p5), .val (.int (p3 &&& (31 : Int32))), .val (.int (p4 &&& (31 : Int32))), .val (.int (p5 &&& (31 : Int32))), .val (.ref b6), .unset, .unset, .unset, .unset, .unset, .unset] [])) _
    refine XS.bipush X6.here hx rfl (hb hby at_25) ?_
    show Steps _ _ _ (T6.setTop (mkF m 27 #[.val (.int p1), .val (.int p2), .val (.int p3), .val (.int p4), .val (.int p5), .val (.int (p3 &&& (31 : Int32))), .val (.int (p4 &&& (31 : Int32))), .val (.int (p5 &&& (31 : Int32))), .val (.ref b6), .unset, .unset, .unset, .unset, .unset, .unset] [(.int (32 : Int32))])) _
    refine st7 _ ?_
    show Steps _ _ _ (T7.setTop (mkF m 29 #[.val (.int p1), .val (.int p2), .val (.int p3), .val (.int p4), .val (.int p5), .val (.int (p3 &&& (31 : Int32))), .val (.int (p4 &&& (31 : Int32))), .val (.int (p5 &&& (31 : Int32))), .val (.ref b6), .unset, .unset, .unset, .unset, .unset, .unset] [(.ref b7)])) _
    refine XS.astore X7.here hx rfl (hb hby at_29) rfl rfl (l' := #[.val (.int p1), .val (.int p2), .val (.int p3), .val (.int p4), .val (.int p5), .val (.int (p3 &&& (31 : Int32))), .val (.int (p4 &&& (31 : Int32))), .val (.int (p5 &&& (31 : Int32))), .val (.ref b6), .val (.ref b7), .unset, .unset, .unset, .unset, .unset]) rfl ?_
    show Steps _ _ _ (T7.setTop (mkF m 31 #[.val (.int p1), .val (.int p2), .val (.int p3), .val (.int p4), .val (.int p5), .val (.int (p3 &&& (31 : Int32))), .val (.int (p4 &&& (31 : Int32))), .val (.int (p5 &&& (31 : Int32))), .val (.ref b6), .val (.ref b7), .unset, .unset, .unset, .unset, .unset] [])) _
    refine XS.aload X7.here hx rfl (hb hby at_31) rfl rfl ?_
    show Steps _ _ _ (T7.setTop (mkF m 33 #[.val (.int p1), .val (.int p2), .val (.int p3), .val (.int p4), .val (.int p5), .val (.int (p3 &&& (31 : Int32))), .val (.int (p4 &&& (31 : Int32))), .val (.int (p5 &&& (31 : Int32))), .val (.ref b6), .val (.ref b7), .unset, .unset, .unset, .unset, .unset] [(.ref b6)])) _
    refine XS.iload X7.here hx rfl (hb hby at_33) rfl ?_
    show Steps _ _ _ (T7.setTop (mkF m 35 #[.val (.int p1), .val (.int p2), .val (.int p3), .val (.int p4), .val (.int p5), .val (.int (p3 &&& (31 : Int32))), .val (.int (p4 &&& (31 : Int32))), .val (.int (p5 &&& (31 : Int32))), .val (.ref b6), .val (.ref b7), .unset, .unset, .unset, .unset, .unset] [(.int (p3 &&& (31 : Int32))), (.ref b6)])) _
    refine XS.iloadN X7.here hx rfl (hb hby at_35) rfl ?_
    show Steps _ _ _ (T7.setTop (mkF m 36 #[.val (.int p1), .val (.int p2), .val (.int p3), .val (.int p4), .val (.int p5), .val (.int (p3 &&& (31 : Int32))), .val (.int (p4 &&& (31 : Int32))), .val (.int (p5 &&& (31 : Int32))), .val (.ref b6), .val (.ref b7), .unset, .unset, .unset, .unset, .unset] [(.int p1), (.int (p3 &&& (31 : Int32))), (.ref b6)])) _
    refine XS.i2b X7.here hx rfl (hb hby at_36) rfl ?_
    show Steps _ _ _ (T7.setTop (mkF m 37 #[.val (.int p1), .val (.int p2), .val (.int p3), .val (.int p4), .val (.int p5), .val (.int (p3 &&& (31 : Int32))), .val (.int (p4 &&& (31 : Int32))), .val (.int (p5 &&& (31 : Int32))), .val (.ref b6), .val (.ref b7), .unset, .unset, .unset, .unset, .unset] [(.int (p1.toInt8.toInt32)), (.int (p3 &&& (31 : Int32))), (.ref b6)])) _
    refine st8 _ ?_
    show Steps _ _ _ (T8.setTop (mkF m 38 #[.val (.int p1), .val (.int p2), .val (.int p3), .val (.int p4), .val (.int p5), .val (.int (p3 &&& (31 : Int32))), .val (.int (p4 &&& (31 : Int32))), .val (.int (p5 &&& (31 : Int32))), .val (.ref b6), .val (.ref b7), .unset, .unset, .unset, .unset, .unset] [])) _
    refine XS.aload X8.here hx rfl (hb hby at_38) rfl rfl ?_
    show Steps _ _ _ (T8.setTop (mkF m 40 #[.val (.int p1), .val (.int p2), .val (.int p3), .val (.int p4), .val (.int p5), .val (.int (p3 &&& (31 : Int32))), .val (.int (p4 &&& (31 : Int32))), .val (.int (p5 &&& (31 : Int32))), .val (.ref b6), .val (.ref b7), .unset, .unset, .unset, .unset, .unset] [(.ref b6)])) _
    refine XS.iload X8.here hx rfl (hb hby at_40) rfl ?_
    show Steps _ _ _ (T8.setTop (mkF m 42 #[.val (.int p1), .val (.int p2), .val (.int p3), .val (.int p4), .val (.int p5), .val (.int (p3 &&& (31 : Int32))), .val (.int (p4 &&& (31 : Int32))), .val (.int (p5 &&& (31 : Int32))), .val (.ref b6), .val (.ref b7), .unset, .unset, .unset, .unset, .unset] [(.int (p5 &&& (31 : Int32))), (.ref b6)])) _
    refine XS.iloadN X8.here hx rfl (hb hby at_42) rfl ?_
    show Steps _ _ _ (T8.setTop (mkF m 43 #[.val (.int p1), .val (.int p2), .val (.int p3), .val (.int p4), .val (.int p5), .val (.int (p3 &&& (31 : Int32))), .val (.int (p4 &&& (31 : Int32))), .val (.int (p5 &&& (31 : Int32))), .val (.ref b6), .val (.ref b7), .unset, .unset, .unset, .unset, .unset] [(.int p1), (.int (p5 &&& (31 : Int32))), (.ref b6)])) _
    refine XS.bipush X8.here hx rfl (hb hby at_43) ?_
    show Steps _ _ _ (T8.setTop (mkF m 45 #[.val (.int p1), .val (.int p2), .val (.int p3), .val (.int p4), .val (.int p5), .val (.int (p3 &&& (31 : Int32))), .val (.int (p4 &&& (31 : Int32))), .val (.int (p5 &&& (31 : Int32))), .val (.ref b6), .val (.ref b7), .unset, .unset, .unset, .unset, .unset] [(.int (8 : Int32)), (.int p1), (.int (p5 &&& (31 : Int32))), (.ref b6)])) _
    refine XS.iushr X8.here hx rfl (hb hby at_45) rfl ?_
    show Steps _ _ _ (T8.setTop (mkF m 46 #[.val (.int p1), .val (.int p2), .val (.int p3), .val (.int p4), .val (.int p5), .val (.int (p3 &&& (31 : Int32))), .val (.int (p4 &&& (31 : Int32))), .val (.int (p5 &&& (31 : Int32))), .val (.ref b6), .val (.ref b7), .unset, .unset, .unset, .unset, .unset] [(.int ((p1.toUInt32 >>> ((8 : Int32) &&& 31).toUInt32).toInt32)), (.int (p5 &&& (31 : Int32))), (.ref b6)])) _
    refine XS.i2b X8.here hx rfl (hb hby at_46) rfl ?_
    show Steps _ _ _ (T8.setTop (mkF m 47 #[.val (.int p1), .val (.int p2), .val (.int p3), .val (.int p4), .val (.int p5), .val (.int (p3 &&& (31 : Int32))), .val (.int (p4 &&& (31 : Int32))), .val (.int (p5 &&& (31 : Int32))), .val (.ref b6), .val (.ref b7), .unset, .unset, .unset, .unset, .unset] [(.int (((p1.toUInt32 >>> ((8 : Int32) &&& 31).toUInt32).toInt32).toInt8.toInt32)), (.int (p5 &&& (31 : Int32))), (.ref b6)])) _
    refine st9 _ ?_
    show Steps _ _ _ (T9.setTop (mkF m 48 #[.val (.int p1), .val (.int p2), .val (.int p3), .val (.int p4), .val (.int p5), .val (.int (p3 &&& (31 : Int32))), .val (.int (p4 &&& (31 : Int32))), .val (.int (p5 &&& (31 : Int32))), .val (.ref b6), .val (.ref b7), .unset, .unset, .unset, .unset, .unset] [])) _
    refine XS.aload X9.here hx rfl (hb hby at_48) rfl rfl ?_
    show Steps _ _ _ (T9.setTop (mkF m 50 #[.val (.int p1), .val (.int p2), .val (.int p3), .val (.int p4), .val (.int p5), .val (.int (p3 &&& (31 : Int32))), .val (.int (p4 &&& (31 : Int32))), .val (.int (p5 &&& (31 : Int32))), .val (.ref b6), .val (.ref b7), .unset, .unset, .unset, .unset, .unset] [(.ref b7)])) _
    refine XS.iload X9.here hx rfl (hb hby at_50) rfl ?_
    show Steps _ _ _ (T9.setTop (mkF m 52 #[.val (.int p1), .val (.int p2), .val (.int p3), .val (.int p4), .val (.int p5), .val (.int (p3 &&& (31 : Int32))), .val (.int (p4 &&& (31 : Int32))), .val (.int (p5 &&& (31 : Int32))), .val (.ref b6), .val (.ref b7), .unset, .unset, .unset, .unset, .unset] [(.int (p4 &&& (31 : Int32))), (.ref b7)])) _
    refine XS.iloadN X9.here hx rfl (hb hby at_52) rfl ?_
    show Steps _ _ _ (T9.setTop (mkF m 53 #[.val (.int p1), .val (.int p2), .val (.int p3), .val (.int p4), .val (.int p5), .val (.int (p3 &&& (31 : Int32))), .val (.int (p4 &&& (31 : Int32))), .val (.int (p5 &&& (31 : Int32))), .val (.ref b6), .val (.ref b7), .unset, .unset, .unset, .unset, .unset] [(.int p2), (.int (p4 &&& (31 : Int32))), (.ref b7)])) _
    refine XS.i2b X9.here hx rfl (hb hby at_53) rfl ?_
    show Steps _ _ _ (T9.setTop (mkF m 54 #[.val (.int p1), .val (.int p2), .val (.int p3), .val (.int p4), .val (.int p5), .val (.int (p3 &&& (31 : Int32))), .val (.int (p4 &&& (31 : Int32))), .val (.int (p5 &&& (31 : Int32))), .val (.ref b6), .val (.ref b7), .unset, .unset, .unset, .unset, .unset] [(.int (p2.toInt8.toInt32)), (.int (p4 &&& (31 : Int32))), (.ref b7)])) _
    refine st10 _ ?_
    show Steps _ _ _ (T10.setTop (mkF m 55 #[.val (.int p1), .val (.int p2), .val (.int p3), .val (.int p4), .val (.int p5), .val (.int (p3 &&& (31 : Int32))), .val (.int (p4 &&& (31 : Int32))), .val (.int (p5 &&& (31 : Int32))), .val (.ref b6), .val (.ref b7), .unset, .unset, .unset, .unset, .unset] [])) _
    refine XS.aload X10.here hx rfl (hb hby at_55) rfl rfl ?_
    show Steps _ _ _ (T10.setTop (mkF m 57 #[.val (.int p1), .val (.int p2), .val (.int p3), .val (.int p4), .val (.int p5), .val (.int (p3 &&& (31 : Int32))), .val (.int (p4 &&& (31 : Int32))), .val (.int (p5 &&& (31 : Int32))), .val (.ref b6), .val (.ref b7), .unset, .unset, .unset, .unset, .unset] [(.ref b7)])) _
    refine XS.iload X10.here hx rfl (hb hby at_57) rfl ?_
    show Steps _ _ _ (T10.setTop (mkF m 59 #[.val (.int p1), .val (.int p2), .val (.int p3), .val (.int p4), .val (.int p5), .val (.int (p3 &&& (31 : Int32))), .val (.int (p4 &&& (31 : Int32))), .val (.int (p5 &&& (31 : Int32))), .val (.ref b6), .val (.ref b7), .unset, .unset, .unset, .unset, .unset] [(.int (p5 &&& (31 : Int32))), (.ref b7)])) _
    refine XS.iloadN X10.here hx rfl (hb hby at_59) rfl ?_
    show Steps _ _ _ (T10.setTop (mkF m 60 #[.val (.int p1), .val (.int p2), .val (.int p3), .val (.int p4), .val (.int p5), .val (.int (p3 &&& (31 : Int32))), .val (.int (p4 &&& (31 : Int32))), .val (.int (p5 &&& (31 : Int32))), .val (.ref b6), .val (.ref b7), .unset, .unset, .unset, .unset, .unset] [(.int p2), (.int (p5 &&& (31 : Int32))), (.ref b7)])) _
    refine XS.bipush X10.here hx rfl (hb hby at_60) ?_
    show Steps _ _ _ (T10.setTop (mkF m 62 #[.val (.int p1), .val (.int p2), .val (.int p3), .val (.int p4), .val (.int p5), .val (.int (p3 &&& (31 : Int32))), .val (.int (p4 &&& (31 : Int32))), .val (.int (p5 &&& (31 : Int32))), .val (.ref b6), .val (.ref b7), .unset, .unset, .unset, .unset, .unset] [(.int (8 : Int32)), (.int p2), (.int (p5 &&& (31 : Int32))), (.ref b7)])) _
    refine XS.iushr X10.here hx rfl (hb hby at_62) rfl ?_
    show Steps _ _ _ (T10.setTop (mkF m 63 #[.val (.int p1), .val (.int p2), .val (.int p3), .val (.int p4), .val (.int p5), .val (.int (p3 &&& (31 : Int32))), .val (.int (p4 &&& (31 : Int32))), .val (.int (p5 &&& (31 : Int32))), .val (.ref b6), .val (.ref b7), .unset, .unset, .unset, .unset, .unset] [(.int ((p2.toUInt32 >>> ((8 : Int32) &&& 31).toUInt32).toInt32)), (.int (p5 &&& (31 : Int32))), (.ref b7)])) _
    refine XS.i2b X10.here hx rfl (hb hby at_63) rfl ?_
    show Steps _ _ _ (T10.setTop (mkF m 64 #[.val (.int p1), .val (.int p2), .val (.int p3), .val (.int p4), .val (.int p5), .val (.int (p3 &&& (31 : Int32))), .val (.int (p4 &&& (31 : Int32))), .val (.int (p5 &&& (31 : Int32))), .val (.ref b6), .val (.ref b7), .unset, .unset, .unset, .unset, .unset] [(.int (((p2.toUInt32 >>> ((8 : Int32) &&& 31).toUInt32).toInt32).toInt8.toInt32)), (.int (p5 &&& (31 : Int32))), (.ref b7)])) _
    refine st11 _ ?_
    show Steps _ _ _ (T11.setTop (mkF m 65 #[.val (.int p1), .val (.int p2), .val (.int p3), .val (.int p4), .val (.int p5), .val (.int (p3 &&& (31 : Int32))), .val (.int (p4 &&& (31 : Int32))), .val (.int (p5 &&& (31 : Int32))), .val (.ref b6), .val (.ref b7), .unset, .unset, .unset, .unset, .unset] [])) _
    refine st12 _ ?_
    show Steps _ _ _ (T12.setTop (mkF m 68 #[.val (.int p1), .val (.int p2), .val (.int p3), .val (.int p4), .val (.int p5), .val (.int (p3 &&& (31 : Int32))), .val (.int (p4 &&& (31 : Int32))), .val (.int (p5 &&& (31 : Int32))), .val (.ref b6), .val (.ref b7), .unset, .unset, .unset, .unset, .unset] [(.ref b12)])) _
    refine XS.dup X12.here hx rfl (hb hby at_68) rfl rfl ?_
    show Steps _ _ _ (T12.setTop (mkF m 69 #[.val (.int p1), .val (.int p2), .val (.int p3), .val (.int p4), .val (.int p5), .val (.int (p3 &&& (31 : Int32))), .val (.int (p4 &&& (31 : Int32))), .val (.int (p5 &&& (31 : Int32))), .val (.ref b6), .val (.ref b7), .unset, .unset, .unset, .unset, .unset] [(.ref b12), (.ref b12)])) _
    refine XS.aload X12.here hx rfl (hb hby at_69) rfl rfl ?_
    show Steps _ _ _ (T12.setTop (mkF m 71 #[.val (.int p1), .val (.int p2), .val (.int p3), .val (.int p4), .val (.int p5), .val (.int (p3 &&& (31 : Int32))), .val (.int (p4 &&& (31 : Int32))), .val (.int (p5 &&& (31 : Int32))), .val (.ref b6), .val (.ref b7), .unset, .unset, .unset, .unset, .unset] [(.ref b6), (.ref b12), (.ref b12)])) _
    refine XS.aload X12.here hx rfl (hb hby at_71) rfl rfl ?_
    show Steps _ _ _ (T12.setTop (mkF m 73 #[.val (.int p1), .val (.int p2), .val (.int p3), .val (.int p4), .val (.int p5), .val (.int (p3 &&& (31 : Int32))), .val (.int (p4 &&& (31 : Int32))), .val (.int (p5 &&& (31 : Int32))), .val (.ref b6), .val (.ref b7), .unset, .unset, .unset, .unset, .unset] [(.ref b7), (.ref b6), (.ref b12), (.ref b12)])) _
    refine st13.trans ?_
    show Steps _ _ _ (T13.setTop (mkF m 76 #[.val (.int p1), .val (.int p2), .val (.int p3), .val (.int p4), .val (.int p5), .val (.int (p3 &&& (31 : Int32))), .val (.int (p4 &&& (31 : Int32))), .val (.int (p5 &&& (31 : Int32))), .val (.ref b6), .val (.ref b7), .unset, .unset, .unset, .unset, .unset] [(.ref b12)])) _
    refine XS.astore X13.here hx rfl (hb hby at_76) rfl rfl (l' := #[.val (.int p1), .val (.int p2), .val (.int p3), .val (.int p4), .val (.int p5), .val (.int (p3 &&& (31 : Int32))), .val (.int (p4 &&& (31 : Int32))), .val (.int (p5 &&& (31 : Int32))), .val (.ref b6), .val (.ref b7), .val (.ref b12), .unset, .unset, .unset, .unset]) rfl ?_
    show Steps _ _ _ (T13.setTop (mkF m 78 #[.val (.int p1), .val (.int p2), .val (.int p3), .val (.int p4), .val (.int p5), .val (.int (p3 &&& (31 : Int32))), .val (.int (p4 &&& (31 : Int32))), .val (.int (p5 &&& (31 : Int32))), .val (.ref b6), .val (.ref b7), .val (.ref b12), .unset, .unset, .unset, .unset] [])) _
    refine XS.aload X13.here hx rfl (hb hby at_78) rfl rfl ?_
    show Steps _ _ _ (T13.setTop (mkF m 80 #[.val (.int p1), .val (.int p2), .val (.int p3), .val (.int p4), .val (.int p5), .val (.int (p3 &&& (31 : Int32))), .val (.int (p4 &&& (31 : Int32))), .val (.int (p5 &&& (31 : Int32))), .val (.ref b6), .val (.ref b7), .val (.ref b12), .unset, .unset, .unset, .unset] [(.ref b12)])) _
    refine st14.trans ?_
    show Steps _ _ _ (T14.setTop (mkF m 83 #[.val (.int p1), .val (.int p2), .val (.int p3), .val (.int p4), .val (.int p5), .val (.int (p3 &&& (31 : Int32))), .val (.int (p4 &&& (31 : Int32))), .val (.int (p5 &&& (31 : Int32))), .val (.ref b6), .val (.ref b7), .val (.ref b12), .unset, .unset, .unset, .unset] [])) _
    refine XS.aload X14.here hx rfl (hb hby at_83) rfl rfl ?_
    show Steps _ _ _ (T14.setTop (mkF m 85 #[.val (.int p1), .val (.int p2), .val (.int p3), .val (.int p4), .val (.int p5), .val (.int (p3 &&& (31 : Int32))), .val (.int (p4 &&& (31 : Int32))), .val (.int (p5 &&& (31 : Int32))), .val (.ref b6), .val (.ref b7), .val (.ref b12), .unset, .unset, .unset, .unset] [(.ref b12)])) _
    refine st15.trans ?_
    show Steps _ _ _ (T15.setTop (mkF m 88 #[.val (.int p1), .val (.int p2), .val (.int p3), .val (.int p4), .val (.int p5), .val (.int (p3 &&& (31 : Int32))), .val (.int (p4 &&& (31 : Int32))), .val (.int (p5 &&& (31 : Int32))), .val (.ref b6), .val (.ref b7), .val (.ref b12), .unset, .unset, .unset, .unset] [(.ref r15)])) _
    refine XS.astore X15.here hx rfl (hb hby at_88) rfl rfl (l' := #[.val (.int p1), .val (.int p2), .val (.int p3), .val (.int p4), .val (.int p5), .val (.int (p3 &&& (31 : Int32))), .val (.int (p4 &&& (31 : Int32))), .val (.int (p5 &&& (31 : Int32))), .val (.ref b6), .val (.ref b7), .val (.ref b12), .val (.ref r15), .unset, .unset, .unset]) rfl ?_
    show Steps _ _ _ (T15.setTop (mkF m 90 #[.val (.int p1), .val (.int p2), .val (.int p3), .val (.int p4), .val (.int p5), .val (.int (p3 &&& (31 : Int32))), .val (.int (p4 &&& (31 : Int32))), .val (.int (p5 &&& (31 : Int32))), .val (.ref b6), .val (.ref b7), .val (.ref b12), .val (.ref r15), .unset, .unset, .unset] [])) _
    refine XS.aload X15.here hx rfl (hb hby at_90) rfl rfl ?_
    show Steps _ _ _ (T15.setTop (mkF m 92 #[.val (.int p1), .val (.int p2), .val (.int p3), .val (.int p4), .val (.int p5), .val (.int (p3 &&& (31 : Int32))), .val (.int (p4 &&& (31 : Int32))), .val (.int (p5 &&& (31 : Int32))), .val (.ref b6), .val (.ref b7), .val (.ref b12), .val (.ref r15), .unset, .unset, .unset] [(.ref b12)])) _
    refine st16.trans ?_
    show Steps _ _ _ (T16.setTop (mkF m 95 #[.val (.int p1), .val (.int p2), .val (.int p3), .val (.int p4), .val (.int p5), .val (.int (p3 &&& (31 : Int32))), .val (.int (p4 &&& (31 : Int32))), .val (.int (p5 &&& (31 : Int32))), .val (.ref b6), .val (.ref b7), .val (.ref b12), .val (.ref r15), .unset, .unset, .unset] [(.ref r16)])) _
    refine XS.astore X16.here hx rfl (hb hby at_95) rfl rfl (l' := #[.val (.int p1), .val (.int p2), .val (.int p3), .val (.int p4), .val (.int p5), .val (.int (p3 &&& (31 : Int32))), .val (.int (p4 &&& (31 : Int32))), .val (.int (p5 &&& (31 : Int32))), .val (.ref b6), .val (.ref b7), .val (.ref b12), .val (.ref r15), .val (.ref r16), .unset, .unset]) rfl ?_
    show Steps _ _ _ (T16.setTop (mkF m 97 #[.val (.int p1), .val (.int p2), .val (.int p3), .val (.int p4), .val (.int p5), .val (.int (p3 &&& (31 : Int32))), .val (.int (p4 &&& (31 : Int32))), .val (.int (p5 &&& (31 : Int32))), .val (.ref b6), .val (.ref b7), .val (.ref b12), .val (.ref r15), .val (.ref r16), .unset, .unset] [])) _
    refine XS.aload X16.here hx rfl (hb hby at_97) rfl rfl ?_
    show Steps _ _ _ (T16.setTop (mkF m 99 #[.val (.int p1), .val (.int p2), .val (.int p3), .val (.int p4), .val (.int p5), .val (.int (p3 &&& (31 : Int32))), .val (.int (p4 &&& (31 : Int32))), .val (.int (p5 &&& (31 : Int32))), .val (.ref b6), .val (.ref b7), .val (.ref b12), .val (.ref r15), .val (.ref r16), .unset, .unset] [(.ref r15)])) _
    refine X16.arraylength hx (by exact Ar_r15.1) (State.isArrayOf_alike hZ.alike Ar_r15.2.1) (g := (mkF m 99 #[.val (.int p1), .val (.int p2), .val (.int p3), .val (.int p4), .val (.int p5), .val (.int (p3 &&& (31 : Int32))), .val (.int (p4 &&& (31 : Int32))), .val (.int (p5 &&& (31 : Int32))), .val (.ref b6), .val (.ref b7), .val (.ref b12), .val (.ref r15), .val (.ref r16), .unset, .unset] [(.ref r15)])) rfl rfl (hb hby at_99) _ ?_
    rw [len_of S_r15 N_r15]
    show Steps _ _ _ (T16.setTop (mkF m 100 #[.val (.int p1), .val (.int p2), .val (.int p3), .val (.int p4), .val (.int p5), .val (.int (p3 &&& (31 : Int32))), .val (.int (p4 &&& (31 : Int32))), .val (.int (p5 &&& (31 : Int32))), .val (.ref b6), .val (.ref b7), .val (.ref b12), .val (.ref r15), .val (.ref r16), .unset, .unset] [(.int (32 : Int32))])) _
    refine XS.bipush X16.here hx rfl (hb hby at_100) ?_
    show Steps _ _ _ (T16.setTop (mkF m 102 #[.val (.int p1), .val (.int p2), .val (.int p3), .val (.int p4), .val (.int p5), .val (.int (p3 &&& (31 : Int32))), .val (.int (p4 &&& (31 : Int32))), .val (.int (p5 &&& (31 : Int32))), .val (.ref b6), .val (.ref b7), .val (.ref b12), .val (.ref r15), .val (.ref r16), .unset, .unset] [(.int (32 : Int32)), (.int (32 : Int32))])) _
    refine XS.icmpNo X16.here hx rfl (hb hby at_102) rfl (teq (rfl : (32 : Int32) = (32 : Int32))).2 ?_
    show Steps _ _ _ (T16.setTop (mkF m 105 #[.val (.int p1), .val (.int p2), .val (.int p3), .val (.int p4), .val (.int p5), .val (.int (p3 &&& (31 : Int32))), .val (.int (p4 &&& (31 : Int32))), .val (.int (p5 &&& (31 : Int32))), .val (.ref b6), .val (.ref b7), .val (.ref b12), .val (.ref r15), .val (.ref r16), .unset, .unset] [])) _
    refine XS.aload X16.here hx rfl (hb hby at_105) rfl rfl ?_
    show Steps _ _ _ (T16.setTop (mkF m 107 #[.val (.int p1), .val (.int p2), .val (.int p3), .val (.int p4), .val (.int p5), .val (.int (p3 &&& (31 : Int32))), .val (.int (p4 &&& (31 : Int32))), .val (.int (p5 &&& (31 : Int32))), .val (.ref b6), .val (.ref b7), .val (.ref b12), .val (.ref r15), .val (.ref r16), .unset, .unset] [(.ref r16)])) _
    refine X16.arraylength hx (by exact Ar_r16.1) (State.isArrayOf_alike hZ.alike Ar_r16.2.1) (g := (mkF m 107 #[.val (.int p1), .val (.int p2), .val (.int p3), .val (.int p4), .val (.int p5), .val (.int (p3 &&& (31 : Int32))), .val (.int (p4 &&& (31 : Int32))), .val (.int (p5 &&& (31 : Int32))), .val (.ref b6), .val (.ref b7), .val (.ref b12), .val (.ref r15), .val (.ref r16), .unset, .unset] [(.ref r16)])) rfl rfl (hb hby at_107) _ ?_
    rw [len_of S_r16 N_r16]
    show Steps _ _ _ (T16.setTop (mkF m 108 #[.val (.int p1), .val (.int p2), .val (.int p3), .val (.int p4), .val (.int p5), .val (.int (p3 &&& (31 : Int32))), .val (.int (p4 &&& (31 : Int32))), .val (.int (p5 &&& (31 : Int32))), .val (.ref b6), .val (.ref b7), .val (.ref b12), .val (.ref r15), .val (.ref r16), .unset, .unset] [(.int (32 : Int32))])) _
    refine XS.bipush X16.here hx rfl (hb hby at_108) ?_
    show Steps _ _ _ (T16.setTop (mkF m 110 #[.val (.int p1), .val (.int p2), .val (.int p3), .val (.int p4), .val (.int p5), .val (.int (p3 &&& (31 : Int32))), .val (.int (p4 &&& (31 : Int32))), .val (.int (p5 &&& (31 : Int32))), .val (.ref b6), .val (.ref b7), .val (.ref b12), .val (.ref r15), .val (.ref r16), .unset, .unset] [(.int (32 : Int32)), (.int (32 : Int32))])) _
    refine XS.icmpYes X16.here hx rfl (pc0 := 110) (pc' := 115) rfl (hb hby at_110) rfl (teq (rfl : (32 : Int32) = (32 : Int32))).1 (by decide) (by decide) ?_
    show Steps _ _ _ (T16.setTop (mkF m 115 #[.val (.int p1), .val (.int p2), .val (.int p3), .val (.int p4), .val (.int p5), .val (.int (p3 &&& (31 : Int32))), .val (.int (p4 &&& (31 : Int32))), .val (.int (p5 &&& (31 : Int32))), .val (.ref b6), .val (.ref b7), .val (.ref b12), .val (.ref r15), .val (.ref r16), .unset, .unset] [])) _
    refine XS.aload X16.here hx rfl (hb hby at_115) rfl rfl ?_
    show Steps _ _ _ (T16.setTop (mkF m 117 #[.val (.int p1), .val (.int p2), .val (.int p3), .val (.int p4), .val (.int p5), .val (.int (p3 &&& (31 : Int32))), .val (.int (p4 &&& (31 : Int32))), .val (.int (p5 &&& (31 : Int32))), .val (.ref b6), .val (.ref b7), .val (.ref b12), .val (.ref r15), .val (.ref r16), .unset, .unset] [(.ref r15)])) _
    refine XS.iload X16.here hx rfl (hb hby at_117) rfl ?_
    show Steps _ _ _ (T16.setTop (mkF m 119 #[.val (.int p1), .val (.int p2), .val (.int p3), .val (.int p4), .val (.int p5), .val (.int (p3 &&& (31 : Int32))), .val (.int (p4 &&& (31 : Int32))), .val (.int (p5 &&& (31 : Int32))), .val (.ref b6), .val (.ref b7), .val (.ref b12), .val (.ref r15), .val (.ref r16), .unset, .unset] [(.int (p3 &&& (31 : Int32))), (.ref r15)])) _
    refine X16.baloadBytes hx (j := (p3 &&& (31 : Int32))) (v := (.int (0 : Int32))) (by exact Ar_119.1) (State.isArrayOf_alike hZ.alike Ar_119.2.1) Ar_119.2.2 hin119 hat119 (g := (mkF m 119 #[.val (.int p1), .val (.int p2), .val (.int p3), .val (.int p4), .val (.int p5), .val (.int (p3 &&& (31 : Int32))), .val (.int (p4 &&& (31 : Int32))), .val (.int (p5 &&& (31 : Int32))), .val (.ref b6), .val (.ref b7), .val (.ref b12), .val (.ref r15), .val (.ref r16), .unset, .unset] [(.int (p3 &&& (31 : Int32))), (.ref r15)])) rfl rfl (hb hby at_119) _ ?_
    show Steps _ _ _ (T16.setTop (mkF m 120 #[.val (.int p1), .val (.int p2), .val (.int p3), .val (.int p4), .val (.int p5), .val (.int (p3 &&& (31 : Int32))), .val (.int (p4 &&& (31 : Int32))), .val (.int (p5 &&& (31 : Int32))), .val (.ref b6), .val (.ref b7), .val (.ref b12), .val (.ref r15), .val (.ref r16), .unset, .unset] [(.int (0 : Int32))])) _
    refine XS.ifNo X16.here hx rfl (hb hby at_120) rfl ((if0 _ _).trans (teq (rfl : (0 : Int32) = (0 : Int32))).2) ?_
    show Steps _ _ _ (T16.setTop (mkF m 123 #[.val (.int p1), .val (.int p2), .val (.int p3), .val (.int p4), .val (.int p5), .val (.int (p3 &&& (31 : Int32))), .val (.int (p4 &&& (31 : Int32))), .val (.int (p5 &&& (31 : Int32))), .val (.ref b6), .val (.ref b7), .val (.ref b12), .val (.ref r15), .val (.ref r16), .unset, .unset] [])) _
    refine XS.aload X16.here hx rfl (hb hby at_123) rfl rfl ?_
    show Steps _ _ _ (T16.setTop (mkF m 125 #[.val (.int p1), .val (.int p2), .val (.int p3), .val (.int p4), .val (.int p5), .val (.int (p3 &&& (31 : Int32))), .val (.int (p4 &&& (31 : Int32))), .val (.int (p5 &&& (31 : Int32))), .val (.ref b6), .val (.ref b7), .val (.ref b12), .val (.ref r15), .val (.ref r16), .unset, .unset] [(.ref r15)])) _
    refine XS.iload X16.here hx rfl (hb hby at_125) rfl ?_
    show Steps _ _ _ (T16.setTop (mkF m 127 #[.val (.int p1), .val (.int p2), .val (.int p3), .val (.int p4), .val (.int p5), .val (.int (p3 &&& (31 : Int32))), .val (.int (p4 &&& (31 : Int32))), .val (.int (p5 &&& (31 : Int32))), .val (.ref b6), .val (.ref b7), .val (.ref b12), .val (.ref r15), .val (.ref r16), .unset, .unset] [(.int (p4 &&& (31 : Int32))), (.ref r15)])) _
    refine X16.baloadBytes hx (j := (p4 &&& (31 : Int32))) (v := (.int (0 : Int32))) (by exact Ar_127.1) (State.isArrayOf_alike hZ.alike Ar_127.2.1) Ar_127.2.2 hin127 hat127 (g := (mkF m 127 #[.val (.int p1), .val (.int p2), .val (.int p3), .val (.int p4), .val (.int p5), .val (.int (p3 &&& (31 : Int32))), .val (.int (p4 &&& (31 : Int32))), .val (.int (p5 &&& (31 : Int32))), .val (.ref b6), .val (.ref b7), .val (.ref b12), .val (.ref r15), .val (.ref r16), .unset, .unset] [(.int (p4 &&& (31 : Int32))), (.ref r15)])) rfl rfl (hb hby at_127) _ ?_
    show Steps _ _ _ (T16.setTop (mkF m 128 #[.val (.int p1), .val (.int p2), .val (.int p3), .val (.int p4), .val (.int p5), .val (.int (p3 &&& (31 : Int32))), .val (.int (p4 &&& (31 : Int32))), .val (.int (p5 &&& (31 : Int32))), .val (.ref b6), .val (.ref b7), .val (.ref b12), .val (.ref r15), .val (.ref r16), .unset, .unset] [(.int (0 : Int32))])) _
    refine XS.ifNo X16.here hx rfl (hb hby at_128) rfl ((if0 _ _).trans (teq (rfl : (0 : Int32) = (0 : Int32))).2) ?_
    show Steps _ _ _ (T16.setTop (mkF m 131 #[.val (.int p1), .val (.int p2), .val (.int p3), .val (.int p4), .val (.int p5), .val (.int (p3 &&& (31 : Int32))), .val (.int (p4 &&& (31 : Int32))), .val (.int (p5 &&& (31 : Int32))), .val (.ref b6), .val (.ref b7), .val (.ref b12), .val (.ref r15), .val (.ref r16), .unset, .unset] [])) _
    refine XS.aload X16.here hx rfl (hb hby at_131) rfl rfl ?_
    show Steps _ _ _ (T16.setTop (mkF m 133 #[.val (.int p1), .val (.int p2), .val (.int p3), .val (.int p4), .val (.int p5), .val (.int (p3 &&& (31 : Int32))), .val (.int (p4 &&& (31 : Int32))), .val (.int (p5 &&& (31 : Int32))), .val (.ref b6), .val (.ref b7), .val (.ref b12), .val (.ref r15), .val (.ref r16), .unset, .unset] [(.ref r15)])) _
    refine XS.iload X16.here hx rfl (hb hby at_133) rfl ?_
    show Steps _ _ _ (T16.setTop (mkF m 135 #[.val (.int p1), .val (.int p2), .val (.int p3), .val (.int p4), .val (.int p5), .val (.int (p3 &&& (31 : Int32))), .val (.int (p4 &&& (31 : Int32))), .val (.int (p5 &&& (31 : Int32))), .val (.ref b6), .val (.ref b7), .val (.ref b12), .val (.ref r15), .val (.ref r16), .unset, .unset] [(.int (p5 &&& (31 : Int32))), (.ref r15)])) _
    refine X16.baloadBytes hx (j := (p5 &&& (31 : Int32))) (v := (.int (0 : Int32))) (by exact Ar_135.1) (State.isArrayOf_alike hZ.alike Ar_135.2.1) Ar_135.2.2 hin135 hat135 (g := (mkF m 135 #[.val (.int p1), .val (.int p2), .val (.int p3), .val (.int p4), .val (.int p5), .val (.int (p3 &&& (31 : Int32))), .val (.int (p4 &&& (31 : Int32))), .val (.int (p5 &&& (31 : Int32))), .val (.ref b6), .val (.ref b7), .val (.ref b12), .val (.ref r15), .val (.ref r16), .unset, .unset] [(.int (p5 &&& (31 : Int32))), (.ref r15)])) rfl rfl (hb hby at_135) _ ?_
    show Steps _ _ _ (T16.setTop (mkF m 136 #[.val (.int p1), .val (.int p2), .val (.int p3), .val (.int p4), .val (.int p5), .val (.int (p3 &&& (31 : Int32))), .val (.int (p4 &&& (31 : Int32))), .val (.int (p5 &&& (31 : Int32))), .val (.ref b6), .val (.ref b7), .val (.ref b12), .val (.ref r15), .val (.ref r16), .unset, .unset] [(.int (0 : Int32))])) _
    refine XS.ifNo X16.here hx rfl (hb hby at_136) rfl ((if0 _ _).trans (teq (rfl : (0 : Int32) = (0 : Int32))).2) ?_
    show Steps _ _ _ (T16.setTop (mkF m 139 #[.val (.int p1), .val (.int p2), .val (.int p3), .val (.int p4), .val (.int p5), .val (.int (p3 &&& (31 : Int32))), .val (.int (p4 &&& (31 : Int32))), .val (.int (p5 &&& (31 : Int32))), .val (.ref b6), .val (.ref b7), .val (.ref b12), .val (.ref r15), .val (.ref r16), .unset, .unset] [])) _
    refine XS.aload X16.here hx rfl (hb hby at_139) rfl rfl ?_
    show Steps _ _ _ (T16.setTop (mkF m 141 #[.val (.int p1), .val (.int p2), .val (.int p3), .val (.int p4), .val (.int p5), .val (.int (p3 &&& (31 : Int32))), .val (.int (p4 &&& (31 : Int32))), .val (.int (p5 &&& (31 : Int32))), .val (.ref b6), .val (.ref b7), .val (.ref b12), .val (.ref r15), .val (.ref r16), .unset, .unset] [(.ref r16)])) _
    refine XS.iload X16.here hx rfl (hb hby at_141) rfl ?_
    show Steps _ _ _ (T16.setTop (mkF m 143 #[.val (.int p1), .val (.int p2), .val (.int p3), .val (.int p4), .val (.int p5), .val (.int (p3 &&& (31 : Int32))), .val (.int (p4 &&& (31 : Int32))), .val (.int (p5 &&& (31 : Int32))), .val (.ref b6), .val (.ref b7), .val (.ref b12), .val (.ref r15), .val (.ref r16), .unset, .unset] [(.int (p3 &&& (31 : Int32))), (.ref r16)])) _
    refine X16.baloadBytes hx (j := (p3 &&& (31 : Int32))) (v := (.int (0 : Int32))) (by exact Ar_143.1) (State.isArrayOf_alike hZ.alike Ar_143.2.1) Ar_143.2.2 hin143 hat143 (g := (mkF m 143 #[.val (.int p1), .val (.int p2), .val (.int p3), .val (.int p4), .val (.int p5), .val (.int (p3 &&& (31 : Int32))), .val (.int (p4 &&& (31 : Int32))), .val (.int (p5 &&& (31 : Int32))), .val (.ref b6), .val (.ref b7), .val (.ref b12), .val (.ref r15), .val (.ref r16), .unset, .unset] [(.int (p3 &&& (31 : Int32))), (.ref r16)])) rfl rfl (hb hby at_143) _ ?_
    show Steps _ _ _ (T16.setTop (mkF m 144 #[.val (.int p1), .val (.int p2), .val (.int p3), .val (.int p4), .val (.int p5), .val (.int (p3 &&& (31 : Int32))), .val (.int (p4 &&& (31 : Int32))), .val (.int (p5 &&& (31 : Int32))), .val (.ref b6), .val (.ref b7), .val (.ref b12), .val (.ref r15), .val (.ref r16), .unset, .unset] [(.int (0 : Int32))])) _
    refine XS.ifNo X16.here hx rfl (hb hby at_144) rfl ((if0 _ _).trans (teq (rfl : (0 : Int32) = (0 : Int32))).2) ?_
    show Steps _ _ _ (T16.setTop (mkF m 147 #[.val (.int p1), .val (.int p2), .val (.int p3), .val (.int p4), .val (.int p5), .val (.int (p3 &&& (31 : Int32))), .val (.int (p4 &&& (31 : Int32))), .val (.int (p5 &&& (31 : Int32))), .val (.ref b6), .val (.ref b7), .val (.ref b12), .val (.ref r15), .val (.ref r16), .unset, .unset] [])) _
    refine XS.aload X16.here hx rfl (hb hby at_147) rfl rfl ?_
    show Steps _ _ _ (T16.setTop (mkF m 149 #[.val (.int p1), .val (.int p2), .val (.int p3), .val (.int p4), .val (.int p5), .val (.int (p3 &&& (31 : Int32))), .val (.int (p4 &&& (31 : Int32))), .val (.int (p5 &&& (31 : Int32))), .val (.ref b6), .val (.ref b7), .val (.ref b12), .val (.ref r15), .val (.ref r16), .unset, .unset] [(.ref r16)])) _
    refine XS.iload X16.here hx rfl (hb hby at_149) rfl ?_
    show Steps _ _ _ (T16.setTop (mkF m 151 #[.val (.int p1), .val (.int p2), .val (.int p3), .val (.int p4), .val (.int p5), .val (.int (p3 &&& (31 : Int32))), .val (.int (p4 &&& (31 : Int32))), .val (.int (p5 &&& (31 : Int32))), .val (.ref b6), .val (.ref b7), .val (.ref b12), .val (.ref r15), .val (.ref r16), .unset, .unset] [(.int (p4 &&& (31 : Int32))), (.ref r16)])) _
    refine X16.baloadBytes hx (j := (p4 &&& (31 : Int32))) (v := (.int (0 : Int32))) (by exact Ar_151.1) (State.isArrayOf_alike hZ.alike Ar_151.2.1) Ar_151.2.2 hin151 hat151 (g := (mkF m 151 #[.val (.int p1), .val (.int p2), .val (.int p3), .val (.int p4), .val (.int p5), .val (.int (p3 &&& (31 : Int32))), .val (.int (p4 &&& (31 : Int32))), .val (.int (p5 &&& (31 : Int32))), .val (.ref b6), .val (.ref b7), .val (.ref b12), .val (.ref r15), .val (.ref r16), .unset, .unset] [(.int (p4 &&& (31 : Int32))), (.ref r16)])) rfl rfl (hb hby at_151) _ ?_
    show Steps _ _ _ (T16.setTop (mkF m 152 #[.val (.int p1), .val (.int p2), .val (.int p3), .val (.int p4), .val (.int p5), .val (.int (p3 &&& (31 : Int32))), .val (.int (p4 &&& (31 : Int32))), .val (.int (p5 &&& (31 : Int32))), .val (.ref b6), .val (.ref b7), .val (.ref b12), .val (.ref r15), .val (.ref r16), .unset, .unset] [(.int (0 : Int32))])) _
    refine XS.ifNo X16.here hx rfl (hb hby at_152) rfl ((if0 _ _).trans (teq (rfl : (0 : Int32) = (0 : Int32))).2) ?_
    show Steps _ _ _ (T16.setTop (mkF m 155 #[.val (.int p1), .val (.int p2), .val (.int p3), .val (.int p4), .val (.int p5), .val (.int (p3 &&& (31 : Int32))), .val (.int (p4 &&& (31 : Int32))), .val (.int (p5 &&& (31 : Int32))), .val (.ref b6), .val (.ref b7), .val (.ref b12), .val (.ref r15), .val (.ref r16), .unset, .unset] [])) _
    refine XS.aload X16.here hx rfl (hb hby at_155) rfl rfl ?_
    show Steps _ _ _ (T16.setTop (mkF m 157 #[.val (.int p1), .val (.int p2), .val (.int p3), .val (.int p4), .val (.int p5), .val (.int (p3 &&& (31 : Int32))), .val (.int (p4 &&& (31 : Int32))), .val (.int (p5 &&& (31 : Int32))), .val (.ref b6), .val (.ref b7), .val (.ref b12), .val (.ref r15), .val (.ref r16), .unset, .unset] [(.ref r16)])) _
    refine XS.iload X16.here hx rfl (hb hby at_157) rfl ?_
    show Steps _ _ _ (T16.setTop (mkF m 159 #[.val (.int p1), .val (.int p2), .val (.int p3), .val (.int p4), .val (.int p5), .val (.int (p3 &&& (31 : Int32))), .val (.int (p4 &&& (31 : Int32))), .val (.int (p5 &&& (31 : Int32))), .val (.ref b6), .val (.ref b7), .val (.ref b12), .val (.ref r15), .val (.ref r16), .unset, .unset] [(.int (p5 &&& (31 : Int32))), (.ref r16)])) _
    refine X16.baloadBytes hx (j := (p5 &&& (31 : Int32))) (v := (.int (0 : Int32))) (by exact Ar_159.1) (State.isArrayOf_alike hZ.alike Ar_159.2.1) Ar_159.2.2 hin159 hat159 (g := (mkF m 159 #[.val (.int p1), .val (.int p2), .val (.int p3), .val (.int p4), .val (.int p5), .val (.int (p3 &&& (31 : Int32))), .val (.int (p4 &&& (31 : Int32))), .val (.int (p5 &&& (31 : Int32))), .val (.ref b6), .val (.ref b7), .val (.ref b12), .val (.ref r15), .val (.ref r16), .unset, .unset] [(.int (p5 &&& (31 : Int32))), (.ref r16)])) rfl rfl (hb hby at_159) _ ?_
    show Steps _ _ _ (T16.setTop (mkF m 160 #[.val (.int p1), .val (.int p2), .val (.int p3), .val (.int p4), .val (.int p5), .val (.int (p3 &&& (31 : Int32))), .val (.int (p4 &&& (31 : Int32))), .val (.int (p5 &&& (31 : Int32))), .val (.ref b6), .val (.ref b7), .val (.ref b12), .val (.ref r15), .val (.ref r16), .unset, .unset] [(.int (0 : Int32))])) _
    refine XS.ifNo X16.here hx rfl (hb hby at_160) rfl ((if0 _ _).trans (teq (rfl : (0 : Int32) = (0 : Int32))).2) ?_
    show Steps _ _ _ (T16.setTop (mkF m 163 #[.val (.int p1), .val (.int p2), .val (.int p3), .val (.int p4), .val (.int p5), .val (.int (p3 &&& (31 : Int32))), .val (.int (p4 &&& (31 : Int32))), .val (.int (p5 &&& (31 : Int32))), .val (.ref b6), .val (.ref b7), .val (.ref b12), .val (.ref r15), .val (.ref r16), .unset, .unset] [])) _
    refine XS.iconst X16.here hx rfl (hb hby at_163) ?_
    show Steps _ _ _ (T16.setTop (mkF m 164 #[.val (.int p1), .val (.int p2), .val (.int p3), .val (.int p4), .val (.int p5), .val (.int (p3 &&& (31 : Int32))), .val (.int (p4 &&& (31 : Int32))), .val (.int (p5 &&& (31 : Int32))), .val (.ref b6), .val (.ref b7), .val (.ref b12), .val (.ref r15), .val (.ref r16), .unset, .unset] [(.int (1 : Int32))])) _
    refine XS.goto X16.here hx rfl (pc0 := 164) (pc' := 168) rfl (hb hby at_164) (by decide) (by decide) ?_
    show Steps _ _ _ (T16.setTop (mkF m 168 #[.val (.int p1), .val (.int p2), .val (.int p3), .val (.int p4), .val (.int p5), .val (.int (p3 &&& (31 : Int32))), .val (.int (p4 &&& (31 : Int32))), .val (.int (p5 &&& (31 : Int32))), .val (.ref b6), .val (.ref b7), .val (.ref b12), .val (.ref r15), .val (.ref r16), .unset, .unset] [(.int (1 : Int32))])) _
    refine XS.istore X16.here hx rfl (hb hby at_168) rfl (l' := #[.val (.int p1), .val (.int p2), .val (.int p3), .val (.int p4), .val (.int p5), .val (.int (p3 &&& (31 : Int32))), .val (.int (p4 &&& (31 : Int32))), .val (.int (p5 &&& (31 : Int32))), .val (.ref b6), .val (.ref b7), .val (.ref b12), .val (.ref r15), .val (.ref r16), .val (.int (1 : Int32)), .unset]) rfl ?_
    show Steps _ _ _ (T16.setTop (mkF m 170 #[.val (.int p1), .val (.int p2), .val (.int p3), .val (.int p4), .val (.int p5), .val (.int (p3 &&& (31 : Int32))), .val (.int (p4 &&& (31 : Int32))), .val (.int (p5 &&& (31 : Int32))), .val (.ref b6), .val (.ref b7), .val (.ref b12), .val (.ref r15), .val (.ref r16), .val (.int (1 : Int32)), .unset] [])) _
    refine XS.aload X16.here hx rfl (hb hby at_170) rfl rfl ?_
    show Steps _ _ _ (T16.setTop (mkF m 172 #[.val (.int p1), .val (.int p2), .val (.int p3), .val (.int p4), .val (.int p5), .val (.int (p3 &&& (31 : Int32))), .val (.int (p4 &&& (31 : Int32))), .val (.int (p5 &&& (31 : Int32))), .val (.ref b6), .val (.ref b7), .val (.ref b12), .val (.ref r15), .val (.ref r16), .val (.int (1 : Int32)), .unset] [(.ref b6)])) _
    refine XS.iload X16.here hx rfl (hb hby at_172) rfl ?_
    show Steps _ _ _ (T16.setTop (mkF m 174 #[.val (.int p1), .val (.int p2), .val (.int p3), .val (.int p4), .val (.int p5), .val (.int (p3 &&& (31 : Int32))), .val (.int (p4 &&& (31 : Int32))), .val (.int (p5 &&& (31 : Int32))), .val (.ref b6), .val (.ref b7), .val (.ref b12), .val (.ref r15), .val (.ref r16), .val (.int (1 : Int32)), .unset] [(.int (p5 &&& (31 : Int32))), (.ref b6)])) _
    refine X16.baloadBytes hx (j := (p5 &&& (31 : Int32))) (v := (.int (nar .byte (((p1.toUInt32 >>> ((8 : Int32) &&& 31).toUInt32).toInt32).toInt8.toInt32)))) (by exact Ar_174.1) (State.isArrayOf_alike hZ.alike Ar_174.2.1) Ar_174.2.2 hin174 hat174 (g := (mkF m 174 #[.val (.int p1), .val (.int p2), .val (.int p3), .val (.int p4), .val (.int p5), .val (.int (p3 &&& (31 : Int32))), .val (.int (p4 &&& (31 : Int32))), .val (.int (p5 &&& (31 : Int32))), .val (.ref b6), .val (.ref b7), .val (.ref b12), .val (.ref r15), .val (.ref r16), .val (.int (1 : Int32)), .unset] [(.int (p5 &&& (31 : Int32))), (.ref b6)])) rfl rfl (hb hby at_174) _ ?_
    show Steps _ _ _ (T16.setTop (mkF m 175 #[.val (.int p1), .val (.int p2), .val (.int p3), .val (.int p4), .val (.int p5), .val (.int (p3 &&& (31 : Int32))), .val (.int (p4 &&& (31 : Int32))), .val (.int (p5 &&& (31 : Int32))), .val (.ref b6), .val (.ref b7), .val (.ref b12), .val (.ref r15), .val (.ref r16), .val (.int (1 : Int32)), .unset] [(.int (nar .byte (((p1.toUInt32 >>> ((8 : Int32) &&& 31).toUInt32).toInt32).toInt8.toInt32)))])) _
    refine XS.iloadN X16.here hx rfl (hb hby at_175) rfl ?_
    show Steps _ _ _ (T16.setTop (mkF m 176 #[.val (.int p1), .val (.int p2), .val (.int p3), .val (.int p4), .val (.int p5), .val (.int (p3 &&& (31 : Int32))), .val (.int (p4 &&& (31 : Int32))), .val (.int (p5 &&& (31 : Int32))), .val (.ref b6), .val (.ref b7), .val (.ref b12), .val (.ref r15), .val (.ref r16), .val (.int (1 : Int32)), .unset] [(.int p1), (.int (nar .byte (((p1.toUInt32 >>> ((8 : Int32) &&& 31).toUInt32).toInt32).toInt8.toInt32)))])) _
    refine XS.bipush X16.here hx rfl (hb hby at_176) ?_
    show Steps _ _ _ (T16.setTop (mkF m 178 #[.val (.int p1), .val (.int p2), .val (.int p3), .val (.int p4), .val (.int p5), .val (.int (p3 &&& (31 : Int32))), .val (.int (p4 &&& (31 : Int32))), .val (.int (p5 &&& (31 : Int32))), .val (.ref b6), .val (.ref b7), .val (.ref b12), .val (.ref r15), .val (.ref r16), .val (.int (1 : Int32)), .unset] [(.int (8 : Int32)), (.int p1), (.int (nar .byte (((p1.toUInt32 >>> ((8 : Int32) &&& 31).toUInt32).toInt32).toInt8.toInt32)))])) _
    refine XS.iushr X16.here hx rfl (hb hby at_178) rfl ?_
    show Steps _ _ _ (T16.setTop (mkF m 179 #[.val (.int p1), .val (.int p2), .val (.int p3), .val (.int p4), .val (.int p5), .val (.int (p3 &&& (31 : Int32))), .val (.int (p4 &&& (31 : Int32))), .val (.int (p5 &&& (31 : Int32))), .val (.ref b6), .val (.ref b7), .val (.ref b12), .val (.ref r15), .val (.ref r16), .val (.int (1 : Int32)), .unset] [(.int ((p1.toUInt32 >>> ((8 : Int32) &&& 31).toUInt32).toInt32)), (.int (nar .byte (((p1.toUInt32 >>> ((8 : Int32) &&& 31).toUInt32).toInt32).toInt8.toInt32)))])) _
    refine XS.i2b X16.here hx rfl (hb hby at_179) rfl ?_
    show Steps _ _ _ (T16.setTop (mkF m 180 #[.val (.int p1), .val (.int p2), .val (.int p3), .val (.int p4), .val (.int p5), .val (.int (p3 &&& (31 : Int32))), .val (.int (p4 &&& (31 : Int32))), .val (.int (p5 &&& (31 : Int32))), .val (.ref b6), .val (.ref b7), .val (.ref b12), .val (.ref r15), .val (.ref r16), .val (.int (1 : Int32)), .unset] [(.int (((p1.toUInt32 >>> ((8 : Int32) &&& 31).toUInt32).toInt32).toInt8.toInt32)), (.int (nar .byte (((p1.toUInt32 >>> ((8 : Int32) &&& 31).toUInt32).toInt32).toInt8.toInt32)))])) _
    refine XS.icmpNo X16.here hx rfl (hb hby at_180) rfl (teq hc180).2 ?_
    show Steps _ _ _ (T16.setTop (mkF m 183 #[.val (.int p1), .val (.int p2), .val (.int p3), .val (.int p4), .val (.int p5), .val (.int (p3 &&& (31 : Int32))), .val (.int (p4 &&& (31 : Int32))), .val (.int (p5 &&& (31 : Int32))), .val (.ref b6), .val (.ref b7), .val (.ref b12), .val (.ref r15), .val (.ref r16), .val (.int (1 : Int32)), .unset] [])) _
    refine XS.aload X16.here hx rfl (hb hby at_183) rfl rfl ?_
    show Steps _ _ _ (T16.setTop (mkF m 185 #[.val (.int p1), .val (.int p2), .val (.int p3), .val (.int p4), .val (.int p5), .val (.int (p3 &&& (31 : Int32))), .val (.int (p4 &&& (31 : Int32))), .val (.int (p5 &&& (31 : Int32))), .val (.ref b6), .val (.ref b7), .val (.ref b12), .val (.ref r15), .val (.ref r16), .val (.int (1 : Int32)), .unset] [(.ref b7)])) _
    refine XS.iload X16.here hx rfl (hb hby at_185) rfl ?_
    show Steps _ _ _ (T16.setTop (mkF m 187 #[.val (.int p1), .val (.int p2), .val (.int p3), .val (.int p4), .val (.int p5), .val (.int (p3 &&& (31 : Int32))), .val (.int (p4 &&& (31 : Int32))), .val (.int (p5 &&& (31 : Int32))), .val (.ref b6), .val (.ref b7), .val (.ref b12), .val (.ref r15), .val (.ref r16), .val (.int (1 : Int32)), .unset] [(.int (p5 &&& (31 : Int32))), (.ref b7)])) _
    refine X16.baloadBytes hx (j := (p5 &&& (31 : Int32))) (v := (.int (nar .byte (((p2.toUInt32 >>> ((8 : Int32) &&& 31).toUInt32).toInt32).toInt8.toInt32)))) (by exact Ar_187.1) (State.isArrayOf_alike hZ.alike Ar_187.2.1) Ar_187.2.2 hin187 hat187 (g := (mkF m 187 #[.val (.int p1), .val (.int p2), .val (.int p3), .val (.int p4), .val (.int p5), .val (.int (p3 &&& (31 : Int32))), .val (.int (p4 &&& (31 : Int32))), .val (.int (p5 &&& (31 : Int32))), .val (.ref b6), .val (.ref b7), .val (.ref b12), .val (.ref r15), .val (.ref r16), .val (.int (1 : Int32)), .unset] [(.int (p5 &&& (31 : Int32))), (.ref b7)])) rfl rfl (hb hby at_187) _ ?_
    show Steps _ _ _ (T16.setTop (mkF m 188 #[.val (.int p1), .val (.int p2), .val (.int p3), .val (.int p4), .val (.int p5), .val (.int (p3 &&& (31 : Int32))), .val (.int (p4 &&& (31 : Int32))), .val (.int (p5 &&& (31 : Int32))), .val (.ref b6), .val (.ref b7), .val (.ref b12), .val (.ref r15), .val (.ref r16), .val (.int (1 : Int32)), .unset] [(.int (nar .byte (((p2.toUInt32 >>> ((8 : Int32) &&& 31).toUInt32).toInt32).toInt8.toInt32)))])) _
    refine XS.iloadN X16.here hx rfl (hb hby at_188) rfl ?_
    show Steps _ _ _ (T16.setTop (mkF m 189 #[.val (.int p1), .val (.int p2), .val (.int p3), .val (.int p4), .val (.int p5), .val (.int (p3 &&& (31 : Int32))), .val (.int (p4 &&& (31 : Int32))), .val (.int (p5 &&& (31 : Int32))), .val (.ref b6), .val (.ref b7), .val (.ref b12), .val (.ref r15), .val (.ref r16), .val (.int (1 : Int32)), .unset] [(.int p2), (.int (nar .byte (((p2.toUInt32 >>> ((8 : Int32) &&& 31).toUInt32).toInt32).toInt8.toInt32)))])) _
    refine XS.bipush X16.here hx rfl (hb hby at_189) ?_
    show Steps _ _ _ (T16.setTop (mkF m 191 #[.val (.int p1), .val (.int p2), .val (.int p3), .val (.int p4), .val (.int p5), .val (.int (p3 &&& (31 : Int32))), .val (.int (p4 &&& (31 : Int32))), .val (.int (p5 &&& (31 : Int32))), .val (.ref b6), .val (.ref b7), .val (.ref b12), .val (.ref r15), .val (.ref r16), .val (.int (1 : Int32)), .unset] [(.int (8 : Int32)), (.int p2), (.int (nar .byte (((p2.toUInt32 >>> ((8 : Int32) &&& 31).toUInt32).toInt32).toInt8.toInt32)))])) _
    refine XS.iushr X16.here hx rfl (hb hby at_191) rfl ?_
    show Steps _ _ _ (T16.setTop (mkF m 192 #[.val (.int p1), .val (.int p2), .val (.int p3), .val (.int p4), .val (.int p5), .val (.int (p3 &&& (31 : Int32))), .val (.int (p4 &&& (31 : Int32))), .val (.int (p5 &&& (31 : Int32))), .val (.ref b6), .val (.ref b7), .val (.ref b12), .val (.ref r15), .val (.ref r16), .val (.int (1 : Int32)), .unset] [(.int ((p2.toUInt32 >>> ((8 : Int32) &&& 31).toUInt32).toInt32)), (.int (nar .byte (((p2.toUInt32 >>> ((8 : Int32) &&& 31).toUInt32).toInt32).toInt8.toInt32)))])) _
    refine XS.i2b X16.here hx rfl (hb hby at_192) rfl ?_
    show Steps _ _ _ (T16.setTop (mkF m 193 #[.val (.int p1), .val (.int p2), .val (.int p3), .val (.int p4), .val (.int p5), .val (.int (p3 &&& (31 : Int32))), .val (.int (p4 &&& (31 : Int32))), .val (.int (p5 &&& (31 : Int32))), .val (.ref b6), .val (.ref b7), .val (.ref b12), .val (.ref r15), .val (.ref r16), .val (.int (1 : Int32)), .unset] [(.int (((p2.toUInt32 >>> ((8 : Int32) &&& 31).toUInt32).toInt32).toInt8.toInt32)), (.int (nar .byte (((p2.toUInt32 >>> ((8 : Int32) &&& 31).toUInt32).toInt32).toInt8.toInt32)))])) _
    refine XS.icmpNo X16.here hx rfl (hb hby at_193) rfl (teq hc193).2 ?_
    show Steps _ _ _ (T16.setTop (mkF m 196 #[.val (.int p1), .val (.int p2), .val (.int p3), .val (.int p4), .val (.int p5), .val (.int (p3 &&& (31 : Int32))), .val (.int (p4 &&& (31 : Int32))), .val (.int (p5 &&& (31 : Int32))), .val (.ref b6), .val (.ref b7), .val (.ref b12), .val (.ref r15), .val (.ref r16), .val (.int (1 : Int32)), .unset] [])) _
    refine XS.iconst X16.here hx rfl (hb hby at_196) ?_
    show Steps _ _ _ (T16.setTop (mkF m 197 #[.val (.int p1), .val (.int p2), .val (.int p3), .val (.int p4), .val (.int p5), .val (.int (p3 &&& (31 : Int32))), .val (.int (p4 &&& (31 : Int32))), .val (.int (p5 &&& (31 : Int32))), .val (.ref b6), .val (.ref b7), .val (.ref b12), .val (.ref r15), .val (.ref r16), .val (.int (1 : Int32)), .unset] [(.int (1 : Int32))])) _
    refine XS.goto X16.here hx rfl (pc0 := 197) (pc' := 201) rfl (hb hby at_197) (by decide) (by decide) ?_
    show Steps _ _ _ (T16.setTop (mkF m 201 #[.val (.int p1), .val (.int p2), .val (.int p3), .val (.int p4), .val (.int p5), .val (.int (p3 &&& (31 : Int32))), .val (.int (p4 &&& (31 : Int32))), .val (.int (p5 &&& (31 : Int32))), .val (.ref b6), .val (.ref b7), .val (.ref b12), .val (.ref r15), .val (.ref r16), .val (.int (1 : Int32)), .unset] [(.int (1 : Int32))])) _
    refine XS.istore X16.here hx rfl (hb hby at_201) rfl (l' := #[.val (.int p1), .val (.int p2), .val (.int p3), .val (.int p4), .val (.int p5), .val (.int (p3 &&& (31 : Int32))), .val (.int (p4 &&& (31 : Int32))), .val (.int (p5 &&& (31 : Int32))), .val (.ref b6), .val (.ref b7), .val (.ref b12), .val (.ref r15), .val (.ref r16), .val (.int (1 : Int32)), .val (.int (1 : Int32))]) rfl ?_
    show Steps _ _ _ (T16.setTop (mkF m 203 #[.val (.int p1), .val (.int p2), .val (.int p3), .val (.int p4), .val (.int p5), .val (.int (p3 &&& (31 : Int32))), .val (.int (p4 &&& (31 : Int32))), .val (.int (p5 &&& (31 : Int32))), .val (.ref b6), .val (.ref b7), .val (.ref b12), .val (.ref r15), .val (.ref r16), .val (.int (1 : Int32)), .val (.int (1 : Int32))] [])) _
    refine XS.iload X16.here hx rfl (hb hby at_203) rfl ?_
    show Steps _ _ _ (T16.setTop (mkF m 205 #[.val (.int p1), .val (.int p2), .val (.int p3), .val (.int p4), .val (.int p5), .val (.int (p3 &&& (31 : Int32))), .val (.int (p4 &&& (31 : Int32))), .val (.int (p5 &&& (31 : Int32))), .val (.ref b6), .val (.ref b7), .val (.ref b12), .val (.ref r15), .val (.ref r16), .val (.int (1 : Int32)), .val (.int (1 : Int32))] [(.int (1 : Int32))])) _
    refine XS.ifNo X16.here hx rfl (hb hby at_205) rfl ((if0 _ _).trans (feq hc205).1) ?_
    show Steps _ _ _ (T16.setTop (mkF m 208 #[.val (.int p1), .val (.int p2), .val (.int p3), .val (.int p4), .val (.int p5), .val (.int (p3 &&& (31 : Int32))), .val (.int (p4 &&& (31 : Int32))), .val (.int (p5 &&& (31 : Int32))), .val (.ref b6), .val (.ref b7), .val (.ref b12), .val (.ref r15), .val (.ref r16), .val (.int (1 : Int32)), .val (.int (1 : Int32))] [])) _
    refine XS.iload X16.here hx rfl (hb hby at_208) rfl ?_
    show Steps _ _ _ (T16.setTop (mkF m 210 #[.val (.int p1), .val (.int p2), .val (.int p3), .val (.int p4), .val (.int p5), .val (.int (p3 &&& (31 : Int32))), .val (.int (p4 &&& (31 : Int32))), .val (.int (p5 &&& (31 : Int32))), .val (.ref b6), .val (.ref b7), .val (.ref b12), .val (.ref r15), .val (.ref r16), .val (.int (1 : Int32)), .val (.int (1 : Int32))] [(.int (1 : Int32))])) _
    refine XS.ifNo X16.here hx rfl (hb hby at_210) rfl ((if0 _ _).trans (feq hc210).1) ?_
    show Steps _ _ _ (T16.setTop (mkF m 213 #[.val (.int p1), .val (.int p2), .val (.int p3), .val (.int p4), .val (.int p5), .val (.int (p3 &&& (31 : Int32))), .val (.int (p4 &&& (31 : Int32))), .val (.int (p5 &&& (31 : Int32))), .val (.ref b6), .val (.ref b7), .val (.ref b12), .val (.ref r15), .val (.ref r16), .val (.int (1 : Int32)), .val (.int (1 : Int32))] [])) _
    refine XS.iconst X16.here hx rfl (hb hby at_213) ?_
    show Steps _ _ _ (T16.setTop (mkF m 214 #[.val (.int p1), .val (.int p2), .val (.int p3), .val (.int p4), .val (.int p5), .val (.int (p3 &&& (31 : Int32))), .val (.int (p4 &&& (31 : Int32))), .val (.int (p5 &&& (31 : Int32))), .val (.ref b6), .val (.ref b7), .val (.ref b12), .val (.ref r15), .val (.ref r16), .val (.int (1 : Int32)), .val (.int (1 : Int32))] [(.int (1 : Int32))])) _
    refine XS.goto X16.here hx rfl (pc0 := 214) (pc' := 218) rfl (hb hby at_214) (by decide) (by decide) ?_
    show Steps _ _ _ (T16.setTop (mkF m 218 #[.val (.int p1), .val (.int p2), .val (.int p3), .val (.int p4), .val (.int p5), .val (.int (p3 &&& (31 : Int32))), .val (.int (p4 &&& (31 : Int32))), .val (.int (p5 &&& (31 : Int32))), .val (.ref b6), .val (.ref b7), .val (.ref b12), .val (.ref r15), .val (.ref r16), .val (.int (1 : Int32)), .val (.int (1 : Int32))] [(.int (1 : Int32))])) _
    exact retN X16 hx (t := .boolean) Bd.returns (by simp) (hb hby at_218) hr
  · show Q0 Z p1 p2 p3 p4 p5 h0 n0 _ T16.heap _
    exact ⟨rfl, N16⟩
-- 5. FROM THE CASE'S WORDS TO rm0, AND THE OWED THEOREMS
set_option maxRecDepth 65536 in
set_option maxHeartbeats 40000000 in
theorem comes_1 {Post : Tables → Env → Array Value → State → Outcome → State → Prop} (hpost : ∀ tb e args s v u, (limb_1_1.after args s (.returned v) u = true ∧ limb_1_2.after args s (.returned v) u = true ∧ True) → FrameEnd s (.returned v) u (Jvm.fieldLocs frame_1_writes args s ++ Jvm.arrayLocs frame_1_arrays args s ++ Jvm.staticLocs frame_1_statics s) 24 512 → Post tb e args s (.returned v) u) :
    ArmFor flags0 classFile x code maxLocals ret World_1 tables_1 room_1 Calls_1 rest_1 Pre_1 Post := by
  intro l hfl _ _ p e ha hc hk s m args below hf hA hF happ hP
  obtain ⟨hcalls, hrest, hpre⟩ := hP
  obtain ⟨-, -, -, hnamed, -, -, -, hat⟩ := (Spec.applies_iff hf).mp happ
  obtain ⟨hg, hn⟩ := and_e (Cond.before_iff.mp (show (Jvm.Cond.and given_1 narrow_1).before args s = true from hpre))
  obtain ⟨g17, g18⟩ := and_e hg
  obtain ⟨g19, g20⟩ := and_e g18
  obtain ⟨g21, g22⟩ := and_e g20
  obtain ⟨g23, g24⟩ := and_e g22
  obtain ⟨g25, g26⟩ := and_e g24
  obtain ⟨w0, w1, w2, w3, w4, rfl⟩ : ∃ w0 w1 w2 w3 w4 : Value, args = #[w0, w1, w2, w3, w4] := by
    have hs : args.size = 5 := by simpa [Cond.value, given_1] using g17
    obtain ⟨L⟩ := args
    match L, hs with
    | [w0, w1, w2, w3, w4], _ => exact ⟨w0, w1, w2, w3, w4, rfl⟩
  have hw := fun d (hd : d ∈ tables_1) => atoms_spec (ws := Jvm.Cond.code x code maxLocals ret :: tables_1) hat d (List.mem_cons_of_mem _ hd)
  have hfit : Fit s := fun {y c} hc i hi => by
    obtain ⟨ha, rfl⟩ := Array.getElem?_eq_some_iff.mp hc
    have q := List.all_eq_true.mp ((Array.all_eq_true_iff_forall_mem.mp hF) _ (Array.getElem_mem ha)) i (List.mem_range.mpr hi)
    simpa [Array.getElem?_eq_getElem hi] using q
  obtain ⟨i0, ei0⟩ := is_v g19
  obtain rfl : w0 = (.int i0) := Option.some.inj ei0
  obtain ⟨i1, ei1⟩ := is_v g21
  obtain rfl : w1 = (.int i1) := Option.some.inj ei1
  obtain ⟨i2, ei2⟩ := is_v g23
  obtain rfl : w2 = (.int i2) := Option.some.inj ei2
  obtain ⟨i3, ei3⟩ := is_v g25
  obtain rfl : w3 = (.int i3) := Option.some.inj ei3
  obtain ⟨i4, ei4⟩ := is_v g26
  obtain rfl : w4 = (.int i4) := Option.some.inj ei4
  obtain ⟨n, o, h1, h2, h3, _, L, rfl, ⟨rfl, N⟩, hq⟩ := rm0 l s _ hw tables_1 i0 i1 i2 i3 i4 s.heap s.heap.size (Nat.le_refl _) (own_nar _) (own_nar _) (by decide) (by decide) p e ha hc hk s m _ below hf ((Spec.applies_iff_loose hf).mp happ).1 ⟨rfl, State.Warmed39.refl s, rfl⟩ trivial
  refine ⟨n, _, h1, h2, h3, hpost _ _ _ _ _ _ ⟨Cond.after_iff.mpr rfl, Cond.after_iff.mpr (eq_i res_at (Term.int_eval (1)) rfl), trivial⟩ ⟨hq.1, hq.2.1, (hq.2.2.sift fun y hy => Or.inr (N y hy)).mono (by decide) (by decide)⟩⟩
theorem main_1_1 : Claimed_1_1 := comes_1 fun _ _ _ _ _ _ h hF => ⟨h.1, hF⟩
theorem main_1_2 : Claimed_1_2 := comes_1 fun _ _ _ _ _ _ h hF => ⟨h.2.1, hF⟩
end Jvm.Pilot.@@N@@
namespace Jvm.Pilot.@@N@@
open Jvm Jvm.ClassFile Sem Op Lib Jvm.Free Jvm.Stand Jvm.Pilot.@@N@@.Jvm.D
/-! MADE BY PROGRAM (witnessworld.py) out of the Statement's table words and the real class files: 11 classes; the members and pool entries that the words name. The judged class is class 1, her method 1. -/
namespace start1
open Jvm.ClassFile
def u (s : String) : CpInfo := .utf8 (stringToUtf16 s)
/-- a pool by its gaps: so many unusable entries, then the entry; so many at the end -/
def gap : Nat → List CpInfo → List CpInfo
  | 0, r => r
  | n + 1, r => .unusable :: gap n r
def poolList (es : List (Nat × CpInfo)) (last : Nat) : List CpInfo := es.foldr (fun e r => gap e.1 (e.2 :: r)) (gap last [])
def pool (es : List (Nat × CpInfo)) (last : Nat) : Array CpInfo := ⟨poolList es last⟩
def fileOf (pool : Array CpInfo) (this : Nat) (attrs : Array Attribute := #[]) (ms : Array MethodInfo := #[]) (fl : Nat := 33) (sup : Nat := 0) (ifs : Array Nat := #[]) (fds : Array FieldInfo := #[]) : ClassFile where
  minorVersion := 0
  majorVersion := 65
  constantPool := pool
  accessFlags := fl
  thisClass := this
  superClass := sup
  interfaces := ifs
  fields := fds
  methods := ms
  attributes := attrs
def plain (name : String) (sup : Option ClassId) : Class where
  name := name
  kind := .ordinary
  loader := none
  accessFlags := 33
  super := sup
  interfaces := #[]
  cf := none
  fields := #[]
  methods := #[]
  instanceTypes := #[]
  staticTypes := #[]
  resolved := #[]
  callSites := []
  init := .initialized
  statics := none
  mirror := none

def pool0 : Array CpInfo := pool [(5, u "<init>"), (0, u "()V"), (1, .class_ 10), (1, u "java/lang/Object"), (85, u "clone"), (0, u "()Ljava/lang/Object;")] 26

def k0c0 : Code := { maxStack := 0, maxLocals := 1, code := object_method_1_code, exceptionTable := #[], attributes := #[] }
def k0m0 : Method := { name := "<init>", desc := "()V", sig := { parameters := [], returnType := none }, accessFlags := 1, code := some k0c0 }
def k0m1 : Method := { name := "clone", desc := "()Ljava/lang/Object;", sig := { parameters := [], returnType := some (.object "java/lang/Object") }, accessFlags := 260, code := none }
/-- java/lang/Object -/
def k0 : Class := { plain "java/lang/Object" none with
  accessFlags := 33
  interfaces := #[]
  cf := some (fileOf pool0 8 #[] #[{ accessFlags := 1, nameIndex := 5, descriptorIndex := 6, attributes := #[] }, { accessFlags := 260, nameIndex := 96, descriptorIndex := 97, attributes := #[] }] 33 0 #[] #[])
  fields := #[]
  methods := #[k0m0, k0m1]
  instanceTypes := #[]
  staticTypes := #[]
  resolved := Array.replicate 124 none
  statics := none }

def pool1 : Array CpInfo := pool [(2, .class_ 4), (1, u "java/lang/Object"), (0, u "<init>"), (0, u "()V"), (0, .class_ 8), (0, u "com/example/hush_vault/hushvault/crypto/MasterKey"), (0, .methodref 7 10), (0, .nameAndType 5 11), (0, u "([B[B)V"), (0, .methodref 7 13), (0, .nameAndType 14 6), (0, u "close"), (0, .methodref 7 16), (0, .nameAndType 17 18), (0, u "encryptionKeyBytes"), (0, u "()[B"), (0, .methodref 7 20), (0, .nameAndType 21 18), (0, u "macKeyBytes"), (0, .class_ 23), (0, u "com/example/hush_vault/hushvault/crypto/MasterKeyClosePinLaw"), (2, u "law"), (0, u "(IIIII)Z")] 5

def k1m0 : Method := { name := "<init>", desc := "()V", sig := { parameters := [], returnType := none }, accessFlags := 1, code := none }
def k1c1 : Code := { maxStack := 4, maxLocals := 15, code := code, exceptionTable := #[], attributes := #[] }
def k1m1 : Method := { name := "law", desc := "(IIIII)Z", sig := { parameters := [.int, .int, .int, .int, .int], returnType := some .boolean }, accessFlags := 9, code := some k1c1 }
/-- com/example/hush_vault/hushvault/crypto/MasterKeyClosePinLaw -/
def k1 : Class := { plain "com/example/hush_vault/hushvault/crypto/MasterKeyClosePinLaw" (some 0) with
  accessFlags := 49
  interfaces := #[]
  cf := some (fileOf pool1 22 #[] #[{ accessFlags := 1, nameIndex := 5, descriptorIndex := 6, attributes := #[] }, { accessFlags := 9, nameIndex := 26, descriptorIndex := 27, attributes := #[] }] 49 2 #[] #[])
  fields := #[]
  methods := #[k1m0, k1m1]
  instanceTypes := #[]
  staticTypes := #[]
  resolved := Array.replicate 33 none
  statics := none }

def pool2 : Array CpInfo := pool [(1, .class_ 2), (0, u "java/lang/AutoCloseable"), (0, .class_ 4), (0, u "java/lang/Object")] 7

/-- java/lang/AutoCloseable -/
def k2 : Class := { plain "java/lang/AutoCloseable" (some 0) with
  accessFlags := 1537
  interfaces := #[]
  cf := some (fileOf pool2 1 #[] #[] 1537 3 #[] #[])
  fields := #[]
  methods := #[]
  instanceTypes := #[]
  staticTypes := #[]
  resolved := Array.replicate 12 none
  statics := none }

def pool3 : Array CpInfo := pool [(1, .methodref 2 3), (0, .class_ 4), (0, .nameAndType 5 6), (0, u "java/lang/Object"), (0, u "<init>"), (0, u "()V"), (0, .class_ 8), (0, u "com/example/hush_vault/hushvault/crypto/MasterKey"), (7, .methodref 17 18), (0, .class_ 19), (0, .nameAndType 20 21), (0, u "[B"), (0, u "clone"), (0, u "()Ljava/lang/Object;"), (0, .fieldref 7 23), (0, .nameAndType 24 19), (0, u "encryptionKey"), (0, .fieldref 7 26), (0, .nameAndType 27 19), (0, u "macKey"), (8, u "([B[B)V"), (0, .methodref 38 39), (0, .class_ 40), (0, .nameAndType 41 42), (0, u "java/util/Arrays"), (0, u "fill"), (0, u "([BB)V"), (17, .class_ 61), (0, u "java/lang/AutoCloseable"), (0, u "KEY_LENGTH"), (0, u "I"), (10, u "encryptionKeyBytes"), (0, u "()[B"), (0, u "macKeyBytes"), (2, u "close")] 2

def k3c0 : Code := { maxStack := 3, maxLocals := 3, code := prog_8_method_1_code, exceptionTable := #[], attributes := #[] }
def k3m0 : Method := { name := "<init>", desc := "([B[B)V", sig := { parameters := [(.array .byte), (.array .byte)], returnType := none }, accessFlags := 1, code := some k3c0 }
def k3c1 : Code := { maxStack := 1, maxLocals := 1, code := prog_8_method_4_code, exceptionTable := #[], attributes := #[] }
def k3m1 : Method := { name := "encryptionKeyBytes", desc := "()[B", sig := { parameters := [], returnType := some (.array .byte) }, accessFlags := 1, code := some k3c1 }
def k3c2 : Code := { maxStack := 1, maxLocals := 1, code := prog_8_method_5_code, exceptionTable := #[], attributes := #[] }
def k3m2 : Method := { name := "macKeyBytes", desc := "()[B", sig := { parameters := [], returnType := some (.array .byte) }, accessFlags := 1, code := some k3c2 }
def k3c3 : Code := { maxStack := 2, maxLocals := 1, code := prog_8_method_8_code, exceptionTable := #[], attributes := #[] }
def k3m3 : Method := { name := "close", desc := "()V", sig := { parameters := [], returnType := none }, accessFlags := 1, code := some k3c3 }
/-- com/example/hush_vault/hushvault/crypto/MasterKey -/
def k3 : Class := { plain "com/example/hush_vault/hushvault/crypto/MasterKey" (some 0) with
  accessFlags := 49
  interfaces := #[2]
  cf := some (fileOf pool3 7 #[] #[{ accessFlags := 1, nameIndex := 5, descriptorIndex := 36, attributes := #[] }, { accessFlags := 1, nameIndex := 74, descriptorIndex := 75, attributes := #[] }, { accessFlags := 1, nameIndex := 76, descriptorIndex := 75, attributes := #[] }, { accessFlags := 1, nameIndex := 79, descriptorIndex := 6, attributes := #[] }] 49 2 #[60] #[{ accessFlags := 25, nameIndex := 62, descriptorIndex := 63, attributes := #[] }, { accessFlags := 18, nameIndex := 24, descriptorIndex := 19, attributes := #[] }, { accessFlags := 18, nameIndex := 27, descriptorIndex := 19, attributes := #[] }])
  fields := #[{ name := "KEY_LENGTH", type := .int, accessFlags := 25, slot := 0, constantValue := 0 }, { name := "encryptionKey", type := (.array .byte), accessFlags := 18, slot := 0, constantValue := 0 }, { name := "macKey", type := (.array .byte), accessFlags := 18, slot := 1, constantValue := 0 }]
  methods := #[k3m0, k3m1, k3m2, k3m3]
  instanceTypes := #[(.array .byte), (.array .byte)]
  staticTypes := #[.int]
  resolved := Array.replicate 82 none
  statics := none }

def pool4 : Array CpInfo := pool [(1, .class_ 2), (0, u "java/lang/Cloneable"), (0, .class_ 4), (0, u "java/lang/Object")] 2

/-- java/lang/Cloneable -/
def k4 : Class := { plain "java/lang/Cloneable" (some 0) with
  accessFlags := 1537
  interfaces := #[]
  cf := some (fileOf pool4 1 #[] #[] 1537 3 #[] #[])
  fields := #[]
  methods := #[]
  instanceTypes := #[]
  staticTypes := #[]
  resolved := Array.replicate 7 none
  statics := none }

def pool5 : Array CpInfo := pool [(2, .class_ 4), (1, u "java/lang/Object"), (0, u "<init>"), (0, u "()V"), (7, .class_ 16), (1, u "java/util/Arrays"), (57, .class_ 76), (1, u "java/util/Arrays$NaturalOrder"), (36, .class_ 115), (1, u "java/util/Arrays$LegacyMergeSort"), (1, u "Z"), (257, .class_ 376), (0, u "java/util/Arrays$ArrayList"), (68, u "$assertionsDisabled"), (269, u "MIN_ARRAY_SORT_GRAN"), (0, u "I"), (2, u "INSERTIONSORT_THRESHOLD"), (120, u "fill"), (9, u "([BB)V"), (124, .class_ 976), (0, u "java/util/Arrays$ArrayItr")] 52

def k5m0 : Method := { name := "<init>", desc := "()V", sig := { parameters := [], returnType := none }, accessFlags := 2, code := none }
def k5c1 : Code := { maxStack := 3, maxLocals := 4, code := jdk_65_method_109_code, exceptionTable := #[], attributes := #[] }
def k5m1 : Method := { name := "fill", desc := "([BB)V", sig := { parameters := [(.array .byte), .byte], returnType := none }, accessFlags := 9, code := some k5c1 }
/-- java/util/Arrays -/
def k5 : Class := { plain "java/util/Arrays" (some 0) with
  accessFlags := 49
  interfaces := #[]
  cf := some (fileOf pool5 14 #[.nestMembers #[975, 375, 113, 74]] #[{ accessFlags := 2, nameIndex := 5, descriptorIndex := 6, attributes := #[] }, { accessFlags := 9, nameIndex := 840, descriptorIndex := 850, attributes := #[] }] 49 2 #[] #[{ accessFlags := 26, nameIndex := 715, descriptorIndex := 716, attributes := #[] }, { accessFlags := 26, nameIndex := 719, descriptorIndex := 716, attributes := #[] }, { accessFlags := 4120, nameIndex := 445, descriptorIndex := 117, attributes := #[] }])
  fields := #[{ name := "MIN_ARRAY_SORT_GRAN", type := .int, accessFlags := 26, slot := 0, constantValue := 0 }, { name := "INSERTIONSORT_THRESHOLD", type := .int, accessFlags := 26, slot := 1, constantValue := 0 }, { name := "$assertionsDisabled", type := .boolean, accessFlags := 4120, slot := 2, constantValue := 0 }]
  methods := #[k5m0, k5m1]
  instanceTypes := #[]
  staticTypes := #[.int, .int, .boolean]
  resolved := Array.replicate 1029 none
  statics := none }

def pool6 : Array CpInfo := pool [(1, u "java/io/Serializable"), (0, .class_ 1), (0, u "java/lang/Object"), (0, .class_ 3)] 3

/-- java/io/Serializable -/
def k6 : Class := { plain "java/io/Serializable" (some 0) with
  accessFlags := 1537
  interfaces := #[]
  cf := some (fileOf pool6 2 #[] #[] 1537 4 #[] #[])
  fields := #[]
  methods := #[]
  instanceTypes := #[]
  staticTypes := #[]
  resolved := Array.replicate 8 none
  statics := none }

/-- the primitive byte -/
def k7 : Class := { plain "byte" none with kind := .primitive 'B', accessFlags := 0x411 }
/-- [B -/
def k8 : Class := { plain "[B" (some 0) with kind := .array 7 .byte, interfaces := #[4, 6], accessFlags := 1041 }

/-- the primitive int -/
def k9 : Class := { plain "int" none with kind := .primitive 'I', accessFlags := 0x411 }
/-- [I -/
def k10 : Class := { plain "[I" (some 0) with kind := .array 9 .int, interfaces := #[4, 6], accessFlags := 1041 }

def heap : Heap := #[]
def classes : Array Class := #[k0, k1, k2, k3, k4, k5, k6, k7, k8, k9, k10]
def interned : List (Array UInt16 × Addr) := []
def slotsUsed : Nat := 0
def theMethod : MethodId := ⟨1, 1⟩
def args0 : Array Value := #[.int 5, .int 6, .int 7, .int 8, .int 9]
def aboutOver (below : List Frame) : State where
  vm := { classes := classes, interned := interned.toArray }
  heap := heap
  slotsUsed := slotsUsed
  threads := #[{ frames := .invoking theMethod args0 :: below }]
def below0 : List Frame := [.native { method := ⟨0, 0⟩, args := #[] }]
def about1 : State := aboutOver below0
def p0 : Program := .bare "" "" ""
def e0 : Env := launch0.env 0 0 0
theorem w_frames : about1.frames = Frame.invoking theMethod args0 :: below0 := rfl
set_option maxRecDepth 65536 in
theorem w_args : argsFit about1.vm theMethod args0 = true := by decide +kernel
set_option maxRecDepth 65536 in
theorem w_heap : heapFits about1 = true := by decide +kernel
set_option maxRecDepth 65536 in
theorem w_runnable : about1.curStatus? = some .runnable := by decide +kernel
set_option maxRecDepth 65536 in
theorem w_alone : about1.alone = true := by decide +kernel
set_option maxRecDepth 65536 in
theorem w_named : about1.methodNamed? x = some theMethod := by decide +kernel
set_option maxRecDepth 65536 in
theorem w_hears : about1.hears theMethod below0 = true := by decide +kernel
set_option maxRecDepth 65536 in
theorem w_ripe : about1.ripe theMethod args0 below0 = true := by decide +kernel
theorem w_running : about1.status = .running := rfl
set_option maxRecDepth 65536 in
theorem w_room : about1.hasRoom e0.platform room_1 = true :=
  launch0.hasRoom_least _ room_1 (by decide +kernel) (by decide +kernel) (by decide +kernel) (by decide +kernel) (by decide +kernel) (by decide +kernel)
theorem allAtoms_all (ts : List Jvm.Cond) (a : Array Jvm.Value) (st : Jvm.State) : (allAtoms ts).before a st = ts.all (fun c => c.before a st) := by
  induction ts with
  | nil => rfl
  | cons c t ih =>
    show (Jvm.Cond.and c (allAtoms t)).before a st = _
    rw [Jvm.Cond.before_and, ih, List.all_cons]
def words1 : List Jvm.Cond := Jvm.Cond.code x code maxLocals ret :: tables_1
/-- a 'code' word, met by the world's own term for the bytes: nothing is compared byte by byte -/
theorem code_word {y : MethodName} {bytes : ByteArray} {mx : Nat} {rt : Option FieldType} {a : Array Value} {s : State} {m : MethodId} {meth : Method} {c : Code} (h1 : s.methodNamed? y = some m) (h2 : s.vm.method? m = some meth) (h3 : meth.code = some c) (h4 : c.code = bytes)
    (h5 : (c.maxLocals == mx && c.exceptionTable.isEmpty && decide (c.maxStack ≤ mostOperands) && decide (meth.sig.returnType = rt) && !meth.locks && decide (parseMethodDescriptor y.desc = some meth.sig)) = true) : (Jvm.Cond.code y bytes mx rt).before a s = true := by
  simp only [Bool.and_eq_true, beq_iff_eq, Bool.not_eq_true', decide_eq_true_eq] at h5
  obtain ⟨⟨⟨⟨⟨g1, g2⟩, g3⟩, g4⟩, g5⟩, g6⟩ := h5
  simp [Cond.before, Cond.holds, Cond.value, h1, h2, h3, h4, g1, g2, g3, g4, g5, g6]
def isCode : Jvm.Cond → Bool
  | .code _ _ _ _ => true
  | _ => false
theorem all_split {L : List Jvm.Cond} {P : Jvm.Cond → Bool} (h1 : L.all (fun c => isCode c || P c) = true) (h2 : ∀ c ∈ L.filter isCode, P c = true) : L.all P = true := by
  refine List.all_eq_true.mpr fun c hc => ?_
  have h := List.all_eq_true.mp h1 c hc
  rcases Bool.eq_false_or_eq_true (isCode c) with hi | hi
  · exact h2 c (List.mem_filter.mpr ⟨hc, hi⟩)
  · simpa [hi] using h
set_option maxRecDepth 65536 in
theorem w_c0 : (Jvm.Cond.code x code maxLocals ret).before args0 about1 = true := code_word (m := ⟨1, 1⟩) (meth := k1m1) (c := k1c1) (by decide +kernel) rfl rfl rfl (by decide +kernel)
set_option maxRecDepth 65536 in
theorem w_c1 : (Jvm.Cond.code ({ cls := "com/example/hush_vault/hushvault/crypto/MasterKey", name := "<init>", desc := "([B[B)V" } : Jvm.MethodName) prog_8_method_1_code (3 : Nat) (Option.none : Option Jvm.ClassFile.FieldType)).before args0 about1 = true := code_word (m := ⟨3, 0⟩) (meth := k3m0) (c := k3c0) (by decide +kernel) rfl rfl rfl (by decide +kernel)
set_option maxRecDepth 65536 in
theorem w_c2 : (Jvm.Cond.code ({ cls := "java/lang/Object", name := "<init>", desc := "()V" } : Jvm.MethodName) object_method_1_code (1 : Nat) (Option.none : Option Jvm.ClassFile.FieldType)).before args0 about1 = true := code_word (m := ⟨0, 0⟩) (meth := k0m0) (c := k0c0) (by decide +kernel) rfl rfl rfl (by decide +kernel)
set_option maxRecDepth 65536 in
theorem w_c3 : (Jvm.Cond.code ({ cls := "com/example/hush_vault/hushvault/crypto/MasterKey", name := "close", desc := "()V" } : Jvm.MethodName) prog_8_method_8_code (1 : Nat) (Option.none : Option Jvm.ClassFile.FieldType)).before args0 about1 = true := code_word (m := ⟨3, 3⟩) (meth := k3m3) (c := k3c3) (by decide +kernel) rfl rfl rfl (by decide +kernel)
set_option maxRecDepth 65536 in
theorem w_c4 : (Jvm.Cond.code ({ cls := "java/util/Arrays", name := "fill", desc := "([BB)V" } : Jvm.MethodName) jdk_65_method_109_code (4 : Nat) (Option.none : Option Jvm.ClassFile.FieldType)).before args0 about1 = true := code_word (m := ⟨5, 1⟩) (meth := k5m1) (c := k5c1) (by decide +kernel) rfl rfl rfl (by decide +kernel)
set_option maxRecDepth 65536 in
theorem w_c5 : (Jvm.Cond.code ({ cls := "com/example/hush_vault/hushvault/crypto/MasterKey", name := "encryptionKeyBytes", desc := "()[B" } : Jvm.MethodName) prog_8_method_4_code (1 : Nat) (Option.some (Jvm.ClassFile.FieldType.array Jvm.ClassFile.FieldType.byte))).before args0 about1 = true := code_word (m := ⟨3, 1⟩) (meth := k3m1) (c := k3c1) (by decide +kernel) rfl rfl rfl (by decide +kernel)
set_option maxRecDepth 65536 in
theorem w_c6 : (Jvm.Cond.code ({ cls := "com/example/hush_vault/hushvault/crypto/MasterKey", name := "macKeyBytes", desc := "()[B" } : Jvm.MethodName) prog_8_method_5_code (1 : Nat) (Option.some (Jvm.ClassFile.FieldType.array Jvm.ClassFile.FieldType.byte))).before args0 about1 = true := code_word (m := ⟨3, 2⟩) (meth := k3m2) (c := k3c2) (by decide +kernel) rfl rfl rfl (by decide +kernel)
def codes1 : List Jvm.Cond := [Jvm.Cond.code x code maxLocals ret, Jvm.Cond.code ({ cls := "com/example/hush_vault/hushvault/crypto/MasterKey", name := "<init>", desc := "([B[B)V" } : Jvm.MethodName) prog_8_method_1_code (3 : Nat) (Option.none : Option Jvm.ClassFile.FieldType), Jvm.Cond.code ({ cls := "java/lang/Object", name := "<init>", desc := "()V" } : Jvm.MethodName) object_method_1_code (1 : Nat) (Option.none : Option Jvm.ClassFile.FieldType), Jvm.Cond.code ({ cls := "com/example/hush_vault/hushvault/crypto/MasterKey", name := "close", desc := "()V" } : Jvm.MethodName) prog_8_method_8_code (1 : Nat) (Option.none : Option Jvm.ClassFile.FieldType), Jvm.Cond.code ({ cls := "java/util/Arrays", name := "fill", desc := "([BB)V" } : Jvm.MethodName) jdk_65_method_109_code (4 : Nat) (Option.none : Option Jvm.ClassFile.FieldType), Jvm.Cond.code ({ cls := "com/example/hush_vault/hushvault/crypto/MasterKey", name := "encryptionKeyBytes", desc := "()[B" } : Jvm.MethodName) prog_8_method_4_code (1 : Nat) (Option.some (Jvm.ClassFile.FieldType.array Jvm.ClassFile.FieldType.byte)), Jvm.Cond.code ({ cls := "com/example/hush_vault/hushvault/crypto/MasterKey", name := "macKeyBytes", desc := "()[B" } : Jvm.MethodName) prog_8_method_5_code (1 : Nat) (Option.some (Jvm.ClassFile.FieldType.array Jvm.ClassFile.FieldType.byte))]
set_option maxRecDepth 65536 in
theorem codes_eq : words1.filter isCode = codes1 := rfl
theorem w_codes : ∀ c ∈ words1.filter isCode, c.before args0 about1 = true := by
  rw [codes_eq]
  intro c hc
  simp only [codes1, List.mem_cons, List.not_mem_nil, or_false] at hc
  rcases hc with rfl | rfl | rfl | rfl | rfl | rfl | rfl
  · exact w_c0
  · exact w_c1
  · exact w_c2
  · exact w_c3
  · exact w_c4
  · exact w_c5
  · exact w_c6
set_option maxRecDepth 65536 in
theorem w_t1 : (words1.take 24).all (fun c => isCode c || c.before args0 about1) = true := by decide +kernel
set_option maxRecDepth 65536 in
theorem w_t2 : (words1.drop 24).all (fun c => isCode c || c.before args0 about1) = true := by decide +kernel
theorem w_tables : (allAtoms (Jvm.Cond.code x code maxLocals ret :: tables_1)).before args0 about1 = true := by
  rw [allAtoms_all]
  show words1.all (fun c => c.before args0 about1) = true
  refine all_split ?_ w_codes
  rw [← List.take_append_drop 24 words1, List.all_append, w_t1, w_t2]
  rfl
set_option maxRecDepth 65536 in
theorem w_case : (Jvm.Cond.and given_1 narrow_1).before args0 about1 = true := by decide +kernel
theorem w_applies : (headSpec (Jvm.Cond.code x code maxLocals ret :: tables_1) room_1).applies x e0.platform about1 = true :=
  (Spec.applies_iff w_frames).mpr ⟨w_running, w_runnable, w_alone, w_named, w_hears, w_ripe, w_room, w_tables⟩
theorem atStart : AtStart classFile x code maxLocals ret World_1 tables_1 room_1 Calls_1 rest_1 Pre_1 launch0 p0 e0 about1 theMethod args0 below0 :=
  ⟨lists_1, trivial, launch0.admits_env _ _ _, launch0.least_env, fairChoices_fair.cas, fairChoices_fair.clock, w_frames, w_args, w_heap, w_applies, trivial, trivial, w_case⟩
end start1
theorem witness_1 : WitnessClaimed_1 := ⟨start1.p0, start1.e0, start1.about1, start1.theMethod, start1.args0, start1.below0, start1.atStart⟩
end Jvm.Pilot.@@N@@
