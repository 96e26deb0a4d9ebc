import JvmDerived
import JvmDerived.Pilot.@@N@@Statement
import JvmDerived.Pilot.@@N@@Code
set_option linter.unusedVariables false
set_option linter.unusedSimpArgs false
@@BLOCK:NumsL.lean.txt@@
@@BLOCK:TracedD.lean.txt@@
namespace Jvm.RoadKit
open Sem ClassFile Op Lib Jvm.Stand Jvm.Free Jvm.LawKit
section New
variable {p : Program} {l : Launch} {e : Env} {R : Room} {s : State} {m : MethodId} {args : Array Value} {below : List Frame} {meth : Method} {c : Code} {T : State} {locs : List Loc} {cells slots : Nat}
theorem retI (X : Stand p l e R s m args below meth c T locs cells slots) (hx : p.tables.exec = Jvm.exec) {pc : Nat} {Ls : Array Slot} {z : Int32} {rest : List Value} (hret : meth.sig.returnType = some .int) (hd : decode c.code pc = .ok (.ireturn, 1)) {fs : List Frame}
    (hl : ∀ (f : JFrame) (acts : List Action), f.method = m → f.locked = none → f.entered = [] → (doReturn e (T.setTop f) acts (some (.int z))).1 = T.setFrames fs) : Steps p.tables e below (T.setTop (mkF m pc Ls (.int z :: rest))) (T.setFrames fs) := by
  have hm' : T.vm.method? m = some meth := X.method'
  have hn : narrow .int (.int z) = .int z := rfl
  jvm_step X.here [X.here.top, hx, hd, hm', hret, hn]
  first | (intro acts; rw [hl _ acts rfl rfl rfl]) | rw [hl _ _ rfl rfl rfl]
  exact Steps.refl _
end New
end Jvm.RoadKit
namespace Jvm.Free
open Sem ClassFile Op
section OwnCall
variable {p : Program} {l : Launch} {e : Env} {R : Room} {s : State} {m : MethodId} {args : Array Value} {below : List Frame} {meth : Method} {c : Code} {T : State} {locs : List Loc} {cells slots : Nat}
/-- a call of a static method by a free theorem, whatever its end -/
theorem own_call (X : Stand p l e R s m args below meth c T locs cells slots) (hexec : p.tables.exec = Jvm.exec) {own : String} {index : Nat} {y : MethodName} {S : Spec}
    (hown : s.vm.findClass own = some m.cls) (hlink : (Cond.methodLink own index y).before args s = true) (hstat : (Cond.static y).before args s = true) (hinit : (Cond.initialized y.cls).before args s = true)
    {mk : MethodId} {methM : Method} {cM : Code} (hnamed : s.methodNamed? y = some mk) (hmethM : s.vm.method? mk = some methM) (hcodeM : methM.code = some cM) (hsig : parseMethodDescriptor y.desc = some methM.sig)
    (hy : y.cls ≠ "java/lang/invoke/MethodHandle" ∧ y.cls ≠ "java/lang/invoke/VarHandle")
    {P : Array Value → State → Prop} {K : Program → Env → List Frame → State → Array Value → Prop} {Q : Array Value → State → Outcome → State → Prop} (hM : MetFree l y S P K Q)
    {g : JFrame} (hg : g.method = m) (hsize : g.locals.size = c.maxLocals) {argsL rest : List Value} (hlen : ∀ sig, parseMethodDescriptor y.desc = some sig → argsL.length = sig.parameters.length)
    (hstack : g.stack = argsL.reverse ++ rest) (hdg : decode c.code g.pc = .ok (.invokestatic index, 3))
    (hpre : ∀ vm₁, Stand p l e R s m args below meth c (T.setVm vm₁) locs cells slots → S.pre.before argsL.toArray (T.setVm vm₁) = true)
    (hP : ∀ vm₁, Stand p l e R s m args below meth c (T.setVm vm₁) locs cells slots → P argsL.toArray ((T.setVm vm₁).calling { g with stack := rest } mk argsL.toArray))
    (hK : ∀ vm₁, Stand p l e R s m args below meth c (T.setVm vm₁) locs cells slots → K p e ((T.setVm vm₁).setTop { g with stack := rest }).frames ((T.setVm vm₁).calling { g with stack := rest } mk argsL.toArray) argsL.toArray)
    (hframes : S.room.frames + 1 ≤ R.frames) (hlocals : 2 * g.monitorRoom + (rest.map fun v => v.category).sum + (cM.maxLocals + 11) + S.room.locals ≤ R.locals) (hcells : cells + S.room.cells ≤ R.cells) (hslots : slots + S.room.slots ≤ R.slots) :
    ∃ (vm₁ : Vm) (o : Outcome) (s₂ : State), Stand p l e R s m args below meth c (T.setVm vm₁) locs cells slots ∧ Steps p.tables e below (T.setTop g) s₂ ∧
      Ended s₂ (.java { g with stack := rest } :: below) o ∧ Q argsL.toArray ((T.setVm vm₁).calling { g with stack := rest } mk argsL.toArray) o s₂ := by
  have hstatic : methM.isStatic = true := Cond.static_spec hnamed hmethM hstat
  obtain ⟨kP, hkP, -⟩ := className_of_methodNamed hnamed
  have hinitP : kP.init = .initialized := Cond.initialized_spec (findClass_of_methodNamed hnamed) hkP hinit
  obtain ⟨vm₁, X₁, hstep₁⟩ := X.invokestatic hexec hown hlink hnamed hmethM hstatic hkP hinitP hy (g := g) hg (argsL := argsL) (rest := rest) (hlen _ hsig) hstack hdg
  have hW : s.WarmedH (T.setVm vm₁).vm := X₁.warmed
  obtain ⟨kP₁, hkP₁, heP₁⟩ := hW.alike.2.2 _ _ hkP
  have hAt : At (T.setVm vm₁) g.method c below := by rw [hg]; exact X₁.here
  have happ : S.appliesLoose y e.platform ((T.setVm vm₁).calling { g with stack := rest } mk argsL.toArray) = true :=
    Spec.appliesLoose_calling (g := { g with stack := rest }) hAt (ig := .invokestatic index) (len := 3) hdg (X₁.named hnamed) hkP₁ (by rw [heP₁]; exact hinitP)
      (X₁.room_calling (g := { g with stack := rest }) (R' := S.room) hsize (show (T.setVm vm₁).vm.method? mk = some methM by rw [hW.alike.method?]; exact hmethM) hcodeM hframes hlocals hcells hslots)
      (hpre _ X₁)
  obtain ⟨mid, hmid⟩ := hAt.above
  have hfr : ((T.setVm vm₁).setTop { g with stack := rest }).frames = (.java { g with stack := rest } :: mid) ++ below := by
    rw [State.frames_setTop' { g with stack := rest } hAt.top, hmid]; rfl
  obtain ⟨o, s₂, hsteps, -, hend, hq⟩ := Steps.callFree hM p X₁.admits X₁.cas X₁.clock (acts := []) hfr happ (hP _ X₁) (hK _ X₁)
  rw [State.frames_setTop' { g with stack := rest } hAt.top, X₁.tail] at hend
  exact ⟨vm₁, o, s₂, X₁, hstep₁ _ (fun acts => by rw [doInvoke_state]; exact hsteps), hend, hq⟩
/-- the stand behind a call whose end is a wide one -/
theorem own_behind (X : Stand p l e R s m args below meth c T locs cells slots) {g : JFrame} (hg : g.method = m) {mk : MethodId} {a : Array Value} {s₂ : State} {L : List Loc} {k n : Nat}
    (hW₂ : (T.calling g mk a).Warmed39 s₂.vm) (hB₂ : (T.calling g mk a).Booked s₂.vm s₂.heap.size) (hsame₂ : (T.calling g mk a).sameButNew ({ s₂ with vm := (T.calling g mk a).vm } : State) L k n) :
    ∃ T' : State, Stand p l e R (s.setVm T'.vm) m args below meth c T' (locs ++ L) (cells + k) (slots + n) ∧ s.Since T'.vm T'.heap.size ∧ T.heap.size ≤ T'.heap.size ∧ T'.heap = s₂.heap ∧ T'.vm = s₂.vm ∧ T'.frames.tail = below ∧ s₂ = T'.setFrames s₂.frames := by
  have h : At T g.method c below := by rw [hg]; exact X.here
  obtain ⟨e2, q2, q3, q4, q5, q6⟩ := id hsame₂
  have e3 : s₂ = ({ (T.calling g mk a).setFrames s₂.frames with heap := s₂.heap, slotsUsed := s₂.slotsUsed } : State).setVm s₂.vm := by
    have : s₂ = ({ s₂ with vm := (T.calling g mk a).vm } : State).setVm s₂.vm := rfl
    rw [e2] at this
    exact this
  have hW' : T.Warmed39 s₂.vm := hW₂
  obtain ⟨g₀, hg0⟩ := Option.isSome_iff_exists.mp h.top
  obtain ⟨r, hr⟩ := State.topJava?_eq_some.mp hg0
  have hsame : T.sameButNew ({ T with heap := s₂.heap, slotsUsed := s₂.slotsUsed } : State) L k n := by
    refine ⟨?_, q2, q3, q4, q5, q6⟩
    obtain ⟨t, ht, -⟩ := State.frames_cons hr
    show ({ T with heap := s₂.heap, slotsUsed := s₂.slotsUsed } : State) = { T.setFrames T.frames with heap := s₂.heap, slotsUsed := s₂.slotsUsed }
    rw [State.setFrames_self ht]
  subst hg
  obtain ⟨X', hS⟩ := X.movedW (T₂ := (({ T with heap := s₂.heap, slotsUsed := s₂.slotsUsed } : State).setVm s₂.vm)) ((X.here.setHeapUsed s₂.heap s₂.slotsUsed).setVm hW'.alike) X.tail rfl rfl hW' hB₂ hsame
  refine ⟨(({ T with heap := s₂.heap, slotsUsed := s₂.slotsUsed } : State).setVm s₂.vm), X', hS, hsame.2.1, rfl, rfl, X.tail, ?_⟩
  refine e3.trans ?_
  rw [State.calling_eq h.top, State.setFrames_setFrames]
  rfl
end OwnCall
end Jvm.Free
namespace Jvm.Pilot.@@N@@
open Jvm Jvm.ClassFile Sem Op Lib Jvm.Free Jvm.Stand Jvm.LawKit Jvm.RoadKit Bundle Jvm.Pilot.@@N@@.Jvm.D
theorem ww {Z : State} {a0 : Array Value} (hw : ∀ d ∈ tables_1, d.before a0 Z = true) (i : Nat) {d : Jvm.Cond} (h : tables_1[i]? = some d) : d.before a0 Z = true := hw _ (List.mem_of_getElem? h)
theorem own_wS {Z : State} {a0 : Array Value} (hw : ∀ d ∈ tables_1, d.before a0 Z = true) : ∀ a ∈ Bundle.stringAtoms, a.before a0 Z = true := by
  intro a ha
  simp only [Bundle.stringAtoms, List.mem_cons, List.not_mem_nil, or_false] at ha
  rcases ha with rfl | rfl | rfl | rfl | rfl | rfl | rfl
  · exact hw _ (List.mem_of_getElem? (i := 22) rfl)
  · exact hw _ (List.mem_of_getElem? (i := 23) rfl)
  · exact hw _ (List.mem_of_getElem? (i := 24) rfl)
  · exact hw _ (List.mem_of_getElem? (i := 25) rfl)
  · exact hw _ (List.mem_of_getElem? (i := 26) rfl)
  · exact hw _ (List.mem_of_getElem? (i := 27) rfl)
  · exact hw _ (List.mem_of_getElem? (i := 28) rfl)
theorem own_nst {Z : State} {h : Heap} {x : Addr} {C : String} (E : Exa Z h x C) : ∀ cl : Cell, h[x]? = some cl → cl.vm.isStatics = false := by
  intro cl hc
  obtain ⟨c1, k, h1, h2, h3, h4, h5⟩ := E
  cases h1.symm.trans hc
  exact h4
theorem own_stak {Z : State} {h h' : Heap} {ws : List Addr} {C n d : String} {w : Value} (F : Sta Z h C n d w) (K : Keep h h' ws) (q : ∀ x ∈ ws, ∀ cl : Cell, h[x]? = some cl → cl.vm.isStatics = false) : Sta Z h' C n d w := by
  obtain ⟨cf, i, k, f, st, cell, h1, h2, h3, h4, h5, h6, h7⟩ := F
  refine ⟨cf, i, k, f, st, cell, h1, h2, h3, h4, K.2.1 st cell h5 (fun hm => ?_), h6, h7⟩
  rw [q st hm cell h5] at h6
  cases h6
theorem own_retJ {p : Program} {l : Launch} {e : Env} {R : Room} {s : State} {m : MethodId} {args : Array Value} {below : List Frame} {meth : Method} {c : Code} {T : State} {locs : List Loc} {cells slots : Nat}
    (X : Stand p l e R s m args below meth c T locs cells slots) (hx : p.tables.exec = Jvm.exec) {pc : Nat} {Ls : Array Slot} {z : Int64} {rest : List Value} (hret : meth.sig.returnType = some .long) (hd : decode c.code pc = .ok (.lreturn, 1)) {fs : List Frame}
    (hr : ∀ (f : JFrame) (acts : List Action), f.method = m → f.locked = none → f.entered = [] → (doReturn e (T.setTop f) acts (some (.long z))).1 = T.setFrames fs) : Steps p.tables e below (T.setTop (mkF m pc Ls (.long z :: rest))) (T.setFrames fs) := by
  jvm_step X.here [X.here.top, hx, hd, X.method', hret, narrow]
  first | (intro acts; rw [hr _ acts rfl rfl rfl]) | rw [hr _ _ rfl rfl rfl]
  exact Steps.refl _
def own_Qj (c : Int64) (h0 : Heap) (n0 : Nat) (v : Option Value) (h : Heap) (L : List Loc) : Prop := v = some (.long c) ∧ Fr n0 L ∧ h = h0
theorem d3_0 : decode jdk_29_method_61_code 0 = .ok (.lload_n 0, 1) := by decide +kernel
theorem d3_1 : decode jdk_29_method_61_code 1 = .ok (.lconst 0, 1) := by decide +kernel
theorem d3_2 : decode jdk_29_method_61_code 2 = .ok (.lcmp, 1) := by decide +kernel
theorem d3_3 : decode jdk_29_method_61_code 3 = .ok (.ifCond .ge 8, 3) := by decide +kernel
theorem d3_6 : decode jdk_29_method_61_code 6 = .ok (.lload_n 0, 1) := by decide +kernel
theorem d3_7 : decode jdk_29_method_61_code 7 = .ok (.lneg, 1) := by decide +kernel
theorem d3_8 : decode jdk_29_method_61_code 8 = .ok (.goto 4, 3) := by decide +kernel
theorem d3_12 : decode jdk_29_method_61_code 12 = .ok (.lreturn, 1) := by decide +kernel
theorem ef_3_0 (m : MethodId) (x0 : Int64) : entryFrame m #[(.long x0)] 2 = mkF m 0 #[.val (.long x0), .second] [] := by first | (simp [entryFrame, mkF, argsToLocals, Value.category]; done) | rfl
def Q3_0 (Z : State) (q1 : Int64) (h0 : Heap) (n0 : Nat) (v : Option Value) (h : Heap) (L : List Loc) : Prop := own_Qj (-q1) h0 n0 v h L
set_option maxRecDepth 65536 in
set_option maxHeartbeats 40000000 in
theorem rm3_0 (l : Launch) (Z : State) (a0 : Array Value) (hw : ∀ d ∈ tables_1, d.before a0 Z = true) (ws : List Jvm.Cond) (q1 : Int64) (h0 : Heap) (n0 : Nat) (Z0 : n0 ≤ h0.size) (hc3 : (lcmpW q1 (0 : Int64)) < (0 : Int32)) :
    MetFree l (⟨"java/lang/Math", "abs", "(J)J"⟩ : MethodName) (head1 (Jvm.Cond.code (⟨"java/lang/Math", "abs", "(J)J"⟩ : MethodName) jdk_29_method_61_code 2 (some .long) :: ws) ({ frames := 0, cells := 0, slots := 0, locals := 0 } : Room)) (fun a U => a = #[(.long q1)] ∧ Z.Warmed39 U.vm ∧ U.heap = h0) (fun _ _ _ _ _ => True) (fun _ U o U' => ∃ v L, o = .returned v ∧ Q3_0 Z q1 h0 n0 v U'.heap L ∧ FrameEnd U o U' L ({ frames := 0, cells := 0, slots := 0, locals := 0 } : Room).cells ({ frames := 0, cells := 0, slots := 0, locals := 0 } : Room).slots) := by
  refine MetFree.of_bodySF (Jvm.Free.JP.mathPlain rfl (by decide +kernel)) hisR ?_
  intro p e s m args below meth c s₁ Bd hml0 hP hK
  obtain ⟨rfl, hZ, hh⟩ := hP
  have hx := Bd.exec
  have hby := Bd.bytes
  have hml : c.maxLocals = 2 := hml0
  have hown : s.vm.findClass "java/lang/Math" = some m.cls := findClass_of_methodNamed Bd.named
  have hnm := (name_of_methodNamed Bd.named Bd.method).1
  have X0 : Stand p l e ({ frames := 0, cells := 0, slots := 0, locals := 0 } : Room) s m #[(.long q1)] below meth c s₁ [] 0 0 := Stand.of_body Bd
  have e0 : s₁.heap = h0 := by rw [← hh, Bd.state]; rfl
  have N0 := Fr.nil n0
  have pre0 : ∀ t, Steps p.tables e below (s₁.setTop (mkF m 0 #[.val (.long q1), .second] [])) t → Steps p.tables e below (s₁.setTop (entryFrame m #[(.long q1)] 2)) t := fun t k => castTop (ef_3_0 m q1) k


  obtain ⟨fs, hr, hrun, hended, hW, hsame⟩ := X0.leave (v := some (.long (-q1))) (fun h => by rw [Bd.returns] at h; cases h)
  refine ⟨_, _, pre0 _ ?_, hrun, hended, _, _, rfl, ?_, ⟨_, rfl⟩, hW, hsame.mono (by decide) (by decide)⟩
  · show Steps _ _ _ (s₁.setTop (mkF m 0 #[.val (.long q1), .second] [])) _
    refine XS.lloadN X0.here hx rfl (hb hby d3_0) rfl ?_
    refine XS.lconst X0.here hx rfl (hb hby d3_1) ?_
    refine XS.lcmp X0.here hx rfl (hb hby d3_2) rfl ?_
    refine XS.ifNo X0.here hx rfl (hb hby d3_3) rfl ((if0 _ _).trans (tlt hc3).2.1) ?_
    refine XS.lloadN X0.here hx rfl (hb hby d3_6) rfl ?_
    refine XS.lneg X0.here hx rfl (hb hby d3_7) rfl ?_
    refine XS.goto X0.here hx rfl (pc0 := 8) (pc' := 12) rfl (hb hby d3_8) (by decide) (by decide) ?_
    exact own_retJ X0 hx Bd.returns (hb hby d3_12) hr
  · show Q3_0 Z q1 h0 n0 _ s₁.heap _
    rw [e0]
    exact ⟨rfl, N0, rfl⟩
theorem d3_11 : decode jdk_29_method_61_code 11 = .ok (.lload_n 0, 1) := by decide +kernel
theorem ef_3_1 (m : MethodId) (x0 : Int64) : entryFrame m #[(.long x0)] 2 = mkF m 0 #[.val (.long x0), .second] [] := by first | (simp [entryFrame, mkF, argsToLocals, Value.category]; done) | rfl
def Q3_1 (Z : State) (q1 : Int64) (h0 : Heap) (n0 : Nat) (v : Option Value) (h : Heap) (L : List Loc) : Prop := own_Qj q1 h0 n0 v h L
set_option maxRecDepth 65536 in
set_option maxHeartbeats 40000000 in
theorem rm3_1 (l : Launch) (Z : State) (a0 : Array Value) (hw : ∀ d ∈ tables_1, d.before a0 Z = true) (ws : List Jvm.Cond) (q1 : Int64) (h0 : Heap) (n0 : Nat) (Z0 : n0 ≤ h0.size) (hc3 : ¬ ((lcmpW q1 (0 : Int64)) < (0 : Int32))) :
    MetFree l (⟨"java/lang/Math", "abs", "(J)J"⟩ : MethodName) (head1 (Jvm.Cond.code (⟨"java/lang/Math", "abs", "(J)J"⟩ : MethodName) jdk_29_method_61_code 2 (some .long) :: ws) ({ frames := 0, cells := 0, slots := 0, locals := 0 } : Room)) (fun a U => a = #[(.long q1)] ∧ Z.Warmed39 U.vm ∧ U.heap = h0) (fun _ _ _ _ _ => True) (fun _ U o U' => ∃ v L, o = .returned v ∧ Q3_1 Z q1 h0 n0 v U'.heap L ∧ FrameEnd U o U' L ({ frames := 0, cells := 0, slots := 0, locals := 0 } : Room).cells ({ frames := 0, cells := 0, slots := 0, locals := 0 } : Room).slots) := by
  refine MetFree.of_bodySF (Jvm.Free.JP.mathPlain rfl (by decide +kernel)) hisR ?_
  intro p e s m args below meth c s₁ Bd hml0 hP hK
  obtain ⟨rfl, hZ, hh⟩ := hP
  have hx := Bd.exec
  have hby := Bd.bytes
  have hml : c.maxLocals = 2 := hml0
  have hown : s.vm.findClass "java/lang/Math" = some m.cls := findClass_of_methodNamed Bd.named
  have hnm := (name_of_methodNamed Bd.named Bd.method).1
  have X0 : Stand p l e ({ frames := 0, cells := 0, slots := 0, locals := 0 } : Room) s m #[(.long q1)] below meth c s₁ [] 0 0 := Stand.of_body Bd
  have e0 : s₁.heap = h0 := by rw [← hh, Bd.state]; rfl
  have N0 := Fr.nil n0
  have pre0 : ∀ t, Steps p.tables e below (s₁.setTop (mkF m 0 #[.val (.long q1), .second] [])) t → Steps p.tables e below (s₁.setTop (entryFrame m #[(.long q1)] 2)) t := fun t k => castTop (ef_3_1 m q1) k


  obtain ⟨fs, hr, hrun, hended, hW, hsame⟩ := X0.leave (v := some (.long q1)) (fun h => by rw [Bd.returns] at h; cases h)
  refine ⟨_, _, pre0 _ ?_, hrun, hended, _, _, rfl, ?_, ⟨_, rfl⟩, hW, hsame.mono (by decide) (by decide)⟩
  · show Steps _ _ _ (s₁.setTop (mkF m 0 #[.val (.long q1), .second] [])) _
    refine XS.lloadN X0.here hx rfl (hb hby d3_0) rfl ?_
    refine XS.lconst X0.here hx rfl (hb hby d3_1) ?_
    refine XS.lcmp X0.here hx rfl (hb hby d3_2) rfl ?_
    refine XS.ifYes X0.here hx rfl (pc0 := 3) (pc' := 11) rfl (hb hby d3_3) rfl ((if0 _ _).trans (flt hc3).2.1) (by decide) (by decide) ?_
    refine XS.lloadN X0.here hx rfl (hb hby d3_11) rfl ?_
    exact own_retJ X0 hx Bd.returns (hb hby d3_12) hr
  · show Q3_1 Z q1 h0 n0 _ s₁.heap _
    rw [e0]
    exact ⟨rfl, N0, rfl⟩
def own_abs (q1 : Int64) : Int64 := if q1 < 0 then -q1 else q1
theorem rm3 (l : Launch) (Z : State) (a0 : Array Value) (hw : ∀ d ∈ tables_1, d.before a0 Z = true) (ws : List Jvm.Cond) (q1 : Int64) (h0 : Heap) (n0 : Nat) (Z0 : n0 ≤ h0.size) :
    MetFree l (⟨"java/lang/Math", "abs", "(J)J"⟩ : MethodName) (head1 (Jvm.Cond.code (⟨"java/lang/Math", "abs", "(J)J"⟩ : MethodName) jdk_29_method_61_code 2 (some .long) :: ws) ({ frames := 0, cells := 0, slots := 0, locals := 0 } : Room)) (fun a U => a = #[(.long q1)] ∧ Z.Warmed39 U.vm ∧ U.heap = h0) (fun _ _ _ _ _ => True) (fun _ U o U' => ∃ v L, o = .returned v ∧ own_Qj (own_abs q1) h0 n0 v U'.heap L ∧ FrameEnd U o U' L ({ frames := 0, cells := 0, slots := 0, locals := 0 } : Room).cells ({ frames := 0, cells := 0, slots := 0, locals := 0 } : Room).slots) := by
  unfold own_abs
  split
  · exact rm3_0 l Z a0 hw ws q1 h0 n0 Z0 ((lw_lt _ _).mpr (by assumption))
  · exact rm3_1 l Z a0 hw ws q1 h0 n0 Z0 (fun h => absurd ((lw_lt _ _).mp h) (by assumption))
theorem d2_0 : decode jdk_29_method_30_code 0 = .ok (.lload_n 0, 1) := by decide +kernel
theorem d2_1 : decode jdk_29_method_30_code 1 = .ok (.lload_n 2, 1) := by decide +kernel
theorem d2_2 : decode jdk_29_method_30_code 2 = .ok (.lmul, 1) := by decide +kernel
theorem d2_3 : decode jdk_29_method_30_code 3 = .ok (.lstore 4, 2) := by decide +kernel
theorem d2_5 : decode jdk_29_method_30_code 5 = .ok (.lload_n 0, 1) := by decide +kernel
theorem d2_6 : decode jdk_29_method_30_code 6 = .ok (.invokestatic 122, 3) := by decide +kernel
theorem d2_9 : decode jdk_29_method_30_code 9 = .ok (.lstore 6, 2) := by decide +kernel
theorem d2_11 : decode jdk_29_method_30_code 11 = .ok (.lload_n 2, 1) := by decide +kernel
theorem d2_12 : decode jdk_29_method_30_code 12 = .ok (.invokestatic 122, 3) := by decide +kernel
theorem d2_15 : decode jdk_29_method_30_code 15 = .ok (.lstore 8, 2) := by decide +kernel
theorem d2_17 : decode jdk_29_method_30_code 17 = .ok (.lload 6, 2) := by decide +kernel
theorem d2_19 : decode jdk_29_method_30_code 19 = .ok (.lload 8, 2) := by decide +kernel
theorem d2_21 : decode jdk_29_method_30_code 21 = .ok (.lor, 1) := by decide +kernel
theorem d2_22 : decode jdk_29_method_30_code 22 = .ok (.bipush 31, 2) := by decide +kernel
theorem d2_24 : decode jdk_29_method_30_code 24 = .ok (.lushr, 1) := by decide +kernel
theorem d2_25 : decode jdk_29_method_30_code 25 = .ok (.lconst 0, 1) := by decide +kernel
theorem d2_26 : decode jdk_29_method_30_code 26 = .ok (.lcmp, 1) := by decide +kernel
theorem d2_27 : decode jdk_29_method_30_code 27 = .ok (.ifCond .eq 44, 3) := by decide +kernel
theorem d2_71 : decode jdk_29_method_30_code 71 = .ok (.lload 4, 2) := by decide +kernel
theorem d2_73 : decode jdk_29_method_30_code 73 = .ok (.lreturn, 1) := by decide +kernel
theorem pd_2_2 : parseMethodDescriptor "(J)J" = some ⟨[.long], some .long⟩ := by decide +kernel
theorem ef_2_0 (m : MethodId) (x0 : Int64) (x1 : Int64) : entryFrame m #[(.long x0), (.long x1)] 10 = mkF m 0 #[.val (.long x0), .second, .val (.long x1), .second, .unset, .unset, .unset, .unset, .unset, .unset] [] := by first | (simp [entryFrame, mkF, argsToLocals, Value.category]; done) | rfl
def Q2_0 (Z : State) (q1 : Int64) (q2 : Int64) (h0 : Heap) (n0 : Nat) (v : Option Value) (h : Heap) (L : List Loc) : Prop := own_Qj (q1 * q2) h0 n0 v h L
set_option maxRecDepth 65536 in
set_option maxHeartbeats 40000000 in
theorem rm2_0 (l : Launch) (Z : State) (a0 : Array Value) (hw : ∀ d ∈ tables_1, d.before a0 Z = true) (ws : List Jvm.Cond) (q1 : Int64) (q2 : Int64) (h0 : Heap) (n0 : Nat) (Z0 : n0 ≤ h0.size) (hc27 : (lcmpW ((((own_abs q1) ||| (own_abs q2)).toUInt64 >>> ((31 : Int32) &&& 0x3f).toInt64.toUInt64).toInt64) (0 : Int64)) = (0 : Int32)) :
    MetFree l (⟨"java/lang/Math", "multiplyExact", "(JJ)J"⟩ : MethodName) (head1 (Jvm.Cond.code (⟨"java/lang/Math", "multiplyExact", "(JJ)J"⟩ : MethodName) jdk_29_method_30_code 10 (some .long) :: ws) ({ frames := 1, cells := 0, slots := 0, locals := 13 } : Room)) (fun a U => a = #[(.long q1), (.long q2)] ∧ Z.Warmed39 U.vm ∧ U.heap = h0) (fun _ _ _ _ _ => True) (fun _ U o U' => ∃ v L, o = .returned v ∧ Q2_0 Z q1 q2 h0 n0 v U'.heap L ∧ FrameEnd U o U' L ({ frames := 1, cells := 0, slots := 0, locals := 13 } : Room).cells ({ frames := 1, cells := 0, slots := 0, locals := 13 } : Room).slots) := by
  refine MetFree.of_bodySF (Jvm.Free.JP.mathPlain rfl (by decide +kernel)) hisR ?_
  intro p e s m args below meth c s₁ Bd hml0 hP hK
  obtain ⟨rfl, hZ, hh⟩ := hP
  have hx := Bd.exec
  have hby := Bd.bytes
  have hml : c.maxLocals = 10 := hml0
  have hown : s.vm.findClass "java/lang/Math" = some m.cls := findClass_of_methodNamed Bd.named
  have hnm := (name_of_methodNamed Bd.named Bd.method).1
  have X0 : Stand p l e ({ frames := 1, cells := 0, slots := 0, locals := 13 } : Room) s m #[(.long q1), (.long q2)] below meth c s₁ [] 0 0 := Stand.of_body Bd
  have e0 : s₁.heap = h0 := by rw [← hh, Bd.state]; rfl
  have N0 := Fr.nil n0
  have pre0 : ∀ t, Steps p.tables e below (s₁.setTop (mkF m 0 #[.val (.long q1), .second, .val (.long q2), .second, .unset, .unset, .unset, .unset, .unset, .unset] [])) t → Steps p.tables e below (s₁.setTop (entryFrame m #[(.long q1), (.long q2)] 10)) t := fun t k => castTop (ef_2_0 m q1 q2) k

  obtain ⟨_, _, ⟨T3, L3, k3, n3⟩, -, X3, ⟨Lc3, hQ3, l3, y3, z3⟩, st3⟩ := Jvm.LawKit.callS X0 hx (y := (⟨"java/lang/Math", "abs", "(J)J"⟩ : MethodName)) hown (mvT hZ (ww hw 14 rfl)) (mvT hZ (ww hw 15 rfl)) (mvT hZ (ww hw 12 rfl)) (mvT hZ (ww hw 16 rfl)) (by decide) (backOf (W := 0) (rm3 l Z a0 hw [] q1  h0 n0 Z0) hZ (ww hw 16 rfl) (ww hw 12 rfl) (by decide) (by decide)) (g := (mkF m 6 #[.val (.long q1), .second, .val (.long q2), .second, .val (.long (q1 * q2)), .second, .unset, .unset, .unset, .unset] [(.long q1)])) rfl (by rw [hml]; rfl) (argsL := [(.long q1)]) (rest := []) (lenOf pd_2_2 rfl) rfl (by show 2 * 0 + _ ≤ _; exact Nat.le_of_eq rfl) (hb hby d2_6) (fun _ _ => ⟨rfl, e0, (by decide : 0 + 0 ≤ _), (by decide : 0 + 0 ≤ _)⟩)
  dsimp only [Pt.U, Pt.locs, Pt.cells, Pt.slots] at X3 l3 y3 z3 st3 hQ3
  subst l3 y3 z3
  obtain ⟨rfl, N3q, eh3⟩ := hQ3
  have N3 := Fr.app N0 N3q
  obtain ⟨_, _, ⟨T4, L4, k4, n4⟩, -, X4, ⟨Lc4, hQ4, l4, y4, z4⟩, st4⟩ := Jvm.LawKit.callS X3 hx (y := (⟨"java/lang/Math", "abs", "(J)J"⟩ : MethodName)) hown (mvT hZ (ww hw 14 rfl)) (mvT hZ (ww hw 15 rfl)) (mvT hZ (ww hw 12 rfl)) (mvT hZ (ww hw 16 rfl)) (by decide) (backOf (W := 0) (rm3 l Z a0 hw [] q2  h0 n0 Z0) hZ (ww hw 16 rfl) (ww hw 12 rfl) (by decide) (by decide)) (g := (mkF m 12 #[.val (.long q1), .second, .val (.long q2), .second, .val (.long (q1 * q2)), .second, .val (.long (own_abs q1)), .second, .unset, .unset] [(.long q2)])) rfl (by rw [hml]; rfl) (argsL := [(.long q2)]) (rest := []) (lenOf pd_2_2 rfl) rfl (by show 2 * 0 + _ ≤ _; exact Nat.le_of_eq rfl) (hb hby d2_12) (fun _ _ => ⟨rfl, eh3, (by decide : 0 + 0 ≤ _), (by decide : 0 + 0 ≤ _)⟩)
  dsimp only [Pt.U, Pt.locs, Pt.cells, Pt.slots] at X4 l4 y4 z4 st4 hQ4
  subst l4 y4 z4
  obtain ⟨rfl, N4q, eh4⟩ := hQ4
  have N4 := Fr.app N3 N4q
  obtain ⟨fs, hr, hrun, hended, hW, hsame⟩ := X4.leave (v := some (.long (q1 * q2))) (fun h => by rw [Bd.returns] at h; cases h)
  refine ⟨_, _, pre0 _ ?_, hrun, hended, _, _, rfl, ?_, ⟨_, rfl⟩, hW, hsame.mono (by decide) (by decide)⟩
  · show Steps _ _ _ (s₁.setTop (mkF m 0 #[.val (.long q1), .second, .val (.long q2), .second, .unset, .unset, .unset, .unset, .unset, .unset] [])) _
    refine XS.lloadN X0.here hx rfl (hb hby d2_0) rfl ?_
    refine XS.lloadN X0.here hx rfl (hb hby d2_1) rfl ?_
    refine XS.lmul X0.here hx rfl (hb hby d2_2) rfl ?_
    refine XS.lstore X0.here hx rfl (hb hby d2_3) rfl (l' := #[.val (.long q1), .second, .val (.long q2), .second, .val (.long (q1 * q2)), .second, .unset, .unset, .unset, .unset]) rfl ?_
    refine XS.lloadN X0.here hx rfl (hb hby d2_5) rfl ?_
    refine st3 _ ?_
    refine XS.lstore X3.here hx rfl (hb hby d2_9) rfl (l' := #[.val (.long q1), .second, .val (.long q2), .second, .val (.long (q1 * q2)), .second, .val (.long (own_abs q1)), .second, .unset, .unset]) rfl ?_
    refine XS.lloadN X3.here hx rfl (hb hby d2_11) rfl ?_
    refine st4 _ ?_
    refine XS.lstore X4.here hx rfl (hb hby d2_15) rfl (l' := #[.val (.long q1), .second, .val (.long q2), .second, .val (.long (q1 * q2)), .second, .val (.long (own_abs q1)), .second, .val (.long (own_abs q2)), .second]) rfl ?_
    refine XS.lload X4.here hx rfl (hb hby d2_17) rfl ?_
    refine XS.lload X4.here hx rfl (hb hby d2_19) rfl ?_
    refine XS.lor X4.here hx rfl (hb hby d2_21) rfl ?_
    refine XS.bipush X4.here hx rfl (hb hby d2_22) ?_
    refine XS.lushr X4.here hx rfl (hb hby d2_24) rfl ?_
    refine XS.lconst X4.here hx rfl (hb hby d2_25) ?_
    refine XS.lcmp X4.here hx rfl (hb hby d2_26) rfl ?_
    refine XS.ifYes X4.here hx rfl (pc0 := 27) (pc' := 71) rfl (hb hby d2_27) rfl ((if0 _ _).trans (teq hc27).1) (by decide) (by decide) ?_
    refine XS.lload X4.here hx rfl (hb hby d2_71) rfl ?_
    exact own_retJ X4 hx Bd.returns (hb hby d2_73) hr
  · show Q2_0 Z q1 q2 h0 n0 _ T4.heap _
    rw [eh4]
    exact ⟨rfl, N4, rfl⟩
theorem d2_30 : decode jdk_29_method_30_code 30 = .ok (.lload_n 2, 1) := by decide +kernel
theorem d2_31 : decode jdk_29_method_30_code 31 = .ok (.lconst 0, 1) := by decide +kernel
theorem d2_32 : decode jdk_29_method_30_code 32 = .ok (.lcmp, 1) := by decide +kernel
theorem d2_33 : decode jdk_29_method_30_code 33 = .ok (.ifCond .eq 12, 3) := by decide +kernel
theorem d2_45 : decode jdk_29_method_30_code 45 = .ok (.lload_n 0, 1) := by decide +kernel
theorem d2_46 : decode jdk_29_method_30_code 46 = .ok (.ldc2_w 128, 3) := by decide +kernel
theorem d2_49 : decode jdk_29_method_30_code 49 = .ok (.lcmp, 1) := by decide +kernel
theorem d2_50 : decode jdk_29_method_30_code 50 = .ok (.ifCond .ne 21, 3) := by decide +kernel
theorem ef_2_1 (m : MethodId) (x0 : Int64) (x1 : Int64) : entryFrame m #[(.long x0), (.long x1)] 10 = mkF m 0 #[.val (.long x0), .second, .val (.long x1), .second, .unset, .unset, .unset, .unset, .unset, .unset] [] := by first | (simp [entryFrame, mkF, argsToLocals, Value.category]; done) | rfl
def Q2_1 (Z : State) (q1 : Int64) (q2 : Int64) (h0 : Heap) (n0 : Nat) (v : Option Value) (h : Heap) (L : List Loc) : Prop := own_Qj (q1 * q2) h0 n0 v h L
set_option maxRecDepth 65536 in
set_option maxHeartbeats 40000000 in
theorem rm2_1 (l : Launch) (Z : State) (a0 : Array Value) (hw : ∀ d ∈ tables_1, d.before a0 Z = true) (ws : List Jvm.Cond) (q1 : Int64) (q2 : Int64) (h0 : Heap) (n0 : Nat) (Z0 : n0 ≤ h0.size) (hc27 : ¬ ((lcmpW ((((own_abs q1) ||| (own_abs q2)).toUInt64 >>> ((31 : Int32) &&& 0x3f).toInt64.toUInt64).toInt64) (0 : Int64)) = (0 : Int32))) (hc33 : (lcmpW q2 (0 : Int64)) = (0 : Int32)) (hc50 : ¬ ((lcmpW q1 (-9223372036854775808 : Int64)) = (0 : Int32))) :
    MetFree l (⟨"java/lang/Math", "multiplyExact", "(JJ)J"⟩ : MethodName) (head1 (Jvm.Cond.code (⟨"java/lang/Math", "multiplyExact", "(JJ)J"⟩ : MethodName) jdk_29_method_30_code 10 (some .long) :: ws) ({ frames := 1, cells := 0, slots := 0, locals := 13 } : Room)) (fun a U => a = #[(.long q1), (.long q2)] ∧ Z.Warmed39 U.vm ∧ U.heap = h0) (fun _ _ _ _ _ => True) (fun _ U o U' => ∃ v L, o = .returned v ∧ Q2_1 Z q1 q2 h0 n0 v U'.heap L ∧ FrameEnd U o U' L ({ frames := 1, cells := 0, slots := 0, locals := 13 } : Room).cells ({ frames := 1, cells := 0, slots := 0, locals := 13 } : Room).slots) := by
  refine MetFree.of_bodySF (Jvm.Free.JP.mathPlain rfl (by decide +kernel)) hisR ?_
  intro p e s m args below meth c s₁ Bd hml0 hP hK
  obtain ⟨rfl, hZ, hh⟩ := hP
  have hx := Bd.exec
  have hby := Bd.bytes
  have hml : c.maxLocals = 10 := hml0
  have hown : s.vm.findClass "java/lang/Math" = some m.cls := findClass_of_methodNamed Bd.named
  have hnm := (name_of_methodNamed Bd.named Bd.method).1
  have X0 : Stand p l e ({ frames := 1, cells := 0, slots := 0, locals := 13 } : Room) s m #[(.long q1), (.long q2)] below meth c s₁ [] 0 0 := Stand.of_body Bd
  have e0 : s₁.heap = h0 := by rw [← hh, Bd.state]; rfl
  have N0 := Fr.nil n0
  have pre0 : ∀ t, Steps p.tables e below (s₁.setTop (mkF m 0 #[.val (.long q1), .second, .val (.long q2), .second, .unset, .unset, .unset, .unset, .unset, .unset] [])) t → Steps p.tables e below (s₁.setTop (entryFrame m #[(.long q1), (.long q2)] 10)) t := fun t k => castTop (ef_2_1 m q1 q2) k

  obtain ⟨_, _, ⟨T3, L3, k3, n3⟩, -, X3, ⟨Lc3, hQ3, l3, y3, z3⟩, st3⟩ := Jvm.LawKit.callS X0 hx (y := (⟨"java/lang/Math", "abs", "(J)J"⟩ : MethodName)) hown (mvT hZ (ww hw 14 rfl)) (mvT hZ (ww hw 15 rfl)) (mvT hZ (ww hw 12 rfl)) (mvT hZ (ww hw 16 rfl)) (by decide) (backOf (W := 0) (rm3 l Z a0 hw [] q1  h0 n0 Z0) hZ (ww hw 16 rfl) (ww hw 12 rfl) (by decide) (by decide)) (g := (mkF m 6 #[.val (.long q1), .second, .val (.long q2), .second, .val (.long (q1 * q2)), .second, .unset, .unset, .unset, .unset] [(.long q1)])) rfl (by rw [hml]; rfl) (argsL := [(.long q1)]) (rest := []) (lenOf pd_2_2 rfl) rfl (by show 2 * 0 + _ ≤ _; exact Nat.le_of_eq rfl) (hb hby d2_6) (fun _ _ => ⟨rfl, e0, (by decide : 0 + 0 ≤ _), (by decide : 0 + 0 ≤ _)⟩)
  dsimp only [Pt.U, Pt.locs, Pt.cells, Pt.slots] at X3 l3 y3 z3 st3 hQ3
  subst l3 y3 z3
  obtain ⟨rfl, N3q, eh3⟩ := hQ3
  have N3 := Fr.app N0 N3q
  obtain ⟨_, _, ⟨T4, L4, k4, n4⟩, -, X4, ⟨Lc4, hQ4, l4, y4, z4⟩, st4⟩ := Jvm.LawKit.callS X3 hx (y := (⟨"java/lang/Math", "abs", "(J)J"⟩ : MethodName)) hown (mvT hZ (ww hw 14 rfl)) (mvT hZ (ww hw 15 rfl)) (mvT hZ (ww hw 12 rfl)) (mvT hZ (ww hw 16 rfl)) (by decide) (backOf (W := 0) (rm3 l Z a0 hw [] q2  h0 n0 Z0) hZ (ww hw 16 rfl) (ww hw 12 rfl) (by decide) (by decide)) (g := (mkF m 12 #[.val (.long q1), .second, .val (.long q2), .second, .val (.long (q1 * q2)), .second, .val (.long (own_abs q1)), .second, .unset, .unset] [(.long q2)])) rfl (by rw [hml]; rfl) (argsL := [(.long q2)]) (rest := []) (lenOf pd_2_2 rfl) rfl (by show 2 * 0 + _ ≤ _; exact Nat.le_of_eq rfl) (hb hby d2_12) (fun _ _ => ⟨rfl, eh3, (by decide : 0 + 0 ≤ _), (by decide : 0 + 0 ≤ _)⟩)
  dsimp only [Pt.U, Pt.locs, Pt.cells, Pt.slots] at X4 l4 y4 z4 st4 hQ4
  subst l4 y4 z4
  obtain ⟨rfl, N4q, eh4⟩ := hQ4
  have N4 := Fr.app N3 N4q
  obtain ⟨fs, hr, hrun, hended, hW, hsame⟩ := X4.leave (v := some (.long (q1 * q2))) (fun h => by rw [Bd.returns] at h; cases h)
  refine ⟨_, _, pre0 _ ?_, hrun, hended, _, _, rfl, ?_, ⟨_, rfl⟩, hW, hsame.mono (by decide) (by decide)⟩
  · show Steps _ _ _ (s₁.setTop (mkF m 0 #[.val (.long q1), .second, .val (.long q2), .second, .unset, .unset, .unset, .unset, .unset, .unset] [])) _
    refine XS.lloadN X0.here hx rfl (hb hby d2_0) rfl ?_
    refine XS.lloadN X0.here hx rfl (hb hby d2_1) rfl ?_
    refine XS.lmul X0.here hx rfl (hb hby d2_2) rfl ?_
    refine XS.lstore X0.here hx rfl (hb hby d2_3) rfl (l' := #[.val (.long q1), .second, .val (.long q2), .second, .val (.long (q1 * q2)), .second, .unset, .unset, .unset, .unset]) rfl ?_
    refine XS.lloadN X0.here hx rfl (hb hby d2_5) rfl ?_
    refine st3 _ ?_
    refine XS.lstore X3.here hx rfl (hb hby d2_9) rfl (l' := #[.val (.long q1), .second, .val (.long q2), .second, .val (.long (q1 * q2)), .second, .val (.long (own_abs q1)), .second, .unset, .unset]) rfl ?_
    refine XS.lloadN X3.here hx rfl (hb hby d2_11) rfl ?_
    refine st4 _ ?_
    refine XS.lstore X4.here hx rfl (hb hby d2_15) rfl (l' := #[.val (.long q1), .second, .val (.long q2), .second, .val (.long (q1 * q2)), .second, .val (.long (own_abs q1)), .second, .val (.long (own_abs q2)), .second]) rfl ?_
    refine XS.lload X4.here hx rfl (hb hby d2_17) rfl ?_
    refine XS.lload X4.here hx rfl (hb hby d2_19) rfl ?_
    refine XS.lor X4.here hx rfl (hb hby d2_21) rfl ?_
    refine XS.bipush X4.here hx rfl (hb hby d2_22) ?_
    refine XS.lushr X4.here hx rfl (hb hby d2_24) rfl ?_
    refine XS.lconst X4.here hx rfl (hb hby d2_25) ?_
    refine XS.lcmp X4.here hx rfl (hb hby d2_26) rfl ?_
    refine XS.ifNo X4.here hx rfl (hb hby d2_27) rfl ((if0 _ _).trans (feq hc27).1) ?_
    refine XS.lloadN X4.here hx rfl (hb hby d2_30) rfl ?_
    refine XS.lconst X4.here hx rfl (hb hby d2_31) ?_
    refine XS.lcmp X4.here hx rfl (hb hby d2_32) rfl ?_
    refine XS.ifYes X4.here hx rfl (pc0 := 33) (pc' := 45) rfl (hb hby d2_33) rfl ((if0 _ _).trans (teq hc33).1) (by decide) (by decide) ?_
    refine XS.lloadN X4.here hx rfl (hb hby d2_45) rfl ?_
    refine X4.ldc2Long hx hown (mvT hZ (ww hw 91 rfl)) (g := (mkF m 46 #[.val (.long q1), .second, .val (.long q2), .second, .val (.long (q1 * q2)), .second, .val (.long (own_abs q1)), .second, .val (.long (own_abs q2)), .second] [(.long q1)])) rfl (hb hby d2_46) _ ?_
    refine XS.lcmp X4.here hx rfl (hb hby d2_49) rfl ?_
    refine XS.ifYes X4.here hx rfl (pc0 := 50) (pc' := 71) rfl (hb hby d2_50) rfl ((if0 _ _).trans (feq hc50).2) (by decide) (by decide) ?_
    refine XS.lload X4.here hx rfl (hb hby d2_71) rfl ?_
    exact own_retJ X4 hx Bd.returns (hb hby d2_73) hr
  · show Q2_1 Z q1 q2 h0 n0 _ T4.heap _
    rw [eh4]
    exact ⟨rfl, N4, rfl⟩
theorem d2_36 : decode jdk_29_method_30_code 36 = .ok (.lload 4, 2) := by decide +kernel
theorem d2_38 : decode jdk_29_method_30_code 38 = .ok (.lload_n 2, 1) := by decide +kernel
theorem d2_39 : decode jdk_29_method_30_code 39 = .ok (.ldiv, 1) := by decide +kernel
theorem d2_40 : decode jdk_29_method_30_code 40 = .ok (.lload_n 0, 1) := by decide +kernel
theorem d2_41 : decode jdk_29_method_30_code 41 = .ok (.lcmp, 1) := by decide +kernel
theorem d2_42 : decode jdk_29_method_30_code 42 = .ok (.ifCond .ne 19, 3) := by decide +kernel
theorem ef_2_2 (m : MethodId) (x0 : Int64) (x1 : Int64) : entryFrame m #[(.long x0), (.long x1)] 10 = mkF m 0 #[.val (.long x0), .second, .val (.long x1), .second, .unset, .unset, .unset, .unset, .unset, .unset] [] := by first | (simp [entryFrame, mkF, argsToLocals, Value.category]; done) | rfl
def Q2_2 (Z : State) (q1 : Int64) (q2 : Int64) (h0 : Heap) (n0 : Nat) (v : Option Value) (h : Heap) (L : List Loc) : Prop := own_Qj (q1 * q2) h0 n0 v h L
set_option maxRecDepth 65536 in
set_option maxHeartbeats 40000000 in
theorem rm2_2 (l : Launch) (Z : State) (a0 : Array Value) (hw : ∀ d ∈ tables_1, d.before a0 Z = true) (ws : List Jvm.Cond) (q1 : Int64) (q2 : Int64) (h0 : Heap) (n0 : Nat) (Z0 : n0 ≤ h0.size) (hc27 : ¬ ((lcmpW ((((own_abs q1) ||| (own_abs q2)).toUInt64 >>> ((31 : Int32) &&& 0x3f).toInt64.toUInt64).toInt64) (0 : Int64)) = (0 : Int32))) (hc33 : ¬ ((lcmpW q2 (0 : Int64)) = (0 : Int32))) (hnz39 : ¬ (q2 = (0 : Int64))) (hc42 : (lcmpW ((q1 * q2) / q2) q1) = (0 : Int32)) (hc50 : ¬ ((lcmpW q1 (-9223372036854775808 : Int64)) = (0 : Int32))) :
    MetFree l (⟨"java/lang/Math", "multiplyExact", "(JJ)J"⟩ : MethodName) (head1 (Jvm.Cond.code (⟨"java/lang/Math", "multiplyExact", "(JJ)J"⟩ : MethodName) jdk_29_method_30_code 10 (some .long) :: ws) ({ frames := 1, cells := 0, slots := 0, locals := 13 } : Room)) (fun a U => a = #[(.long q1), (.long q2)] ∧ Z.Warmed39 U.vm ∧ U.heap = h0) (fun _ _ _ _ _ => True) (fun _ U o U' => ∃ v L, o = .returned v ∧ Q2_2 Z q1 q2 h0 n0 v U'.heap L ∧ FrameEnd U o U' L ({ frames := 1, cells := 0, slots := 0, locals := 13 } : Room).cells ({ frames := 1, cells := 0, slots := 0, locals := 13 } : Room).slots) := by
  refine MetFree.of_bodySF (Jvm.Free.JP.mathPlain rfl (by decide +kernel)) hisR ?_
  intro p e s m args below meth c s₁ Bd hml0 hP hK
  obtain ⟨rfl, hZ, hh⟩ := hP
  have hx := Bd.exec
  have hby := Bd.bytes
  have hml : c.maxLocals = 10 := hml0
  have hown : s.vm.findClass "java/lang/Math" = some m.cls := findClass_of_methodNamed Bd.named
  have hnm := (name_of_methodNamed Bd.named Bd.method).1
  have X0 : Stand p l e ({ frames := 1, cells := 0, slots := 0, locals := 13 } : Room) s m #[(.long q1), (.long q2)] below meth c s₁ [] 0 0 := Stand.of_body Bd
  have e0 : s₁.heap = h0 := by rw [← hh, Bd.state]; rfl
  have N0 := Fr.nil n0
  have pre0 : ∀ t, Steps p.tables e below (s₁.setTop (mkF m 0 #[.val (.long q1), .second, .val (.long q2), .second, .unset, .unset, .unset, .unset, .unset, .unset] [])) t → Steps p.tables e below (s₁.setTop (entryFrame m #[(.long q1), (.long q2)] 10)) t := fun t k => castTop (ef_2_2 m q1 q2) k

  obtain ⟨_, _, ⟨T3, L3, k3, n3⟩, -, X3, ⟨Lc3, hQ3, l3, y3, z3⟩, st3⟩ := Jvm.LawKit.callS X0 hx (y := (⟨"java/lang/Math", "abs", "(J)J"⟩ : MethodName)) hown (mvT hZ (ww hw 14 rfl)) (mvT hZ (ww hw 15 rfl)) (mvT hZ (ww hw 12 rfl)) (mvT hZ (ww hw 16 rfl)) (by decide) (backOf (W := 0) (rm3 l Z a0 hw [] q1  h0 n0 Z0) hZ (ww hw 16 rfl) (ww hw 12 rfl) (by decide) (by decide)) (g := (mkF m 6 #[.val (.long q1), .second, .val (.long q2), .second, .val (.long (q1 * q2)), .second, .unset, .unset, .unset, .unset] [(.long q1)])) rfl (by rw [hml]; rfl) (argsL := [(.long q1)]) (rest := []) (lenOf pd_2_2 rfl) rfl (by show 2 * 0 + _ ≤ _; exact Nat.le_of_eq rfl) (hb hby d2_6) (fun _ _ => ⟨rfl, e0, (by decide : 0 + 0 ≤ _), (by decide : 0 + 0 ≤ _)⟩)
  dsimp only [Pt.U, Pt.locs, Pt.cells, Pt.slots] at X3 l3 y3 z3 st3 hQ3
  subst l3 y3 z3
  obtain ⟨rfl, N3q, eh3⟩ := hQ3
  have N3 := Fr.app N0 N3q
  obtain ⟨_, _, ⟨T4, L4, k4, n4⟩, -, X4, ⟨Lc4, hQ4, l4, y4, z4⟩, st4⟩ := Jvm.LawKit.callS X3 hx (y := (⟨"java/lang/Math", "abs", "(J)J"⟩ : MethodName)) hown (mvT hZ (ww hw 14 rfl)) (mvT hZ (ww hw 15 rfl)) (mvT hZ (ww hw 12 rfl)) (mvT hZ (ww hw 16 rfl)) (by decide) (backOf (W := 0) (rm3 l Z a0 hw [] q2  h0 n0 Z0) hZ (ww hw 16 rfl) (ww hw 12 rfl) (by decide) (by decide)) (g := (mkF m 12 #[.val (.long q1), .second, .val (.long q2), .second, .val (.long (q1 * q2)), .second, .val (.long (own_abs q1)), .second, .unset, .unset] [(.long q2)])) rfl (by rw [hml]; rfl) (argsL := [(.long q2)]) (rest := []) (lenOf pd_2_2 rfl) rfl (by show 2 * 0 + _ ≤ _; exact Nat.le_of_eq rfl) (hb hby d2_12) (fun _ _ => ⟨rfl, eh3, (by decide : 0 + 0 ≤ _), (by decide : 0 + 0 ≤ _)⟩)
  dsimp only [Pt.U, Pt.locs, Pt.cells, Pt.slots] at X4 l4 y4 z4 st4 hQ4
  subst l4 y4 z4
  obtain ⟨rfl, N4q, eh4⟩ := hQ4
  have N4 := Fr.app N3 N4q
  obtain ⟨fs, hr, hrun, hended, hW, hsame⟩ := X4.leave (v := some (.long (q1 * q2))) (fun h => by rw [Bd.returns] at h; cases h)
  refine ⟨_, _, pre0 _ ?_, hrun, hended, _, _, rfl, ?_, ⟨_, rfl⟩, hW, hsame.mono (by decide) (by decide)⟩
  · show Steps _ _ _ (s₁.setTop (mkF m 0 #[.val (.long q1), .second, .val (.long q2), .second, .unset, .unset, .unset, .unset, .unset, .unset] [])) _
    refine XS.lloadN X0.here hx rfl (hb hby d2_0) rfl ?_
    refine XS.lloadN X0.here hx rfl (hb hby d2_1) rfl ?_
    refine XS.lmul X0.here hx rfl (hb hby d2_2) rfl ?_
    refine XS.lstore X0.here hx rfl (hb hby d2_3) rfl (l' := #[.val (.long q1), .second, .val (.long q2), .second, .val (.long (q1 * q2)), .second, .unset, .unset, .unset, .unset]) rfl ?_
    refine XS.lloadN X0.here hx rfl (hb hby d2_5) rfl ?_
    refine st3 _ ?_
    refine XS.lstore X3.here hx rfl (hb hby d2_9) rfl (l' := #[.val (.long q1), .second, .val (.long q2), .second, .val (.long (q1 * q2)), .second, .val (.long (own_abs q1)), .second, .unset, .unset]) rfl ?_
    refine XS.lloadN X3.here hx rfl (hb hby d2_11) rfl ?_
    refine st4 _ ?_
    refine XS.lstore X4.here hx rfl (hb hby d2_15) rfl (l' := #[.val (.long q1), .second, .val (.long q2), .second, .val (.long (q1 * q2)), .second, .val (.long (own_abs q1)), .second, .val (.long (own_abs q2)), .second]) rfl ?_
    refine XS.lload X4.here hx rfl (hb hby d2_17) rfl ?_
    refine XS.lload X4.here hx rfl (hb hby d2_19) rfl ?_
    refine XS.lor X4.here hx rfl (hb hby d2_21) rfl ?_
    refine XS.bipush X4.here hx rfl (hb hby d2_22) ?_
    refine XS.lushr X4.here hx rfl (hb hby d2_24) rfl ?_
    refine XS.lconst X4.here hx rfl (hb hby d2_25) ?_
    refine XS.lcmp X4.here hx rfl (hb hby d2_26) rfl ?_
    refine XS.ifNo X4.here hx rfl (hb hby d2_27) rfl ((if0 _ _).trans (feq hc27).1) ?_
    refine XS.lloadN X4.here hx rfl (hb hby d2_30) rfl ?_
    refine XS.lconst X4.here hx rfl (hb hby d2_31) ?_
    refine XS.lcmp X4.here hx rfl (hb hby d2_32) rfl ?_
    refine XS.ifNo X4.here hx rfl (hb hby d2_33) rfl ((if0 _ _).trans (feq hc33).1) ?_
    refine XS.lload X4.here hx rfl (hb hby d2_36) rfl ?_
    refine XS.lloadN X4.here hx rfl (hb hby d2_38) rfl ?_
    refine XS.ldiv X4.here hx rfl (hb hby d2_39) rfl hnz39 ?_
    refine XS.lloadN X4.here hx rfl (hb hby d2_40) rfl ?_
    refine XS.lcmp X4.here hx rfl (hb hby d2_41) rfl ?_
    refine XS.ifNo X4.here hx rfl (hb hby d2_42) rfl ((if0 _ _).trans (teq hc42).2) ?_
    refine XS.lloadN X4.here hx rfl (hb hby d2_45) rfl ?_
    refine X4.ldc2Long hx hown (mvT hZ (ww hw 91 rfl)) (g := (mkF m 46 #[.val (.long q1), .second, .val (.long q2), .second, .val (.long (q1 * q2)), .second, .val (.long (own_abs q1)), .second, .val (.long (own_abs q2)), .second] [(.long q1)])) rfl (hb hby d2_46) _ ?_
    refine XS.lcmp X4.here hx rfl (hb hby d2_49) rfl ?_
    refine XS.ifYes X4.here hx rfl (pc0 := 50) (pc' := 71) rfl (hb hby d2_50) rfl ((if0 _ _).trans (feq hc50).2) (by decide) (by decide) ?_
    refine XS.lload X4.here hx rfl (hb hby d2_71) rfl ?_
    exact own_retJ X4 hx Bd.returns (hb hby d2_73) hr
  · show Q2_2 Z q1 q2 h0 n0 _ T4.heap _
    rw [eh4]
    exact ⟨rfl, N4, rfl⟩
def own_big (q1 q2 : Int64) : Int64 := ((((own_abs q1) ||| (own_abs q2)).toUInt64 >>> ((31 : Int32) &&& 0x3f).toInt64.toUInt64).toInt64)
theorem rm2 (l : Launch) (Z : State) (a0 : Array Value) (hw : ∀ d ∈ tables_1, d.before a0 Z = true) (ws : List Jvm.Cond) (q1 : Int64) (q2 : Int64) (h0 : Heap) (n0 : Nat) (Z0 : n0 ≤ h0.size) (hm : ¬ q1 = (-9223372036854775808 : Int64)) (ho : own_big q1 q2 = 0 ∨ q2 = 0 ∨ (q1 * q2) / q2 = q1) :
    MetFree l (⟨"java/lang/Math", "multiplyExact", "(JJ)J"⟩ : MethodName) (head1 (Jvm.Cond.code (⟨"java/lang/Math", "multiplyExact", "(JJ)J"⟩ : MethodName) jdk_29_method_30_code 10 (some .long) :: ws) ({ frames := 1, cells := 0, slots := 0, locals := 13 } : Room)) (fun a U => a = #[(.long q1), (.long q2)] ∧ Z.Warmed39 U.vm ∧ U.heap = h0) (fun _ _ _ _ _ => True) (fun _ U o U' => ∃ v L, o = .returned v ∧ own_Qj (q1 * q2) h0 n0 v U'.heap L ∧ FrameEnd U o U' L ({ frames := 1, cells := 0, slots := 0, locals := 13 } : Room).cells ({ frames := 1, cells := 0, slots := 0, locals := 13 } : Room).slots) := by
  have hm' : ¬ (lcmpW q1 (-9223372036854775808 : Int64)) = (0 : Int32) := fun h => hm ((lw_eq _ _).mp h)
  by_cases b : own_big q1 q2 = 0
  · exact rm2_0 l Z a0 hw ws q1 q2 h0 n0 Z0 ((lw_eq _ _).mpr b)
  have b' : ¬ (lcmpW ((((own_abs q1) ||| (own_abs q2)).toUInt64 >>> ((31 : Int32) &&& 0x3f).toInt64.toUInt64).toInt64) (0 : Int64)) = (0 : Int32) := fun h => b ((lw_eq _ _).mp h)
  by_cases z : q2 = 0
  · exact rm2_1 l Z a0 hw ws q1 q2 h0 n0 Z0 b' ((lw_eq _ _).mpr z) hm'
  have d : (q1 * q2) / q2 = q1 := by
    rcases ho with h | h | h
    · exact absurd h b
    · exact absurd h z
    · exact h
  exact rm2_2 l Z a0 hw ws q1 q2 h0 n0 Z0 b' (fun h => z ((lw_eq _ _).mp h)) z ((lw_eq _ _).mpr d) hm'
section OwnThrow
open Jvm.Bundle (tN tFill tFill0 tInit0 oInit steD listD)
abbrev own_AE : String := "java/lang/ArithmeticException"
/-- the tables' words, at a state of the walk -/
def own_W (args : Array Value) (s : State) : Prop := ∀ d ∈ tables_1, Jvm.RoadKit.xOk d = true → d.before args s = true
theorem own_at {args : Array Value} {s : State} (W : own_W args s) (d : Jvm.Cond) (i : Nat) (h : tables_1[i]? = some d) (k : Jvm.RoadKit.xOk d = true) : d.holds args s none s [] = true := W d (List.mem_of_getElem? h) k
/-- Throwable's own tables, where 'suppressedExceptions' is laid in the thrown class alone -/
theorem own_TC {args : Array Value} {s : State} {pl : Platform} (w : own_W args s) (h1 : pl.frameOwnsMonitors = true) (h2 : pl.finalization = false) (h3 : pl.magicAccessors = ({} : Platform).magicAccessors) :
    ∃ T : ThrowableC, T.Links pl s ∧ s.vm.findClass tN = some T.cT ∧ s.methodNamed? tFill = some T.fill ∧ s.methodNamed? tFill0 = some T.fill0 ∧ T.kT.kind = .ordinary ∧
      s.fieldFound? tN "stackTrace" steD = some (T.cT, T.kT, T.i17, T.fStack) ∧ T.fStack.type = .array (.object "java/lang/StackTraceElement") ∧ T.fStack.name = "stackTrace" ∧
      s.fieldFound? tN "UNASSIGNED_STACK" steD = some (T.cT, T.kT, T.i13, T.fUnassigned) := by
  obtain ⟨⟨ct, j0⟩, mt0, nm0, me0, nat0, co0, lk0, sg0⟩ := Cond.native_spec (own_at w (.native tFill0) 72 rfl rfl)
  have fc : s.vm.findClass tN = some ct := findClass_of_methodNamed nm0
  obtain ⟨kt, ck, kn⟩ := Vm.findClass_spec fc
  obtain ⟨_, _, _, _, q, _, _, ko, _, ki⟩ := Cond.superclass_spec fc (own_at w (.superclass tN "java/lang/Object") 69 rfl rfl)
  cases Option.some.inj (ck.symm.trans q)
  obtain ⟨jf, mtf, nmf, mef, atf, sf, af, -, -⟩ := Cond.ownMethod (x := tFill) fc ck (own_at w (.instanceMethod tFill) 64 rfl rfl)
  obtain ⟨_, cdf, q1, cof, byf, lof, ref_, lkf, -, sgf⟩ := Cond.codeSync_spec nmf (own_at w (.codeSync tFill LibCode.Throwable.Fill.code 1 (some (.object tN))) 70 rfl rfl)
  cases Option.some.inj (mef.symm.trans q1)
  obtain ⟨_, _, q2, q3, at0, s0, ab0, na0, de0⟩ := Cond.ownMethod (x := tFill0) fc ck (own_at w (.instanceMethod tFill0) 71 rfl rfl)
  cases Option.some.inj (nm0.symm.trans q2)
  cases Option.some.inj (me0.symm.trans q3)
  obtain ⟨mo, mto, nmo, meo, so, ao⟩ := Cond.instanceMethod_spec (own_at w (.instanceMethod oInit) 52 rfl rfl)
  obtain ⟨_, cdo, q4, coo, byo, -, -, lko, -, sgo⟩ := Cond.code_spec nmo (own_at w (.code oInit ⟨#[0xb1]⟩ 1 none) 53 rfl rfl)
  cases Option.some.inj (meo.symm.trans q4)
  obtain ⟨kob, cko, kno⟩ := Vm.findClass_spec (findClass_of_methodNamed nmo)
  obtain ⟨nao, deo⟩ := name_of_methodNamed nmo meo
  obtain ⟨x1, y1, cf, l1, r1, hcf, p1⟩ := Cond.linkedMethod fc ck nmo (own_at w (.methodLink tN 1 oInit) 51 rfl rfl) pl h3
  obtain ⟨x27, y27, _, l27, r27, q5, p27⟩ := Cond.linkedMethod fc ck nmf (own_at w (.methodLink tN 27 tFill) 62 rfl rfl) pl h3
  cases Option.some.inj (hcf.symm.trans q5)
  obtain ⟨x202, y202, _, l202, r202, q6, p202⟩ := Cond.linkedMethod fc ck nm0 (own_at w (.methodLink tN 202 tFill0) 75 rfl rfl) pl h3
  cases Option.some.inj (hcf.symm.trans q6)
  obtain ⟨x7, i7, f7, k7, g7, a7, s7, n7, -, -, -⟩ := Cond.ownField (t := .object tN) fc ck (by decide +kernel) (own_at w (.fieldLink tN 7 tN "cause" "Ljava/lang/Throwable;") 54 rfl rfl) (own_at w (.lays own_AE tN "cause" "Ljava/lang/Throwable;") 55 rfl rfl) pl h3
  obtain ⟨x17, i17, f17, k17, g17, a17, s17, n17, nn17, t17, ff17⟩ := Cond.ownField (t := .array (.object "java/lang/StackTraceElement")) fc ck (by decide +kernel) (own_at w (.fieldLink tN 17 tN "stackTrace" steD) 57 rfl rfl) (own_at w (.lays own_AE tN "stackTrace" steD) 58 rfl rfl) pl h3
  obtain ⟨x24, i24, f24, k24, g24, a24, s24, n24, nn24, -, ff24⟩ := Cond.ownField (t := .object "java/util/List") fc ck (by decide +kernel) (own_at w (.fieldLink tN 24 tN "suppressedExceptions" listD) 60 rfl rfl) (own_at w (.lays own_AE tN "suppressedExceptions" listD) 61 rfl rfl) pl h3
  obtain ⟨x31, i31, f31, -, -, -, s31, n31, -, -, -⟩ := Cond.ownField (t := .object "java/lang/String") fc ck (by decide +kernel) (own_at w (.fieldLink tN 31 tN "detailMessage" "Ljava/lang/String;") 88 rfl rfl) (own_at w (.lays own_AE tN "detailMessage" "Ljava/lang/String;") 85 rfl rfl) pl h3
  obtain ⟨x13, i13, f13, as, _, k13, g13, a13, s13, -, -, sta, -, -, -, -, ff13⟩ := Cond.ownStatic (t := .array (.object "java/lang/StackTraceElement")) fc ck (by decide +kernel) (own_at w (.fieldLink tN 13 tN "UNASSIGNED_STACK" steD) 56 rfl rfl) (own_at w (.laysStatic tN "UNASSIGNED_STACK" steD) 82 rfl rfl) pl h3
  obtain ⟨x20, i20, f20, _, _, k20, g20, a20, s20, -, -, -, -, -, -, -, -⟩ := Cond.ownStatic (t := .object "java/util/List") fc ck (by decide +kernel) (own_at w (.fieldLink tN 20 tN "SUPPRESSED_SENTINEL" listD) 59 rfl rfl) (own_at w (.laysStatic tN "SUPPRESSED_SENTINEL" listD) 83 rfl rfl) pl h3
  have ap : f17.slot ≠ f24.slot := by
    obtain ⟨ca, ka, _, _, _, _, hca, hka, -⟩ := Cond.lays_spec (own_at w (.lays own_AE tN "stackTrace" steD) 58 rfl rfl)
    obtain ⟨-, d, hd, hdn⟩ := Cond.laysAt hca hka ff17 (own_at w (.lays own_AE tN "stackTrace" steD) 58 rfl rfl)
    obtain ⟨-, d', hd', hdn'⟩ := Cond.laysAt hca hka ff24 (own_at w (.lays own_AE tN "suppressedExceptions" listD) 61 rfl rfl)
    exact Cond.laysApart hd hd' hdn hdn' (by rw [nn17, nn24]; decide)
  have pf : mtf.sig.parameters = [] := by
    have q : (parseMethodDescriptor tFill.desc).map (·.parameters) = some [] := by decide +kernel
    rw [sgf] at q
    simpa using q
  have p0 : mt0.sig.parameters = [.int] := by
    have q : (parseMethodDescriptor tFill0.desc).map (·.parameters) = some [.int] := by decide +kernel
    rw [sg0] at q
    simpa using q
  have po : mto.sig.parameters.length = 0 := by
    have q : (parseMethodDescriptor oInit.desc).map (·.parameters.length) = some 0 := by decide +kernel
    rw [sgo] at q
    simpa using q
  refine ⟨{ cT := ct, kT := kt, cO := ct, aS := as, fillIdx := jf, fill0Idx := j0, initSIdx := 0, obj := mo, kObj := kob, methFill := mtf, methFill0 := mt0, methInitS := mtf, methObj := mto, codeFill := cdf, codeInitS := cdf, codeObj := cdo, fBack := f7, fDepth := f7, fStack := f17, fCause := f7, fSupp := f24, fMsg := f31, fUnassigned := f13, fSentinel := f20, cfT := cf, ci1 := x1, n1 := y1, ci27 := x27, n27 := y27, ci202 := x202, n202 := y202, ci7 := x7, i7 := i7, ci13 := x13, i13 := i13, ci17 := x17, i17 := i17, ci20 := x20, i20 := i20, ci24 := x24, i24 := i24 }, ?_, fc, nmf, nm0, ko, ff17, t17, nn17, ff13⟩
  exact { owns := h1, noFinalization := h2, cls := ck, name := kn, boot := Vm.findClass_boot fc ck, notInterface := ki, initialized := Cond.initialized_spec fc ck (own_at w (.initialized tN) 49 rfl rfl), statics := sta, fillAt := atf, fillCode := cof, fillBytes := byf, fillLocals := lof, fillLocks := lkf, fillStatic := sf, fillAbstract := af, fillReturns := ref_, fillParams := pf, fill0At := at0, fill0Name := na0, fill0Desc := de0, fill0Params := p0, fill0Static := s0, fill0Native := nat0, fill0Code := co0, fill0Locks := lk0, fill0Abstract := ab0, stackInstance := s17, stackNotFinal := n17, unassignedStatic := s13, objClass := cko, objClassName := kno, objMethod := meo, objName := nao, objStatic := so, objAbstract := ao, objFound := by rw [deo]; exact lookupSpecial_of_named nmo meo so, objParams := po, objCode := coo, objBytes := byo, objLocks := lko, causeInstance := s7, causeNotFinal := n7, sentinelStatic := s20, suppInstance := s24, suppNotFinal := n24, msgInstance := s31, msgNotFinal := n31, stackApartSupp := ap, file := hcf, mlink1 := l1, mright1 := r1, pool1 := p1, mlink27 := l27, mright27 := r27, pool27 := p27, mlink202 := l202, mright202 := r202, pool202 := p202, link7 := k7, right7 := g7, at7 := a7, link13 := k13, right13 := g13, at13 := a13, link17 := k17, right17 := g17, at17 := a17, link20 := k20, right20 := g20, at20 := a20, link24 := k24, right24 := g24, at24 := a24 }
section
variable {p : Program} {l : Launch} {e : Env} {R : Room} {s : State} {m : MethodId} {args : Array Value} {below : List Frame} {meth : Method} {c : Code} {T : State} {locs : List Loc} {cells slots : Nat} {Z : State} {a0 : Array Value} {h h0 : Heap}
theorem own_untw {h h' : Heap} {a b : Addr} {sl : Nat} {v : Value} (U : Unt h b) (W : Wr h h' a sl v) : Unt h' b := by
  obtain ⟨cl, u1, u2, u3⟩ := U
  obtain ⟨c0, w1, w2, w3, rfl⟩ := W
  by_cases q : a = b
  · subst q
    cases Option.some.inj (u1.symm.trans w1)
    refine ⟨cl.setSlot sl v, ?_, u2, u3⟩
    have := (Array.getElem?_eq_some_iff.mp w1).1
    simp [this]
  · exact ⟨cl, by rw [Array.getElem?_setIfInBounds_ne q]; exact u1, u2, u3⟩
theorem own_push {h : Heap} {a : Addr} {cell c0 c1 : Cell} (hc : h[a]? = some cell) (q1 : c1.cls = cell.cls) (q2 : c1.vm = cell.vm) (q3 : c1.slots.size = cell.slots.size) : Keep h ((h.push c0).setIfInBounds a c1) [a] ∧ ((h.push c0).setIfInBounds a c1)[a]? = some c1 := by
  have lt := (Array.getElem?_eq_some_iff.mp hc).1
  have self : ((h.push c0).setIfInBounds a c1)[a]? = some c1 := by
    have : a < (h.push c0).size := by rw [Array.size_push]; exact Nat.lt_succ_of_lt lt
    rw [Array.getElem?_setIfInBounds]
    simp [Nat.lt_succ_of_lt lt]
  have oth : ∀ (x : Addr) (c : Cell), h[x]? = some c → x ≠ a → ((h.push c0).setIfInBounds a c1)[x]? = some c := by
    intro x c hx hn
    have lx := (Array.getElem?_eq_some_iff.mp hx).1
    rw [Array.getElem?_setIfInBounds_ne (Ne.symm hn), Array.getElem?_push_lt lx]
    rw [Array.getElem?_eq_getElem lx] at hx
    exact hx
  refine ⟨⟨?_, fun x c hx hn => oth x c hx (fun z => hn (by rw [z]; exact List.mem_singleton.mpr rfl)), fun x c hx => ?_⟩, self⟩
  · rw [Array.size_setIfInBounds, Array.size_push]
    exact Nat.le_succ _
  · by_cases z : x = a
    · subst z
      cases Option.some.inj (hc.symm.trans hx)
      exact ⟨c1, self, q1, q2, q3⟩
    · exact ⟨c, oth x c hx z, rfl, rfl, rfl⟩
/-- what fillInStackTrace leaves: the message as it was -/
def own_Q9 (Z : State) (a : Addr) (w : Value) (h0 : Heap) (n0 : Nat) (v : Option Value) (h : Heap) (L : List Loc) : Prop := v = some (.ref a) ∧ Fr n0 L ∧ Keep h0 h [a] ∧ Unt h a ∧ Fld Z h a "java/lang/Throwable" "detailMessage" "Ljava/lang/String;" w
theorem own_backFill (X : Stand p l e R s m args below meth c T locs cells slots) (hx : p.tables.exec = Jvm.exec) (hl : l.stackTraces = true) (hZ : Z.Warmed39 s.vm) (hw : ∀ d ∈ tables_1, d.before a0 Z = true) (hT : Jvm.RoadKit.ThS Z s.heap) (hK : s.vm.MethodsKnown) (hB : s.vm.FramesKnown below)
    {a : Addr} {u : Addr} {w : Value} {n0 : Nat} (ga : n0 ≤ a) (E : Exa Z h a own_AE) (N : Unt h a) (B : Fld Z h a "java/lang/Throwable" "backtrace" "Ljava/lang/Object;" .null) (F : Fld Z h a "java/lang/Throwable" "stackTrace" "[Ljava/lang/StackTraceElement;" (.ref u))
    (S : Sta Z h "java/lang/Throwable" "UNASSIGNED_STACK" "[Ljava/lang/StackTraceElement;" (.ref u)) (M : Fld Z h a "java/lang/Throwable" "detailMessage" "Ljava/lang/String;" w) (hf : 2 < R.frames) (hlo : 0 + 42 ≤ R.locals) :
    Back l R p e below s args tFill 3 0 (fun A x => x = #[.ref a] ∧ A.U.heap = h ∧ A.cells + 1 ≤ R.cells ∧ A.slots + 2752 ≤ R.slots)
      (fun A _ v B' => ∃ L, own_Q9 Z a w h n0 v B'.U.heap L ∧ B'.locs = A.locs ++ L ∧ B'.cells = A.cells + 1 ∧ B'.slots = A.slots + 2752) := by
  have W : own_W args s := fun d hd k => Jvm.RoadKit.mvX hT hZ k (hw d hd)
  have htr : e.platform.stackTraces = true := by rw [X.admits.platform]; exact hl
  have hpl : e.platform.magicAccessors = ({} : Platform).magicAccessors := by rw [X.admits.platform]
  obtain ⟨T', LT, fT, nf, n0', ko, fS, tS, nS, fU⟩ := own_TC (pl := e.platform) W (by rw [X.admits.platform]) (by rw [X.admits.platform]) hpl
  have mvf : ∀ {n d : String} {cf i : Nat} {k : Class} {f : Field}, Z.fieldFound? "java/lang/Throwable" n d = some (cf, k, i, f) → ∃ k', s.fieldFound? "java/lang/Throwable" n d = some (cf, k', i, f) ∧ k'.statics = k.statics := by
    intro n d cf i k f q
    obtain ⟨k', q', r⟩ := State.fieldFound?_setVm (s := Z) hZ.alike q
    exact ⟨k', q', by rw [r]⟩
  obtain ⟨cell, kA, c1, c2, c3, c4, c5⟩ := E
  obtain ⟨_, u1, u2, u3⟩ := N
  cases Option.some.inj (c1.symm.trans u1)
  obtain ⟨kA', ckA, ekA⟩ := hZ.alike.2.2 _ _ c3
  have fA : s.vm.findClass own_AE = some cell.cls := by rw [hZ.alike.findClass]; exact c2
  obtain ⟨_, _, q1, q2, oA, -, -, -⟩ := Cond.instantiable_spec (own_at W (.instantiable own_AE 6) 19 rfl rfl)
  cases Option.some.inj (q1.symm.trans fA)
  cases Option.some.inj (q2.symm.trans ckA)
  have sz : cell.slots.size = kA'.instanceTypes.size := by
    have e1 : kA'.kind = kA.kind := by rw [ekA]
    have e2 : kA'.instanceTypes = kA.instanceTypes := by rw [ekA]
    rw [e2]
    exact c5 (by rw [← e1]; exact oA)
  have tk : ∀ {f : Field} {v : Value}, kA'.instanceTypes[f.slot]? = some f.type → fits f.type v = true → Jvm.Takes s cell f v := fun {f v} t1 t2 => by
    obtain ⟨z1, z2⟩ := Takes.of_laid (s := s) (v := v) ckA oA t1 t2
    exact ⟨by rw [sz]; simpa using z1, by rw [u2]; exact z2⟩
  obtain ⟨_, _, _, _, fs, y1, y2, -, -, -, -, y7⟩ := F
  cases Option.some.inj (c1.symm.trans y1)
  obtain ⟨_, y2', -⟩ := mvf y2
  cases y2'.symm.trans fS
  obtain ⟨x198, i198, fb, k198, g198, a198, sb, -, nb, tb, fb'⟩ := Cond.ownField (t := .object "java/lang/Object") fT LT.cls (by decide +kernel) (own_at W (.fieldLink tN 198 tN "backtrace" "Ljava/lang/Object;") 80 rfl rfl) (own_at W (.lays own_AE tN "backtrace" "Ljava/lang/Object;") 86 rfl rfl) e.platform hpl
  obtain ⟨_, _, _, _, _, z1, z2, -, -, -, -, z7⟩ := B
  cases Option.some.inj (c1.symm.trans z1)
  obtain ⟨_, z2', -⟩ := mvf z2
  cases z2'.symm.trans fb'
  obtain ⟨_, cM, kM, iM, fM, m1, m2, m3, m4, m5, m6, m7⟩ := M
  cases Option.some.inj (c1.symm.trans m1)
  obtain ⟨_, m2', -⟩ := mvf m2
  obtain ⟨_, _, _, _, iD, fD, -, -, d1, d2, -, -, -, -⟩ := Cond.lays_spec (own_at W (.lays own_AE tN "depth" "I") 87 rfl rfl)
  cases Option.some.inj ((Cond.lays_declared (own_at W (.lays own_AE tN "depth" "I") 87 rfl rfl) d1).symm.trans fT)
  obtain ⟨d3, d4⟩ := State.fieldFound?_spec d1
  cases Option.some.inj (d3.symm.trans LT.cls)
  obtain ⟨nD, tD⟩ := State.fieldFound?_type d1 (t := .int) (by decide +kernel)
  have nM := (State.fieldFound?_type m2' (t := .object "java/lang/String") (by decide +kernel)).1
  obtain ⟨tyS, dS, hS, hnS⟩ := Cond.laysAt fA ckA fS (own_at W (.lays own_AE tN "stackTrace" steD) 58 rfl rfl)
  obtain ⟨tyB, dB, hB', hnB⟩ := Cond.laysAt fA ckA fb' (own_at W (.lays own_AE tN "backtrace" "Ljava/lang/Object;") 86 rfl rfl)
  obtain ⟨tyD, dD, hD, hnD⟩ := Cond.laysAt fA ckA d1 (own_at W (.lays own_AE tN "depth" "I") 87 rfl rfl)
  obtain ⟨-, dM, hM, hnM⟩ := Cond.laysAt fA ckA m2' (own_at W (.lays own_AE tN "detailMessage" "Ljava/lang/String;") 85 rfl rfl)
  have mS := Cond.laysApart hM hS hnM hnS (by rw [nM, nS]; decide)
  have mB := Cond.laysApart hM hB' hnM hnB (by rw [nM, nb]; decide)
  have mD := Cond.laysApart hM hD hnM hnD (by rw [nM, nD]; decide)
  obtain ⟨_, _, _, fu, st, cS, v1, v2, v3, v4, v5, v6, v7⟩ := S
  obtain ⟨_, v1', v1s⟩ := mvf v1
  cases v1'.symm.trans fU
  cases Option.some.inj ((v1s.trans v4).symm.trans LT.statics)
  have ne : T'.aS ≠ a := fun z => by
    rw [z, c1] at v5
    cases v5
    rw [u2] at v6
    cases v6
  have hsel : selectMethod e.platform s.vm cell.cls T'.fill0 = .method T'.fill0 := by
    obtain ⟨_, _, _, r1, r2, r3, r4, -⟩ := Cond.selects_spec (own_at W (.selects own_AE tFill0 tFill0) 84 rfl rfl)
    cases Option.some.inj (r1.symm.trans fA)
    cases Option.some.inj (r2.symm.trans (State.methodFound?_of_named n0' (by decide)))
    cases Option.some.inj (r3.symm.trans n0')
    rw [Launch.admits_selectMethod X.admits]
    exact r4
  obtain ⟨_, cO, kO, -, -, o1, o2, o3⟩ := Cond.arrayOver_spec (own_at W (.arrayOver (.object "java/lang/Object")) 66 rfl rfl)
  have hfb := Cond.soleField_find fT LT.cls (own_at W (.soleField tN "backtrace") 67 rfl rfl) a198 nb sb
  have hfd := Cond.soleField_find fT LT.cls (own_at W (.soleField tN "depth") 68 rfl rfl) d4 nD d2
  intro m' meth' c' A g ig mk x Y y1' y2'' y3' y4' y5' ⟨p1, p2, p3, p4⟩
  obtain ⟨v, B', Y', ⟨rv, vm', lines, hn, -, hU, C5, C6, C7⟩, stp⟩ := Jvm.Free.Str.fillPays (l := l) (W := 0) (len := 3) (sargs := args) (R := R) hx htr T' LT nf (u0 := ⟨.ref u, rfl⟩) (by simp) (self := a) (cell := cell) (cellS := cS) (fun _ => by rw [u2]; simp) (by rw [u2]; simp) (by rw [u3]) (by rw [u3]) y7 hsel ne (fun z => by rw [z] at v6; cases v6) v7
    (tk tyS (by rw [tS]; rfl)) ⟨{ ci198 := x198, i198 := i198, fBack := fb }, ⟨k198, g198, a198, sb⟩, z7⟩ hK hB fT o3 o1 o2 hfb hfd (fun _ => tk tyB (by rw [tb]; rfl)) (fun _ => tk tyD (by rw [tD]; rfl)) hf hlo m' meth' c' A g ig mk x Y y1' y2'' y3' y4' y5' ⟨p1, p3, p4, by rw [p2]; exact c1, by rw [p2]; exact v5⟩
  have hh : B'.U.heap = (h.push (traceHolder cO lines)).setIfInBounds a (Jvm.Free.Str.filledOn T'.toThrowableT fb fD cell ⟨.ref u, rfl⟩ A.U.heap.size lines.length.toInt32) := by rw [hU, ← p2]; rfl
  obtain ⟨KP, SF⟩ := own_push (h := h) (c0 := traceHolder cO lines) (c1 := Jvm.Free.Str.filledOn T'.toThrowableT fb fD cell ⟨.ref u, rfl⟩ A.U.heap.size lines.length.toInt32) c1 rfl rfl (by simp [Jvm.Free.Str.filledOn, Cell.setSlot])
  rw [← hh] at KP SF
  refine ⟨v, ⟨B'.U, B'.locs, B'.cells, A.slots + 2752⟩, Y'.more (Nat.le_refl _) (by rw [C7]; exact Nat.add_le_add_left (Nat.le_trans (traceHolder_size_le cO hn) (by decide)) _), ⟨_, ⟨rv, ?_, KP, ⟨_, SF, u2, u3⟩, ?_⟩, C5, C6, rfl⟩, stp⟩
  · intro y hy
    simp only [List.mem_cons, List.not_mem_nil, or_false] at hy
    rcases hy with rfl | rfl | rfl <;> exact ga
  · refine ⟨_, cM, kM, iM, fM, SF, m2, m3, m4, m5, m6, ?_⟩
    show (Jvm.Free.Str.filledOn T'.toThrowableT fb fD cell ⟨.ref u, rfl⟩ A.U.heap.size lines.length.toInt32).slots[fM.slot]? = some w
    simp only [Jvm.Free.Str.filledOn, Cell.setSlot]
    rw [Array.getElem?_setIfInBounds_ne (Ne.symm mS), Array.getElem?_setIfInBounds_ne (Ne.symm mD), Array.getElem?_setIfInBounds_ne (Ne.symm mB)]
    exact m7
end
/-- a call by a contract that asks that the frames be known -/
theorem own_backK {p : Program} {l : Launch} {e : Env} {R : Room} {s : State} {args : Array Value} {below : List Frame} {Z : State} {a0 : Array Value} {h : Heap} {y : MethodName} {bytes : ByteArray} {maxL : Nat} {ret : Option FieldType} {rm : Room} {len W : Nat} {as' : Array Value} {Q : Option Value → Heap → List Loc → Prop}
    (hM : MetFree l y (head1 [Jvm.Cond.code y bytes maxL ret] rm) (fun a U => a = as' ∧ Z.Warmed39 U.vm ∧ U.heap = h) (fun _ _ bl st _ => st.vm.MethodsKnown ∧ st.vm.FramesKnown bl) (fun _ U o U' => ∃ v L, o = .returned v ∧ Q v U'.heap L ∧ FrameEnd U o U' L rm.cells rm.slots))
    (hZ : Z.Warmed39 s.vm) (wc : (Jvm.Cond.code y bytes maxL ret).before a0 Z = true) (wz : (Jvm.Cond.initialized y.cls).before a0 Z = true) (hf : rm.frames + 1 ≤ R.frames) (hl : W + (maxL + 11) + rm.locals ≤ R.locals) (hK : s.vm.MethodsKnown) (hB : s.vm.FramesKnown below) :
    Back l R p e below s args y len W (fun A a => a = as' ∧ A.U.heap = h ∧ A.cells + rm.cells ≤ R.cells ∧ A.slots + rm.slots ≤ R.slots)
      (fun A _ v B => ∃ L, Q v B.U.heap L ∧ B.locs = A.locs ++ L ∧ B.cells = A.cells + rm.cells ∧ B.slots = A.slots + rm.slots) := by
  refine Jvm.Free.Back.of_freeG (bytes := bytes) (maxL := maxL) (ret := ret) (E := fun _ _ o t L k n => k = rm.cells ∧ n = rm.slots ∧ ∃ v, o = .returned v ∧ Q v t.heap L) hM hf hl ?_ ?_ ?_ ?_ ?_
  · intro m meth c A a Y hp
    have hU : Z.Warmed39 A.U.vm := wtrans hZ Y.warmed
    refine ⟨?_, mv hU wc, mv hU wz, hp.2.2.1, hp.2.2.2⟩
    show (Jvm.Cond.and _ .tt).before a A.U = true
    rw [Cond.before_and, mv hU wc]
    rfl
  · intro m meth c A a g mk Y hp
    exact ⟨hp.1, wtrans hZ Y.warmed, hp.2.1⟩
  · intro m meth c A a g mk Y _ hg
    exact Jvm.Free.known_frames Y hg hK hB
  · rintro _ _ _ _ ⟨v, L, h1, h2, h3⟩
    exact ⟨L, _, _, h3, rfl, rfl, v, h1, h2⟩
  · rintro m meth c A a g mk v t L k n Y hp _ _ ⟨e1, e2, v', e3, e4⟩
    cases e3
    subst e1 e2
    exact ⟨L, e4, rfl, rfl, rfl⟩
end OwnThrow
theorem d7_0 : decode jdk_78_method_2_code 0 = .ok (.aload_n 0, 1) := by decide +kernel
theorem d7_1 : decode jdk_78_method_2_code 1 = .ok (.invokespecial 1, 3) := by decide +kernel
theorem d7_4 : decode jdk_78_method_2_code 4 = .ok (.aload_n 0, 1) := by decide +kernel
theorem d7_5 : decode jdk_78_method_2_code 5 = .ok (.aload_n 0, 1) := by decide +kernel
theorem d7_6 : decode jdk_78_method_2_code 6 = .ok (.putfield 7, 3) := by decide +kernel
theorem d7_9 : decode jdk_78_method_2_code 9 = .ok (.aload_n 0, 1) := by decide +kernel
theorem d7_10 : decode jdk_78_method_2_code 10 = .ok (.getstatic 13, 3) := by decide +kernel
theorem d7_13 : decode jdk_78_method_2_code 13 = .ok (.putfield 17, 3) := by decide +kernel
theorem d7_16 : decode jdk_78_method_2_code 16 = .ok (.aload_n 0, 1) := by decide +kernel
theorem d7_17 : decode jdk_78_method_2_code 17 = .ok (.getstatic 20, 3) := by decide +kernel
theorem d7_20 : decode jdk_78_method_2_code 20 = .ok (.putfield 24, 3) := by decide +kernel
theorem d7_23 : decode jdk_78_method_2_code 23 = .ok (.aload_n 0, 1) := by decide +kernel
theorem d7_24 : decode jdk_78_method_2_code 24 = .ok (.invokevirtual 27, 3) := by decide +kernel
theorem d7_27 : decode jdk_78_method_2_code 27 = .ok (.pop, 1) := by decide +kernel
theorem d7_28 : decode jdk_78_method_2_code 28 = .ok (.aload_n 0, 1) := by decide +kernel
theorem d7_29 : decode jdk_78_method_2_code 29 = .ok (.aload_n 1, 1) := by decide +kernel
theorem d7_30 : decode jdk_78_method_2_code 30 = .ok (.putfield 31, 3) := by decide +kernel
theorem d7_33 : decode jdk_78_method_2_code 33 = .ok (.return_, 1) := by decide +kernel
theorem pn_7 : plainName "java/lang/Throwable" = true := by first | (simp [plainName, overriddenIn]; done) | decide +kernel
theorem pd_7_5 : parseMethodDescriptor "()Ljava/lang/Throwable;" = some ⟨[], some (.object "java/lang/Throwable")⟩ := by decide +kernel
theorem ef_7 (m : MethodId) (x0 : Addr) (x1 : Addr) : entryFrame m #[(.ref x0), (.ref x1)] 2 = mkF m 0 #[.val (.ref x0), .val (.ref x1)] [] := by first | (simp [entryFrame, mkF, argsToLocals, Value.category]; done) | rfl
def Q7 (Z : State) (a1 : Addr) (a2 : Addr) (uc : Value) (us : Value) (up : Value) (um : Value) (w1 : Addr) (w2 : Addr) (h0 : Heap) (n0 : Nat) (v : Option Value) (h : Heap) (L : List Loc) : Prop := v = none ∧ Fr n0 L ∧ Keep h0 h [a1] ∧ Unt h a1
set_option maxRecDepth 65536 in
set_option maxHeartbeats 40000000 in
theorem rm7 (l : Launch) (Z : State) (a0 : Array Value) (hw : ∀ d ∈ tables_1, d.before a0 Z = true) (ws : List Jvm.Cond) (a1 : Addr) (a2 : Addr) (uc : Value) (us : Value) (up : Value) (um : Value) (w1 : Addr) (w2 : Addr) (h0 : Heap) (n0 : Nat) (Z0 : n0 ≤ h0.size) (hl : l.stackTraces = true) (hTh : Jvm.RoadKit.ThS Z h0) (N_a1 : Unt h0 a1) (g_a1 : n0 ≤ a1) (E_a1 : Exa Z h0 a1 "java/lang/ArithmeticException") (F_c : Fld Z h0 a1 "java/lang/Throwable" "cause" "Ljava/lang/Throwable;" uc) (F_s : Fld Z h0 a1 "java/lang/Throwable" "stackTrace" "[Ljava/lang/StackTraceElement;" us) (F_p : Fld Z h0 a1 "java/lang/Throwable" "suppressedExceptions" "Ljava/util/List;" up) (F_m : Fld Z h0 a1 "java/lang/Throwable" "detailMessage" "Ljava/lang/String;" um) (F_b : Fld Z h0 a1 "java/lang/Throwable" "backtrace" "Ljava/lang/Object;" .null) (S_U : Sta Z h0 "java/lang/Throwable" "UNASSIGNED_STACK" "[Ljava/lang/StackTraceElement;" (.ref w1)) (S_S : Sta Z h0 "java/lang/Throwable" "SUPPRESSED_SENTINEL" "Ljava/util/List;" (.ref w2)) :
    MetFree l (⟨"java/lang/Throwable", "<init>", "(Ljava/lang/String;)V"⟩ : MethodName) (head1 (Jvm.Cond.code (⟨"java/lang/Throwable", "<init>", "(Ljava/lang/String;)V"⟩ : MethodName) jdk_78_method_2_code 2 none :: ws) ({ frames := 3, cells := 1, slots := 2752, locals := 42 } : Room)) (fun a U => a = #[(.ref a1), (.ref a2)] ∧ Z.Warmed39 U.vm ∧ U.heap = h0) (fun _ _ bl st _ => st.vm.MethodsKnown ∧ st.vm.FramesKnown bl) (fun _ U o U' => ∃ v L, o = .returned v ∧ Q7 Z a1 a2 uc us up um w1 w2 h0 n0 v U'.heap L ∧ FrameEnd U o U' L ({ frames := 3, cells := 1, slots := 2752, locals := 42 } : Room).cells ({ frames := 3, cells := 1, slots := 2752, locals := 42 } : Room).slots) := by
  refine MetFree.of_bodySF (plainFor_of_name pn_7) hisR ?_
  intro p e s m args below meth c s₁ Bd hml0 hP hK
  obtain ⟨rfl, hZ, hh⟩ := hP
  have hx := Bd.exec
  have hby := Bd.bytes
  have hml : c.maxLocals = 2 := hml0
  have hown : s.vm.findClass "java/lang/Throwable" = some m.cls := findClass_of_methodNamed Bd.named
  have hnm := (name_of_methodNamed Bd.named Bd.method).1
  have X0 : Stand p l e ({ frames := 3, cells := 1, slots := 2752, locals := 42 } : Room) s m #[(.ref a1), (.ref a2)] below meth c s₁ [] 0 0 := Stand.of_body Bd
  have e0 : s₁.heap = h0 := by rw [← hh, Bd.state]; rfl
  have N0 := Fr.nil n0
  have pre0 : ∀ t, Steps p.tables e below (s₁.setTop (mkF m 0 #[.val (.ref a1), .val (.ref a2)] [])) t → Steps p.tables e below (s₁.setTop (entryFrame m #[(.ref a1), (.ref a2)] 2)) t := fun t k => castTop (ef_7 m a1 a2) k

  obtain ⟨T3, X3, e3, st3⟩ := initO X0 hx hZ hown (ww hw 51 rfl) (ww hw 52 rfl) (ww hw 53 rfl) e0 (g := (mkF m 1 #[.val (.ref a1), .val (.ref a2)] [(.ref a1)])) rfl (by rw [hml]; rfl) rfl (hb hby d7_1) (by decide) (W := 0) (by show 2 * 0 + _ ≤ _; exact Nat.le_of_eq rfl) (by decide)
  obtain ⟨T4, h4, X4, e4, W4, st4⟩ := putF X3 hx hZ hown (host := "") (Or.inl (ww hw 54 rfl)) Via.refl e3 F_c E_a1 (Or.inl (ww hw 55 rfl)) (ww hw 19 rfl) (ty := (.object "java/lang/Throwable")) (by decide) rfl rfl (g := (mkF m 6 #[.val (.ref a1), .val (.ref a2)] [(.ref a1), (.ref a1)])) rfl rfl (hb hby d7_6)
  have Fw4 := F_c.same W4
  have K4 : Keep h0 h4 [a1] := (Keep.refl h0 [a1]).wr W4 (Or.inl (List.mem_of_getElem? (i := 0) rfl))
  have N4 := Fr.snoc X4 N0 g_a1
  obtain ⟨T5, X5, e5, st5⟩ := getS2 X4 hx hZ hown (host := "") (Or.inl (ww hw 56 rfl)) Via.refl e4 (S_U.wr W4) (g := (mkF m 10 #[.val (.ref a1), .val (.ref a2)] [(.ref a1)])) rfl (hb hby d7_10)
  obtain ⟨T6, h6, X6, e6, W6, st6⟩ := putF X5 hx hZ hown (host := "") (Or.inl (ww hw 57 rfl)) Via.refl e5 (F_s.other W4 (Or.inr (slot_ne (Or.inl (ww hw 58 rfl)) (Or.inl (ww hw 55 rfl)) (by decide) (t := (.array (.object "java/lang/StackTraceElement"))) (t' := (.object "java/lang/Throwable")) (by decide) (by decide)))) (E_a1.wr W4) (Or.inl (ww hw 58 rfl)) (ww hw 19 rfl) (ty := (.array (.object "java/lang/StackTraceElement"))) (by decide) rfl rfl (g := (mkF m 13 #[.val (.ref a1), .val (.ref a2)] [(.ref w1), (.ref a1)])) rfl rfl (hb hby d7_13)
  have Fw6 := (F_s.other W4 (Or.inr (slot_ne (Or.inl (ww hw 58 rfl)) (Or.inl (ww hw 55 rfl)) (by decide) (t := (.array (.object "java/lang/StackTraceElement"))) (t' := (.object "java/lang/Throwable")) (by decide) (by decide)))).same W6
  have K6 : Keep h0 h6 [a1] := K4.wr W6 (Or.inl (List.mem_of_getElem? (i := 0) rfl))
  have N6 := Fr.snoc X6 N4 g_a1
  obtain ⟨T7, X7, e7, st7⟩ := getS2 X6 hx hZ hown (host := "") (Or.inl (ww hw 59 rfl)) Via.refl e6 ((S_S.wr W4).wr W6) (g := (mkF m 17 #[.val (.ref a1), .val (.ref a2)] [(.ref a1)])) rfl (hb hby d7_17)
  obtain ⟨T8, h8, X8, e8, W8, st8⟩ := putF X7 hx hZ hown (host := "") (Or.inl (ww hw 60 rfl)) Via.refl e7 ((F_p.other W4 (Or.inr (slot_ne (Or.inl (ww hw 61 rfl)) (Or.inl (ww hw 55 rfl)) (by decide) (t := (.object "java/util/List")) (t' := (.object "java/lang/Throwable")) (by decide) (by decide)))).other W6 (Or.inr (slot_ne (Or.inl (ww hw 61 rfl)) (Or.inl (ww hw 58 rfl)) (by decide) (t := (.object "java/util/List")) (t' := (.array (.object "java/lang/StackTraceElement"))) (by decide) (by decide)))) ((E_a1.wr W4).wr W6) (Or.inl (ww hw 61 rfl)) (ww hw 19 rfl) (ty := (.object "java/util/List")) (by decide) rfl rfl (g := (mkF m 20 #[.val (.ref a1), .val (.ref a2)] [(.ref w2), (.ref a1)])) rfl rfl (hb hby d7_20)
  have Fw8 := ((F_p.other W4 (Or.inr (slot_ne (Or.inl (ww hw 61 rfl)) (Or.inl (ww hw 55 rfl)) (by decide) (t := (.object "java/util/List")) (t' := (.object "java/lang/Throwable")) (by decide) (by decide)))).other W6 (Or.inr (slot_ne (Or.inl (ww hw 61 rfl)) (Or.inl (ww hw 58 rfl)) (by decide) (t := (.object "java/util/List")) (t' := (.array (.object "java/lang/StackTraceElement"))) (by decide) (by decide)))).same W8
  have K8 : Keep h0 h8 [a1] := K6.wr W8 (Or.inl (List.mem_of_getElem? (i := 0) rfl))
  have N8 := Fr.snoc X8 N6 g_a1
  obtain ⟨cq9, kq9, q9a, q9b, q9c⟩ := isOf hZ e8 (((E_a1.wr W4).wr W6).wr W8)
  obtain ⟨_, _, ⟨T9, L9, k9, n9⟩, -, X9, ⟨Lc9, hQ9, l9, y9, z9⟩, st9⟩ := X8.virtualBack hx (y := (⟨"java/lang/Throwable", "fillInStackTrace", "()Ljava/lang/Throwable;"⟩ : MethodName)) (z := (⟨"java/lang/Throwable", "fillInStackTrace", "()Ljava/lang/Throwable;"⟩ : MethodName)) hown (mvT hZ (ww hw 62 rfl)) (mvT hZ (ww hw 63 rfl)) (notFace_of_selects (args := #[]) (mvT hZ (ww hw 65 rfl))) (mvT hZ (ww hw 65 rfl)) (mvT hZ (ww hw 64 rfl)) (by decide) (own_backFill X8 hx hl hZ hw (by rw [hh]; exact hTh) hK.1 hK.2 g_a1 (((E_a1.wr W4).wr W6).wr W8) (own_untw (own_untw (own_untw N_a1 W4) W6) W8) (((F_b.other W4 (Or.inr (slot_ne (Or.inl (ww hw 86 rfl)) (Or.inl (ww hw 55 rfl)) (by decide) (t := (.object "java/lang/Object")) (t' := (.object "java/lang/Throwable")) (by decide) (by decide)))).other W6 (Or.inr (slot_ne (Or.inl (ww hw 86 rfl)) (Or.inl (ww hw 58 rfl)) (by decide) (t := (.object "java/lang/Object")) (t' := (.array (.object "java/lang/StackTraceElement"))) (by decide) (by decide)))).other W8 (Or.inr (slot_ne (Or.inl (ww hw 86 rfl)) (Or.inl (ww hw 61 rfl)) (by decide) (t := (.object "java/lang/Object")) (t' := (.object "java/util/List")) (by decide) (by decide)))) (Fw6.other W8 (Or.inr (slot_ne (Or.inl (ww hw 58 rfl)) (Or.inl (ww hw 61 rfl)) (by decide) (t := (.array (.object "java/lang/StackTraceElement"))) (t' := (.object "java/util/List")) (by decide) (by decide)))) (((S_U.wr W4).wr W6).wr W8) (((F_m.other W4 (Or.inr (slot_ne (Or.inl (ww hw 85 rfl)) (Or.inl (ww hw 55 rfl)) (by decide) (t := (.object "java/lang/String")) (t' := (.object "java/lang/Throwable")) (by decide) (by decide)))).other W6 (Or.inr (slot_ne (Or.inl (ww hw 85 rfl)) (Or.inl (ww hw 58 rfl)) (by decide) (t := (.object "java/lang/String")) (t' := (.array (.object "java/lang/StackTraceElement"))) (by decide) (by decide)))).other W8 (Or.inr (slot_ne (Or.inl (ww hw 85 rfl)) (Or.inl (ww hw 61 rfl)) (by decide) (t := (.object "java/lang/String")) (t' := (.object "java/util/List")) (by decide) (by decide)))) (by decide) (by decide)) q9a q9c (g := (mkF m 24 #[.val (.ref a1), .val (.ref a2)] [(.ref a1)])) rfl (by rw [hml]; rfl) (Steps.refl _) (argsL := []) (rest := []) (lenOf pd_7_5 rfl) rfl (by show 2 * 0 + _ ≤ _; exact Nat.le_of_eq rfl) (hb hby d7_24) (fun _ _ => ⟨rfl, e8, (by decide : 0 + 1 ≤ _), (by decide : 0 + 2752 ≤ _)⟩)
  dsimp only [Pt.U, Pt.locs, Pt.cells, Pt.slots] at X9 l9 y9 z9 st9 hQ9
  subst l9 y9 z9
  obtain ⟨rfl, N9q, Kc9, Un9, M9⟩ := hQ9
  have N9 := Fr.app N8 N9q
  have S_UNASSIGNED_STACK_9 := own_stak (((S_U.wr W4).wr W6).wr W8) Kc9 (allS (own_nst (((E_a1.wr W4).wr W6).wr W8)) all0)
  have S_SUPPRESSED_SENTINEL_9 := own_stak (((S_S.wr W4).wr W6).wr W8) Kc9 (allS (own_nst (((E_a1.wr W4).wr W6).wr W8)) all0)
  have K9 : Keep h0 T9.heap [a1] := K8.trans Kc9 (allS (Or.inl (List.mem_of_getElem? (i := 0) rfl)) all0)
  obtain ⟨T10, h10, X10, e10, W10, st10⟩ := putF X9 hx hZ hown (host := "") (Or.inl (ww hw 88 rfl)) Via.refl rfl M9 ((((E_a1.wr W4).wr W6).wr W8).keep Kc9) (Or.inl (ww hw 85 rfl)) (ww hw 19 rfl) (ty := (.object "java/lang/String")) (by decide) rfl rfl (g := (mkF m 30 #[.val (.ref a1), .val (.ref a2)] [(.ref a2), (.ref a1)])) rfl rfl (hb hby d7_30)
  have Fw10 := M9.same W10
  have K10 : Keep h0 h10 [a1] := K9.wr W10 (Or.inl (List.mem_of_getElem? (i := 0) rfl))
  have N10 := Fr.snoc X10 N9 g_a1
  obtain ⟨fs, hr, hrun, hended, hW, hsame⟩ := X10.leave (v := none) (fun _ => rfl)
  refine ⟨_, _, pre0 _ ?_, hrun, hended, _, _, rfl, ?_, ⟨_, rfl⟩, hW, hsame.mono (by decide) (by decide)⟩
  · show Steps _ _ _ (s₁.setTop (mkF m 0 #[.val (.ref a1), .val (.ref a2)] [])) _
    refine XS.aloadN X0.here hx rfl (hb hby d7_0) rfl rfl ?_
    refine st3 _ ?_
    refine XS.aloadN X3.here hx rfl (hb hby d7_4) rfl rfl ?_
    refine XS.aloadN X3.here hx rfl (hb hby d7_5) rfl rfl ?_
    refine st4 _ ?_
    refine XS.aloadN X4.here hx rfl (hb hby d7_9) rfl rfl ?_
    refine st5 _ ?_
    refine st6 _ ?_
    refine XS.aloadN X6.here hx rfl (hb hby d7_16) rfl rfl ?_
    refine st7 _ ?_
    refine st8 _ ?_
    refine XS.aloadN X8.here hx rfl (hb hby d7_23) rfl rfl ?_
    refine st9.trans ?_
    refine XS.pop X9.here hx rfl (hb hby d7_27) rfl rfl ?_
    refine XS.aloadN X9.here hx rfl (hb hby d7_28) rfl rfl ?_
    refine XS.aloadN X9.here hx rfl (hb hby d7_29) rfl rfl ?_
    refine st10 _ ?_
    exact X10.returnOut hx Bd.returns (hb hby d7_33) hr
  · show Q7 Z a1 a2 uc us up um w1 w2 h0 n0 _ T10.heap _
    rw [e10]
    exact ⟨rfl, N10, K10, (own_untw Un9 W10)⟩
theorem d6_0 : decode jdk_59_method_2_code 0 = .ok (.aload_n 0, 1) := by decide +kernel
theorem d6_1 : decode jdk_59_method_2_code 1 = .ok (.aload_n 1, 1) := by decide +kernel
theorem d6_2 : decode jdk_59_method_2_code 2 = .ok (.invokespecial 7, 3) := by decide +kernel
theorem d6_5 : decode jdk_59_method_2_code 5 = .ok (.return_, 1) := by decide +kernel
theorem pn_6 : plainName "java/lang/Exception" = true := by first | (simp [plainName, overriddenIn]; done) | decide +kernel
theorem pd_6_3 : parseMethodDescriptor "(Ljava/lang/String;)V" = some ⟨[(.object "java/lang/String")], none⟩ := by decide +kernel
theorem ef_6 (m : MethodId) (x0 : Addr) (x1 : Addr) : entryFrame m #[(.ref x0), (.ref x1)] 2 = mkF m 0 #[.val (.ref x0), .val (.ref x1)] [] := by first | (simp [entryFrame, mkF, argsToLocals, Value.category]; done) | rfl
def Q6 (Z : State) (a1 : Addr) (a2 : Addr) (uc : Value) (us : Value) (up : Value) (um : Value) (w1 : Addr) (w2 : Addr) (h0 : Heap) (n0 : Nat) (v : Option Value) (h : Heap) (L : List Loc) : Prop := v = none ∧ Fr n0 L ∧ Keep h0 h [a1] ∧ Unt h a1
set_option maxRecDepth 65536 in
set_option maxHeartbeats 40000000 in
theorem rm6 (l : Launch) (Z : State) (a0 : Array Value) (hw : ∀ d ∈ tables_1, d.before a0 Z = true) (ws : List Jvm.Cond) (a1 : Addr) (a2 : Addr) (uc : Value) (us : Value) (up : Value) (um : Value) (w1 : Addr) (w2 : Addr) (h0 : Heap) (n0 : Nat) (Z0 : n0 ≤ h0.size) (hl : l.stackTraces = true) (hTh : Jvm.RoadKit.ThS Z h0) (N_a1 : Unt h0 a1) (g_a1 : n0 ≤ a1) (E_a1 : Exa Z h0 a1 "java/lang/ArithmeticException") (F_c : Fld Z h0 a1 "java/lang/Throwable" "cause" "Ljava/lang/Throwable;" uc) (F_s : Fld Z h0 a1 "java/lang/Throwable" "stackTrace" "[Ljava/lang/StackTraceElement;" us) (F_p : Fld Z h0 a1 "java/lang/Throwable" "suppressedExceptions" "Ljava/util/List;" up) (F_m : Fld Z h0 a1 "java/lang/Throwable" "detailMessage" "Ljava/lang/String;" um) (F_b : Fld Z h0 a1 "java/lang/Throwable" "backtrace" "Ljava/lang/Object;" .null) (S_U : Sta Z h0 "java/lang/Throwable" "UNASSIGNED_STACK" "[Ljava/lang/StackTraceElement;" (.ref w1)) (S_S : Sta Z h0 "java/lang/Throwable" "SUPPRESSED_SENTINEL" "Ljava/util/List;" (.ref w2)) :
    MetFree l (⟨"java/lang/Exception", "<init>", "(Ljava/lang/String;)V"⟩ : MethodName) (head1 (Jvm.Cond.code (⟨"java/lang/Exception", "<init>", "(Ljava/lang/String;)V"⟩ : MethodName) jdk_59_method_2_code 2 none :: ws) ({ frames := 4, cells := 1, slots := 2752, locals := 55 } : Room)) (fun a U => a = #[(.ref a1), (.ref a2)] ∧ Z.Warmed39 U.vm ∧ U.heap = h0) (fun _ _ bl st _ => st.vm.MethodsKnown ∧ st.vm.FramesKnown bl) (fun _ U o U' => ∃ v L, o = .returned v ∧ Q6 Z a1 a2 uc us up um w1 w2 h0 n0 v U'.heap L ∧ FrameEnd U o U' L ({ frames := 4, cells := 1, slots := 2752, locals := 55 } : Room).cells ({ frames := 4, cells := 1, slots := 2752, locals := 55 } : Room).slots) := by
  refine MetFree.of_bodySF (plainFor_of_name pn_6) hisR ?_
  intro p e s m args below meth c s₁ Bd hml0 hP hK
  obtain ⟨rfl, hZ, hh⟩ := hP
  have hx := Bd.exec
  have hby := Bd.bytes
  have hml : c.maxLocals = 2 := hml0
  have hown : s.vm.findClass "java/lang/Exception" = some m.cls := findClass_of_methodNamed Bd.named
  have hnm := (name_of_methodNamed Bd.named Bd.method).1
  have X0 : Stand p l e ({ frames := 4, cells := 1, slots := 2752, locals := 55 } : Room) s m #[(.ref a1), (.ref a2)] below meth c s₁ [] 0 0 := Stand.of_body Bd
  have e0 : s₁.heap = h0 := by rw [← hh, Bd.state]; rfl
  have N0 := Fr.nil n0
  have pre0 : ∀ t, Steps p.tables e below (s₁.setTop (mkF m 0 #[.val (.ref a1), .val (.ref a2)] [])) t → Steps p.tables e below (s₁.setTop (entryFrame m #[(.ref a1), (.ref a2)] 2)) t := fun t k => castTop (ef_6 m a1 a2) k

  obtain ⟨_, _, ⟨T3, L3, k3, n3⟩, -, X3, ⟨Lc3, hQ3, l3, y3, z3⟩, st3⟩ := X0.specialBack hx (y := (⟨"java/lang/Throwable", "<init>", "(Ljava/lang/String;)V"⟩ : MethodName)) rfl hown (mvT hZ (ww hw 45 rfl)) (mvT hZ (ww hw 46 rfl)) (mvT hZ (ww hw 50 rfl)) (by decide) (own_backK (W := 0) (rm7 l Z a0 hw [] a1 a2 _ _ _ _ _ _ h0 n0 Z0 hl (hTh) (N_a1) g_a1 E_a1 F_c F_s F_p F_m F_b S_U S_S) hZ (ww hw 50 rfl) (ww hw 49 rfl) (by decide) (by decide) hK.1 hK.2) (g := (mkF m 2 #[.val (.ref a1), .val (.ref a2)] [(.ref a2), (.ref a1)])) rfl (by rw [hml]; rfl) (Steps.refl _) (a := a1) (argsL := [(.ref a2)]) (rest := []) (lenOf pd_6_3 rfl) rfl (by show 2 * 0 + _ ≤ _; exact Nat.le_of_eq rfl) (hb hby d6_2) (fun _ _ => ⟨rfl, e0, (by decide : 0 + 1 ≤ _), (by decide : 0 + 2752 ≤ _)⟩)
  dsimp only [Pt.U, Pt.locs, Pt.cells, Pt.slots] at X3 l3 y3 z3 st3 hQ3
  subst l3 y3 z3
  obtain ⟨rfl, N3q, Kc3, Un3⟩ := hQ3
  have N3 := Fr.app N0 N3q
  have S_UNASSIGNED_STACK_3 := own_stak S_U Kc3 (allS (own_nst E_a1) all0)
  have S_SUPPRESSED_SENTINEL_3 := own_stak S_S Kc3 (allS (own_nst E_a1) all0)
  have K3 : Keep h0 T3.heap [a1] := (Keep.refl h0 [a1]).trans Kc3 (allS (Or.inl (List.mem_of_getElem? (i := 0) rfl)) all0)
  obtain ⟨fs, hr, hrun, hended, hW, hsame⟩ := X3.leave (v := none) (fun _ => rfl)
  refine ⟨_, _, pre0 _ ?_, hrun, hended, _, _, rfl, ?_, ⟨_, rfl⟩, hW, hsame.mono (by decide) (by decide)⟩
  · show Steps _ _ _ (s₁.setTop (mkF m 0 #[.val (.ref a1), .val (.ref a2)] [])) _
    refine XS.aloadN X0.here hx rfl (hb hby d6_0) rfl rfl ?_
    refine XS.aloadN X0.here hx rfl (hb hby d6_1) rfl rfl ?_
    refine st3.trans ?_
    exact X3.returnOut hx Bd.returns (hb hby d6_5) hr
  · show Q6 Z a1 a2 uc us up um w1 w2 h0 n0 _ T3.heap _
    exact ⟨rfl, N3, K3, Un3⟩
theorem d5_0 : decode jdk_58_method_2_code 0 = .ok (.aload_n 0, 1) := by decide +kernel
theorem d5_1 : decode jdk_58_method_2_code 1 = .ok (.aload_n 1, 1) := by decide +kernel
theorem d5_2 : decode jdk_58_method_2_code 2 = .ok (.invokespecial 7, 3) := by decide +kernel
theorem d5_5 : decode jdk_58_method_2_code 5 = .ok (.return_, 1) := by decide +kernel
theorem pn_5 : plainName "java/lang/RuntimeException" = true := by first | (simp [plainName, overriddenIn]; done) | decide +kernel
theorem pd_5_3 : parseMethodDescriptor "(Ljava/lang/String;)V" = some ⟨[(.object "java/lang/String")], none⟩ := by decide +kernel
theorem ef_5 (m : MethodId) (x0 : Addr) (x1 : Addr) : entryFrame m #[(.ref x0), (.ref x1)] 2 = mkF m 0 #[.val (.ref x0), .val (.ref x1)] [] := by first | (simp [entryFrame, mkF, argsToLocals, Value.category]; done) | rfl
def Q5 (Z : State) (a1 : Addr) (a2 : Addr) (uc : Value) (us : Value) (up : Value) (um : Value) (w1 : Addr) (w2 : Addr) (h0 : Heap) (n0 : Nat) (v : Option Value) (h : Heap) (L : List Loc) : Prop := v = none ∧ Fr n0 L ∧ Keep h0 h [a1] ∧ Unt h a1
set_option maxRecDepth 65536 in
set_option maxHeartbeats 40000000 in
theorem rm5 (l : Launch) (Z : State) (a0 : Array Value) (hw : ∀ d ∈ tables_1, d.before a0 Z = true) (ws : List Jvm.Cond) (a1 : Addr) (a2 : Addr) (uc : Value) (us : Value) (up : Value) (um : Value) (w1 : Addr) (w2 : Addr) (h0 : Heap) (n0 : Nat) (Z0 : n0 ≤ h0.size) (hl : l.stackTraces = true) (hTh : Jvm.RoadKit.ThS Z h0) (N_a1 : Unt h0 a1) (g_a1 : n0 ≤ a1) (E_a1 : Exa Z h0 a1 "java/lang/ArithmeticException") (F_c : Fld Z h0 a1 "java/lang/Throwable" "cause" "Ljava/lang/Throwable;" uc) (F_s : Fld Z h0 a1 "java/lang/Throwable" "stackTrace" "[Ljava/lang/StackTraceElement;" us) (F_p : Fld Z h0 a1 "java/lang/Throwable" "suppressedExceptions" "Ljava/util/List;" up) (F_m : Fld Z h0 a1 "java/lang/Throwable" "detailMessage" "Ljava/lang/String;" um) (F_b : Fld Z h0 a1 "java/lang/Throwable" "backtrace" "Ljava/lang/Object;" .null) (S_U : Sta Z h0 "java/lang/Throwable" "UNASSIGNED_STACK" "[Ljava/lang/StackTraceElement;" (.ref w1)) (S_S : Sta Z h0 "java/lang/Throwable" "SUPPRESSED_SENTINEL" "Ljava/util/List;" (.ref w2)) :
    MetFree l (⟨"java/lang/RuntimeException", "<init>", "(Ljava/lang/String;)V"⟩ : MethodName) (head1 (Jvm.Cond.code (⟨"java/lang/RuntimeException", "<init>", "(Ljava/lang/String;)V"⟩ : MethodName) jdk_58_method_2_code 2 none :: ws) ({ frames := 5, cells := 1, slots := 2752, locals := 68 } : Room)) (fun a U => a = #[(.ref a1), (.ref a2)] ∧ Z.Warmed39 U.vm ∧ U.heap = h0) (fun _ _ bl st _ => st.vm.MethodsKnown ∧ st.vm.FramesKnown bl) (fun _ U o U' => ∃ v L, o = .returned v ∧ Q5 Z a1 a2 uc us up um w1 w2 h0 n0 v U'.heap L ∧ FrameEnd U o U' L ({ frames := 5, cells := 1, slots := 2752, locals := 68 } : Room).cells ({ frames := 5, cells := 1, slots := 2752, locals := 68 } : Room).slots) := by
  refine MetFree.of_bodySF (plainFor_of_name pn_5) hisR ?_
  intro p e s m args below meth c s₁ Bd hml0 hP hK
  obtain ⟨rfl, hZ, hh⟩ := hP
  have hx := Bd.exec
  have hby := Bd.bytes
  have hml : c.maxLocals = 2 := hml0
  have hown : s.vm.findClass "java/lang/RuntimeException" = some m.cls := findClass_of_methodNamed Bd.named
  have hnm := (name_of_methodNamed Bd.named Bd.method).1
  have X0 : Stand p l e ({ frames := 5, cells := 1, slots := 2752, locals := 68 } : Room) s m #[(.ref a1), (.ref a2)] below meth c s₁ [] 0 0 := Stand.of_body Bd
  have e0 : s₁.heap = h0 := by rw [← hh, Bd.state]; rfl
  have N0 := Fr.nil n0
  have pre0 : ∀ t, Steps p.tables e below (s₁.setTop (mkF m 0 #[.val (.ref a1), .val (.ref a2)] [])) t → Steps p.tables e below (s₁.setTop (entryFrame m #[(.ref a1), (.ref a2)] 2)) t := fun t k => castTop (ef_5 m a1 a2) k

  obtain ⟨_, _, ⟨T3, L3, k3, n3⟩, -, X3, ⟨Lc3, hQ3, l3, y3, z3⟩, st3⟩ := X0.specialBack hx (y := (⟨"java/lang/Exception", "<init>", "(Ljava/lang/String;)V"⟩ : MethodName)) rfl hown (mvT hZ (ww hw 39 rfl)) (mvT hZ (ww hw 40 rfl)) (mvT hZ (ww hw 44 rfl)) (by decide) (own_backK (W := 0) (rm6 l Z a0 hw [] a1 a2 _ _ _ _ _ _ h0 n0 Z0 hl (hTh) (N_a1) g_a1 E_a1 F_c F_s F_p F_m F_b S_U S_S) hZ (ww hw 44 rfl) (ww hw 43 rfl) (by decide) (by decide) hK.1 hK.2) (g := (mkF m 2 #[.val (.ref a1), .val (.ref a2)] [(.ref a2), (.ref a1)])) rfl (by rw [hml]; rfl) (Steps.refl _) (a := a1) (argsL := [(.ref a2)]) (rest := []) (lenOf pd_5_3 rfl) rfl (by show 2 * 0 + _ ≤ _; exact Nat.le_of_eq rfl) (hb hby d5_2) (fun _ _ => ⟨rfl, e0, (by decide : 0 + 1 ≤ _), (by decide : 0 + 2752 ≤ _)⟩)
  dsimp only [Pt.U, Pt.locs, Pt.cells, Pt.slots] at X3 l3 y3 z3 st3 hQ3
  subst l3 y3 z3
  obtain ⟨rfl, N3q, Kc3, Un3⟩ := hQ3
  have N3 := Fr.app N0 N3q
  have S_UNASSIGNED_STACK_3 := own_stak S_U Kc3 (allS (own_nst E_a1) all0)
  have S_SUPPRESSED_SENTINEL_3 := own_stak S_S Kc3 (allS (own_nst E_a1) all0)
  have K3 : Keep h0 T3.heap [a1] := (Keep.refl h0 [a1]).trans Kc3 (allS (Or.inl (List.mem_of_getElem? (i := 0) rfl)) all0)
  obtain ⟨fs, hr, hrun, hended, hW, hsame⟩ := X3.leave (v := none) (fun _ => rfl)
  refine ⟨_, _, pre0 _ ?_, hrun, hended, _, _, rfl, ?_, ⟨_, rfl⟩, hW, hsame.mono (by decide) (by decide)⟩
  · show Steps _ _ _ (s₁.setTop (mkF m 0 #[.val (.ref a1), .val (.ref a2)] [])) _
    refine XS.aloadN X0.here hx rfl (hb hby d5_0) rfl rfl ?_
    refine XS.aloadN X0.here hx rfl (hb hby d5_1) rfl rfl ?_
    refine st3.trans ?_
    exact X3.returnOut hx Bd.returns (hb hby d5_5) hr
  · show Q5 Z a1 a2 uc us up um w1 w2 h0 n0 _ T3.heap _
    exact ⟨rfl, N3, K3, Un3⟩
theorem d4_0 : decode jdk_84_method_2_code 0 = .ok (.aload_n 0, 1) := by decide +kernel
theorem d4_1 : decode jdk_84_method_2_code 1 = .ok (.aload_n 1, 1) := by decide +kernel
theorem d4_2 : decode jdk_84_method_2_code 2 = .ok (.invokespecial 7, 3) := by decide +kernel
theorem d4_5 : decode jdk_84_method_2_code 5 = .ok (.return_, 1) := by decide +kernel
theorem pn_4 : plainName "java/lang/ArithmeticException" = true := by first | (simp [plainName, overriddenIn]; done) | decide +kernel
theorem pd_4_3 : parseMethodDescriptor "(Ljava/lang/String;)V" = some ⟨[(.object "java/lang/String")], none⟩ := by decide +kernel
theorem ef_4 (m : MethodId) (x0 : Addr) (x1 : Addr) : entryFrame m #[(.ref x0), (.ref x1)] 2 = mkF m 0 #[.val (.ref x0), .val (.ref x1)] [] := by first | (simp [entryFrame, mkF, argsToLocals, Value.category]; done) | rfl
def Q4 (Z : State) (a1 : Addr) (a2 : Addr) (uc : Value) (us : Value) (up : Value) (um : Value) (w1 : Addr) (w2 : Addr) (h0 : Heap) (n0 : Nat) (v : Option Value) (h : Heap) (L : List Loc) : Prop := v = none ∧ Fr n0 L ∧ Keep h0 h [a1] ∧ Unt h a1
set_option maxRecDepth 65536 in
set_option maxHeartbeats 40000000 in
theorem rm4 (l : Launch) (Z : State) (a0 : Array Value) (hw : ∀ d ∈ tables_1, d.before a0 Z = true) (ws : List Jvm.Cond) (a1 : Addr) (a2 : Addr) (uc : Value) (us : Value) (up : Value) (um : Value) (w1 : Addr) (w2 : Addr) (h0 : Heap) (n0 : Nat) (Z0 : n0 ≤ h0.size) (hl : l.stackTraces = true) (hTh : Jvm.RoadKit.ThS Z h0) (N_a1 : Unt h0 a1) (g_a1 : n0 ≤ a1) (E_a1 : Exa Z h0 a1 "java/lang/ArithmeticException") (F_c : Fld Z h0 a1 "java/lang/Throwable" "cause" "Ljava/lang/Throwable;" uc) (F_s : Fld Z h0 a1 "java/lang/Throwable" "stackTrace" "[Ljava/lang/StackTraceElement;" us) (F_p : Fld Z h0 a1 "java/lang/Throwable" "suppressedExceptions" "Ljava/util/List;" up) (F_m : Fld Z h0 a1 "java/lang/Throwable" "detailMessage" "Ljava/lang/String;" um) (F_b : Fld Z h0 a1 "java/lang/Throwable" "backtrace" "Ljava/lang/Object;" .null) (S_U : Sta Z h0 "java/lang/Throwable" "UNASSIGNED_STACK" "[Ljava/lang/StackTraceElement;" (.ref w1)) (S_S : Sta Z h0 "java/lang/Throwable" "SUPPRESSED_SENTINEL" "Ljava/util/List;" (.ref w2)) :
    MetFree l (⟨"java/lang/ArithmeticException", "<init>", "(Ljava/lang/String;)V"⟩ : MethodName) (head1 (Jvm.Cond.code (⟨"java/lang/ArithmeticException", "<init>", "(Ljava/lang/String;)V"⟩ : MethodName) jdk_84_method_2_code 2 none :: ws) ({ frames := 6, cells := 1, slots := 2752, locals := 81 } : Room)) (fun a U => a = #[(.ref a1), (.ref a2)] ∧ Z.Warmed39 U.vm ∧ U.heap = h0) (fun _ _ bl st _ => st.vm.MethodsKnown ∧ st.vm.FramesKnown bl) (fun _ U o U' => ∃ v L, o = .returned v ∧ Q4 Z a1 a2 uc us up um w1 w2 h0 n0 v U'.heap L ∧ FrameEnd U o U' L ({ frames := 6, cells := 1, slots := 2752, locals := 81 } : Room).cells ({ frames := 6, cells := 1, slots := 2752, locals := 81 } : Room).slots) := by
  refine MetFree.of_bodySF (plainFor_of_name pn_4) hisR ?_
  intro p e s m args below meth c s₁ Bd hml0 hP hK
  obtain ⟨rfl, hZ, hh⟩ := hP
  have hx := Bd.exec
  have hby := Bd.bytes
  have hml : c.maxLocals = 2 := hml0
  have hown : s.vm.findClass "java/lang/ArithmeticException" = some m.cls := findClass_of_methodNamed Bd.named
  have hnm := (name_of_methodNamed Bd.named Bd.method).1
  have X0 : Stand p l e ({ frames := 6, cells := 1, slots := 2752, locals := 81 } : Room) s m #[(.ref a1), (.ref a2)] below meth c s₁ [] 0 0 := Stand.of_body Bd
  have e0 : s₁.heap = h0 := by rw [← hh, Bd.state]; rfl
  have N0 := Fr.nil n0
  have pre0 : ∀ t, Steps p.tables e below (s₁.setTop (mkF m 0 #[.val (.ref a1), .val (.ref a2)] [])) t → Steps p.tables e below (s₁.setTop (entryFrame m #[(.ref a1), (.ref a2)] 2)) t := fun t k => castTop (ef_4 m a1 a2) k

  obtain ⟨_, _, ⟨T3, L3, k3, n3⟩, -, X3, ⟨Lc3, hQ3, l3, y3, z3⟩, st3⟩ := X0.specialBack hx (y := (⟨"java/lang/RuntimeException", "<init>", "(Ljava/lang/String;)V"⟩ : MethodName)) rfl hown (mvT hZ (ww hw 33 rfl)) (mvT hZ (ww hw 34 rfl)) (mvT hZ (ww hw 38 rfl)) (by decide) (own_backK (W := 0) (rm5 l Z a0 hw [] a1 a2 _ _ _ _ _ _ h0 n0 Z0 hl (hTh) (N_a1) g_a1 E_a1 F_c F_s F_p F_m F_b S_U S_S) hZ (ww hw 38 rfl) (ww hw 37 rfl) (by decide) (by decide) hK.1 hK.2) (g := (mkF m 2 #[.val (.ref a1), .val (.ref a2)] [(.ref a2), (.ref a1)])) rfl (by rw [hml]; rfl) (Steps.refl _) (a := a1) (argsL := [(.ref a2)]) (rest := []) (lenOf pd_4_3 rfl) rfl (by show 2 * 0 + _ ≤ _; exact Nat.le_of_eq rfl) (hb hby d4_2) (fun _ _ => ⟨rfl, e0, (by decide : 0 + 1 ≤ _), (by decide : 0 + 2752 ≤ _)⟩)
  dsimp only [Pt.U, Pt.locs, Pt.cells, Pt.slots] at X3 l3 y3 z3 st3 hQ3
  subst l3 y3 z3
  obtain ⟨rfl, N3q, Kc3, Un3⟩ := hQ3
  have N3 := Fr.app N0 N3q
  have S_UNASSIGNED_STACK_3 := own_stak S_U Kc3 (allS (own_nst E_a1) all0)
  have S_SUPPRESSED_SENTINEL_3 := own_stak S_S Kc3 (allS (own_nst E_a1) all0)
  have K3 : Keep h0 T3.heap [a1] := (Keep.refl h0 [a1]).trans Kc3 (allS (Or.inl (List.mem_of_getElem? (i := 0) rfl)) all0)
  obtain ⟨fs, hr, hrun, hended, hW, hsame⟩ := X3.leave (v := none) (fun _ => rfl)
  refine ⟨_, _, pre0 _ ?_, hrun, hended, _, _, rfl, ?_, ⟨_, rfl⟩, hW, hsame.mono (by decide) (by decide)⟩
  · show Steps _ _ _ (s₁.setTop (mkF m 0 #[.val (.ref a1), .val (.ref a2)] [])) _
    refine XS.aloadN X0.here hx rfl (hb hby d4_0) rfl rfl ?_
    refine XS.aloadN X0.here hx rfl (hb hby d4_1) rfl rfl ?_
    refine st3.trans ?_
    exact X3.returnOut hx Bd.returns (hb hby d4_5) hr
  · show Q4 Z a1 a2 uc us up um w1 w2 h0 n0 _ T3.heap _
    exact ⟨rfl, N3, K3, Un3⟩
theorem d2_61 : decode jdk_29_method_30_code 61 = .ok (.new 109, 3) := by decide +kernel
theorem d2_64 : decode jdk_29_method_30_code 64 = .ok (.dup, 1) := by decide +kernel
theorem d2_65 : decode jdk_29_method_30_code 65 = .ok (.ldc 116, 2) := by decide +kernel
theorem d2_67 : decode jdk_29_method_30_code 67 = .ok (.invokespecial 113, 3) := by decide +kernel
theorem d2_70 : decode jdk_29_method_30_code 70 = .ok (.athrow, 1) := by decide +kernel
theorem pd_2_3 : parseMethodDescriptor "(Ljava/lang/String;)V" = some ⟨[(.object "java/lang/String")], none⟩ := by decide +kernel
set_option maxRecDepth 65536 in
set_option maxHeartbeats 40000000 in
theorem rm2_T (l : Launch) (Z : State) (a0 : Array Value) (hw : ∀ d ∈ tables_1, d.before a0 Z = true) (ws : List Jvm.Cond) (q1 : Int64) (q2 : Int64) (w1 : Addr) (w2 : Addr) (h0 : Heap) (n0 : Nat) (Z0 : n0 ≤ h0.size) (hl : l.stackTraces = true) (hTh : Jvm.RoadKit.ThS Z h0) (S_U : Sta Z h0 "java/lang/Throwable" "UNASSIGNED_STACK" "[Ljava/lang/StackTraceElement;" (.ref w1)) (S_S : Sta Z h0 "java/lang/Throwable" "SUPPRESSED_SENTINEL" "Ljava/util/List;" (.ref w2)) (hn0 : h0.size ≤ n0) (hc27 : ¬ ((lcmpW ((((own_abs q1) ||| (own_abs q2)).toUInt64 >>> ((31 : Int32) &&& 0x3f).toInt64.toUInt64).toInt64) (0 : Int64)) = (0 : Int32))) (hc33 : ¬ ((lcmpW q2 (0 : Int64)) = (0 : Int32))) (hnz39 : ¬ (q2 = (0 : Int64))) (hc42 : ¬ ((lcmpW ((q1 * q2) / q2) q1) = (0 : Int32))) :
    MetFree l (⟨"java/lang/Math", "multiplyExact", "(JJ)J"⟩ : MethodName) (head1 (Jvm.Cond.code (⟨"java/lang/Math", "multiplyExact", "(JJ)J"⟩ : MethodName) jdk_29_method_30_code 10 (some .long) :: ws) ({ frames := 7, cells := 4, slots := 2814, locals := 99 } : Room)) (fun a U => a = #[(.long q1), (.long q2)] ∧ Z.Warmed39 U.vm ∧ U.heap = h0) (fun _ _ bl st _ => st.vm.MethodsKnown ∧ st.vm.FramesKnown bl) (fun _ U o U' => ThrewNewW "java/lang/ArithmeticException" U [] 4 2814 o U') := by
  refine MetFree.of_bodySF (Jvm.Free.JP.mathPlain rfl (by decide +kernel)) hisR ?_
  intro p e s m args below meth c s₁ Bd hml0 hP hK
  obtain ⟨rfl, hZ, hh⟩ := hP
  have hx := Bd.exec
  have hby := Bd.bytes
  have hml : c.maxLocals = 10 := hml0
  have hown : s.vm.findClass "java/lang/Math" = some m.cls := findClass_of_methodNamed Bd.named
  have hnm := (name_of_methodNamed Bd.named Bd.method).1
  have X0 : Stand p l e ({ frames := 7, cells := 4, slots := 2814, locals := 99 } : Room) s m #[(.long q1), (.long q2)] below meth c s₁ [] 0 0 := Stand.of_body Bd
  have e0 : s₁.heap = h0 := by rw [← hh, Bd.state]; rfl
  have N0 := Fr.nil n0
  have pre0 : ∀ t, Steps p.tables e below (s₁.setTop (mkF m 0 #[.val (.long q1), .second, .val (.long q2), .second, .unset, .unset, .unset, .unset, .unset, .unset] [])) t → Steps p.tables e below (s₁.setTop (entryFrame m #[(.long q1), (.long q2)] 10)) t := fun t k => castTop (ef_2_0 m q1 q2) k
  have X0 : Stand p l e ({ frames := 7, cells := 4, slots := 2814, locals := 99 } : Room) (s.setVm s.vm) m #[(.long q1), (.long q2)] below meth c s₁ [] 0 0 := X0
  have hS0 : s.Since s.vm 0 := (State.WarmedH.refl s).since 0

  obtain ⟨_, _, ⟨T3, L3, k3, n3⟩, -, X3, ⟨Lc3, hQ3, l3, y3, z3⟩, st3⟩ := Jvm.LawKit.callS X0 hx (y := (⟨"java/lang/Math", "abs", "(J)J"⟩ : MethodName)) hown (mvT hZ (ww hw 14 rfl)) (mvT hZ (ww hw 15 rfl)) (mvT hZ (ww hw 12 rfl)) (mvT hZ (ww hw 16 rfl)) (by decide) (backOf (W := 0) (rm3 l Z a0 hw [] q1  h0 n0 Z0) hZ (ww hw 16 rfl) (ww hw 12 rfl) (by decide) (by decide)) (g := (mkF m 6 #[.val (.long q1), .second, .val (.long q2), .second, .val (.long (q1 * q2)), .second, .unset, .unset, .unset, .unset] [(.long q1)])) rfl (by rw [hml]; rfl) (argsL := [(.long q1)]) (rest := []) (lenOf pd_2_2 rfl) rfl (by show 2 * 0 + _ ≤ _; exact Nat.le_of_eq rfl) (hb hby d2_6) (fun _ _ => ⟨rfl, e0, (by decide : 0 + 0 ≤ _), (by decide : 0 + 0 ≤ _)⟩)
  dsimp only [Pt.U, Pt.locs, Pt.cells, Pt.slots] at X3 l3 y3 z3 st3 hQ3
  subst l3 y3 z3
  obtain ⟨rfl, N3q, eh3⟩ := hQ3
  have N3 := Fr.app N0 N3q
  obtain ⟨_, _, ⟨T4, L4, k4, n4⟩, -, X4, ⟨Lc4, hQ4, l4, y4, z4⟩, st4⟩ := Jvm.LawKit.callS X3 hx (y := (⟨"java/lang/Math", "abs", "(J)J"⟩ : MethodName)) hown (mvT hZ (ww hw 14 rfl)) (mvT hZ (ww hw 15 rfl)) (mvT hZ (ww hw 12 rfl)) (mvT hZ (ww hw 16 rfl)) (by decide) (backOf (W := 0) (rm3 l Z a0 hw [] q2  h0 n0 Z0) hZ (ww hw 16 rfl) (ww hw 12 rfl) (by decide) (by decide)) (g := (mkF m 12 #[.val (.long q1), .second, .val (.long q2), .second, .val (.long (q1 * q2)), .second, .val (.long (own_abs q1)), .second, .unset, .unset] [(.long q2)])) rfl (by rw [hml]; rfl) (argsL := [(.long q2)]) (rest := []) (lenOf pd_2_2 rfl) rfl (by show 2 * 0 + _ ≤ _; exact Nat.le_of_eq rfl) (hb hby d2_12) (fun _ _ => ⟨rfl, eh3, (by decide : 0 + 0 ≤ _), (by decide : 0 + 0 ≤ _)⟩)
  dsimp only [Pt.U, Pt.locs, Pt.cells, Pt.slots] at X4 l4 y4 z4 st4 hQ4
  subst l4 y4 z4
  obtain ⟨rfl, N4q, eh4⟩ := hQ4
  have N4 := Fr.app N3 N4q
  obtain ⟨T5, h5, X5, e5, E5, A5, D5, Un5, st5⟩ := newO X4 hx hZ hown (ww hw 18 rfl) (ww hw 19 rfl) (ww hw 20 rfl) eh4 (g := (mkF m 61 #[.val (.long q1), .second, .val (.long q2), .second, .val (.long (q1 * q2)), .second, .val (.long (own_abs q1)), .second, .val (.long (own_abs q2)), .second] [])) rfl (hb hby d2_61) (by decide) (by decide)
  obtain ⟨b5, g5⟩ : ∃ z, z = h0.size := ⟨_, rfl⟩
  rw [← g5] at A5 D5 st5 Un5
  have F_cause_b5 : Fld Z h5 b5 "java/lang/Throwable" "cause" "Ljava/lang/Throwable;" .null := D5 (Or.inl (ww hw 55 rfl)) (ty := (.object "java/lang/Throwable")) (by decide)
  have F_stackTrace_b5 : Fld Z h5 b5 "java/lang/Throwable" "stackTrace" "[Ljava/lang/StackTraceElement;" .null := D5 (Or.inl (ww hw 58 rfl)) (ty := (.array (.object "java/lang/StackTraceElement"))) (by decide)
  have F_suppressedExceptions_b5 : Fld Z h5 b5 "java/lang/Throwable" "suppressedExceptions" "Ljava/util/List;" .null := D5 (Or.inl (ww hw 61 rfl)) (ty := (.object "java/util/List")) (by decide)
  have F_detailMessage_b5 : Fld Z h5 b5 "java/lang/Throwable" "detailMessage" "Ljava/lang/String;" .null := D5 (Or.inl (ww hw 85 rfl)) (ty := (.object "java/lang/String")) (by decide)
  have F_backtrace_b5 : Fld Z h5 b5 "java/lang/Throwable" "backtrace" "Ljava/lang/Object;" .null := D5 (Or.inl (ww hw 86 rfl)) (ty := (.object "java/lang/Object")) (by decide)
  have F_depth_b5 : Fld Z h5 b5 "java/lang/Throwable" "depth" "I" (.int (0 : Int32)) := D5 (Or.inl (ww hw 87 rfl)) (ty := .int) (by decide)
  have E_b5 := A5
  have g_b5 : n0 ≤ b5 := Nat.le_trans Z0 (Nat.le_of_eq g5.symm)
  have sz_b5 : h0.size ≤ b5 := (Nat.le_trans (Keep.refl h0 []).1 (Nat.le_of_eq g5.symm))
  have K5 : Keep h0 h5 [] := (Keep.refl h0 []).ext E5
  obtain ⟨r6, T6, h6, kq6, X6, e6, E6, hS_6, hk_6, hZ_6, hown_6, st6⟩ := ldcS X5 hx hZ hown (ww hw 21 rfl) (own_wS hw) e5 hS0 (Nat.zero_le _) (g := (mkF m 65 #[.val (.long q1), .second, .val (.long q2), .second, .val (.long (q1 * q2)), .second, .val (.long (own_abs q1)), .second, .val (.long (own_abs q2)), .second] [(.ref b5), (.ref b5)])) rfl (hb hby d2_65) (n := 52) (by decide +kernel) (by decide) (by decide) (by decide)
  have K6 : Keep h0 h6 [] := K5.ext E6
  have hT6 : Jvm.RoadKit.ThS Z h6 := Jvm.RoadKit.ThS.ext E6 (Jvm.RoadKit.ThS.ext E5 hTh)
  have Un6 : Unt h6 b5 := Jvm.RoadKit.Unt.ext E6 Un5
  obtain ⟨_, _, ⟨T7, L7, k7, n7⟩, -, X7, ⟨Lc7, hQ7, l7, y7, z7⟩, st7⟩ := X6.specialBack hx (y := (⟨"java/lang/ArithmeticException", "<init>", "(Ljava/lang/String;)V"⟩ : MethodName)) rfl hown_6 (mvT hZ_6 (ww hw 29 rfl)) (mvT hZ_6 (ww hw 30 rfl)) (mvT hZ_6 (ww hw 32 rfl)) (by decide) (own_backK (W := 1) (rm4 l Z a0 hw [] b5 r6 _ _ _ _ _ _ h6 n0 (Nat.le_trans (Nat.le_trans Z0 E5.1) E6.1) hl (hT6) (Un6) g_b5 (E_b5.ext E6) (F_cause_b5.ext E6) (F_stackTrace_b5.ext E6) (F_suppressedExceptions_b5.ext E6) (F_detailMessage_b5.ext E6) (F_backtrace_b5.ext E6) ((S_U.ext E5).ext E6) ((S_S.ext E5).ext E6)) hZ_6 (ww hw 32 rfl) (ww hw 20 rfl) (by decide) (by decide) (Vm.MethodsKnown.alikeC hS_6.1.alike hK.1) (Vm.FramesKnown.alikeC hS_6.1.alike hK.2)) (g := (mkF m 67 #[.val (.long q1), .second, .val (.long q2), .second, .val (.long (q1 * q2)), .second, .val (.long (own_abs q1)), .second, .val (.long (own_abs q2)), .second] [(.ref r6), (.ref b5), (.ref b5)])) rfl (by rw [hml]; rfl) (Steps.refl _) (a := b5) (argsL := [(.ref r6)]) (rest := [(.ref b5)]) (lenOf pd_2_3 rfl) rfl (by show 2 * 0 + _ ≤ _; exact Nat.le_of_eq rfl) (hb hby d2_67) (fun _ _ => ⟨rfl, e6, (by decide : 3 + 1 ≤ _), (by decide : 62 + 2752 ≤ _)⟩)
  dsimp only [Pt.U, Pt.locs, Pt.cells, Pt.slots] at X7 l7 y7 z7 st7 hQ7
  subst l7 y7 z7
  obtain ⟨rfl, N7q, Kc7, Un7⟩ := hQ7
  have N7 := Fr.app N4 N7q
  have S_UNASSIGNED_STACK_7 := own_stak ((S_U.ext E5).ext E6) Kc7 (allS (own_nst (E_b5.ext E6)) all0)
  have S_SUPPRESSED_SENTINEL_7 := own_stak ((S_S.ext E5).ext E6) Kc7 (allS (own_nst (E_b5.ext E6)) all0)
  have K7 : Keep h0 T7.heap [] := K6.trans Kc7 (allS (Or.inr sz_b5) all0)
  obtain ⟨U, o, hst, hrun, hended, hq⟩ := throwIt X7 hx hZ_6 rfl (cls := "java/lang/ArithmeticException") (ww hw 31 rfl) ((E_b5.ext E6).keep Kc7) Un7 (g := (mkF m 70 #[.val (.long q1), .second, .val (.long q2), .second, .val (.long (q1 * q2)), .second, .val (.long (own_abs q1)), .second, .val (.long (own_abs q2)), .second] [(.ref b5)])) rfl rfl rfl (covers_of_empty (Bd.noHandlers (mv hZ (ww hw 13 rfl))) _) rfl (hb hby d2_70) (BodyLoose.notSynchronized Bd)
  refine ⟨U, o, pre0 _ ?_, hrun, hended, ?_⟩
  · refine XS.lloadN X0.here hx rfl (hb hby d2_0) rfl ?_
    refine XS.lloadN X0.here hx rfl (hb hby d2_1) rfl ?_
    refine XS.lmul X0.here hx rfl (hb hby d2_2) rfl ?_
    refine XS.lstore X0.here hx rfl (hb hby d2_3) rfl (l' := #[.val (.long q1), .second, .val (.long q2), .second, .val (.long (q1 * q2)), .second, .unset, .unset, .unset, .unset]) rfl ?_
    refine XS.lloadN X0.here hx rfl (hb hby d2_5) rfl ?_
    refine st3 _ ?_
    refine XS.lstore X3.here hx rfl (hb hby d2_9) rfl (l' := #[.val (.long q1), .second, .val (.long q2), .second, .val (.long (q1 * q2)), .second, .val (.long (own_abs q1)), .second, .unset, .unset]) rfl ?_
    refine XS.lloadN X3.here hx rfl (hb hby d2_11) rfl ?_
    refine st4 _ ?_
    refine XS.lstore X4.here hx rfl (hb hby d2_15) rfl (l' := #[.val (.long q1), .second, .val (.long q2), .second, .val (.long (q1 * q2)), .second, .val (.long (own_abs q1)), .second, .val (.long (own_abs q2)), .second]) rfl ?_
    refine XS.lload X4.here hx rfl (hb hby d2_17) rfl ?_
    refine XS.lload X4.here hx rfl (hb hby d2_19) rfl ?_
    refine XS.lor X4.here hx rfl (hb hby d2_21) rfl ?_
    refine XS.bipush X4.here hx rfl (hb hby d2_22) ?_
    refine XS.lushr X4.here hx rfl (hb hby d2_24) rfl ?_
    refine XS.lconst X4.here hx rfl (hb hby d2_25) ?_
    refine XS.lcmp X4.here hx rfl (hb hby d2_26) rfl ?_
    refine XS.ifNo X4.here hx rfl (hb hby d2_27) rfl ((if0 _ _).trans (feq hc27).1) ?_
    refine XS.lloadN X4.here hx rfl (hb hby d2_30) rfl ?_
    refine XS.lconst X4.here hx rfl (hb hby d2_31) ?_
    refine XS.lcmp X4.here hx rfl (hb hby d2_32) rfl ?_
    refine XS.ifNo X4.here hx rfl (hb hby d2_33) rfl ((if0 _ _).trans (feq hc33).1) ?_
    refine XS.lload X4.here hx rfl (hb hby d2_36) rfl ?_
    refine XS.lloadN X4.here hx rfl (hb hby d2_38) rfl ?_
    refine XS.ldiv X4.here hx rfl (hb hby d2_39) rfl hnz39 ?_
    refine XS.lloadN X4.here hx rfl (hb hby d2_40) rfl ?_
    refine XS.lcmp X4.here hx rfl (hb hby d2_41) rfl ?_
    refine XS.ifYes X4.here hx rfl (pc0 := 42) (pc' := 61) rfl (hb hby d2_42) rfl ((if0 _ _).trans (feq hc42).2) (by decide) (by decide) ?_
    refine st5 _ ?_
    refine XS.dup X5.here hx rfl (hb hby d2_64) rfl rfl ?_
    refine st6 _ ?_
    refine st7.trans ?_
    exact hst
  · exact threw_monoW (hq.since hS_6 (Nat.le_trans hk_6 (by rw [← e6]; exact Nat.le_trans (by rw [e6]; exact Kc7.1) hst.heap_le))) (by decide) (by decide) (fun y hy => Or.inr (by rw [hh]; exact Nat.le_trans hn0 (N7 y hy)))

theorem d1_0 : decode prog_9_method_2_code 0 = .ok (.ldc2_w 11, 3) := by decide +kernel
theorem d1_3 : decode prog_9_method_2_code 3 = .ok (.iload_n 0, 1) := by decide +kernel
theorem d1_4 : decode prog_9_method_2_code 4 = .ok (.i2l, 1) := by decide +kernel
theorem d1_5 : decode prog_9_method_2_code 5 = .ok (.ldc2_w 13, 3) := by decide +kernel
theorem d1_8 : decode prog_9_method_2_code 8 = .ok (.ladd, 1) := by decide +kernel
theorem d1_9 : decode prog_9_method_2_code 9 = .ok (.lmul, 1) := by decide +kernel
theorem d1_10 : decode prog_9_method_2_code 10 = .ok (.iload_n 1, 1) := by decide +kernel
theorem d1_11 : decode prog_9_method_2_code 11 = .ok (.i2l, 1) := by decide +kernel
theorem d1_12 : decode prog_9_method_2_code 12 = .ok (.invokestatic 15, 3) := by decide +kernel
theorem d1_15 : decode prog_9_method_2_code 15 = .ok (.lstore_n 2, 1) := by decide +kernel
theorem d1_16 : decode prog_9_method_2_code 16 = .ok (.goto 9, 3) := by decide +kernel
theorem d1_25 : decode prog_9_method_2_code 25 = .ok (.lload_n 2, 1) := by decide +kernel
theorem d1_26 : decode prog_9_method_2_code 26 = .ok (.lreturn, 1) := by decide +kernel
theorem pn_1 : plainName "com/example/hush_vault/hushvault/crypto/Scrypt" = true := by first | (simp [plainName, overriddenIn]; done) | decide +kernel
theorem pd_1_1 : parseMethodDescriptor "(JJ)J" = some ⟨[.long, .long], some .long⟩ := by decide +kernel
theorem ef_1 (m : MethodId) (x0 : Int32) (x1 : Int32) : entryFrame m #[(.int x0), (.int x1)] 5 = mkF m 0 #[.val (.int x0), .val (.int x1), .unset, .unset, .unset] [] := by first | (simp [entryFrame, mkF, argsToLocals, Value.category]; done) | rfl
theorem d1_19 : decode prog_9_method_2_code 19 = .ok (.astore 4, 2) := by decide +kernel
theorem d1_21 : decode prog_9_method_2_code 21 = .ok (.ldc2_w 25, 3) := by decide +kernel
theorem d1_24 : decode prog_9_method_2_code 24 = .ok (.lstore_n 2, 1) := by decide +kernel
theorem pd_0_0 : parseMethodDescriptor "(II)J" = some ⟨[.int, .int], some .long⟩ := by decide +kernel
section OwnMem
variable {p : Program} {l : Launch} {e : Env} {R : Room} {s : State} {m : MethodId} {args : Array Value} {below : List Frame} {meth : Method} {c : Code} {T : State} {locs : List Loc} {cells slots : Nat} {Z : State} {a0 : Array Value} {h0 : Heap}
theorem own_top {s : State} (hs : s.topJava?.isSome) (f : JFrame) : s.setTop f = s.setFrames (.java f :: s.frames.tail) := by
  have hf := State.frames_setTop' f hs
  obtain ⟨t, ht, -⟩ := State.frames_cons hf
  have e1 := State.setFrames_self ht
  rw [State.setFrames_setTop hs f, hf] at e1
  exact e1.symm
abbrev own_mN : MethodName := ⟨"com/example/hush_vault/hushvault/crypto/Scrypt", "memoryBytes", "(II)J"⟩
abbrev own_mW : Jvm.Cond := .codeWith own_mN prog_9_method_2_code 5 (some .long) [(0, 16, 19, 21)]
abbrev own_xN : MethodName := ⟨"java/lang/Math", "multiplyExact", "(JJ)J"⟩
abbrev own_q1 (p1 : Int32) : Int64 := (128 : Int64) * (p1.toInt64 + (2 : Int64))
abbrev own_MX : Int64 := 9223372036854775807
/-- what the case's start says of Throwable's statics, and of the frames -/
def own_ST (Z : State) (h0 : Heap) (w1 w2 : Addr) : Prop := Jvm.RoadKit.ThS Z h0 ∧ Sta Z h0 "java/lang/Throwable" "UNASSIGNED_STACK" "[Ljava/lang/StackTraceElement;" (.ref w1) ∧ Sta Z h0 "java/lang/Throwable" "SUPPRESSED_SENTINEL" "Ljava/util/List;" (.ref w2)
theorem own_cw {args : Array Value} {s : State} {x : MethodName} {bytes : ByteArray} {maxLocals : Nat} {ret : Option FieldType} (h : (Jvm.Cond.code x bytes maxLocals ret).before args s = true) :
    ∃ m meth c, s.methodNamed? x = some m ∧ s.vm.method? m = some meth ∧ meth.code = some c ∧ c.code = bytes ∧ c.maxLocals = maxLocals ∧ c.exceptionTable.toList.map (fun h => (h.startPc, h.endPc, h.handlerPc, h.catchType)) = [] ∧ meth.sig.returnType = ret ∧ meth.locks = false ∧ parseMethodDescriptor x.desc = some meth.sig := by
  refine Cond.codeWith_spec (args := args) (first := s) (o := none) (idx := []) ?_
  have h' : (Jvm.Cond.code x bytes maxLocals ret).value args s none s [] = some true := Cond.before_iff.mp h
  rw [Cond.code_iff_codeWith_nil] at h'
  exact Cond.before_iff.mpr h'
def own_QM (v0 : Int64) (U : State) (o : Outcome) (U' : State) : Prop := o = .returned (some (.long v0)) ∧ ReturnedEndW U o U' [] 4 2814
set_option maxRecDepth 65536 in
set_option maxHeartbeats 40000000 in
/-- memoryBytes, where the product is too great: what multiplyExact throws is caught -/
theorem rm1_T (l : Launch) (Z : State) (a0 : Array Value) (hw : ∀ d ∈ tables_1, d.before a0 Z = true) (ws : List Jvm.Cond) (p1 p2 : Int32) (w1 w2 : Addr) (h0 : Heap) (hl : l.stackTraces = true) (hS : own_ST Z h0 w1 w2)
    (c1 : ¬ own_big (own_q1 p1) p2.toInt64 = 0) (c2 : ¬ p2.toInt64 = 0) (c3 : ¬ (own_q1 p1 * p2.toInt64) / p2.toInt64 = own_q1 p1) :
    MetFree l own_mN (head1 (own_mW :: ws) ({ frames := 8, cells := 4, slots := 2814, locals := 120 } : Room)) (fun a U => a = #[.int p1, .int p2] ∧ Z.Warmed39 U.vm ∧ U.heap = h0) (fun _ _ bl st _ => st.vm.MethodsKnown ∧ st.vm.FramesKnown bl) (fun _ U o U' => own_QM own_MX U o U') := by
  refine MetFree.of_bodySF (plainFor_of_name pn_1) Jvm.RoadKit.hisWith ?_
  intro p e s m args below meth c s₁ Bd hml0 hP hK
  obtain ⟨rfl, hZ, hh⟩ := hP
  have hx := Bd.exec
  have hby := Bd.bytes
  have hml : c.maxLocals = 5 := hml0
  have hown : s.vm.findClass "com/example/hush_vault/hushvault/crypto/Scrypt" = some m.cls := findClass_of_methodNamed Bd.named
  have X0 : Stand p l e ({ frames := 8, cells := 4, slots := 2814, locals := 120 } : Room) s m #[.int p1, .int p2] below meth c s₁ [] 0 0 := Stand.of_body Bd
  have e0 : s₁.heap = h0 := by rw [← hh, Bd.state]; rfl
  have pre0 : ∀ t, Steps p.tables e below (s₁.setTop (mkF m 0 #[.val (.int p1), .val (.int p2), .unset, .unset, .unset] [])) t → Steps p.tables e below (s₁.setTop (entryFrame m #[(.int p1), (.int p2)] 5)) t := fun t k => castTop (ef_1 m p1 p2) k
  obtain ⟨m', meth', c', t1, t2, t3, -, -, t4, -, -, -⟩ := Cond.codeWith_spec (mv (args := #[]) hZ (ww hw 7 rfl))
  cases t1.symm.trans Bd.named
  cases Option.some.inj (t2.symm.trans Bd.method)
  have hcc : meth.code = some c := X0.code
  cases Option.some.inj (t3.symm.trans hcc)
  obtain ⟨mk, mm, cM, nM, eM, oM, bM, lM, -, -, -, sM⟩ := own_cw (mv (args := #[]) hZ (ww hw 13 rfl))
  obtain ⟨vm1, o, s2, X1, stc, hend, hq⟩ := Jvm.Free.own_call X0 hx hown (mvT hZ (ww hw 10 rfl)) (mvT hZ (ww hw 11 rfl)) (mvT hZ (ww hw 12 rfl)) nM eM oM sM (by decide)
    (rm2_T l Z a0 hw [] (own_q1 p1) p2.toInt64 w1 w2 h0 h0.size (Nat.le_refl _) hl hS.1 hS.2.1 hS.2.2 (Nat.le_refl _) (fun h => c1 ((lw_eq _ _).mp h)) (fun h => c2 ((lw_eq _ _).mp h)) c2 (fun h => c3 ((lw_eq _ _).mp h)))
    (g := mkF m 12 #[.val (.int p1), .val (.int p2), .unset, .unset, .unset] [(.long (p2.toInt64)), (.long (own_q1 p1))]) rfl (by rw [hml]; rfl) (argsL := [(.long (own_q1 p1)), (.long (p2.toInt64))]) (rest := []) (lenOf pd_1_1 rfl) rfl (hb hby d1_12)
    (fun vm₁ Y => by
      show (Jvm.Cond.and _ .tt).before _ _ = true
      rw [Cond.before_and, mv (wtrans hZ Y.warmed) (ww hw 13 rfl)]
      rfl)
    (fun vm₁ Y => ⟨rfl, wtrans hZ Y.warmed, e0⟩) (fun vm₁ Y => Jvm.Free.known_frames Y rfl hK.1 hK.2) (by decide) (by show 2 * 0 + 0 + (cM.maxLocals + 11) + 99 ≤ 120; rw [lM]; decide) (by decide) (by decide)
  obtain ⟨a, ce, k, rfl, g2, g3, g4, g5, g6, g7, g8, g9⟩ := hq
  obtain ⟨T', X', hS', hz', eh', ev', tl', es'⟩ := Jvm.Free.own_behind X1 (g := { mkF m 12 #[.val (.int p1), .val (.int p2), .unset, .unset, .unset] [(.long (p2.toInt64)), (.long (own_q1 p1))] with stack := [] }) rfl g7 g8 g9
  have hZ' : Z.Warmed39 (s.setVm T'.vm).vm := State.Warmed39.trans hZ hS'.1
  have hown' : (s.setVm T'.vm).vm.findClass "com/example/hush_vault/hushvault/crypto/Scrypt" = some m.cls := (hS'.1.alike.findClass _ _).trans hown
  have hfr : s2.frames = .throwing a :: .java { mkF m 12 #[.val (.int p1), .val (.int p2), .unset, .unset, .unset] [(.long (p2.toInt64)), (.long (own_q1 p1))] with stack := [] } :: below := hend
  rw [hfr] at es'
  obtain ⟨x, hx1, q1, q2, q3, q4⟩ : ∃ x : ExceptionTableEntry, c.exceptionTable.toList = [x] ∧ x.startPc = 0 ∧ x.endPc = 16 ∧ x.handlerPc = 19 ∧ x.catchType = 21 := by
    cases hL : c.exceptionTable.toList with
    | nil => rw [hL] at t4; cases t4
    | cons x r =>
      cases r with
      | nil =>
        rw [hL] at t4
        simp only [List.map_cons, List.map_nil, List.cons.injEq, Prod.mk.injEq, and_true] at t4
        exact ⟨x, rfl, t4.1, t4.2.1, t4.2.2.1, t4.2.2.2⟩
      | cons _ _ => rw [hL] at t4; simp at t4
  obtain ⟨vm2, X2, st2⟩ := Jvm.Stand.caughtLink X' a (g := { mkF m 12 #[.val (.int p1), .val (.int p2), .unset, .unset, .unset] [(.long (p2.toInt64)), (.long (own_q1 p1))] with stack := [] }) rfl hown' [] x [] hx1 (by simp) (by simp [covers, q1, q2, mkF]) (by rw [q4]; decide)
    (name := "java/lang/ArithmeticException") (by rw [q4]; exact mvT hZ' (ww hw 89 rfl)) (by show T'.vm.findClass _ = _; rw [ev']; exact g5) (by rw [eh']; exact g2) (by rw [g3]; rfl) (by show T'.vm.assignable _ _ = _; rw [ev']; exact g6)
  rw [q3] at st2
  obtain ⟨fs, hr, hrun, hended, hE⟩ := X2.leaveW hS' (Nat.le_refl _) (v := some (.long own_MX)) (fun h => by rw [Bd.returns] at h; cases h)
  refine ⟨_, _, pre0 _ ?_, hrun, hended, rfl, ⟨_, rfl⟩, hE.2.1, hE.2.2.1, hE.2.2.2.mono (by decide) (by decide)⟩
  refine X0.ldc2Long hx hown (mvT hZ (ww hw 8 rfl)) (g := (mkF m 0 #[.val (.int p1), .val (.int p2), .unset, .unset, .unset] [])) rfl (hb hby d1_0) _ ?_
  refine XS.iloadN X0.here hx rfl (hb hby d1_3) rfl ?_
  refine XS.i2l X0.here hx rfl (hb hby d1_4) rfl ?_
  refine X0.ldc2Long hx hown (mvT hZ (ww hw 9 rfl)) (g := (mkF m 5 #[.val (.int p1), .val (.int p2), .unset, .unset, .unset] [(.long (p1.toInt64)), (.long (128 : Int64))])) rfl (hb hby d1_5) _ ?_
  refine XS.ladd X0.here hx rfl (hb hby d1_8) rfl ?_
  refine XS.lmul X0.here hx rfl (hb hby d1_9) rfl ?_
  refine XS.iloadN X0.here hx rfl (hb hby d1_10) rfl ?_
  refine XS.i2l X0.here hx rfl (hb hby d1_11) rfl ?_
  refine stc.trans ?_
  rw [es']
  refine st2 _ ?_
  refine XS.astore X2.here hx rfl (hb hby d1_19) rfl rfl (l' := #[.val (.int p1), .val (.int p2), .unset, .unset, .val (.ref a)]) rfl ?_
  refine X2.ldc2Long hx hown' (mvT hZ' (ww hw 90 rfl)) (g := (mkF m 21 #[.val (.int p1), .val (.int p2), .unset, .unset, .val (.ref a)] [])) rfl (hb hby d1_21) _ ?_
  refine XS.lstoreN X2.here hx rfl (hb hby d1_24) rfl (l' := #[.val (.int p1), .val (.int p2), .val (.long own_MX), .second, .val (.ref a)]) rfl ?_
  refine XS.lloadN X2.here hx rfl (hb hby d1_25) rfl ?_
  exact own_retJ X2 hx Bd.returns (hb hby d1_26) hr
/-- the law's call of memoryBytes -/
theorem own_memL (X : Stand p l e R s m args below meth c T locs cells slots) (hx : p.tables.exec = Jvm.exec) (hZ : Z.Warmed39 s.vm) (hown : s.vm.findClass "com/example/hush_vault/hushvault/crypto/ScryptMemoryBytesPinLaw" = some m.cls) (hw : ∀ d ∈ tables_1, d.before a0 Z = true) (eT : T.heap = h0) {v0 : Int64} {p1 p2 : Int32}
    (hM : MetFree l own_mN (head1 [own_mW] ({ frames := 8, cells := 4, slots := 2814, locals := 120 } : Room)) (fun a U => a = #[.int p1, .int p2] ∧ Z.Warmed39 U.vm ∧ U.heap = h0) (fun _ _ bl st _ => st.vm.MethodsKnown ∧ st.vm.FramesKnown bl) (fun _ U o U' => own_QM v0 U o U')) (hK : s.vm.MethodsKnown) (hB : s.vm.FramesKnown below)
    {g : JFrame} (hg : g.method = m) (hsize : g.locals.size = c.maxLocals) {rest : List Value} (hs : g.stack = .int p2 :: .int p1 :: rest) (hd : decode c.code g.pc = .ok (.invokestatic 19, 3)) (hf : 8 + 1 ≤ R.frames) (hlo : 2 * g.monitorRoom + (rest.map fun v => v.category).sum + (5 + 11) + 120 ≤ R.locals) (hc : cells + 4 ≤ R.cells) (hsl : slots + 2814 ≤ R.slots) :
    ∃ T' : State, Stand p l e R (s.setVm T'.vm) m args below meth c T' (locs ++ []) (cells + 4) (slots + 2814) ∧ s.Since T'.vm T'.heap.size ∧ ∀ target, Steps p.tables e below (T'.setTop { g with pc := g.pc + 3, stack := .long v0 :: rest }) target → Steps p.tables e below (T.setTop g) target := by
  obtain ⟨mk, mm, cM, nM, eM, oM, bM, lM, -, -, -, sM⟩ := Cond.codeWith_spec (mv (args := #[]) hZ (ww hw 7 rfl))
  obtain ⟨vm1, o, s2, X1, stc, hend, hq⟩ := Jvm.Free.own_call X hx hown (mvT hZ (ww hw 4 rfl)) (mvT hZ (ww hw 5 rfl)) (mvT hZ (ww hw 6 rfl)) nM eM oM sM (by decide) hM (g := g) hg hsize (argsL := [.int p1, .int p2]) (rest := rest) (lenOf pd_0_0 rfl) hs hd
    (fun vm₁ Y => by
      show (Jvm.Cond.and _ .tt).before _ _ = true
      rw [Cond.before_and, mv (wtrans hZ Y.warmed) (ww hw 7 rfl)]
      rfl)
    (fun vm₁ Y => ⟨rfl, wtrans hZ Y.warmed, eT⟩) (fun vm₁ Y => Jvm.Free.known_frames Y hg hK hB) hf (by rw [lM]; exact hlo) hc hsl
  obtain ⟨rfl, -, w1, w2, w3⟩ := hq
  obtain ⟨T', X', hS', hz', eh', ev', tl', es'⟩ := Jvm.Free.own_behind X1 (g := { g with stack := rest }) hg w1 w2 w3
  obtain ⟨c', i, len, k1, k2, k3⟩ := hend
  have k4 : s2.code? g.method = some c := by
    rw [es', hg]
    exact X'.here.code
  cases Option.some.inj (k1.symm.trans k4)
  cases (Except.ok.inj (k2.symm.trans hd) : (i, len) = (Instr.invokestatic 19, 3))
  refine ⟨T', X', hS', fun target ht => stc.trans ?_⟩
  rw [own_top X'.here.top, tl'] at ht
  rw [es', k3]
  exact ht

def Q1 (Z : State) (p1 : Int32) (p2 : Int32) (h0 : Heap) (n0 : Nat) (v : Option Value) (h : Heap) (L : List Loc) : Prop := own_Qj ((own_q1 p1) * p2.toInt64) h0 n0 v h L
set_option maxRecDepth 65536 in
set_option maxHeartbeats 40000000 in
theorem rm1_N (l : Launch) (Z : State) (a0 : Array Value) (hw : ∀ d ∈ tables_1, d.before a0 Z = true) (ws : List Jvm.Cond) (p1 : Int32) (p2 : Int32) (h0 : Heap) (n0 : Nat) (Z0 : n0 ≤ h0.size) (hm : ¬ (own_q1 p1) = (-9223372036854775808 : Int64)) (ho : own_big (own_q1 p1) (p2.toInt64) = 0 ∨ p2.toInt64 = 0 ∨ ((own_q1 p1) * p2.toInt64) / p2.toInt64 = own_q1 p1) :
    MetFree l (⟨"com/example/hush_vault/hushvault/crypto/Scrypt", "memoryBytes", "(II)J"⟩ : MethodName) (head1 (own_mW :: ws) ({ frames := 8, cells := 4, slots := 2814, locals := 120 } : Room)) (fun a U => a = #[(.int p1), (.int p2)] ∧ Z.Warmed39 U.vm ∧ U.heap = h0) (fun _ _ _ _ _ => True) (fun _ U o U' => ∃ v L, o = .returned v ∧ Q1 Z p1 p2 h0 n0 v U'.heap L ∧ FrameEnd U o U' L ({ frames := 8, cells := 4, slots := 2814, locals := 120 } : Room).cells ({ frames := 8, cells := 4, slots := 2814, locals := 120 } : Room).slots) := by
  refine MetFree.of_bodySF (plainFor_of_name pn_1) Jvm.RoadKit.hisWith ?_
  intro p e s m args below meth c s₁ Bd hml0 hP hK
  obtain ⟨rfl, hZ, hh⟩ := hP
  have hx := Bd.exec
  have hby := Bd.bytes
  have hml : c.maxLocals = 5 := hml0
  have hown : s.vm.findClass "com/example/hush_vault/hushvault/crypto/Scrypt" = some m.cls := findClass_of_methodNamed Bd.named
  have hnm := (name_of_methodNamed Bd.named Bd.method).1
  have X0 : Stand p l e ({ frames := 8, cells := 4, slots := 2814, locals := 120 } : Room) s m #[(.int p1), (.int p2)] below meth c s₁ [] 0 0 := Stand.of_body Bd
  have e0 : s₁.heap = h0 := by rw [← hh, Bd.state]; rfl
  have N0 := Fr.nil n0
  have pre0 : ∀ t, Steps p.tables e below (s₁.setTop (mkF m 0 #[.val (.int p1), .val (.int p2), .unset, .unset, .unset] [])) t → Steps p.tables e below (s₁.setTop (entryFrame m #[(.int p1), (.int p2)] 5)) t := fun t k => castTop (ef_1 m p1 p2) k

  obtain ⟨_, _, ⟨T3, L3, k3, n3⟩, -, X3, ⟨Lc3, hQ3, l3, y3, z3⟩, st3⟩ := Jvm.LawKit.callS X0 hx (y := (⟨"java/lang/Math", "multiplyExact", "(JJ)J"⟩ : MethodName)) hown (mvT hZ (ww hw 10 rfl)) (mvT hZ (ww hw 11 rfl)) (mvT hZ (ww hw 12 rfl)) (mvT hZ (ww hw 13 rfl)) (by decide) (backOf (W := 0) (rm2 l Z a0 hw [] ((128 : Int64) * ((p1.toInt64) + (2 : Int64))) (p2.toInt64)  h0 n0 Z0 hm ho) hZ (ww hw 13 rfl) (ww hw 12 rfl) (by decide) (by decide)) (g := (mkF m 12 #[.val (.int p1), .val (.int p2), .unset, .unset, .unset] [(.long (p2.toInt64)), (.long ((128 : Int64) * ((p1.toInt64) + (2 : Int64))))])) rfl (by rw [hml]; rfl) (argsL := [(.long ((128 : Int64) * ((p1.toInt64) + (2 : Int64)))), (.long (p2.toInt64))]) (rest := []) (lenOf pd_1_1 rfl) rfl (by show 2 * 0 + _ ≤ _; exact Nat.le_of_eq rfl) (hb hby d1_12) (fun _ _ => ⟨rfl, e0, (by decide : 0 + 0 ≤ _), (by decide : 0 + 0 ≤ _)⟩)
  dsimp only [Pt.U, Pt.locs, Pt.cells, Pt.slots] at X3 l3 y3 z3 st3 hQ3
  subst l3 y3 z3
  obtain ⟨rfl, N3q, eh3⟩ := hQ3
  have N3 := Fr.app N0 N3q
  obtain ⟨fs, hr, hrun, hended, hW, hsame⟩ := X3.leave (v := some (.long (((128 : Int64) * ((p1.toInt64) + (2 : Int64))) * (p2.toInt64)))) (fun h => by rw [Bd.returns] at h; cases h)
  refine ⟨_, _, pre0 _ ?_, hrun, hended, _, _, rfl, ?_, ⟨_, rfl⟩, hW, hsame.mono (by decide) (by decide)⟩
  · show Steps _ _ _ (s₁.setTop (mkF m 0 #[.val (.int p1), .val (.int p2), .unset, .unset, .unset] [])) _
    refine X0.ldc2Long hx hown (mvT hZ (ww hw 8 rfl)) (g := (mkF m 0 #[.val (.int p1), .val (.int p2), .unset, .unset, .unset] [])) rfl (hb hby d1_0) _ ?_
    refine XS.iloadN X0.here hx rfl (hb hby d1_3) rfl ?_
    refine XS.i2l X0.here hx rfl (hb hby d1_4) rfl ?_
    refine X0.ldc2Long hx hown (mvT hZ (ww hw 9 rfl)) (g := (mkF m 5 #[.val (.int p1), .val (.int p2), .unset, .unset, .unset] [(.long (p1.toInt64)), (.long (128 : Int64))])) rfl (hb hby d1_5) _ ?_
    refine XS.ladd X0.here hx rfl (hb hby d1_8) rfl ?_
    refine XS.lmul X0.here hx rfl (hb hby d1_9) rfl ?_
    refine XS.iloadN X0.here hx rfl (hb hby d1_10) rfl ?_
    refine XS.i2l X0.here hx rfl (hb hby d1_11) rfl ?_
    refine st3 _ ?_
    refine XS.lstoreN X3.here hx rfl (hb hby d1_15) rfl (l' := #[.val (.int p1), .val (.int p2), .val (.long (((128 : Int64) * ((p1.toInt64) + (2 : Int64))) * (p2.toInt64))), .second, .unset]) rfl ?_
    refine XS.goto X3.here hx rfl (pc0 := 16) (pc' := 25) rfl (hb hby d1_16) (by decide) (by decide) ?_
    refine XS.lloadN X3.here hx rfl (hb hby d1_25) rfl ?_
    exact own_retJ X3 hx Bd.returns (hb hby d1_26) hr
  · show Q1 Z p1 p2 h0 n0 _ T3.heap _
    rw [eh3]
    exact ⟨rfl, N3, rfl⟩
theorem rm1_M (l : Launch) (Z : State) (a0 : Array Value) (hw : ∀ d ∈ tables_1, d.before a0 Z = true) (ws : List Jvm.Cond) (p1 p2 : Int32) (h0 : Heap) (hm : ¬ (own_q1 p1) = (-9223372036854775808 : Int64)) (ho : own_big (own_q1 p1) (p2.toInt64) = 0 ∨ p2.toInt64 = 0 ∨ ((own_q1 p1) * p2.toInt64) / p2.toInt64 = own_q1 p1) :
    MetFree l own_mN (head1 (own_mW :: ws) ({ frames := 8, cells := 4, slots := 2814, locals := 120 } : Room)) (fun a U => a = #[.int p1, .int p2] ∧ Z.Warmed39 U.vm ∧ U.heap = h0) (fun _ _ bl st _ => st.vm.MethodsKnown ∧ st.vm.FramesKnown bl) (fun _ U o U' => own_QM (own_q1 p1 * p2.toInt64) U o U') := by
  intro p e ha hc hk s m args below hf happ hP _
  obtain ⟨n, o, h1, h2, h3, v, L, rfl, ⟨rfl, hL, -⟩, hE⟩ := rm1_N l Z a0 hw ws p1 p2 h0 h0.size (Nat.le_refl _) hm ho p e ha hc hk s m args below hf happ hP trivial
  refine ⟨n, _, h1, h2, h3, rfl, ?_⟩
  have q : ReturnedEndW s (.returned (some (.long (own_q1 p1 * p2.toInt64)))) _ L 4 2814 := ReturnedEndW.of_narrow ⟨_, rfl⟩ hE.2.1 hE.2.2
  exact ⟨q.1, q.2.1, q.2.2.1, q.2.2.2.sift fun y hy => Or.inr (by rw [hP.2.2]; exact hL y hy)⟩
end OwnMem
theorem own_bm (x : Int) (h1 : -9223372036854775808 ≤ x) (h2 : x < 9223372036854775808) : x.bmod (2 ^ 64) = x := by
  have : (2 ^ 64 : Nat) = 18446744073709551616 := rfl
  rw [this]
  simp only [Int.bmod]
  omega
theorem own_i32 (p : Int32) : -2147483648 ≤ p.toInt ∧ p.toInt < 2147483648 := by
  have h1 := p.minValue_le_toInt
  have h2 := p.toInt_lt
  have : (Int32.minValue).toInt = -2147483648 := rfl
  omega
theorem own_pm {x y : Int} (hx : -2147483646 ≤ x) (hx' : x ≤ 2147483649) (hy : -2147483648 ≤ y) (hy' : y < 2147483648) : -4611686020574871552 ≤ x * y ∧ x * y ≤ 4611686020574871552 := by
  have a1 : 0 ≤ (x + 2147483649) * (y + 2147483648) := Int.mul_nonneg (by omega) (by omega)
  have a2 : 0 ≤ (2147483649 - x) * (2147483648 - y) := Int.mul_nonneg (by omega) (by omega)
  have a3 : 0 ≤ (x + 2147483649) * (2147483648 - y) := Int.mul_nonneg (by omega) (by omega)
  have a4 : 0 ≤ (2147483649 - x) * (y + 2147483648) := Int.mul_nonneg (by omega) (by omega)
  simp only [Int.add_mul, Int.mul_add, Int.sub_mul, Int.mul_sub] at a1 a2 a3 a4
  omega
theorem own_n1 (p1 : Int32) : (p1.toInt64 + 2 : Int64).toInt = p1.toInt + 2 := by
  have h := own_i32 p1
  rw [Int64.toInt_add, Int32.toInt_toInt64]
  have : (2 : Int64).toInt = 2 := rfl
  rw [this]
  exact own_bm _ (by omega) (by omega)
theorem own_np (p1 p2 : Int32) : ((p1.toInt64 + 2) * p2.toInt64 : Int64).toInt = (p1.toInt + 2) * p2.toInt := by
  have h := own_i32 p1
  have h' := own_i32 p2
  have k := own_pm (x := p1.toInt + 2) (y := p2.toInt) (by omega) (by omega) (by omega) (by omega)
  rw [Int64.toInt_mul, own_n1, Int32.toInt_toInt64]
  exact own_bm _ (by omega) (by omega)
theorem own_nq (p1 : Int32) : ((128 : Int64) * (p1.toInt64 + 2)).toInt = 128 * (p1.toInt + 2) := by
  have h := own_i32 p1
  rw [Int64.toInt_mul, own_n1]
  have : (128 : Int64).toInt = 128 := rfl
  rw [this]
  exact own_bm _ (by omega) (by omega)
theorem own_min : (-9223372036854775808 : Int64).toInt = -9223372036854775808 := rfl
theorem own_no (p1 p2 : Int32) (h1 : -72057594037927936 ≤ (p1.toInt + 2) * p2.toInt) (h2 : (p1.toInt + 2) * p2.toInt ≤ 72057594037927935) :
    (¬ ((128 : Int64) * (p1.toInt64 + 2)) = (-9223372036854775808 : Int64)) ∧ (p2.toInt64 = 0 ∨ (((128 : Int64) * (p1.toInt64 + 2)) * p2.toInt64) / p2.toInt64 = ((128 : Int64) * (p1.toInt64 + 2))) := by
  have q1 := own_nq p1
  have b := own_i32 p1
  refine ⟨fun z => ?_, ?_⟩
  · rw [z, own_min] at q1
    omega
  · by_cases z : p2.toInt64 = 0
    · exact Or.inl z
    · refine Or.inr (Int64.toInt_inj.mp ?_)
      have y : p2.toInt ≠ 0 := fun e => z (Int64.toInt_inj.mp (by rw [Int32.toInt_toInt64, e]; rfl))
      have m : (((128 : Int64) * (p1.toInt64 + 2)) * p2.toInt64).toInt = 128 * (p1.toInt + 2) * p2.toInt := by
        rw [Int64.toInt_mul, q1, Int32.toInt_toInt64]
        have e : 128 * (p1.toInt + 2) * p2.toInt = 128 * ((p1.toInt + 2) * p2.toInt) := Int.mul_assoc ..
        exact own_bm _ (by omega) (by omega)
      rw [Int64.toInt_div, m, Int32.toInt_toInt64, Int.mul_tdiv_cancel _ y, q1]
      exact own_bm _ (by omega) (by omega)
theorem own_absb {q : Int64} (h : (own_abs q).toUInt64.toNat < 2147483648) : -2147483648 < q.toInt ∧ q.toInt < 2147483648 := by
  have k : (own_abs q).toUInt64.toNat = (own_abs q).toInt ∨ (own_abs q).toInt < 0 := by
    by_cases z : (own_abs q).toInt < 0
    · exact Or.inr z
    · left
      have e := (own_abs q).toInt_toBitVec
      have f : (own_abs q).toUInt64.toNat = (own_abs q).toBitVec.toNat := rfl
      rw [f, ← e, BitVec.toInt_eq_toNat_cond]
      rw [← e, BitVec.toInt_eq_toNat_cond] at z
      have lt := (own_abs q).toBitVec.isLt
      split at z <;> split <;> omega
  have n : (own_abs q).toUInt64.toNat < 2147483648 → ¬ (own_abs q).toInt < 0 := by
    intro h z
    have e := (own_abs q).toInt_toBitVec
    have f : (own_abs q).toUInt64.toNat = (own_abs q).toBitVec.toNat := rfl
    rw [← e, BitVec.toInt_eq_toNat_cond] at z
    rw [f] at h
    split at z <;> omega
  have nn := n h
  have kk : (own_abs q).toInt < 2147483648 := by rcases k with k | k <;> omega
  unfold own_abs at nn kk
  have r1 := q.minValue_le_toInt
  have r2 : (Int64.minValue).toInt = -9223372036854775808 := rfl
  have r3 := q.toInt_lt
  split at nn
  · rename_i lt
    rw [if_pos lt] at kk
    rw [Int64.lt_iff_toInt_lt] at lt
    have z0 : (0 : Int64).toInt = 0 := rfl
    rw [z0] at lt
    rw [Int64.toInt_neg] at nn kk
    by_cases mm : q.toInt = -9223372036854775808
    · rw [mm] at nn
      exact absurd (by decide) nn
    · rw [own_bm _ (by omega) (by omega)] at nn kk
      omega
  · rename_i lt
    rw [if_neg lt] at kk
    rw [Int64.lt_iff_toInt_lt] at lt
    have z0 : (0 : Int64).toInt = 0 := rfl
    rw [z0] at lt
    omega
theorem own_sh (a b : UInt64) (h : ((a ||| b) >>> 31) = 0) : a.toNat < 2147483648 ∧ b.toNat < 2147483648 := by
  have e : ((a ||| b) >>> 31).toNat = 0 := by rw [h]; rfl
  rw [UInt64.toNat_shiftRight, UInt64.toNat_or] at e
  have k : (31 : UInt64).toNat % 64 = 31 := rfl
  rw [k, Nat.shiftRight_eq_div_pow] at e
  have l1 : a.toNat ≤ a.toNat ||| b.toNat := Nat.left_le_or
  have l2 : b.toNat ≤ a.toNat ||| b.toNat := Nat.right_le_or
  omega
theorem own_bign (q1 q2 : Int64) (h : own_big q1 q2 = 0) : (-2147483648 < q1.toInt ∧ q1.toInt < 2147483648) ∧ (-2147483648 < q2.toInt ∧ q2.toInt < 2147483648) := by
  have e : ((own_abs q1).toUInt64 ||| (own_abs q2).toUInt64) >>> 31 = 0 := by
    have k : ((31 : Int32) &&& 0x3f).toInt64.toUInt64 = 31 := rfl
    unfold own_big at h
    rw [k] at h
    have e2 : ((own_abs q1) ||| (own_abs q2)).toUInt64 = (own_abs q1).toUInt64 ||| (own_abs q2).toUInt64 := rfl
    rw [e2] at h
    exact congrArg Int64.toUInt64 h
  obtain ⟨a, b⟩ := own_sh _ _ e
  exact ⟨own_absb a, own_absb b⟩
theorem own_ov (p1 p2 : Int32) (h : (p1.toInt + 2) * p2.toInt < -72057594037927936 ∨ 72057594037927935 < (p1.toInt + 2) * p2.toInt) :
    ¬ own_big ((128 : Int64) * (p1.toInt64 + 2)) p2.toInt64 = 0 ∧ ¬ p2.toInt64 = 0 ∧ ¬ (((128 : Int64) * (p1.toInt64 + 2)) * p2.toInt64) / p2.toInt64 = ((128 : Int64) * (p1.toInt64 + 2)) := by
  have q1 := own_nq p1
  have b1 := own_i32 p1
  have b2 := own_i32 p2
  have y : p2.toInt ≠ 0 := fun e => by rw [e] at h; omega
  refine ⟨fun z => ?_, fun z => ?_, fun z => ?_⟩
  · obtain ⟨⟨c1, c2⟩, c3, c4⟩ := own_bign _ _ z
    rw [q1] at c1 c2
    have k := own_pm (x := p1.toInt + 2) (y := p2.toInt) (by omega) (by omega) (by omega) (by omega)
    have a1 : 0 ≤ (p1.toInt + 2 + 16777216) * (p2.toInt + 2147483648) := Int.mul_nonneg (by omega) (by omega)
    have a2 : 0 ≤ (16777216 - (p1.toInt + 2)) * (2147483648 - p2.toInt) := Int.mul_nonneg (by omega) (by omega)
    have a3 : 0 ≤ (p1.toInt + 2 + 16777216) * (2147483648 - p2.toInt) := Int.mul_nonneg (by omega) (by omega)
    have a4 : 0 ≤ (16777216 - (p1.toInt + 2)) * (p2.toInt + 2147483648) := Int.mul_nonneg (by omega) (by omega)
    generalize p1.toInt + 2 = x at *
    simp only [Int.add_mul, Int.mul_add, Int.sub_mul, Int.mul_sub] at a1 a2 a3 a4
    omega
  · exact y (by rw [← Int32.toInt_toInt64, z]; rfl)
  · have e := congrArg Int64.toInt z
    rw [Int64.toInt_div, q1, Int32.toInt_toInt64] at e
    have w := (((128 : Int64) * (p1.toInt64 + 2)) * p2.toInt64).toInt
    have m := Int64.toInt_mul ((128 : Int64) * (p1.toInt64 + 2)) p2.toInt64
    rw [q1, Int32.toInt_toInt64] at m
    generalize hw : (((128 : Int64) * (p1.toInt64 + 2)) * p2.toInt64) = W at e m
    have r1 := W.minValue_le_toInt
    have r2 : (Int64.minValue).toInt = -9223372036854775808 := rfl
    have r3 := W.toInt_lt
    have d1 := Int.mul_tdiv_add_tmod W.toInt p2.toInt
    have ass : 128 * (p1.toInt + 2) * p2.toInt = 128 * ((p1.toInt + 2) * p2.toInt) := Int.mul_assoc ..
    have db : -9223372036854775808 ≤ W.toInt.tdiv p2.toInt ∧ W.toInt.tdiv p2.toInt ≤ 9223372036854775808 := by
      have t := Int.natAbs_tdiv_le_natAbs W.toInt p2.toInt
      omega
    have tb : W.toInt.tmod p2.toInt < 2147483648 ∧ -2147483648 < W.toInt.tmod p2.toInt := by
      have t := Int.natAbs_tmod W.toInt p2.toInt
      have t2 := Nat.mod_lt W.toInt.natAbs (Int.natAbs_pos.mpr y)
      omega
    have ev : W.toInt.tdiv p2.toInt = 128 * (p1.toInt + 2) := by
      have k64 : (2 ^ 64 : Nat) = 18446744073709551616 := rfl
      rw [k64] at e
      simp only [Int.bmod] at e
      omega
    rw [ev] at d1
    have cm : p2.toInt * (128 * (p1.toInt + 2)) = 128 * (p1.toInt + 2) * p2.toInt := Int.mul_comm ..
    rw [cm, ass] at d1
    rw [ass] at m
    have k64 : (2 ^ 64 : Nat) = 18446744073709551616 := rfl
    rw [k64] at m
    simp only [Int.bmod] at m
    generalize (p1.toInt + 2) * p2.toInt = P at *
    omega
theorem pn_0 : plainName "com/example/hush_vault/hushvault/crypto/ScryptMemoryBytesPinLaw" = true := by first | (simp [plainName, overriddenIn]; done) | decide +kernel
theorem ef_0 (m : MethodId) (x0 : Int32) (x1 : Int32) : entryFrame m #[(.int x0), (.int x1)] maxLocals = mkF m 0 #[.val (.int x0), .val (.int x1), .unset, .unset, .unset, .unset] [] := by first | (simp [entryFrame, mkF, argsToLocals, Value.category, maxLocals]; done) | rfl
def Q0 (Z : State) (p1 : Int32) (p2 : Int32) (w1 : Addr) (w2 : Addr) (h0 : Heap) (n0 : Nat) (v : Option Value) (h : Heap) (L : List Loc) : Prop := v = some (.int (1 : Int32)) ∧ Fr n0 L
set_option maxRecDepth 65536 in
set_option maxHeartbeats 40000000 in
theorem rm0_0 (l : Launch) (Z : State) (a0 : Array Value) (hw : ∀ d ∈ tables_1, d.before a0 Z = true) (ws : List Jvm.Cond) (p1 : Int32) (p2 : Int32) (w1 : Addr) (w2 : Addr) (h0 : Heap) (n0 : Nat) (Z0 : n0 ≤ h0.size) (hl : l.stackTraces = true) (hS : own_ST Z h0 w1 w2) (c1 : ¬ own_big (own_q1 p1) p2.toInt64 = 0) (c2 : ¬ p2.toInt64 = 0) (c3 : ¬ (own_q1 p1 * p2.toInt64) / p2.toInt64 = own_q1 p1) (hc15 : (0 : Int32) < (lcmpW (((p1.toInt64) + (2 : Int64)) * (p2.toInt64)) (72057594037927935 : Int64))) (hc49 : (lcmpW own_MX (9223372036854775807 : Int64)) = (0 : Int32)) :
    MetFree l x (head1 (Jvm.Cond.code x code maxLocals ret :: ws) room_1) (fun a U => a = #[(.int p1), (.int p2)] ∧ Z.Warmed39 U.vm ∧ U.heap = h0) (fun _ _ bl st _ => st.vm.MethodsKnown ∧ st.vm.FramesKnown bl) (fun _ U o U' => ∃ v L, o = .returned v ∧ Q0 Z p1 p2 w1 w2 h0 n0 v U'.heap L ∧ ReturnedEndW U o U' L room_1.cells room_1.slots) := by
  refine MetFree.of_bodySF (plainFor_of_name pn_0) hisR ?_
  intro p e s m args below meth c s₁ Bd hml0 hP hK
  obtain ⟨rfl, hZ, hh⟩ := hP
  have hx := Bd.exec
  have hby := Bd.bytes
  have hml : c.maxLocals = 6 := hml0
  have hown : s.vm.findClass "com/example/hush_vault/hushvault/crypto/ScryptMemoryBytesPinLaw" = some m.cls := findClass_of_methodNamed Bd.named
  have hnm := (name_of_methodNamed Bd.named Bd.method).1
  have X0 : Stand p l e room_1 s m #[(.int p1), (.int p2)] below meth c s₁ [] 0 0 := Stand.of_body Bd
  have e0 : s₁.heap = h0 := by rw [← hh, Bd.state]; rfl
  have N0 := Fr.nil n0
  have pre0 : ∀ t, Steps p.tables e below (s₁.setTop (mkF m 0 #[.val (.int p1), .val (.int p2), .unset, .unset, .unset, .unset] [])) t → Steps p.tables e below (s₁.setTop (entryFrame m #[(.int p1), (.int p2)] maxLocals)) t := fun t k => castTop (ef_0 m p1 p2) k

  obtain ⟨T3, X3, hS3, st3⟩ := own_memL X0 hx hZ hown hw e0 (rm1_T l Z a0 hw [] p1 p2 w1 w2 h0 hl hS c1 c2 c3) hK.1 hK.2 (g := (mkF m 43 #[.val (.int p1), .val (.int p2), .val (.long (((p1.toInt64) + (2 : Int64)) * (p2.toInt64))), .second, .val (.long (9223372036854775807 : Int64)), .second] [(.int p2), (.int p1)])) rfl (by rw [hml]; rfl) (rest := []) rfl (hb hby at_43) (by decide) (by show 2 * 0 + 0 + (5 + 11) + 120 ≤ 224; decide) (by decide) (by decide)
  obtain ⟨fs, hr, hrun, hended, hE⟩ := X3.leaveW hS3 (Nat.le_refl _) (v := some (.int (1 : Int32))) (fun h => by rw [Bd.returns] at h; cases h)
  refine ⟨_, _, pre0 _ ?_, hrun, hended, _, _, rfl, ?_, ⟨_, rfl⟩, hE.2.1, hE.2.2.1, hE.2.2.2.mono (by decide) (by decide)⟩
  · show Steps _ _ _ (s₁.setTop (mkF m 0 #[.val (.int p1), .val (.int p2), .unset, .unset, .unset, .unset] [])) _
    refine XS.iloadN X0.here hx rfl (hb hby at_0) rfl ?_
    refine XS.i2l X0.here hx rfl (hb hby at_1) rfl ?_
    refine X0.ldc2Long hx hown (mvT hZ (ww hw 0 rfl)) (g := (mkF m 2 #[.val (.int p1), .val (.int p2), .unset, .unset, .unset, .unset] [(.long (p1.toInt64))])) rfl (hb hby at_2) _ ?_
    refine XS.ladd X0.here hx rfl (hb hby at_5) rfl ?_
    refine XS.iloadN X0.here hx rfl (hb hby at_6) rfl ?_
    refine XS.i2l X0.here hx rfl (hb hby at_7) rfl ?_
    refine XS.lmul X0.here hx rfl (hb hby at_8) rfl ?_
    refine XS.lstoreN X0.here hx rfl (hb hby at_9) rfl (l' := #[.val (.int p1), .val (.int p2), .val (.long (((p1.toInt64) + (2 : Int64)) * (p2.toInt64))), .second, .unset, .unset]) rfl ?_
    refine XS.lloadN X0.here hx rfl (hb hby at_10) rfl ?_
    refine X0.ldc2Long hx hown (mvT hZ (ww hw 1 rfl)) (g := (mkF m 11 #[.val (.int p1), .val (.int p2), .val (.long (((p1.toInt64) + (2 : Int64)) * (p2.toInt64))), .second, .unset, .unset] [(.long (((p1.toInt64) + (2 : Int64)) * (p2.toInt64)))])) rfl (hb hby at_11) _ ?_
    refine XS.lcmp X0.here hx rfl (hb hby at_14) rfl ?_
    refine XS.ifYes X0.here hx rfl (pc0 := 15) (pc' := 26) rfl (hb hby at_15) rfl ((if0 _ _).trans (tlt hc15).2.2.1) (by decide) (by decide) ?_
    refine X0.ldc2Long hx hown (mvT hZ (ww hw 17 rfl)) (g := (mkF m 26 #[.val (.int p1), .val (.int p2), .val (.long (((p1.toInt64) + (2 : Int64)) * (p2.toInt64))), .second, .unset, .unset] [])) rfl (hb hby at_26) _ ?_
    refine XS.lstore X0.here hx rfl (hb hby at_29) rfl (l' := #[.val (.int p1), .val (.int p2), .val (.long (((p1.toInt64) + (2 : Int64)) * (p2.toInt64))), .second, .val (.long (9223372036854775807 : Int64)), .second]) rfl ?_
    refine XS.goto X0.here hx rfl (pc0 := 31) (pc' := 41) rfl (hb hby at_31) (by decide) (by decide) ?_
    refine XS.iloadN X0.here hx rfl (hb hby at_41) rfl ?_
    refine XS.iloadN X0.here hx rfl (hb hby at_42) rfl ?_
    refine st3 _ ?_
    refine XS.lload X3.here hx rfl (hb hby at_46) rfl ?_
    refine XS.lcmp X3.here hx rfl (hb hby at_48) rfl ?_
    refine XS.ifNo X3.here hx rfl (hb hby at_49) rfl ((if0 _ _).trans (teq hc49).2) ?_
    refine XS.iconst X3.here hx rfl (hb hby at_52) ?_
    refine XS.goto X3.here hx rfl (pc0 := 53) (pc' := 57) rfl (hb hby at_53) (by decide) (by decide) ?_
    exact retN X3 hx (t := .boolean) Bd.returns (by simp) (hb hby at_57) hr
  · show Q0 Z p1 p2 w1 w2 h0 n0 _ T3.heap _
    exact ⟨rfl, fun y hy => by simp at hy⟩
set_option maxRecDepth 65536 in
set_option maxHeartbeats 40000000 in
theorem rm0_1 (l : Launch) (Z : State) (a0 : Array Value) (hw : ∀ d ∈ tables_1, d.before a0 Z = true) (ws : List Jvm.Cond) (p1 : Int32) (p2 : Int32) (w1 : Addr) (w2 : Addr) (h0 : Heap) (n0 : Nat) (Z0 : n0 ≤ h0.size) (hl : l.stackTraces = true) (hS : own_ST Z h0 w1 w2) (c1 : ¬ own_big (own_q1 p1) p2.toInt64 = 0) (c2 : ¬ p2.toInt64 = 0) (c3 : ¬ (own_q1 p1 * p2.toInt64) / p2.toInt64 = own_q1 p1) (hc15 : ¬ ((0 : Int32) < (lcmpW (((p1.toInt64) + (2 : Int64)) * (p2.toInt64)) (72057594037927935 : Int64)))) (hc23 : (lcmpW (((p1.toInt64) + (2 : Int64)) * (p2.toInt64)) (-72057594037927936 : Int64)) < (0 : Int32)) (hc49 : (lcmpW own_MX (9223372036854775807 : Int64)) = (0 : Int32)) :
    MetFree l x (head1 (Jvm.Cond.code x code maxLocals ret :: ws) room_1) (fun a U => a = #[(.int p1), (.int p2)] ∧ Z.Warmed39 U.vm ∧ U.heap = h0) (fun _ _ bl st _ => st.vm.MethodsKnown ∧ st.vm.FramesKnown bl) (fun _ U o U' => ∃ v L, o = .returned v ∧ Q0 Z p1 p2 w1 w2 h0 n0 v U'.heap L ∧ ReturnedEndW U o U' L room_1.cells room_1.slots) := by
  refine MetFree.of_bodySF (plainFor_of_name pn_0) hisR ?_
  intro p e s m args below meth c s₁ Bd hml0 hP hK
  obtain ⟨rfl, hZ, hh⟩ := hP
  have hx := Bd.exec
  have hby := Bd.bytes
  have hml : c.maxLocals = 6 := hml0
  have hown : s.vm.findClass "com/example/hush_vault/hushvault/crypto/ScryptMemoryBytesPinLaw" = some m.cls := findClass_of_methodNamed Bd.named
  have hnm := (name_of_methodNamed Bd.named Bd.method).1
  have X0 : Stand p l e room_1 s m #[(.int p1), (.int p2)] below meth c s₁ [] 0 0 := Stand.of_body Bd
  have e0 : s₁.heap = h0 := by rw [← hh, Bd.state]; rfl
  have N0 := Fr.nil n0
  have pre0 : ∀ t, Steps p.tables e below (s₁.setTop (mkF m 0 #[.val (.int p1), .val (.int p2), .unset, .unset, .unset, .unset] [])) t → Steps p.tables e below (s₁.setTop (entryFrame m #[(.int p1), (.int p2)] maxLocals)) t := fun t k => castTop (ef_0 m p1 p2) k

  obtain ⟨T3, X3, hS3, st3⟩ := own_memL X0 hx hZ hown hw e0 (rm1_T l Z a0 hw [] p1 p2 w1 w2 h0 hl hS c1 c2 c3) hK.1 hK.2 (g := (mkF m 43 #[.val (.int p1), .val (.int p2), .val (.long (((p1.toInt64) + (2 : Int64)) * (p2.toInt64))), .second, .val (.long (9223372036854775807 : Int64)), .second] [(.int p2), (.int p1)])) rfl (by rw [hml]; rfl) (rest := []) rfl (hb hby at_43) (by decide) (by show 2 * 0 + 0 + (5 + 11) + 120 ≤ 224; decide) (by decide) (by decide)
  obtain ⟨fs, hr, hrun, hended, hE⟩ := X3.leaveW hS3 (Nat.le_refl _) (v := some (.int (1 : Int32))) (fun h => by rw [Bd.returns] at h; cases h)
  refine ⟨_, _, pre0 _ ?_, hrun, hended, _, _, rfl, ?_, ⟨_, rfl⟩, hE.2.1, hE.2.2.1, hE.2.2.2.mono (by decide) (by decide)⟩
  · show Steps _ _ _ (s₁.setTop (mkF m 0 #[.val (.int p1), .val (.int p2), .unset, .unset, .unset, .unset] [])) _
    refine XS.iloadN X0.here hx rfl (hb hby at_0) rfl ?_
    refine XS.i2l X0.here hx rfl (hb hby at_1) rfl ?_
    refine X0.ldc2Long hx hown (mvT hZ (ww hw 0 rfl)) (g := (mkF m 2 #[.val (.int p1), .val (.int p2), .unset, .unset, .unset, .unset] [(.long (p1.toInt64))])) rfl (hb hby at_2) _ ?_
    refine XS.ladd X0.here hx rfl (hb hby at_5) rfl ?_
    refine XS.iloadN X0.here hx rfl (hb hby at_6) rfl ?_
    refine XS.i2l X0.here hx rfl (hb hby at_7) rfl ?_
    refine XS.lmul X0.here hx rfl (hb hby at_8) rfl ?_
    refine XS.lstoreN X0.here hx rfl (hb hby at_9) rfl (l' := #[.val (.int p1), .val (.int p2), .val (.long (((p1.toInt64) + (2 : Int64)) * (p2.toInt64))), .second, .unset, .unset]) rfl ?_
    refine XS.lloadN X0.here hx rfl (hb hby at_10) rfl ?_
    refine X0.ldc2Long hx hown (mvT hZ (ww hw 1 rfl)) (g := (mkF m 11 #[.val (.int p1), .val (.int p2), .val (.long (((p1.toInt64) + (2 : Int64)) * (p2.toInt64))), .second, .unset, .unset] [(.long (((p1.toInt64) + (2 : Int64)) * (p2.toInt64)))])) rfl (hb hby at_11) _ ?_
    refine XS.lcmp X0.here hx rfl (hb hby at_14) rfl ?_
    refine XS.ifNo X0.here hx rfl (hb hby at_15) rfl ((if0 _ _).trans (flt hc15).2.2.1) ?_
    refine XS.lloadN X0.here hx rfl (hb hby at_18) rfl ?_
    refine X0.ldc2Long hx hown (mvT hZ (ww hw 2 rfl)) (g := (mkF m 19 #[.val (.int p1), .val (.int p2), .val (.long (((p1.toInt64) + (2 : Int64)) * (p2.toInt64))), .second, .unset, .unset] [(.long (((p1.toInt64) + (2 : Int64)) * (p2.toInt64)))])) rfl (hb hby at_19) _ ?_
    refine XS.lcmp X0.here hx rfl (hb hby at_22) rfl ?_
    refine XS.ifNo X0.here hx rfl (hb hby at_23) rfl ((if0 _ _).trans (tlt hc23).2.1) ?_
    refine X0.ldc2Long hx hown (mvT hZ (ww hw 17 rfl)) (g := (mkF m 26 #[.val (.int p1), .val (.int p2), .val (.long (((p1.toInt64) + (2 : Int64)) * (p2.toInt64))), .second, .unset, .unset] [])) rfl (hb hby at_26) _ ?_
    refine XS.lstore X0.here hx rfl (hb hby at_29) rfl (l' := #[.val (.int p1), .val (.int p2), .val (.long (((p1.toInt64) + (2 : Int64)) * (p2.toInt64))), .second, .val (.long (9223372036854775807 : Int64)), .second]) rfl ?_
    refine XS.goto X0.here hx rfl (pc0 := 31) (pc' := 41) rfl (hb hby at_31) (by decide) (by decide) ?_
    refine XS.iloadN X0.here hx rfl (hb hby at_41) rfl ?_
    refine XS.iloadN X0.here hx rfl (hb hby at_42) rfl ?_
    refine st3 _ ?_
    refine XS.lload X3.here hx rfl (hb hby at_46) rfl ?_
    refine XS.lcmp X3.here hx rfl (hb hby at_48) rfl ?_
    refine XS.ifNo X3.here hx rfl (hb hby at_49) rfl ((if0 _ _).trans (teq hc49).2) ?_
    refine XS.iconst X3.here hx rfl (hb hby at_52) ?_
    refine XS.goto X3.here hx rfl (pc0 := 53) (pc' := 57) rfl (hb hby at_53) (by decide) (by decide) ?_
    exact retN X3 hx (t := .boolean) Bd.returns (by simp) (hb hby at_57) hr
  · show Q0 Z p1 p2 w1 w2 h0 n0 _ T3.heap _
    exact ⟨rfl, fun y hy => by simp at hy⟩
set_option maxRecDepth 65536 in
set_option maxHeartbeats 40000000 in
theorem rm0_2 (l : Launch) (Z : State) (a0 : Array Value) (hw : ∀ d ∈ tables_1, d.before a0 Z = true) (ws : List Jvm.Cond) (p1 : Int32) (p2 : Int32) (w1 : Addr) (w2 : Addr) (h0 : Heap) (n0 : Nat) (Z0 : n0 ≤ h0.size) (hl : l.stackTraces = true) (hS : own_ST Z h0 w1 w2) (hm : ¬ (own_q1 p1) = (-9223372036854775808 : Int64)) (ho : own_big (own_q1 p1) (p2.toInt64) = 0 ∨ p2.toInt64 = 0 ∨ ((own_q1 p1) * p2.toInt64) / p2.toInt64 = own_q1 p1) (hc15 : ¬ ((0 : Int32) < (lcmpW (((p1.toInt64) + (2 : Int64)) * (p2.toInt64)) (72057594037927935 : Int64)))) (hc23 : ¬ ((lcmpW (((p1.toInt64) + (2 : Int64)) * (p2.toInt64)) (-72057594037927936 : Int64)) < (0 : Int32))) (hc49 : (lcmpW ((own_q1 p1) * p2.toInt64) ((((p1.toInt64) + (2 : Int64)) * (p2.toInt64)) * (128 : Int64))) = (0 : Int32)) :
    MetFree l x (head1 (Jvm.Cond.code x code maxLocals ret :: ws) room_1) (fun a U => a = #[(.int p1), (.int p2)] ∧ Z.Warmed39 U.vm ∧ U.heap = h0) (fun _ _ bl st _ => st.vm.MethodsKnown ∧ st.vm.FramesKnown bl) (fun _ U o U' => ∃ v L, o = .returned v ∧ Q0 Z p1 p2 w1 w2 h0 n0 v U'.heap L ∧ ReturnedEndW U o U' L room_1.cells room_1.slots) := by
  refine MetFree.of_bodySF (plainFor_of_name pn_0) hisR ?_
  intro p e s m args below meth c s₁ Bd hml0 hP hK
  obtain ⟨rfl, hZ, hh⟩ := hP
  have hx := Bd.exec
  have hby := Bd.bytes
  have hml : c.maxLocals = 6 := hml0
  have hown : s.vm.findClass "com/example/hush_vault/hushvault/crypto/ScryptMemoryBytesPinLaw" = some m.cls := findClass_of_methodNamed Bd.named
  have hnm := (name_of_methodNamed Bd.named Bd.method).1
  have X0 : Stand p l e room_1 s m #[(.int p1), (.int p2)] below meth c s₁ [] 0 0 := Stand.of_body Bd
  have e0 : s₁.heap = h0 := by rw [← hh, Bd.state]; rfl
  have N0 := Fr.nil n0
  have pre0 : ∀ t, Steps p.tables e below (s₁.setTop (mkF m 0 #[.val (.int p1), .val (.int p2), .unset, .unset, .unset, .unset] [])) t → Steps p.tables e below (s₁.setTop (entryFrame m #[(.int p1), (.int p2)] maxLocals)) t := fun t k => castTop (ef_0 m p1 p2) k

  obtain ⟨T3, X3, hS3, st3⟩ := own_memL X0 hx hZ hown hw e0 (rm1_M l Z a0 hw [] p1 p2 h0 hm ho) hK.1 hK.2 (g := (mkF m 43 #[.val (.int p1), .val (.int p2), .val (.long (((p1.toInt64) + (2 : Int64)) * (p2.toInt64))), .second, .val (.long ((((p1.toInt64) + (2 : Int64)) * (p2.toInt64)) * (128 : Int64))), .second] [(.int p2), (.int p1)])) rfl (by rw [hml]; rfl) (rest := []) rfl (hb hby at_43) (by decide) (by show 2 * 0 + 0 + (5 + 11) + 120 ≤ 224; decide) (by decide) (by decide)
  obtain ⟨fs, hr, hrun, hended, hE⟩ := X3.leaveW hS3 (Nat.le_refl _) (v := some (.int (1 : Int32))) (fun h => by rw [Bd.returns] at h; cases h)
  refine ⟨_, _, pre0 _ ?_, hrun, hended, _, _, rfl, ?_, ⟨_, rfl⟩, hE.2.1, hE.2.2.1, hE.2.2.2.mono (by decide) (by decide)⟩
  · show Steps _ _ _ (s₁.setTop (mkF m 0 #[.val (.int p1), .val (.int p2), .unset, .unset, .unset, .unset] [])) _
    refine XS.iloadN X0.here hx rfl (hb hby at_0) rfl ?_
    refine XS.i2l X0.here hx rfl (hb hby at_1) rfl ?_
    refine X0.ldc2Long hx hown (mvT hZ (ww hw 0 rfl)) (g := (mkF m 2 #[.val (.int p1), .val (.int p2), .unset, .unset, .unset, .unset] [(.long (p1.toInt64))])) rfl (hb hby at_2) _ ?_
    refine XS.ladd X0.here hx rfl (hb hby at_5) rfl ?_
    refine XS.iloadN X0.here hx rfl (hb hby at_6) rfl ?_
    refine XS.i2l X0.here hx rfl (hb hby at_7) rfl ?_
    refine XS.lmul X0.here hx rfl (hb hby at_8) rfl ?_
    refine XS.lstoreN X0.here hx rfl (hb hby at_9) rfl (l' := #[.val (.int p1), .val (.int p2), .val (.long (((p1.toInt64) + (2 : Int64)) * (p2.toInt64))), .second, .unset, .unset]) rfl ?_
    refine XS.lloadN X0.here hx rfl (hb hby at_10) rfl ?_
    refine X0.ldc2Long hx hown (mvT hZ (ww hw 1 rfl)) (g := (mkF m 11 #[.val (.int p1), .val (.int p2), .val (.long (((p1.toInt64) + (2 : Int64)) * (p2.toInt64))), .second, .unset, .unset] [(.long (((p1.toInt64) + (2 : Int64)) * (p2.toInt64)))])) rfl (hb hby at_11) _ ?_
    refine XS.lcmp X0.here hx rfl (hb hby at_14) rfl ?_
    refine XS.ifNo X0.here hx rfl (hb hby at_15) rfl ((if0 _ _).trans (flt hc15).2.2.1) ?_
    refine XS.lloadN X0.here hx rfl (hb hby at_18) rfl ?_
    refine X0.ldc2Long hx hown (mvT hZ (ww hw 2 rfl)) (g := (mkF m 19 #[.val (.int p1), .val (.int p2), .val (.long (((p1.toInt64) + (2 : Int64)) * (p2.toInt64))), .second, .unset, .unset] [(.long (((p1.toInt64) + (2 : Int64)) * (p2.toInt64)))])) rfl (hb hby at_19) _ ?_
    refine XS.lcmp X0.here hx rfl (hb hby at_22) rfl ?_
    refine XS.ifYes X0.here hx rfl (pc0 := 23) (pc' := 34) rfl (hb hby at_23) rfl ((if0 _ _).trans (flt hc23).2.1) (by decide) (by decide) ?_
    refine XS.lloadN X0.here hx rfl (hb hby at_34) rfl ?_
    refine X0.ldc2Long hx hown (mvT hZ (ww hw 3 rfl)) (g := (mkF m 35 #[.val (.int p1), .val (.int p2), .val (.long (((p1.toInt64) + (2 : Int64)) * (p2.toInt64))), .second, .unset, .unset] [(.long (((p1.toInt64) + (2 : Int64)) * (p2.toInt64)))])) rfl (hb hby at_35) _ ?_
    refine XS.lmul X0.here hx rfl (hb hby at_38) rfl ?_
    refine XS.lstore X0.here hx rfl (hb hby at_39) rfl (l' := #[.val (.int p1), .val (.int p2), .val (.long (((p1.toInt64) + (2 : Int64)) * (p2.toInt64))), .second, .val (.long ((((p1.toInt64) + (2 : Int64)) * (p2.toInt64)) * (128 : Int64))), .second]) rfl ?_
    refine XS.iloadN X0.here hx rfl (hb hby at_41) rfl ?_
    refine XS.iloadN X0.here hx rfl (hb hby at_42) rfl ?_
    refine st3 _ ?_
    refine XS.lload X3.here hx rfl (hb hby at_46) rfl ?_
    refine XS.lcmp X3.here hx rfl (hb hby at_48) rfl ?_
    refine XS.ifNo X3.here hx rfl (hb hby at_49) rfl ((if0 _ _).trans (teq hc49).2) ?_
    refine XS.iconst X3.here hx rfl (hb hby at_52) ?_
    refine XS.goto X3.here hx rfl (pc0 := 53) (pc' := 57) rfl (hb hby at_53) (by decide) (by decide) ?_
    exact retN X3 hx (t := .boolean) Bd.returns (by simp) (hb hby at_57) hr
  · show Q0 Z p1 p2 w1 w2 h0 n0 _ T3.heap _
    exact ⟨rfl, fun y hy => by simp at hy⟩
theorem rm0 (l : Launch) (Z : State) (a0 : Array Value) (hw : ∀ d ∈ tables_1, d.before a0 Z = true) (ws : List Jvm.Cond) (p1 : Int32) (p2 : Int32) (w1 : Addr) (w2 : Addr) (h0 : Heap) (n0 : Nat) (Z0 : n0 ≤ h0.size) (hl : l.stackTraces = true) (hS : own_ST Z h0 w1 w2) :
    MetFree l x (head1 (Jvm.Cond.code x code maxLocals ret :: ws) room_1) (fun a U => a = #[(.int p1), (.int p2)] ∧ Z.Warmed39 U.vm ∧ U.heap = h0) (fun _ _ bl st _ => st.vm.MethodsKnown ∧ st.vm.FramesKnown bl) (fun _ U o U' => ∃ v L, o = .returned v ∧ Q0 Z p1 p2 w1 w2 h0 n0 v U'.heap L ∧ ReturnedEndW U o U' L room_1.cells room_1.slots) := by
  have np := own_np p1 p2
  have k1 : (72057594037927935 : Int64).toInt = 72057594037927935 := rfl
  have k2 : (-72057594037927936 : Int64).toInt = -72057594037927936 := rfl
  by_cases g1 : (0 : Int32) < lcmpW (((p1.toInt64) + (2 : Int64)) * (p2.toInt64)) (72057594037927935 : Int64)
  · have b := (lw_gt _ _).mp g1
    rw [Int64.lt_iff_toInt_lt, np, k1] at b
    obtain ⟨c1, c2, c3⟩ := own_ov p1 p2 (Or.inr b)
    exact rm0_0 l Z a0 hw ws p1 p2 w1 w2 h0 n0 Z0 hl hS c1 c2 c3 g1 ((lw_eq _ _).mpr rfl)
  have b1 : ¬ (72057594037927935 : Int64) < (((p1.toInt64) + (2 : Int64)) * (p2.toInt64)) := fun z => g1 ((lw_gt _ _).mpr z)
  rw [Int64.lt_iff_toInt_lt, np, k1] at b1
  by_cases g2 : lcmpW (((p1.toInt64) + (2 : Int64)) * (p2.toInt64)) (-72057594037927936 : Int64) < (0 : Int32)
  · have b := (lw_lt _ _).mp g2
    rw [Int64.lt_iff_toInt_lt, np, k2] at b
    obtain ⟨c1, c2, c3⟩ := own_ov p1 p2 (Or.inl b)
    exact rm0_1 l Z a0 hw ws p1 p2 w1 w2 h0 n0 Z0 hl hS c1 c2 c3 g1 g2 ((lw_eq _ _).mpr rfl)
  have b2 : ¬ (((p1.toInt64) + (2 : Int64)) * (p2.toInt64)) < (-72057594037927936 : Int64) := fun z => g2 ((lw_lt _ _).mpr z)
  rw [Int64.lt_iff_toInt_lt, np, k2] at b2
  obtain ⟨hm, ho⟩ := own_no p1 p2 (by omega) (by omega)
  exact rm0_2 l Z a0 hw ws p1 p2 w1 w2 h0 n0 Z0 hl hS hm (Or.inr ho) g1 g2 ((lw_eq _ _).mpr (by
    show (128 : Int64) * (p1.toInt64 + 2) * p2.toInt64 = (p1.toInt64 + 2) * p2.toInt64 * 128
    rw [Int64.mul_assoc, Int64.mul_comm]))
theorem own_refA {t : Term} {ty : FieldType} {args : Array Value} {s : State} {v : Value} (e : t.eval args s none [] s = some v) (h : (Cond.arrayOf t ty).value args s none s [] = some true) : ∃ w, v = .ref w := by
  cases v <;> first | exact ⟨_, rfl⟩ | (simp [Cond.value, e] at h)
theorem own_refE {t : Term} {C : String} {args : Array Value} {s : State} {v : Value} (e : t.eval args s none [] s = some v) (h : (Cond.exactly t C).value args s none s [] = some true) : ∃ w, v = .ref w := by
  cases hc : s.vm.findClass C <;> cases v <;> first | exact ⟨_, rfl⟩ | (simp [Cond.value, e, hc] at h)
set_option maxRecDepth 65536 in
set_option maxHeartbeats 40000000 in
theorem comes_1 {Post : Tables → Env → Array Value → State → Outcome → State → Prop} (hpost : ∀ tb e args s v u, (limb_1_1.after args s (.returned v) u = true ∧ limb_1_2.after args s (.returned v) u = true ∧ True) → ReturnedEndW s (.returned v) u (Jvm.fieldLocs frame_1_writes args s ++ Jvm.arrayLocs frame_1_arrays args s ++ Jvm.staticLocs frame_1_statics s) 16 6656 → Post tb e args s (.returned v) u) :
    ArmFor flags0 classFile x code maxLocals ret World_1 tables_1 room_1 Calls_1 rest_1 Pre_1 Post := by
  intro l hfl _ _ p e ha hc hk s m args below hf hA hF happ hP
  obtain ⟨hcalls, hrest, hpre⟩ := hP
  obtain ⟨-, -, -, hnamed, -, -, -, hat⟩ := (Spec.applies_iff hf).mp happ
  obtain ⟨hg, hn⟩ := and_e (Cond.before_iff.mp (show (Jvm.Cond.and given_1 narrow_1).before args s = true from hpre))
  obtain ⟨g4, g5⟩ := and_e hg
  obtain ⟨g6, g7⟩ := and_e g5
  obtain ⟨w0, w1, rfl⟩ : ∃ w0 w1 : Value, args = #[w0, w1] := by
    have hs : args.size = 2 := by simpa [Cond.value, given_1] using g4
    obtain ⟨L⟩ := args
    match L, hs with
    | [w0, w1], _ => exact ⟨w0, w1, rfl⟩
  have hw := fun d (hd : d ∈ tables_1) => atoms_spec (ws := Jvm.Cond.code x code maxLocals ret :: tables_1) hat d (List.mem_cons_of_mem _ hd)
  have hfit : Fit s := fun {y c} hc i hi => by
    obtain ⟨ha, rfl⟩ := Array.getElem?_eq_some_iff.mp hc
    have q := List.all_eq_true.mp ((Array.all_eq_true_iff_forall_mem.mp hF) _ (Array.getElem_mem ha)) i (List.mem_range.mpr hi)
    simpa [Array.getElem?_eq_getElem hi] using q
  obtain ⟨hsets, hown0⟩ := atoms_of _ (rest_1_c_eq ▸ (show rest_1_c.before _ s = true from hrest))
  have hr0 := Cond.before_iff.mp hown0
  obtain ⟨i0, ei0⟩ := is_v g6
  obtain rfl : w0 = (.int i0) := Option.some.inj ei0
  obtain ⟨i1, ei1⟩ := is_v g7
  obtain rfl : w1 = (.int i1) := Option.some.inj ei1
  obtain ⟨u1, e_1, -⟩ := isR_v (Cond.before_iff.mp (hsets _ (List.mem_of_getElem? (i := 7) rfl)))
  obtain ⟨w1', rfl⟩ := own_refA e_1 (Cond.before_iff.mp (hsets _ (List.mem_of_getElem? (i := 8) rfl)))
  obtain ⟨u2, e_2, -⟩ := isR_v (Cond.before_iff.mp (hsets _ (List.mem_of_getElem? (i := 12) rfl)))
  obtain ⟨w2', rfl⟩ := own_refE e_2 (Cond.before_iff.mp (hsets _ (List.mem_of_getElem? (i := 13) rfl)))
  have hST : own_ST s s.heap w1' w2' := ⟨Jvm.RoadKit.ThS.start, Sta.start e_1 (Or.inl (hsets _ (List.mem_of_getElem? (i := 6) rfl))), Sta.start e_2 (Or.inl (hsets _ (List.mem_of_getElem? (i := 11) rfl)))⟩
  have hl : l.stackTraces = true := by
    have q : l.flags = Jvm.pinnedFlags := hfl
    unfold Launch.stackTraces
    rw [q]
    decide
  obtain ⟨n, o, h1, h2, h3, _, L, rfl, ⟨rfl, N⟩, hq⟩ := rm0 l s _ hw tables_1 i0 i1 w1' w2' s.heap s.heap.size (Nat.le_refl _) hl hST p e ha hc hk s m _ below hf ((Spec.applies_iff_loose hf).mp happ).1 ⟨rfl, State.Warmed39.refl s, rfl⟩ ⟨Jvm.MethodsKnown_of_tablesKnown hcalls.2.1, Jvm.FramesKnown_of_framesKnown hcalls.1 hf⟩
  refine ⟨n, _, h1, h2, h3, hpost _ _ _ _ _ _ ⟨Cond.after_iff.mpr rfl, Cond.after_iff.mpr (eq_i res_at (Term.int_eval (1)) rfl), trivial⟩ ⟨hq.1, hq.2.1, hq.2.2.1, (hq.2.2.2.sift fun y hy => Or.inr (N y hy)).mono (by decide) (by decide)⟩⟩
theorem main_1_1 : Claimed_1_1 := comes_1 fun _ _ _ _ _ _ h hF => ⟨h.1, hF⟩
theorem main_1_2 : Claimed_1_2 := comes_1 fun _ _ _ _ _ _ h hF => ⟨h.2.1, hF⟩
end Jvm.Pilot.@@N@@
namespace Jvm.Pilot.@@N@@
open Jvm Jvm.ClassFile Sem Op Lib Jvm.Free Jvm.Stand Jvm.Pilot.@@N@@.Jvm.D
/-! MADE BY PROGRAM (witnessworld.py) out of the Statement's table words and the real class files: 32 classes; the members and pool entries that the words name. The judged class is class 1, her method 1. -/
namespace start1
open Jvm.ClassFile
def u (s : String) : CpInfo := .utf8 (stringToUtf16 s)
/-- a pool by its gaps: so many unusable entries, then the entry; so many at the end -/
def gap : Nat → List CpInfo → List CpInfo
  | 0, r => r
  | n + 1, r => .unusable :: gap n r
def poolList (es : List (Nat × CpInfo)) (last : Nat) : List CpInfo := es.foldr (fun e r => gap e.1 (e.2 :: r)) (gap last [])
def pool (es : List (Nat × CpInfo)) (last : Nat) : Array CpInfo := ⟨poolList es last⟩
def fileOf (pool : Array CpInfo) (this : Nat) (attrs : Array Attribute := #[]) (ms : Array MethodInfo := #[]) (fl : Nat := 33) (sup : Nat := 0) (ifs : Array Nat := #[]) (fds : Array FieldInfo := #[]) : ClassFile where
  minorVersion := 0
  majorVersion := 65
  constantPool := pool
  accessFlags := fl
  thisClass := this
  superClass := sup
  interfaces := ifs
  fields := fds
  methods := ms
  attributes := attrs
def plain (name : String) (sup : Option ClassId) : Class where
  name := name
  kind := .ordinary
  loader := none
  accessFlags := 33
  super := sup
  interfaces := #[]
  cf := none
  fields := #[]
  methods := #[]
  instanceTypes := #[]
  staticTypes := #[]
  resolved := #[]
  callSites := []
  init := .initialized
  statics := none
  mirror := none

def pool0 : Array CpInfo := pool [(5, u "<init>"), (0, u "()V"), (1, .class_ 10), (1, u "java/lang/Object")] 113

def k0c0 : Code := { maxStack := 0, maxLocals := 1, code := object_method_1_code, exceptionTable := #[], attributes := #[] }
def k0m0 : Method := { name := "<init>", desc := "()V", sig := { parameters := [], returnType := none }, accessFlags := 1, code := some k0c0 }
/-- java/lang/Object -/
def k0 : Class := { plain "java/lang/Object" none with
  accessFlags := 33
  interfaces := #[]
  cf := some (fileOf pool0 8 #[] #[{ accessFlags := 1, nameIndex := 5, descriptorIndex := 6, attributes := #[] }] 33 0 #[] #[])
  fields := #[]
  methods := #[k0m0]
  instanceTypes := #[]
  staticTypes := #[]
  resolved := Array.replicate 124 none
  statics := none }

def pool1 : Array CpInfo := pool [(2, .class_ 4), (1, u "java/lang/Object"), (0, u "<init>"), (0, u "()V"), (0, .long 2), (1, .long 72057594037927935), (1, .long 18374686479671623680), (3, .long 9223372036854775807), (1, .long 128), (1, .methodref 20 21), (0, .class_ 22), (0, .nameAndType 23 24), (0, u "com/example/hush_vault/hushvault/crypto/Scrypt"), (0, u "memoryBytes"), (0, u "(II)J"), (0, .class_ 26), (0, u "com/example/hush_vault/hushvault/crypto/ScryptMemoryBytesPinLaw"), (2, u "law"), (0, u "(II)Z")] 3

def k1m0 : Method := { name := "<init>", desc := "()V", sig := { parameters := [], returnType := none }, accessFlags := 1, code := none }
def k1c1 : Code := { maxStack := 4, maxLocals := 6, code := code, exceptionTable := #[], attributes := #[] }
def k1m1 : Method := { name := "law", desc := "(II)Z", sig := { parameters := [.int, .int], returnType := some .boolean }, accessFlags := 9, code := some k1c1 }
/-- com/example/hush_vault/hushvault/crypto/ScryptMemoryBytesPinLaw -/
def k1 : Class := { plain "com/example/hush_vault/hushvault/crypto/ScryptMemoryBytesPinLaw" (some 0) with
  accessFlags := 49
  interfaces := #[]
  cf := some (fileOf pool1 25 #[] #[{ accessFlags := 1, nameIndex := 5, descriptorIndex := 6, attributes := #[] }, { accessFlags := 9, nameIndex := 29, descriptorIndex := 30, attributes := #[] }] 49 2 #[] #[])
  fields := #[]
  methods := #[k1m0, k1m1]
  instanceTypes := #[]
  staticTypes := #[]
  resolved := Array.replicate 34 none
  statics := none }

def pool2 : Array CpInfo := pool [(1, .class_ 2), (0, u "com/example/hush_vault/hushvault/crypto/Scrypt"), (3, .class_ 8), (1, u "java/lang/Object"), (0, u "<init>"), (0, u "()V"), (0, .long 128), (1, .long 2), (1, .methodref 16 17), (0, .class_ 18), (0, .nameAndType 19 20), (0, u "java/lang/Math"), (0, u "multiplyExact"), (0, u "(JJ)J"), (0, .class_ 22), (0, u "java/lang/ArithmeticException"), (2, .long 9223372036854775807), (13, u "memoryBytes"), (0, u "(II)J"), (154, u "KEY_LENGTH"), (0, u "I"), (2, u "PRF"), (0, u "Ljava/lang/String;"), (0, u "PRF_LENGTH"), (0, u "PRF_INTS"), (1, u "SALSA_INTS"), (1, u "MAX_MEMORY_INTS"), (1, u "SALT_CHUNK_INTS")] 35

def k2m0 : Method := { name := "<init>", desc := "()V", sig := { parameters := [], returnType := none }, accessFlags := 2, code := none }
def k2c1 : Code := { maxStack := 6, maxLocals := 5, code := prog_9_method_2_code, exceptionTable := #[{ startPc := 0, endPc := 16, handlerPc := 19, catchType := 21 }], attributes := #[] }
def k2m1 : Method := { name := "memoryBytes", desc := "(II)J", sig := { parameters := [.int, .int], returnType := some .long }, accessFlags := 9, code := some k2c1 }
/-- com/example/hush_vault/hushvault/crypto/Scrypt -/
def k2 : Class := { plain "com/example/hush_vault/hushvault/crypto/Scrypt" (some 0) with
  accessFlags := 49
  interfaces := #[]
  cf := some (fileOf pool2 1 #[] #[{ accessFlags := 2, nameIndex := 9, descriptorIndex := 10, attributes := #[] }, { accessFlags := 9, nameIndex := 39, descriptorIndex := 40, attributes := #[] }] 49 6 #[] #[{ accessFlags := 25, nameIndex := 195, descriptorIndex := 196, attributes := #[] }, { accessFlags := 26, nameIndex := 199, descriptorIndex := 200, attributes := #[] }, { accessFlags := 26, nameIndex := 201, descriptorIndex := 196, attributes := #[] }, { accessFlags := 26, nameIndex := 202, descriptorIndex := 196, attributes := #[] }, { accessFlags := 26, nameIndex := 204, descriptorIndex := 196, attributes := #[] }, { accessFlags := 26, nameIndex := 206, descriptorIndex := 196, attributes := #[] }, { accessFlags := 26, nameIndex := 208, descriptorIndex := 196, attributes := #[] }])
  fields := #[{ name := "KEY_LENGTH", type := .int, accessFlags := 25, slot := 0, constantValue := 0 }, { name := "PRF", type := (.object "java/lang/String"), accessFlags := 26, slot := 1, constantValue := 0 }, { name := "PRF_LENGTH", type := .int, accessFlags := 26, slot := 2, constantValue := 0 }, { name := "PRF_INTS", type := .int, accessFlags := 26, slot := 3, constantValue := 0 }, { name := "SALSA_INTS", type := .int, accessFlags := 26, slot := 4, constantValue := 0 }, { name := "MAX_MEMORY_INTS", type := .int, accessFlags := 26, slot := 5, constantValue := 0 }, { name := "SALT_CHUNK_INTS", type := .int, accessFlags := 26, slot := 6, constantValue := 0 }]
  methods := #[k2m0, k2m1]
  instanceTypes := #[]
  staticTypes := #[.int, (.object "java/lang/String"), .int, .int, .int, .int, .int]
  resolved := Array.replicate 244 none
  statics := none }

def pool3 : Array CpInfo := pool [(1, .class_ 2), (0, u "java/lang/Math"), (1, .class_ 6), (1, u "java/lang/Object"), (0, u "<init>"), (0, u "()V"), (89, .class_ 100), (1, u "java/lang/Math$RandomNumberGeneratorHolder"), (8, .class_ 110), (0, u "java/lang/ArithmeticException"), (2, .methodref 109 114), (0, .nameAndType 7 115), (0, u "(Ljava/lang/String;)V"), (0, .string 117), (0, u "long overflow"), (2, u "multiplyExact"), (0, u "(JJ)J"), (0, .methodref 1 123), (0, .nameAndType 124 125), (0, u "abs"), (0, u "(J)J"), (2, .long 9223372036854775808), (43, u "negativeZeroFloatBits"), (0, u "J"), (2, u "negativeZeroDoubleBits"), (68, u "$assertionsDisabled"), (0, u "Z"), (91, u "twoToTheDoubleScaleDown"), (0, u "D"), (4, u "twoToTheDoubleScaleUp"), (9, u "E"), (3, u "PI"), (2, u "TAU"), (2, u "DEGREES_TO_RADIANS"), (0, u "RADIANS_TO_DEGREES")] 94

def k3m0 : Method := { name := "<init>", desc := "()V", sig := { parameters := [], returnType := none }, accessFlags := 2, code := none }
def k3c1 : Code := { maxStack := 4, maxLocals := 10, code := jdk_29_method_30_code, exceptionTable := #[], attributes := #[] }
def k3m1 : Method := { name := "multiplyExact", desc := "(JJ)J", sig := { parameters := [.long, .long], returnType := some .long }, accessFlags := 9, code := some k3c1 }
def k3c2 : Code := { maxStack := 4, maxLocals := 2, code := jdk_29_method_61_code, exceptionTable := #[], attributes := #[] }
def k3m2 : Method := { name := "abs", desc := "(J)J", sig := { parameters := [.long], returnType := some .long }, accessFlags := 9, code := some k3c2 }
/-- java/lang/Math -/
def k3 : Class := { plain "java/lang/Math" (some 0) with
  accessFlags := 49
  interfaces := #[]
  cf := some (fileOf pool3 1 #[.nestMembers #[98]] #[{ accessFlags := 2, nameIndex := 7, descriptorIndex := 8, attributes := #[] }, { accessFlags := 9, nameIndex := 120, descriptorIndex := 121, attributes := #[] }, { accessFlags := 9, nameIndex := 124, descriptorIndex := 125, attributes := #[] }] 49 4 #[] #[{ accessFlags := 25, nameIndex := 354, descriptorIndex := 339, attributes := #[] }, { accessFlags := 25, nameIndex := 358, descriptorIndex := 339, attributes := #[] }, { accessFlags := 25, nameIndex := 361, descriptorIndex := 339, attributes := #[] }, { accessFlags := 26, nameIndex := 364, descriptorIndex := 339, attributes := #[] }, { accessFlags := 26, nameIndex := 365, descriptorIndex := 339, attributes := #[] }, { accessFlags := 26, nameIndex := 172, descriptorIndex := 173, attributes := #[] }, { accessFlags := 26, nameIndex := 176, descriptorIndex := 173, attributes := #[] }, { accessFlags := 8, nameIndex := 344, descriptorIndex := 339, attributes := #[] }, { accessFlags := 8, nameIndex := 338, descriptorIndex := 339, attributes := #[] }, { accessFlags := 4120, nameIndex := 245, descriptorIndex := 246, attributes := #[] }])
  fields := #[{ name := "E", type := .double, accessFlags := 25, slot := 0, constantValue := 0 }, { name := "PI", type := .double, accessFlags := 25, slot := 1, constantValue := 0 }, { name := "TAU", type := .double, accessFlags := 25, slot := 2, constantValue := 0 }, { name := "DEGREES_TO_RADIANS", type := .double, accessFlags := 26, slot := 3, constantValue := 0 }, { name := "RADIANS_TO_DEGREES", type := .double, accessFlags := 26, slot := 4, constantValue := 0 }, { name := "negativeZeroFloatBits", type := .long, accessFlags := 26, slot := 5, constantValue := 0 }, { name := "negativeZeroDoubleBits", type := .long, accessFlags := 26, slot := 6, constantValue := 0 }, { name := "twoToTheDoubleScaleUp", type := .double, accessFlags := 8, slot := 7, constantValue := 0 }, { name := "twoToTheDoubleScaleDown", type := .double, accessFlags := 8, slot := 8, constantValue := 0 }, { name := "$assertionsDisabled", type := .boolean, accessFlags := 4120, slot := 9, constantValue := 0 }]
  methods := #[k3m0, k3m1, k3m2]
  instanceTypes := #[]
  staticTypes := #[.double, .double, .double, .double, .double, .long, .long, .double, .double, .boolean]
  resolved := Array.replicate 460 none
  statics := none }

def pool4 : Array CpInfo := pool [(1, .class_ 2), (0, u "java/io/Serializable"), (0, .class_ 4), (0, u "java/lang/Object")] 2

/-- java/io/Serializable -/
def k4 : Class := { plain "java/io/Serializable" (some 0) with
  accessFlags := 1537
  interfaces := #[]
  cf := some (fileOf pool4 1 #[] #[] 1537 3 #[] #[])
  fields := #[]
  methods := #[]
  instanceTypes := #[]
  staticTypes := #[]
  resolved := Array.replicate 7 none
  statics := none }

def pool5 : Array CpInfo := pool [(1, .methodref 2 3), (0, .class_ 4), (0, .nameAndType 5 6), (0, u "java/lang/Object"), (0, u "<init>"), (0, u "()V"), (0, .fieldref 8 9), (0, .class_ 10), (0, .nameAndType 11 12), (0, u "java/lang/Throwable"), (0, u "cause"), (0, u "Ljava/lang/Throwable;"), (0, .fieldref 8 14), (0, .nameAndType 15 16), (0, u "UNASSIGNED_STACK"), (0, u "[Ljava/lang/StackTraceElement;"), (0, .fieldref 8 18), (0, .nameAndType 19 16), (0, u "stackTrace"), (0, .fieldref 8 21), (0, .nameAndType 22 23), (0, u "SUPPRESSED_SENTINEL"), (0, u "Ljava/util/List;"), (0, .fieldref 8 25), (0, .nameAndType 26 23), (0, u "suppressedExceptions"), (0, .methodref 8 28), (0, .nameAndType 29 30), (0, u "fillInStackTrace"), (0, u "()Ljava/lang/Throwable;"), (0, .fieldref 8 32), (0, .nameAndType 33 34), (0, u "detailMessage"), (0, u "Ljava/lang/String;"), (58, .class_ 94), (0, u "java/lang/Throwable$WrappedPrintStream"), (6, .class_ 103), (1, u "java/lang/Throwable$PrintStreamOrWriter"), (61, u "$assertionsDisabled"), (0, u "Z"), (26, .class_ 194), (0, u "java/lang/Throwable$WrappedPrintWriter"), (3, .fieldref 8 199), (0, .nameAndType 200 201), (0, u "backtrace"), (0, u "Ljava/lang/Object;"), (0, .methodref 8 203), (0, .nameAndType 29 204), (0, u "(I)Ljava/lang/Throwable;"), (6, u "depth"), (0, u "I"), (10, u "(Ljava/lang/String;)V"), (45, .class_ 271), (1, u "java/lang/Throwable$SentinelHolder"), (32, u "EMPTY_THROWABLE_ARRAY"), (0, u "[Ljava/lang/Throwable;"), (12, .class_ 319), (0, u "java/io/Serializable"), (0, u "serialVersionUID"), (0, u "J"), (5, u "NULL_CAUSE_MESSAGE"), (0, u "SELF_SUPPRESSION_MESSAGE"), (0, u "CAUSE_CAPTION"), (0, u "SUPPRESSED_CAPTION")] 73

def k5c0 : Code := { maxStack := 2, maxLocals := 1, code := jdk_78_method_1_code, exceptionTable := #[], attributes := #[] }
def k5m0 : Method := { name := "<init>", desc := "()V", sig := { parameters := [], returnType := none }, accessFlags := 1, code := some k5c0 }
def k5c1 : Code := { maxStack := 2, maxLocals := 2, code := jdk_78_method_2_code, exceptionTable := #[], attributes := #[] }
def k5m1 : Method := { name := "<init>", desc := "(Ljava/lang/String;)V", sig := { parameters := [(.object "java/lang/String")], returnType := none }, accessFlags := 1, code := some k5c1 }
def k5c2 : Code := { maxStack := 2, maxLocals := 1, code := ⟨#[0x2a, 0xb4, 0x00, 0x11, 0xc7, 0x00, 0x0a, 0x2a, 0xb4, 0x00, 0xc6, 0xc6, 0x00, 0x10, 0x2a, 0x03, 0xb6, 0x00, 0xca, 0x57, 0x2a, 0xb2, 0x00, 0x0d, 0xb5, 0x00, 0x11, 0x2a, 0xb0]⟩, exceptionTable := #[], attributes := #[] }
def k5m2 : Method := { name := "fillInStackTrace", desc := "()Ljava/lang/Throwable;", sig := { parameters := [], returnType := some (.object "java/lang/Throwable") }, accessFlags := 33, code := some k5c2 }
def k5m3 : Method := { name := "fillInStackTrace", desc := "(I)Ljava/lang/Throwable;", sig := { parameters := [.int], returnType := some (.object "java/lang/Throwable") }, accessFlags := 258, code := none }
/-- java/lang/Throwable -/
def k5 : Class := { plain "java/lang/Throwable" (some 0) with
  accessFlags := 33
  interfaces := #[4]
  cf := some (fileOf pool5 8 #[.nestMembers #[193, 93, 101, 269]] #[{ accessFlags := 1, nameIndex := 5, descriptorIndex := 6, attributes := #[] }, { accessFlags := 1, nameIndex := 5, descriptorIndex := 223, attributes := #[] }, { accessFlags := 33, nameIndex := 29, descriptorIndex := 30, attributes := #[] }, { accessFlags := 258, nameIndex := 29, descriptorIndex := 204, attributes := #[] }] 33 2 #[318] #[{ accessFlags := 26, nameIndex := 320, descriptorIndex := 321, attributes := #[] }, { accessFlags := 130, nameIndex := 200, descriptorIndex := 201, attributes := #[] }, { accessFlags := 2, nameIndex := 33, descriptorIndex := 34, attributes := #[] }, { accessFlags := 26, nameIndex := 15, descriptorIndex := 16, attributes := #[] }, { accessFlags := 2, nameIndex := 11, descriptorIndex := 12, attributes := #[] }, { accessFlags := 2, nameIndex := 19, descriptorIndex := 16, attributes := #[] }, { accessFlags := 130, nameIndex := 211, descriptorIndex := 212, attributes := #[] }, { accessFlags := 26, nameIndex := 22, descriptorIndex := 23, attributes := #[] }, { accessFlags := 2, nameIndex := 26, descriptorIndex := 23, attributes := #[] }, { accessFlags := 26, nameIndex := 327, descriptorIndex := 34, attributes := #[] }, { accessFlags := 26, nameIndex := 328, descriptorIndex := 34, attributes := #[] }, { accessFlags := 26, nameIndex := 329, descriptorIndex := 34, attributes := #[] }, { accessFlags := 26, nameIndex := 330, descriptorIndex := 34, attributes := #[] }, { accessFlags := 26, nameIndex := 304, descriptorIndex := 305, attributes := #[] }, { accessFlags := 4120, nameIndex := 165, descriptorIndex := 166, attributes := #[] }])
  fields := #[{ name := "serialVersionUID", type := .long, accessFlags := 26, slot := 0, constantValue := 0 }, { name := "backtrace", type := (.object "java/lang/Object"), accessFlags := 130, slot := 0, constantValue := 0 }, { name := "detailMessage", type := (.object "java/lang/String"), accessFlags := 2, slot := 1, constantValue := 0 }, { name := "UNASSIGNED_STACK", type := (.array (.object "java/lang/StackTraceElement")), accessFlags := 26, slot := 1, constantValue := 0 }, { name := "cause", type := (.object "java/lang/Throwable"), accessFlags := 2, slot := 2, constantValue := 0 }, { name := "stackTrace", type := (.array (.object "java/lang/StackTraceElement")), accessFlags := 2, slot := 3, constantValue := 0 }, { name := "depth", type := .int, accessFlags := 130, slot := 4, constantValue := 0 }, { name := "SUPPRESSED_SENTINEL", type := (.object "java/util/List"), accessFlags := 26, slot := 2, constantValue := 0 }, { name := "suppressedExceptions", type := (.object "java/util/List"), accessFlags := 2, slot := 5, constantValue := 0 }, { name := "NULL_CAUSE_MESSAGE", type := (.object "java/lang/String"), accessFlags := 26, slot := 3, constantValue := 0 }, { name := "SELF_SUPPRESSION_MESSAGE", type := (.object "java/lang/String"), accessFlags := 26, slot := 4, constantValue := 0 }, { name := "CAUSE_CAPTION", type := (.object "java/lang/String"), accessFlags := 26, slot := 5, constantValue := 0 }, { name := "SUPPRESSED_CAPTION", type := (.object "java/lang/String"), accessFlags := 26, slot := 6, constantValue := 0 }, { name := "EMPTY_THROWABLE_ARRAY", type := (.array (.object "java/lang/Throwable")), accessFlags := 26, slot := 7, constantValue := 0 }, { name := "$assertionsDisabled", type := .boolean, accessFlags := 4120, slot := 8, constantValue := 0 }]
  methods := #[k5m0, k5m1, k5m2, k5m3]
  instanceTypes := #[(.object "java/lang/Object"), (.object "java/lang/String"), (.object "java/lang/Throwable"), (.array (.object "java/lang/StackTraceElement")), .int, (.object "java/util/List")]
  staticTypes := #[.long, (.array (.object "java/lang/StackTraceElement")), (.object "java/util/List"), (.object "java/lang/String"), (.object "java/lang/String"), (.object "java/lang/String"), (.object "java/lang/String"), (.array (.object "java/lang/Throwable")), .boolean]
  resolved := Array.replicate 404 none
  statics := some 0 }

def pool6 : Array CpInfo := pool [(2, .class_ 4), (1, u "java/lang/Throwable"), (0, u "<init>"), (0, u "()V"), (0, .methodref 2 8), (0, .nameAndType 5 9), (0, u "(Ljava/lang/String;)V"), (9, .class_ 20), (0, u "java/lang/Exception"), (0, u "serialVersionUID"), (0, u "J")] 17

def k6m0 : Method := { name := "<init>", desc := "()V", sig := { parameters := [], returnType := none }, accessFlags := 1, code := none }
def k6c1 : Code := { maxStack := 2, maxLocals := 2, code := jdk_59_method_2_code, exceptionTable := #[], attributes := #[] }
def k6m1 : Method := { name := "<init>", desc := "(Ljava/lang/String;)V", sig := { parameters := [(.object "java/lang/String")], returnType := none }, accessFlags := 1, code := some k6c1 }
/-- java/lang/Exception -/
def k6 : Class := { plain "java/lang/Exception" (some 5) with
  accessFlags := 33
  interfaces := #[]
  cf := some (fileOf pool6 19 #[] #[{ accessFlags := 1, nameIndex := 5, descriptorIndex := 6, attributes := #[] }, { accessFlags := 1, nameIndex := 5, descriptorIndex := 9, attributes := #[] }] 33 2 #[] #[{ accessFlags := 24, nameIndex := 21, descriptorIndex := 22, attributes := #[] }])
  fields := #[{ name := "serialVersionUID", type := .long, accessFlags := 24, slot := 0, constantValue := 0 }]
  methods := #[k6m0, k6m1]
  instanceTypes := #[(.object "java/lang/Object"), (.object "java/lang/String"), (.object "java/lang/Throwable"), (.array (.object "java/lang/StackTraceElement")), .int, (.object "java/util/List")]
  staticTypes := #[.long]
  resolved := Array.replicate 40 none
  statics := none }

def pool7 : Array CpInfo := pool [(2, .class_ 4), (1, u "java/lang/Exception"), (0, u "<init>"), (0, u "()V"), (0, .methodref 2 8), (0, .nameAndType 5 9), (0, u "(Ljava/lang/String;)V"), (9, .class_ 20), (0, u "java/lang/RuntimeException"), (0, u "serialVersionUID"), (0, u "J")] 17

def k7m0 : Method := { name := "<init>", desc := "()V", sig := { parameters := [], returnType := none }, accessFlags := 1, code := none }
def k7c1 : Code := { maxStack := 2, maxLocals := 2, code := jdk_58_method_2_code, exceptionTable := #[], attributes := #[] }
def k7m1 : Method := { name := "<init>", desc := "(Ljava/lang/String;)V", sig := { parameters := [(.object "java/lang/String")], returnType := none }, accessFlags := 1, code := some k7c1 }
/-- java/lang/RuntimeException -/
def k7 : Class := { plain "java/lang/RuntimeException" (some 6) with
  accessFlags := 33
  interfaces := #[]
  cf := some (fileOf pool7 19 #[] #[{ accessFlags := 1, nameIndex := 5, descriptorIndex := 6, attributes := #[] }, { accessFlags := 1, nameIndex := 5, descriptorIndex := 9, attributes := #[] }] 33 2 #[] #[{ accessFlags := 24, nameIndex := 21, descriptorIndex := 22, attributes := #[] }])
  fields := #[{ name := "serialVersionUID", type := .long, accessFlags := 24, slot := 0, constantValue := 0 }]
  methods := #[k7m0, k7m1]
  instanceTypes := #[(.object "java/lang/Object"), (.object "java/lang/String"), (.object "java/lang/Throwable"), (.array (.object "java/lang/StackTraceElement")), .int, (.object "java/util/List")]
  staticTypes := #[.long]
  resolved := Array.replicate 40 none
  statics := none }

def pool8 : Array CpInfo := pool [(2, .class_ 4), (1, u "java/lang/RuntimeException"), (0, u "<init>"), (0, u "()V"), (0, .methodref 2 8), (0, .nameAndType 5 9), (0, u "(Ljava/lang/String;)V"), (0, .class_ 11), (0, u "java/lang/ArithmeticException"), (0, u "serialVersionUID"), (0, u "J")] 12

def k8m0 : Method := { name := "<init>", desc := "()V", sig := { parameters := [], returnType := none }, accessFlags := 1, code := none }
def k8c1 : Code := { maxStack := 2, maxLocals := 2, code := jdk_84_method_2_code, exceptionTable := #[], attributes := #[] }
def k8m1 : Method := { name := "<init>", desc := "(Ljava/lang/String;)V", sig := { parameters := [(.object "java/lang/String")], returnType := none }, accessFlags := 1, code := some k8c1 }
/-- java/lang/ArithmeticException -/
def k8 : Class := { plain "java/lang/ArithmeticException" (some 7) with
  accessFlags := 33
  interfaces := #[]
  cf := some (fileOf pool8 10 #[] #[{ accessFlags := 1, nameIndex := 5, descriptorIndex := 6, attributes := #[] }, { accessFlags := 1, nameIndex := 5, descriptorIndex := 9, attributes := #[] }] 33 2 #[] #[{ accessFlags := 26, nameIndex := 12, descriptorIndex := 13, attributes := #[] }])
  fields := #[{ name := "serialVersionUID", type := .long, accessFlags := 26, slot := 0, constantValue := 0 }]
  methods := #[k8m0, k8m1]
  instanceTypes := #[(.object "java/lang/Object"), (.object "java/lang/String"), (.object "java/lang/Throwable"), (.array (.object "java/lang/StackTraceElement")), .int, (.object "java/util/List")]
  staticTypes := #[.long]
  resolved := Array.replicate 26 none
  statics := none }

def pool9 : Array CpInfo := pool [(1, .class_ 2), (0, u "java/lang/Comparable"), (0, .class_ 4), (0, u "java/lang/Object")] 7

/-- java/lang/Comparable -/
def k9 : Class := { plain "java/lang/Comparable" (some 0) with
  accessFlags := 1537
  interfaces := #[]
  cf := some (fileOf pool9 1 #[] #[] 1537 3 #[] #[])
  fields := #[]
  methods := #[]
  instanceTypes := #[]
  staticTypes := #[]
  resolved := Array.replicate 12 none
  statics := none }

def pool10 : Array CpInfo := pool [(2, .class_ 4), (1, u "java/lang/CharSequence"), (42, .class_ 48), (0, u "java/lang/CharSequence$1CodePointIterator"), (10, .class_ 60), (0, u "java/lang/CharSequence$1CharIterator"), (5, .class_ 67), (0, u "java/lang/Object")] 63

/-- java/lang/CharSequence -/
def k10 : Class := { plain "java/lang/CharSequence" (some 0) with
  accessFlags := 1537
  interfaces := #[]
  cf := some (fileOf pool10 2 #[.nestMembers #[47, 59]] #[] 1537 66 #[] #[])
  fields := #[]
  methods := #[]
  instanceTypes := #[]
  staticTypes := #[]
  resolved := Array.replicate 131 none
  statics := none }

def pool11 : Array CpInfo := pool [(1, .class_ 2), (0, u "java/lang/constant/Constable"), (0, .class_ 4), (0, u "java/lang/Object")] 6

/-- java/lang/constant/Constable -/
def k11 : Class := { plain "java/lang/constant/Constable" (some 0) with
  accessFlags := 1537
  interfaces := #[]
  cf := some (fileOf pool11 1 #[] #[] 1537 3 #[] #[])
  fields := #[]
  methods := #[]
  instanceTypes := #[]
  staticTypes := #[]
  resolved := Array.replicate 11 none
  statics := none }

def pool12 : Array CpInfo := pool [(1, .class_ 2), (0, u "java/lang/constant/ConstantDesc"), (0, .class_ 4), (0, u "java/lang/Object")] 32

/-- java/lang/constant/ConstantDesc -/
def k12 : Class := { plain "java/lang/constant/ConstantDesc" (some 0) with
  accessFlags := 1537
  interfaces := #[]
  cf := some (fileOf pool12 1 #[] #[] 1537 3 #[] #[])
  fields := #[]
  methods := #[]
  instanceTypes := #[]
  staticTypes := #[]
  resolved := Array.replicate 37 none
  statics := none }

def pool13 : Array CpInfo := pool [(2, .class_ 4), (1, u "java/lang/Object"), (0, u "<init>"), (0, u "()V"), (3, .class_ 12), (1, u "java/lang/String"), (0, u "value"), (0, u "[B"), (2, u "coder"), (0, u "B"), (2, u "hash"), (0, u "I"), (2, u "hashIsZero"), (0, u "Z"), (13, u "COMPACT_STRINGS"), (534, .class_ 576), (0, u "java/lang/CharSequence"), (22, u "CASE_INSENSITIVE_ORDER"), (0, u "Ljava/util/Comparator;"), (500, u "serialPersistentFields"), (0, u "[Ljava/io/ObjectStreamField;"), (0, .class_ 1104), (0, u "java/lang/String$CaseInsensitiveComparator"), (1, .class_ 1107), (0, u "java/io/Serializable"), (0, .class_ 1109), (0, u "java/lang/Comparable"), (0, .class_ 1111), (0, u "java/lang/constant/Constable"), (0, .class_ 1113), (0, u "java/lang/constant/ConstantDesc"), (2, u "serialVersionUID"), (0, u "J"), (3, u "REPL"), (0, u "C"), (2, u "LATIN1"), (1, u "UTF16")] 323

def k13m0 : Method := { name := "<init>", desc := "()V", sig := { parameters := [], returnType := none }, accessFlags := 1, code := none }
/-- java/lang/String -/
def k13 : Class := { plain "java/lang/String" (some 0) with
  accessFlags := 49
  interfaces := #[4, 9, 10, 11, 12]
  cf := some (fileOf pool13 10 #[.nestMembers #[1103]] #[{ accessFlags := 1, nameIndex := 5, descriptorIndex := 6, attributes := #[] }] 49 2 #[1106, 1108, 575, 1110, 1112] #[{ accessFlags := 18, nameIndex := 13, descriptorIndex := 14, attributes := #[] }, { accessFlags := 18, nameIndex := 17, descriptorIndex := 18, attributes := #[] }, { accessFlags := 2, nameIndex := 21, descriptorIndex := 22, attributes := #[] }, { accessFlags := 2, nameIndex := 25, descriptorIndex := 26, attributes := #[] }, { accessFlags := 26, nameIndex := 1116, descriptorIndex := 1117, attributes := #[] }, { accessFlags := 24, nameIndex := 40, descriptorIndex := 26, attributes := #[] }, { accessFlags := 26, nameIndex := 1101, descriptorIndex := 1102, attributes := #[] }, { accessFlags := 26, nameIndex := 1121, descriptorIndex := 1122, attributes := #[] }, { accessFlags := 25, nameIndex := 599, descriptorIndex := 600, attributes := #[] }, { accessFlags := 24, nameIndex := 1125, descriptorIndex := 18, attributes := #[] }, { accessFlags := 24, nameIndex := 1127, descriptorIndex := 18, attributes := #[] }])
  fields := #[{ name := "value", type := (.array .byte), accessFlags := 18, slot := 0, constantValue := 0 }, { name := "coder", type := .byte, accessFlags := 18, slot := 1, constantValue := 0 }, { name := "hash", type := .int, accessFlags := 2, slot := 2, constantValue := 0 }, { name := "hashIsZero", type := .boolean, accessFlags := 2, slot := 3, constantValue := 0 }, { name := "serialVersionUID", type := .long, accessFlags := 26, slot := 0, constantValue := 0 }, { name := "COMPACT_STRINGS", type := .boolean, accessFlags := 24, slot := 1, constantValue := 0 }, { name := "serialPersistentFields", type := (.array (.object "java/io/ObjectStreamField")), accessFlags := 26, slot := 2, constantValue := 0 }, { name := "REPL", type := .char, accessFlags := 26, slot := 3, constantValue := 0 }, { name := "CASE_INSENSITIVE_ORDER", type := (.object "java/util/Comparator"), accessFlags := 25, slot := 4, constantValue := 0 }, { name := "LATIN1", type := .byte, accessFlags := 24, slot := 5, constantValue := 0 }, { name := "UTF16", type := .byte, accessFlags := 24, slot := 6, constantValue := 0 }]
  methods := #[k13m0]
  instanceTypes := #[(.array .byte), .byte, .int, .boolean]
  staticTypes := #[.long, .boolean, (.array (.object "java/io/ObjectStreamField")), .char, (.object "java/util/Comparator"), .byte, .byte]
  resolved := Array.replicate 1451 none
  statics := none }

def pool14 : Array CpInfo := pool [(2, .class_ 4), (1, u "java/lang/Object"), (0, u "<init>"), (0, u "()V"), (12, .class_ 20), (0, u "java/util/Collections"), (63, u "r"), (0, u "Ljava/util/Random;"), (80, .class_ 167), (0, u "java/util/Collections$UnmodifiableCollection"), (6, .class_ 175), (0, u "java/util/Collections$UnmodifiableSequencedCollection"), (6, .class_ 183), (0, u "java/util/Collections$UnmodifiableSet"), (6, .class_ 191), (0, u "java/util/Collections$UnmodifiableSequencedSet"), (6, .class_ 199), (0, u "java/util/Collections$UnmodifiableSortedSet"), (6, .class_ 207), (0, u "java/util/Collections$UnmodifiableNavigableSet"), (4, .class_ 213), (0, u "java/util/Collections$UnmodifiableList"), (1, .class_ 216), (0, u "java/util/Collections$UnmodifiableRandomAccessList"), (6, .class_ 224), (0, u "java/util/Collections$UnmodifiableMap"), (6, .class_ 232), (0, u "java/util/Collections$UnmodifiableSequencedMap"), (4, .class_ 238), (0, u "java/util/Collections$UnmodifiableSortedMap"), (6, .class_ 246), (0, u "java/util/Collections$UnmodifiableNavigableMap"), (3, .class_ 251), (0, u "java/util/Collections$SynchronizedCollection"), (4, .class_ 257), (0, u "java/util/Collections$SynchronizedSet"), (4, .class_ 263), (0, u "java/util/Collections$SynchronizedSortedSet"), (1, .class_ 266), (0, u "java/util/Collections$SynchronizedNavigableSet"), (1, .class_ 269), (0, u "java/util/Collections$SynchronizedRandomAccessList"), (1, .class_ 272), (0, u "java/util/Collections$SynchronizedList"), (5, .class_ 279), (0, u "java/util/Collections$SynchronizedMap"), (1, .class_ 282), (0, u "java/util/Collections$SynchronizedSortedMap"), (1, .class_ 285), (0, u "java/util/Collections$SynchronizedNavigableMap"), (1, .class_ 288), (0, u "java/util/Collections$CheckedCollection"), (11, .class_ 301), (0, u "java/util/Collections$CheckedQueue"), (3, .class_ 306), (0, u "java/util/Collections$CheckedSet"), (3, .class_ 311), (0, u "java/util/Collections$CheckedSortedSet"), (3, .class_ 316), (0, u "java/util/Collections$CheckedNavigableSet"), (3, .class_ 321), (0, u "java/util/Collections$CheckedRandomAccessList"), (3, .class_ 326), (0, u "java/util/Collections$CheckedList"), (1, .class_ 329), (0, u "java/util/Collections$CheckedMap"), (3, .class_ 334), (0, u "java/util/Collections$CheckedSortedMap"), (3, .class_ 339), (0, u "java/util/Collections$CheckedNavigableMap"), (4, .class_ 346), (1, u "java/util/Collections$EmptyIterator"), (3, .class_ 352), (1, u "java/util/Collections$EmptyListIterator"), (2, .class_ 357), (1, u "java/util/Collections$EmptyEnumeration"), (4, u "EMPTY_SET"), (0, u "Ljava/util/Set;"), (6, u "EMPTY_LIST"), (0, u "Ljava/util/List;"), (2, u "EMPTY_MAP"), (0, u "Ljava/util/Map;"), (4, .class_ 381), (0, u "java/util/Collections$SingletonSet"), (2, .class_ 385), (0, u "java/util/Collections$1"), (1, .class_ 388), (0, u "java/util/Collections$2"), (1, .class_ 391), (0, u "java/util/Collections$SingletonList"), (1, .class_ 394), (0, u "java/util/Collections$SingletonMap"), (22, .class_ 418), (0, u "java/util/Collections$CopiesList"), (4, .class_ 425), (1, u "java/util/Collections$ReverseComparator"), (8, .class_ 435), (0, u "java/util/Collections$ReverseComparator2"), (6, .class_ 443), (0, u "java/util/Collections$3"), (25, .class_ 470), (0, u "java/util/Collections$SetFromMap"), (2, .class_ 474), (0, u "java/util/Collections$SequencedSetFromMap"), (3, .class_ 479), (0, u "java/util/Collections$AsLIFOQueue"), (11, .class_ 492), (0, u "java/util/Collections$EmptySet"), (1, .class_ 495), (0, u "java/util/Collections$EmptyList"), (1, .class_ 498), (0, u "java/util/Collections$EmptyMap"), (1, u "BINARYSEARCH_THRESHOLD"), (0, u "I"), (2, u "REVERSE_THRESHOLD"), (1, u "SHUFFLE_THRESHOLD"), (1, u "FILL_THRESHOLD"), (1, u "ROTATE_THRESHOLD"), (1, u "COPY_THRESHOLD"), (1, u "REPLACEALL_THRESHOLD"), (1, u "INDEXOFSUBLIST_THRESHOLD"), (333, .class_ 851), (0, u "java/util/Collections$CheckedMap$CheckedEntrySet"), (0, .class_ 853), (0, u "java/util/Collections$CheckedMap$CheckedEntrySet$CheckedEntry"), (0, .class_ 855), (0, u "java/util/Collections$CheckedMap$CheckedEntrySet$1"), (0, .class_ 857), (0, u "java/util/Collections$CheckedList$1"), (0, .class_ 859), (0, u "java/util/Collections$CheckedCollection$1"), (0, .class_ 861), (0, u "java/util/Collections$UnmodifiableNavigableMap$EmptyNavigableMap"), (0, .class_ 863), (0, u "java/util/Collections$UnmodifiableMap$UnmodifiableEntrySet"), (0, .class_ 865), (0, u "java/util/Collections$UnmodifiableMap$UnmodifiableEntrySet$UnmodifiableEntry"), (0, .class_ 867), (0, u "java/util/Collections$UnmodifiableMap$UnmodifiableEntrySet$UnmodifiableEntrySetSpliterator"), (0, .class_ 869), (0, u "java/util/Collections$UnmodifiableMap$UnmodifiableEntrySet$1"), (0, .class_ 871), (0, u "java/util/Collections$UnmodifiableList$1"), (0, .class_ 873), (0, u "java/util/Collections$UnmodifiableNavigableSet$EmptyNavigableSet"), (0, .class_ 875), (0, u "java/util/Collections$UnmodifiableCollection$1")] 57

def k14m0 : Method := { name := "<init>", desc := "()V", sig := { parameters := [], returnType := none }, accessFlags := 2, code := none }
/-- java/util/Collections -/
def k14 : Class := { plain "java/util/Collections" (some 0) with
  accessFlags := 33
  interfaces := #[]
  cf := some (fileOf pool14 19 #[.nestMembers #[478, 473, 469, 434, 423, 417, 393, 390, 380, 497, 494, 491, 355, 350, 344, 338, 333, 328, 850, 852, 854, 320, 325, 856, 315, 310, 305, 300, 287, 858, 284, 281, 278, 268, 271, 265, 262, 256, 250, 245, 860, 237, 231, 223, 862, 864, 866, 868, 215, 212, 870, 206, 872, 198, 190, 182, 174, 166, 874, 442, 387, 384]] #[{ accessFlags := 2, nameIndex := 5, descriptorIndex := 6, attributes := #[] }] 33 2 #[] #[{ accessFlags := 26, nameIndex := 500, descriptorIndex := 501, attributes := #[] }, { accessFlags := 26, nameIndex := 504, descriptorIndex := 501, attributes := #[] }, { accessFlags := 26, nameIndex := 506, descriptorIndex := 501, attributes := #[] }, { accessFlags := 26, nameIndex := 508, descriptorIndex := 501, attributes := #[] }, { accessFlags := 26, nameIndex := 510, descriptorIndex := 501, attributes := #[] }, { accessFlags := 26, nameIndex := 512, descriptorIndex := 501, attributes := #[] }, { accessFlags := 26, nameIndex := 514, descriptorIndex := 501, attributes := #[] }, { accessFlags := 26, nameIndex := 516, descriptorIndex := 501, attributes := #[] }, { accessFlags := 10, nameIndex := 84, descriptorIndex := 85, attributes := #[] }, { accessFlags := 25, nameIndex := 362, descriptorIndex := 363, attributes := #[] }, { accessFlags := 25, nameIndex := 370, descriptorIndex := 371, attributes := #[] }, { accessFlags := 25, nameIndex := 374, descriptorIndex := 375, attributes := #[] }])
  fields := #[{ name := "BINARYSEARCH_THRESHOLD", type := .int, accessFlags := 26, slot := 0, constantValue := 0 }, { name := "REVERSE_THRESHOLD", type := .int, accessFlags := 26, slot := 1, constantValue := 0 }, { name := "SHUFFLE_THRESHOLD", type := .int, accessFlags := 26, slot := 2, constantValue := 0 }, { name := "FILL_THRESHOLD", type := .int, accessFlags := 26, slot := 3, constantValue := 0 }, { name := "ROTATE_THRESHOLD", type := .int, accessFlags := 26, slot := 4, constantValue := 0 }, { name := "COPY_THRESHOLD", type := .int, accessFlags := 26, slot := 5, constantValue := 0 }, { name := "REPLACEALL_THRESHOLD", type := .int, accessFlags := 26, slot := 6, constantValue := 0 }, { name := "INDEXOFSUBLIST_THRESHOLD", type := .int, accessFlags := 26, slot := 7, constantValue := 0 }, { name := "r", type := (.object "java/util/Random"), accessFlags := 10, slot := 8, constantValue := 0 }, { name := "EMPTY_SET", type := (.object "java/util/Set"), accessFlags := 25, slot := 9, constantValue := 0 }, { name := "EMPTY_LIST", type := (.object "java/util/List"), accessFlags := 25, slot := 10, constantValue := 0 }, { name := "EMPTY_MAP", type := (.object "java/util/Map"), accessFlags := 25, slot := 11, constantValue := 0 }]
  methods := #[k14m0]
  instanceTypes := #[]
  staticTypes := #[.int, .int, .int, .int, .int, .int, .int, .int, (.object "java/util/Random"), (.object "java/util/Set"), (.object "java/util/List"), (.object "java/util/Map")]
  resolved := Array.replicate 933 none
  statics := some 1 }

def pool15 : Array CpInfo := pool [(8, .class_ 10), (1, u "java/lang/Iterable"), (24, .class_ 36), (0, u "java/lang/Object")] 25

/-- java/lang/Iterable -/
def k15 : Class := { plain "java/lang/Iterable" (some 0) with
  accessFlags := 1537
  interfaces := #[]
  cf := some (fileOf pool15 8 #[] #[] 1537 35 #[] #[])
  fields := #[]
  methods := #[]
  instanceTypes := #[]
  staticTypes := #[]
  resolved := Array.replicate 62 none
  statics := none }

def pool16 : Array CpInfo := pool [(10, .class_ 12), (1, u "java/util/Collection"), (47, .class_ 61), (0, u "java/lang/Object"), (0, .class_ 63), (0, u "java/lang/Iterable")] 51

/-- java/util/Collection -/
def k16 : Class := { plain "java/util/Collection" (some 0) with
  accessFlags := 1537
  interfaces := #[15]
  cf := some (fileOf pool16 10 #[] #[] 1537 60 #[62] #[])
  fields := #[]
  methods := #[]
  instanceTypes := #[]
  staticTypes := #[]
  resolved := Array.replicate 115 none
  statics := none }

def pool17 : Array CpInfo := pool [(2, .class_ 4), (1, u "java/lang/Object"), (0, u "<init>"), (0, u "()V"), (1, .class_ 10), (1, u "java/util/AbstractCollection"), (66, .class_ 78), (0, u "java/util/Collection")] 81

def k17m0 : Method := { name := "<init>", desc := "()V", sig := { parameters := [], returnType := none }, accessFlags := 4, code := none }
/-- java/util/AbstractCollection -/
def k17 : Class := { plain "java/util/AbstractCollection" (some 0) with
  accessFlags := 1057
  interfaces := #[16]
  cf := some (fileOf pool17 8 #[] #[{ accessFlags := 4, nameIndex := 5, descriptorIndex := 6, attributes := #[] }] 1057 2 #[77] #[])
  fields := #[]
  methods := #[k17m0]
  instanceTypes := #[]
  staticTypes := #[]
  resolved := Array.replicate 160 none
  statics := none }

def pool18 : Array CpInfo := pool [(8, .class_ 10), (1, u "java/util/SequencedCollection"), (15, .class_ 27), (0, u "java/lang/Object"), (0, .class_ 29), (0, u "java/util/Collection")] 27

/-- java/util/SequencedCollection -/
def k18 : Class := { plain "java/util/SequencedCollection" (some 0) with
  accessFlags := 1537
  interfaces := #[16]
  cf := some (fileOf pool18 8 #[] #[] 1537 26 #[28] #[])
  fields := #[]
  methods := #[]
  instanceTypes := #[]
  staticTypes := #[]
  resolved := Array.replicate 57 none
  statics := none }

def pool19 : Array CpInfo := pool [(8, .class_ 10), (1, u "java/util/List"), (92, .class_ 104), (0, u "java/lang/Object"), (15, .class_ 121), (0, u "java/util/SequencedCollection")] 129

/-- java/util/List -/
def k19 : Class := { plain "java/util/List" (some 0) with
  accessFlags := 1537
  interfaces := #[18]
  cf := some (fileOf pool19 8 #[] #[] 1537 103 #[120] #[])
  fields := #[]
  methods := #[]
  instanceTypes := #[]
  staticTypes := #[]
  resolved := Array.replicate 251 none
  statics := none }

def pool20 : Array CpInfo := pool [(2, .class_ 4), (1, u "java/util/AbstractCollection"), (0, u "<init>"), (0, u "()V"), (1, .class_ 10), (1, u "java/util/AbstractList"), (0, u "modCount"), (0, u "I"), (64, .class_ 78), (0, u "java/util/AbstractList$Itr"), (3, .class_ 83), (0, u "java/util/AbstractList$ListItr"), (9, .class_ 94), (0, u "java/util/AbstractList$RandomAccessSubList"), (3, .class_ 99), (0, u "java/util/AbstractList$SubList"), (33, .class_ 134), (0, u "java/util/List"), (73, .class_ 209), (0, u "java/util/AbstractList$SubList$1"), (0, .class_ 211), (0, u "java/util/AbstractList$RandomAccessSpliterator")] 6

def k20m0 : Method := { name := "<init>", desc := "()V", sig := { parameters := [], returnType := none }, accessFlags := 4, code := none }
/-- java/util/AbstractList -/
def k20 : Class := { plain "java/util/AbstractList" (some 17) with
  accessFlags := 1057
  interfaces := #[19]
  cf := some (fileOf pool20 8 #[.nestMembers #[93, 98, 208, 210, 82, 77]] #[{ accessFlags := 4, nameIndex := 5, descriptorIndex := 6, attributes := #[] }] 1057 2 #[133] #[{ accessFlags := 132, nameIndex := 11, descriptorIndex := 12, attributes := #[] }])
  fields := #[{ name := "modCount", type := .int, accessFlags := 132, slot := 0, constantValue := 0 }]
  methods := #[k20m0]
  instanceTypes := #[.int]
  staticTypes := #[]
  resolved := Array.replicate 218 none
  statics := none }

def pool21 : Array CpInfo := pool [(1, .class_ 2), (0, u "java/util/RandomAccess"), (0, .class_ 4), (0, u "java/lang/Object")] 2

/-- java/util/RandomAccess -/
def k21 : Class := { plain "java/util/RandomAccess" (some 0) with
  accessFlags := 1537
  interfaces := #[]
  cf := some (fileOf pool21 1 #[] #[] 1537 3 #[] #[])
  fields := #[]
  methods := #[]
  instanceTypes := #[]
  staticTypes := #[]
  resolved := Array.replicate 7 none
  statics := none }

def pool22 : Array CpInfo := pool [(2, .class_ 4), (1, u "java/util/AbstractList"), (0, u "<init>"), (0, u "()V"), (1, .class_ 10), (1, u "java/util/Collections"), (54, .class_ 66), (0, u "java/util/Collections$EmptyList"), (0, .class_ 68), (0, u "java/util/RandomAccess"), (0, .class_ 70), (0, u "java/io/Serializable"), (0, u "serialVersionUID"), (0, u "J")] 77

def k22m0 : Method := { name := "<init>", desc := "()V", sig := { parameters := [], returnType := none }, accessFlags := 2, code := none }
/-- java/util/Collections$EmptyList -/
def k22 : Class := { plain "java/util/Collections$EmptyList" (some 20) with
  accessFlags := 32
  interfaces := #[21, 4]
  cf := some (fileOf pool22 65 #[.nestHost 8] #[{ accessFlags := 2, nameIndex := 5, descriptorIndex := 6, attributes := #[] }] 32 2 #[67, 69] #[{ accessFlags := 26, nameIndex := 71, descriptorIndex := 72, attributes := #[] }])
  fields := #[{ name := "serialVersionUID", type := .long, accessFlags := 26, slot := 0, constantValue := 0 }]
  methods := #[k22m0]
  instanceTypes := #[.int]
  staticTypes := #[.long]
  resolved := Array.replicate 150 none
  statics := none }

def pool23 : Array CpInfo := pool [(2, .class_ 4), (1, u "java/lang/StackTraceElement"), (0, u "<init>"), (2, .class_ 10), (1, u "java/lang/Object"), (0, u "()V"), (2, u "format"), (0, u "B"), (2, u "classLoaderName"), (0, u "Ljava/lang/String;"), (2, u "moduleName"), (2, u "moduleVersion"), (12, u "declaringClass"), (4, u "methodName"), (2, u "fileName"), (2, u "lineNumber"), (0, u "I"), (65, u "declaringClassObject"), (0, u "Ljava/lang/Class;"), (33, .class_ 153), (1, u "java/lang/StackTraceElement$HashedModules"), (17, .class_ 172), (0, u "java/io/Serializable"), (0, u "NATIVE_METHOD"), (1, u "UNKNOWN_SOURCE"), (2, u "BUILTIN_CLASS_LOADER"), (1, u "JDK_NON_UPGRADEABLE_MODULE"), (1, u "serialVersionUID"), (0, u "J")] 51

def k23m0 : Method := { name := "<init>", desc := "()V", sig := { parameters := [], returnType := none }, accessFlags := 2, code := none }
/-- java/lang/StackTraceElement -/
def k23 : Class := { plain "java/lang/StackTraceElement" (some 0) with
  accessFlags := 49
  interfaces := #[4]
  cf := some (fileOf pool23 2 #[.nestMembers #[151]] #[{ accessFlags := 2, nameIndex := 5, descriptorIndex := 11, attributes := #[] }] 49 8 #[171] #[{ accessFlags := 26, nameIndex := 173, descriptorIndex := 19, attributes := #[] }, { accessFlags := 26, nameIndex := 175, descriptorIndex := 19, attributes := #[] }, { accessFlags := 130, nameIndex := 116, descriptorIndex := 117, attributes := #[] }, { accessFlags := 2, nameIndex := 18, descriptorIndex := 19, attributes := #[] }, { accessFlags := 2, nameIndex := 22, descriptorIndex := 19, attributes := #[] }, { accessFlags := 2, nameIndex := 25, descriptorIndex := 19, attributes := #[] }, { accessFlags := 2, nameIndex := 38, descriptorIndex := 19, attributes := #[] }, { accessFlags := 2, nameIndex := 43, descriptorIndex := 19, attributes := #[] }, { accessFlags := 2, nameIndex := 46, descriptorIndex := 19, attributes := #[] }, { accessFlags := 2, nameIndex := 49, descriptorIndex := 50, attributes := #[] }, { accessFlags := 2, nameIndex := 14, descriptorIndex := 15, attributes := #[] }, { accessFlags := 26, nameIndex := 178, descriptorIndex := 15, attributes := #[] }, { accessFlags := 26, nameIndex := 180, descriptorIndex := 15, attributes := #[] }, { accessFlags := 26, nameIndex := 182, descriptorIndex := 183, attributes := #[] }])
  fields := #[{ name := "NATIVE_METHOD", type := (.object "java/lang/String"), accessFlags := 26, slot := 0, constantValue := 0 }, { name := "UNKNOWN_SOURCE", type := (.object "java/lang/String"), accessFlags := 26, slot := 1, constantValue := 0 }, { name := "declaringClassObject", type := (.object "java/lang/Class"), accessFlags := 130, slot := 0, constantValue := 0 }, { name := "classLoaderName", type := (.object "java/lang/String"), accessFlags := 2, slot := 1, constantValue := 0 }, { name := "moduleName", type := (.object "java/lang/String"), accessFlags := 2, slot := 2, constantValue := 0 }, { name := "moduleVersion", type := (.object "java/lang/String"), accessFlags := 2, slot := 3, constantValue := 0 }, { name := "declaringClass", type := (.object "java/lang/String"), accessFlags := 2, slot := 4, constantValue := 0 }, { name := "methodName", type := (.object "java/lang/String"), accessFlags := 2, slot := 5, constantValue := 0 }, { name := "fileName", type := (.object "java/lang/String"), accessFlags := 2, slot := 6, constantValue := 0 }, { name := "lineNumber", type := .int, accessFlags := 2, slot := 7, constantValue := 0 }, { name := "format", type := .byte, accessFlags := 2, slot := 8, constantValue := 0 }, { name := "BUILTIN_CLASS_LOADER", type := .byte, accessFlags := 26, slot := 2, constantValue := 0 }, { name := "JDK_NON_UPGRADEABLE_MODULE", type := .byte, accessFlags := 26, slot := 3, constantValue := 0 }, { name := "serialVersionUID", type := .long, accessFlags := 26, slot := 4, constantValue := 0 }]
  methods := #[k23m0]
  instanceTypes := #[(.object "java/lang/Class"), (.object "java/lang/String"), (.object "java/lang/String"), (.object "java/lang/String"), (.object "java/lang/String"), (.object "java/lang/String"), (.object "java/lang/String"), .int, .byte]
  staticTypes := #[(.object "java/lang/String"), (.object "java/lang/String"), .byte, .byte, .long]
  resolved := Array.replicate 235 none
  statics := none }

def pool24 : Array CpInfo := pool [(1, u "java/lang/Cloneable"), (0, .class_ 1), (0, u "java/lang/Object"), (0, .class_ 3)] 3

/-- java/lang/Cloneable -/
def k24 : Class := { plain "java/lang/Cloneable" (some 0) with
  accessFlags := 1537
  interfaces := #[]
  cf := some (fileOf pool24 2 #[] #[] 1537 4 #[] #[])
  fields := #[]
  methods := #[]
  instanceTypes := #[]
  staticTypes := #[]
  resolved := Array.replicate 8 none
  statics := none }

/-- the primitive byte -/
def k25 : Class := { plain "byte" none with kind := .primitive 'B', accessFlags := 0x411 }
/-- [B -/
def k26 : Class := { plain "[B" (some 0) with kind := .array 25 .byte, interfaces := #[24, 4], accessFlags := 1041 }

/-- the primitive int -/
def k27 : Class := { plain "int" none with kind := .primitive 'I', accessFlags := 0x411 }
/-- [I -/
def k28 : Class := { plain "[I" (some 0) with kind := .array 27 .int, interfaces := #[24, 4], accessFlags := 1041 }

/-- [Ljava/lang/Object; -/
def k29 : Class := { plain "[Ljava/lang/Object;" (some 0) with kind := .array 0 (.object "java/lang/Object"), interfaces := #[24, 4], accessFlags := 1041 }

/-- [Ljava/lang/StackTraceElement; -/
def k30 : Class := { plain "[Ljava/lang/StackTraceElement;" (some 0) with kind := .array 23 (.object "java/lang/StackTraceElement"), interfaces := #[24, 4], accessFlags := 1041 }

/-- [Ljava/lang/Throwable; -/
def k31 : Class := { plain "[Ljava/lang/Throwable;" (some 0) with kind := .array 5 (.object "java/lang/Throwable"), interfaces := #[24, 4], accessFlags := 1041 }

def heap : Heap := #[{ cls := 5, slots := #[.long 0, .ref 2, .ref 3, .null, .null, .null, .null, .ref 4, .int 1], vm := .statics 5 },
  { cls := 14, slots := #[.int 0, .int 0, .int 0, .int 0, .int 0, .int 0, .int 0, .int 0, .null, .null, .ref 3, .null], vm := .statics 14 },
  { cls := 30, slots := #[], vm := .none },
  { cls := 22, slots := #[.int 0], vm := .none },
  { cls := 31, slots := #[], vm := .none }]
def classes : Array Class := #[k0, k1, k2, k3, k4, k5, k6, k7, k8, k9, k10, k11, k12, k13, k14, k15, k16, k17, k18, k19, k20, k21, k22, k23, k24, k25, k26, k27, k28, k29, k30, k31]
def interned : List (Array UInt16 × Addr) := []
def slotsUsed : Nat := 22
def theMethod : MethodId := ⟨1, 1⟩
def args0 : Array Value := #[.int 5, .int 6]
def aboutOver (below : List Frame) : State where
  vm := { classes := classes, interned := interned.toArray }
  heap := heap
  slotsUsed := slotsUsed
  threads := #[{ frames := .invoking theMethod args0 :: below }]
def below0 : List Frame := [.native { method := ⟨0, 0⟩, args := #[] }]
def about1 : State := aboutOver below0
def p0 : Program := .bare "" "" ""
def e0 : Env := launch0.env 0 0 0
theorem w_frames : about1.frames = Frame.invoking theMethod args0 :: below0 := rfl
set_option maxRecDepth 65536 in
theorem w_args : argsFit about1.vm theMethod args0 = true := by decide +kernel
set_option maxRecDepth 65536 in
theorem w_heap : heapFits about1 = true := by decide +kernel
set_option maxRecDepth 65536 in
theorem w_runnable : about1.curStatus? = some .runnable := by decide +kernel
set_option maxRecDepth 65536 in
theorem w_alone : about1.alone = true := by decide +kernel
set_option maxRecDepth 65536 in
theorem w_named : about1.methodNamed? x = some theMethod := by decide +kernel
set_option maxRecDepth 65536 in
theorem w_hears : about1.hears theMethod below0 = true := by decide +kernel
set_option maxRecDepth 65536 in
theorem w_ripe : about1.ripe theMethod args0 below0 = true := by decide +kernel
theorem w_running : about1.status = .running := rfl
set_option maxRecDepth 65536 in
theorem w_room : about1.hasRoom e0.platform room_1 = true :=
  launch0.hasRoom_least _ room_1 (by decide +kernel) (by decide +kernel) (by decide +kernel) (by decide +kernel) (by decide +kernel) (by decide +kernel)
theorem allAtoms_all (ts : List Jvm.Cond) (a : Array Jvm.Value) (st : Jvm.State) : (allAtoms ts).before a st = ts.all (fun c => c.before a st) := by
  induction ts with
  | nil => rfl
  | cons c t ih =>
    show (Jvm.Cond.and c (allAtoms t)).before a st = _
    rw [Jvm.Cond.before_and, ih, List.all_cons]
def words1 : List Jvm.Cond := Jvm.Cond.code x code maxLocals ret :: tables_1
/-- a 'code' word, met by the world's own term for the bytes: nothing is compared byte by byte -/
theorem code_word {y : MethodName} {bytes : ByteArray} {mx : Nat} {rt : Option FieldType} {a : Array Value} {s : State} {m : MethodId} {meth : Method} {c : Code} (h1 : s.methodNamed? y = some m) (h2 : s.vm.method? m = some meth) (h3 : meth.code = some c) (h4 : c.code = bytes)
    (h5 : (c.maxLocals == mx && c.exceptionTable.isEmpty && decide (c.maxStack ≤ mostOperands) && decide (meth.sig.returnType = rt) && !meth.locks && decide (parseMethodDescriptor y.desc = some meth.sig)) = true) : (Jvm.Cond.code y bytes mx rt).before a s = true := by
  simp only [Bool.and_eq_true, beq_iff_eq, Bool.not_eq_true', decide_eq_true_eq] at h5
  obtain ⟨⟨⟨⟨⟨g1, g2⟩, g3⟩, g4⟩, g5⟩, g6⟩ := h5
  simp [Cond.before, Cond.holds, Cond.value, h1, h2, h3, h4, g1, g2, g3, g4, g5, g6]
def isCode : Jvm.Cond → Bool
  | .code _ _ _ _ => true
  | _ => false
theorem all_split {L : List Jvm.Cond} {P : Jvm.Cond → Bool} (h1 : L.all (fun c => isCode c || P c) = true) (h2 : ∀ c ∈ L.filter isCode, P c = true) : L.all P = true := by
  refine List.all_eq_true.mpr fun c hc => ?_
  have h := List.all_eq_true.mp h1 c hc
  rcases Bool.eq_false_or_eq_true (isCode c) with hi | hi
  · exact h2 c (List.mem_filter.mpr ⟨hc, hi⟩)
  · simpa [hi] using h
set_option maxRecDepth 65536 in
theorem w_c0 : (Jvm.Cond.code x code maxLocals ret).before args0 about1 = true := code_word (m := ⟨1, 1⟩) (meth := k1m1) (c := k1c1) (by decide +kernel) rfl rfl rfl (by decide +kernel)
set_option maxRecDepth 65536 in
theorem w_c1 : (Jvm.Cond.code ({ cls := "java/lang/Math", name := "multiplyExact", desc := "(JJ)J" } : Jvm.MethodName) jdk_29_method_30_code (10 : Nat) (Option.some Jvm.ClassFile.FieldType.long)).before args0 about1 = true := code_word (m := ⟨3, 1⟩) (meth := k3m1) (c := k3c1) (by decide +kernel) rfl rfl rfl (by decide +kernel)
set_option maxRecDepth 65536 in
theorem w_c2 : (Jvm.Cond.code ({ cls := "java/lang/Math", name := "abs", desc := "(J)J" } : Jvm.MethodName) jdk_29_method_61_code (2 : Nat) (Option.some Jvm.ClassFile.FieldType.long)).before args0 about1 = true := code_word (m := ⟨3, 2⟩) (meth := k3m2) (c := k3c2) (by decide +kernel) rfl rfl rfl (by decide +kernel)
set_option maxRecDepth 65536 in
theorem w_c3 : (Jvm.Cond.code ({ cls := "java/lang/ArithmeticException", name := "<init>", desc := "(Ljava/lang/String;)V" } : Jvm.MethodName) jdk_84_method_2_code (2 : Nat) (Option.none : Option Jvm.ClassFile.FieldType)).before args0 about1 = true := code_word (m := ⟨8, 1⟩) (meth := k8m1) (c := k8c1) (by decide +kernel) rfl rfl rfl (by decide +kernel)
set_option maxRecDepth 65536 in
theorem w_c4 : (Jvm.Cond.code ({ cls := "java/lang/RuntimeException", name := "<init>", desc := "(Ljava/lang/String;)V" } : Jvm.MethodName) jdk_58_method_2_code (2 : Nat) (Option.none : Option Jvm.ClassFile.FieldType)).before args0 about1 = true := code_word (m := ⟨7, 1⟩) (meth := k7m1) (c := k7c1) (by decide +kernel) rfl rfl rfl (by decide +kernel)
set_option maxRecDepth 65536 in
theorem w_c5 : (Jvm.Cond.code ({ cls := "java/lang/Exception", name := "<init>", desc := "(Ljava/lang/String;)V" } : Jvm.MethodName) jdk_59_method_2_code (2 : Nat) (Option.none : Option Jvm.ClassFile.FieldType)).before args0 about1 = true := code_word (m := ⟨6, 1⟩) (meth := k6m1) (c := k6c1) (by decide +kernel) rfl rfl rfl (by decide +kernel)
set_option maxRecDepth 65536 in
theorem w_c6 : (Jvm.Cond.code ({ cls := "java/lang/Throwable", name := "<init>", desc := "(Ljava/lang/String;)V" } : Jvm.MethodName) jdk_78_method_2_code (2 : Nat) (Option.none : Option Jvm.ClassFile.FieldType)).before args0 about1 = true := code_word (m := ⟨5, 1⟩) (meth := k5m1) (c := k5c1) (by decide +kernel) rfl rfl rfl (by decide +kernel)
set_option maxRecDepth 65536 in
theorem w_c7 : (Jvm.Cond.code ({ cls := "java/lang/Object", name := "<init>", desc := "()V" } : Jvm.MethodName) object_method_1_code (1 : Nat) (Option.none : Option Jvm.ClassFile.FieldType)).before args0 about1 = true := code_word (m := ⟨0, 0⟩) (meth := k0m0) (c := k0c0) (by decide +kernel) rfl rfl rfl (by decide +kernel)
set_option maxRecDepth 65536 in
theorem w_c8 : (Jvm.Cond.code ({ cls := "java/lang/Throwable", name := "<init>", desc := "()V" } : Jvm.MethodName) jdk_78_method_1_code (1 : Nat) (Option.none : Option Jvm.ClassFile.FieldType)).before args0 about1 = true := code_word (m := ⟨5, 0⟩) (meth := k5m0) (c := k5c0) (by decide +kernel) rfl rfl rfl (by decide +kernel)
def codes1 : List Jvm.Cond := [Jvm.Cond.code x code maxLocals ret, Jvm.Cond.code ({ cls := "java/lang/Math", name := "multiplyExact", desc := "(JJ)J" } : Jvm.MethodName) jdk_29_method_30_code (10 : Nat) (Option.some Jvm.ClassFile.FieldType.long), Jvm.Cond.code ({ cls := "java/lang/Math", name := "abs", desc := "(J)J" } : Jvm.MethodName) jdk_29_method_61_code (2 : Nat) (Option.some Jvm.ClassFile.FieldType.long), Jvm.Cond.code ({ cls := "java/lang/ArithmeticException", name := "<init>", desc := "(Ljava/lang/String;)V" } : Jvm.MethodName) jdk_84_method_2_code (2 : Nat) (Option.none : Option Jvm.ClassFile.FieldType), Jvm.Cond.code ({ cls := "java/lang/RuntimeException", name := "<init>", desc := "(Ljava/lang/String;)V" } : Jvm.MethodName) jdk_58_method_2_code (2 : Nat) (Option.none : Option Jvm.ClassFile.FieldType), Jvm.Cond.code ({ cls := "java/lang/Exception", name := "<init>", desc := "(Ljava/lang/String;)V" } : Jvm.MethodName) jdk_59_method_2_code (2 : Nat) (Option.none : Option Jvm.ClassFile.FieldType), Jvm.Cond.code ({ cls := "java/lang/Throwable", name := "<init>", desc := "(Ljava/lang/String;)V" } : Jvm.MethodName) jdk_78_method_2_code (2 : Nat) (Option.none : Option Jvm.ClassFile.FieldType), Jvm.Cond.code ({ cls := "java/lang/Object", name := "<init>", desc := "()V" } : Jvm.MethodName) object_method_1_code (1 : Nat) (Option.none : Option Jvm.ClassFile.FieldType), Jvm.Cond.code ({ cls := "java/lang/Throwable", name := "<init>", desc := "()V" } : Jvm.MethodName) jdk_78_method_1_code (1 : Nat) (Option.none : Option Jvm.ClassFile.FieldType)]
set_option maxRecDepth 65536 in
theorem codes_eq : words1.filter isCode = codes1 := rfl
theorem w_codes : ∀ c ∈ words1.filter isCode, c.before args0 about1 = true := by
  rw [codes_eq]
  intro c hc
  simp only [codes1, List.mem_cons, List.not_mem_nil, or_false] at hc
  rcases hc with rfl | rfl | rfl | rfl | rfl | rfl | rfl | rfl | rfl
  · exact w_c0
  · exact w_c1
  · exact w_c2
  · exact w_c3
  · exact w_c4
  · exact w_c5
  · exact w_c6
  · exact w_c7
  · exact w_c8
set_option maxRecDepth 65536 in
theorem w_t1 : (words1.take 24).all (fun c => isCode c || c.before args0 about1) = true := by decide +kernel
set_option maxRecDepth 65536 in
theorem w_t2 : ((words1.drop 24).take 24).all (fun c => isCode c || c.before args0 about1) = true := by decide +kernel
set_option maxRecDepth 65536 in
theorem w_t3 : (((words1.drop 24).drop 24).take 24).all (fun c => isCode c || c.before args0 about1) = true := by decide +kernel
set_option maxRecDepth 65536 in
theorem w_t4 : (((words1.drop 24).drop 24).drop 24).all (fun c => isCode c || c.before args0 about1) = true := by decide +kernel
theorem w_tables : (allAtoms (Jvm.Cond.code x code maxLocals ret :: tables_1)).before args0 about1 = true := by
  rw [allAtoms_all]
  show words1.all (fun c => c.before args0 about1) = true
  refine all_split ?_ w_codes
  rw [← List.take_append_drop 24 words1, List.all_append, w_t1, ← List.take_append_drop 24 (words1.drop 24), List.all_append, w_t2, ← List.take_append_drop 24 ((words1.drop 24).drop 24), List.all_append, w_t3, w_t4]
  rfl
set_option maxRecDepth 65536 in
theorem w_rest : rest_1_c.before args0 about1 = true := by decide +kernel
set_option maxRecDepth 65536 in
theorem w_case : (Jvm.Cond.and given_1 narrow_1).before args0 about1 = true := by decide +kernel
theorem w_applies : (headSpec (Jvm.Cond.code x code maxLocals ret :: tables_1) room_1).applies x e0.platform about1 = true :=
  (Spec.applies_iff w_frames).mpr ⟨w_running, w_runnable, w_alone, w_named, w_hears, w_ripe, w_room, w_tables⟩
theorem atStart : AtStart classFile x code maxLocals ret World_1 tables_1 room_1 Calls_1 rest_1 Pre_1 launch0 p0 e0 about1 theMethod args0 below0 :=
  ⟨lists_1, trivial, launch0.admits_env _ _ _, launch0.least_env, fairChoices_fair.cas, fairChoices_fair.clock, w_frames, w_args, w_heap, w_applies, ⟨(by decide +kernel : framesKnown about1 = true), ⟨(by decide +kernel : tablesKnown about1 = true), trivial⟩⟩, w_rest, w_case⟩
end start1
theorem witness_1 : WitnessClaimed_1 := ⟨start1.p0, start1.e0, start1.about1, start1.theMethod, start1.args0, start1.below0, start1.atStart⟩
end Jvm.Pilot.@@N@@
