import JvmDerived
import JvmDerived.Pilot.@@N@@Statement
import JvmDerived.Pilot.@@N@@Code
set_option linter.unusedVariables false
set_option linter.unusedSimpArgs false
@@BLOCK:NumsL.lean.txt@@
namespace Jvm.RoadKit
open Sem ClassFile Op Lib Jvm.Stand Jvm.Free Jvm.LawKit
section New
variable {p : Program} {l : Launch} {e : Env} {R : Room} {s : State} {m : MethodId} {args : Array Value} {below : List Frame} {meth : Method} {c : Code} {T : State} {locs : List Loc} {cells slots : Nat}
theorem retI (X : Stand p l e R s m args below meth c T locs cells slots) (hx : p.tables.exec = Jvm.exec) {pc : Nat} {Ls : Array Slot} {z : Int32} {rest : List Value} (hret : meth.sig.returnType = some .int) (hd : decode c.code pc = .ok (.ireturn, 1)) {fs : List Frame}
    (hl : ∀ (f : JFrame) (acts : List Action), f.method = m → f.locked = none → f.entered = [] → (doReturn e (T.setTop f) acts (some (.int z))).1 = T.setFrames fs) : Steps p.tables e below (T.setTop (mkF m pc Ls (.int z :: rest))) (T.setFrames fs) := by
  have hm' : T.vm.method? m = some meth := X.method'
  have hn : narrow .int (.int z) = .int z := rfl
  show Steps p.tables e below (T.setTop { method := m, pc := pc, locals := Ls, stack := _ :: rest, locked := none }) _
  jvm_step X.here [X.here.top, hx, hd, hm', hret, hn]
  first | (intro acts; rw [hl _ acts rfl rfl rfl]) | rw [hl _ _ rfl rfl rfl]
  exact Steps.refl _
end New
end Jvm.RoadKit
namespace Jvm.Pilot.@@N@@
open Jvm Jvm.ClassFile Sem Op Lib Jvm.Free Jvm.Stand Jvm.LawKit Jvm.RoadKit Bundle Jvm.Pilot.@@N@@.Jvm.D
theorem own_rem32 (x y : Int32) : (x - (x / y) * y).toInt = x.toInt.tmod y.toInt := by
  rw [Int32.toInt_sub, Int32.toInt_mul, Int32.toInt_div]
  simp only [Int.bmod_mul_bmod, Int.sub_bmod_bmod]
  rw [Int.tmod_def, Int.mul_comm y.toInt]
  have h := Int32.toInt_mod x y
  have h1 := (x % y).toInt_lt
  have h2 := (x % y).le_toInt
  rw [h, Int.tmod_def, Int.mul_comm y.toInt] at h1 h2
  exact Int.bmod_eq_of_le (by omega) (by omega)
theorem d1_0 : decode method_2_code 0 = .ok (.iload_n 0, 1) := by decide +kernel
theorem d1_1 : decode method_2_code 1 = .ok (.iconst 1, 1) := by decide +kernel
theorem d1_2 : decode method_2_code 2 = .ok (.iand, 1) := by decide +kernel
theorem d1_3 : decode method_2_code 3 = .ok (.ifCond .eq 7, 3) := by decide +kernel
theorem d1_6 : decode method_2_code 6 = .ok (.getstatic 7, 3) := by decide +kernel
theorem d1_9 : decode method_2_code 9 = .ok (.areturn, 1) := by decide +kernel
theorem pn_com_example_strict_lease_strictlease_grant_ModeConflictsWithPinLaw : plainName "com/example/strict_lease/strictlease/grant/ModeConflictsWithPinLaw" = true := by first | (simp [plainName, overriddenIn]; done) | decide +kernel
theorem ef_pickX (m : MethodId) (p0 : Int32) : entryFrame m #[(.int p0)] 1 = mkF m 0 #[.val (.int p0)] [] := by first | (simp [entryFrame, mkF, argsToLocals, Value.category]; done) | rfl
def vpickX_1 (p0 : Int32) : Int32 := (p0 &&& (1 : Int32))
def QpickX (Z : State) (p0 : Int32) (w0_X : Addr) (h0 : Heap) (n0 : Nat) (v : Option Value) (h : Heap) (L : List Loc) : Prop := Fr n0 L ∧ v = some (.ref w0_X) ∧ h = h0
set_option maxRecDepth 65536 in
set_option maxHeartbeats 40000000 in
theorem rmpickX (l : Launch) (Z : State) (a0 : Array Value) (hw : ∀ d ∈ tables_1, d.before a0 Z = true) (ws : List Jvm.Cond) (p0 : Int32) (w0_X : Addr) (h0 : Heap) (n0 : Nat) (Z0 : n0 ≤ h0.size) (hy0 : ¬ ((vpickX_1 p0) = (0 : Int32))) (S_X : Sta Z h0 "com/example/strict_lease/strictlease/grant/Mode" "X" "Lcom/example/strict_lease/strictlease/grant/Mode;" (.ref w0_X)) :
    MetFree l (⟨"com/example/strict_lease/strictlease/grant/ModeConflictsWithPinLaw", "pick", "(I)Lcom/example/strict_lease/strictlease/grant/Mode;"⟩ : MethodName) (head1 (Jvm.Cond.code (⟨"com/example/strict_lease/strictlease/grant/ModeConflictsWithPinLaw", "pick", "(I)Lcom/example/strict_lease/strictlease/grant/Mode;"⟩ : MethodName) method_2_code 1 (some (.object "com/example/strict_lease/strictlease/grant/Mode")) :: ws) ({ frames := 0, cells := 0, slots := 0, locals := 0 } : Room)) (fun a U => a = #[(.int p0)] ∧ Z.Warmed39 U.vm ∧ U.heap = h0) (fun _ _ _ _ _ => True) (fun _ U o U' => ∃ v L, o = .returned v ∧ QpickX Z p0 w0_X h0 n0 v U'.heap L ∧ FrameEnd U o U' L ({ frames := 0, cells := 0, slots := 0, locals := 0 } : Room).cells ({ frames := 0, cells := 0, slots := 0, locals := 0 } : Room).slots) := by
  refine MetFree.of_bodySF (plainFor_of_name pn_com_example_strict_lease_strictlease_grant_ModeConflictsWithPinLaw) hisR ?_
  intro p e s m args below meth c s₁ Bd hml0 hP hK
  obtain ⟨rfl, hZ, hh⟩ := hP
  have hx := Bd.exec
  have hby := Bd.bytes
  have hml : c.maxLocals = 1 := hml0
  have hown : s.vm.findClass "com/example/strict_lease/strictlease/grant/ModeConflictsWithPinLaw" = some m.cls := findClass_of_methodNamed Bd.named
  have hnm := (name_of_methodNamed Bd.named Bd.method).1
  have X0 : Stand p l e ({ frames := 0, cells := 0, slots := 0, locals := 0 } : Room) s m #[(.int p0)] below meth c s₁ [] 0 0 := Stand.of_body Bd
  have e0 : s₁.heap = h0 := by rw [← hh, Bd.state]; rfl
  have N0 := Fr.nil n0
  have pre0 : ∀ t, Steps p.tables e below (s₁.setTop (mkF m 0 #[.val (.int p0)] [])) t → Steps p.tables e below (s₁.setTop (entryFrame m #[(.int p0)] 1)) t := fun t k => castTop (ef_pickX m p0) k
  obtain ⟨T1, X1, e1, st1⟩ := getS2 X0 hx hZ hown (host := "") (Or.inl (hw _ (List.mem_of_getElem? (i := 7) rfl))) Via.refl e0 S_X (g := (mkF m 6 #[.val (.int p0)] [])) rfl (hb hby d1_6)
  obtain ⟨fs, hr, hrun, hended, hW, hsame⟩ := X1.leave (v := some (.ref w0_X)) (fun h => by rw [Bd.returns] at h; cases h)
  refine ⟨_, _, pre0 _ ?_, hrun, hended, _, _, rfl, ?_, ⟨_, rfl⟩, hW, hsame.mono (by decide) (by decide)⟩
  · skip
    show Steps p.tables e below (s₁.setTop (mkF m 0 #[.val (.int p0)] [])) _
    refine XS.iloadN X0.here hx rfl (hb hby d1_0) rfl ?_
    show Steps p.tables e below (s₁.setTop (mkF m 1 #[.val (.int p0)] [(.int p0)])) _
    refine XT.iconstV X0.here hx rfl (1 : Int32) (hb hby d1_1) (by decide) ?_
    show Steps p.tables e below (s₁.setTop (mkF m 2 #[.val (.int p0)] [(.int (1 : Int32)), (.int p0)])) _
    refine XS.iand X0.here hx rfl (hb hby d1_2) rfl ?_
    show Steps p.tables e below (s₁.setTop (mkF m 3 #[.val (.int p0)] [(.int (p0 &&& (1 : Int32)))])) _
    refine XS.ifNo X0.here hx rfl (hb hby d1_3) rfl (XT.i0_eq_f hy0) ?_
    show Steps p.tables e below (s₁.setTop (mkF m 6 #[.val (.int p0)] [])) _
    refine st1 _ ?_
    show Steps p.tables e below (T1.setTop (mkF m 9 #[.val (.int p0)] [(.ref w0_X)])) _
    exact X1.areturnOut hx rfl Bd.returns rfl (hb hby d1_9) hr
  · skip
    show QpickX Z p0 w0_X h0 n0 _ T1.heap _
    rw [e1]
    exact ⟨N0, rfl, rfl⟩
theorem d1_10 : decode method_2_code 10 = .ok (.getstatic 13, 3) := by decide +kernel
theorem d1_13 : decode method_2_code 13 = .ok (.areturn, 1) := by decide +kernel
theorem ef_pickS (m : MethodId) (p0 : Int32) : entryFrame m #[(.int p0)] 1 = mkF m 0 #[.val (.int p0)] [] := by first | (simp [entryFrame, mkF, argsToLocals, Value.category]; done) | rfl
def vpickS_1 (p0 : Int32) : Int32 := (p0 &&& (1 : Int32))
def QpickS (Z : State) (p0 : Int32) (w0_S : Addr) (h0 : Heap) (n0 : Nat) (v : Option Value) (h : Heap) (L : List Loc) : Prop := Fr n0 L ∧ v = some (.ref w0_S) ∧ h = h0
set_option maxRecDepth 65536 in
set_option maxHeartbeats 40000000 in
theorem rmpickS (l : Launch) (Z : State) (a0 : Array Value) (hw : ∀ d ∈ tables_1, d.before a0 Z = true) (ws : List Jvm.Cond) (p0 : Int32) (w0_S : Addr) (h0 : Heap) (n0 : Nat) (Z0 : n0 ≤ h0.size) (hy0 : (vpickS_1 p0) = (0 : Int32)) (S_S : Sta Z h0 "com/example/strict_lease/strictlease/grant/Mode" "S" "Lcom/example/strict_lease/strictlease/grant/Mode;" (.ref w0_S)) :
    MetFree l (⟨"com/example/strict_lease/strictlease/grant/ModeConflictsWithPinLaw", "pick", "(I)Lcom/example/strict_lease/strictlease/grant/Mode;"⟩ : MethodName) (head1 (Jvm.Cond.code (⟨"com/example/strict_lease/strictlease/grant/ModeConflictsWithPinLaw", "pick", "(I)Lcom/example/strict_lease/strictlease/grant/Mode;"⟩ : MethodName) method_2_code 1 (some (.object "com/example/strict_lease/strictlease/grant/Mode")) :: ws) ({ frames := 0, cells := 0, slots := 0, locals := 0 } : Room)) (fun a U => a = #[(.int p0)] ∧ Z.Warmed39 U.vm ∧ U.heap = h0) (fun _ _ _ _ _ => True) (fun _ U o U' => ∃ v L, o = .returned v ∧ QpickS Z p0 w0_S h0 n0 v U'.heap L ∧ FrameEnd U o U' L ({ frames := 0, cells := 0, slots := 0, locals := 0 } : Room).cells ({ frames := 0, cells := 0, slots := 0, locals := 0 } : Room).slots) := by
  refine MetFree.of_bodySF (plainFor_of_name pn_com_example_strict_lease_strictlease_grant_ModeConflictsWithPinLaw) hisR ?_
  intro p e s m args below meth c s₁ Bd hml0 hP hK
  obtain ⟨rfl, hZ, hh⟩ := hP
  have hx := Bd.exec
  have hby := Bd.bytes
  have hml : c.maxLocals = 1 := hml0
  have hown : s.vm.findClass "com/example/strict_lease/strictlease/grant/ModeConflictsWithPinLaw" = some m.cls := findClass_of_methodNamed Bd.named
  have hnm := (name_of_methodNamed Bd.named Bd.method).1
  have X0 : Stand p l e ({ frames := 0, cells := 0, slots := 0, locals := 0 } : Room) s m #[(.int p0)] below meth c s₁ [] 0 0 := Stand.of_body Bd
  have e0 : s₁.heap = h0 := by rw [← hh, Bd.state]; rfl
  have N0 := Fr.nil n0
  have pre0 : ∀ t, Steps p.tables e below (s₁.setTop (mkF m 0 #[.val (.int p0)] [])) t → Steps p.tables e below (s₁.setTop (entryFrame m #[(.int p0)] 1)) t := fun t k => castTop (ef_pickS m p0) k
  obtain ⟨T1, X1, e1, st1⟩ := getS2 X0 hx hZ hown (host := "") (Or.inl (hw _ (List.mem_of_getElem? (i := 4) rfl))) Via.refl e0 S_S (g := (mkF m 10 #[.val (.int p0)] [])) rfl (hb hby d1_10)
  obtain ⟨fs, hr, hrun, hended, hW, hsame⟩ := X1.leave (v := some (.ref w0_S)) (fun h => by rw [Bd.returns] at h; cases h)
  refine ⟨_, _, pre0 _ ?_, hrun, hended, _, _, rfl, ?_, ⟨_, rfl⟩, hW, hsame.mono (by decide) (by decide)⟩
  · skip
    show Steps p.tables e below (s₁.setTop (mkF m 0 #[.val (.int p0)] [])) _
    refine XS.iloadN X0.here hx rfl (hb hby d1_0) rfl ?_
    show Steps p.tables e below (s₁.setTop (mkF m 1 #[.val (.int p0)] [(.int p0)])) _
    refine XT.iconstV X0.here hx rfl (1 : Int32) (hb hby d1_1) (by decide) ?_
    show Steps p.tables e below (s₁.setTop (mkF m 2 #[.val (.int p0)] [(.int (1 : Int32)), (.int p0)])) _
    refine XS.iand X0.here hx rfl (hb hby d1_2) rfl ?_
    show Steps p.tables e below (s₁.setTop (mkF m 3 #[.val (.int p0)] [(.int (p0 &&& (1 : Int32)))])) _
    refine XS.ifYes X0.here hx rfl (pc0 := 3) (pc' := 10) rfl (hb hby d1_3) rfl (XT.i0_eq_t hy0) (by decide) (by decide) ?_
    show Steps p.tables e below (s₁.setTop (mkF m 10 #[.val (.int p0)] [])) _
    refine st1 _ ?_
    show Steps p.tables e below (T1.setTop (mkF m 13 #[.val (.int p0)] [(.ref w0_S)])) _
    exact X1.areturnOut hx rfl Bd.returns rfl (hb hby d1_13) hr
  · skip
    show QpickS Z p0 w0_S h0 n0 _ T1.heap _
    rw [e1]
    exact ⟨N0, rfl, rfl⟩
theorem d2_0 : decode prog_21_method_5_code 0 = .ok (.aload_n 0, 1) := by decide +kernel
theorem d2_1 : decode prog_21_method_5_code 1 = .ok (.getstatic 7, 3) := by decide +kernel
theorem d2_4 : decode prog_21_method_5_code 4 = .ok (.if_acmp .eq 10, 3) := by decide +kernel
theorem d2_14 : decode prog_21_method_5_code 14 = .ok (.iconst 1, 1) := by decide +kernel
theorem d2_15 : decode prog_21_method_5_code 15 = .ok (.goto 4, 3) := by decide +kernel
theorem d2_19 : decode prog_21_method_5_code 19 = .ok (.ireturn, 1) := by decide +kernel
theorem pn_com_example_strict_lease_strictlease_grant_Mode : plainName "com/example/strict_lease/strictlease/grant/Mode" = true := by first | (simp [plainName, overriddenIn]; done) | decide +kernel
theorem ef_cX (m : MethodId) (o0 : Addr) (o1 : Addr) : entryFrame m #[(.ref o0), (.ref o1)] 2 = mkF m 0 #[.val (.ref o0), .val (.ref o1)] [] := by first | (simp [entryFrame, mkF, argsToLocals, Value.category]; done) | rfl
def fcX : Int32 := (1 : Int32)
def QcX (Z : State) (o0 : Addr) (o1 : Addr) (w0_X : Addr) (h0 : Heap) (n0 : Nat) (v : Option Value) (h : Heap) (L : List Loc) : Prop := Fr n0 L ∧ v = some (.int fcX) ∧ h = h0
set_option maxRecDepth 65536 in
set_option maxHeartbeats 40000000 in
theorem rmcX (l : Launch) (Z : State) (a0 : Array Value) (hw : ∀ d ∈ tables_1, d.before a0 Z = true) (ws : List Jvm.Cond) (o0 : Addr) (o1 : Addr) (w0_X : Addr) (h0 : Heap) (n0 : Nat) (Z0 : n0 ≤ h0.size) (S_X : Sta Z h0 "com/example/strict_lease/strictlease/grant/Mode" "X" "Lcom/example/strict_lease/strictlease/grant/Mode;" (.ref w0_X)) (hy0 : (Value.ref o0) = (Value.ref w0_X)) :
    MetFree l (⟨"com/example/strict_lease/strictlease/grant/Mode", "conflictsWith", "(Lcom/example/strict_lease/strictlease/grant/Mode;)Z"⟩ : MethodName) (head1 (Jvm.Cond.code (⟨"com/example/strict_lease/strictlease/grant/Mode", "conflictsWith", "(Lcom/example/strict_lease/strictlease/grant/Mode;)Z"⟩ : MethodName) prog_21_method_5_code 2 (some .boolean) :: ws) ({ frames := 0, cells := 0, slots := 0, locals := 0 } : Room)) (fun a U => a = #[(.ref o0), (.ref o1)] ∧ Z.Warmed39 U.vm ∧ U.heap = h0) (fun _ _ _ _ _ => True) (fun _ U o U' => ∃ v L, o = .returned v ∧ QcX Z o0 o1 w0_X h0 n0 v U'.heap L ∧ FrameEnd U o U' L ({ frames := 0, cells := 0, slots := 0, locals := 0 } : Room).cells ({ frames := 0, cells := 0, slots := 0, locals := 0 } : Room).slots) := by
  refine MetFree.of_bodySF (plainFor_of_name pn_com_example_strict_lease_strictlease_grant_Mode) hisR ?_
  intro p e s m args below meth c s₁ Bd hml0 hP hK
  obtain ⟨rfl, hZ, hh⟩ := hP
  have hx := Bd.exec
  have hby := Bd.bytes
  have hml : c.maxLocals = 2 := hml0
  have hown : s.vm.findClass "com/example/strict_lease/strictlease/grant/Mode" = some m.cls := findClass_of_methodNamed Bd.named
  have hnm := (name_of_methodNamed Bd.named Bd.method).1
  have X0 : Stand p l e ({ frames := 0, cells := 0, slots := 0, locals := 0 } : Room) s m #[(.ref o0), (.ref o1)] below meth c s₁ [] 0 0 := Stand.of_body Bd
  have e0 : s₁.heap = h0 := by rw [← hh, Bd.state]; rfl
  have N0 := Fr.nil n0
  have pre0 : ∀ t, Steps p.tables e below (s₁.setTop (mkF m 0 #[.val (.ref o0), .val (.ref o1)] [])) t → Steps p.tables e below (s₁.setTop (entryFrame m #[(.ref o0), (.ref o1)] 2)) t := fun t k => castTop (ef_cX m o0 o1) k
  obtain ⟨T1, X1, e1, st1⟩ := getS2 X0 hx hZ hown (host := "") (Or.inl (hw _ (List.mem_of_getElem? (i := 14) rfl))) Via.refl e0 S_X (g := (mkF m 1 #[.val (.ref o0), .val (.ref o1)] [(.ref o0)])) rfl (hb hby d2_1)
  obtain ⟨fs, hr, hrun, hended, hW, hsame⟩ := X1.leave (v := some (.int (1 : Int32))) (fun h => by rw [Bd.returns] at h; cases h)
  refine ⟨_, _, pre0 _ ?_, hrun, hended, _, _, rfl, ?_, ⟨_, rfl⟩, hW, hsame.mono (by decide) (by decide)⟩
  · skip
    show Steps p.tables e below (s₁.setTop (mkF m 0 #[.val (.ref o0), .val (.ref o1)] [])) _
    refine XS.aloadN X0.here hx rfl (hb hby d2_0) rfl rfl ?_
    show Steps p.tables e below (s₁.setTop (mkF m 1 #[.val (.ref o0), .val (.ref o1)] [(.ref o0)])) _
    refine st1 _ ?_
    show Steps p.tables e below (T1.setTop (mkF m 4 #[.val (.ref o0), .val (.ref o1)] [(.ref w0_X), (.ref o0)])) _
    refine XT.acmpYes X1.here hx rfl (pc0 := 4) (pc' := 14) rfl (hb hby d2_4) rfl rfl rfl (XT.aa_eq_t hy0) (by decide) (by decide) ?_
    show Steps p.tables e below (T1.setTop (mkF m 14 #[.val (.ref o0), .val (.ref o1)] [])) _
    refine XT.iconstV X1.here hx rfl (1 : Int32) (hb hby d2_14) (by decide) ?_
    show Steps p.tables e below (T1.setTop (mkF m 15 #[.val (.ref o0), .val (.ref o1)] [(.int (1 : Int32))])) _
    refine XS.goto X1.here hx rfl (pc0 := 15) (pc' := 19) rfl (hb hby d2_15) (by decide) (by decide) ?_
    show Steps p.tables e below (T1.setTop (mkF m 19 #[.val (.ref o0), .val (.ref o1)] [(.int (1 : Int32))])) _
    exact retN X1 hx (t := .boolean) Bd.returns (by simp) (hb hby d2_19) hr
  · skip
    show QcX Z o0 o1 w0_X h0 n0 _ T1.heap _
    rw [e1]
    exact ⟨N0, rfl, rfl⟩
theorem d2_7 : decode prog_21_method_5_code 7 = .ok (.aload_n 1, 1) := by decide +kernel
theorem d2_8 : decode prog_21_method_5_code 8 = .ok (.getstatic 7, 3) := by decide +kernel
theorem d2_11 : decode prog_21_method_5_code 11 = .ok (.if_acmp .ne 7, 3) := by decide +kernel
theorem ef_cSX (m : MethodId) (o0 : Addr) (o1 : Addr) : entryFrame m #[(.ref o0), (.ref o1)] 2 = mkF m 0 #[.val (.ref o0), .val (.ref o1)] [] := by first | (simp [entryFrame, mkF, argsToLocals, Value.category]; done) | rfl
def fcSX : Int32 := (1 : Int32)
def QcSX (Z : State) (o0 : Addr) (o1 : Addr) (w0_X : Addr) (h0 : Heap) (n0 : Nat) (v : Option Value) (h : Heap) (L : List Loc) : Prop := Fr n0 L ∧ v = some (.int fcSX) ∧ h = h0
set_option maxRecDepth 65536 in
set_option maxHeartbeats 40000000 in
theorem rmcSX (l : Launch) (Z : State) (a0 : Array Value) (hw : ∀ d ∈ tables_1, d.before a0 Z = true) (ws : List Jvm.Cond) (o0 : Addr) (o1 : Addr) (w0_X : Addr) (h0 : Heap) (n0 : Nat) (Z0 : n0 ≤ h0.size) (S_X : Sta Z h0 "com/example/strict_lease/strictlease/grant/Mode" "X" "Lcom/example/strict_lease/strictlease/grant/Mode;" (.ref w0_X)) (hy0 : ¬ ((Value.ref o0) = (Value.ref w0_X))) (hy1 : (Value.ref o1) = (Value.ref w0_X)) :
    MetFree l (⟨"com/example/strict_lease/strictlease/grant/Mode", "conflictsWith", "(Lcom/example/strict_lease/strictlease/grant/Mode;)Z"⟩ : MethodName) (head1 (Jvm.Cond.code (⟨"com/example/strict_lease/strictlease/grant/Mode", "conflictsWith", "(Lcom/example/strict_lease/strictlease/grant/Mode;)Z"⟩ : MethodName) prog_21_method_5_code 2 (some .boolean) :: ws) ({ frames := 0, cells := 0, slots := 0, locals := 0 } : Room)) (fun a U => a = #[(.ref o0), (.ref o1)] ∧ Z.Warmed39 U.vm ∧ U.heap = h0) (fun _ _ _ _ _ => True) (fun _ U o U' => ∃ v L, o = .returned v ∧ QcSX Z o0 o1 w0_X h0 n0 v U'.heap L ∧ FrameEnd U o U' L ({ frames := 0, cells := 0, slots := 0, locals := 0 } : Room).cells ({ frames := 0, cells := 0, slots := 0, locals := 0 } : Room).slots) := by
  refine MetFree.of_bodySF (plainFor_of_name pn_com_example_strict_lease_strictlease_grant_Mode) hisR ?_
  intro p e s m args below meth c s₁ Bd hml0 hP hK
  obtain ⟨rfl, hZ, hh⟩ := hP
  have hx := Bd.exec
  have hby := Bd.bytes
  have hml : c.maxLocals = 2 := hml0
  have hown : s.vm.findClass "com/example/strict_lease/strictlease/grant/Mode" = some m.cls := findClass_of_methodNamed Bd.named
  have hnm := (name_of_methodNamed Bd.named Bd.method).1
  have X0 : Stand p l e ({ frames := 0, cells := 0, slots := 0, locals := 0 } : Room) s m #[(.ref o0), (.ref o1)] below meth c s₁ [] 0 0 := Stand.of_body Bd
  have e0 : s₁.heap = h0 := by rw [← hh, Bd.state]; rfl
  have N0 := Fr.nil n0
  have pre0 : ∀ t, Steps p.tables e below (s₁.setTop (mkF m 0 #[.val (.ref o0), .val (.ref o1)] [])) t → Steps p.tables e below (s₁.setTop (entryFrame m #[(.ref o0), (.ref o1)] 2)) t := fun t k => castTop (ef_cSX m o0 o1) k
  obtain ⟨T1, X1, e1, st1⟩ := getS2 X0 hx hZ hown (host := "") (Or.inl (hw _ (List.mem_of_getElem? (i := 14) rfl))) Via.refl e0 S_X (g := (mkF m 1 #[.val (.ref o0), .val (.ref o1)] [(.ref o0)])) rfl (hb hby d2_1)
  obtain ⟨T2, X2, e2, st2⟩ := getS2 X1 hx hZ hown (host := "") (Or.inl (hw _ (List.mem_of_getElem? (i := 14) rfl))) Via.refl e1 S_X (g := (mkF m 8 #[.val (.ref o0), .val (.ref o1)] [(.ref o1)])) rfl (hb hby d2_8)
  obtain ⟨fs, hr, hrun, hended, hW, hsame⟩ := X2.leave (v := some (.int (1 : Int32))) (fun h => by rw [Bd.returns] at h; cases h)
  refine ⟨_, _, pre0 _ ?_, hrun, hended, _, _, rfl, ?_, ⟨_, rfl⟩, hW, hsame.mono (by decide) (by decide)⟩
  · skip
    show Steps p.tables e below (s₁.setTop (mkF m 0 #[.val (.ref o0), .val (.ref o1)] [])) _
    refine XS.aloadN X0.here hx rfl (hb hby d2_0) rfl rfl ?_
    show Steps p.tables e below (s₁.setTop (mkF m 1 #[.val (.ref o0), .val (.ref o1)] [(.ref o0)])) _
    refine st1 _ ?_
    show Steps p.tables e below (T1.setTop (mkF m 4 #[.val (.ref o0), .val (.ref o1)] [(.ref w0_X), (.ref o0)])) _
    refine XT.acmpNo X1.here hx rfl (hb hby d2_4) rfl rfl rfl (XT.aa_eq_f hy0) ?_
    show Steps p.tables e below (T1.setTop (mkF m 7 #[.val (.ref o0), .val (.ref o1)] [])) _
    refine XS.aloadN X1.here hx rfl (hb hby d2_7) rfl rfl ?_
    show Steps p.tables e below (T1.setTop (mkF m 8 #[.val (.ref o0), .val (.ref o1)] [(.ref o1)])) _
    refine st2 _ ?_
    show Steps p.tables e below (T2.setTop (mkF m 11 #[.val (.ref o0), .val (.ref o1)] [(.ref w0_X), (.ref o1)])) _
    refine XT.acmpNo X2.here hx rfl (hb hby d2_11) rfl rfl rfl (XT.aa_ne_f hy1) ?_
    show Steps p.tables e below (T2.setTop (mkF m 14 #[.val (.ref o0), .val (.ref o1)] [])) _
    refine XT.iconstV X2.here hx rfl (1 : Int32) (hb hby d2_14) (by decide) ?_
    show Steps p.tables e below (T2.setTop (mkF m 15 #[.val (.ref o0), .val (.ref o1)] [(.int (1 : Int32))])) _
    refine XS.goto X2.here hx rfl (pc0 := 15) (pc' := 19) rfl (hb hby d2_15) (by decide) (by decide) ?_
    show Steps p.tables e below (T2.setTop (mkF m 19 #[.val (.ref o0), .val (.ref o1)] [(.int (1 : Int32))])) _
    exact retN X2 hx (t := .boolean) Bd.returns (by simp) (hb hby d2_19) hr
  · skip
    show QcSX Z o0 o1 w0_X h0 n0 _ T2.heap _
    rw [e2]
    exact ⟨N0, rfl, rfl⟩
theorem d2_18 : decode prog_21_method_5_code 18 = .ok (.iconst 0, 1) := by decide +kernel
theorem ef_cSS (m : MethodId) (o0 : Addr) (o1 : Addr) : entryFrame m #[(.ref o0), (.ref o1)] 2 = mkF m 0 #[.val (.ref o0), .val (.ref o1)] [] := by first | (simp [entryFrame, mkF, argsToLocals, Value.category]; done) | rfl
def fcSS : Int32 := (0 : Int32)
def QcSS (Z : State) (o0 : Addr) (o1 : Addr) (w0_X : Addr) (h0 : Heap) (n0 : Nat) (v : Option Value) (h : Heap) (L : List Loc) : Prop := Fr n0 L ∧ v = some (.int fcSS) ∧ h = h0
set_option maxRecDepth 65536 in
set_option maxHeartbeats 40000000 in
theorem rmcSS (l : Launch) (Z : State) (a0 : Array Value) (hw : ∀ d ∈ tables_1, d.before a0 Z = true) (ws : List Jvm.Cond) (o0 : Addr) (o1 : Addr) (w0_X : Addr) (h0 : Heap) (n0 : Nat) (Z0 : n0 ≤ h0.size) (S_X : Sta Z h0 "com/example/strict_lease/strictlease/grant/Mode" "X" "Lcom/example/strict_lease/strictlease/grant/Mode;" (.ref w0_X)) (hy0 : ¬ ((Value.ref o0) = (Value.ref w0_X))) (hy1 : ¬ ((Value.ref o1) = (Value.ref w0_X))) :
    MetFree l (⟨"com/example/strict_lease/strictlease/grant/Mode", "conflictsWith", "(Lcom/example/strict_lease/strictlease/grant/Mode;)Z"⟩ : MethodName) (head1 (Jvm.Cond.code (⟨"com/example/strict_lease/strictlease/grant/Mode", "conflictsWith", "(Lcom/example/strict_lease/strictlease/grant/Mode;)Z"⟩ : MethodName) prog_21_method_5_code 2 (some .boolean) :: ws) ({ frames := 0, cells := 0, slots := 0, locals := 0 } : Room)) (fun a U => a = #[(.ref o0), (.ref o1)] ∧ Z.Warmed39 U.vm ∧ U.heap = h0) (fun _ _ _ _ _ => True) (fun _ U o U' => ∃ v L, o = .returned v ∧ QcSS Z o0 o1 w0_X h0 n0 v U'.heap L ∧ FrameEnd U o U' L ({ frames := 0, cells := 0, slots := 0, locals := 0 } : Room).cells ({ frames := 0, cells := 0, slots := 0, locals := 0 } : Room).slots) := by
  refine MetFree.of_bodySF (plainFor_of_name pn_com_example_strict_lease_strictlease_grant_Mode) hisR ?_
  intro p e s m args below meth c s₁ Bd hml0 hP hK
  obtain ⟨rfl, hZ, hh⟩ := hP
  have hx := Bd.exec
  have hby := Bd.bytes
  have hml : c.maxLocals = 2 := hml0
  have hown : s.vm.findClass "com/example/strict_lease/strictlease/grant/Mode" = some m.cls := findClass_of_methodNamed Bd.named
  have hnm := (name_of_methodNamed Bd.named Bd.method).1
  have X0 : Stand p l e ({ frames := 0, cells := 0, slots := 0, locals := 0 } : Room) s m #[(.ref o0), (.ref o1)] below meth c s₁ [] 0 0 := Stand.of_body Bd
  have e0 : s₁.heap = h0 := by rw [← hh, Bd.state]; rfl
  have N0 := Fr.nil n0
  have pre0 : ∀ t, Steps p.tables e below (s₁.setTop (mkF m 0 #[.val (.ref o0), .val (.ref o1)] [])) t → Steps p.tables e below (s₁.setTop (entryFrame m #[(.ref o0), (.ref o1)] 2)) t := fun t k => castTop (ef_cSS m o0 o1) k
  obtain ⟨T1, X1, e1, st1⟩ := getS2 X0 hx hZ hown (host := "") (Or.inl (hw _ (List.mem_of_getElem? (i := 14) rfl))) Via.refl e0 S_X (g := (mkF m 1 #[.val (.ref o0), .val (.ref o1)] [(.ref o0)])) rfl (hb hby d2_1)
  obtain ⟨T2, X2, e2, st2⟩ := getS2 X1 hx hZ hown (host := "") (Or.inl (hw _ (List.mem_of_getElem? (i := 14) rfl))) Via.refl e1 S_X (g := (mkF m 8 #[.val (.ref o0), .val (.ref o1)] [(.ref o1)])) rfl (hb hby d2_8)
  obtain ⟨fs, hr, hrun, hended, hW, hsame⟩ := X2.leave (v := some (.int (0 : Int32))) (fun h => by rw [Bd.returns] at h; cases h)
  refine ⟨_, _, pre0 _ ?_, hrun, hended, _, _, rfl, ?_, ⟨_, rfl⟩, hW, hsame.mono (by decide) (by decide)⟩
  · skip
    show Steps p.tables e below (s₁.setTop (mkF m 0 #[.val (.ref o0), .val (.ref o1)] [])) _
    refine XS.aloadN X0.here hx rfl (hb hby d2_0) rfl rfl ?_
    show Steps p.tables e below (s₁.setTop (mkF m 1 #[.val (.ref o0), .val (.ref o1)] [(.ref o0)])) _
    refine st1 _ ?_
    show Steps p.tables e below (T1.setTop (mkF m 4 #[.val (.ref o0), .val (.ref o1)] [(.ref w0_X), (.ref o0)])) _
    refine XT.acmpNo X1.here hx rfl (hb hby d2_4) rfl rfl rfl (XT.aa_eq_f hy0) ?_
    show Steps p.tables e below (T1.setTop (mkF m 7 #[.val (.ref o0), .val (.ref o1)] [])) _
    refine XS.aloadN X1.here hx rfl (hb hby d2_7) rfl rfl ?_
    show Steps p.tables e below (T1.setTop (mkF m 8 #[.val (.ref o0), .val (.ref o1)] [(.ref o1)])) _
    refine st2 _ ?_
    show Steps p.tables e below (T2.setTop (mkF m 11 #[.val (.ref o0), .val (.ref o1)] [(.ref w0_X), (.ref o1)])) _
    refine XT.acmpYes X2.here hx rfl (pc0 := 11) (pc' := 18) rfl (hb hby d2_11) rfl rfl rfl (XT.aa_ne_t hy1) (by decide) (by decide) ?_
    show Steps p.tables e below (T2.setTop (mkF m 18 #[.val (.ref o0), .val (.ref o1)] [])) _
    refine XT.iconstV X2.here hx rfl (0 : Int32) (hb hby d2_18) (by decide) ?_
    show Steps p.tables e below (T2.setTop (mkF m 19 #[.val (.ref o0), .val (.ref o1)] [(.int (0 : Int32))])) _
    exact retN X2 hx (t := .boolean) Bd.returns (by simp) (hb hby d2_19) hr
  · skip
    show QcSS Z o0 o1 w0_X h0 n0 _ T2.heap _
    rw [e2]
    exact ⟨N0, rfl, rfl⟩
theorem pd__I_Lcom_example_strict_lease_strictlease_grant_Mode_ : parseMethodDescriptor "(I)Lcom/example/strict_lease/strictlease/grant/Mode;" = some ⟨[.int], some (.object "com/example/strict_lease/strictlease/grant/Mode")⟩ := by decide +kernel
theorem pd__Lcom_example_strict_lease_strictlease_grant_Mode__Z : parseMethodDescriptor "(Lcom/example/strict_lease/strictlease/grant/Mode;)Z" = some ⟨[(.object "com/example/strict_lease/strictlease/grant/Mode")], some .boolean⟩ := by decide +kernel
theorem ef_0 (m : MethodId) (p0 : Int32) (p1 : Int32) : entryFrame m #[(.int p0), (.int p1)] maxLocals = mkF m 0 #[.val (.int p0), .val (.int p1), .unset, .unset, .unset, .unset, .unset, .unset, .unset] [] := by first | (simp [entryFrame, mkF, argsToLocals, Value.category, maxLocals]; done) | rfl
def v0_1 (p0 : Int32) (p1 : Int32) : Int32 := (p0 &&& (1 : Int32))
def v0_2 (p0 : Int32) (p1 : Int32) : Int32 := (p1 &&& (1 : Int32))
def v0_3 (p0 : Int32) (p1 : Int32) : Int32 := (if fcSS = (0 : Int32) then (1 : Int32) else (0 : Int32))
def v0_4 (p0 : Int32) (p1 : Int32) : Int32 := (if fcSX = (1 : Int32) then (if fcX = (1 : Int32) then (1 : Int32) else (0 : Int32)) else (0 : Int32))
def v0_5 (p0 : Int32) (p1 : Int32) : Int32 := (p1 &&& (1 : Int32))
def v0_6 (p0 : Int32) (p1 : Int32) : Int32 := (if fcX = (1 : Int32) then (if fcSX = (1 : Int32) then (1 : Int32) else (0 : Int32)) else (0 : Int32))
def v0_7 (p0 : Int32) (p1 : Int32) : Int32 := (if fcX = (1 : Int32) then (1 : Int32) else (0 : Int32))
def Q0 (Z : State) (p0 : Int32) (p1 : Int32) (w0_S : Addr) (w1_X : Addr) (h0 : Heap) (n0 : Nat) (v : Option Value) (h : Heap) (L : List Loc) : Prop := v = some (.int (1 : Int32)) ∧ Fr n0 L
set_option maxRecDepth 65536 in
set_option maxHeartbeats 40000000 in
theorem rm0 (l : Launch) (Z : State) (a0 : Array Value) (hw : ∀ d ∈ tables_1, d.before a0 Z = true) (ws : List Jvm.Cond) (p0 : Int32) (p1 : Int32) (w0_S : Addr) (w1_X : Addr) (h0 : Heap) (n0 : Nat) (Z0 : n0 ≤ h0.size) (S_S : Sta Z h0 "com/example/strict_lease/strictlease/grant/Mode" "S" "Lcom/example/strict_lease/strictlease/grant/Mode;" (.ref w0_S)) (S_X : Sta Z h0 "com/example/strict_lease/strictlease/grant/Mode" "X" "Lcom/example/strict_lease/strictlease/grant/Mode;" (.ref w1_X)) (E_w0_S : Exa Z h0 w0_S "com/example/strict_lease/strictlease/grant/Mode") (E_w1_X : Exa Z h0 w1_X "com/example/strict_lease/strictlease/grant/Mode") (ne_w0_S_w1_X : w0_S ≠ w1_X) :
    MetFree l x (head1 (Jvm.Cond.code x code maxLocals ret :: ws) room_1) (fun a U => a = #[(.int p0), (.int p1)] ∧ Z.Warmed39 U.vm ∧ U.heap = h0) (fun _ _ _ _ _ => True) (fun _ U o U' => ∃ v L, o = .returned v ∧ Q0 Z p0 p1 w0_S w1_X h0 n0 v U'.heap L ∧ FrameEnd U o U' L room_1.cells room_1.slots) := by
  refine MetFree.of_bodySF (plainFor_of_name pn_com_example_strict_lease_strictlease_grant_ModeConflictsWithPinLaw) hisR ?_
  intro p e s m args below meth c s₁ Bd hml0 hP hK
  obtain ⟨rfl, hZ, hh⟩ := hP
  have hx := Bd.exec
  have hby := Bd.bytes
  have hml : c.maxLocals = 9 := hml0
  have hown : s.vm.findClass "com/example/strict_lease/strictlease/grant/ModeConflictsWithPinLaw" = some m.cls := findClass_of_methodNamed Bd.named
  have hnm := (name_of_methodNamed Bd.named Bd.method).1
  have X0 : Stand p l e room_1 s m #[(.int p0), (.int p1)] below meth c s₁ [] 0 0 := Stand.of_body Bd
  have e0 : s₁.heap = h0 := by rw [← hh, Bd.state]; rfl
  have N0 := Fr.nil n0
  have pre0 : ∀ t, Steps p.tables e below (s₁.setTop (mkF m 0 #[.val (.int p0), .val (.int p1), .unset, .unset, .unset, .unset, .unset, .unset, .unset] [])) t → Steps p.tables e below (s₁.setTop (entryFrame m #[(.int p0), (.int p1)] maxLocals)) t := fun t k => castTop (ef_0 m p0 p1) k
  have pre1 : ∀ t, Steps p.tables e below (s₁.setTop (mkF m 3 #[.val (.int p0), .val (.int p1), .unset, .unset, .unset, .unset, .unset, .unset, .unset] [(.int (p0 &&& (1 : Int32)))])) t → Steps p.tables e below (s₁.setTop (entryFrame m #[(.int p0), (.int p1)] maxLocals)) t := by
    intro t k
    refine pre0 t ?_
    show Steps p.tables e below (s₁.setTop (mkF m 0 #[.val (.int p0), .val (.int p1), .unset, .unset, .unset, .unset, .unset, .unset, .unset] [])) _
    refine XS.iloadN X0.here hx rfl (hb hby at_0) rfl ?_
    show Steps p.tables e below (s₁.setTop (mkF m 1 #[.val (.int p0), .val (.int p1), .unset, .unset, .unset, .unset, .unset, .unset, .unset] [(.int p0)])) _
    refine XT.iconstV X0.here hx rfl (1 : Int32) (hb hby at_1) (by decide) ?_
    show Steps p.tables e below (s₁.setTop (mkF m 2 #[.val (.int p0), .val (.int p1), .unset, .unset, .unset, .unset, .unset, .unset, .unset] [(.int (1 : Int32)), (.int p0)])) _
    refine XS.iand X0.here hx rfl (hb hby at_2) rfl ?_
    exact k
  by_cases c2 : (v0_1 p0 p1) = (0 : Int32)
  · skip
    have pre3 : ∀ t, Steps p.tables e below (s₁.setTop (mkF m 15 #[.val (.int p0), .val (.int p1), .val (.int (1 : Int32)), .unset, .unset, .unset, .unset, .unset, .unset] [(.int (p1 &&& (1 : Int32)))])) t → Steps p.tables e below (s₁.setTop (entryFrame m #[(.int p0), (.int p1)] maxLocals)) t := by
      intro t k
      refine pre1 t ?_
      show Steps p.tables e below (s₁.setTop (mkF m 3 #[.val (.int p0), .val (.int p1), .unset, .unset, .unset, .unset, .unset, .unset, .unset] [(.int (p0 &&& (1 : Int32)))])) _
      refine XS.ifNo X0.here hx rfl (hb hby at_3) rfl (XT.i0_ne_f c2) ?_
      show Steps p.tables e below (s₁.setTop (mkF m 6 #[.val (.int p0), .val (.int p1), .unset, .unset, .unset, .unset, .unset, .unset, .unset] [])) _
      refine XT.iconstV X0.here hx rfl (1 : Int32) (hb hby at_6) (by decide) ?_
      show Steps p.tables e below (s₁.setTop (mkF m 7 #[.val (.int p0), .val (.int p1), .unset, .unset, .unset, .unset, .unset, .unset, .unset] [(.int (1 : Int32))])) _
      refine XS.goto X0.here hx rfl (pc0 := 7) (pc' := 11) rfl (hb hby at_7) (by decide) (by decide) ?_
      show Steps p.tables e below (s₁.setTop (mkF m 11 #[.val (.int p0), .val (.int p1), .unset, .unset, .unset, .unset, .unset, .unset, .unset] [(.int (1 : Int32))])) _
      refine XS.istoreN X0.here hx rfl (hb hby at_11) rfl (l' := #[.val (.int p0), .val (.int p1), .val (.int (1 : Int32)), .unset, .unset, .unset, .unset, .unset, .unset]) rfl ?_
      show Steps p.tables e below (s₁.setTop (mkF m 12 #[.val (.int p0), .val (.int p1), .val (.int (1 : Int32)), .unset, .unset, .unset, .unset, .unset, .unset] [])) _
      refine XS.iloadN X0.here hx rfl (hb hby at_12) rfl ?_
      show Steps p.tables e below (s₁.setTop (mkF m 13 #[.val (.int p0), .val (.int p1), .val (.int (1 : Int32)), .unset, .unset, .unset, .unset, .unset, .unset] [(.int p1)])) _
      refine XT.iconstV X0.here hx rfl (1 : Int32) (hb hby at_13) (by decide) ?_
      show Steps p.tables e below (s₁.setTop (mkF m 14 #[.val (.int p0), .val (.int p1), .val (.int (1 : Int32)), .unset, .unset, .unset, .unset, .unset, .unset] [(.int (1 : Int32)), (.int p1)])) _
      refine XS.iand X0.here hx rfl (hb hby at_14) rfl ?_
      exact k
    by_cases c4 : (v0_2 p0 p1) = (0 : Int32)
    · skip
      obtain ⟨_, _, ⟨T5, L5, k5, n5⟩, -, X5, ⟨Lc5, hQ5, l5, y5, z5⟩, st5⟩ := Jvm.LawKit.callS X0 hx (y := (⟨"com/example/strict_lease/strictlease/grant/ModeConflictsWithPinLaw", "pick", "(I)Lcom/example/strict_lease/strictlease/grant/Mode;"⟩ : MethodName)) hown (mvT hZ (hw _ (List.mem_of_getElem? (i := 0) rfl))) (mvT hZ (hw _ (List.mem_of_getElem? (i := 1) rfl))) (mvT hZ (hw _ (List.mem_of_getElem? (i := 2) rfl))) (mvT hZ (hw _ (List.mem_of_getElem? (i := 3) rfl))) (by decide) (backOf (W := 0) (rmpickS l Z a0 hw [] p0 w0_S h0 n0 Z0 c2 S_S) hZ (hw _ (List.mem_of_getElem? (i := 3) rfl)) (hw _ (List.mem_of_getElem? (i := 2) rfl)) (by decide) (by decide)) (g := (mkF m 25 #[.val (.int p0), .val (.int p1), .val (.int (1 : Int32)), .val (.int (1 : Int32)), .unset, .unset, .unset, .unset, .unset] [(.int p0)])) rfl (by rw [hml]; rfl) (argsL := [(.int p0)]) (rest := []) (lenOf pd__I_Lcom_example_strict_lease_strictlease_grant_Mode_ rfl) rfl (by show 2 * 0 + _ ≤ _; exact Nat.le_of_eq rfl) (hb hby at_25) (fun _ _ => ⟨rfl, e0, (by decide : 0 + 0 ≤ _), (by decide : 0 + 0 ≤ _)⟩)
      dsimp only [Pt.U, Pt.locs, Pt.cells, Pt.slots] at X5 l5 y5 z5 st5 hQ5
      subst l5 y5 z5
      obtain ⟨N5q, rfl, e5⟩ := hQ5
      have N5 := Fr.app N0 N5q
      obtain ⟨_, _, ⟨T6, L6, k6, n6⟩, -, X6, ⟨Lc6, hQ6, l6, y6, z6⟩, st6⟩ := Jvm.LawKit.callS X5 hx (y := (⟨"com/example/strict_lease/strictlease/grant/ModeConflictsWithPinLaw", "pick", "(I)Lcom/example/strict_lease/strictlease/grant/Mode;"⟩ : MethodName)) hown (mvT hZ (hw _ (List.mem_of_getElem? (i := 0) rfl))) (mvT hZ (hw _ (List.mem_of_getElem? (i := 1) rfl))) (mvT hZ (hw _ (List.mem_of_getElem? (i := 2) rfl))) (mvT hZ (hw _ (List.mem_of_getElem? (i := 3) rfl))) (by decide) (backOf (W := 0) (rmpickS l Z a0 hw [] p1 w0_S h0 n0 Z0 c4 S_S) hZ (hw _ (List.mem_of_getElem? (i := 3) rfl)) (hw _ (List.mem_of_getElem? (i := 2) rfl)) (by decide) (by decide)) (g := (mkF m 31 #[.val (.int p0), .val (.int p1), .val (.int (1 : Int32)), .val (.int (1 : Int32)), .val (.ref w0_S), .unset, .unset, .unset, .unset] [(.int p1)])) rfl (by rw [hml]; rfl) (argsL := [(.int p1)]) (rest := []) (lenOf pd__I_Lcom_example_strict_lease_strictlease_grant_Mode_ rfl) rfl (by show 2 * 0 + _ ≤ _; exact Nat.le_of_eq rfl) (hb hby at_31) (fun _ _ => ⟨rfl, e5, (by decide : 0 + 0 ≤ _), (by decide : 0 + 0 ≤ _)⟩)
      dsimp only [Pt.U, Pt.locs, Pt.cells, Pt.slots] at X6 l6 y6 z6 st6 hQ6
      subst l6 y6 z6
      obtain ⟨N6q, rfl, e6⟩ := hQ6
      have N6 := Fr.app N5 N6q
      obtain ⟨cq7, kq7, q7a, q7b, q7c⟩ := isOf hZ e6 E_w0_S
      obtain ⟨_, _, ⟨T7, L7, k7, n7⟩, -, X7, ⟨Lc7, hQ7, l7, y7, z7⟩, st7⟩ := X6.virtualBack hx (y := (⟨"com/example/strict_lease/strictlease/grant/Mode", "conflictsWith", "(Lcom/example/strict_lease/strictlease/grant/Mode;)Z"⟩ : MethodName)) (z := (⟨"com/example/strict_lease/strictlease/grant/Mode", "conflictsWith", "(Lcom/example/strict_lease/strictlease/grant/Mode;)Z"⟩ : MethodName)) hown (mvT hZ (hw _ (List.mem_of_getElem? (i := 9) rfl))) (mvT hZ (hw _ (List.mem_of_getElem? (i := 10) rfl))) (notFace_of_selects (args := #[]) (mvT hZ (hw _ (List.mem_of_getElem? (i := 12) rfl)))) (mvT hZ (hw _ (List.mem_of_getElem? (i := 12) rfl))) (mvT hZ (hw _ (List.mem_of_getElem? (i := 11) rfl))) (by decide) (backOf (W := 0) (rmcSS l Z a0 hw [] w0_S w0_S w1_X h0 n0 Z0 S_X (fun q => ne_w0_S_w1_X (Value.ref.inj q)) (fun q => ne_w0_S_w1_X (Value.ref.inj q))) hZ (hw _ (List.mem_of_getElem? (i := 13) rfl)) (hw _ (List.mem_of_getElem? (i := 5) rfl)) (by decide) (by decide)) q7a q7c (g := (mkF m 55 #[.val (.int p0), .val (.int p1), .val (.int (1 : Int32)), .val (.int (1 : Int32)), .val (.ref w0_S), .val (.ref w0_S), .val (.int (0 : Int32)), .unset, .unset] [(.ref w0_S), (.ref w0_S)])) rfl (by rw [hml]; rfl) (Steps.refl _) (argsL := [(.ref w0_S)]) (rest := []) (lenOf pd__Lcom_example_strict_lease_strictlease_grant_Mode__Z rfl) rfl (by show 2 * 0 + _ ≤ _; exact Nat.le_of_eq rfl) (hb hby at_55) (fun _ _ => ⟨rfl, e6, (by decide : 0 + 0 ≤ _), (by decide : 0 + 0 ≤ _)⟩)
      dsimp only [Pt.U, Pt.locs, Pt.cells, Pt.slots] at X7 l7 y7 z7 st7 hQ7
      subst l7 y7 z7
      obtain ⟨N7q, rfl, e7⟩ := hQ7
      have N7 := Fr.app N6 N7q
      obtain ⟨cq8, kq8, q8a, q8b, q8c⟩ := isOf hZ e7 E_w0_S
      obtain ⟨_, _, ⟨T8, L8, k8, n8⟩, -, X8, ⟨Lc8, hQ8, l8, y8, z8⟩, st8⟩ := X7.virtualBack hx (y := (⟨"com/example/strict_lease/strictlease/grant/Mode", "conflictsWith", "(Lcom/example/strict_lease/strictlease/grant/Mode;)Z"⟩ : MethodName)) (z := (⟨"com/example/strict_lease/strictlease/grant/Mode", "conflictsWith", "(Lcom/example/strict_lease/strictlease/grant/Mode;)Z"⟩ : MethodName)) hown (mvT hZ (hw _ (List.mem_of_getElem? (i := 9) rfl))) (mvT hZ (hw _ (List.mem_of_getElem? (i := 10) rfl))) (notFace_of_selects (args := #[]) (mvT hZ (hw _ (List.mem_of_getElem? (i := 12) rfl)))) (mvT hZ (hw _ (List.mem_of_getElem? (i := 12) rfl))) (mvT hZ (hw _ (List.mem_of_getElem? (i := 11) rfl))) (by decide) (backOf (W := 0) (rmcSS l Z a0 hw [] w0_S w0_S w1_X h0 n0 Z0 S_X (fun q => ne_w0_S_w1_X (Value.ref.inj q)) (fun q => ne_w0_S_w1_X (Value.ref.inj q))) hZ (hw _ (List.mem_of_getElem? (i := 13) rfl)) (hw _ (List.mem_of_getElem? (i := 5) rfl)) (by decide) (by decide)) q8a q8c (g := (mkF m 64 #[.val (.int p0), .val (.int p1), .val (.int (1 : Int32)), .val (.int (1 : Int32)), .val (.ref w0_S), .val (.ref w0_S), .val (.int (0 : Int32)), .val (.int fcSS), .unset] [(.ref w0_S), (.ref w0_S)])) rfl (by rw [hml]; rfl) (Steps.refl _) (argsL := [(.ref w0_S)]) (rest := []) (lenOf pd__Lcom_example_strict_lease_strictlease_grant_Mode__Z rfl) rfl (by show 2 * 0 + _ ≤ _; exact Nat.le_of_eq rfl) (hb hby at_64) (fun _ _ => ⟨rfl, e7, (by decide : 0 + 0 ≤ _), (by decide : 0 + 0 ≤ _)⟩)
      dsimp only [Pt.U, Pt.locs, Pt.cells, Pt.slots] at X8 l8 y8 z8 st8 hQ8
      subst l8 y8 z8
      obtain ⟨N8q, rfl, e8⟩ := hQ8
      have N8 := Fr.app N7 N8q
      have pre9 : ∀ t, Steps p.tables e below (T8.setTop (mkF m 73 #[.val (.int p0), .val (.int p1), .val (.int (1 : Int32)), .val (.int (1 : Int32)), .val (.ref w0_S), .val (.ref w0_S), .val (.int (0 : Int32)), .val (.int fcSS), .val (.int fcSS)] [(.int (0 : Int32)), (.int fcSS)])) t → Steps p.tables e below (s₁.setTop (entryFrame m #[(.int p0), (.int p1)] maxLocals)) t := by
        intro t k
        refine pre3 t ?_
        show Steps p.tables e below (s₁.setTop (mkF m 15 #[.val (.int p0), .val (.int p1), .val (.int (1 : Int32)), .unset, .unset, .unset, .unset, .unset, .unset] [(.int (p1 &&& (1 : Int32)))])) _
        refine XS.ifNo X0.here hx rfl (hb hby at_15) rfl (XT.i0_ne_f c4) ?_
        show Steps p.tables e below (s₁.setTop (mkF m 18 #[.val (.int p0), .val (.int p1), .val (.int (1 : Int32)), .unset, .unset, .unset, .unset, .unset, .unset] [])) _
        refine XT.iconstV X0.here hx rfl (1 : Int32) (hb hby at_18) (by decide) ?_
        show Steps p.tables e below (s₁.setTop (mkF m 19 #[.val (.int p0), .val (.int p1), .val (.int (1 : Int32)), .unset, .unset, .unset, .unset, .unset, .unset] [(.int (1 : Int32))])) _
        refine XS.goto X0.here hx rfl (pc0 := 19) (pc' := 23) rfl (hb hby at_19) (by decide) (by decide) ?_
        show Steps p.tables e below (s₁.setTop (mkF m 23 #[.val (.int p0), .val (.int p1), .val (.int (1 : Int32)), .unset, .unset, .unset, .unset, .unset, .unset] [(.int (1 : Int32))])) _
        refine XS.istoreN X0.here hx rfl (hb hby at_23) rfl (l' := #[.val (.int p0), .val (.int p1), .val (.int (1 : Int32)), .val (.int (1 : Int32)), .unset, .unset, .unset, .unset, .unset]) rfl ?_
        show Steps p.tables e below (s₁.setTop (mkF m 24 #[.val (.int p0), .val (.int p1), .val (.int (1 : Int32)), .val (.int (1 : Int32)), .unset, .unset, .unset, .unset, .unset] [])) _
        refine XS.iloadN X0.here hx rfl (hb hby at_24) rfl ?_
        show Steps p.tables e below (s₁.setTop (mkF m 25 #[.val (.int p0), .val (.int p1), .val (.int (1 : Int32)), .val (.int (1 : Int32)), .unset, .unset, .unset, .unset, .unset] [(.int p0)])) _
        refine st5 _ ?_
        show Steps p.tables e below (T5.setTop (mkF m 28 #[.val (.int p0), .val (.int p1), .val (.int (1 : Int32)), .val (.int (1 : Int32)), .unset, .unset, .unset, .unset, .unset] [(.ref w0_S)])) _
        refine XS.astore X5.here hx rfl (hb hby at_28) rfl rfl (l' := #[.val (.int p0), .val (.int p1), .val (.int (1 : Int32)), .val (.int (1 : Int32)), .val (.ref w0_S), .unset, .unset, .unset, .unset]) rfl ?_
        show Steps p.tables e below (T5.setTop (mkF m 30 #[.val (.int p0), .val (.int p1), .val (.int (1 : Int32)), .val (.int (1 : Int32)), .val (.ref w0_S), .unset, .unset, .unset, .unset] [])) _
        refine XS.iloadN X5.here hx rfl (hb hby at_30) rfl ?_
        show Steps p.tables e below (T5.setTop (mkF m 31 #[.val (.int p0), .val (.int p1), .val (.int (1 : Int32)), .val (.int (1 : Int32)), .val (.ref w0_S), .unset, .unset, .unset, .unset] [(.int p1)])) _
        refine st6 _ ?_
        show Steps p.tables e below (T6.setTop (mkF m 34 #[.val (.int p0), .val (.int p1), .val (.int (1 : Int32)), .val (.int (1 : Int32)), .val (.ref w0_S), .unset, .unset, .unset, .unset] [(.ref w0_S)])) _
        refine XS.astore X6.here hx rfl (hb hby at_34) rfl rfl (l' := #[.val (.int p0), .val (.int p1), .val (.int (1 : Int32)), .val (.int (1 : Int32)), .val (.ref w0_S), .val (.ref w0_S), .unset, .unset, .unset]) rfl ?_
        show Steps p.tables e below (T6.setTop (mkF m 36 #[.val (.int p0), .val (.int p1), .val (.int (1 : Int32)), .val (.int (1 : Int32)), .val (.ref w0_S), .val (.ref w0_S), .unset, .unset, .unset] [])) _
        refine XS.iloadN X6.here hx rfl (hb hby at_36) rfl ?_
        show Steps p.tables e below (T6.setTop (mkF m 37 #[.val (.int p0), .val (.int p1), .val (.int (1 : Int32)), .val (.int (1 : Int32)), .val (.ref w0_S), .val (.ref w0_S), .unset, .unset, .unset] [(.int (1 : Int32))])) _
        refine XS.ifNo X6.here hx rfl (hb hby at_37) rfl (XT.i0_eq_f (by decide)) ?_
        show Steps p.tables e below (T6.setTop (mkF m 40 #[.val (.int p0), .val (.int p1), .val (.int (1 : Int32)), .val (.int (1 : Int32)), .val (.ref w0_S), .val (.ref w0_S), .unset, .unset, .unset] [])) _
        refine XS.iloadN X6.here hx rfl (hb hby at_40) rfl ?_
        show Steps p.tables e below (T6.setTop (mkF m 41 #[.val (.int p0), .val (.int p1), .val (.int (1 : Int32)), .val (.int (1 : Int32)), .val (.ref w0_S), .val (.ref w0_S), .unset, .unset, .unset] [(.int (1 : Int32))])) _
        refine XS.ifYes X6.here hx rfl (pc0 := 41) (pc' := 48) rfl (hb hby at_41) rfl (XT.i0_ne_t (by decide)) (by decide) (by decide) ?_
        show Steps p.tables e below (T6.setTop (mkF m 48 #[.val (.int p0), .val (.int p1), .val (.int (1 : Int32)), .val (.int (1 : Int32)), .val (.ref w0_S), .val (.ref w0_S), .unset, .unset, .unset] [])) _
        refine XT.iconstV X6.here hx rfl (0 : Int32) (hb hby at_48) (by decide) ?_
        show Steps p.tables e below (T6.setTop (mkF m 49 #[.val (.int p0), .val (.int p1), .val (.int (1 : Int32)), .val (.int (1 : Int32)), .val (.ref w0_S), .val (.ref w0_S), .unset, .unset, .unset] [(.int (0 : Int32))])) _
        refine XS.istore X6.here hx rfl (hb hby at_49) rfl (l' := #[.val (.int p0), .val (.int p1), .val (.int (1 : Int32)), .val (.int (1 : Int32)), .val (.ref w0_S), .val (.ref w0_S), .val (.int (0 : Int32)), .unset, .unset]) rfl ?_
        show Steps p.tables e below (T6.setTop (mkF m 51 #[.val (.int p0), .val (.int p1), .val (.int (1 : Int32)), .val (.int (1 : Int32)), .val (.ref w0_S), .val (.ref w0_S), .val (.int (0 : Int32)), .unset, .unset] [])) _
        refine XS.aload X6.here hx rfl (hb hby at_51) rfl rfl ?_
        show Steps p.tables e below (T6.setTop (mkF m 53 #[.val (.int p0), .val (.int p1), .val (.int (1 : Int32)), .val (.int (1 : Int32)), .val (.ref w0_S), .val (.ref w0_S), .val (.int (0 : Int32)), .unset, .unset] [(.ref w0_S)])) _
        refine XS.aload X6.here hx rfl (hb hby at_53) rfl rfl ?_
        show Steps p.tables e below (T6.setTop (mkF m 55 #[.val (.int p0), .val (.int p1), .val (.int (1 : Int32)), .val (.int (1 : Int32)), .val (.ref w0_S), .val (.ref w0_S), .val (.int (0 : Int32)), .unset, .unset] [(.ref w0_S), (.ref w0_S)])) _
        refine st7.trans ?_
        show Steps p.tables e below (T7.setTop (mkF m 58 #[.val (.int p0), .val (.int p1), .val (.int (1 : Int32)), .val (.int (1 : Int32)), .val (.ref w0_S), .val (.ref w0_S), .val (.int (0 : Int32)), .unset, .unset] [(.int fcSS)])) _
        refine XS.istore X7.here hx rfl (hb hby at_58) rfl (l' := #[.val (.int p0), .val (.int p1), .val (.int (1 : Int32)), .val (.int (1 : Int32)), .val (.ref w0_S), .val (.ref w0_S), .val (.int (0 : Int32)), .val (.int fcSS), .unset]) rfl ?_
        show Steps p.tables e below (T7.setTop (mkF m 60 #[.val (.int p0), .val (.int p1), .val (.int (1 : Int32)), .val (.int (1 : Int32)), .val (.ref w0_S), .val (.ref w0_S), .val (.int (0 : Int32)), .val (.int fcSS), .unset] [])) _
        refine XS.aload X7.here hx rfl (hb hby at_60) rfl rfl ?_
        show Steps p.tables e below (T7.setTop (mkF m 62 #[.val (.int p0), .val (.int p1), .val (.int (1 : Int32)), .val (.int (1 : Int32)), .val (.ref w0_S), .val (.ref w0_S), .val (.int (0 : Int32)), .val (.int fcSS), .unset] [(.ref w0_S)])) _
        refine XS.aload X7.here hx rfl (hb hby at_62) rfl rfl ?_
        show Steps p.tables e below (T7.setTop (mkF m 64 #[.val (.int p0), .val (.int p1), .val (.int (1 : Int32)), .val (.int (1 : Int32)), .val (.ref w0_S), .val (.ref w0_S), .val (.int (0 : Int32)), .val (.int fcSS), .unset] [(.ref w0_S), (.ref w0_S)])) _
        refine st8.trans ?_
        show Steps p.tables e below (T8.setTop (mkF m 67 #[.val (.int p0), .val (.int p1), .val (.int (1 : Int32)), .val (.int (1 : Int32)), .val (.ref w0_S), .val (.ref w0_S), .val (.int (0 : Int32)), .val (.int fcSS), .unset] [(.int fcSS)])) _
        refine XS.istore X8.here hx rfl (hb hby at_67) rfl (l' := #[.val (.int p0), .val (.int p1), .val (.int (1 : Int32)), .val (.int (1 : Int32)), .val (.ref w0_S), .val (.ref w0_S), .val (.int (0 : Int32)), .val (.int fcSS), .val (.int fcSS)]) rfl ?_
        show Steps p.tables e below (T8.setTop (mkF m 69 #[.val (.int p0), .val (.int p1), .val (.int (1 : Int32)), .val (.int (1 : Int32)), .val (.ref w0_S), .val (.ref w0_S), .val (.int (0 : Int32)), .val (.int fcSS), .val (.int fcSS)] [])) _
        refine XS.iload X8.here hx rfl (hb hby at_69) rfl ?_
        show Steps p.tables e below (T8.setTop (mkF m 71 #[.val (.int p0), .val (.int p1), .val (.int (1 : Int32)), .val (.int (1 : Int32)), .val (.ref w0_S), .val (.ref w0_S), .val (.int (0 : Int32)), .val (.int fcSS), .val (.int fcSS)] [(.int fcSS)])) _
        refine XS.iload X8.here hx rfl (hb hby at_71) rfl ?_
        exact k
      have pre11 : ∀ t, Steps p.tables e below (T8.setTop (mkF m 88 #[.val (.int p0), .val (.int p1), .val (.int (1 : Int32)), .val (.int (1 : Int32)), .val (.ref w0_S), .val (.ref w0_S), .val (.int (0 : Int32)), .val (.int fcSS), .val (.int fcSS)] [(.int (v0_3 p0 p1))])) t → Steps p.tables e below (s₁.setTop (entryFrame m #[(.int p0), (.int p1)] maxLocals)) t := by
        intro t k
        by_cases c10 : fcSS = (0 : Int32)
        · skip
          rw [show (v0_3 p0 p1) = (1 : Int32) from (if_pos c10)] at k
          refine pre9 t ?_
          show Steps p.tables e below (T8.setTop (mkF m 73 #[.val (.int p0), .val (.int p1), .val (.int (1 : Int32)), .val (.int (1 : Int32)), .val (.ref w0_S), .val (.ref w0_S), .val (.int (0 : Int32)), .val (.int fcSS), .val (.int fcSS)] [(.int (0 : Int32)), (.int fcSS)])) _
          refine XS.icmpNo X8.here hx rfl (hb hby at_73) rfl (XT.ii_ne_f c10) ?_
          show Steps p.tables e below (T8.setTop (mkF m 76 #[.val (.int p0), .val (.int p1), .val (.int (1 : Int32)), .val (.int (1 : Int32)), .val (.ref w0_S), .val (.ref w0_S), .val (.int (0 : Int32)), .val (.int fcSS), .val (.int fcSS)] [])) _
          refine XS.iload X8.here hx rfl (hb hby at_76) rfl ?_
          show Steps p.tables e below (T8.setTop (mkF m 78 #[.val (.int p0), .val (.int p1), .val (.int (1 : Int32)), .val (.int (1 : Int32)), .val (.ref w0_S), .val (.ref w0_S), .val (.int (0 : Int32)), .val (.int fcSS), .val (.int fcSS)] [(.int fcSS)])) _
          refine XS.iload X8.here hx rfl (hb hby at_78) rfl ?_
          show Steps p.tables e below (T8.setTop (mkF m 80 #[.val (.int p0), .val (.int p1), .val (.int (1 : Int32)), .val (.int (1 : Int32)), .val (.ref w0_S), .val (.ref w0_S), .val (.int (0 : Int32)), .val (.int fcSS), .val (.int fcSS)] [(.int (0 : Int32)), (.int fcSS)])) _
          refine XS.icmpNo X8.here hx rfl (hb hby at_80) rfl (XT.ii_ne_f c10) ?_
          show Steps p.tables e below (T8.setTop (mkF m 83 #[.val (.int p0), .val (.int p1), .val (.int (1 : Int32)), .val (.int (1 : Int32)), .val (.ref w0_S), .val (.ref w0_S), .val (.int (0 : Int32)), .val (.int fcSS), .val (.int fcSS)] [])) _
          refine XT.iconstV X8.here hx rfl (1 : Int32) (hb hby at_83) (by decide) ?_
          show Steps p.tables e below (T8.setTop (mkF m 84 #[.val (.int p0), .val (.int p1), .val (.int (1 : Int32)), .val (.int (1 : Int32)), .val (.ref w0_S), .val (.ref w0_S), .val (.int (0 : Int32)), .val (.int fcSS), .val (.int fcSS)] [(.int (1 : Int32))])) _
          refine XS.goto X8.here hx rfl (pc0 := 84) (pc' := 88) rfl (hb hby at_84) (by decide) (by decide) ?_
          exact k
        · skip
          rw [show (v0_3 p0 p1) = (0 : Int32) from (if_neg c10)] at k
          refine pre9 t ?_
          show Steps p.tables e below (T8.setTop (mkF m 73 #[.val (.int p0), .val (.int p1), .val (.int (1 : Int32)), .val (.int (1 : Int32)), .val (.ref w0_S), .val (.ref w0_S), .val (.int (0 : Int32)), .val (.int fcSS), .val (.int fcSS)] [(.int (0 : Int32)), (.int fcSS)])) _
          refine XS.icmpYes X8.here hx rfl (pc0 := 73) (pc' := 87) rfl (hb hby at_73) rfl (XT.ii_ne_t c10) (by decide) (by decide) ?_
          show Steps p.tables e below (T8.setTop (mkF m 87 #[.val (.int p0), .val (.int p1), .val (.int (1 : Int32)), .val (.int (1 : Int32)), .val (.ref w0_S), .val (.ref w0_S), .val (.int (0 : Int32)), .val (.int fcSS), .val (.int fcSS)] [])) _
          refine XT.iconstV X8.here hx rfl (0 : Int32) (hb hby at_87) (by decide) ?_
          exact k
      have hv12 : (v0_3 p0 p1) = (1 : Int32) := rfl
      obtain ⟨fs, hr, hrun, hended, hW, hsame⟩ := X8.leave (v := some (.int (1 : Int32))) (fun h => by rw [Bd.returns] at h; cases h)
      refine ⟨_, _, pre11 _ ?_, hrun, hended, _, _, rfl, ?_, ⟨_, rfl⟩, hW, hsame.mono (by decide) (by decide)⟩
      · skip
        show Steps p.tables e below (T8.setTop (mkF m 88 #[.val (.int p0), .val (.int p1), .val (.int (1 : Int32)), .val (.int (1 : Int32)), .val (.ref w0_S), .val (.ref w0_S), .val (.int (0 : Int32)), .val (.int fcSS), .val (.int fcSS)] [(.int (v0_3 p0 p1))])) _
        rw [hv12]
        exact retN X8 hx (t := .boolean) Bd.returns (by simp) (hb hby at_88) hr
      · skip
        show Q0 Z p0 p1 w0_S w1_X h0 n0 _ T8.heap _
        rw [e8]
        exact ⟨rfl, N8⟩
    · skip
      obtain ⟨_, _, ⟨T13, L13, k13, n13⟩, -, X13, ⟨Lc13, hQ13, l13, y13, z13⟩, st13⟩ := Jvm.LawKit.callS X0 hx (y := (⟨"com/example/strict_lease/strictlease/grant/ModeConflictsWithPinLaw", "pick", "(I)Lcom/example/strict_lease/strictlease/grant/Mode;"⟩ : MethodName)) hown (mvT hZ (hw _ (List.mem_of_getElem? (i := 0) rfl))) (mvT hZ (hw _ (List.mem_of_getElem? (i := 1) rfl))) (mvT hZ (hw _ (List.mem_of_getElem? (i := 2) rfl))) (mvT hZ (hw _ (List.mem_of_getElem? (i := 3) rfl))) (by decide) (backOf (W := 0) (rmpickS l Z a0 hw [] p0 w0_S h0 n0 Z0 c2 S_S) hZ (hw _ (List.mem_of_getElem? (i := 3) rfl)) (hw _ (List.mem_of_getElem? (i := 2) rfl)) (by decide) (by decide)) (g := (mkF m 25 #[.val (.int p0), .val (.int p1), .val (.int (1 : Int32)), .val (.int (0 : Int32)), .unset, .unset, .unset, .unset, .unset] [(.int p0)])) rfl (by rw [hml]; rfl) (argsL := [(.int p0)]) (rest := []) (lenOf pd__I_Lcom_example_strict_lease_strictlease_grant_Mode_ rfl) rfl (by show 2 * 0 + _ ≤ _; exact Nat.le_of_eq rfl) (hb hby at_25) (fun _ _ => ⟨rfl, e0, (by decide : 0 + 0 ≤ _), (by decide : 0 + 0 ≤ _)⟩)
      dsimp only [Pt.U, Pt.locs, Pt.cells, Pt.slots] at X13 l13 y13 z13 st13 hQ13
      subst l13 y13 z13
      obtain ⟨N13q, rfl, e13⟩ := hQ13
      have N13 := Fr.app N0 N13q
      obtain ⟨_, _, ⟨T14, L14, k14, n14⟩, -, X14, ⟨Lc14, hQ14, l14, y14, z14⟩, st14⟩ := Jvm.LawKit.callS X13 hx (y := (⟨"com/example/strict_lease/strictlease/grant/ModeConflictsWithPinLaw", "pick", "(I)Lcom/example/strict_lease/strictlease/grant/Mode;"⟩ : MethodName)) hown (mvT hZ (hw _ (List.mem_of_getElem? (i := 0) rfl))) (mvT hZ (hw _ (List.mem_of_getElem? (i := 1) rfl))) (mvT hZ (hw _ (List.mem_of_getElem? (i := 2) rfl))) (mvT hZ (hw _ (List.mem_of_getElem? (i := 3) rfl))) (by decide) (backOf (W := 0) (rmpickX l Z a0 hw [] p1 w1_X h0 n0 Z0 c4 S_X) hZ (hw _ (List.mem_of_getElem? (i := 3) rfl)) (hw _ (List.mem_of_getElem? (i := 2) rfl)) (by decide) (by decide)) (g := (mkF m 31 #[.val (.int p0), .val (.int p1), .val (.int (1 : Int32)), .val (.int (0 : Int32)), .val (.ref w0_S), .unset, .unset, .unset, .unset] [(.int p1)])) rfl (by rw [hml]; rfl) (argsL := [(.int p1)]) (rest := []) (lenOf pd__I_Lcom_example_strict_lease_strictlease_grant_Mode_ rfl) rfl (by show 2 * 0 + _ ≤ _; exact Nat.le_of_eq rfl) (hb hby at_31) (fun _ _ => ⟨rfl, e13, (by decide : 0 + 0 ≤ _), (by decide : 0 + 0 ≤ _)⟩)
      dsimp only [Pt.U, Pt.locs, Pt.cells, Pt.slots] at X14 l14 y14 z14 st14 hQ14
      subst l14 y14 z14
      obtain ⟨N14q, rfl, e14⟩ := hQ14
      have N14 := Fr.app N13 N14q
      obtain ⟨cq15, kq15, q15a, q15b, q15c⟩ := isOf hZ e14 E_w0_S
      obtain ⟨_, _, ⟨T15, L15, k15, n15⟩, -, X15, ⟨Lc15, hQ15, l15, y15, z15⟩, st15⟩ := X14.virtualBack hx (y := (⟨"com/example/strict_lease/strictlease/grant/Mode", "conflictsWith", "(Lcom/example/strict_lease/strictlease/grant/Mode;)Z"⟩ : MethodName)) (z := (⟨"com/example/strict_lease/strictlease/grant/Mode", "conflictsWith", "(Lcom/example/strict_lease/strictlease/grant/Mode;)Z"⟩ : MethodName)) hown (mvT hZ (hw _ (List.mem_of_getElem? (i := 9) rfl))) (mvT hZ (hw _ (List.mem_of_getElem? (i := 10) rfl))) (notFace_of_selects (args := #[]) (mvT hZ (hw _ (List.mem_of_getElem? (i := 12) rfl)))) (mvT hZ (hw _ (List.mem_of_getElem? (i := 12) rfl))) (mvT hZ (hw _ (List.mem_of_getElem? (i := 11) rfl))) (by decide) (backOf (W := 0) (rmcSX l Z a0 hw [] w0_S w1_X w1_X h0 n0 Z0 S_X (fun q => ne_w0_S_w1_X (Value.ref.inj q)) rfl) hZ (hw _ (List.mem_of_getElem? (i := 13) rfl)) (hw _ (List.mem_of_getElem? (i := 5) rfl)) (by decide) (by decide)) q15a q15c (g := (mkF m 55 #[.val (.int p0), .val (.int p1), .val (.int (1 : Int32)), .val (.int (0 : Int32)), .val (.ref w0_S), .val (.ref w1_X), .val (.int (1 : Int32)), .unset, .unset] [(.ref w1_X), (.ref w0_S)])) rfl (by rw [hml]; rfl) (Steps.refl _) (argsL := [(.ref w1_X)]) (rest := []) (lenOf pd__Lcom_example_strict_lease_strictlease_grant_Mode__Z rfl) rfl (by show 2 * 0 + _ ≤ _; exact Nat.le_of_eq rfl) (hb hby at_55) (fun _ _ => ⟨rfl, e14, (by decide : 0 + 0 ≤ _), (by decide : 0 + 0 ≤ _)⟩)
      dsimp only [Pt.U, Pt.locs, Pt.cells, Pt.slots] at X15 l15 y15 z15 st15 hQ15
      subst l15 y15 z15
      obtain ⟨N15q, rfl, e15⟩ := hQ15
      have N15 := Fr.app N14 N15q
      obtain ⟨cq16, kq16, q16a, q16b, q16c⟩ := isOf hZ e15 E_w1_X
      obtain ⟨_, _, ⟨T16, L16, k16, n16⟩, -, X16, ⟨Lc16, hQ16, l16, y16, z16⟩, st16⟩ := X15.virtualBack hx (y := (⟨"com/example/strict_lease/strictlease/grant/Mode", "conflictsWith", "(Lcom/example/strict_lease/strictlease/grant/Mode;)Z"⟩ : MethodName)) (z := (⟨"com/example/strict_lease/strictlease/grant/Mode", "conflictsWith", "(Lcom/example/strict_lease/strictlease/grant/Mode;)Z"⟩ : MethodName)) hown (mvT hZ (hw _ (List.mem_of_getElem? (i := 9) rfl))) (mvT hZ (hw _ (List.mem_of_getElem? (i := 10) rfl))) (notFace_of_selects (args := #[]) (mvT hZ (hw _ (List.mem_of_getElem? (i := 12) rfl)))) (mvT hZ (hw _ (List.mem_of_getElem? (i := 12) rfl))) (mvT hZ (hw _ (List.mem_of_getElem? (i := 11) rfl))) (by decide) (backOf (W := 0) (rmcX l Z a0 hw [] w1_X w0_S w1_X h0 n0 Z0 S_X rfl) hZ (hw _ (List.mem_of_getElem? (i := 13) rfl)) (hw _ (List.mem_of_getElem? (i := 5) rfl)) (by decide) (by decide)) q16a q16c (g := (mkF m 64 #[.val (.int p0), .val (.int p1), .val (.int (1 : Int32)), .val (.int (0 : Int32)), .val (.ref w0_S), .val (.ref w1_X), .val (.int (1 : Int32)), .val (.int fcSX), .unset] [(.ref w0_S), (.ref w1_X)])) rfl (by rw [hml]; rfl) (Steps.refl _) (argsL := [(.ref w0_S)]) (rest := []) (lenOf pd__Lcom_example_strict_lease_strictlease_grant_Mode__Z rfl) rfl (by show 2 * 0 + _ ≤ _; exact Nat.le_of_eq rfl) (hb hby at_64) (fun _ _ => ⟨rfl, e15, (by decide : 0 + 0 ≤ _), (by decide : 0 + 0 ≤ _)⟩)
      dsimp only [Pt.U, Pt.locs, Pt.cells, Pt.slots] at X16 l16 y16 z16 st16 hQ16
      subst l16 y16 z16
      obtain ⟨N16q, rfl, e16⟩ := hQ16
      have N16 := Fr.app N15 N16q
      have pre17 : ∀ t, Steps p.tables e below (T16.setTop (mkF m 73 #[.val (.int p0), .val (.int p1), .val (.int (1 : Int32)), .val (.int (0 : Int32)), .val (.ref w0_S), .val (.ref w1_X), .val (.int (1 : Int32)), .val (.int fcSX), .val (.int fcX)] [(.int (1 : Int32)), (.int fcSX)])) t → Steps p.tables e below (s₁.setTop (entryFrame m #[(.int p0), (.int p1)] maxLocals)) t := by
        intro t k
        refine pre3 t ?_
        show Steps p.tables e below (s₁.setTop (mkF m 15 #[.val (.int p0), .val (.int p1), .val (.int (1 : Int32)), .unset, .unset, .unset, .unset, .unset, .unset] [(.int (p1 &&& (1 : Int32)))])) _
        refine XS.ifYes X0.here hx rfl (pc0 := 15) (pc' := 22) rfl (hb hby at_15) rfl (XT.i0_ne_t c4) (by decide) (by decide) ?_
        show Steps p.tables e below (s₁.setTop (mkF m 22 #[.val (.int p0), .val (.int p1), .val (.int (1 : Int32)), .unset, .unset, .unset, .unset, .unset, .unset] [])) _
        refine XT.iconstV X0.here hx rfl (0 : Int32) (hb hby at_22) (by decide) ?_
        show Steps p.tables e below (s₁.setTop (mkF m 23 #[.val (.int p0), .val (.int p1), .val (.int (1 : Int32)), .unset, .unset, .unset, .unset, .unset, .unset] [(.int (0 : Int32))])) _
        refine XS.istoreN X0.here hx rfl (hb hby at_23) rfl (l' := #[.val (.int p0), .val (.int p1), .val (.int (1 : Int32)), .val (.int (0 : Int32)), .unset, .unset, .unset, .unset, .unset]) rfl ?_
        show Steps p.tables e below (s₁.setTop (mkF m 24 #[.val (.int p0), .val (.int p1), .val (.int (1 : Int32)), .val (.int (0 : Int32)), .unset, .unset, .unset, .unset, .unset] [])) _
        refine XS.iloadN X0.here hx rfl (hb hby at_24) rfl ?_
        show Steps p.tables e below (s₁.setTop (mkF m 25 #[.val (.int p0), .val (.int p1), .val (.int (1 : Int32)), .val (.int (0 : Int32)), .unset, .unset, .unset, .unset, .unset] [(.int p0)])) _
        refine st13 _ ?_
        show Steps p.tables e below (T13.setTop (mkF m 28 #[.val (.int p0), .val (.int p1), .val (.int (1 : Int32)), .val (.int (0 : Int32)), .unset, .unset, .unset, .unset, .unset] [(.ref w0_S)])) _
        refine XS.astore X13.here hx rfl (hb hby at_28) rfl rfl (l' := #[.val (.int p0), .val (.int p1), .val (.int (1 : Int32)), .val (.int (0 : Int32)), .val (.ref w0_S), .unset, .unset, .unset, .unset]) rfl ?_
        show Steps p.tables e below (T13.setTop (mkF m 30 #[.val (.int p0), .val (.int p1), .val (.int (1 : Int32)), .val (.int (0 : Int32)), .val (.ref w0_S), .unset, .unset, .unset, .unset] [])) _
        refine XS.iloadN X13.here hx rfl (hb hby at_30) rfl ?_
        show Steps p.tables e below (T13.setTop (mkF m 31 #[.val (.int p0), .val (.int p1), .val (.int (1 : Int32)), .val (.int (0 : Int32)), .val (.ref w0_S), .unset, .unset, .unset, .unset] [(.int p1)])) _
        refine st14 _ ?_
        show Steps p.tables e below (T14.setTop (mkF m 34 #[.val (.int p0), .val (.int p1), .val (.int (1 : Int32)), .val (.int (0 : Int32)), .val (.ref w0_S), .unset, .unset, .unset, .unset] [(.ref w1_X)])) _
        refine XS.astore X14.here hx rfl (hb hby at_34) rfl rfl (l' := #[.val (.int p0), .val (.int p1), .val (.int (1 : Int32)), .val (.int (0 : Int32)), .val (.ref w0_S), .val (.ref w1_X), .unset, .unset, .unset]) rfl ?_
        show Steps p.tables e below (T14.setTop (mkF m 36 #[.val (.int p0), .val (.int p1), .val (.int (1 : Int32)), .val (.int (0 : Int32)), .val (.ref w0_S), .val (.ref w1_X), .unset, .unset, .unset] [])) _
        refine XS.iloadN X14.here hx rfl (hb hby at_36) rfl ?_
        show Steps p.tables e below (T14.setTop (mkF m 37 #[.val (.int p0), .val (.int p1), .val (.int (1 : Int32)), .val (.int (0 : Int32)), .val (.ref w0_S), .val (.ref w1_X), .unset, .unset, .unset] [(.int (1 : Int32))])) _
        refine XS.ifNo X14.here hx rfl (hb hby at_37) rfl (XT.i0_eq_f (by decide)) ?_
        show Steps p.tables e below (T14.setTop (mkF m 40 #[.val (.int p0), .val (.int p1), .val (.int (1 : Int32)), .val (.int (0 : Int32)), .val (.ref w0_S), .val (.ref w1_X), .unset, .unset, .unset] [])) _
        refine XS.iloadN X14.here hx rfl (hb hby at_40) rfl ?_
        show Steps p.tables e below (T14.setTop (mkF m 41 #[.val (.int p0), .val (.int p1), .val (.int (1 : Int32)), .val (.int (0 : Int32)), .val (.ref w0_S), .val (.ref w1_X), .unset, .unset, .unset] [(.int (0 : Int32))])) _
        refine XS.ifNo X14.here hx rfl (hb hby at_41) rfl (XT.i0_ne_f (by decide)) ?_
        show Steps p.tables e below (T14.setTop (mkF m 44 #[.val (.int p0), .val (.int p1), .val (.int (1 : Int32)), .val (.int (0 : Int32)), .val (.ref w0_S), .val (.ref w1_X), .unset, .unset, .unset] [])) _
        refine XT.iconstV X14.here hx rfl (1 : Int32) (hb hby at_44) (by decide) ?_
        show Steps p.tables e below (T14.setTop (mkF m 45 #[.val (.int p0), .val (.int p1), .val (.int (1 : Int32)), .val (.int (0 : Int32)), .val (.ref w0_S), .val (.ref w1_X), .unset, .unset, .unset] [(.int (1 : Int32))])) _
        refine XS.goto X14.here hx rfl (pc0 := 45) (pc' := 49) rfl (hb hby at_45) (by decide) (by decide) ?_
        show Steps p.tables e below (T14.setTop (mkF m 49 #[.val (.int p0), .val (.int p1), .val (.int (1 : Int32)), .val (.int (0 : Int32)), .val (.ref w0_S), .val (.ref w1_X), .unset, .unset, .unset] [(.int (1 : Int32))])) _
        refine XS.istore X14.here hx rfl (hb hby at_49) rfl (l' := #[.val (.int p0), .val (.int p1), .val (.int (1 : Int32)), .val (.int (0 : Int32)), .val (.ref w0_S), .val (.ref w1_X), .val (.int (1 : Int32)), .unset, .unset]) rfl ?_
        show Steps p.tables e below (T14.setTop (mkF m 51 #[.val (.int p0), .val (.int p1), .val (.int (1 : Int32)), .val (.int (0 : Int32)), .val (.ref w0_S), .val (.ref w1_X), .val (.int (1 : Int32)), .unset, .unset] [])) _
        refine XS.aload X14.here hx rfl (hb hby at_51) rfl rfl ?_
        show Steps p.tables e below (T14.setTop (mkF m 53 #[.val (.int p0), .val (.int p1), .val (.int (1 : Int32)), .val (.int (0 : Int32)), .val (.ref w0_S), .val (.ref w1_X), .val (.int (1 : Int32)), .unset, .unset] [(.ref w0_S)])) _
        refine XS.aload X14.here hx rfl (hb hby at_53) rfl rfl ?_
        show Steps p.tables e below (T14.setTop (mkF m 55 #[.val (.int p0), .val (.int p1), .val (.int (1 : Int32)), .val (.int (0 : Int32)), .val (.ref w0_S), .val (.ref w1_X), .val (.int (1 : Int32)), .unset, .unset] [(.ref w1_X), (.ref w0_S)])) _
        refine st15.trans ?_
        show Steps p.tables e below (T15.setTop (mkF m 58 #[.val (.int p0), .val (.int p1), .val (.int (1 : Int32)), .val (.int (0 : Int32)), .val (.ref w0_S), .val (.ref w1_X), .val (.int (1 : Int32)), .unset, .unset] [(.int fcSX)])) _
        refine XS.istore X15.here hx rfl (hb hby at_58) rfl (l' := #[.val (.int p0), .val (.int p1), .val (.int (1 : Int32)), .val (.int (0 : Int32)), .val (.ref w0_S), .val (.ref w1_X), .val (.int (1 : Int32)), .val (.int fcSX), .unset]) rfl ?_
        show Steps p.tables e below (T15.setTop (mkF m 60 #[.val (.int p0), .val (.int p1), .val (.int (1 : Int32)), .val (.int (0 : Int32)), .val (.ref w0_S), .val (.ref w1_X), .val (.int (1 : Int32)), .val (.int fcSX), .unset] [])) _
        refine XS.aload X15.here hx rfl (hb hby at_60) rfl rfl ?_
        show Steps p.tables e below (T15.setTop (mkF m 62 #[.val (.int p0), .val (.int p1), .val (.int (1 : Int32)), .val (.int (0 : Int32)), .val (.ref w0_S), .val (.ref w1_X), .val (.int (1 : Int32)), .val (.int fcSX), .unset] [(.ref w1_X)])) _
        refine XS.aload X15.here hx rfl (hb hby at_62) rfl rfl ?_
        show Steps p.tables e below (T15.setTop (mkF m 64 #[.val (.int p0), .val (.int p1), .val (.int (1 : Int32)), .val (.int (0 : Int32)), .val (.ref w0_S), .val (.ref w1_X), .val (.int (1 : Int32)), .val (.int fcSX), .unset] [(.ref w0_S), (.ref w1_X)])) _
        refine st16.trans ?_
        show Steps p.tables e below (T16.setTop (mkF m 67 #[.val (.int p0), .val (.int p1), .val (.int (1 : Int32)), .val (.int (0 : Int32)), .val (.ref w0_S), .val (.ref w1_X), .val (.int (1 : Int32)), .val (.int fcSX), .unset] [(.int fcX)])) _
        refine XS.istore X16.here hx rfl (hb hby at_67) rfl (l' := #[.val (.int p0), .val (.int p1), .val (.int (1 : Int32)), .val (.int (0 : Int32)), .val (.ref w0_S), .val (.ref w1_X), .val (.int (1 : Int32)), .val (.int fcSX), .val (.int fcX)]) rfl ?_
        show Steps p.tables e below (T16.setTop (mkF m 69 #[.val (.int p0), .val (.int p1), .val (.int (1 : Int32)), .val (.int (0 : Int32)), .val (.ref w0_S), .val (.ref w1_X), .val (.int (1 : Int32)), .val (.int fcSX), .val (.int fcX)] [])) _
        refine XS.iload X16.here hx rfl (hb hby at_69) rfl ?_
        show Steps p.tables e below (T16.setTop (mkF m 71 #[.val (.int p0), .val (.int p1), .val (.int (1 : Int32)), .val (.int (0 : Int32)), .val (.ref w0_S), .val (.ref w1_X), .val (.int (1 : Int32)), .val (.int fcSX), .val (.int fcX)] [(.int fcSX)])) _
        refine XS.iload X16.here hx rfl (hb hby at_71) rfl ?_
        exact k
      have pre21 : ∀ t, Steps p.tables e below (T16.setTop (mkF m 88 #[.val (.int p0), .val (.int p1), .val (.int (1 : Int32)), .val (.int (0 : Int32)), .val (.ref w0_S), .val (.ref w1_X), .val (.int (1 : Int32)), .val (.int fcSX), .val (.int fcX)] [(.int (v0_4 p0 p1))])) t → Steps p.tables e below (s₁.setTop (entryFrame m #[(.int p0), (.int p1)] maxLocals)) t := by
        intro t k
        by_cases c18 : fcSX = (1 : Int32)
        · skip
          have pre19 : ∀ t, Steps p.tables e below (T16.setTop (mkF m 80 #[.val (.int p0), .val (.int p1), .val (.int (1 : Int32)), .val (.int (0 : Int32)), .val (.ref w0_S), .val (.ref w1_X), .val (.int (1 : Int32)), .val (.int fcSX), .val (.int fcX)] [(.int (1 : Int32)), (.int fcX)])) t → Steps p.tables e below (s₁.setTop (entryFrame m #[(.int p0), (.int p1)] maxLocals)) t := by
            intro t k
            refine pre17 t ?_
            show Steps p.tables e below (T16.setTop (mkF m 73 #[.val (.int p0), .val (.int p1), .val (.int (1 : Int32)), .val (.int (0 : Int32)), .val (.ref w0_S), .val (.ref w1_X), .val (.int (1 : Int32)), .val (.int fcSX), .val (.int fcX)] [(.int (1 : Int32)), (.int fcSX)])) _
            refine XS.icmpNo X16.here hx rfl (hb hby at_73) rfl (XT.ii_ne_f c18) ?_
            show Steps p.tables e below (T16.setTop (mkF m 76 #[.val (.int p0), .val (.int p1), .val (.int (1 : Int32)), .val (.int (0 : Int32)), .val (.ref w0_S), .val (.ref w1_X), .val (.int (1 : Int32)), .val (.int fcSX), .val (.int fcX)] [])) _
            refine XS.iload X16.here hx rfl (hb hby at_76) rfl ?_
            show Steps p.tables e below (T16.setTop (mkF m 78 #[.val (.int p0), .val (.int p1), .val (.int (1 : Int32)), .val (.int (0 : Int32)), .val (.ref w0_S), .val (.ref w1_X), .val (.int (1 : Int32)), .val (.int fcSX), .val (.int fcX)] [(.int fcX)])) _
            refine XS.iload X16.here hx rfl (hb hby at_78) rfl ?_
            exact k
          by_cases c20 : fcX = (1 : Int32)
          · skip
            rw [show (v0_4 p0 p1) = (1 : Int32) from ((if_pos c18).trans (if_pos c20))] at k
            refine pre19 t ?_
            show Steps p.tables e below (T16.setTop (mkF m 80 #[.val (.int p0), .val (.int p1), .val (.int (1 : Int32)), .val (.int (0 : Int32)), .val (.ref w0_S), .val (.ref w1_X), .val (.int (1 : Int32)), .val (.int fcSX), .val (.int fcX)] [(.int (1 : Int32)), (.int fcX)])) _
            refine XS.icmpNo X16.here hx rfl (hb hby at_80) rfl (XT.ii_ne_f c20) ?_
            show Steps p.tables e below (T16.setTop (mkF m 83 #[.val (.int p0), .val (.int p1), .val (.int (1 : Int32)), .val (.int (0 : Int32)), .val (.ref w0_S), .val (.ref w1_X), .val (.int (1 : Int32)), .val (.int fcSX), .val (.int fcX)] [])) _
            refine XT.iconstV X16.here hx rfl (1 : Int32) (hb hby at_83) (by decide) ?_
            show Steps p.tables e below (T16.setTop (mkF m 84 #[.val (.int p0), .val (.int p1), .val (.int (1 : Int32)), .val (.int (0 : Int32)), .val (.ref w0_S), .val (.ref w1_X), .val (.int (1 : Int32)), .val (.int fcSX), .val (.int fcX)] [(.int (1 : Int32))])) _
            refine XS.goto X16.here hx rfl (pc0 := 84) (pc' := 88) rfl (hb hby at_84) (by decide) (by decide) ?_
            exact k
          · skip
            rw [show (v0_4 p0 p1) = (0 : Int32) from ((if_pos c18).trans (if_neg c20))] at k
            refine pre19 t ?_
            show Steps p.tables e below (T16.setTop (mkF m 80 #[.val (.int p0), .val (.int p1), .val (.int (1 : Int32)), .val (.int (0 : Int32)), .val (.ref w0_S), .val (.ref w1_X), .val (.int (1 : Int32)), .val (.int fcSX), .val (.int fcX)] [(.int (1 : Int32)), (.int fcX)])) _
            refine XS.icmpYes X16.here hx rfl (pc0 := 80) (pc' := 87) rfl (hb hby at_80) rfl (XT.ii_ne_t c20) (by decide) (by decide) ?_
            show Steps p.tables e below (T16.setTop (mkF m 87 #[.val (.int p0), .val (.int p1), .val (.int (1 : Int32)), .val (.int (0 : Int32)), .val (.ref w0_S), .val (.ref w1_X), .val (.int (1 : Int32)), .val (.int fcSX), .val (.int fcX)] [])) _
            refine XT.iconstV X16.here hx rfl (0 : Int32) (hb hby at_87) (by decide) ?_
            exact k
        · skip
          rw [show (v0_4 p0 p1) = (0 : Int32) from (if_neg c18)] at k
          refine pre17 t ?_
          show Steps p.tables e below (T16.setTop (mkF m 73 #[.val (.int p0), .val (.int p1), .val (.int (1 : Int32)), .val (.int (0 : Int32)), .val (.ref w0_S), .val (.ref w1_X), .val (.int (1 : Int32)), .val (.int fcSX), .val (.int fcX)] [(.int (1 : Int32)), (.int fcSX)])) _
          refine XS.icmpYes X16.here hx rfl (pc0 := 73) (pc' := 87) rfl (hb hby at_73) rfl (XT.ii_ne_t c18) (by decide) (by decide) ?_
          show Steps p.tables e below (T16.setTop (mkF m 87 #[.val (.int p0), .val (.int p1), .val (.int (1 : Int32)), .val (.int (0 : Int32)), .val (.ref w0_S), .val (.ref w1_X), .val (.int (1 : Int32)), .val (.int fcSX), .val (.int fcX)] [])) _
          refine XT.iconstV X16.here hx rfl (0 : Int32) (hb hby at_87) (by decide) ?_
          exact k
      have hv22 : (v0_4 p0 p1) = (1 : Int32) := rfl
      obtain ⟨fs, hr, hrun, hended, hW, hsame⟩ := X16.leave (v := some (.int (1 : Int32))) (fun h => by rw [Bd.returns] at h; cases h)
      refine ⟨_, _, pre21 _ ?_, hrun, hended, _, _, rfl, ?_, ⟨_, rfl⟩, hW, hsame.mono (by decide) (by decide)⟩
      · skip
        show Steps p.tables e below (T16.setTop (mkF m 88 #[.val (.int p0), .val (.int p1), .val (.int (1 : Int32)), .val (.int (0 : Int32)), .val (.ref w0_S), .val (.ref w1_X), .val (.int (1 : Int32)), .val (.int fcSX), .val (.int fcX)] [(.int (v0_4 p0 p1))])) _
        rw [hv22]
        exact retN X16 hx (t := .boolean) Bd.returns (by simp) (hb hby at_88) hr
      · skip
        show Q0 Z p0 p1 w0_S w1_X h0 n0 _ T16.heap _
        rw [e16]
        exact ⟨rfl, N16⟩
  · skip
    have pre23 : ∀ t, Steps p.tables e below (s₁.setTop (mkF m 15 #[.val (.int p0), .val (.int p1), .val (.int (0 : Int32)), .unset, .unset, .unset, .unset, .unset, .unset] [(.int (p1 &&& (1 : Int32)))])) t → Steps p.tables e below (s₁.setTop (entryFrame m #[(.int p0), (.int p1)] maxLocals)) t := by
      intro t k
      refine pre1 t ?_
      show Steps p.tables e below (s₁.setTop (mkF m 3 #[.val (.int p0), .val (.int p1), .unset, .unset, .unset, .unset, .unset, .unset, .unset] [(.int (p0 &&& (1 : Int32)))])) _
      refine XS.ifYes X0.here hx rfl (pc0 := 3) (pc' := 10) rfl (hb hby at_3) rfl (XT.i0_ne_t c2) (by decide) (by decide) ?_
      show Steps p.tables e below (s₁.setTop (mkF m 10 #[.val (.int p0), .val (.int p1), .unset, .unset, .unset, .unset, .unset, .unset, .unset] [])) _
      refine XT.iconstV X0.here hx rfl (0 : Int32) (hb hby at_10) (by decide) ?_
      show Steps p.tables e below (s₁.setTop (mkF m 11 #[.val (.int p0), .val (.int p1), .unset, .unset, .unset, .unset, .unset, .unset, .unset] [(.int (0 : Int32))])) _
      refine XS.istoreN X0.here hx rfl (hb hby at_11) rfl (l' := #[.val (.int p0), .val (.int p1), .val (.int (0 : Int32)), .unset, .unset, .unset, .unset, .unset, .unset]) rfl ?_
      show Steps p.tables e below (s₁.setTop (mkF m 12 #[.val (.int p0), .val (.int p1), .val (.int (0 : Int32)), .unset, .unset, .unset, .unset, .unset, .unset] [])) _
      refine XS.iloadN X0.here hx rfl (hb hby at_12) rfl ?_
      show Steps p.tables e below (s₁.setTop (mkF m 13 #[.val (.int p0), .val (.int p1), .val (.int (0 : Int32)), .unset, .unset, .unset, .unset, .unset, .unset] [(.int p1)])) _
      refine XT.iconstV X0.here hx rfl (1 : Int32) (hb hby at_13) (by decide) ?_
      show Steps p.tables e below (s₁.setTop (mkF m 14 #[.val (.int p0), .val (.int p1), .val (.int (0 : Int32)), .unset, .unset, .unset, .unset, .unset, .unset] [(.int (1 : Int32)), (.int p1)])) _
      refine XS.iand X0.here hx rfl (hb hby at_14) rfl ?_
      exact k
    by_cases c24 : (v0_5 p0 p1) = (0 : Int32)
    · skip
      obtain ⟨_, _, ⟨T25, L25, k25, n25⟩, -, X25, ⟨Lc25, hQ25, l25, y25, z25⟩, st25⟩ := Jvm.LawKit.callS X0 hx (y := (⟨"com/example/strict_lease/strictlease/grant/ModeConflictsWithPinLaw", "pick", "(I)Lcom/example/strict_lease/strictlease/grant/Mode;"⟩ : MethodName)) hown (mvT hZ (hw _ (List.mem_of_getElem? (i := 0) rfl))) (mvT hZ (hw _ (List.mem_of_getElem? (i := 1) rfl))) (mvT hZ (hw _ (List.mem_of_getElem? (i := 2) rfl))) (mvT hZ (hw _ (List.mem_of_getElem? (i := 3) rfl))) (by decide) (backOf (W := 0) (rmpickX l Z a0 hw [] p0 w1_X h0 n0 Z0 c2 S_X) hZ (hw _ (List.mem_of_getElem? (i := 3) rfl)) (hw _ (List.mem_of_getElem? (i := 2) rfl)) (by decide) (by decide)) (g := (mkF m 25 #[.val (.int p0), .val (.int p1), .val (.int (0 : Int32)), .val (.int (1 : Int32)), .unset, .unset, .unset, .unset, .unset] [(.int p0)])) rfl (by rw [hml]; rfl) (argsL := [(.int p0)]) (rest := []) (lenOf pd__I_Lcom_example_strict_lease_strictlease_grant_Mode_ rfl) rfl (by show 2 * 0 + _ ≤ _; exact Nat.le_of_eq rfl) (hb hby at_25) (fun _ _ => ⟨rfl, e0, (by decide : 0 + 0 ≤ _), (by decide : 0 + 0 ≤ _)⟩)
      dsimp only [Pt.U, Pt.locs, Pt.cells, Pt.slots] at X25 l25 y25 z25 st25 hQ25
      subst l25 y25 z25
      obtain ⟨N25q, rfl, e25⟩ := hQ25
      have N25 := Fr.app N0 N25q
      obtain ⟨_, _, ⟨T26, L26, k26, n26⟩, -, X26, ⟨Lc26, hQ26, l26, y26, z26⟩, st26⟩ := Jvm.LawKit.callS X25 hx (y := (⟨"com/example/strict_lease/strictlease/grant/ModeConflictsWithPinLaw", "pick", "(I)Lcom/example/strict_lease/strictlease/grant/Mode;"⟩ : MethodName)) hown (mvT hZ (hw _ (List.mem_of_getElem? (i := 0) rfl))) (mvT hZ (hw _ (List.mem_of_getElem? (i := 1) rfl))) (mvT hZ (hw _ (List.mem_of_getElem? (i := 2) rfl))) (mvT hZ (hw _ (List.mem_of_getElem? (i := 3) rfl))) (by decide) (backOf (W := 0) (rmpickS l Z a0 hw [] p1 w0_S h0 n0 Z0 c24 S_S) hZ (hw _ (List.mem_of_getElem? (i := 3) rfl)) (hw _ (List.mem_of_getElem? (i := 2) rfl)) (by decide) (by decide)) (g := (mkF m 31 #[.val (.int p0), .val (.int p1), .val (.int (0 : Int32)), .val (.int (1 : Int32)), .val (.ref w1_X), .unset, .unset, .unset, .unset] [(.int p1)])) rfl (by rw [hml]; rfl) (argsL := [(.int p1)]) (rest := []) (lenOf pd__I_Lcom_example_strict_lease_strictlease_grant_Mode_ rfl) rfl (by show 2 * 0 + _ ≤ _; exact Nat.le_of_eq rfl) (hb hby at_31) (fun _ _ => ⟨rfl, e25, (by decide : 0 + 0 ≤ _), (by decide : 0 + 0 ≤ _)⟩)
      dsimp only [Pt.U, Pt.locs, Pt.cells, Pt.slots] at X26 l26 y26 z26 st26 hQ26
      subst l26 y26 z26
      obtain ⟨N26q, rfl, e26⟩ := hQ26
      have N26 := Fr.app N25 N26q
      obtain ⟨cq27, kq27, q27a, q27b, q27c⟩ := isOf hZ e26 E_w1_X
      obtain ⟨_, _, ⟨T27, L27, k27, n27⟩, -, X27, ⟨Lc27, hQ27, l27, y27, z27⟩, st27⟩ := X26.virtualBack hx (y := (⟨"com/example/strict_lease/strictlease/grant/Mode", "conflictsWith", "(Lcom/example/strict_lease/strictlease/grant/Mode;)Z"⟩ : MethodName)) (z := (⟨"com/example/strict_lease/strictlease/grant/Mode", "conflictsWith", "(Lcom/example/strict_lease/strictlease/grant/Mode;)Z"⟩ : MethodName)) hown (mvT hZ (hw _ (List.mem_of_getElem? (i := 9) rfl))) (mvT hZ (hw _ (List.mem_of_getElem? (i := 10) rfl))) (notFace_of_selects (args := #[]) (mvT hZ (hw _ (List.mem_of_getElem? (i := 12) rfl)))) (mvT hZ (hw _ (List.mem_of_getElem? (i := 12) rfl))) (mvT hZ (hw _ (List.mem_of_getElem? (i := 11) rfl))) (by decide) (backOf (W := 0) (rmcX l Z a0 hw [] w1_X w0_S w1_X h0 n0 Z0 S_X rfl) hZ (hw _ (List.mem_of_getElem? (i := 13) rfl)) (hw _ (List.mem_of_getElem? (i := 5) rfl)) (by decide) (by decide)) q27a q27c (g := (mkF m 55 #[.val (.int p0), .val (.int p1), .val (.int (0 : Int32)), .val (.int (1 : Int32)), .val (.ref w1_X), .val (.ref w0_S), .val (.int (1 : Int32)), .unset, .unset] [(.ref w0_S), (.ref w1_X)])) rfl (by rw [hml]; rfl) (Steps.refl _) (argsL := [(.ref w0_S)]) (rest := []) (lenOf pd__Lcom_example_strict_lease_strictlease_grant_Mode__Z rfl) rfl (by show 2 * 0 + _ ≤ _; exact Nat.le_of_eq rfl) (hb hby at_55) (fun _ _ => ⟨rfl, e26, (by decide : 0 + 0 ≤ _), (by decide : 0 + 0 ≤ _)⟩)
      dsimp only [Pt.U, Pt.locs, Pt.cells, Pt.slots] at X27 l27 y27 z27 st27 hQ27
      subst l27 y27 z27
      obtain ⟨N27q, rfl, e27⟩ := hQ27
      have N27 := Fr.app N26 N27q
      obtain ⟨cq28, kq28, q28a, q28b, q28c⟩ := isOf hZ e27 E_w0_S
      obtain ⟨_, _, ⟨T28, L28, k28, n28⟩, -, X28, ⟨Lc28, hQ28, l28, y28, z28⟩, st28⟩ := X27.virtualBack hx (y := (⟨"com/example/strict_lease/strictlease/grant/Mode", "conflictsWith", "(Lcom/example/strict_lease/strictlease/grant/Mode;)Z"⟩ : MethodName)) (z := (⟨"com/example/strict_lease/strictlease/grant/Mode", "conflictsWith", "(Lcom/example/strict_lease/strictlease/grant/Mode;)Z"⟩ : MethodName)) hown (mvT hZ (hw _ (List.mem_of_getElem? (i := 9) rfl))) (mvT hZ (hw _ (List.mem_of_getElem? (i := 10) rfl))) (notFace_of_selects (args := #[]) (mvT hZ (hw _ (List.mem_of_getElem? (i := 12) rfl)))) (mvT hZ (hw _ (List.mem_of_getElem? (i := 12) rfl))) (mvT hZ (hw _ (List.mem_of_getElem? (i := 11) rfl))) (by decide) (backOf (W := 0) (rmcSX l Z a0 hw [] w0_S w1_X w1_X h0 n0 Z0 S_X (fun q => ne_w0_S_w1_X (Value.ref.inj q)) rfl) hZ (hw _ (List.mem_of_getElem? (i := 13) rfl)) (hw _ (List.mem_of_getElem? (i := 5) rfl)) (by decide) (by decide)) q28a q28c (g := (mkF m 64 #[.val (.int p0), .val (.int p1), .val (.int (0 : Int32)), .val (.int (1 : Int32)), .val (.ref w1_X), .val (.ref w0_S), .val (.int (1 : Int32)), .val (.int fcX), .unset] [(.ref w1_X), (.ref w0_S)])) rfl (by rw [hml]; rfl) (Steps.refl _) (argsL := [(.ref w1_X)]) (rest := []) (lenOf pd__Lcom_example_strict_lease_strictlease_grant_Mode__Z rfl) rfl (by show 2 * 0 + _ ≤ _; exact Nat.le_of_eq rfl) (hb hby at_64) (fun _ _ => ⟨rfl, e27, (by decide : 0 + 0 ≤ _), (by decide : 0 + 0 ≤ _)⟩)
      dsimp only [Pt.U, Pt.locs, Pt.cells, Pt.slots] at X28 l28 y28 z28 st28 hQ28
      subst l28 y28 z28
      obtain ⟨N28q, rfl, e28⟩ := hQ28
      have N28 := Fr.app N27 N28q
      have pre29 : ∀ t, Steps p.tables e below (T28.setTop (mkF m 73 #[.val (.int p0), .val (.int p1), .val (.int (0 : Int32)), .val (.int (1 : Int32)), .val (.ref w1_X), .val (.ref w0_S), .val (.int (1 : Int32)), .val (.int fcX), .val (.int fcSX)] [(.int (1 : Int32)), (.int fcX)])) t → Steps p.tables e below (s₁.setTop (entryFrame m #[(.int p0), (.int p1)] maxLocals)) t := by
        intro t k
        refine pre23 t ?_
        show Steps p.tables e below (s₁.setTop (mkF m 15 #[.val (.int p0), .val (.int p1), .val (.int (0 : Int32)), .unset, .unset, .unset, .unset, .unset, .unset] [(.int (p1 &&& (1 : Int32)))])) _
        refine XS.ifNo X0.here hx rfl (hb hby at_15) rfl (XT.i0_ne_f c24) ?_
        show Steps p.tables e below (s₁.setTop (mkF m 18 #[.val (.int p0), .val (.int p1), .val (.int (0 : Int32)), .unset, .unset, .unset, .unset, .unset, .unset] [])) _
        refine XT.iconstV X0.here hx rfl (1 : Int32) (hb hby at_18) (by decide) ?_
        show Steps p.tables e below (s₁.setTop (mkF m 19 #[.val (.int p0), .val (.int p1), .val (.int (0 : Int32)), .unset, .unset, .unset, .unset, .unset, .unset] [(.int (1 : Int32))])) _
        refine XS.goto X0.here hx rfl (pc0 := 19) (pc' := 23) rfl (hb hby at_19) (by decide) (by decide) ?_
        show Steps p.tables e below (s₁.setTop (mkF m 23 #[.val (.int p0), .val (.int p1), .val (.int (0 : Int32)), .unset, .unset, .unset, .unset, .unset, .unset] [(.int (1 : Int32))])) _
        refine XS.istoreN X0.here hx rfl (hb hby at_23) rfl (l' := #[.val (.int p0), .val (.int p1), .val (.int (0 : Int32)), .val (.int (1 : Int32)), .unset, .unset, .unset, .unset, .unset]) rfl ?_
        show Steps p.tables e below (s₁.setTop (mkF m 24 #[.val (.int p0), .val (.int p1), .val (.int (0 : Int32)), .val (.int (1 : Int32)), .unset, .unset, .unset, .unset, .unset] [])) _
        refine XS.iloadN X0.here hx rfl (hb hby at_24) rfl ?_
        show Steps p.tables e below (s₁.setTop (mkF m 25 #[.val (.int p0), .val (.int p1), .val (.int (0 : Int32)), .val (.int (1 : Int32)), .unset, .unset, .unset, .unset, .unset] [(.int p0)])) _
        refine st25 _ ?_
        show Steps p.tables e below (T25.setTop (mkF m 28 #[.val (.int p0), .val (.int p1), .val (.int (0 : Int32)), .val (.int (1 : Int32)), .unset, .unset, .unset, .unset, .unset] [(.ref w1_X)])) _
        refine XS.astore X25.here hx rfl (hb hby at_28) rfl rfl (l' := #[.val (.int p0), .val (.int p1), .val (.int (0 : Int32)), .val (.int (1 : Int32)), .val (.ref w1_X), .unset, .unset, .unset, .unset]) rfl ?_
        show Steps p.tables e below (T25.setTop (mkF m 30 #[.val (.int p0), .val (.int p1), .val (.int (0 : Int32)), .val (.int (1 : Int32)), .val (.ref w1_X), .unset, .unset, .unset, .unset] [])) _
        refine XS.iloadN X25.here hx rfl (hb hby at_30) rfl ?_
        show Steps p.tables e below (T25.setTop (mkF m 31 #[.val (.int p0), .val (.int p1), .val (.int (0 : Int32)), .val (.int (1 : Int32)), .val (.ref w1_X), .unset, .unset, .unset, .unset] [(.int p1)])) _
        refine st26 _ ?_
        show Steps p.tables e below (T26.setTop (mkF m 34 #[.val (.int p0), .val (.int p1), .val (.int (0 : Int32)), .val (.int (1 : Int32)), .val (.ref w1_X), .unset, .unset, .unset, .unset] [(.ref w0_S)])) _
        refine XS.astore X26.here hx rfl (hb hby at_34) rfl rfl (l' := #[.val (.int p0), .val (.int p1), .val (.int (0 : Int32)), .val (.int (1 : Int32)), .val (.ref w1_X), .val (.ref w0_S), .unset, .unset, .unset]) rfl ?_
        show Steps p.tables e below (T26.setTop (mkF m 36 #[.val (.int p0), .val (.int p1), .val (.int (0 : Int32)), .val (.int (1 : Int32)), .val (.ref w1_X), .val (.ref w0_S), .unset, .unset, .unset] [])) _
        refine XS.iloadN X26.here hx rfl (hb hby at_36) rfl ?_
        show Steps p.tables e below (T26.setTop (mkF m 37 #[.val (.int p0), .val (.int p1), .val (.int (0 : Int32)), .val (.int (1 : Int32)), .val (.ref w1_X), .val (.ref w0_S), .unset, .unset, .unset] [(.int (0 : Int32))])) _
        refine XS.ifYes X26.here hx rfl (pc0 := 37) (pc' := 44) rfl (hb hby at_37) rfl (XT.i0_eq_t (by decide)) (by decide) (by decide) ?_
        show Steps p.tables e below (T26.setTop (mkF m 44 #[.val (.int p0), .val (.int p1), .val (.int (0 : Int32)), .val (.int (1 : Int32)), .val (.ref w1_X), .val (.ref w0_S), .unset, .unset, .unset] [])) _
        refine XT.iconstV X26.here hx rfl (1 : Int32) (hb hby at_44) (by decide) ?_
        show Steps p.tables e below (T26.setTop (mkF m 45 #[.val (.int p0), .val (.int p1), .val (.int (0 : Int32)), .val (.int (1 : Int32)), .val (.ref w1_X), .val (.ref w0_S), .unset, .unset, .unset] [(.int (1 : Int32))])) _
        refine XS.goto X26.here hx rfl (pc0 := 45) (pc' := 49) rfl (hb hby at_45) (by decide) (by decide) ?_
        show Steps p.tables e below (T26.setTop (mkF m 49 #[.val (.int p0), .val (.int p1), .val (.int (0 : Int32)), .val (.int (1 : Int32)), .val (.ref w1_X), .val (.ref w0_S), .unset, .unset, .unset] [(.int (1 : Int32))])) _
        refine XS.istore X26.here hx rfl (hb hby at_49) rfl (l' := #[.val (.int p0), .val (.int p1), .val (.int (0 : Int32)), .val (.int (1 : Int32)), .val (.ref w1_X), .val (.ref w0_S), .val (.int (1 : Int32)), .unset, .unset]) rfl ?_
        show Steps p.tables e below (T26.setTop (mkF m 51 #[.val (.int p0), .val (.int p1), .val (.int (0 : Int32)), .val (.int (1 : Int32)), .val (.ref w1_X), .val (.ref w0_S), .val (.int (1 : Int32)), .unset, .unset] [])) _
        refine XS.aload X26.here hx rfl (hb hby at_51) rfl rfl ?_
        show Steps p.tables e below (T26.setTop (mkF m 53 #[.val (.int p0), .val (.int p1), .val (.int (0 : Int32)), .val (.int (1 : Int32)), .val (.ref w1_X), .val (.ref w0_S), .val (.int (1 : Int32)), .unset, .unset] [(.ref w1_X)])) _
        refine XS.aload X26.here hx rfl (hb hby at_53) rfl rfl ?_
        show Steps p.tables e below (T26.setTop (mkF m 55 #[.val (.int p0), .val (.int p1), .val (.int (0 : Int32)), .val (.int (1 : Int32)), .val (.ref w1_X), .val (.ref w0_S), .val (.int (1 : Int32)), .unset, .unset] [(.ref w0_S), (.ref w1_X)])) _
        refine st27.trans ?_
        show Steps p.tables e below (T27.setTop (mkF m 58 #[.val (.int p0), .val (.int p1), .val (.int (0 : Int32)), .val (.int (1 : Int32)), .val (.ref w1_X), .val (.ref w0_S), .val (.int (1 : Int32)), .unset, .unset] [(.int fcX)])) _
        refine XS.istore X27.here hx rfl (hb hby at_58) rfl (l' := #[.val (.int p0), .val (.int p1), .val (.int (0 : Int32)), .val (.int (1 : Int32)), .val (.ref w1_X), .val (.ref w0_S), .val (.int (1 : Int32)), .val (.int fcX), .unset]) rfl ?_
        show Steps p.tables e below (T27.setTop (mkF m 60 #[.val (.int p0), .val (.int p1), .val (.int (0 : Int32)), .val (.int (1 : Int32)), .val (.ref w1_X), .val (.ref w0_S), .val (.int (1 : Int32)), .val (.int fcX), .unset] [])) _
        refine XS.aload X27.here hx rfl (hb hby at_60) rfl rfl ?_
        show Steps p.tables e below (T27.setTop (mkF m 62 #[.val (.int p0), .val (.int p1), .val (.int (0 : Int32)), .val (.int (1 : Int32)), .val (.ref w1_X), .val (.ref w0_S), .val (.int (1 : Int32)), .val (.int fcX), .unset] [(.ref w0_S)])) _
        refine XS.aload X27.here hx rfl (hb hby at_62) rfl rfl ?_
        show Steps p.tables e below (T27.setTop (mkF m 64 #[.val (.int p0), .val (.int p1), .val (.int (0 : Int32)), .val (.int (1 : Int32)), .val (.ref w1_X), .val (.ref w0_S), .val (.int (1 : Int32)), .val (.int fcX), .unset] [(.ref w1_X), (.ref w0_S)])) _
        refine st28.trans ?_
        show Steps p.tables e below (T28.setTop (mkF m 67 #[.val (.int p0), .val (.int p1), .val (.int (0 : Int32)), .val (.int (1 : Int32)), .val (.ref w1_X), .val (.ref w0_S), .val (.int (1 : Int32)), .val (.int fcX), .unset] [(.int fcSX)])) _
        refine XS.istore X28.here hx rfl (hb hby at_67) rfl (l' := #[.val (.int p0), .val (.int p1), .val (.int (0 : Int32)), .val (.int (1 : Int32)), .val (.ref w1_X), .val (.ref w0_S), .val (.int (1 : Int32)), .val (.int fcX), .val (.int fcSX)]) rfl ?_
        show Steps p.tables e below (T28.setTop (mkF m 69 #[.val (.int p0), .val (.int p1), .val (.int (0 : Int32)), .val (.int (1 : Int32)), .val (.ref w1_X), .val (.ref w0_S), .val (.int (1 : Int32)), .val (.int fcX), .val (.int fcSX)] [])) _
        refine XS.iload X28.here hx rfl (hb hby at_69) rfl ?_
        show Steps p.tables e below (T28.setTop (mkF m 71 #[.val (.int p0), .val (.int p1), .val (.int (0 : Int32)), .val (.int (1 : Int32)), .val (.ref w1_X), .val (.ref w0_S), .val (.int (1 : Int32)), .val (.int fcX), .val (.int fcSX)] [(.int fcX)])) _
        refine XS.iload X28.here hx rfl (hb hby at_71) rfl ?_
        exact k
      have pre33 : ∀ t, Steps p.tables e below (T28.setTop (mkF m 88 #[.val (.int p0), .val (.int p1), .val (.int (0 : Int32)), .val (.int (1 : Int32)), .val (.ref w1_X), .val (.ref w0_S), .val (.int (1 : Int32)), .val (.int fcX), .val (.int fcSX)] [(.int (v0_6 p0 p1))])) t → Steps p.tables e below (s₁.setTop (entryFrame m #[(.int p0), (.int p1)] maxLocals)) t := by
        intro t k
        by_cases c30 : fcX = (1 : Int32)
        · skip
          have pre31 : ∀ t, Steps p.tables e below (T28.setTop (mkF m 80 #[.val (.int p0), .val (.int p1), .val (.int (0 : Int32)), .val (.int (1 : Int32)), .val (.ref w1_X), .val (.ref w0_S), .val (.int (1 : Int32)), .val (.int fcX), .val (.int fcSX)] [(.int (1 : Int32)), (.int fcSX)])) t → Steps p.tables e below (s₁.setTop (entryFrame m #[(.int p0), (.int p1)] maxLocals)) t := by
            intro t k
            refine pre29 t ?_
            show Steps p.tables e below (T28.setTop (mkF m 73 #[.val (.int p0), .val (.int p1), .val (.int (0 : Int32)), .val (.int (1 : Int32)), .val (.ref w1_X), .val (.ref w0_S), .val (.int (1 : Int32)), .val (.int fcX), .val (.int fcSX)] [(.int (1 : Int32)), (.int fcX)])) _
            refine XS.icmpNo X28.here hx rfl (hb hby at_73) rfl (XT.ii_ne_f c30) ?_
            show Steps p.tables e below (T28.setTop (mkF m 76 #[.val (.int p0), .val (.int p1), .val (.int (0 : Int32)), .val (.int (1 : Int32)), .val (.ref w1_X), .val (.ref w0_S), .val (.int (1 : Int32)), .val (.int fcX), .val (.int fcSX)] [])) _
            refine XS.iload X28.here hx rfl (hb hby at_76) rfl ?_
            show Steps p.tables e below (T28.setTop (mkF m 78 #[.val (.int p0), .val (.int p1), .val (.int (0 : Int32)), .val (.int (1 : Int32)), .val (.ref w1_X), .val (.ref w0_S), .val (.int (1 : Int32)), .val (.int fcX), .val (.int fcSX)] [(.int fcSX)])) _
            refine XS.iload X28.here hx rfl (hb hby at_78) rfl ?_
            exact k
          by_cases c32 : fcSX = (1 : Int32)
          · skip
            rw [show (v0_6 p0 p1) = (1 : Int32) from ((if_pos c30).trans (if_pos c32))] at k
            refine pre31 t ?_
            show Steps p.tables e below (T28.setTop (mkF m 80 #[.val (.int p0), .val (.int p1), .val (.int (0 : Int32)), .val (.int (1 : Int32)), .val (.ref w1_X), .val (.ref w0_S), .val (.int (1 : Int32)), .val (.int fcX), .val (.int fcSX)] [(.int (1 : Int32)), (.int fcSX)])) _
            refine XS.icmpNo X28.here hx rfl (hb hby at_80) rfl (XT.ii_ne_f c32) ?_
            show Steps p.tables e below (T28.setTop (mkF m 83 #[.val (.int p0), .val (.int p1), .val (.int (0 : Int32)), .val (.int (1 : Int32)), .val (.ref w1_X), .val (.ref w0_S), .val (.int (1 : Int32)), .val (.int fcX), .val (.int fcSX)] [])) _
            refine XT.iconstV X28.here hx rfl (1 : Int32) (hb hby at_83) (by decide) ?_
            show Steps p.tables e below (T28.setTop (mkF m 84 #[.val (.int p0), .val (.int p1), .val (.int (0 : Int32)), .val (.int (1 : Int32)), .val (.ref w1_X), .val (.ref w0_S), .val (.int (1 : Int32)), .val (.int fcX), .val (.int fcSX)] [(.int (1 : Int32))])) _
            refine XS.goto X28.here hx rfl (pc0 := 84) (pc' := 88) rfl (hb hby at_84) (by decide) (by decide) ?_
            exact k
          · skip
            rw [show (v0_6 p0 p1) = (0 : Int32) from ((if_pos c30).trans (if_neg c32))] at k
            refine pre31 t ?_
            show Steps p.tables e below (T28.setTop (mkF m 80 #[.val (.int p0), .val (.int p1), .val (.int (0 : Int32)), .val (.int (1 : Int32)), .val (.ref w1_X), .val (.ref w0_S), .val (.int (1 : Int32)), .val (.int fcX), .val (.int fcSX)] [(.int (1 : Int32)), (.int fcSX)])) _
            refine XS.icmpYes X28.here hx rfl (pc0 := 80) (pc' := 87) rfl (hb hby at_80) rfl (XT.ii_ne_t c32) (by decide) (by decide) ?_
            show Steps p.tables e below (T28.setTop (mkF m 87 #[.val (.int p0), .val (.int p1), .val (.int (0 : Int32)), .val (.int (1 : Int32)), .val (.ref w1_X), .val (.ref w0_S), .val (.int (1 : Int32)), .val (.int fcX), .val (.int fcSX)] [])) _
            refine XT.iconstV X28.here hx rfl (0 : Int32) (hb hby at_87) (by decide) ?_
            exact k
        · skip
          rw [show (v0_6 p0 p1) = (0 : Int32) from (if_neg c30)] at k
          refine pre29 t ?_
          show Steps p.tables e below (T28.setTop (mkF m 73 #[.val (.int p0), .val (.int p1), .val (.int (0 : Int32)), .val (.int (1 : Int32)), .val (.ref w1_X), .val (.ref w0_S), .val (.int (1 : Int32)), .val (.int fcX), .val (.int fcSX)] [(.int (1 : Int32)), (.int fcX)])) _
          refine XS.icmpYes X28.here hx rfl (pc0 := 73) (pc' := 87) rfl (hb hby at_73) rfl (XT.ii_ne_t c30) (by decide) (by decide) ?_
          show Steps p.tables e below (T28.setTop (mkF m 87 #[.val (.int p0), .val (.int p1), .val (.int (0 : Int32)), .val (.int (1 : Int32)), .val (.ref w1_X), .val (.ref w0_S), .val (.int (1 : Int32)), .val (.int fcX), .val (.int fcSX)] [])) _
          refine XT.iconstV X28.here hx rfl (0 : Int32) (hb hby at_87) (by decide) ?_
          exact k
      have hv34 : (v0_6 p0 p1) = (1 : Int32) := rfl
      obtain ⟨fs, hr, hrun, hended, hW, hsame⟩ := X28.leave (v := some (.int (1 : Int32))) (fun h => by rw [Bd.returns] at h; cases h)
      refine ⟨_, _, pre33 _ ?_, hrun, hended, _, _, rfl, ?_, ⟨_, rfl⟩, hW, hsame.mono (by decide) (by decide)⟩
      · skip
        show Steps p.tables e below (T28.setTop (mkF m 88 #[.val (.int p0), .val (.int p1), .val (.int (0 : Int32)), .val (.int (1 : Int32)), .val (.ref w1_X), .val (.ref w0_S), .val (.int (1 : Int32)), .val (.int fcX), .val (.int fcSX)] [(.int (v0_6 p0 p1))])) _
        rw [hv34]
        exact retN X28 hx (t := .boolean) Bd.returns (by simp) (hb hby at_88) hr
      · skip
        show Q0 Z p0 p1 w0_S w1_X h0 n0 _ T28.heap _
        rw [e28]
        exact ⟨rfl, N28⟩
    · skip
      obtain ⟨_, _, ⟨T35, L35, k35, n35⟩, -, X35, ⟨Lc35, hQ35, l35, y35, z35⟩, st35⟩ := Jvm.LawKit.callS X0 hx (y := (⟨"com/example/strict_lease/strictlease/grant/ModeConflictsWithPinLaw", "pick", "(I)Lcom/example/strict_lease/strictlease/grant/Mode;"⟩ : MethodName)) hown (mvT hZ (hw _ (List.mem_of_getElem? (i := 0) rfl))) (mvT hZ (hw _ (List.mem_of_getElem? (i := 1) rfl))) (mvT hZ (hw _ (List.mem_of_getElem? (i := 2) rfl))) (mvT hZ (hw _ (List.mem_of_getElem? (i := 3) rfl))) (by decide) (backOf (W := 0) (rmpickX l Z a0 hw [] p0 w1_X h0 n0 Z0 c2 S_X) hZ (hw _ (List.mem_of_getElem? (i := 3) rfl)) (hw _ (List.mem_of_getElem? (i := 2) rfl)) (by decide) (by decide)) (g := (mkF m 25 #[.val (.int p0), .val (.int p1), .val (.int (0 : Int32)), .val (.int (0 : Int32)), .unset, .unset, .unset, .unset, .unset] [(.int p0)])) rfl (by rw [hml]; rfl) (argsL := [(.int p0)]) (rest := []) (lenOf pd__I_Lcom_example_strict_lease_strictlease_grant_Mode_ rfl) rfl (by show 2 * 0 + _ ≤ _; exact Nat.le_of_eq rfl) (hb hby at_25) (fun _ _ => ⟨rfl, e0, (by decide : 0 + 0 ≤ _), (by decide : 0 + 0 ≤ _)⟩)
      dsimp only [Pt.U, Pt.locs, Pt.cells, Pt.slots] at X35 l35 y35 z35 st35 hQ35
      subst l35 y35 z35
      obtain ⟨N35q, rfl, e35⟩ := hQ35
      have N35 := Fr.app N0 N35q
      obtain ⟨_, _, ⟨T36, L36, k36, n36⟩, -, X36, ⟨Lc36, hQ36, l36, y36, z36⟩, st36⟩ := Jvm.LawKit.callS X35 hx (y := (⟨"com/example/strict_lease/strictlease/grant/ModeConflictsWithPinLaw", "pick", "(I)Lcom/example/strict_lease/strictlease/grant/Mode;"⟩ : MethodName)) hown (mvT hZ (hw _ (List.mem_of_getElem? (i := 0) rfl))) (mvT hZ (hw _ (List.mem_of_getElem? (i := 1) rfl))) (mvT hZ (hw _ (List.mem_of_getElem? (i := 2) rfl))) (mvT hZ (hw _ (List.mem_of_getElem? (i := 3) rfl))) (by decide) (backOf (W := 0) (rmpickX l Z a0 hw [] p1 w1_X h0 n0 Z0 c24 S_X) hZ (hw _ (List.mem_of_getElem? (i := 3) rfl)) (hw _ (List.mem_of_getElem? (i := 2) rfl)) (by decide) (by decide)) (g := (mkF m 31 #[.val (.int p0), .val (.int p1), .val (.int (0 : Int32)), .val (.int (0 : Int32)), .val (.ref w1_X), .unset, .unset, .unset, .unset] [(.int p1)])) rfl (by rw [hml]; rfl) (argsL := [(.int p1)]) (rest := []) (lenOf pd__I_Lcom_example_strict_lease_strictlease_grant_Mode_ rfl) rfl (by show 2 * 0 + _ ≤ _; exact Nat.le_of_eq rfl) (hb hby at_31) (fun _ _ => ⟨rfl, e35, (by decide : 0 + 0 ≤ _), (by decide : 0 + 0 ≤ _)⟩)
      dsimp only [Pt.U, Pt.locs, Pt.cells, Pt.slots] at X36 l36 y36 z36 st36 hQ36
      subst l36 y36 z36
      obtain ⟨N36q, rfl, e36⟩ := hQ36
      have N36 := Fr.app N35 N36q
      obtain ⟨cq37, kq37, q37a, q37b, q37c⟩ := isOf hZ e36 E_w1_X
      obtain ⟨_, _, ⟨T37, L37, k37, n37⟩, -, X37, ⟨Lc37, hQ37, l37, y37, z37⟩, st37⟩ := X36.virtualBack hx (y := (⟨"com/example/strict_lease/strictlease/grant/Mode", "conflictsWith", "(Lcom/example/strict_lease/strictlease/grant/Mode;)Z"⟩ : MethodName)) (z := (⟨"com/example/strict_lease/strictlease/grant/Mode", "conflictsWith", "(Lcom/example/strict_lease/strictlease/grant/Mode;)Z"⟩ : MethodName)) hown (mvT hZ (hw _ (List.mem_of_getElem? (i := 9) rfl))) (mvT hZ (hw _ (List.mem_of_getElem? (i := 10) rfl))) (notFace_of_selects (args := #[]) (mvT hZ (hw _ (List.mem_of_getElem? (i := 12) rfl)))) (mvT hZ (hw _ (List.mem_of_getElem? (i := 12) rfl))) (mvT hZ (hw _ (List.mem_of_getElem? (i := 11) rfl))) (by decide) (backOf (W := 0) (rmcX l Z a0 hw [] w1_X w1_X w1_X h0 n0 Z0 S_X rfl) hZ (hw _ (List.mem_of_getElem? (i := 13) rfl)) (hw _ (List.mem_of_getElem? (i := 5) rfl)) (by decide) (by decide)) q37a q37c (g := (mkF m 55 #[.val (.int p0), .val (.int p1), .val (.int (0 : Int32)), .val (.int (0 : Int32)), .val (.ref w1_X), .val (.ref w1_X), .val (.int (1 : Int32)), .unset, .unset] [(.ref w1_X), (.ref w1_X)])) rfl (by rw [hml]; rfl) (Steps.refl _) (argsL := [(.ref w1_X)]) (rest := []) (lenOf pd__Lcom_example_strict_lease_strictlease_grant_Mode__Z rfl) rfl (by show 2 * 0 + _ ≤ _; exact Nat.le_of_eq rfl) (hb hby at_55) (fun _ _ => ⟨rfl, e36, (by decide : 0 + 0 ≤ _), (by decide : 0 + 0 ≤ _)⟩)
      dsimp only [Pt.U, Pt.locs, Pt.cells, Pt.slots] at X37 l37 y37 z37 st37 hQ37
      subst l37 y37 z37
      obtain ⟨N37q, rfl, e37⟩ := hQ37
      have N37 := Fr.app N36 N37q
      obtain ⟨cq38, kq38, q38a, q38b, q38c⟩ := isOf hZ e37 E_w1_X
      obtain ⟨_, _, ⟨T38, L38, k38, n38⟩, -, X38, ⟨Lc38, hQ38, l38, y38, z38⟩, st38⟩ := X37.virtualBack hx (y := (⟨"com/example/strict_lease/strictlease/grant/Mode", "conflictsWith", "(Lcom/example/strict_lease/strictlease/grant/Mode;)Z"⟩ : MethodName)) (z := (⟨"com/example/strict_lease/strictlease/grant/Mode", "conflictsWith", "(Lcom/example/strict_lease/strictlease/grant/Mode;)Z"⟩ : MethodName)) hown (mvT hZ (hw _ (List.mem_of_getElem? (i := 9) rfl))) (mvT hZ (hw _ (List.mem_of_getElem? (i := 10) rfl))) (notFace_of_selects (args := #[]) (mvT hZ (hw _ (List.mem_of_getElem? (i := 12) rfl)))) (mvT hZ (hw _ (List.mem_of_getElem? (i := 12) rfl))) (mvT hZ (hw _ (List.mem_of_getElem? (i := 11) rfl))) (by decide) (backOf (W := 0) (rmcX l Z a0 hw [] w1_X w1_X w1_X h0 n0 Z0 S_X rfl) hZ (hw _ (List.mem_of_getElem? (i := 13) rfl)) (hw _ (List.mem_of_getElem? (i := 5) rfl)) (by decide) (by decide)) q38a q38c (g := (mkF m 64 #[.val (.int p0), .val (.int p1), .val (.int (0 : Int32)), .val (.int (0 : Int32)), .val (.ref w1_X), .val (.ref w1_X), .val (.int (1 : Int32)), .val (.int fcX), .unset] [(.ref w1_X), (.ref w1_X)])) rfl (by rw [hml]; rfl) (Steps.refl _) (argsL := [(.ref w1_X)]) (rest := []) (lenOf pd__Lcom_example_strict_lease_strictlease_grant_Mode__Z rfl) rfl (by show 2 * 0 + _ ≤ _; exact Nat.le_of_eq rfl) (hb hby at_64) (fun _ _ => ⟨rfl, e37, (by decide : 0 + 0 ≤ _), (by decide : 0 + 0 ≤ _)⟩)
      dsimp only [Pt.U, Pt.locs, Pt.cells, Pt.slots] at X38 l38 y38 z38 st38 hQ38
      subst l38 y38 z38
      obtain ⟨N38q, rfl, e38⟩ := hQ38
      have N38 := Fr.app N37 N38q
      have pre39 : ∀ t, Steps p.tables e below (T38.setTop (mkF m 73 #[.val (.int p0), .val (.int p1), .val (.int (0 : Int32)), .val (.int (0 : Int32)), .val (.ref w1_X), .val (.ref w1_X), .val (.int (1 : Int32)), .val (.int fcX), .val (.int fcX)] [(.int (1 : Int32)), (.int fcX)])) t → Steps p.tables e below (s₁.setTop (entryFrame m #[(.int p0), (.int p1)] maxLocals)) t := by
        intro t k
        refine pre23 t ?_
        show Steps p.tables e below (s₁.setTop (mkF m 15 #[.val (.int p0), .val (.int p1), .val (.int (0 : Int32)), .unset, .unset, .unset, .unset, .unset, .unset] [(.int (p1 &&& (1 : Int32)))])) _
        refine XS.ifYes X0.here hx rfl (pc0 := 15) (pc' := 22) rfl (hb hby at_15) rfl (XT.i0_ne_t c24) (by decide) (by decide) ?_
        show Steps p.tables e below (s₁.setTop (mkF m 22 #[.val (.int p0), .val (.int p1), .val (.int (0 : Int32)), .unset, .unset, .unset, .unset, .unset, .unset] [])) _
        refine XT.iconstV X0.here hx rfl (0 : Int32) (hb hby at_22) (by decide) ?_
        show Steps p.tables e below (s₁.setTop (mkF m 23 #[.val (.int p0), .val (.int p1), .val (.int (0 : Int32)), .unset, .unset, .unset, .unset, .unset, .unset] [(.int (0 : Int32))])) _
        refine XS.istoreN X0.here hx rfl (hb hby at_23) rfl (l' := #[.val (.int p0), .val (.int p1), .val (.int (0 : Int32)), .val (.int (0 : Int32)), .unset, .unset, .unset, .unset, .unset]) rfl ?_
        show Steps p.tables e below (s₁.setTop (mkF m 24 #[.val (.int p0), .val (.int p1), .val (.int (0 : Int32)), .val (.int (0 : Int32)), .unset, .unset, .unset, .unset, .unset] [])) _
        refine XS.iloadN X0.here hx rfl (hb hby at_24) rfl ?_
        show Steps p.tables e below (s₁.setTop (mkF m 25 #[.val (.int p0), .val (.int p1), .val (.int (0 : Int32)), .val (.int (0 : Int32)), .unset, .unset, .unset, .unset, .unset] [(.int p0)])) _
        refine st35 _ ?_
        show Steps p.tables e below (T35.setTop (mkF m 28 #[.val (.int p0), .val (.int p1), .val (.int (0 : Int32)), .val (.int (0 : Int32)), .unset, .unset, .unset, .unset, .unset] [(.ref w1_X)])) _
        refine XS.astore X35.here hx rfl (hb hby at_28) rfl rfl (l' := #[.val (.int p0), .val (.int p1), .val (.int (0 : Int32)), .val (.int (0 : Int32)), .val (.ref w1_X), .unset, .unset, .unset, .unset]) rfl ?_
        show Steps p.tables e below (T35.setTop (mkF m 30 #[.val (.int p0), .val (.int p1), .val (.int (0 : Int32)), .val (.int (0 : Int32)), .val (.ref w1_X), .unset, .unset, .unset, .unset] [])) _
        refine XS.iloadN X35.here hx rfl (hb hby at_30) rfl ?_
        show Steps p.tables e below (T35.setTop (mkF m 31 #[.val (.int p0), .val (.int p1), .val (.int (0 : Int32)), .val (.int (0 : Int32)), .val (.ref w1_X), .unset, .unset, .unset, .unset] [(.int p1)])) _
        refine st36 _ ?_
        show Steps p.tables e below (T36.setTop (mkF m 34 #[.val (.int p0), .val (.int p1), .val (.int (0 : Int32)), .val (.int (0 : Int32)), .val (.ref w1_X), .unset, .unset, .unset, .unset] [(.ref w1_X)])) _
        refine XS.astore X36.here hx rfl (hb hby at_34) rfl rfl (l' := #[.val (.int p0), .val (.int p1), .val (.int (0 : Int32)), .val (.int (0 : Int32)), .val (.ref w1_X), .val (.ref w1_X), .unset, .unset, .unset]) rfl ?_
        show Steps p.tables e below (T36.setTop (mkF m 36 #[.val (.int p0), .val (.int p1), .val (.int (0 : Int32)), .val (.int (0 : Int32)), .val (.ref w1_X), .val (.ref w1_X), .unset, .unset, .unset] [])) _
        refine XS.iloadN X36.here hx rfl (hb hby at_36) rfl ?_
        show Steps p.tables e below (T36.setTop (mkF m 37 #[.val (.int p0), .val (.int p1), .val (.int (0 : Int32)), .val (.int (0 : Int32)), .val (.ref w1_X), .val (.ref w1_X), .unset, .unset, .unset] [(.int (0 : Int32))])) _
        refine XS.ifYes X36.here hx rfl (pc0 := 37) (pc' := 44) rfl (hb hby at_37) rfl (XT.i0_eq_t (by decide)) (by decide) (by decide) ?_
        show Steps p.tables e below (T36.setTop (mkF m 44 #[.val (.int p0), .val (.int p1), .val (.int (0 : Int32)), .val (.int (0 : Int32)), .val (.ref w1_X), .val (.ref w1_X), .unset, .unset, .unset] [])) _
        refine XT.iconstV X36.here hx rfl (1 : Int32) (hb hby at_44) (by decide) ?_
        show Steps p.tables e below (T36.setTop (mkF m 45 #[.val (.int p0), .val (.int p1), .val (.int (0 : Int32)), .val (.int (0 : Int32)), .val (.ref w1_X), .val (.ref w1_X), .unset, .unset, .unset] [(.int (1 : Int32))])) _
        refine XS.goto X36.here hx rfl (pc0 := 45) (pc' := 49) rfl (hb hby at_45) (by decide) (by decide) ?_
        show Steps p.tables e below (T36.setTop (mkF m 49 #[.val (.int p0), .val (.int p1), .val (.int (0 : Int32)), .val (.int (0 : Int32)), .val (.ref w1_X), .val (.ref w1_X), .unset, .unset, .unset] [(.int (1 : Int32))])) _
        refine XS.istore X36.here hx rfl (hb hby at_49) rfl (l' := #[.val (.int p0), .val (.int p1), .val (.int (0 : Int32)), .val (.int (0 : Int32)), .val (.ref w1_X), .val (.ref w1_X), .val (.int (1 : Int32)), .unset, .unset]) rfl ?_
        show Steps p.tables e below (T36.setTop (mkF m 51 #[.val (.int p0), .val (.int p1), .val (.int (0 : Int32)), .val (.int (0 : Int32)), .val (.ref w1_X), .val (.ref w1_X), .val (.int (1 : Int32)), .unset, .unset] [])) _
        refine XS.aload X36.here hx rfl (hb hby at_51) rfl rfl ?_
        show Steps p.tables e below (T36.setTop (mkF m 53 #[.val (.int p0), .val (.int p1), .val (.int (0 : Int32)), .val (.int (0 : Int32)), .val (.ref w1_X), .val (.ref w1_X), .val (.int (1 : Int32)), .unset, .unset] [(.ref w1_X)])) _
        refine XS.aload X36.here hx rfl (hb hby at_53) rfl rfl ?_
        show Steps p.tables e below (T36.setTop (mkF m 55 #[.val (.int p0), .val (.int p1), .val (.int (0 : Int32)), .val (.int (0 : Int32)), .val (.ref w1_X), .val (.ref w1_X), .val (.int (1 : Int32)), .unset, .unset] [(.ref w1_X), (.ref w1_X)])) _
        refine st37.trans ?_
        show Steps p.tables e below (T37.setTop (mkF m 58 #[.val (.int p0), .val (.int p1), .val (.int (0 : Int32)), .val (.int (0 : Int32)), .val (.ref w1_X), .val (.ref w1_X), .val (.int (1 : Int32)), .unset, .unset] [(.int fcX)])) _
        refine XS.istore X37.here hx rfl (hb hby at_58) rfl (l' := #[.val (.int p0), .val (.int p1), .val (.int (0 : Int32)), .val (.int (0 : Int32)), .val (.ref w1_X), .val (.ref w1_X), .val (.int (1 : Int32)), .val (.int fcX), .unset]) rfl ?_
        show Steps p.tables e below (T37.setTop (mkF m 60 #[.val (.int p0), .val (.int p1), .val (.int (0 : Int32)), .val (.int (0 : Int32)), .val (.ref w1_X), .val (.ref w1_X), .val (.int (1 : Int32)), .val (.int fcX), .unset] [])) _
        refine XS.aload X37.here hx rfl (hb hby at_60) rfl rfl ?_
        show Steps p.tables e below (T37.setTop (mkF m 62 #[.val (.int p0), .val (.int p1), .val (.int (0 : Int32)), .val (.int (0 : Int32)), .val (.ref w1_X), .val (.ref w1_X), .val (.int (1 : Int32)), .val (.int fcX), .unset] [(.ref w1_X)])) _
        refine XS.aload X37.here hx rfl (hb hby at_62) rfl rfl ?_
        show Steps p.tables e below (T37.setTop (mkF m 64 #[.val (.int p0), .val (.int p1), .val (.int (0 : Int32)), .val (.int (0 : Int32)), .val (.ref w1_X), .val (.ref w1_X), .val (.int (1 : Int32)), .val (.int fcX), .unset] [(.ref w1_X), (.ref w1_X)])) _
        refine st38.trans ?_
        show Steps p.tables e below (T38.setTop (mkF m 67 #[.val (.int p0), .val (.int p1), .val (.int (0 : Int32)), .val (.int (0 : Int32)), .val (.ref w1_X), .val (.ref w1_X), .val (.int (1 : Int32)), .val (.int fcX), .unset] [(.int fcX)])) _
        refine XS.istore X38.here hx rfl (hb hby at_67) rfl (l' := #[.val (.int p0), .val (.int p1), .val (.int (0 : Int32)), .val (.int (0 : Int32)), .val (.ref w1_X), .val (.ref w1_X), .val (.int (1 : Int32)), .val (.int fcX), .val (.int fcX)]) rfl ?_
        show Steps p.tables e below (T38.setTop (mkF m 69 #[.val (.int p0), .val (.int p1), .val (.int (0 : Int32)), .val (.int (0 : Int32)), .val (.ref w1_X), .val (.ref w1_X), .val (.int (1 : Int32)), .val (.int fcX), .val (.int fcX)] [])) _
        refine XS.iload X38.here hx rfl (hb hby at_69) rfl ?_
        show Steps p.tables e below (T38.setTop (mkF m 71 #[.val (.int p0), .val (.int p1), .val (.int (0 : Int32)), .val (.int (0 : Int32)), .val (.ref w1_X), .val (.ref w1_X), .val (.int (1 : Int32)), .val (.int fcX), .val (.int fcX)] [(.int fcX)])) _
        refine XS.iload X38.here hx rfl (hb hby at_71) rfl ?_
        exact k
      have pre41 : ∀ t, Steps p.tables e below (T38.setTop (mkF m 88 #[.val (.int p0), .val (.int p1), .val (.int (0 : Int32)), .val (.int (0 : Int32)), .val (.ref w1_X), .val (.ref w1_X), .val (.int (1 : Int32)), .val (.int fcX), .val (.int fcX)] [(.int (v0_7 p0 p1))])) t → Steps p.tables e below (s₁.setTop (entryFrame m #[(.int p0), (.int p1)] maxLocals)) t := by
        intro t k
        by_cases c40 : fcX = (1 : Int32)
        · skip
          rw [show (v0_7 p0 p1) = (1 : Int32) from (if_pos c40)] at k
          refine pre39 t ?_
          show Steps p.tables e below (T38.setTop (mkF m 73 #[.val (.int p0), .val (.int p1), .val (.int (0 : Int32)), .val (.int (0 : Int32)), .val (.ref w1_X), .val (.ref w1_X), .val (.int (1 : Int32)), .val (.int fcX), .val (.int fcX)] [(.int (1 : Int32)), (.int fcX)])) _
          refine XS.icmpNo X38.here hx rfl (hb hby at_73) rfl (XT.ii_ne_f c40) ?_
          show Steps p.tables e below (T38.setTop (mkF m 76 #[.val (.int p0), .val (.int p1), .val (.int (0 : Int32)), .val (.int (0 : Int32)), .val (.ref w1_X), .val (.ref w1_X), .val (.int (1 : Int32)), .val (.int fcX), .val (.int fcX)] [])) _
          refine XS.iload X38.here hx rfl (hb hby at_76) rfl ?_
          show Steps p.tables e below (T38.setTop (mkF m 78 #[.val (.int p0), .val (.int p1), .val (.int (0 : Int32)), .val (.int (0 : Int32)), .val (.ref w1_X), .val (.ref w1_X), .val (.int (1 : Int32)), .val (.int fcX), .val (.int fcX)] [(.int fcX)])) _
          refine XS.iload X38.here hx rfl (hb hby at_78) rfl ?_
          show Steps p.tables e below (T38.setTop (mkF m 80 #[.val (.int p0), .val (.int p1), .val (.int (0 : Int32)), .val (.int (0 : Int32)), .val (.ref w1_X), .val (.ref w1_X), .val (.int (1 : Int32)), .val (.int fcX), .val (.int fcX)] [(.int (1 : Int32)), (.int fcX)])) _
          refine XS.icmpNo X38.here hx rfl (hb hby at_80) rfl (XT.ii_ne_f c40) ?_
          show Steps p.tables e below (T38.setTop (mkF m 83 #[.val (.int p0), .val (.int p1), .val (.int (0 : Int32)), .val (.int (0 : Int32)), .val (.ref w1_X), .val (.ref w1_X), .val (.int (1 : Int32)), .val (.int fcX), .val (.int fcX)] [])) _
          refine XT.iconstV X38.here hx rfl (1 : Int32) (hb hby at_83) (by decide) ?_
          show Steps p.tables e below (T38.setTop (mkF m 84 #[.val (.int p0), .val (.int p1), .val (.int (0 : Int32)), .val (.int (0 : Int32)), .val (.ref w1_X), .val (.ref w1_X), .val (.int (1 : Int32)), .val (.int fcX), .val (.int fcX)] [(.int (1 : Int32))])) _
          refine XS.goto X38.here hx rfl (pc0 := 84) (pc' := 88) rfl (hb hby at_84) (by decide) (by decide) ?_
          exact k
        · skip
          rw [show (v0_7 p0 p1) = (0 : Int32) from (if_neg c40)] at k
          refine pre39 t ?_
          show Steps p.tables e below (T38.setTop (mkF m 73 #[.val (.int p0), .val (.int p1), .val (.int (0 : Int32)), .val (.int (0 : Int32)), .val (.ref w1_X), .val (.ref w1_X), .val (.int (1 : Int32)), .val (.int fcX), .val (.int fcX)] [(.int (1 : Int32)), (.int fcX)])) _
          refine XS.icmpYes X38.here hx rfl (pc0 := 73) (pc' := 87) rfl (hb hby at_73) rfl (XT.ii_ne_t c40) (by decide) (by decide) ?_
          show Steps p.tables e below (T38.setTop (mkF m 87 #[.val (.int p0), .val (.int p1), .val (.int (0 : Int32)), .val (.int (0 : Int32)), .val (.ref w1_X), .val (.ref w1_X), .val (.int (1 : Int32)), .val (.int fcX), .val (.int fcX)] [])) _
          refine XT.iconstV X38.here hx rfl (0 : Int32) (hb hby at_87) (by decide) ?_
          exact k
      have hv42 : (v0_7 p0 p1) = (1 : Int32) := rfl
      obtain ⟨fs, hr, hrun, hended, hW, hsame⟩ := X38.leave (v := some (.int (1 : Int32))) (fun h => by rw [Bd.returns] at h; cases h)
      refine ⟨_, _, pre41 _ ?_, hrun, hended, _, _, rfl, ?_, ⟨_, rfl⟩, hW, hsame.mono (by decide) (by decide)⟩
      · skip
        show Steps p.tables e below (T38.setTop (mkF m 88 #[.val (.int p0), .val (.int p1), .val (.int (0 : Int32)), .val (.int (0 : Int32)), .val (.ref w1_X), .val (.ref w1_X), .val (.int (1 : Int32)), .val (.int fcX), .val (.int fcX)] [(.int (v0_7 p0 p1))])) _
        rw [hv42]
        exact retN X38 hx (t := .boolean) Bd.returns (by simp) (hb hby at_88) hr
      · skip
        show Q0 Z p0 p1 w0_S w1_X h0 n0 _ T38.heap _
        rw [e38]
        exact ⟨rfl, N38⟩
set_option maxRecDepth 65536 in
set_option maxHeartbeats 40000000 in
theorem comes_1 {Post : Tables → Env → Array Value → State → Outcome → State → Prop} (hpost : ∀ tb e args s v u, (limb_1_1.after args s (.returned v) u = true ∧ limb_1_2.after args s (.returned v) u = true ∧ True) → FrameEnd s (.returned v) u (Jvm.fieldLocs frame_1_writes args s ++ Jvm.arrayLocs frame_1_arrays args s ++ Jvm.staticLocs frame_1_statics s) 0 0 → Post tb e args s (.returned v) u) :
    ArmFor flags0 classFile x code maxLocals ret World_1 tables_1 room_1 Calls_1 rest_1 Pre_1 Post := by
  intro l hfl _ _ p e ha hc hk s m args below hf hA hF happ hP
  obtain ⟨hcalls, hrest, hpre⟩ := hP
  obtain ⟨-, -, -, hnamed, -, -, -, hat⟩ := (Spec.applies_iff hf).mp happ
  obtain ⟨hg, hn⟩ := and_e (Cond.before_iff.mp (show (Jvm.Cond.and given_1 narrow_1).before args s = true from hpre))
  obtain ⟨hcount, r0⟩ := and_e hg
  obtain ⟨ha0, r1⟩ := and_e r0
  obtain ⟨w0, w1, rfl⟩ : ∃ w0 w1 : Value, args = #[w0, w1] := by
    have hs : args.size = 2 := by simpa [Cond.value, given_1] using hcount
    obtain ⟨L⟩ := args
    match L, hs with
    | [w0, w1], _ => exact ⟨w0, w1, rfl⟩
  have hw := fun d (hd : d ∈ tables_1) => atoms_spec (ws := Jvm.Cond.code x code maxLocals ret :: tables_1) hat d (List.mem_cons_of_mem _ hd)
  have hfit : Fit s := fun {y c} hc i hi => by
    obtain ⟨ha, rfl⟩ := Array.getElem?_eq_some_iff.mp hc
    have q := List.all_eq_true.mp ((Array.all_eq_true_iff_forall_mem.mp hF) _ (Array.getElem_mem ha)) i (List.mem_range.mpr hi)
    simpa [Array.getElem?_eq_getElem hi] using q
  obtain ⟨i0, ei0⟩ := is_v ha0
  obtain rfl : w0 = (.int i0) := Option.some.inj ei0
  obtain ⟨i1, ei1⟩ := is_v r1
  obtain rfl : w1 = (.int i1) := Option.some.inj ei1
  obtain ⟨hS, m1⟩ := and_e hn
  obtain ⟨hX, m2⟩ := and_e m1
  obtain ⟨oS, oX⟩ := and_e m2
  obtain ⟨aS, eS⟩ := exa_v hS
  obtain ⟨aX, eX⟩ := exa_v hX
  have ES := Exa.start eS hS
  have EX := Exa.start eX hX
  have SS := Sta.start eS (Or.inr ⟨hw _ (List.mem_of_getElem? (i := 5) rfl), hw _ (List.mem_of_getElem? (i := 6) rfl)⟩)
  have SX := Sta.start eX (Or.inr ⟨hw _ (List.mem_of_getElem? (i := 5) rfl), hw _ (List.mem_of_getElem? (i := 8) rfl)⟩)
  have NE : aS ≠ aX := fun q => by
    have f1 := Jvm.Free.NT.SwA.eq_int (Cond.before_iff.mpr oS)
    have f2 := Jvm.Free.NT.SwA.eq_int (Cond.before_iff.mpr oX)
    rw [fld_at eS] at f1
    rw [fld_at eX, ← q, f1] at f2
    exact absurd (Value.int.inj (Option.some.inj f2)) (by decide)
  obtain ⟨n, o, h1, h2, h3, _, L, rfl, ⟨rfl, N⟩, hq⟩ := rm0 l s _ hw tables_1 i0 i1 aS aX s.heap s.heap.size (Nat.le_refl _) SS SX ES EX NE p e ha hc hk s m _ below hf ((Spec.applies_iff_loose hf).mp happ).1 ⟨rfl, State.Warmed39.refl s, rfl⟩ trivial
  refine ⟨n, _, h1, h2, h3, hpost _ _ _ _ _ _ ⟨Cond.after_iff.mpr rfl, Cond.after_iff.mpr (eq_i res_at (Term.int_eval (1)) rfl), trivial⟩ ⟨hq.1, hq.2.1, (hq.2.2.sift fun y hy => Or.inr (N y hy)).mono (by decide) (by decide)⟩⟩
theorem main_1_1 : Claimed_1_1 := comes_1 fun _ _ _ _ _ _ h hF => ⟨h.1, hF⟩
theorem main_1_2 : Claimed_1_2 := comes_1 fun _ _ _ _ _ _ h hF => ⟨h.2.1, hF⟩
end Jvm.Pilot.@@N@@
namespace Jvm.Pilot.@@N@@
open Jvm Jvm.ClassFile Sem Op Lib Jvm.Free Jvm.Stand Jvm.Pilot.@@N@@.Jvm.D
/-! MADE BY PROGRAM (witnessworld.py) out of the Statement's table words and the real class files: 12 classes; the members and pool entries that the words name. The judged class is class 1, her method 2. -/
namespace start1
open Jvm.ClassFile
def u (s : String) : CpInfo := .utf8 (stringToUtf16 s)
/-- a pool by its gaps: so many unusable entries, then the entry; so many at the end -/
def gap : Nat → List CpInfo → List CpInfo
  | 0, r => r
  | n + 1, r => .unusable :: gap n r
def poolList (es : List (Nat × CpInfo)) (last : Nat) : List CpInfo := es.foldr (fun e r => gap e.1 (e.2 :: r)) (gap last [])
def pool (es : List (Nat × CpInfo)) (last : Nat) : Array CpInfo := ⟨poolList es last⟩
def fileOf (pool : Array CpInfo) (this : Nat) (attrs : Array Attribute := #[]) (ms : Array MethodInfo := #[]) (fl : Nat := 33) (sup : Nat := 0) (ifs : Array Nat := #[]) (fds : Array FieldInfo := #[]) : ClassFile where
  minorVersion := 0
  majorVersion := 65
  constantPool := pool
  accessFlags := fl
  thisClass := this
  superClass := sup
  interfaces := ifs
  fields := fds
  methods := ms
  attributes := attrs
def plain (name : String) (sup : Option ClassId) : Class where
  name := name
  kind := .ordinary
  loader := none
  accessFlags := 33
  super := sup
  interfaces := #[]
  cf := none
  fields := #[]
  methods := #[]
  instanceTypes := #[]
  staticTypes := #[]
  resolved := #[]
  callSites := []
  init := .initialized
  statics := none
  mirror := none

def pool0 : Array CpInfo := pool [(5, u "<init>"), (0, u "()V"), (1, .class_ 10), (1, u "java/lang/Object")] 113

def k0m0 : Method := { name := "<init>", desc := "()V", sig := { parameters := [], returnType := none }, accessFlags := 1, code := none }
/-- java/lang/Object -/
def k0 : Class := { plain "java/lang/Object" none with
  accessFlags := 33
  interfaces := #[]
  cf := some (fileOf pool0 8 #[] #[{ accessFlags := 1, nameIndex := 5, descriptorIndex := 6, attributes := #[] }] 33 0 #[] #[])
  fields := #[]
  methods := #[k0m0]
  instanceTypes := #[]
  staticTypes := #[]
  resolved := Array.replicate 124 none
  statics := none }

def pool1 : Array CpInfo := pool [(2, .class_ 4), (1, u "java/lang/Object"), (0, u "<init>"), (0, u "()V"), (0, .fieldref 8 9), (0, .class_ 10), (0, .nameAndType 11 12), (0, u "com/example/strict_lease/strictlease/grant/Mode"), (0, u "X"), (0, u "Lcom/example/strict_lease/strictlease/grant/Mode;"), (0, .fieldref 8 14), (0, .nameAndType 15 12), (0, u "S"), (0, .methodref 17 18), (0, .class_ 19), (0, .nameAndType 20 21), (0, u "com/example/strict_lease/strictlease/grant/ModeConflictsWithPinLaw"), (0, u "pick"), (0, u "(I)Lcom/example/strict_lease/strictlease/grant/Mode;"), (0, .methodref 8 23), (0, .nameAndType 24 25), (0, u "conflictsWith"), (0, u "(Lcom/example/strict_lease/strictlease/grant/Mode;)Z"), (3, u "law"), (0, u "(II)Z")] 2

def k1m0 : Method := { name := "<init>", desc := "()V", sig := { parameters := [], returnType := none }, accessFlags := 2, code := none }
def k1c1 : Code := { maxStack := 2, maxLocals := 1, code := method_2_code, exceptionTable := #[], attributes := #[] }
def k1m1 : Method := { name := "pick", desc := "(I)Lcom/example/strict_lease/strictlease/grant/Mode;", sig := { parameters := [.int], returnType := some (.object "com/example/strict_lease/strictlease/grant/Mode") }, accessFlags := 10, code := some k1c1 }
def k1c2 : Code := { maxStack := 2, maxLocals := 9, code := code, exceptionTable := #[], attributes := #[] }
def k1m2 : Method := { name := "law", desc := "(II)Z", sig := { parameters := [.int, .int], returnType := some .boolean }, accessFlags := 9, code := some k1c2 }
/-- com/example/strict_lease/strictlease/grant/ModeConflictsWithPinLaw -/
def k1 : Class := { plain "com/example/strict_lease/strictlease/grant/ModeConflictsWithPinLaw" (some 0) with
  accessFlags := 49
  interfaces := #[]
  cf := some (fileOf pool1 17 #[] #[{ accessFlags := 2, nameIndex := 5, descriptorIndex := 6, attributes := #[] }, { accessFlags := 10, nameIndex := 20, descriptorIndex := 21, attributes := #[] }, { accessFlags := 9, nameIndex := 29, descriptorIndex := 30, attributes := #[] }] 49 2 #[] #[])
  fields := #[]
  methods := #[k1m0, k1m1, k1m2]
  instanceTypes := #[]
  staticTypes := #[]
  resolved := Array.replicate 33 none
  statics := none }

def pool2 : Array CpInfo := pool [(1, .class_ 2), (0, u "java/lang/constant/Constable"), (0, .class_ 4), (0, u "java/lang/Object")] 6

/-- java/lang/constant/Constable -/
def k2 : Class := { plain "java/lang/constant/Constable" (some 0) with
  accessFlags := 1537
  interfaces := #[]
  cf := some (fileOf pool2 1 #[] #[] 1537 3 #[] #[])
  fields := #[]
  methods := #[]
  instanceTypes := #[]
  staticTypes := #[]
  resolved := Array.replicate 11 none
  statics := none }

def pool3 : Array CpInfo := pool [(1, .class_ 2), (0, u "java/lang/Comparable"), (0, .class_ 4), (0, u "java/lang/Object")] 7

/-- java/lang/Comparable -/
def k3 : Class := { plain "java/lang/Comparable" (some 0) with
  accessFlags := 1537
  interfaces := #[]
  cf := some (fileOf pool3 1 #[] #[] 1537 3 #[] #[])
  fields := #[]
  methods := #[]
  instanceTypes := #[]
  staticTypes := #[]
  resolved := Array.replicate 12 none
  statics := none }

def pool4 : Array CpInfo := pool [(1, .class_ 2), (0, u "java/io/Serializable"), (0, .class_ 4), (0, u "java/lang/Object")] 2

/-- java/io/Serializable -/
def k4 : Class := { plain "java/io/Serializable" (some 0) with
  accessFlags := 1537
  interfaces := #[]
  cf := some (fileOf pool4 1 #[] #[] 1537 3 #[] #[])
  fields := #[]
  methods := #[]
  instanceTypes := #[]
  staticTypes := #[]
  resolved := Array.replicate 7 none
  statics := none }

def pool5 : Array CpInfo := pool [(2, .class_ 4), (1, u "java/lang/Enum"), (0, u "name"), (0, u "Ljava/lang/String;"), (2, u "ordinal"), (0, u "I"), (1, .class_ 14), (1, u "java/lang/Object"), (4, u "hash"), (86, .class_ 108), (1, u "java/lang/Enum$EnumDesc"), (2, .class_ 112), (0, u "java/lang/constant/Constable"), (0, .class_ 114), (0, u "java/lang/Comparable"), (0, .class_ 116), (0, u "java/io/Serializable")] 87

/-- java/lang/Enum -/
def k5 : Class := { plain "java/lang/Enum" (some 0) with
  accessFlags := 1057
  interfaces := #[2, 3, 4]
  cf := some (fileOf pool5 2 #[.nestMembers #[106]] #[] 1057 12 #[111, 113, 115] #[{ accessFlags := 18, nameIndex := 5, descriptorIndex := 6, attributes := #[] }, { accessFlags := 18, nameIndex := 9, descriptorIndex := 10, attributes := #[] }, { accessFlags := 2, nameIndex := 19, descriptorIndex := 10, attributes := #[] }])
  fields := #[{ name := "name", type := (.object "java/lang/String"), accessFlags := 18, slot := 0, constantValue := 0 }, { name := "ordinal", type := .int, accessFlags := 18, slot := 1, constantValue := 0 }, { name := "hash", type := .int, accessFlags := 2, slot := 2, constantValue := 0 }]
  methods := #[]
  instanceTypes := #[(.object "java/lang/String"), .int, .int]
  staticTypes := #[]
  resolved := Array.replicate 204 none
  statics := none }

def pool6 : Array CpInfo := pool [(1, .class_ 2), (0, u "com/example/strict_lease/strictlease/grant/Mode"), (2, u "S"), (0, u "Lcom/example/strict_lease/strictlease/grant/Mode;"), (0, .fieldref 1 8), (0, .nameAndType 9 6), (0, u "X"), (2, u "$VALUES"), (0, u "[Lcom/example/strict_lease/strictlease/grant/Mode;"), (6, .class_ 22), (1, u "java/lang/Enum"), (49, u "conflictsWith"), (0, u "(Lcom/example/strict_lease/strictlease/grant/Mode;)Z")] 21

def k6c0 : Code := { maxStack := 2, maxLocals := 2, code := prog_21_method_5_code, exceptionTable := #[], attributes := #[] }
def k6m0 : Method := { name := "conflictsWith", desc := "(Lcom/example/strict_lease/strictlease/grant/Mode;)Z", sig := { parameters := [(.object "com/example/strict_lease/strictlease/grant/Mode")], returnType := some .boolean }, accessFlags := 0, code := some k6c0 }
/-- com/example/strict_lease/strictlease/grant/Mode -/
def k6 : Class := { plain "com/example/strict_lease/strictlease/grant/Mode" (some 5) with
  accessFlags := 16433
  interfaces := #[]
  cf := some (fileOf pool6 1 #[] #[{ accessFlags := 0, nameIndex := 72, descriptorIndex := 73, attributes := #[] }] 16433 20 #[] #[{ accessFlags := 16409, nameIndex := 5, descriptorIndex := 6, attributes := #[] }, { accessFlags := 16409, nameIndex := 9, descriptorIndex := 6, attributes := #[] }, { accessFlags := 4122, nameIndex := 12, descriptorIndex := 13, attributes := #[] }])
  fields := #[{ name := "S", type := (.object "com/example/strict_lease/strictlease/grant/Mode"), accessFlags := 16409, slot := 0, constantValue := 0 }, { name := "X", type := (.object "com/example/strict_lease/strictlease/grant/Mode"), accessFlags := 16409, slot := 1, constantValue := 0 }, { name := "$VALUES", type := (.array (.object "com/example/strict_lease/strictlease/grant/Mode")), accessFlags := 4122, slot := 2, constantValue := 0 }]
  methods := #[k6m0]
  instanceTypes := #[(.object "java/lang/String"), .int, .int]
  staticTypes := #[(.object "com/example/strict_lease/strictlease/grant/Mode"), (.object "com/example/strict_lease/strictlease/grant/Mode"), (.array (.object "com/example/strict_lease/strictlease/grant/Mode"))]
  resolved := Array.replicate 95 none
  statics := some 0 }

def pool7 : Array CpInfo := pool [(1, u "java/lang/Cloneable"), (0, .class_ 1), (0, u "java/lang/Object"), (0, .class_ 3)] 3

/-- java/lang/Cloneable -/
def k7 : Class := { plain "java/lang/Cloneable" (some 0) with
  accessFlags := 1537
  interfaces := #[]
  cf := some (fileOf pool7 2 #[] #[] 1537 4 #[] #[])
  fields := #[]
  methods := #[]
  instanceTypes := #[]
  staticTypes := #[]
  resolved := Array.replicate 8 none
  statics := none }

/-- the primitive byte -/
def k8 : Class := { plain "byte" none with kind := .primitive 'B', accessFlags := 0x411 }
/-- [B -/
def k9 : Class := { plain "[B" (some 0) with kind := .array 8 .byte, interfaces := #[7, 4], accessFlags := 1041 }

/-- the primitive int -/
def k10 : Class := { plain "int" none with kind := .primitive 'I', accessFlags := 0x411 }
/-- [I -/
def k11 : Class := { plain "[I" (some 0) with kind := .array 10 .int, interfaces := #[7, 4], accessFlags := 1041 }

def heap : Heap := #[{ cls := 6, slots := #[.ref 1, .ref 2, .null], vm := .statics 6 },
  { cls := 6, slots := #[.null, .int 0, .int 0], vm := .none },
  { cls := 6, slots := #[.null, .int 1, .int 0], vm := .none }]
def classes : Array Class := #[k0, k1, k2, k3, k4, k5, k6, k7, k8, k9, k10, k11]
def interned : List (Array UInt16 × Addr) := []
def slotsUsed : Nat := 9
def theMethod : MethodId := ⟨1, 2⟩
def args0 : Array Value := #[.int 5, .int 7]
def aboutOver (below : List Frame) : State where
  vm := { classes := classes, interned := interned.toArray }
  heap := heap
  slotsUsed := slotsUsed
  threads := #[{ frames := .invoking theMethod args0 :: below }]
def below0 : List Frame := [.native { method := ⟨0, 0⟩, args := #[] }]
def about1 : State := aboutOver below0
def p0 : Program := .bare "" "" ""
def e0 : Env := launch0.env 0 0 0
theorem w_frames : about1.frames = Frame.invoking theMethod args0 :: below0 := rfl
set_option maxRecDepth 65536 in
theorem w_args : argsFit about1.vm theMethod args0 = true := by decide +kernel
set_option maxRecDepth 65536 in
theorem w_heap : heapFits about1 = true := by decide +kernel
set_option maxRecDepth 65536 in
theorem w_runnable : about1.curStatus? = some .runnable := by decide +kernel
set_option maxRecDepth 65536 in
theorem w_alone : about1.alone = true := by decide +kernel
set_option maxRecDepth 65536 in
theorem w_named : about1.methodNamed? x = some theMethod := by decide +kernel
set_option maxRecDepth 65536 in
theorem w_hears : about1.hears theMethod below0 = true := by decide +kernel
set_option maxRecDepth 65536 in
theorem w_ripe : about1.ripe theMethod args0 below0 = true := by decide +kernel
theorem w_running : about1.status = .running := rfl
set_option maxRecDepth 65536 in
theorem w_room : about1.hasRoom e0.platform room_1 = true :=
  launch0.hasRoom_least _ room_1 (by decide +kernel) (by decide +kernel) (by decide +kernel) (by decide +kernel) (by decide +kernel) (by decide +kernel)
theorem allAtoms_all (ts : List Jvm.Cond) (a : Array Jvm.Value) (st : Jvm.State) : (allAtoms ts).before a st = ts.all (fun c => c.before a st) := by
  induction ts with
  | nil => rfl
  | cons c t ih =>
    show (Jvm.Cond.and c (allAtoms t)).before a st = _
    rw [Jvm.Cond.before_and, ih, List.all_cons]
def words1 : List Jvm.Cond := Jvm.Cond.code x code maxLocals ret :: tables_1
/-- a 'code' word, met by the world's own term for the bytes: nothing is compared byte by byte -/
theorem code_word {y : MethodName} {bytes : ByteArray} {mx : Nat} {rt : Option FieldType} {a : Array Value} {s : State} {m : MethodId} {meth : Method} {c : Code} (h1 : s.methodNamed? y = some m) (h2 : s.vm.method? m = some meth) (h3 : meth.code = some c) (h4 : c.code = bytes)
    (h5 : (c.maxLocals == mx && c.exceptionTable.isEmpty && decide (c.maxStack ≤ mostOperands) && decide (meth.sig.returnType = rt) && !meth.locks && decide (parseMethodDescriptor y.desc = some meth.sig)) = true) : (Jvm.Cond.code y bytes mx rt).before a s = true := by
  simp only [Bool.and_eq_true, beq_iff_eq, Bool.not_eq_true', decide_eq_true_eq] at h5
  obtain ⟨⟨⟨⟨⟨g1, g2⟩, g3⟩, g4⟩, g5⟩, g6⟩ := h5
  simp [Cond.before, Cond.holds, Cond.value, h1, h2, h3, h4, g1, g2, g3, g4, g5, g6]
def isCode : Jvm.Cond → Bool
  | .code _ _ _ _ => true
  | _ => false
theorem all_split {L : List Jvm.Cond} {P : Jvm.Cond → Bool} (h1 : L.all (fun c => isCode c || P c) = true) (h2 : ∀ c ∈ L.filter isCode, P c = true) : L.all P = true := by
  refine List.all_eq_true.mpr fun c hc => ?_
  have h := List.all_eq_true.mp h1 c hc
  rcases Bool.eq_false_or_eq_true (isCode c) with hi | hi
  · exact h2 c (List.mem_filter.mpr ⟨hc, hi⟩)
  · simpa [hi] using h
set_option maxRecDepth 65536 in
theorem w_c0 : (Jvm.Cond.code x code maxLocals ret).before args0 about1 = true := code_word (m := ⟨1, 2⟩) (meth := k1m2) (c := k1c2) (by decide +kernel) rfl rfl rfl (by decide +kernel)
set_option maxRecDepth 65536 in
theorem w_c1 : (Jvm.Cond.code ({ cls := "com/example/strict_lease/strictlease/grant/ModeConflictsWithPinLaw", name := "pick", desc := "(I)Lcom/example/strict_lease/strictlease/grant/Mode;" } : Jvm.MethodName) method_2_code (1 : Nat) (Option.some (Jvm.ClassFile.FieldType.object "com/example/strict_lease/strictlease/grant/Mode"))).before args0 about1 = true := code_word (m := ⟨1, 1⟩) (meth := k1m1) (c := k1c1) (by decide +kernel) rfl rfl rfl (by decide +kernel)
set_option maxRecDepth 65536 in
theorem w_c2 : (Jvm.Cond.code ({ cls := "com/example/strict_lease/strictlease/grant/Mode", name := "conflictsWith", desc := "(Lcom/example/strict_lease/strictlease/grant/Mode;)Z" } : Jvm.MethodName) prog_21_method_5_code (2 : Nat) (Option.some Jvm.ClassFile.FieldType.boolean)).before args0 about1 = true := code_word (m := ⟨6, 0⟩) (meth := k6m0) (c := k6c0) (by decide +kernel) rfl rfl rfl (by decide +kernel)
def codes1 : List Jvm.Cond := [Jvm.Cond.code x code maxLocals ret, Jvm.Cond.code ({ cls := "com/example/strict_lease/strictlease/grant/ModeConflictsWithPinLaw", name := "pick", desc := "(I)Lcom/example/strict_lease/strictlease/grant/Mode;" } : Jvm.MethodName) method_2_code (1 : Nat) (Option.some (Jvm.ClassFile.FieldType.object "com/example/strict_lease/strictlease/grant/Mode")), Jvm.Cond.code ({ cls := "com/example/strict_lease/strictlease/grant/Mode", name := "conflictsWith", desc := "(Lcom/example/strict_lease/strictlease/grant/Mode;)Z" } : Jvm.MethodName) prog_21_method_5_code (2 : Nat) (Option.some Jvm.ClassFile.FieldType.boolean)]
set_option maxRecDepth 65536 in
theorem codes_eq : words1.filter isCode = codes1 := rfl
theorem w_codes : ∀ c ∈ words1.filter isCode, c.before args0 about1 = true := by
  rw [codes_eq]
  intro c hc
  simp only [codes1, List.mem_cons, List.not_mem_nil, or_false] at hc
  rcases hc with rfl | rfl | rfl
  · exact w_c0
  · exact w_c1
  · exact w_c2
set_option maxRecDepth 65536 in
theorem w_t1 : words1.all (fun c => isCode c || c.before args0 about1) = true := by decide +kernel
theorem w_tables : (allAtoms (Jvm.Cond.code x code maxLocals ret :: tables_1)).before args0 about1 = true := by
  rw [allAtoms_all]
  show words1.all (fun c => c.before args0 about1) = true
  refine all_split ?_ w_codes
  rw [w_t1]
set_option maxRecDepth 65536 in
theorem w_case : (Jvm.Cond.and given_1 narrow_1).before args0 about1 = true := by decide +kernel
theorem w_applies : (headSpec (Jvm.Cond.code x code maxLocals ret :: tables_1) room_1).applies x e0.platform about1 = true :=
  (Spec.applies_iff w_frames).mpr ⟨w_running, w_runnable, w_alone, w_named, w_hears, w_ripe, w_room, w_tables⟩
theorem atStart : AtStart classFile x code maxLocals ret World_1 tables_1 room_1 Calls_1 rest_1 Pre_1 launch0 p0 e0 about1 theMethod args0 below0 :=
  ⟨lists_1, trivial, launch0.admits_env _ _ _, launch0.least_env, fairChoices_fair.cas, fairChoices_fair.clock, w_frames, w_args, w_heap, w_applies, trivial, trivial, w_case⟩
end start1
theorem witness_1 : WitnessClaimed_1 := ⟨start1.p0, start1.e0, start1.about1, start1.theMethod, start1.args0, start1.below0, start1.atStart⟩
end Jvm.Pilot.@@N@@
