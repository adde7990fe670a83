import JvmDerived
import JvmDerived.Pilot.@@N@@Statement
import JvmDerived.Pilot.@@N@@Code
set_option linter.unusedVariables false
set_option linter.unusedSimpArgs false
@@BLOCK:NumsL.lean.txt@@
namespace Jvm.RoadKit
open Sem ClassFile Op Lib Jvm.Stand Jvm.Free Jvm.LawKit
section New
variable {p : Program} {l : Launch} {e : Env} {R : Room} {s : State} {m : MethodId} {args : Array Value} {below : List Frame} {meth : Method} {c : Code} {T : State} {locs : List Loc} {cells slots : Nat}
theorem retI (X : Stand p l e R s m args below meth c T locs cells slots) (hx : p.tables.exec = Jvm.exec) {pc : Nat} {Ls : Array Slot} {z : Int32} {rest : List Value} (hret : meth.sig.returnType = some .int) (hd : decode c.code pc = .ok (.ireturn, 1)) {fs : List Frame}
    (hl : ∀ (f : JFrame) (acts : List Action), f.method = m → f.locked = none → f.entered = [] → (doReturn e (T.setTop f) acts (some (.int z))).1 = T.setFrames fs) : Steps p.tables e below (T.setTop (mkF m pc Ls (.int z :: rest))) (T.setFrames fs) := by
  have hm' : T.vm.method? m = some meth := X.method'
  have hn : narrow .int (.int z) = .int z := rfl
  show Steps p.tables e below (T.setTop { method := m, pc := pc, locals := Ls, stack := _ :: rest, locked := none }) _
  jvm_step X.here [X.here.top, hx, hd, hm', hret, hn]
  first | (intro acts; rw [hl _ acts rfl rfl rfl]) | rw [hl _ _ rfl rfl rfl]
  exact Steps.refl _
theorem own_retD (X : Stand p l e R s m args below meth c T locs cells slots) (hx : p.tables.exec = Jvm.exec) {pc : Nat} {Ls : Array Slot} {z : UInt64} {rest : List Value} (hret : meth.sig.returnType = some .double) (hd : decode c.code pc = .ok (.dreturn, 1)) {fs : List Frame}
    (hl : ∀ (f : JFrame) (acts : List Action), f.method = m → f.locked = none → f.entered = [] → (doReturn e (T.setTop f) acts (some (.double z))).1 = T.setFrames fs) : Steps p.tables e below (T.setTop (mkF m pc Ls (.double z :: rest))) (T.setFrames fs) := by
  have hm' : T.vm.method? m = some meth := X.method'
  have hn : narrow .double (.double z) = .double z := rfl
  show Steps p.tables e below (T.setTop { method := m, pc := pc, locals := Ls, stack := _ :: rest, locked := none }) _
  jvm_step X.here [X.here.top, hx, hd, hm', hret, hn]
  first | (intro acts; rw [hl _ acts rfl rfl rfl]) | rw [hl _ _ rfl rfl rfl]
  exact Steps.refl _
theorem own_stand {L1 L2 : List Loc} {c1 c2 n1 n2 : Nat} (X : Stand p l e R s m args below meth c T L1 c1 n1) (h1 : L1 = L2) (h2 : c1 = c2) (h3 : n1 = n2) : Stand p l e R s m args below meth c T L2 c2 n2 := by
  subst h1 h2 h3
  exact X
theorem own_ldc2D {g : JFrame} {target : State} (X : Stand p l e R s m args below meth c T locs cells slots) (hx : p.tables.exec = Jvm.exec) {own : String} {index : Nat} {b : UInt64} (hown : s.vm.findClass own = some m.cls) (hc : (Cond.constantDouble own index b).before args s = true) (hg : g.method = m) (hd : decode c.code g.pc = .ok (.ldc2_w index, 3))
    (hr : Steps p.tables e below (T.setTop { g with pc := g.pc + 3, stack := .double b :: g.stack }) target) : Steps p.tables e below (T.setTop g) target := X.ldc2DoubleC hx hown hc hg hd target hr
end New
end Jvm.RoadKit
namespace Jvm.Pilot.@@N@@
open Jvm Jvm.ClassFile Sem Op Lib Jvm.Free Jvm.Stand Jvm.LawKit Jvm.RoadKit Bundle Jvm.Pilot.@@N@@.Jvm.D
theorem own_rem32 (x y : Int32) : (x - (x / y) * y).toInt = x.toInt.tmod y.toInt := by
  rw [Int32.toInt_sub, Int32.toInt_mul, Int32.toInt_div]
  simp only [Int.bmod_mul_bmod, Int.sub_bmod_bmod]
  rw [Int.tmod_def, Int.mul_comm y.toInt]
  have h := Int32.toInt_mod x y
  have h1 := (x % y).toInt_lt
  have h2 := (x % y).le_toInt
  rw [h, Int.tmod_def, Int.mul_comm y.toInt] at h1 h2
  exact Int.bmod_eq_of_le (by omega) (by omega)
theorem own_q (x : Int32) (h : 0 ≤ x.toInt) : FP.Core.val64 (FP.ddiv (FP.i2d x) 4616189618054758400) ≠ .nan ∧ FP.Core.sgn (FP.Core.val64 (FP.ddiv (FP.i2d x) 4616189618054758400)) = false := by
  have h4 : FP.Core.val64 4616189618054758400 = .fin false 4503599627370496 (-50) := by decide +kernel
  obtain ⟨s, c, q, hf⟩ := FP.Core.i2d_fin x
  have hi := FP.Core.val64_i2d x
  have hs : s = false := by
    have h1 : FP.Core.sgn (FP.Core.val64 (FP.Core.i2d x)) = decide (x.toInt < 0) := by
      rw [hi]; exact FP.Core.sgn_roundRatio _ _ _ _ _
    rw [hf] at h1
    rw [show s = decide (x.toInt < 0) from h1]
    exact decide_eq_false (by omega)
  have hd : FP.Core.val64 (FP.ddiv (FP.i2d x) 4616189618054758400) = FP.Core.roundRatio FP.Core.b64 false c 4503599627370496 (q - (-50)) := by
    refine (FP.Core.val64_ddiv (FP.Core.i2d x) 4616189618054758400).trans ?_
    rw [hf, h4, hs]
    rfl
  rw [hd]
  exact ⟨FP.Core.roundRatio_ne_nan _ _ _ _ _, FP.Core.sgn_roundRatio _ _ _ _ _⟩
theorem own_zv (d : FP.Core.Datum) (h : FP.Core.sgn d = false) : 0 ≤ FP.Core.zval FP.Core.b64 d := by
  unfold FP.Core.zval
  rw [h]
  simp [FP.Core.signed]
theorem own_ge (x : UInt64) (h : FP.Core.val64 x ≠ .nan) (hs : FP.Core.sgn (FP.Core.val64 x) = false) : ¬ cmpValue (FP.dcmp x FP.dconst0) .l < (0 : Int32) := by
  have h0 : FP.Core.val64 FP.Core.dconst0 ≠ .nan := by rw [FP.Core.val64_dconst0]; exact FP.Core.Datum.noConfusion
  have hz := FP.Core.zval64_zero
  have := own_zv _ hs
  rcases FP.Core.dcmp_ge.mpr ⟨h, h0, (show FP.Core.zval FP.Core.b64 (FP.Core.val64 FP.Core.dconst0) ≤ _ from by rw [show FP.Core.val64 FP.Core.dconst0 = FP.Core.val64 0 from rfl, hz]; exact this)⟩ with h1 | h1
  · rw [show FP.dcmp x FP.dconst0 = some .gt from h1]; decide
  · rw [show FP.dcmp x FP.dconst0 = some .eq from h1]; decide
theorem own_three (x y : UInt64) (hx : FP.Core.val64 x ≠ .nan) (hy : FP.Core.val64 y ≠ .nan) (sx : FP.Core.sgn (FP.Core.val64 x) = false) :
    (if cmpValue (FP.dcmp y FP.dconst0) .l = (0 : Int32) then (0 : Int32) else if cmpValue (FP.dcmp x y) .l = (0 : Int32) then (0 : Int32) else if cmpValue (FP.dcmp x y) .g < (0 : Int32) then (1 : Int32) else (0 : Int32)) = if cmpValue (FP.dcmp x y) .g < (0 : Int32) then (1 : Int32) else (0 : Int32) := by
  have h0 : FP.Core.val64 FP.Core.dconst0 ≠ .nan := by rw [FP.Core.val64_dconst0]; exact FP.Core.Datum.noConfusion
  have hz := FP.Core.zval64_zero
  have hzx := own_zv _ sx
  have key : FP.dcmp x y = some .lt → FP.dcmp y FP.dconst0 ≠ some .eq := by
    intro h1 h2
    have a := (FP.Core.dcmp_lt.mp h1).2.2
    have b := (FP.Core.dcmp_eq.mp h2).2.2
    rw [show FP.Core.val64 FP.dconst0 = FP.Core.val64 0 from rfl, hz] at b
    omega
  have hn : FP.dcmp x y ≠ none := by
    intro h1
    rcases (FP.Core.dcmp_none x y).mp h1 with q | q
    · exact hx q
    · exact hy q
  have hn' : FP.dcmp y FP.dconst0 ≠ none := by
    intro h1
    rcases (FP.Core.dcmp_none y _).mp h1 with q | q
    · exact hy q
    · exact h0 q
  generalize FP.dcmp x y = a at *
  generalize FP.dcmp y FP.dconst0 = b at *
  rcases a with _ | (_ | _ | _) <;> rcases b with _ | (_ | _ | _) <;> first | exact absurd rfl hn | exact absurd rfl hn' | exact absurd rfl (key rfl) | decide
theorem own_nnq (x : Int32) (h : 0 ≤ x.toInt) : Jvm.Free.Fl.NoNaN64 (FP.ddiv (FP.i2d x) 4616189618054758400) := Jvm.Free.Fl.val64_no.mpr (own_q x h).1
theorem d2_0 : decode jdk_30_method_1_code 0 = .ok (.aload_n 0, 1) := by decide +kernel
theorem d2_1 : decode jdk_30_method_1_code 1 = .ok (.invokespecial 1, 3) := by decide +kernel
theorem d2_4 : decode jdk_30_method_1_code 4 = .ok (.return_, 1) := by decide +kernel
theorem pn_java_lang_Record : plainName "java/lang/Record" = true := by first | (simp [plainName, overriddenIn]; done) | decide +kernel
theorem ef_2 (m : MethodId) (o0 : Addr) : entryFrame m #[(.ref o0)] 1 = mkF m 0 #[.val (.ref o0)] [] := by first | (simp [entryFrame, mkF, argsToLocals, Value.category]; done) | rfl
def Q2 (Z : State) (o0 : Addr) (h0 : Heap) (n0 : Nat) (v : Option Value) (h : Heap) (L : List Loc) : Prop := Fr n0 L ∧ v = none ∧ h = h0
set_option maxRecDepth 65536 in
set_option maxHeartbeats 40000000 in
theorem rm2 (l : Launch) (Z : State) (a0 : Array Value) (hw : ∀ d ∈ tables_1, d.before a0 Z = true) (ws : List Jvm.Cond) (o0 : Addr) (h0 : Heap) (n0 : Nat) (Z0 : n0 ≤ h0.size) :
    MetFree l (⟨"java/lang/Record", "<init>", "()V"⟩ : MethodName) (head1 (Jvm.Cond.code (⟨"java/lang/Record", "<init>", "()V"⟩ : MethodName) jdk_30_method_1_code 1 none :: ws) ({ frames := 1, cells := 0, slots := 0, locals := 12 } : Room)) (fun a U => a = #[(.ref o0)] ∧ Z.Warmed39 U.vm ∧ U.heap = h0) (fun _ _ _ _ _ => True) (fun _ U o U' => ∃ v L, o = .returned v ∧ Q2 Z o0 h0 n0 v U'.heap L ∧ FrameEnd U o U' L ({ frames := 1, cells := 0, slots := 0, locals := 12 } : Room).cells ({ frames := 1, cells := 0, slots := 0, locals := 12 } : Room).slots) := by
  refine MetFree.of_bodySF (plainFor_of_name pn_java_lang_Record) hisR ?_
  intro p e s m args below meth c s₁ Bd hml0 hP hK
  obtain ⟨rfl, hZ, hh⟩ := hP
  have hx := Bd.exec
  have hby := Bd.bytes
  have hml : c.maxLocals = 1 := hml0
  have hown : s.vm.findClass "java/lang/Record" = some m.cls := findClass_of_methodNamed Bd.named
  have hnm := (name_of_methodNamed Bd.named Bd.method).1
  have hlk := BodyLoose.notSynchronized Bd
  have X0 : Stand p l e ({ frames := 1, cells := 0, slots := 0, locals := 12 } : Room) s m #[(.ref o0)] below meth c s₁ [] 0 0 := Stand.of_body Bd
  have e0 : s₁.heap = h0 := by rw [← hh, Bd.state]; rfl
  have N0 := Fr.nil n0
  have pre0 : ∀ t, Steps p.tables e below (s₁.setTop (mkF m 0 #[.val (.ref o0)] [])) t → Steps p.tables e below (s₁.setTop (entryFrame m #[(.ref o0)] 1)) t := fun t k => castTop (ef_2 m o0) k
  obtain ⟨T1, X1, e1, st1⟩ := initO X0 hx hZ hown (hw _ (List.mem_of_getElem? (i := 15) rfl)) (hw _ (List.mem_of_getElem? (i := 16) rfl)) (hw _ (List.mem_of_getElem? (i := 17) rfl)) e0 (g := (mkF m 1 #[.val (.ref o0)] [(.ref o0)])) rfl (by rw [hml]; rfl) rfl (hb hby d2_1) (by decide) (W := 0) (by show 2 * 0 + _ ≤ _; exact Nat.le_of_eq rfl) (by decide)
  obtain ⟨fs, hr, hrun, hended, hW, hsame⟩ := X1.leave (v := none) (fun _ => rfl) hlk
  refine ⟨_, _, pre0 _ ?_, hrun, hended, _, _, rfl, ?_, ⟨_, rfl⟩, hW, hsame.mono (by decide) (by decide)⟩
  · skip
    show Steps p.tables e below (s₁.setTop (mkF m 0 #[.val (.ref o0)] [])) _
    refine XS.aloadN X0.here hx rfl (hb hby d2_0) rfl rfl ?_
    show Steps p.tables e below (s₁.setTop (mkF m 1 #[.val (.ref o0)] [(.ref o0)])) _
    refine st1 _ ?_
    show Steps p.tables e below (T1.setTop (mkF m 4 #[.val (.ref o0)] [])) _
    exact X1.returnOut hx Bd.returns (hb hby d2_4) hr
  · skip
    show Q2 Z o0 h0 n0 _ T1.heap _
    rw [e1]
    exact ⟨N0, rfl, rfl⟩
theorem pd___V : parseMethodDescriptor "()V" = some ⟨[], none⟩ := by decide +kernel
theorem d1_0 : decode prog_26_method_1_code 0 = .ok (.aload_n 0, 1) := by decide +kernel
theorem d1_1 : decode prog_26_method_1_code 1 = .ok (.invokespecial 1, 3) := by decide +kernel
theorem d1_4 : decode prog_26_method_1_code 4 = .ok (.dload_n 2, 1) := by decide +kernel
theorem d1_5 : decode prog_26_method_1_code 5 = .ok (.dconst 0, 1) := by decide +kernel
theorem d1_6 : decode prog_26_method_1_code 6 = .ok (.dcmp .l, 1) := by decide +kernel
theorem d1_7 : decode prog_26_method_1_code 7 = .ok (.ifCond .ge 17, 3) := by decide +kernel
theorem d1_24 : decode prog_26_method_1_code 24 = .ok (.iload 4, 2) := by decide +kernel
theorem d1_26 : decode prog_26_method_1_code 26 = .ok (.ifCond .ge 18, 3) := by decide +kernel
theorem d1_44 : decode prog_26_method_1_code 44 = .ok (.aload_n 0, 1) := by decide +kernel
theorem d1_45 : decode prog_26_method_1_code 45 = .ok (.iload_n 1, 1) := by decide +kernel
theorem d1_46 : decode prog_26_method_1_code 46 = .ok (.putfield 19, 3) := by decide +kernel
theorem d1_49 : decode prog_26_method_1_code 49 = .ok (.aload_n 0, 1) := by decide +kernel
theorem d1_50 : decode prog_26_method_1_code 50 = .ok (.dload_n 2, 1) := by decide +kernel
theorem d1_51 : decode prog_26_method_1_code 51 = .ok (.putfield 25, 3) := by decide +kernel
theorem d1_54 : decode prog_26_method_1_code 54 = .ok (.aload_n 0, 1) := by decide +kernel
theorem d1_55 : decode prog_26_method_1_code 55 = .ok (.iload 4, 2) := by decide +kernel
theorem d1_57 : decode prog_26_method_1_code 57 = .ok (.putfield 29, 3) := by decide +kernel
theorem d1_60 : decode prog_26_method_1_code 60 = .ok (.return_, 1) := by decide +kernel
theorem pn_com_example_gryphon_gryphon_engine_Stop : plainName "com/example/gryphon/gryphon/engine/Stop" = true := by first | (simp [plainName, overriddenIn]; done) | decide +kernel
theorem ef_1 (m : MethodId) (o0 : Addr) (p1 : Int32) (d2 : UInt64) (p3 : Int32) : entryFrame m #[(.ref o0), (.int p1), (.double d2), (.int p3)] 5 = mkF m 0 #[.val (.ref o0), .val (.int p1), .val (.double d2), .second, .val (.int p3)] [] := by first | (simp [entryFrame, mkF, argsToLocals, Value.category]; done) | rfl
def v1_1 (p1 : Int32) (d2 : UInt64) (p3 : Int32) : Int32 := (cmpValue (FP.dcmp d2 FP.dconst0) .l)
def Q1 (Z : State) (o0 : Addr) (p1 : Int32) (d2 : UInt64) (p3 : Int32) (u0_whenUnchanged : Value) (u1_tolerance : Value) (u2_maxIterations : Value) (h0 : Heap) (n0 : Nat) (v : Option Value) (h : Heap) (L : List Loc) : Prop := Fr n0 L ∧ v = none ∧ Keep h0 h [o0] ∧ Exa Z h o0 "com/example/gryphon/gryphon/engine/Stop" ∧ Fld Z h o0 "com/example/gryphon/gryphon/engine/Stop" "whenUnchanged" "Z" (.int (nar .boolean p1)) ∧ Fld Z h o0 "com/example/gryphon/gryphon/engine/Stop" "tolerance" "D" (.double d2) ∧ Fld Z h o0 "com/example/gryphon/gryphon/engine/Stop" "maxIterations" "I" (.int p3)
set_option maxRecDepth 65536 in
set_option maxHeartbeats 40000000 in
theorem rm1 (l : Launch) (Z : State) (a0 : Array Value) (hw : ∀ d ∈ tables_1, d.before a0 Z = true) (ws : List Jvm.Cond) (o0 : Addr) (p1 : Int32) (d2 : UInt64) (p3 : Int32) (u0_whenUnchanged : Value) (u1_tolerance : Value) (u2_maxIterations : Value) (h0 : Heap) (n0 : Nat) (Z0 : n0 ≤ h0.size) (hy0 : ¬ ((v1_1 p1 d2 p3) < (0 : Int32))) (hy1 : ¬ (p3 < (0 : Int32))) (E_o0 : Exa Z h0 o0 "com/example/gryphon/gryphon/engine/Stop") (F_whenUnchanged_o0 : Fld Z h0 o0 "com/example/gryphon/gryphon/engine/Stop" "whenUnchanged" "Z" u0_whenUnchanged) (g_o0 : n0 ≤ o0) (F_tolerance_o0 : Fld Z h0 o0 "com/example/gryphon/gryphon/engine/Stop" "tolerance" "D" u1_tolerance) (F_maxIterations_o0 : Fld Z h0 o0 "com/example/gryphon/gryphon/engine/Stop" "maxIterations" "I" u2_maxIterations) :
    MetFree l (⟨"com/example/gryphon/gryphon/engine/Stop", "<init>", "(ZDI)V"⟩ : MethodName) (head1 (Jvm.Cond.code (⟨"com/example/gryphon/gryphon/engine/Stop", "<init>", "(ZDI)V"⟩ : MethodName) prog_26_method_1_code 5 none :: ws) ({ frames := 2, cells := 0, slots := 0, locals := 24 } : Room)) (fun a U => a = #[(.ref o0), (.int p1), (.double d2), (.int p3)] ∧ Z.Warmed39 U.vm ∧ U.heap = h0) (fun _ _ _ _ _ => True) (fun _ U o U' => ∃ v L, o = .returned v ∧ Q1 Z o0 p1 d2 p3 u0_whenUnchanged u1_tolerance u2_maxIterations h0 n0 v U'.heap L ∧ FrameEnd U o U' L ({ frames := 2, cells := 0, slots := 0, locals := 24 } : Room).cells ({ frames := 2, cells := 0, slots := 0, locals := 24 } : Room).slots) := by
  refine MetFree.of_bodySF (plainFor_of_name pn_com_example_gryphon_gryphon_engine_Stop) hisR ?_
  intro p e s m args below meth c s₁ Bd hml0 hP hK
  obtain ⟨rfl, hZ, hh⟩ := hP
  have hx := Bd.exec
  have hby := Bd.bytes
  have hml : c.maxLocals = 5 := hml0
  have hown : s.vm.findClass "com/example/gryphon/gryphon/engine/Stop" = some m.cls := findClass_of_methodNamed Bd.named
  have hnm := (name_of_methodNamed Bd.named Bd.method).1
  have hlk := BodyLoose.notSynchronized Bd
  have X0 : Stand p l e ({ frames := 2, cells := 0, slots := 0, locals := 24 } : Room) s m #[(.ref o0), (.int p1), (.double d2), (.int p3)] below meth c s₁ [] 0 0 := Stand.of_body Bd
  have e0 : s₁.heap = h0 := by rw [← hh, Bd.state]; rfl
  have N0 := Fr.nil n0
  have pre0 : ∀ t, Steps p.tables e below (s₁.setTop (mkF m 0 #[.val (.ref o0), .val (.int p1), .val (.double d2), .second, .val (.int p3)] [])) t → Steps p.tables e below (s₁.setTop (entryFrame m #[(.ref o0), (.int p1), (.double d2), (.int p3)] 5)) t := fun t k => castTop (ef_1 m o0 p1 d2 p3) k
  obtain ⟨vr1, _, ⟨T1, L1, k1, n1⟩, -, X1, ⟨Lc1, hQ1, l1, y1, z1⟩, st1⟩ := X0.specialBack hx (y := (⟨"java/lang/Record", "<init>", "()V"⟩ : MethodName)) rfl hown (mvT hZ (hw _ (List.mem_of_getElem? (i := 10) rfl))) (mvT hZ (hw _ (List.mem_of_getElem? (i := 11) rfl))) (mvT hZ (hw _ (List.mem_of_getElem? (i := 14) rfl))) (by decide) (backOf (W := 0) (rm2 l Z a0 hw [] o0 h0 n0 Z0) hZ (hw _ (List.mem_of_getElem? (i := 14) rfl)) (hw _ (List.mem_of_getElem? (i := 13) rfl)) (by decide) (by decide)) (g := (mkF m 1 #[.val (.ref o0), .val (.int p1), .val (.double d2), .second, .val (.int p3)] [(.ref o0)])) rfl (by rw [hml]; rfl) (Steps.refl _) (a := o0) (argsL := []) (rest := []) (lenOf pd___V rfl) rfl (by show 2 * 0 + _ ≤ _; exact Nat.le_of_eq rfl) (hb hby d1_1) (fun _ _ => ⟨rfl, e0, (by decide : 0 + 0 ≤ _), (by decide : 0 + 0 ≤ _)⟩)
  dsimp only [Pt.U, Pt.locs, Pt.cells, Pt.slots] at X1 l1 y1 z1 st1 hQ1
  replace X1 := own_stand X1 l1 y1 z1
  clear l1 y1 z1
  have N1q := (show _ ∧ _ ∧ _ from hQ1).1
  have hv1 := (show _ ∧ _ ∧ _ from hQ1).2.1
  have e1 := (show _ ∧ _ ∧ _ from hQ1).2.2
  clear hQ1
  subst hv1
  have N1 := Fr.app N0 N1q
  obtain ⟨T2, h2, X2, e2, W2, st2⟩ := putFN X1 hx hZ hown (hw _ (List.mem_of_getElem? (i := 18) rfl)) Via.refl e1 F_whenUnchanged_o0 E_o0 (Or.inr ⟨(hw _ (List.mem_of_getElem? (i := 19) rfl)), rfl, hnm⟩) (hw _ (List.mem_of_getElem? (i := 5) rfl)) (ty := .boolean) (v' := (.int (nar .boolean p1))) (by decide) rfl (fits_nar_bool p1) (g := (mkF m 46 #[.val (.ref o0), .val (.int p1), .val (.double d2), .second, .val (.int p3)] [(.int p1), (.ref o0)])) rfl rfl (hb hby d1_46)
  have Fw2 := F_whenUnchanged_o0.same W2
  have N2 := Fr.snoc X2 N1 g_o0
  have z3 : n0 ≤ h2.size := Nat.le_trans Z0 (Keep.of_wr W2).1
  have hs4 : h0.size ≤ h2.size := Nat.le_trans (Nat.le_refl h0.size) (Keep.of_wr W2).1
  have k5 := (F_tolerance_o0.other W2 (Or.inr (slot_ne (Or.inr (hw _ (List.mem_of_getElem? (i := 21) rfl))) (Or.inr (hw _ (List.mem_of_getElem? (i := 19) rfl))) (by decide) (t := .double) (t' := .boolean) (by decide) (by decide))))
  have k6 := (E_o0.wr W2)
  obtain ⟨T7, h7, X7, e7, W7, st7⟩ := putF X2 hx hZ hown (host := "") (Or.inl (hw _ (List.mem_of_getElem? (i := 20) rfl))) Via.refl e2 k5 k6 (Or.inr ⟨(hw _ (List.mem_of_getElem? (i := 21) rfl)), rfl, hnm⟩) (hw _ (List.mem_of_getElem? (i := 5) rfl)) (ty := .double) (by decide) rfl rfl (g := (mkF m 51 #[.val (.ref o0), .val (.int p1), .val (.double d2), .second, .val (.int p3)] [(.double d2), (.ref o0)])) rfl rfl (hb hby d1_51)
  have Fw7 := k5.same W7
  have N7 := Fr.snoc X7 N2 g_o0
  have z8 : n0 ≤ h7.size := Nat.le_trans z3 (Keep.of_wr W7).1
  have hs9 : h0.size ≤ h7.size := Nat.le_trans hs4 (Keep.of_wr W7).1
  have k10 := ((F_maxIterations_o0.other W2 (Or.inr (slot_ne (Or.inr (hw _ (List.mem_of_getElem? (i := 23) rfl))) (Or.inr (hw _ (List.mem_of_getElem? (i := 19) rfl))) (by decide) (t := .int) (t' := .boolean) (by decide) (by decide)))).other W7 (Or.inr (slot_ne (Or.inr (hw _ (List.mem_of_getElem? (i := 23) rfl))) (Or.inr (hw _ (List.mem_of_getElem? (i := 21) rfl))) (by decide) (t := .int) (t' := .double) (by decide) (by decide))))
  have k11 := (k6.wr W7)
  obtain ⟨T12, h12, X12, e12, W12, st12⟩ := putF X7 hx hZ hown (host := "") (Or.inl (hw _ (List.mem_of_getElem? (i := 22) rfl))) Via.refl e7 k10 k11 (Or.inr ⟨(hw _ (List.mem_of_getElem? (i := 23) rfl)), rfl, hnm⟩) (hw _ (List.mem_of_getElem? (i := 5) rfl)) (ty := .int) (by decide) rfl rfl (g := (mkF m 57 #[.val (.ref o0), .val (.int p1), .val (.double d2), .second, .val (.int p3)] [(.int p3), (.ref o0)])) rfl rfl (hb hby d1_57)
  have Fw12 := k10.same W12
  have N12 := Fr.snoc X12 N7 g_o0
  have z13 : n0 ≤ h12.size := Nat.le_trans z8 (Keep.of_wr W12).1
  have hs14 : h0.size ≤ h12.size := Nat.le_trans hs9 (Keep.of_wr W12).1
  obtain ⟨fs, hr, hrun, hended, hW, hsame⟩ := X12.leave (v := none) (fun _ => rfl) hlk
  refine ⟨_, _, pre0 _ ?_, hrun, hended, _, _, rfl, ?_, ⟨_, rfl⟩, hW, hsame.mono (by decide) (by decide)⟩
  · skip
    show Steps p.tables e below (s₁.setTop (mkF m 0 #[.val (.ref o0), .val (.int p1), .val (.double d2), .second, .val (.int p3)] [])) _
    refine XS.aloadN X0.here hx rfl (hb hby d1_0) rfl rfl ?_
    show Steps p.tables e below (s₁.setTop (mkF m 1 #[.val (.ref o0), .val (.int p1), .val (.double d2), .second, .val (.int p3)] [(.ref o0)])) _
    refine st1.trans ?_
    show Steps p.tables e below (T1.setTop (mkF m 4 #[.val (.ref o0), .val (.int p1), .val (.double d2), .second, .val (.int p3)] [])) _
    refine XS.dloadN X1.here hx rfl (hb hby d1_4) rfl ?_
    show Steps p.tables e below (T1.setTop (mkF m 5 #[.val (.ref o0), .val (.int p1), .val (.double d2), .second, .val (.int p3)] [(.double d2)])) _
    refine XS.dconst0 X1.here hx rfl (hb hby d1_5) rfl ?_
    show Steps p.tables e below (T1.setTop (mkF m 6 #[.val (.ref o0), .val (.int p1), .val (.double d2), .second, .val (.int p3)] [(.double FP.dconst0), (.double d2)])) _
    refine XS.dcmpS X1.here hx rfl (hb hby d1_6) rfl rfl ?_
    show Steps p.tables e below (T1.setTop (mkF m 7 #[.val (.ref o0), .val (.int p1), .val (.double d2), .second, .val (.int p3)] [(.int (cmpValue (FP.dcmp d2 FP.dconst0) .l))])) _
    refine XS.ifYes X1.here hx rfl (pc0 := 7) (pc' := 24) rfl (hb hby d1_7) rfl (XT.i0_ge_t hy0) (by decide) (by decide) ?_
    show Steps p.tables e below (T1.setTop (mkF m 24 #[.val (.ref o0), .val (.int p1), .val (.double d2), .second, .val (.int p3)] [])) _
    refine XS.iload X1.here hx rfl (hb hby d1_24) rfl ?_
    show Steps p.tables e below (T1.setTop (mkF m 26 #[.val (.ref o0), .val (.int p1), .val (.double d2), .second, .val (.int p3)] [(.int p3)])) _
    refine XS.ifYes X1.here hx rfl (pc0 := 26) (pc' := 44) rfl (hb hby d1_26) rfl (XT.i0_ge_t hy1) (by decide) (by decide) ?_
    show Steps p.tables e below (T1.setTop (mkF m 44 #[.val (.ref o0), .val (.int p1), .val (.double d2), .second, .val (.int p3)] [])) _
    refine XS.aloadN X1.here hx rfl (hb hby d1_44) rfl rfl ?_
    show Steps p.tables e below (T1.setTop (mkF m 45 #[.val (.ref o0), .val (.int p1), .val (.double d2), .second, .val (.int p3)] [(.ref o0)])) _
    refine XS.iloadN X1.here hx rfl (hb hby d1_45) rfl ?_
    show Steps p.tables e below (T1.setTop (mkF m 46 #[.val (.ref o0), .val (.int p1), .val (.double d2), .second, .val (.int p3)] [(.int p1), (.ref o0)])) _
    refine st2 _ ?_
    show Steps p.tables e below (T2.setTop (mkF m 49 #[.val (.ref o0), .val (.int p1), .val (.double d2), .second, .val (.int p3)] [])) _
    refine XS.aloadN X2.here hx rfl (hb hby d1_49) rfl rfl ?_
    show Steps p.tables e below (T2.setTop (mkF m 50 #[.val (.ref o0), .val (.int p1), .val (.double d2), .second, .val (.int p3)] [(.ref o0)])) _
    refine XS.dloadN X2.here hx rfl (hb hby d1_50) rfl ?_
    show Steps p.tables e below (T2.setTop (mkF m 51 #[.val (.ref o0), .val (.int p1), .val (.double d2), .second, .val (.int p3)] [(.double d2), (.ref o0)])) _
    refine st7 _ ?_
    show Steps p.tables e below (T7.setTop (mkF m 54 #[.val (.ref o0), .val (.int p1), .val (.double d2), .second, .val (.int p3)] [])) _
    refine XS.aloadN X7.here hx rfl (hb hby d1_54) rfl rfl ?_
    show Steps p.tables e below (T7.setTop (mkF m 55 #[.val (.ref o0), .val (.int p1), .val (.double d2), .second, .val (.int p3)] [(.ref o0)])) _
    refine XS.iload X7.here hx rfl (hb hby d1_55) rfl ?_
    show Steps p.tables e below (T7.setTop (mkF m 57 #[.val (.ref o0), .val (.int p1), .val (.double d2), .second, .val (.int p3)] [(.int p3), (.ref o0)])) _
    refine st12 _ ?_
    show Steps p.tables e below (T12.setTop (mkF m 60 #[.val (.ref o0), .val (.int p1), .val (.double d2), .second, .val (.int p3)] [])) _
    exact X12.returnOut hx Bd.returns (hb hby d1_60) hr
  · skip
    show Q1 Z o0 p1 d2 p3 u0_whenUnchanged u1_tolerance u2_maxIterations h0 n0 _ T12.heap _
    rw [e12]
    have k15 := (k11.wr W12)
    have k16 := ((Fw2.other W7 (Or.inr (slot_ne (Or.inr (hw _ (List.mem_of_getElem? (i := 19) rfl))) (Or.inr (hw _ (List.mem_of_getElem? (i := 21) rfl))) (by decide) (t := .boolean) (t' := .double) (by decide) (by decide)))).other W12 (Or.inr (slot_ne (Or.inr (hw _ (List.mem_of_getElem? (i := 19) rfl))) (Or.inr (hw _ (List.mem_of_getElem? (i := 23) rfl))) (by decide) (t := .boolean) (t' := .int) (by decide) (by decide))))
    have k17 := (Fw7.other W12 (Or.inr (slot_ne (Or.inr (hw _ (List.mem_of_getElem? (i := 21) rfl))) (Or.inr (hw _ (List.mem_of_getElem? (i := 23) rfl))) (by decide) (t := .double) (t' := .int) (by decide) (by decide))))
    exact ⟨N12, rfl, ((((Keep.refl h0 [o0]).wr W2 (Or.inl (List.mem_of_getElem? (i := 0) rfl))).wr W7 (Or.inl (List.mem_of_getElem? (i := 0) rfl))).wr W12 (Or.inl (List.mem_of_getElem? (i := 0) rfl))), k15, k16, k17, Fw12⟩
theorem d4_0 : decode prog_26_method_5_code 0 = .ok (.aload_n 0, 1) := by decide +kernel
theorem d4_1 : decode prog_26_method_5_code 1 = .ok (.getfield 19, 3) := by decide +kernel
theorem d4_4 : decode prog_26_method_5_code 4 = .ok (.ifCond .eq 7, 3) := by decide +kernel
theorem d4_7 : decode prog_26_method_5_code 7 = .ok (.iload_n 1, 1) := by decide +kernel
theorem d4_8 : decode prog_26_method_5_code 8 = .ok (.ifCond .eq 12, 3) := by decide +kernel
theorem d4_11 : decode prog_26_method_5_code 11 = .ok (.dload_n 2, 1) := by decide +kernel
theorem d4_12 : decode prog_26_method_5_code 12 = .ok (.aload_n 0, 1) := by decide +kernel
theorem d4_13 : decode prog_26_method_5_code 13 = .ok (.getfield 25, 3) := by decide +kernel
theorem d4_16 : decode prog_26_method_5_code 16 = .ok (.dcmp .g, 1) := by decide +kernel
theorem d4_17 : decode prog_26_method_5_code 17 = .ok (.ifCond .ge 7, 3) := by decide +kernel
theorem d4_20 : decode prog_26_method_5_code 20 = .ok (.iconst 1, 1) := by decide +kernel
theorem d4_21 : decode prog_26_method_5_code 21 = .ok (.goto 4, 3) := by decide +kernel
theorem d4_24 : decode prog_26_method_5_code 24 = .ok (.iconst 0, 1) := by decide +kernel
theorem d4_25 : decode prog_26_method_5_code 25 = .ok (.ireturn, 1) := by decide +kernel
theorem ef_4 (m : MethodId) (o0 : Addr) (p1 : Int32) (d2 : UInt64) : entryFrame m #[(.ref o0), (.int p1), (.double d2)] 4 = mkF m 0 #[.val (.ref o0), .val (.int p1), .val (.double d2), .second] [] := by first | (simp [entryFrame, mkF, argsToLocals, Value.category]; done) | rfl
def v4_1 (p1 : Int32) (d2 : UInt64) (w0_whenUnchanged : Int32) (w1_tolerance : UInt64) (w2_tolerance : UInt64) : Int32 := (cmpValue (FP.dcmp d2 w2_tolerance) .g)
def v4_2 (p1 : Int32) (d2 : UInt64) (w0_whenUnchanged : Int32) (w1_tolerance : UInt64) (w2_tolerance : UInt64) : Int32 := (cmpValue (FP.dcmp d2 w2_tolerance) .g)
def v4_3 (p1 : Int32) (d2 : UInt64) (w0_whenUnchanged : Int32) (w1_tolerance : UInt64) (w2_tolerance : UInt64) : Int32 := (if w0_whenUnchanged = (0 : Int32) then (if (v4_1 p1 d2 w0_whenUnchanged w1_tolerance w2_tolerance) < (0 : Int32) then (1 : Int32) else (0 : Int32)) else (if p1 = (0 : Int32) then (1 : Int32) else (if (v4_2 p1 d2 w0_whenUnchanged w1_tolerance w2_tolerance) < (0 : Int32) then (1 : Int32) else (0 : Int32))))
def f4 (p1 : Int32) (d2 : UInt64) (w0_whenUnchanged : Int32) (w1_tolerance : UInt64) (w2_tolerance : UInt64) : Int32 := (nar .boolean (v4_3 p1 d2 w0_whenUnchanged w1_tolerance w2_tolerance))
def Q4 (Z : State) (o0 : Addr) (p1 : Int32) (d2 : UInt64) (w0_whenUnchanged : Int32) (w1_tolerance : UInt64) (w2_tolerance : UInt64) (h0 : Heap) (n0 : Nat) (v : Option Value) (h : Heap) (L : List Loc) : Prop := Fr n0 L ∧ v = some (.int (f4 p1 d2 w0_whenUnchanged w1_tolerance w2_tolerance)) ∧ h = h0
set_option maxRecDepth 65536 in
set_option maxHeartbeats 40000000 in
theorem rm4 (l : Launch) (Z : State) (a0 : Array Value) (hw : ∀ d ∈ tables_1, d.before a0 Z = true) (ws : List Jvm.Cond) (o0 : Addr) (p1 : Int32) (d2 : UInt64) (w0_whenUnchanged : Int32) (w1_tolerance : UInt64) (w2_tolerance : UInt64) (h0 : Heap) (n0 : Nat) (Z0 : n0 ≤ h0.size) (F_whenUnchanged_o0 : Fld Z h0 o0 "com/example/gryphon/gryphon/engine/Stop" "whenUnchanged" "Z" (.int w0_whenUnchanged)) (F_tolerance_o0 : Fld Z h0 o0 "com/example/gryphon/gryphon/engine/Stop" "tolerance" "D" (.double w1_tolerance)) (F_tolerance_o0 : Fld Z h0 o0 "com/example/gryphon/gryphon/engine/Stop" "tolerance" "D" (.double w2_tolerance)) :
    MetFree l (⟨"com/example/gryphon/gryphon/engine/Stop", "met", "(ID)Z"⟩ : MethodName) (head1 (Jvm.Cond.code (⟨"com/example/gryphon/gryphon/engine/Stop", "met", "(ID)Z"⟩ : MethodName) prog_26_method_5_code 4 (some .boolean) :: ws) ({ frames := 0, cells := 0, slots := 0, locals := 0 } : Room)) (fun a U => a = #[(.ref o0), (.int p1), (.double d2)] ∧ Z.Warmed39 U.vm ∧ U.heap = h0) (fun _ _ _ _ _ => True) (fun _ U o U' => ∃ v L, o = .returned v ∧ Q4 Z o0 p1 d2 w0_whenUnchanged w1_tolerance w2_tolerance h0 n0 v U'.heap L ∧ FrameEnd U o U' L ({ frames := 0, cells := 0, slots := 0, locals := 0 } : Room).cells ({ frames := 0, cells := 0, slots := 0, locals := 0 } : Room).slots) := by
  refine MetFree.of_bodySF (plainFor_of_name pn_com_example_gryphon_gryphon_engine_Stop) hisR ?_
  intro p e s m args below meth c s₁ Bd hml0 hP hK
  obtain ⟨rfl, hZ, hh⟩ := hP
  have hx := Bd.exec
  have hby := Bd.bytes
  have hml : c.maxLocals = 4 := hml0
  have hown : s.vm.findClass "com/example/gryphon/gryphon/engine/Stop" = some m.cls := findClass_of_methodNamed Bd.named
  have hnm := (name_of_methodNamed Bd.named Bd.method).1
  have hlk := BodyLoose.notSynchronized Bd
  have X0 : Stand p l e ({ frames := 0, cells := 0, slots := 0, locals := 0 } : Room) s m #[(.ref o0), (.int p1), (.double d2)] below meth c s₁ [] 0 0 := Stand.of_body Bd
  have e0 : s₁.heap = h0 := by rw [← hh, Bd.state]; rfl
  have N0 := Fr.nil n0
  have pre0 : ∀ t, Steps p.tables e below (s₁.setTop (mkF m 0 #[.val (.ref o0), .val (.int p1), .val (.double d2), .second] [])) t → Steps p.tables e below (s₁.setTop (entryFrame m #[(.ref o0), (.int p1), (.double d2)] 4)) t := fun t k => castTop (ef_4 m o0 p1 d2) k
  obtain ⟨T1, X1, e1, st1⟩ := getF X0 hx hZ hown (host := "") (Or.inl (hw _ (List.mem_of_getElem? (i := 18) rfl))) Via.refl e0 F_whenUnchanged_o0 (g := (mkF m 1 #[.val (.ref o0), .val (.int p1), .val (.double d2), .second] [(.ref o0)])) rfl rfl (hb hby d4_1)
  have pre2 : ∀ t, Steps p.tables e below (T1.setTop (mkF m 4 #[.val (.ref o0), .val (.int p1), .val (.double d2), .second] [(.int w0_whenUnchanged)])) t → Steps p.tables e below (s₁.setTop (entryFrame m #[(.ref o0), (.int p1), (.double d2)] 4)) t := by
    intro t k
    refine pre0 t ?_
    show Steps p.tables e below (s₁.setTop (mkF m 0 #[.val (.ref o0), .val (.int p1), .val (.double d2), .second] [])) _
    refine XS.aloadN X0.here hx rfl (hb hby d4_0) rfl rfl ?_
    show Steps p.tables e below (s₁.setTop (mkF m 1 #[.val (.ref o0), .val (.int p1), .val (.double d2), .second] [(.ref o0)])) _
    refine st1 _ ?_
    exact k
  clear pre0 st1
  obtain ⟨T12, L12, X12, e12, N12, pre12⟩ : ∃ (T' : State) (L' : List Loc), Stand p l e ({ frames := 0, cells := 0, slots := 0, locals := 0 } : Room) s m #[(.ref o0), (.int p1), (.double d2)] below meth c T' L' 0 0 ∧ T'.heap = h0 ∧ Fr n0 L' ∧ ∀ t, Steps p.tables e below (T'.setTop (mkF m 25 #[.val (.ref o0), .val (.int p1), .val (.double d2), .second] [(.int (v4_3 p1 d2 w0_whenUnchanged w1_tolerance w2_tolerance))])) t → Steps p.tables e below (s₁.setTop (entryFrame m #[(.ref o0), (.int p1), (.double d2)] 4)) t := by
    by_cases c3 : w0_whenUnchanged = (0 : Int32)
    · skip
      obtain ⟨T4, X4, e4, st4⟩ := getF X1 hx hZ hown (host := "") (Or.inl (hw _ (List.mem_of_getElem? (i := 20) rfl))) Via.refl e1 F_tolerance_o0 (g := (mkF m 13 #[.val (.ref o0), .val (.int p1), .val (.double d2), .second] [(.ref o0), (.double d2)])) rfl rfl (hb hby d4_13)
      have pre5 : ∀ t, Steps p.tables e below (T4.setTop (mkF m 17 #[.val (.ref o0), .val (.int p1), .val (.double d2), .second] [(.int (cmpValue (FP.dcmp d2 w2_tolerance) .g))])) t → Steps p.tables e below (s₁.setTop (entryFrame m #[(.ref o0), (.int p1), (.double d2)] 4)) t := by
        intro t k
        refine pre2 t ?_
        show Steps p.tables e below (T1.setTop (mkF m 4 #[.val (.ref o0), .val (.int p1), .val (.double d2), .second] [(.int w0_whenUnchanged)])) _
        refine XS.ifYes X1.here hx rfl (pc0 := 4) (pc' := 11) rfl (hb hby d4_4) rfl (XT.i0_eq_t c3) (by decide) (by decide) ?_
        show Steps p.tables e below (T1.setTop (mkF m 11 #[.val (.ref o0), .val (.int p1), .val (.double d2), .second] [])) _
        refine XS.dloadN X1.here hx rfl (hb hby d4_11) rfl ?_
        show Steps p.tables e below (T1.setTop (mkF m 12 #[.val (.ref o0), .val (.int p1), .val (.double d2), .second] [(.double d2)])) _
        refine XS.aloadN X1.here hx rfl (hb hby d4_12) rfl rfl ?_
        show Steps p.tables e below (T1.setTop (mkF m 13 #[.val (.ref o0), .val (.int p1), .val (.double d2), .second] [(.ref o0), (.double d2)])) _
        refine st4 _ ?_
        show Steps p.tables e below (T4.setTop (mkF m 16 #[.val (.ref o0), .val (.int p1), .val (.double d2), .second] [(.double w2_tolerance), (.double d2)])) _
        refine XS.dcmpS X4.here hx rfl (hb hby d4_16) rfl rfl ?_
        exact k
      clear pre2 st4
      by_cases c6 : (v4_1 p1 d2 w0_whenUnchanged w1_tolerance w2_tolerance) < (0 : Int32)
      · skip
        refine ⟨T4, _, X4, e4, N0, fun t k => ?_⟩
        rw [show (v4_3 p1 d2 w0_whenUnchanged w1_tolerance w2_tolerance) = (1 : Int32) from ((if_pos c3).trans (if_pos c6))] at k
        refine pre5 t ?_
        show Steps p.tables e below (T4.setTop (mkF m 17 #[.val (.ref o0), .val (.int p1), .val (.double d2), .second] [(.int (cmpValue (FP.dcmp d2 w2_tolerance) .g))])) _
        refine XS.ifNo X4.here hx rfl (hb hby d4_17) rfl (XT.i0_ge_f c6) ?_
        show Steps p.tables e below (T4.setTop (mkF m 20 #[.val (.ref o0), .val (.int p1), .val (.double d2), .second] [])) _
        refine XT.iconstV X4.here hx rfl (1 : Int32) (hb hby d4_20) (by decide) ?_
        show Steps p.tables e below (T4.setTop (mkF m 21 #[.val (.ref o0), .val (.int p1), .val (.double d2), .second] [(.int (1 : Int32))])) _
        refine XS.goto X4.here hx rfl (pc0 := 21) (pc' := 25) rfl (hb hby d4_21) (by decide) (by decide) ?_
        exact k
      · skip
        refine ⟨T4, _, X4, e4, N0, fun t k => ?_⟩
        rw [show (v4_3 p1 d2 w0_whenUnchanged w1_tolerance w2_tolerance) = (0 : Int32) from ((if_pos c3).trans (if_neg c6))] at k
        refine pre5 t ?_
        show Steps p.tables e below (T4.setTop (mkF m 17 #[.val (.ref o0), .val (.int p1), .val (.double d2), .second] [(.int (cmpValue (FP.dcmp d2 w2_tolerance) .g))])) _
        refine XS.ifYes X4.here hx rfl (pc0 := 17) (pc' := 24) rfl (hb hby d4_17) rfl (XT.i0_ge_t c6) (by decide) (by decide) ?_
        show Steps p.tables e below (T4.setTop (mkF m 24 #[.val (.ref o0), .val (.int p1), .val (.double d2), .second] [])) _
        refine XT.iconstV X4.here hx rfl (0 : Int32) (hb hby d4_24) (by decide) ?_
        exact k
    · skip
      have pre7 : ∀ t, Steps p.tables e below (T1.setTop (mkF m 8 #[.val (.ref o0), .val (.int p1), .val (.double d2), .second] [(.int p1)])) t → Steps p.tables e below (s₁.setTop (entryFrame m #[(.ref o0), (.int p1), (.double d2)] 4)) t := by
        intro t k
        refine pre2 t ?_
        show Steps p.tables e below (T1.setTop (mkF m 4 #[.val (.ref o0), .val (.int p1), .val (.double d2), .second] [(.int w0_whenUnchanged)])) _
        refine XS.ifNo X1.here hx rfl (hb hby d4_4) rfl (XT.i0_eq_f c3) ?_
        show Steps p.tables e below (T1.setTop (mkF m 7 #[.val (.ref o0), .val (.int p1), .val (.double d2), .second] [])) _
        refine XS.iloadN X1.here hx rfl (hb hby d4_7) rfl ?_
        exact k
      clear pre2
      by_cases c8 : p1 = (0 : Int32)
      · skip
        refine ⟨T1, _, X1, e1, N0, fun t k => ?_⟩
        rw [show (v4_3 p1 d2 w0_whenUnchanged w1_tolerance w2_tolerance) = (1 : Int32) from ((if_neg c3).trans (if_pos c8))] at k
        refine pre7 t ?_
        show Steps p.tables e below (T1.setTop (mkF m 8 #[.val (.ref o0), .val (.int p1), .val (.double d2), .second] [(.int p1)])) _
        refine XS.ifYes X1.here hx rfl (pc0 := 8) (pc' := 20) rfl (hb hby d4_8) rfl (XT.i0_eq_t c8) (by decide) (by decide) ?_
        show Steps p.tables e below (T1.setTop (mkF m 20 #[.val (.ref o0), .val (.int p1), .val (.double d2), .second] [])) _
        refine XT.iconstV X1.here hx rfl (1 : Int32) (hb hby d4_20) (by decide) ?_
        show Steps p.tables e below (T1.setTop (mkF m 21 #[.val (.ref o0), .val (.int p1), .val (.double d2), .second] [(.int (1 : Int32))])) _
        refine XS.goto X1.here hx rfl (pc0 := 21) (pc' := 25) rfl (hb hby d4_21) (by decide) (by decide) ?_
        exact k
      · skip
        obtain ⟨T9, X9, e9, st9⟩ := getF X1 hx hZ hown (host := "") (Or.inl (hw _ (List.mem_of_getElem? (i := 20) rfl))) Via.refl e1 F_tolerance_o0 (g := (mkF m 13 #[.val (.ref o0), .val (.int p1), .val (.double d2), .second] [(.ref o0), (.double d2)])) rfl rfl (hb hby d4_13)
        have pre10 : ∀ t, Steps p.tables e below (T9.setTop (mkF m 17 #[.val (.ref o0), .val (.int p1), .val (.double d2), .second] [(.int (cmpValue (FP.dcmp d2 w2_tolerance) .g))])) t → Steps p.tables e below (s₁.setTop (entryFrame m #[(.ref o0), (.int p1), (.double d2)] 4)) t := by
          intro t k
          refine pre7 t ?_
          show Steps p.tables e below (T1.setTop (mkF m 8 #[.val (.ref o0), .val (.int p1), .val (.double d2), .second] [(.int p1)])) _
          refine XS.ifNo X1.here hx rfl (hb hby d4_8) rfl (XT.i0_eq_f c8) ?_
          show Steps p.tables e below (T1.setTop (mkF m 11 #[.val (.ref o0), .val (.int p1), .val (.double d2), .second] [])) _
          refine XS.dloadN X1.here hx rfl (hb hby d4_11) rfl ?_
          show Steps p.tables e below (T1.setTop (mkF m 12 #[.val (.ref o0), .val (.int p1), .val (.double d2), .second] [(.double d2)])) _
          refine XS.aloadN X1.here hx rfl (hb hby d4_12) rfl rfl ?_
          show Steps p.tables e below (T1.setTop (mkF m 13 #[.val (.ref o0), .val (.int p1), .val (.double d2), .second] [(.ref o0), (.double d2)])) _
          refine st9 _ ?_
          show Steps p.tables e below (T9.setTop (mkF m 16 #[.val (.ref o0), .val (.int p1), .val (.double d2), .second] [(.double w2_tolerance), (.double d2)])) _
          refine XS.dcmpS X9.here hx rfl (hb hby d4_16) rfl rfl ?_
          exact k
        clear pre7 st9
        by_cases c11 : (v4_2 p1 d2 w0_whenUnchanged w1_tolerance w2_tolerance) < (0 : Int32)
        · skip
          refine ⟨T9, _, X9, e9, N0, fun t k => ?_⟩
          rw [show (v4_3 p1 d2 w0_whenUnchanged w1_tolerance w2_tolerance) = (1 : Int32) from (((if_neg c3).trans (if_neg c8)).trans (if_pos c11))] at k
          refine pre10 t ?_
          show Steps p.tables e below (T9.setTop (mkF m 17 #[.val (.ref o0), .val (.int p1), .val (.double d2), .second] [(.int (cmpValue (FP.dcmp d2 w2_tolerance) .g))])) _
          refine XS.ifNo X9.here hx rfl (hb hby d4_17) rfl (XT.i0_ge_f c11) ?_
          show Steps p.tables e below (T9.setTop (mkF m 20 #[.val (.ref o0), .val (.int p1), .val (.double d2), .second] [])) _
          refine XT.iconstV X9.here hx rfl (1 : Int32) (hb hby d4_20) (by decide) ?_
          show Steps p.tables e below (T9.setTop (mkF m 21 #[.val (.ref o0), .val (.int p1), .val (.double d2), .second] [(.int (1 : Int32))])) _
          refine XS.goto X9.here hx rfl (pc0 := 21) (pc' := 25) rfl (hb hby d4_21) (by decide) (by decide) ?_
          exact k
        · skip
          refine ⟨T9, _, X9, e9, N0, fun t k => ?_⟩
          rw [show (v4_3 p1 d2 w0_whenUnchanged w1_tolerance w2_tolerance) = (0 : Int32) from (((if_neg c3).trans (if_neg c8)).trans (if_neg c11))] at k
          refine pre10 t ?_
          show Steps p.tables e below (T9.setTop (mkF m 17 #[.val (.ref o0), .val (.int p1), .val (.double d2), .second] [(.int (cmpValue (FP.dcmp d2 w2_tolerance) .g))])) _
          refine XS.ifYes X9.here hx rfl (pc0 := 17) (pc' := 24) rfl (hb hby d4_17) rfl (XT.i0_ge_t c11) (by decide) (by decide) ?_
          show Steps p.tables e below (T9.setTop (mkF m 24 #[.val (.ref o0), .val (.int p1), .val (.double d2), .second] [])) _
          refine XT.iconstV X9.here hx rfl (0 : Int32) (hb hby d4_24) (by decide) ?_
          exact k
  obtain ⟨fs, hr, hrun, hended, hW, hsame⟩ := X12.leave (v := some (.int (nar .boolean (v4_3 p1 d2 w0_whenUnchanged w1_tolerance w2_tolerance)))) (fun h => by rw [Bd.returns] at h; cases h) hlk
  refine ⟨_, _, pre12 _ ?_, hrun, hended, _, _, rfl, ?_, ⟨_, rfl⟩, hW, hsame.mono (by decide) (by decide)⟩
  · skip
    show Steps p.tables e below (T12.setTop (mkF m 25 #[.val (.ref o0), .val (.int p1), .val (.double d2), .second] [(.int (v4_3 p1 d2 w0_whenUnchanged w1_tolerance w2_tolerance))])) _
    exact retN X12 hx (t := .boolean) Bd.returns (by simp) (hb hby d4_25) hr
  · skip
    show Q4 Z o0 p1 d2 w0_whenUnchanged w1_tolerance w2_tolerance h0 n0 _ T12.heap _
    rw [e12]
    exact ⟨N12, rfl, rfl⟩
theorem pd__ZDI_V : parseMethodDescriptor "(ZDI)V" = some ⟨[.boolean, .double, .int], none⟩ := by decide +kernel
theorem pd__ID_Z : parseMethodDescriptor "(ID)Z" = some ⟨[.int, .double], some .boolean⟩ := by decide +kernel
theorem pn_com_example_gryphon_gryphon_engine_StopMetPinLaw : plainName "com/example/gryphon/gryphon/engine/StopMetPinLaw" = true := by first | (simp [plainName, overriddenIn]; done) | decide +kernel
theorem ef_0 (m : MethodId) (p0 : Int32) (p1 : Int32) (p2 : Int32) (p3 : Int32) (p4 : Int32) : entryFrame m #[(.int p0), (.int p1), (.int p2), (.int p3), (.int p4)] maxLocals = mkF m 0 #[.val (.int p0), .val (.int p1), .val (.int p2), .val (.int p3), .val (.int p4), .unset, .unset, .unset, .unset, .unset, .unset, .unset, .unset, .unset, .unset, .unset] [] := by first | (simp [entryFrame, mkF, argsToLocals, Value.category, maxLocals]; done) | rfl
def v0_1 (p0 : Int32) (p1 : Int32) (p2 : Int32) (p3 : Int32) (p4 : Int32) : Int32 := (p0 &&& (1 : Int32))
def v0_2 (p0 : Int32) (p1 : Int32) (p2 : Int32) (p3 : Int32) (p4 : Int32) : Int32 := (if (v0_1 p0 p1 p2 p3 p4) = (0 : Int32) then (0 : Int32) else (1 : Int32))
def v0_3 (p0 : Int32) (p1 : Int32) (p2 : Int32) (p3 : Int32) (p4 : Int32) : Int32 := (p0 &&& (2 : Int32))
def v0_4 (p0 : Int32) (p1 : Int32) (p2 : Int32) (p3 : Int32) (p4 : Int32) : Int32 := (if (v0_3 p0 p1 p2 p3 p4) = (0 : Int32) then (0 : Int32) else (1 : Int32))
def v0_5 (p0 : Int32) (p1 : Int32) (p2 : Int32) (p3 : Int32) (p4 : Int32) : Int32 := (p0 &&& (4 : Int32))
def v0_6 (p0 : Int32) (p1 : Int32) (p2 : Int32) (p3 : Int32) (p4 : Int32) : Int32 := (if (v0_5 p0 p1 p2 p3 p4) = (0 : Int32) then (0 : Int32) else (1 : Int32))
def v0_7 (p0 : Int32) (p1 : Int32) (p2 : Int32) (p3 : Int32) (p4 : Int32) : Int32 := (if (v0_4 p0 p1 p2 p3 p4) = (0 : Int32) then p2 else (0 : Int32))
def v0_8 (p0 : Int32) (p1 : Int32) (p2 : Int32) (p3 : Int32) (p4 : Int32) : UInt64 := (4616189618054758400 : UInt64)
def v0_9 (p0 : Int32) (p1 : Int32) (p2 : Int32) (p3 : Int32) (p4 : Int32) : UInt64 := (FP.i2d (p1 &&& (65535 : Int32)))
def v0_10 (p0 : Int32) (p1 : Int32) (p2 : Int32) (p3 : Int32) (p4 : Int32) : UInt64 := (FP.ddiv (v0_9 p0 p1 p2 p3 p4) (v0_8 p0 p1 p2 p3 p4))
def v0_11 (p0 : Int32) (p1 : Int32) (p2 : Int32) (p3 : Int32) (p4 : Int32) : UInt64 := (4616189618054758400 : UInt64)
def v0_12 (p0 : Int32) (p1 : Int32) (p2 : Int32) (p3 : Int32) (p4 : Int32) : UInt64 := (FP.i2d (p3 &&& (131071 : Int32)))
def v0_13 (p0 : Int32) (p1 : Int32) (p2 : Int32) (p3 : Int32) (p4 : Int32) : UInt64 := (if (v0_6 p0 p1 p2 p3 p4) = (0 : Int32) then (FP.ddiv (v0_12 p0 p1 p2 p3 p4) (v0_11 p0 p1 p2 p3 p4)) else (v0_10 p0 p1 p2 p3 p4))
def v0_14 (p0 : Int32) (p1 : Int32) (p2 : Int32) (p3 : Int32) (p4 : Int32) : Int32 := (p4 &&& (2147483647 : Int32))
def v0_15 (p0 : Int32) (p1 : Int32) (p2 : Int32) (p3 : Int32) (p4 : Int32) : Int32 := (cmpValue (FP.dcmp (v0_10 p0 p1 p2 p3 p4) FP.dconst0) .l)
def v0_16 (p0 : Int32) (p1 : Int32) (p2 : Int32) (p3 : Int32) (p4 : Int32) : Int32 := (cmpValue (FP.dcmp (v0_13 p0 p1 p2 p3 p4) (v0_10 p0 p1 p2 p3 p4)) .l)
def v0_17 (p0 : Int32) (p1 : Int32) (p2 : Int32) (p3 : Int32) (p4 : Int32) : Int32 := (cmpValue (FP.dcmp (v0_13 p0 p1 p2 p3 p4) (v0_10 p0 p1 p2 p3 p4)) .g)
def v0_18 (p0 : Int32) (p1 : Int32) (p2 : Int32) (p3 : Int32) (p4 : Int32) : Int32 := (if (v0_17 p0 p1 p2 p3 p4) < (0 : Int32) then (1 : Int32) else (0 : Int32))
def v0_19 (p0 : Int32) (p1 : Int32) (p2 : Int32) (p3 : Int32) (p4 : Int32) : Int32 := (cmpValue (FP.dcmp (v0_10 p0 p1 p2 p3 p4) FP.dconst0) .l)
def v0_20 (p0 : Int32) (p1 : Int32) (p2 : Int32) (p3 : Int32) (p4 : Int32) : Int32 := (cmpValue (FP.dcmp (v0_13 p0 p1 p2 p3 p4) (v0_10 p0 p1 p2 p3 p4)) .l)
def v0_21 (p0 : Int32) (p1 : Int32) (p2 : Int32) (p3 : Int32) (p4 : Int32) : Int32 := (cmpValue (FP.dcmp (v0_13 p0 p1 p2 p3 p4) (v0_10 p0 p1 p2 p3 p4)) .g)
def v0_22 (p0 : Int32) (p1 : Int32) (p2 : Int32) (p3 : Int32) (p4 : Int32) : Int32 := (if (v0_21 p0 p1 p2 p3 p4) < (0 : Int32) then (1 : Int32) else (0 : Int32))
def v0_23 (p0 : Int32) (p1 : Int32) (p2 : Int32) (p3 : Int32) (p4 : Int32) : Int32 := (if (v0_2 p0 p1 p2 p3 p4) = (0 : Int32) then (if (v0_15 p0 p1 p2 p3 p4) = (0 : Int32) then (0 : Int32) else (if (v0_16 p0 p1 p2 p3 p4) = (0 : Int32) then (0 : Int32) else (v0_18 p0 p1 p2 p3 p4))) else (if (v0_7 p0 p1 p2 p3 p4) = (0 : Int32) then (1 : Int32) else (if (v0_19 p0 p1 p2 p3 p4) = (0 : Int32) then (0 : Int32) else (if (v0_20 p0 p1 p2 p3 p4) = (0 : Int32) then (0 : Int32) else (v0_22 p0 p1 p2 p3 p4)))))
def v0_24 (p0 : Int32) (p1 : Int32) (p2 : Int32) (p3 : Int32) (p4 : Int32) : Int32 := (f4 (v0_7 p0 p1 p2 p3 p4) (v0_13 p0 p1 p2 p3 p4) (nar .boolean (v0_2 p0 p1 p2 p3 p4)) (v0_10 p0 p1 p2 p3 p4) (v0_10 p0 p1 p2 p3 p4))
def v0_25 (p0 : Int32) (p1 : Int32) (p2 : Int32) (p3 : Int32) (p4 : Int32) : Int32 := (if (v0_24 p0 p1 p2 p3 p4) = (v0_23 p0 p1 p2 p3 p4) then (1 : Int32) else (0 : Int32))
theorem own_and (x m : Int32) (h : 0 ≤ m.toInt) : 0 ≤ (x &&& m).toInt := by
  have hh : ∀ u v : BitVec 32, 0 ≤ v.toInt → 0 ≤ (u &&& v).toInt := by
    intro u v hv
    have h1 : v.msb = false := by
      rw [BitVec.toInt_eq_msb_cond] at hv
      cases hm : v.msb
      · rfl
      · rw [hm, if_pos rfl] at hv; have := v.isLt; omega
    have h2 : (u &&& v).msb = false := by rw [BitVec.msb_and, h1, Bool.and_false]
    rw [BitVec.toInt_eq_msb_cond, h2]
    simp only [Bool.false_eq_true, if_false]
    omega
  exact hh x.toBitVec m.toBitVec h
theorem own_nn9 (p0 p1 p2 p3 p4 : Int32) : Jvm.Free.Fl.NoNaN64 (FP.ddiv (v0_9 p0 p1 p2 p3 p4) (v0_8 p0 p1 p2 p3 p4)) := own_nnq _ (own_and _ _ (by decide))
theorem own_nn12 (p0 p1 p2 p3 p4 : Int32) : Jvm.Free.Fl.NoNaN64 (FP.ddiv (v0_12 p0 p1 p2 p3 p4) (v0_11 p0 p1 p2 p3 p4)) := own_nnq _ (own_and _ _ (by decide))
theorem own_t (p0 p1 p2 p3 p4 : Int32) : FP.Core.val64 (v0_10 p0 p1 p2 p3 p4) ≠ .nan ∧ FP.Core.sgn (FP.Core.val64 (v0_10 p0 p1 p2 p3 p4)) = false := own_q _ (own_and _ _ (by decide))
theorem own_c (p0 p1 p2 p3 p4 : Int32) : FP.Core.val64 (v0_13 p0 p1 p2 p3 p4) ≠ .nan ∧ FP.Core.sgn (FP.Core.val64 (v0_13 p0 p1 p2 p3 p4)) = false := by
  unfold v0_13
  split
  · exact own_q _ (own_and _ _ (by decide))
  · exact own_t p0 p1 p2 p3 p4
theorem own_Hc (p0 p1 p2 p3 p4 : Int32) : ¬ ((v1_1 (v0_2 p0 p1 p2 p3 p4) (v0_10 p0 p1 p2 p3 p4) (v0_14 p0 p1 p2 p3 p4)) < (0 : Int32)) := own_ge _ (own_t p0 p1 p2 p3 p4).1 (own_t p0 p1 p2 p3 p4).2
theorem own_Hm (p0 p1 p2 p3 p4 : Int32) : ¬ ((v0_14 p0 p1 p2 p3 p4) < (0 : Int32)) := by
  have h := own_and p4 2147483647 (by decide)
  rw [Int32.lt_iff_toInt_lt]
  exact Int.not_lt.mpr h
theorem own_law (p0 p1 p2 p3 p4 : Int32) : v0_25 p0 p1 p2 p3 p4 = (1 : Int32) := by
  have h3 := own_three (v0_13 p0 p1 p2 p3 p4) (v0_10 p0 p1 p2 p3 p4) (own_c p0 p1 p2 p3 p4).1 (own_t p0 p1 p2 p3 p4).1 (own_c p0 p1 p2 p3 p4).2
  refine if_pos ?_
  have hw : v0_2 p0 p1 p2 p3 p4 = 0 ∨ v0_2 p0 p1 p2 p3 p4 = 1 := by
    unfold v0_2; split <;> simp
  unfold v0_24 v0_23 f4 v4_3 v4_1 v4_2 v0_15 v0_16 v0_18 v0_17 v0_19 v0_20 v0_22 v0_21
  rw [h3]
  generalize cmpValue (FP.dcmp (v0_13 p0 p1 p2 p3 p4) (v0_10 p0 p1 p2 p3 p4)) .g = g
  generalize v0_7 p0 p1 p2 p3 p4 = n
  have ha : nar .boolean (0 : Int32) = 0 := by decide
  have hb : nar .boolean (1 : Int32) = 1 := by decide
  have h10 : ¬ ((1 : Int32) = 0) := by decide
  by_cases hg : g < 0 <;> by_cases hn : n = 0 <;> rcases hw with hw | hw <;> rw [hw] <;> simp only [ha, hb, h10, hg, hn, eq_self, if_true, if_false]
def Q0 (Z : State) (p0 : Int32) (p1 : Int32) (p2 : Int32) (p3 : Int32) (p4 : Int32) (h0 : Heap) (n0 : Nat) (v : Option Value) (h : Heap) (L : List Loc) : Prop := v = some (.int (1 : Int32)) ∧ Fr n0 L
set_option maxRecDepth 65536 in
set_option maxHeartbeats 40000000 in
theorem rm0 (l : Launch) (Z : State) (a0 : Array Value) (hw : ∀ d ∈ tables_1, d.before a0 Z = true) (ws : List Jvm.Cond) (p0 : Int32) (p1 : Int32) (p2 : Int32) (p3 : Int32) (p4 : Int32) (h0 : Heap) (n0 : Nat) (Z0 : n0 ≤ h0.size) :
    MetFree l x (head1 (Jvm.Cond.code x code maxLocals ret :: ws) room_1) (fun a U => a = #[(.int p0), (.int p1), (.int p2), (.int p3), (.int p4)] ∧ Z.Warmed39 U.vm ∧ U.heap = h0) (fun _ _ _ _ _ => True) (fun _ U o U' => ∃ v L, o = .returned v ∧ Q0 Z p0 p1 p2 p3 p4 h0 n0 v U'.heap L ∧ FrameEnd U o U' L room_1.cells room_1.slots) := by
  refine MetFree.of_bodySF (plainFor_of_name pn_com_example_gryphon_gryphon_engine_StopMetPinLaw) hisR ?_
  intro p e s m args below meth c s₁ Bd hml0 hP hK
  obtain ⟨rfl, hZ, hh⟩ := hP
  have hx := Bd.exec
  have hby := Bd.bytes
  have hml : c.maxLocals = 16 := hml0
  have hown : s.vm.findClass "com/example/gryphon/gryphon/engine/StopMetPinLaw" = some m.cls := findClass_of_methodNamed Bd.named
  have hnm := (name_of_methodNamed Bd.named Bd.method).1
  have hlk := BodyLoose.notSynchronized Bd
  have X0 : Stand p l e room_1 s m #[(.int p0), (.int p1), (.int p2), (.int p3), (.int p4)] below meth c s₁ [] 0 0 := Stand.of_body Bd
  have e0 : s₁.heap = h0 := by rw [← hh, Bd.state]; rfl
  have N0 := Fr.nil n0
  have pre0 : ∀ t, Steps p.tables e below (s₁.setTop (mkF m 0 #[.val (.int p0), .val (.int p1), .val (.int p2), .val (.int p3), .val (.int p4), .unset, .unset, .unset, .unset, .unset, .unset, .unset, .unset, .unset, .unset, .unset] [])) t → Steps p.tables e below (s₁.setTop (entryFrame m #[(.int p0), (.int p1), (.int p2), (.int p3), (.int p4)] maxLocals)) t := fun t k => castTop (ef_0 m p0 p1 p2 p3 p4) k
  have pre1 : ∀ t, Steps p.tables e below (s₁.setTop (mkF m 3 #[.val (.int p0), .val (.int p1), .val (.int p2), .val (.int p3), .val (.int p4), .unset, .unset, .unset, .unset, .unset, .unset, .unset, .unset, .unset, .unset, .unset] [(.int (p0 &&& (1 : Int32)))])) t → Steps p.tables e below (s₁.setTop (entryFrame m #[(.int p0), (.int p1), (.int p2), (.int p3), (.int p4)] maxLocals)) t := by
    intro t k
    refine pre0 t ?_
    show Steps p.tables e below (s₁.setTop (mkF m 0 #[.val (.int p0), .val (.int p1), .val (.int p2), .val (.int p3), .val (.int p4), .unset, .unset, .unset, .unset, .unset, .unset, .unset, .unset, .unset, .unset, .unset] [])) _
    refine XS.iloadN X0.here hx rfl (hb hby at_0) rfl ?_
    show Steps p.tables e below (s₁.setTop (mkF m 1 #[.val (.int p0), .val (.int p1), .val (.int p2), .val (.int p3), .val (.int p4), .unset, .unset, .unset, .unset, .unset, .unset, .unset, .unset, .unset, .unset, .unset] [(.int p0)])) _
    refine XT.iconstV X0.here hx rfl (1 : Int32) (hb hby at_1) (by decide) ?_
    show Steps p.tables e below (s₁.setTop (mkF m 2 #[.val (.int p0), .val (.int p1), .val (.int p2), .val (.int p3), .val (.int p4), .unset, .unset, .unset, .unset, .unset, .unset, .unset, .unset, .unset, .unset, .unset] [(.int (1 : Int32)), (.int p0)])) _
    refine XS.iand X0.here hx rfl (hb hby at_2) rfl ?_
    exact k
  clear pre0
  have pre3 : ∀ t, Steps p.tables e below (s₁.setTop (mkF m 11 #[.val (.int p0), .val (.int p1), .val (.int p2), .val (.int p3), .val (.int p4), .unset, .unset, .unset, .unset, .unset, .unset, .unset, .unset, .unset, .unset, .unset] [(.int (v0_2 p0 p1 p2 p3 p4))])) t → Steps p.tables e below (s₁.setTop (entryFrame m #[(.int p0), (.int p1), (.int p2), (.int p3), (.int p4)] maxLocals)) t := by
    intro t k
    by_cases c2 : (v0_1 p0 p1 p2 p3 p4) = (0 : Int32)
    · skip
      rw [show (v0_2 p0 p1 p2 p3 p4) = (0 : Int32) from (if_pos c2)] at k
      refine pre1 t ?_
      show Steps p.tables e below (s₁.setTop (mkF m 3 #[.val (.int p0), .val (.int p1), .val (.int p2), .val (.int p3), .val (.int p4), .unset, .unset, .unset, .unset, .unset, .unset, .unset, .unset, .unset, .unset, .unset] [(.int (p0 &&& (1 : Int32)))])) _
      refine XS.ifYes X0.here hx rfl (pc0 := 3) (pc' := 10) rfl (hb hby at_3) rfl (XT.i0_eq_t c2) (by decide) (by decide) ?_
      show Steps p.tables e below (s₁.setTop (mkF m 10 #[.val (.int p0), .val (.int p1), .val (.int p2), .val (.int p3), .val (.int p4), .unset, .unset, .unset, .unset, .unset, .unset, .unset, .unset, .unset, .unset, .unset] [])) _
      refine XT.iconstV X0.here hx rfl (0 : Int32) (hb hby at_10) (by decide) ?_
      exact k
    · skip
      rw [show (v0_2 p0 p1 p2 p3 p4) = (1 : Int32) from (if_neg c2)] at k
      refine pre1 t ?_
      show Steps p.tables e below (s₁.setTop (mkF m 3 #[.val (.int p0), .val (.int p1), .val (.int p2), .val (.int p3), .val (.int p4), .unset, .unset, .unset, .unset, .unset, .unset, .unset, .unset, .unset, .unset, .unset] [(.int (p0 &&& (1 : Int32)))])) _
      refine XS.ifNo X0.here hx rfl (hb hby at_3) rfl (XT.i0_eq_f c2) ?_
      show Steps p.tables e below (s₁.setTop (mkF m 6 #[.val (.int p0), .val (.int p1), .val (.int p2), .val (.int p3), .val (.int p4), .unset, .unset, .unset, .unset, .unset, .unset, .unset, .unset, .unset, .unset, .unset] [])) _
      refine XT.iconstV X0.here hx rfl (1 : Int32) (hb hby at_6) (by decide) ?_
      show Steps p.tables e below (s₁.setTop (mkF m 7 #[.val (.int p0), .val (.int p1), .val (.int p2), .val (.int p3), .val (.int p4), .unset, .unset, .unset, .unset, .unset, .unset, .unset, .unset, .unset, .unset, .unset] [(.int (1 : Int32))])) _
      refine XS.goto X0.here hx rfl (pc0 := 7) (pc' := 11) rfl (hb hby at_7) (by decide) (by decide) ?_
      exact k
  have pre4 : ∀ t, Steps p.tables e below (s₁.setTop (mkF m 16 #[.val (.int p0), .val (.int p1), .val (.int p2), .val (.int p3), .val (.int p4), .val (.int (v0_2 p0 p1 p2 p3 p4)), .unset, .unset, .unset, .unset, .unset, .unset, .unset, .unset, .unset, .unset] [(.int (p0 &&& (2 : Int32)))])) t → Steps p.tables e below (s₁.setTop (entryFrame m #[(.int p0), (.int p1), (.int p2), (.int p3), (.int p4)] maxLocals)) t := by
    intro t k
    refine pre3 t ?_
    show Steps p.tables e below (s₁.setTop (mkF m 11 #[.val (.int p0), .val (.int p1), .val (.int p2), .val (.int p3), .val (.int p4), .unset, .unset, .unset, .unset, .unset, .unset, .unset, .unset, .unset, .unset, .unset] [(.int (v0_2 p0 p1 p2 p3 p4))])) _
    refine XS.istore X0.here hx rfl (hb hby at_11) rfl (l' := #[.val (.int p0), .val (.int p1), .val (.int p2), .val (.int p3), .val (.int p4), .val (.int (v0_2 p0 p1 p2 p3 p4)), .unset, .unset, .unset, .unset, .unset, .unset, .unset, .unset, .unset, .unset]) rfl ?_
    show Steps p.tables e below (s₁.setTop (mkF m 13 #[.val (.int p0), .val (.int p1), .val (.int p2), .val (.int p3), .val (.int p4), .val (.int (v0_2 p0 p1 p2 p3 p4)), .unset, .unset, .unset, .unset, .unset, .unset, .unset, .unset, .unset, .unset] [])) _
    refine XS.iloadN X0.here hx rfl (hb hby at_13) rfl ?_
    show Steps p.tables e below (s₁.setTop (mkF m 14 #[.val (.int p0), .val (.int p1), .val (.int p2), .val (.int p3), .val (.int p4), .val (.int (v0_2 p0 p1 p2 p3 p4)), .unset, .unset, .unset, .unset, .unset, .unset, .unset, .unset, .unset, .unset] [(.int p0)])) _
    refine XT.iconstV X0.here hx rfl (2 : Int32) (hb hby at_14) (by decide) ?_
    show Steps p.tables e below (s₁.setTop (mkF m 15 #[.val (.int p0), .val (.int p1), .val (.int p2), .val (.int p3), .val (.int p4), .val (.int (v0_2 p0 p1 p2 p3 p4)), .unset, .unset, .unset, .unset, .unset, .unset, .unset, .unset, .unset, .unset] [(.int (2 : Int32)), (.int p0)])) _
    refine XS.iand X0.here hx rfl (hb hby at_15) rfl ?_
    exact k
  clear pre3
  have pre6 : ∀ t, Steps p.tables e below (s₁.setTop (mkF m 24 #[.val (.int p0), .val (.int p1), .val (.int p2), .val (.int p3), .val (.int p4), .val (.int (v0_2 p0 p1 p2 p3 p4)), .unset, .unset, .unset, .unset, .unset, .unset, .unset, .unset, .unset, .unset] [(.int (v0_4 p0 p1 p2 p3 p4))])) t → Steps p.tables e below (s₁.setTop (entryFrame m #[(.int p0), (.int p1), (.int p2), (.int p3), (.int p4)] maxLocals)) t := by
    intro t k
    by_cases c5 : (v0_3 p0 p1 p2 p3 p4) = (0 : Int32)
    · skip
      rw [show (v0_4 p0 p1 p2 p3 p4) = (0 : Int32) from (if_pos c5)] at k
      refine pre4 t ?_
      show Steps p.tables e below (s₁.setTop (mkF m 16 #[.val (.int p0), .val (.int p1), .val (.int p2), .val (.int p3), .val (.int p4), .val (.int (v0_2 p0 p1 p2 p3 p4)), .unset, .unset, .unset, .unset, .unset, .unset, .unset, .unset, .unset, .unset] [(.int (p0 &&& (2 : Int32)))])) _
      refine XS.ifYes X0.here hx rfl (pc0 := 16) (pc' := 23) rfl (hb hby at_16) rfl (XT.i0_eq_t c5) (by decide) (by decide) ?_
      show Steps p.tables e below (s₁.setTop (mkF m 23 #[.val (.int p0), .val (.int p1), .val (.int p2), .val (.int p3), .val (.int p4), .val (.int (v0_2 p0 p1 p2 p3 p4)), .unset, .unset, .unset, .unset, .unset, .unset, .unset, .unset, .unset, .unset] [])) _
      refine XT.iconstV X0.here hx rfl (0 : Int32) (hb hby at_23) (by decide) ?_
      exact k
    · skip
      rw [show (v0_4 p0 p1 p2 p3 p4) = (1 : Int32) from (if_neg c5)] at k
      refine pre4 t ?_
      show Steps p.tables e below (s₁.setTop (mkF m 16 #[.val (.int p0), .val (.int p1), .val (.int p2), .val (.int p3), .val (.int p4), .val (.int (v0_2 p0 p1 p2 p3 p4)), .unset, .unset, .unset, .unset, .unset, .unset, .unset, .unset, .unset, .unset] [(.int (p0 &&& (2 : Int32)))])) _
      refine XS.ifNo X0.here hx rfl (hb hby at_16) rfl (XT.i0_eq_f c5) ?_
      show Steps p.tables e below (s₁.setTop (mkF m 19 #[.val (.int p0), .val (.int p1), .val (.int p2), .val (.int p3), .val (.int p4), .val (.int (v0_2 p0 p1 p2 p3 p4)), .unset, .unset, .unset, .unset, .unset, .unset, .unset, .unset, .unset, .unset] [])) _
      refine XT.iconstV X0.here hx rfl (1 : Int32) (hb hby at_19) (by decide) ?_
      show Steps p.tables e below (s₁.setTop (mkF m 20 #[.val (.int p0), .val (.int p1), .val (.int p2), .val (.int p3), .val (.int p4), .val (.int (v0_2 p0 p1 p2 p3 p4)), .unset, .unset, .unset, .unset, .unset, .unset, .unset, .unset, .unset, .unset] [(.int (1 : Int32))])) _
      refine XS.goto X0.here hx rfl (pc0 := 20) (pc' := 24) rfl (hb hby at_20) (by decide) (by decide) ?_
      exact k
  have pre7 : ∀ t, Steps p.tables e below (s₁.setTop (mkF m 29 #[.val (.int p0), .val (.int p1), .val (.int p2), .val (.int p3), .val (.int p4), .val (.int (v0_2 p0 p1 p2 p3 p4)), .val (.int (v0_4 p0 p1 p2 p3 p4)), .unset, .unset, .unset, .unset, .unset, .unset, .unset, .unset, .unset] [(.int (p0 &&& (4 : Int32)))])) t → Steps p.tables e below (s₁.setTop (entryFrame m #[(.int p0), (.int p1), (.int p2), (.int p3), (.int p4)] maxLocals)) t := by
    intro t k
    refine pre6 t ?_
    show Steps p.tables e below (s₁.setTop (mkF m 24 #[.val (.int p0), .val (.int p1), .val (.int p2), .val (.int p3), .val (.int p4), .val (.int (v0_2 p0 p1 p2 p3 p4)), .unset, .unset, .unset, .unset, .unset, .unset, .unset, .unset, .unset, .unset] [(.int (v0_4 p0 p1 p2 p3 p4))])) _
    refine XS.istore X0.here hx rfl (hb hby at_24) rfl (l' := #[.val (.int p0), .val (.int p1), .val (.int p2), .val (.int p3), .val (.int p4), .val (.int (v0_2 p0 p1 p2 p3 p4)), .val (.int (v0_4 p0 p1 p2 p3 p4)), .unset, .unset, .unset, .unset, .unset, .unset, .unset, .unset, .unset]) rfl ?_
    show Steps p.tables e below (s₁.setTop (mkF m 26 #[.val (.int p0), .val (.int p1), .val (.int p2), .val (.int p3), .val (.int p4), .val (.int (v0_2 p0 p1 p2 p3 p4)), .val (.int (v0_4 p0 p1 p2 p3 p4)), .unset, .unset, .unset, .unset, .unset, .unset, .unset, .unset, .unset] [])) _
    refine XS.iloadN X0.here hx rfl (hb hby at_26) rfl ?_
    show Steps p.tables e below (s₁.setTop (mkF m 27 #[.val (.int p0), .val (.int p1), .val (.int p2), .val (.int p3), .val (.int p4), .val (.int (v0_2 p0 p1 p2 p3 p4)), .val (.int (v0_4 p0 p1 p2 p3 p4)), .unset, .unset, .unset, .unset, .unset, .unset, .unset, .unset, .unset] [(.int p0)])) _
    refine XT.iconstV X0.here hx rfl (4 : Int32) (hb hby at_27) (by decide) ?_
    show Steps p.tables e below (s₁.setTop (mkF m 28 #[.val (.int p0), .val (.int p1), .val (.int p2), .val (.int p3), .val (.int p4), .val (.int (v0_2 p0 p1 p2 p3 p4)), .val (.int (v0_4 p0 p1 p2 p3 p4)), .unset, .unset, .unset, .unset, .unset, .unset, .unset, .unset, .unset] [(.int (4 : Int32)), (.int p0)])) _
    refine XS.iand X0.here hx rfl (hb hby at_28) rfl ?_
    exact k
  clear pre6
  have pre9 : ∀ t, Steps p.tables e below (s₁.setTop (mkF m 37 #[.val (.int p0), .val (.int p1), .val (.int p2), .val (.int p3), .val (.int p4), .val (.int (v0_2 p0 p1 p2 p3 p4)), .val (.int (v0_4 p0 p1 p2 p3 p4)), .unset, .unset, .unset, .unset, .unset, .unset, .unset, .unset, .unset] [(.int (v0_6 p0 p1 p2 p3 p4))])) t → Steps p.tables e below (s₁.setTop (entryFrame m #[(.int p0), (.int p1), (.int p2), (.int p3), (.int p4)] maxLocals)) t := by
    intro t k
    by_cases c8 : (v0_5 p0 p1 p2 p3 p4) = (0 : Int32)
    · skip
      rw [show (v0_6 p0 p1 p2 p3 p4) = (0 : Int32) from (if_pos c8)] at k
      refine pre7 t ?_
      show Steps p.tables e below (s₁.setTop (mkF m 29 #[.val (.int p0), .val (.int p1), .val (.int p2), .val (.int p3), .val (.int p4), .val (.int (v0_2 p0 p1 p2 p3 p4)), .val (.int (v0_4 p0 p1 p2 p3 p4)), .unset, .unset, .unset, .unset, .unset, .unset, .unset, .unset, .unset] [(.int (p0 &&& (4 : Int32)))])) _
      refine XS.ifYes X0.here hx rfl (pc0 := 29) (pc' := 36) rfl (hb hby at_29) rfl (XT.i0_eq_t c8) (by decide) (by decide) ?_
      show Steps p.tables e below (s₁.setTop (mkF m 36 #[.val (.int p0), .val (.int p1), .val (.int p2), .val (.int p3), .val (.int p4), .val (.int (v0_2 p0 p1 p2 p3 p4)), .val (.int (v0_4 p0 p1 p2 p3 p4)), .unset, .unset, .unset, .unset, .unset, .unset, .unset, .unset, .unset] [])) _
      refine XT.iconstV X0.here hx rfl (0 : Int32) (hb hby at_36) (by decide) ?_
      exact k
    · skip
      rw [show (v0_6 p0 p1 p2 p3 p4) = (1 : Int32) from (if_neg c8)] at k
      refine pre7 t ?_
      show Steps p.tables e below (s₁.setTop (mkF m 29 #[.val (.int p0), .val (.int p1), .val (.int p2), .val (.int p3), .val (.int p4), .val (.int (v0_2 p0 p1 p2 p3 p4)), .val (.int (v0_4 p0 p1 p2 p3 p4)), .unset, .unset, .unset, .unset, .unset, .unset, .unset, .unset, .unset] [(.int (p0 &&& (4 : Int32)))])) _
      refine XS.ifNo X0.here hx rfl (hb hby at_29) rfl (XT.i0_eq_f c8) ?_
      show Steps p.tables e below (s₁.setTop (mkF m 32 #[.val (.int p0), .val (.int p1), .val (.int p2), .val (.int p3), .val (.int p4), .val (.int (v0_2 p0 p1 p2 p3 p4)), .val (.int (v0_4 p0 p1 p2 p3 p4)), .unset, .unset, .unset, .unset, .unset, .unset, .unset, .unset, .unset] [])) _
      refine XT.iconstV X0.here hx rfl (1 : Int32) (hb hby at_32) (by decide) ?_
      show Steps p.tables e below (s₁.setTop (mkF m 33 #[.val (.int p0), .val (.int p1), .val (.int p2), .val (.int p3), .val (.int p4), .val (.int (v0_2 p0 p1 p2 p3 p4)), .val (.int (v0_4 p0 p1 p2 p3 p4)), .unset, .unset, .unset, .unset, .unset, .unset, .unset, .unset, .unset] [(.int (1 : Int32))])) _
      refine XS.goto X0.here hx rfl (pc0 := 33) (pc' := 37) rfl (hb hby at_33) (by decide) (by decide) ?_
      exact k
  have pre10 : ∀ t, Steps p.tables e below (s₁.setTop (mkF m 41 #[.val (.int p0), .val (.int p1), .val (.int p2), .val (.int p3), .val (.int p4), .val (.int (v0_2 p0 p1 p2 p3 p4)), .val (.int (v0_4 p0 p1 p2 p3 p4)), .val (.int (v0_6 p0 p1 p2 p3 p4)), .unset, .unset, .unset, .unset, .unset, .unset, .unset, .unset] [(.int (v0_4 p0 p1 p2 p3 p4))])) t → Steps p.tables e below (s₁.setTop (entryFrame m #[(.int p0), (.int p1), (.int p2), (.int p3), (.int p4)] maxLocals)) t := by
    intro t k
    refine pre9 t ?_
    show Steps p.tables e below (s₁.setTop (mkF m 37 #[.val (.int p0), .val (.int p1), .val (.int p2), .val (.int p3), .val (.int p4), .val (.int (v0_2 p0 p1 p2 p3 p4)), .val (.int (v0_4 p0 p1 p2 p3 p4)), .unset, .unset, .unset, .unset, .unset, .unset, .unset, .unset, .unset] [(.int (v0_6 p0 p1 p2 p3 p4))])) _
    refine XS.istore X0.here hx rfl (hb hby at_37) rfl (l' := #[.val (.int p0), .val (.int p1), .val (.int p2), .val (.int p3), .val (.int p4), .val (.int (v0_2 p0 p1 p2 p3 p4)), .val (.int (v0_4 p0 p1 p2 p3 p4)), .val (.int (v0_6 p0 p1 p2 p3 p4)), .unset, .unset, .unset, .unset, .unset, .unset, .unset, .unset]) rfl ?_
    show Steps p.tables e below (s₁.setTop (mkF m 39 #[.val (.int p0), .val (.int p1), .val (.int p2), .val (.int p3), .val (.int p4), .val (.int (v0_2 p0 p1 p2 p3 p4)), .val (.int (v0_4 p0 p1 p2 p3 p4)), .val (.int (v0_6 p0 p1 p2 p3 p4)), .unset, .unset, .unset, .unset, .unset, .unset, .unset, .unset] [])) _
    refine XS.iload X0.here hx rfl (hb hby at_39) rfl ?_
    exact k
  clear pre9
  have pre12 : ∀ t, Steps p.tables e below (s₁.setTop (mkF m 49 #[.val (.int p0), .val (.int p1), .val (.int p2), .val (.int p3), .val (.int p4), .val (.int (v0_2 p0 p1 p2 p3 p4)), .val (.int (v0_4 p0 p1 p2 p3 p4)), .val (.int (v0_6 p0 p1 p2 p3 p4)), .unset, .unset, .unset, .unset, .unset, .unset, .unset, .unset] [(.int (v0_7 p0 p1 p2 p3 p4))])) t → Steps p.tables e below (s₁.setTop (entryFrame m #[(.int p0), (.int p1), (.int p2), (.int p3), (.int p4)] maxLocals)) t := by
    intro t k
    by_cases c11 : (v0_4 p0 p1 p2 p3 p4) = (0 : Int32)
    · skip
      rw [show (v0_7 p0 p1 p2 p3 p4) = p2 from (if_pos c11)] at k
      refine pre10 t ?_
      show Steps p.tables e below (s₁.setTop (mkF m 41 #[.val (.int p0), .val (.int p1), .val (.int p2), .val (.int p3), .val (.int p4), .val (.int (v0_2 p0 p1 p2 p3 p4)), .val (.int (v0_4 p0 p1 p2 p3 p4)), .val (.int (v0_6 p0 p1 p2 p3 p4)), .unset, .unset, .unset, .unset, .unset, .unset, .unset, .unset] [(.int (v0_4 p0 p1 p2 p3 p4))])) _
      refine XS.ifYes X0.here hx rfl (pc0 := 41) (pc' := 48) rfl (hb hby at_41) rfl (XT.i0_eq_t c11) (by decide) (by decide) ?_
      show Steps p.tables e below (s₁.setTop (mkF m 48 #[.val (.int p0), .val (.int p1), .val (.int p2), .val (.int p3), .val (.int p4), .val (.int (v0_2 p0 p1 p2 p3 p4)), .val (.int (v0_4 p0 p1 p2 p3 p4)), .val (.int (v0_6 p0 p1 p2 p3 p4)), .unset, .unset, .unset, .unset, .unset, .unset, .unset, .unset] [])) _
      refine XS.iloadN X0.here hx rfl (hb hby at_48) rfl ?_
      exact k
    · skip
      rw [show (v0_7 p0 p1 p2 p3 p4) = (0 : Int32) from (if_neg c11)] at k
      refine pre10 t ?_
      show Steps p.tables e below (s₁.setTop (mkF m 41 #[.val (.int p0), .val (.int p1), .val (.int p2), .val (.int p3), .val (.int p4), .val (.int (v0_2 p0 p1 p2 p3 p4)), .val (.int (v0_4 p0 p1 p2 p3 p4)), .val (.int (v0_6 p0 p1 p2 p3 p4)), .unset, .unset, .unset, .unset, .unset, .unset, .unset, .unset] [(.int (v0_4 p0 p1 p2 p3 p4))])) _
      refine XS.ifNo X0.here hx rfl (hb hby at_41) rfl (XT.i0_eq_f c11) ?_
      show Steps p.tables e below (s₁.setTop (mkF m 44 #[.val (.int p0), .val (.int p1), .val (.int p2), .val (.int p3), .val (.int p4), .val (.int (v0_2 p0 p1 p2 p3 p4)), .val (.int (v0_4 p0 p1 p2 p3 p4)), .val (.int (v0_6 p0 p1 p2 p3 p4)), .unset, .unset, .unset, .unset, .unset, .unset, .unset, .unset] [])) _
      refine XT.iconstV X0.here hx rfl (0 : Int32) (hb hby at_44) (by decide) ?_
      show Steps p.tables e below (s₁.setTop (mkF m 45 #[.val (.int p0), .val (.int p1), .val (.int p2), .val (.int p3), .val (.int p4), .val (.int (v0_2 p0 p1 p2 p3 p4)), .val (.int (v0_4 p0 p1 p2 p3 p4)), .val (.int (v0_6 p0 p1 p2 p3 p4)), .unset, .unset, .unset, .unset, .unset, .unset, .unset, .unset] [(.int (0 : Int32))])) _
      refine XS.goto X0.here hx rfl (pc0 := 45) (pc' := 49) rfl (hb hby at_45) (by decide) (by decide) ?_
      exact k
  have pre13 : ∀ t, Steps p.tables e below (s₁.setTop (mkF m 64 #[.val (.int p0), .val (.int p1), .val (.int p2), .val (.int p3), .val (.int p4), .val (.int (v0_2 p0 p1 p2 p3 p4)), .val (.int (v0_4 p0 p1 p2 p3 p4)), .val (.int (v0_6 p0 p1 p2 p3 p4)), .val (.int (v0_7 p0 p1 p2 p3 p4)), .val (.double (v0_10 p0 p1 p2 p3 p4)), .second, .unset, .unset, .unset, .unset, .unset] [(.int (v0_6 p0 p1 p2 p3 p4))])) t → Steps p.tables e below (s₁.setTop (entryFrame m #[(.int p0), (.int p1), (.int p2), (.int p3), (.int p4)] maxLocals)) t := by
    intro t k
    refine pre12 t ?_
    show Steps p.tables e below (s₁.setTop (mkF m 49 #[.val (.int p0), .val (.int p1), .val (.int p2), .val (.int p3), .val (.int p4), .val (.int (v0_2 p0 p1 p2 p3 p4)), .val (.int (v0_4 p0 p1 p2 p3 p4)), .val (.int (v0_6 p0 p1 p2 p3 p4)), .unset, .unset, .unset, .unset, .unset, .unset, .unset, .unset] [(.int (v0_7 p0 p1 p2 p3 p4))])) _
    refine XS.istore X0.here hx rfl (hb hby at_49) rfl (l' := #[.val (.int p0), .val (.int p1), .val (.int p2), .val (.int p3), .val (.int p4), .val (.int (v0_2 p0 p1 p2 p3 p4)), .val (.int (v0_4 p0 p1 p2 p3 p4)), .val (.int (v0_6 p0 p1 p2 p3 p4)), .val (.int (v0_7 p0 p1 p2 p3 p4)), .unset, .unset, .unset, .unset, .unset, .unset, .unset]) rfl ?_
    show Steps p.tables e below (s₁.setTop (mkF m 51 #[.val (.int p0), .val (.int p1), .val (.int p2), .val (.int p3), .val (.int p4), .val (.int (v0_2 p0 p1 p2 p3 p4)), .val (.int (v0_4 p0 p1 p2 p3 p4)), .val (.int (v0_6 p0 p1 p2 p3 p4)), .val (.int (v0_7 p0 p1 p2 p3 p4)), .unset, .unset, .unset, .unset, .unset, .unset, .unset] [])) _
    refine XS.iloadN X0.here hx rfl (hb hby at_51) rfl ?_
    show Steps p.tables e below (s₁.setTop (mkF m 52 #[.val (.int p0), .val (.int p1), .val (.int p2), .val (.int p3), .val (.int p4), .val (.int (v0_2 p0 p1 p2 p3 p4)), .val (.int (v0_4 p0 p1 p2 p3 p4)), .val (.int (v0_6 p0 p1 p2 p3 p4)), .val (.int (v0_7 p0 p1 p2 p3 p4)), .unset, .unset, .unset, .unset, .unset, .unset, .unset] [(.int p1)])) _
    refine X0.ldcI hx hown (mvT hZ (hw _ (List.mem_of_getElem? (i := 0) rfl))) rfl (hb hby at_52) ?_
    show Steps p.tables e below (s₁.setTop (mkF m 54 #[.val (.int p0), .val (.int p1), .val (.int p2), .val (.int p3), .val (.int p4), .val (.int (v0_2 p0 p1 p2 p3 p4)), .val (.int (v0_4 p0 p1 p2 p3 p4)), .val (.int (v0_6 p0 p1 p2 p3 p4)), .val (.int (v0_7 p0 p1 p2 p3 p4)), .unset, .unset, .unset, .unset, .unset, .unset, .unset] [(.int (65535 : Int32)), (.int p1)])) _
    refine XS.iand X0.here hx rfl (hb hby at_54) rfl ?_
    show Steps p.tables e below (s₁.setTop (mkF m 55 #[.val (.int p0), .val (.int p1), .val (.int p2), .val (.int p3), .val (.int p4), .val (.int (v0_2 p0 p1 p2 p3 p4)), .val (.int (v0_4 p0 p1 p2 p3 p4)), .val (.int (v0_6 p0 p1 p2 p3 p4)), .val (.int (v0_7 p0 p1 p2 p3 p4)), .unset, .unset, .unset, .unset, .unset, .unset, .unset] [(.int (p1 &&& (65535 : Int32)))])) _
    refine XS.i2dS X0.here hx rfl (hb hby at_55) rfl rfl ?_
    show Steps p.tables e below (s₁.setTop (mkF m 56 #[.val (.int p0), .val (.int p1), .val (.int p2), .val (.int p3), .val (.int p4), .val (.int (v0_2 p0 p1 p2 p3 p4)), .val (.int (v0_4 p0 p1 p2 p3 p4)), .val (.int (v0_6 p0 p1 p2 p3 p4)), .val (.int (v0_7 p0 p1 p2 p3 p4)), .unset, .unset, .unset, .unset, .unset, .unset, .unset] [(.double (FP.i2d (p1 &&& (65535 : Int32))))])) _
    refine own_ldc2D X0 hx hown (mvT hZ (hw _ (List.mem_of_getElem? (i := 1) rfl))) rfl (hb hby at_56) ?_
    show Steps p.tables e below (s₁.setTop (mkF m 59 #[.val (.int p0), .val (.int p1), .val (.int p2), .val (.int p3), .val (.int p4), .val (.int (v0_2 p0 p1 p2 p3 p4)), .val (.int (v0_4 p0 p1 p2 p3 p4)), .val (.int (v0_6 p0 p1 p2 p3 p4)), .val (.int (v0_7 p0 p1 p2 p3 p4)), .unset, .unset, .unset, .unset, .unset, .unset, .unset] [(.double (4616189618054758400 : UInt64)), (.double (FP.i2d (p1 &&& (65535 : Int32))))])) _
    refine XS.ddivS X0.here hx rfl (hb hby at_59) rfl (own_nn9 p0 p1 p2 p3 p4) rfl ?_
    show Steps p.tables e below (s₁.setTop (mkF m 60 #[.val (.int p0), .val (.int p1), .val (.int p2), .val (.int p3), .val (.int p4), .val (.int (v0_2 p0 p1 p2 p3 p4)), .val (.int (v0_4 p0 p1 p2 p3 p4)), .val (.int (v0_6 p0 p1 p2 p3 p4)), .val (.int (v0_7 p0 p1 p2 p3 p4)), .unset, .unset, .unset, .unset, .unset, .unset, .unset] [(.double (FP.ddiv (v0_9 p0 p1 p2 p3 p4) (v0_8 p0 p1 p2 p3 p4)))])) _
    refine XS.dstore X0.here hx rfl (hb hby at_60) rfl (l' := #[.val (.int p0), .val (.int p1), .val (.int p2), .val (.int p3), .val (.int p4), .val (.int (v0_2 p0 p1 p2 p3 p4)), .val (.int (v0_4 p0 p1 p2 p3 p4)), .val (.int (v0_6 p0 p1 p2 p3 p4)), .val (.int (v0_7 p0 p1 p2 p3 p4)), .val (.double (v0_10 p0 p1 p2 p3 p4)), .second, .unset, .unset, .unset, .unset, .unset]) rfl ?_
    show Steps p.tables e below (s₁.setTop (mkF m 62 #[.val (.int p0), .val (.int p1), .val (.int p2), .val (.int p3), .val (.int p4), .val (.int (v0_2 p0 p1 p2 p3 p4)), .val (.int (v0_4 p0 p1 p2 p3 p4)), .val (.int (v0_6 p0 p1 p2 p3 p4)), .val (.int (v0_7 p0 p1 p2 p3 p4)), .val (.double (v0_10 p0 p1 p2 p3 p4)), .second, .unset, .unset, .unset, .unset, .unset] [])) _
    refine XS.iload X0.here hx rfl (hb hby at_62) rfl ?_
    exact k
  clear pre12
  have pre15 : ∀ t, Steps p.tables e below (s₁.setTop (mkF m 81 #[.val (.int p0), .val (.int p1), .val (.int p2), .val (.int p3), .val (.int p4), .val (.int (v0_2 p0 p1 p2 p3 p4)), .val (.int (v0_4 p0 p1 p2 p3 p4)), .val (.int (v0_6 p0 p1 p2 p3 p4)), .val (.int (v0_7 p0 p1 p2 p3 p4)), .val (.double (v0_10 p0 p1 p2 p3 p4)), .second, .unset, .unset, .unset, .unset, .unset] [(.double (v0_13 p0 p1 p2 p3 p4))])) t → Steps p.tables e below (s₁.setTop (entryFrame m #[(.int p0), (.int p1), (.int p2), (.int p3), (.int p4)] maxLocals)) t := by
    intro t k
    by_cases c14 : (v0_6 p0 p1 p2 p3 p4) = (0 : Int32)
    · skip
      rw [show (v0_13 p0 p1 p2 p3 p4) = (FP.ddiv (v0_12 p0 p1 p2 p3 p4) (v0_11 p0 p1 p2 p3 p4)) from (if_pos c14)] at k
      refine pre13 t ?_
      show Steps p.tables e below (s₁.setTop (mkF m 64 #[.val (.int p0), .val (.int p1), .val (.int p2), .val (.int p3), .val (.int p4), .val (.int (v0_2 p0 p1 p2 p3 p4)), .val (.int (v0_4 p0 p1 p2 p3 p4)), .val (.int (v0_6 p0 p1 p2 p3 p4)), .val (.int (v0_7 p0 p1 p2 p3 p4)), .val (.double (v0_10 p0 p1 p2 p3 p4)), .second, .unset, .unset, .unset, .unset, .unset] [(.int (v0_6 p0 p1 p2 p3 p4))])) _
      refine XS.ifYes X0.here hx rfl (pc0 := 64) (pc' := 72) rfl (hb hby at_64) rfl (XT.i0_eq_t c14) (by decide) (by decide) ?_
      show Steps p.tables e below (s₁.setTop (mkF m 72 #[.val (.int p0), .val (.int p1), .val (.int p2), .val (.int p3), .val (.int p4), .val (.int (v0_2 p0 p1 p2 p3 p4)), .val (.int (v0_4 p0 p1 p2 p3 p4)), .val (.int (v0_6 p0 p1 p2 p3 p4)), .val (.int (v0_7 p0 p1 p2 p3 p4)), .val (.double (v0_10 p0 p1 p2 p3 p4)), .second, .unset, .unset, .unset, .unset, .unset] [])) _
      refine XS.iloadN X0.here hx rfl (hb hby at_72) rfl ?_
      show Steps p.tables e below (s₁.setTop (mkF m 73 #[.val (.int p0), .val (.int p1), .val (.int p2), .val (.int p3), .val (.int p4), .val (.int (v0_2 p0 p1 p2 p3 p4)), .val (.int (v0_4 p0 p1 p2 p3 p4)), .val (.int (v0_6 p0 p1 p2 p3 p4)), .val (.int (v0_7 p0 p1 p2 p3 p4)), .val (.double (v0_10 p0 p1 p2 p3 p4)), .second, .unset, .unset, .unset, .unset, .unset] [(.int p3)])) _
      refine X0.ldcI hx hown (mvT hZ (hw _ (List.mem_of_getElem? (i := 2) rfl))) rfl (hb hby at_73) ?_
      show Steps p.tables e below (s₁.setTop (mkF m 75 #[.val (.int p0), .val (.int p1), .val (.int p2), .val (.int p3), .val (.int p4), .val (.int (v0_2 p0 p1 p2 p3 p4)), .val (.int (v0_4 p0 p1 p2 p3 p4)), .val (.int (v0_6 p0 p1 p2 p3 p4)), .val (.int (v0_7 p0 p1 p2 p3 p4)), .val (.double (v0_10 p0 p1 p2 p3 p4)), .second, .unset, .unset, .unset, .unset, .unset] [(.int (131071 : Int32)), (.int p3)])) _
      refine XS.iand X0.here hx rfl (hb hby at_75) rfl ?_
      show Steps p.tables e below (s₁.setTop (mkF m 76 #[.val (.int p0), .val (.int p1), .val (.int p2), .val (.int p3), .val (.int p4), .val (.int (v0_2 p0 p1 p2 p3 p4)), .val (.int (v0_4 p0 p1 p2 p3 p4)), .val (.int (v0_6 p0 p1 p2 p3 p4)), .val (.int (v0_7 p0 p1 p2 p3 p4)), .val (.double (v0_10 p0 p1 p2 p3 p4)), .second, .unset, .unset, .unset, .unset, .unset] [(.int (p3 &&& (131071 : Int32)))])) _
      refine XS.i2dS X0.here hx rfl (hb hby at_76) rfl rfl ?_
      show Steps p.tables e below (s₁.setTop (mkF m 77 #[.val (.int p0), .val (.int p1), .val (.int p2), .val (.int p3), .val (.int p4), .val (.int (v0_2 p0 p1 p2 p3 p4)), .val (.int (v0_4 p0 p1 p2 p3 p4)), .val (.int (v0_6 p0 p1 p2 p3 p4)), .val (.int (v0_7 p0 p1 p2 p3 p4)), .val (.double (v0_10 p0 p1 p2 p3 p4)), .second, .unset, .unset, .unset, .unset, .unset] [(.double (FP.i2d (p3 &&& (131071 : Int32))))])) _
      refine own_ldc2D X0 hx hown (mvT hZ (hw _ (List.mem_of_getElem? (i := 1) rfl))) rfl (hb hby at_77) ?_
      show Steps p.tables e below (s₁.setTop (mkF m 80 #[.val (.int p0), .val (.int p1), .val (.int p2), .val (.int p3), .val (.int p4), .val (.int (v0_2 p0 p1 p2 p3 p4)), .val (.int (v0_4 p0 p1 p2 p3 p4)), .val (.int (v0_6 p0 p1 p2 p3 p4)), .val (.int (v0_7 p0 p1 p2 p3 p4)), .val (.double (v0_10 p0 p1 p2 p3 p4)), .second, .unset, .unset, .unset, .unset, .unset] [(.double (4616189618054758400 : UInt64)), (.double (FP.i2d (p3 &&& (131071 : Int32))))])) _
      refine XS.ddivS X0.here hx rfl (hb hby at_80) rfl (own_nn12 p0 p1 p2 p3 p4) rfl ?_
      exact k
    · skip
      rw [show (v0_13 p0 p1 p2 p3 p4) = (v0_10 p0 p1 p2 p3 p4) from (if_neg c14)] at k
      refine pre13 t ?_
      show Steps p.tables e below (s₁.setTop (mkF m 64 #[.val (.int p0), .val (.int p1), .val (.int p2), .val (.int p3), .val (.int p4), .val (.int (v0_2 p0 p1 p2 p3 p4)), .val (.int (v0_4 p0 p1 p2 p3 p4)), .val (.int (v0_6 p0 p1 p2 p3 p4)), .val (.int (v0_7 p0 p1 p2 p3 p4)), .val (.double (v0_10 p0 p1 p2 p3 p4)), .second, .unset, .unset, .unset, .unset, .unset] [(.int (v0_6 p0 p1 p2 p3 p4))])) _
      refine XS.ifNo X0.here hx rfl (hb hby at_64) rfl (XT.i0_eq_f c14) ?_
      show Steps p.tables e below (s₁.setTop (mkF m 67 #[.val (.int p0), .val (.int p1), .val (.int p2), .val (.int p3), .val (.int p4), .val (.int (v0_2 p0 p1 p2 p3 p4)), .val (.int (v0_4 p0 p1 p2 p3 p4)), .val (.int (v0_6 p0 p1 p2 p3 p4)), .val (.int (v0_7 p0 p1 p2 p3 p4)), .val (.double (v0_10 p0 p1 p2 p3 p4)), .second, .unset, .unset, .unset, .unset, .unset] [])) _
      refine XS.dload X0.here hx rfl (hb hby at_67) rfl ?_
      show Steps p.tables e below (s₁.setTop (mkF m 69 #[.val (.int p0), .val (.int p1), .val (.int p2), .val (.int p3), .val (.int p4), .val (.int (v0_2 p0 p1 p2 p3 p4)), .val (.int (v0_4 p0 p1 p2 p3 p4)), .val (.int (v0_6 p0 p1 p2 p3 p4)), .val (.int (v0_7 p0 p1 p2 p3 p4)), .val (.double (v0_10 p0 p1 p2 p3 p4)), .second, .unset, .unset, .unset, .unset, .unset] [(.double (v0_10 p0 p1 p2 p3 p4))])) _
      refine XS.goto X0.here hx rfl (pc0 := 69) (pc' := 81) rfl (hb hby at_69) (by decide) (by decide) ?_
      exact k
  obtain ⟨T16, h16, X16, e16, E16, A16, D16, -, st16⟩ := newO X0 hx hZ hown (hw _ (List.mem_of_getElem? (i := 4) rfl)) (hw _ (List.mem_of_getElem? (i := 5) rfl)) (hw _ (List.mem_of_getElem? (i := 6) rfl)) e0 (g := (mkF m 90 #[.val (.int p0), .val (.int p1), .val (.int p2), .val (.int p3), .val (.int p4), .val (.int (v0_2 p0 p1 p2 p3 p4)), .val (.int (v0_4 p0 p1 p2 p3 p4)), .val (.int (v0_6 p0 p1 p2 p3 p4)), .val (.int (v0_7 p0 p1 p2 p3 p4)), .val (.double (v0_10 p0 p1 p2 p3 p4)), .second, .val (.double (v0_13 p0 p1 p2 p3 p4)), .second, .val (.int (v0_14 p0 p1 p2 p3 p4)), .unset, .unset] [])) rfl (hb hby at_90) (by decide) (by decide)
  obtain ⟨b16, gz16⟩ : ∃ z, z = h0.size := ⟨_, rfl⟩
  rw [← gz16] at A16 D16 st16
  have g17 : n0 ≤ b16 := Nat.le_trans Z0 (Nat.le_of_eq gz16.symm)
  have sz18 : h0.size ≤ b16 := Nat.le_trans (Nat.le_refl h0.size) (Nat.le_of_eq gz16.symm)
  have z19 : n0 ≤ h16.size := Nat.le_trans Z0 E16.1
  have hs20 : h0.size ≤ h16.size := Nat.le_trans (Nat.le_refl h0.size) E16.1
  have F16_whenUnchanged : Fld Z h16 b16 "com/example/gryphon/gryphon/engine/Stop" "whenUnchanged" "Z" (.int (0 : Int32)) := D16 (Or.inr (hw _ (List.mem_of_getElem? (i := 19) rfl))) (ty := .boolean) (by decide)
  have F16_tolerance : Fld Z h16 b16 "com/example/gryphon/gryphon/engine/Stop" "tolerance" "D" (.double (0 : UInt64)) := D16 (Or.inr (hw _ (List.mem_of_getElem? (i := 21) rfl))) (ty := .double) (by decide)
  have F16_maxIterations : Fld Z h16 b16 "com/example/gryphon/gryphon/engine/Stop" "maxIterations" "I" (.int (0 : Int32)) := D16 (Or.inr (hw _ (List.mem_of_getElem? (i := 23) rfl))) (ty := .int) (by decide)
  obtain ⟨vr21, _, ⟨T21, L21, k21, n21⟩, -, X21, ⟨Lc21, hQ21, l21, y21, z21⟩, st21⟩ := X16.specialBack hx (y := (⟨"com/example/gryphon/gryphon/engine/Stop", "<init>", "(ZDI)V"⟩ : MethodName)) rfl hown (mvT hZ (hw _ (List.mem_of_getElem? (i := 7) rfl))) (mvT hZ (hw _ (List.mem_of_getElem? (i := 8) rfl))) (mvT hZ (hw _ (List.mem_of_getElem? (i := 9) rfl))) (by decide) (backOf (W := 1) (rm1 l Z a0 hw [] b16 (v0_2 p0 p1 p2 p3 p4) (v0_10 p0 p1 p2 p3 p4) (v0_14 p0 p1 p2 p3 p4) (.int (0 : Int32)) (.double (0 : UInt64)) (.int (0 : Int32)) h16 n0 z19 (own_Hc p0 p1 p2 p3 p4) (own_Hm p0 p1 p2 p3 p4) A16 F16_whenUnchanged g17 F16_tolerance F16_maxIterations) hZ (hw _ (List.mem_of_getElem? (i := 9) rfl)) (hw _ (List.mem_of_getElem? (i := 6) rfl)) (by decide) (by decide)) (g := (mkF m 100 #[.val (.int p0), .val (.int p1), .val (.int p2), .val (.int p3), .val (.int p4), .val (.int (v0_2 p0 p1 p2 p3 p4)), .val (.int (v0_4 p0 p1 p2 p3 p4)), .val (.int (v0_6 p0 p1 p2 p3 p4)), .val (.int (v0_7 p0 p1 p2 p3 p4)), .val (.double (v0_10 p0 p1 p2 p3 p4)), .second, .val (.double (v0_13 p0 p1 p2 p3 p4)), .second, .val (.int (v0_14 p0 p1 p2 p3 p4)), .unset, .unset] [(.int (v0_14 p0 p1 p2 p3 p4)), (.double (v0_10 p0 p1 p2 p3 p4)), (.int (v0_2 p0 p1 p2 p3 p4)), (.ref b16), (.ref b16)])) rfl (by rw [hml]; rfl) (Steps.refl _) (a := b16) (argsL := [(.int (v0_2 p0 p1 p2 p3 p4)), (.double (v0_10 p0 p1 p2 p3 p4)), (.int (v0_14 p0 p1 p2 p3 p4))]) (rest := [(.ref b16)]) (lenOf pd__ZDI_V rfl) rfl (by show 2 * 0 + _ ≤ _; exact Nat.le_of_eq rfl) (hb hby at_100) (fun _ _ => ⟨rfl, e16, (by decide : 1 + 0 ≤ _), (by decide : 3 + 0 ≤ _)⟩)
  dsimp only [Pt.U, Pt.locs, Pt.cells, Pt.slots] at X21 l21 y21 z21 st21 hQ21
  replace X21 := own_stand X21 l21 y21 z21
  clear l21 y21 z21
  have N21q := (show _ ∧ _ from hQ21).1
  have hq21 := (show _ ∧ _ from hQ21).2
  clear hQ21
  have hv21 := hq21.1
  have K21 := hq21.2.1
  have po21_0 := hq21.2.2.1
  have po21_1 := hq21.2.2.2.1
  have po21_2 := hq21.2.2.2.2.1
  have po21_3 := hq21.2.2.2.2.2
  clear hq21
  subst hv21
  have z22 : n0 ≤ T21.heap.size := Nat.le_trans z19 K21.1
  have hs23 : h0.size ≤ T21.heap.size := Nat.le_trans hs20 K21.1
  have N21 := Fr.app N0 N21q
  have pre24 : ∀ t, Steps p.tables e below (T21.setTop (mkF m 107 #[.val (.int p0), .val (.int p1), .val (.int p2), .val (.int p3), .val (.int p4), .val (.int (v0_2 p0 p1 p2 p3 p4)), .val (.int (v0_4 p0 p1 p2 p3 p4)), .val (.int (v0_6 p0 p1 p2 p3 p4)), .val (.int (v0_7 p0 p1 p2 p3 p4)), .val (.double (v0_10 p0 p1 p2 p3 p4)), .second, .val (.double (v0_13 p0 p1 p2 p3 p4)), .second, .val (.int (v0_14 p0 p1 p2 p3 p4)), .val (.ref b16), .unset] [(.int (v0_2 p0 p1 p2 p3 p4))])) t → Steps p.tables e below (s₁.setTop (entryFrame m #[(.int p0), (.int p1), (.int p2), (.int p3), (.int p4)] maxLocals)) t := by
    intro t k
    refine pre15 t ?_
    show Steps p.tables e below (s₁.setTop (mkF m 81 #[.val (.int p0), .val (.int p1), .val (.int p2), .val (.int p3), .val (.int p4), .val (.int (v0_2 p0 p1 p2 p3 p4)), .val (.int (v0_4 p0 p1 p2 p3 p4)), .val (.int (v0_6 p0 p1 p2 p3 p4)), .val (.int (v0_7 p0 p1 p2 p3 p4)), .val (.double (v0_10 p0 p1 p2 p3 p4)), .second, .unset, .unset, .unset, .unset, .unset] [(.double (v0_13 p0 p1 p2 p3 p4))])) _
    refine XS.dstore X0.here hx rfl (hb hby at_81) rfl (l' := #[.val (.int p0), .val (.int p1), .val (.int p2), .val (.int p3), .val (.int p4), .val (.int (v0_2 p0 p1 p2 p3 p4)), .val (.int (v0_4 p0 p1 p2 p3 p4)), .val (.int (v0_6 p0 p1 p2 p3 p4)), .val (.int (v0_7 p0 p1 p2 p3 p4)), .val (.double (v0_10 p0 p1 p2 p3 p4)), .second, .val (.double (v0_13 p0 p1 p2 p3 p4)), .second, .unset, .unset, .unset]) rfl ?_
    show Steps p.tables e below (s₁.setTop (mkF m 83 #[.val (.int p0), .val (.int p1), .val (.int p2), .val (.int p3), .val (.int p4), .val (.int (v0_2 p0 p1 p2 p3 p4)), .val (.int (v0_4 p0 p1 p2 p3 p4)), .val (.int (v0_6 p0 p1 p2 p3 p4)), .val (.int (v0_7 p0 p1 p2 p3 p4)), .val (.double (v0_10 p0 p1 p2 p3 p4)), .second, .val (.double (v0_13 p0 p1 p2 p3 p4)), .second, .unset, .unset, .unset] [])) _
    refine XS.iload X0.here hx rfl (hb hby at_83) rfl ?_
    show Steps p.tables e below (s₁.setTop (mkF m 85 #[.val (.int p0), .val (.int p1), .val (.int p2), .val (.int p3), .val (.int p4), .val (.int (v0_2 p0 p1 p2 p3 p4)), .val (.int (v0_4 p0 p1 p2 p3 p4)), .val (.int (v0_6 p0 p1 p2 p3 p4)), .val (.int (v0_7 p0 p1 p2 p3 p4)), .val (.double (v0_10 p0 p1 p2 p3 p4)), .second, .val (.double (v0_13 p0 p1 p2 p3 p4)), .second, .unset, .unset, .unset] [(.int p4)])) _
    refine X0.ldcI hx hown (mvT hZ (hw _ (List.mem_of_getElem? (i := 3) rfl))) rfl (hb hby at_85) ?_
    show Steps p.tables e below (s₁.setTop (mkF m 87 #[.val (.int p0), .val (.int p1), .val (.int p2), .val (.int p3), .val (.int p4), .val (.int (v0_2 p0 p1 p2 p3 p4)), .val (.int (v0_4 p0 p1 p2 p3 p4)), .val (.int (v0_6 p0 p1 p2 p3 p4)), .val (.int (v0_7 p0 p1 p2 p3 p4)), .val (.double (v0_10 p0 p1 p2 p3 p4)), .second, .val (.double (v0_13 p0 p1 p2 p3 p4)), .second, .unset, .unset, .unset] [(.int (2147483647 : Int32)), (.int p4)])) _
    refine XS.iand X0.here hx rfl (hb hby at_87) rfl ?_
    show Steps p.tables e below (s₁.setTop (mkF m 88 #[.val (.int p0), .val (.int p1), .val (.int p2), .val (.int p3), .val (.int p4), .val (.int (v0_2 p0 p1 p2 p3 p4)), .val (.int (v0_4 p0 p1 p2 p3 p4)), .val (.int (v0_6 p0 p1 p2 p3 p4)), .val (.int (v0_7 p0 p1 p2 p3 p4)), .val (.double (v0_10 p0 p1 p2 p3 p4)), .second, .val (.double (v0_13 p0 p1 p2 p3 p4)), .second, .unset, .unset, .unset] [(.int (p4 &&& (2147483647 : Int32)))])) _
    refine XS.istore X0.here hx rfl (hb hby at_88) rfl (l' := #[.val (.int p0), .val (.int p1), .val (.int p2), .val (.int p3), .val (.int p4), .val (.int (v0_2 p0 p1 p2 p3 p4)), .val (.int (v0_4 p0 p1 p2 p3 p4)), .val (.int (v0_6 p0 p1 p2 p3 p4)), .val (.int (v0_7 p0 p1 p2 p3 p4)), .val (.double (v0_10 p0 p1 p2 p3 p4)), .second, .val (.double (v0_13 p0 p1 p2 p3 p4)), .second, .val (.int (v0_14 p0 p1 p2 p3 p4)), .unset, .unset]) rfl ?_
    show Steps p.tables e below (s₁.setTop (mkF m 90 #[.val (.int p0), .val (.int p1), .val (.int p2), .val (.int p3), .val (.int p4), .val (.int (v0_2 p0 p1 p2 p3 p4)), .val (.int (v0_4 p0 p1 p2 p3 p4)), .val (.int (v0_6 p0 p1 p2 p3 p4)), .val (.int (v0_7 p0 p1 p2 p3 p4)), .val (.double (v0_10 p0 p1 p2 p3 p4)), .second, .val (.double (v0_13 p0 p1 p2 p3 p4)), .second, .val (.int (v0_14 p0 p1 p2 p3 p4)), .unset, .unset] [])) _
    refine st16 _ ?_
    show Steps p.tables e below (T16.setTop (mkF m 93 #[.val (.int p0), .val (.int p1), .val (.int p2), .val (.int p3), .val (.int p4), .val (.int (v0_2 p0 p1 p2 p3 p4)), .val (.int (v0_4 p0 p1 p2 p3 p4)), .val (.int (v0_6 p0 p1 p2 p3 p4)), .val (.int (v0_7 p0 p1 p2 p3 p4)), .val (.double (v0_10 p0 p1 p2 p3 p4)), .second, .val (.double (v0_13 p0 p1 p2 p3 p4)), .second, .val (.int (v0_14 p0 p1 p2 p3 p4)), .unset, .unset] [(.ref b16)])) _
    refine XS.dup X16.here hx rfl (hb hby at_93) rfl rfl ?_
    show Steps p.tables e below (T16.setTop (mkF m 94 #[.val (.int p0), .val (.int p1), .val (.int p2), .val (.int p3), .val (.int p4), .val (.int (v0_2 p0 p1 p2 p3 p4)), .val (.int (v0_4 p0 p1 p2 p3 p4)), .val (.int (v0_6 p0 p1 p2 p3 p4)), .val (.int (v0_7 p0 p1 p2 p3 p4)), .val (.double (v0_10 p0 p1 p2 p3 p4)), .second, .val (.double (v0_13 p0 p1 p2 p3 p4)), .second, .val (.int (v0_14 p0 p1 p2 p3 p4)), .unset, .unset] [(.ref b16), (.ref b16)])) _
    refine XS.iload X16.here hx rfl (hb hby at_94) rfl ?_
    show Steps p.tables e below (T16.setTop (mkF m 96 #[.val (.int p0), .val (.int p1), .val (.int p2), .val (.int p3), .val (.int p4), .val (.int (v0_2 p0 p1 p2 p3 p4)), .val (.int (v0_4 p0 p1 p2 p3 p4)), .val (.int (v0_6 p0 p1 p2 p3 p4)), .val (.int (v0_7 p0 p1 p2 p3 p4)), .val (.double (v0_10 p0 p1 p2 p3 p4)), .second, .val (.double (v0_13 p0 p1 p2 p3 p4)), .second, .val (.int (v0_14 p0 p1 p2 p3 p4)), .unset, .unset] [(.int (v0_2 p0 p1 p2 p3 p4)), (.ref b16), (.ref b16)])) _
    refine XS.dload X16.here hx rfl (hb hby at_96) rfl ?_
    show Steps p.tables e below (T16.setTop (mkF m 98 #[.val (.int p0), .val (.int p1), .val (.int p2), .val (.int p3), .val (.int p4), .val (.int (v0_2 p0 p1 p2 p3 p4)), .val (.int (v0_4 p0 p1 p2 p3 p4)), .val (.int (v0_6 p0 p1 p2 p3 p4)), .val (.int (v0_7 p0 p1 p2 p3 p4)), .val (.double (v0_10 p0 p1 p2 p3 p4)), .second, .val (.double (v0_13 p0 p1 p2 p3 p4)), .second, .val (.int (v0_14 p0 p1 p2 p3 p4)), .unset, .unset] [(.double (v0_10 p0 p1 p2 p3 p4)), (.int (v0_2 p0 p1 p2 p3 p4)), (.ref b16), (.ref b16)])) _
    refine XS.iload X16.here hx rfl (hb hby at_98) rfl ?_
    show Steps p.tables e below (T16.setTop (mkF m 100 #[.val (.int p0), .val (.int p1), .val (.int p2), .val (.int p3), .val (.int p4), .val (.int (v0_2 p0 p1 p2 p3 p4)), .val (.int (v0_4 p0 p1 p2 p3 p4)), .val (.int (v0_6 p0 p1 p2 p3 p4)), .val (.int (v0_7 p0 p1 p2 p3 p4)), .val (.double (v0_10 p0 p1 p2 p3 p4)), .second, .val (.double (v0_13 p0 p1 p2 p3 p4)), .second, .val (.int (v0_14 p0 p1 p2 p3 p4)), .unset, .unset] [(.int (v0_14 p0 p1 p2 p3 p4)), (.double (v0_10 p0 p1 p2 p3 p4)), (.int (v0_2 p0 p1 p2 p3 p4)), (.ref b16), (.ref b16)])) _
    refine st21.trans ?_
    show Steps p.tables e below (T21.setTop (mkF m 103 #[.val (.int p0), .val (.int p1), .val (.int p2), .val (.int p3), .val (.int p4), .val (.int (v0_2 p0 p1 p2 p3 p4)), .val (.int (v0_4 p0 p1 p2 p3 p4)), .val (.int (v0_6 p0 p1 p2 p3 p4)), .val (.int (v0_7 p0 p1 p2 p3 p4)), .val (.double (v0_10 p0 p1 p2 p3 p4)), .second, .val (.double (v0_13 p0 p1 p2 p3 p4)), .second, .val (.int (v0_14 p0 p1 p2 p3 p4)), .unset, .unset] [(.ref b16)])) _
    refine XS.astore X21.here hx rfl (hb hby at_103) rfl rfl (l' := #[.val (.int p0), .val (.int p1), .val (.int p2), .val (.int p3), .val (.int p4), .val (.int (v0_2 p0 p1 p2 p3 p4)), .val (.int (v0_4 p0 p1 p2 p3 p4)), .val (.int (v0_6 p0 p1 p2 p3 p4)), .val (.int (v0_7 p0 p1 p2 p3 p4)), .val (.double (v0_10 p0 p1 p2 p3 p4)), .second, .val (.double (v0_13 p0 p1 p2 p3 p4)), .second, .val (.int (v0_14 p0 p1 p2 p3 p4)), .val (.ref b16), .unset]) rfl ?_
    show Steps p.tables e below (T21.setTop (mkF m 105 #[.val (.int p0), .val (.int p1), .val (.int p2), .val (.int p3), .val (.int p4), .val (.int (v0_2 p0 p1 p2 p3 p4)), .val (.int (v0_4 p0 p1 p2 p3 p4)), .val (.int (v0_6 p0 p1 p2 p3 p4)), .val (.int (v0_7 p0 p1 p2 p3 p4)), .val (.double (v0_10 p0 p1 p2 p3 p4)), .second, .val (.double (v0_13 p0 p1 p2 p3 p4)), .second, .val (.int (v0_14 p0 p1 p2 p3 p4)), .val (.ref b16), .unset] [])) _
    refine XS.iload X21.here hx rfl (hb hby at_105) rfl ?_
    exact k
  clear pre15 st16 st21
  have pre42 : ∀ t, Steps p.tables e below (T21.setTop (mkF m 163 #[.val (.int p0), .val (.int p1), .val (.int p2), .val (.int p3), .val (.int p4), .val (.int (v0_2 p0 p1 p2 p3 p4)), .val (.int (v0_4 p0 p1 p2 p3 p4)), .val (.int (v0_6 p0 p1 p2 p3 p4)), .val (.int (v0_7 p0 p1 p2 p3 p4)), .val (.double (v0_10 p0 p1 p2 p3 p4)), .second, .val (.double (v0_13 p0 p1 p2 p3 p4)), .second, .val (.int (v0_14 p0 p1 p2 p3 p4)), .val (.ref b16), .val (.int (v0_23 p0 p1 p2 p3 p4))] [])) t → Steps p.tables e below (s₁.setTop (entryFrame m #[(.int p0), (.int p1), (.int p2), (.int p3), (.int p4)] maxLocals)) t := by
    intro t k
    by_cases c25 : (v0_2 p0 p1 p2 p3 p4) = (0 : Int32)
    · skip
      have pre26 : ∀ t, Steps p.tables e below (T21.setTop (mkF m 125 #[.val (.int p0), .val (.int p1), .val (.int p2), .val (.int p3), .val (.int p4), .val (.int (v0_2 p0 p1 p2 p3 p4)), .val (.int (v0_4 p0 p1 p2 p3 p4)), .val (.int (v0_6 p0 p1 p2 p3 p4)), .val (.int (v0_7 p0 p1 p2 p3 p4)), .val (.double (v0_10 p0 p1 p2 p3 p4)), .second, .val (.double (v0_13 p0 p1 p2 p3 p4)), .second, .val (.int (v0_14 p0 p1 p2 p3 p4)), .val (.ref b16), .unset] [(.int (cmpValue (FP.dcmp (v0_10 p0 p1 p2 p3 p4) FP.dconst0) .l))])) t → Steps p.tables e below (s₁.setTop (entryFrame m #[(.int p0), (.int p1), (.int p2), (.int p3), (.int p4)] maxLocals)) t := by
        intro t k
        refine pre24 t ?_
        show Steps p.tables e below (T21.setTop (mkF m 107 #[.val (.int p0), .val (.int p1), .val (.int p2), .val (.int p3), .val (.int p4), .val (.int (v0_2 p0 p1 p2 p3 p4)), .val (.int (v0_4 p0 p1 p2 p3 p4)), .val (.int (v0_6 p0 p1 p2 p3 p4)), .val (.int (v0_7 p0 p1 p2 p3 p4)), .val (.double (v0_10 p0 p1 p2 p3 p4)), .second, .val (.double (v0_13 p0 p1 p2 p3 p4)), .second, .val (.int (v0_14 p0 p1 p2 p3 p4)), .val (.ref b16), .unset] [(.int (v0_2 p0 p1 p2 p3 p4))])) _
        refine XS.ifYes X21.here hx rfl (pc0 := 107) (pc' := 121) rfl (hb hby at_107) rfl (XT.i0_eq_t c25) (by decide) (by decide) ?_
        show Steps p.tables e below (T21.setTop (mkF m 121 #[.val (.int p0), .val (.int p1), .val (.int p2), .val (.int p3), .val (.int p4), .val (.int (v0_2 p0 p1 p2 p3 p4)), .val (.int (v0_4 p0 p1 p2 p3 p4)), .val (.int (v0_6 p0 p1 p2 p3 p4)), .val (.int (v0_7 p0 p1 p2 p3 p4)), .val (.double (v0_10 p0 p1 p2 p3 p4)), .second, .val (.double (v0_13 p0 p1 p2 p3 p4)), .second, .val (.int (v0_14 p0 p1 p2 p3 p4)), .val (.ref b16), .unset] [])) _
        refine XS.dload X21.here hx rfl (hb hby at_121) rfl ?_
        show Steps p.tables e below (T21.setTop (mkF m 123 #[.val (.int p0), .val (.int p1), .val (.int p2), .val (.int p3), .val (.int p4), .val (.int (v0_2 p0 p1 p2 p3 p4)), .val (.int (v0_4 p0 p1 p2 p3 p4)), .val (.int (v0_6 p0 p1 p2 p3 p4)), .val (.int (v0_7 p0 p1 p2 p3 p4)), .val (.double (v0_10 p0 p1 p2 p3 p4)), .second, .val (.double (v0_13 p0 p1 p2 p3 p4)), .second, .val (.int (v0_14 p0 p1 p2 p3 p4)), .val (.ref b16), .unset] [(.double (v0_10 p0 p1 p2 p3 p4))])) _
        refine XS.dconst0 X21.here hx rfl (hb hby at_123) rfl ?_
        show Steps p.tables e below (T21.setTop (mkF m 124 #[.val (.int p0), .val (.int p1), .val (.int p2), .val (.int p3), .val (.int p4), .val (.int (v0_2 p0 p1 p2 p3 p4)), .val (.int (v0_4 p0 p1 p2 p3 p4)), .val (.int (v0_6 p0 p1 p2 p3 p4)), .val (.int (v0_7 p0 p1 p2 p3 p4)), .val (.double (v0_10 p0 p1 p2 p3 p4)), .second, .val (.double (v0_13 p0 p1 p2 p3 p4)), .second, .val (.int (v0_14 p0 p1 p2 p3 p4)), .val (.ref b16), .unset] [(.double FP.dconst0), (.double (v0_10 p0 p1 p2 p3 p4))])) _
        refine XS.dcmpS X21.here hx rfl (hb hby at_124) rfl rfl ?_
        exact k
      clear pre24
      by_cases c27 : (v0_15 p0 p1 p2 p3 p4) = (0 : Int32)
      · skip
        rw [show (v0_23 p0 p1 p2 p3 p4) = (0 : Int32) from ((if_pos c25).trans (if_pos c27))] at k
        refine pre26 t ?_
        show Steps p.tables e below (T21.setTop (mkF m 125 #[.val (.int p0), .val (.int p1), .val (.int p2), .val (.int p3), .val (.int p4), .val (.int (v0_2 p0 p1 p2 p3 p4)), .val (.int (v0_4 p0 p1 p2 p3 p4)), .val (.int (v0_6 p0 p1 p2 p3 p4)), .val (.int (v0_7 p0 p1 p2 p3 p4)), .val (.double (v0_10 p0 p1 p2 p3 p4)), .second, .val (.double (v0_13 p0 p1 p2 p3 p4)), .second, .val (.int (v0_14 p0 p1 p2 p3 p4)), .val (.ref b16), .unset] [(.int (cmpValue (FP.dcmp (v0_10 p0 p1 p2 p3 p4) FP.dconst0) .l))])) _
        refine XS.ifNo X21.here hx rfl (hb hby at_125) rfl (XT.i0_ne_f c27) ?_
        show Steps p.tables e below (T21.setTop (mkF m 128 #[.val (.int p0), .val (.int p1), .val (.int p2), .val (.int p3), .val (.int p4), .val (.int (v0_2 p0 p1 p2 p3 p4)), .val (.int (v0_4 p0 p1 p2 p3 p4)), .val (.int (v0_6 p0 p1 p2 p3 p4)), .val (.int (v0_7 p0 p1 p2 p3 p4)), .val (.double (v0_10 p0 p1 p2 p3 p4)), .second, .val (.double (v0_13 p0 p1 p2 p3 p4)), .second, .val (.int (v0_14 p0 p1 p2 p3 p4)), .val (.ref b16), .unset] [])) _
        refine XT.iconstV X21.here hx rfl (0 : Int32) (hb hby at_128) (by decide) ?_
        show Steps p.tables e below (T21.setTop (mkF m 129 #[.val (.int p0), .val (.int p1), .val (.int p2), .val (.int p3), .val (.int p4), .val (.int (v0_2 p0 p1 p2 p3 p4)), .val (.int (v0_4 p0 p1 p2 p3 p4)), .val (.int (v0_6 p0 p1 p2 p3 p4)), .val (.int (v0_7 p0 p1 p2 p3 p4)), .val (.double (v0_10 p0 p1 p2 p3 p4)), .second, .val (.double (v0_13 p0 p1 p2 p3 p4)), .second, .val (.int (v0_14 p0 p1 p2 p3 p4)), .val (.ref b16), .unset] [(.int (0 : Int32))])) _
        refine XS.istore X21.here hx rfl (hb hby at_129) rfl (l' := #[.val (.int p0), .val (.int p1), .val (.int p2), .val (.int p3), .val (.int p4), .val (.int (v0_2 p0 p1 p2 p3 p4)), .val (.int (v0_4 p0 p1 p2 p3 p4)), .val (.int (v0_6 p0 p1 p2 p3 p4)), .val (.int (v0_7 p0 p1 p2 p3 p4)), .val (.double (v0_10 p0 p1 p2 p3 p4)), .second, .val (.double (v0_13 p0 p1 p2 p3 p4)), .second, .val (.int (v0_14 p0 p1 p2 p3 p4)), .val (.ref b16), .val (.int (0 : Int32))]) rfl ?_
        show Steps p.tables e below (T21.setTop (mkF m 131 #[.val (.int p0), .val (.int p1), .val (.int p2), .val (.int p3), .val (.int p4), .val (.int (v0_2 p0 p1 p2 p3 p4)), .val (.int (v0_4 p0 p1 p2 p3 p4)), .val (.int (v0_6 p0 p1 p2 p3 p4)), .val (.int (v0_7 p0 p1 p2 p3 p4)), .val (.double (v0_10 p0 p1 p2 p3 p4)), .second, .val (.double (v0_13 p0 p1 p2 p3 p4)), .second, .val (.int (v0_14 p0 p1 p2 p3 p4)), .val (.ref b16), .val (.int (0 : Int32))] [])) _
        refine XS.goto X21.here hx rfl (pc0 := 131) (pc' := 163) rfl (hb hby at_131) (by decide) (by decide) ?_
        exact k
      · skip
        have pre28 : ∀ t, Steps p.tables e below (T21.setTop (mkF m 139 #[.val (.int p0), .val (.int p1), .val (.int p2), .val (.int p3), .val (.int p4), .val (.int (v0_2 p0 p1 p2 p3 p4)), .val (.int (v0_4 p0 p1 p2 p3 p4)), .val (.int (v0_6 p0 p1 p2 p3 p4)), .val (.int (v0_7 p0 p1 p2 p3 p4)), .val (.double (v0_10 p0 p1 p2 p3 p4)), .second, .val (.double (v0_13 p0 p1 p2 p3 p4)), .second, .val (.int (v0_14 p0 p1 p2 p3 p4)), .val (.ref b16), .unset] [(.int (cmpValue (FP.dcmp (v0_13 p0 p1 p2 p3 p4) (v0_10 p0 p1 p2 p3 p4)) .l))])) t → Steps p.tables e below (s₁.setTop (entryFrame m #[(.int p0), (.int p1), (.int p2), (.int p3), (.int p4)] maxLocals)) t := by
          intro t k
          refine pre26 t ?_
          show Steps p.tables e below (T21.setTop (mkF m 125 #[.val (.int p0), .val (.int p1), .val (.int p2), .val (.int p3), .val (.int p4), .val (.int (v0_2 p0 p1 p2 p3 p4)), .val (.int (v0_4 p0 p1 p2 p3 p4)), .val (.int (v0_6 p0 p1 p2 p3 p4)), .val (.int (v0_7 p0 p1 p2 p3 p4)), .val (.double (v0_10 p0 p1 p2 p3 p4)), .second, .val (.double (v0_13 p0 p1 p2 p3 p4)), .second, .val (.int (v0_14 p0 p1 p2 p3 p4)), .val (.ref b16), .unset] [(.int (cmpValue (FP.dcmp (v0_10 p0 p1 p2 p3 p4) FP.dconst0) .l))])) _
          refine XS.ifYes X21.here hx rfl (pc0 := 125) (pc' := 134) rfl (hb hby at_125) rfl (XT.i0_ne_t c27) (by decide) (by decide) ?_
          show Steps p.tables e below (T21.setTop (mkF m 134 #[.val (.int p0), .val (.int p1), .val (.int p2), .val (.int p3), .val (.int p4), .val (.int (v0_2 p0 p1 p2 p3 p4)), .val (.int (v0_4 p0 p1 p2 p3 p4)), .val (.int (v0_6 p0 p1 p2 p3 p4)), .val (.int (v0_7 p0 p1 p2 p3 p4)), .val (.double (v0_10 p0 p1 p2 p3 p4)), .second, .val (.double (v0_13 p0 p1 p2 p3 p4)), .second, .val (.int (v0_14 p0 p1 p2 p3 p4)), .val (.ref b16), .unset] [])) _
          refine XS.dload X21.here hx rfl (hb hby at_134) rfl ?_
          show Steps p.tables e below (T21.setTop (mkF m 136 #[.val (.int p0), .val (.int p1), .val (.int p2), .val (.int p3), .val (.int p4), .val (.int (v0_2 p0 p1 p2 p3 p4)), .val (.int (v0_4 p0 p1 p2 p3 p4)), .val (.int (v0_6 p0 p1 p2 p3 p4)), .val (.int (v0_7 p0 p1 p2 p3 p4)), .val (.double (v0_10 p0 p1 p2 p3 p4)), .second, .val (.double (v0_13 p0 p1 p2 p3 p4)), .second, .val (.int (v0_14 p0 p1 p2 p3 p4)), .val (.ref b16), .unset] [(.double (v0_13 p0 p1 p2 p3 p4))])) _
          refine XS.dload X21.here hx rfl (hb hby at_136) rfl ?_
          show Steps p.tables e below (T21.setTop (mkF m 138 #[.val (.int p0), .val (.int p1), .val (.int p2), .val (.int p3), .val (.int p4), .val (.int (v0_2 p0 p1 p2 p3 p4)), .val (.int (v0_4 p0 p1 p2 p3 p4)), .val (.int (v0_6 p0 p1 p2 p3 p4)), .val (.int (v0_7 p0 p1 p2 p3 p4)), .val (.double (v0_10 p0 p1 p2 p3 p4)), .second, .val (.double (v0_13 p0 p1 p2 p3 p4)), .second, .val (.int (v0_14 p0 p1 p2 p3 p4)), .val (.ref b16), .unset] [(.double (v0_10 p0 p1 p2 p3 p4)), (.double (v0_13 p0 p1 p2 p3 p4))])) _
          refine XS.dcmpS X21.here hx rfl (hb hby at_138) rfl rfl ?_
          exact k
        clear pre26
        by_cases c29 : (v0_16 p0 p1 p2 p3 p4) = (0 : Int32)
        · skip
          rw [show (v0_23 p0 p1 p2 p3 p4) = (0 : Int32) from (((if_pos c25).trans (if_neg c27)).trans (if_pos c29))] at k
          refine pre28 t ?_
          show Steps p.tables e below (T21.setTop (mkF m 139 #[.val (.int p0), .val (.int p1), .val (.int p2), .val (.int p3), .val (.int p4), .val (.int (v0_2 p0 p1 p2 p3 p4)), .val (.int (v0_4 p0 p1 p2 p3 p4)), .val (.int (v0_6 p0 p1 p2 p3 p4)), .val (.int (v0_7 p0 p1 p2 p3 p4)), .val (.double (v0_10 p0 p1 p2 p3 p4)), .second, .val (.double (v0_13 p0 p1 p2 p3 p4)), .second, .val (.int (v0_14 p0 p1 p2 p3 p4)), .val (.ref b16), .unset] [(.int (cmpValue (FP.dcmp (v0_13 p0 p1 p2 p3 p4) (v0_10 p0 p1 p2 p3 p4)) .l))])) _
          refine XS.ifNo X21.here hx rfl (hb hby at_139) rfl (XT.i0_ne_f c29) ?_
          show Steps p.tables e below (T21.setTop (mkF m 142 #[.val (.int p0), .val (.int p1), .val (.int p2), .val (.int p3), .val (.int p4), .val (.int (v0_2 p0 p1 p2 p3 p4)), .val (.int (v0_4 p0 p1 p2 p3 p4)), .val (.int (v0_6 p0 p1 p2 p3 p4)), .val (.int (v0_7 p0 p1 p2 p3 p4)), .val (.double (v0_10 p0 p1 p2 p3 p4)), .second, .val (.double (v0_13 p0 p1 p2 p3 p4)), .second, .val (.int (v0_14 p0 p1 p2 p3 p4)), .val (.ref b16), .unset] [])) _
          refine XT.iconstV X21.here hx rfl (0 : Int32) (hb hby at_142) (by decide) ?_
          show Steps p.tables e below (T21.setTop (mkF m 143 #[.val (.int p0), .val (.int p1), .val (.int p2), .val (.int p3), .val (.int p4), .val (.int (v0_2 p0 p1 p2 p3 p4)), .val (.int (v0_4 p0 p1 p2 p3 p4)), .val (.int (v0_6 p0 p1 p2 p3 p4)), .val (.int (v0_7 p0 p1 p2 p3 p4)), .val (.double (v0_10 p0 p1 p2 p3 p4)), .second, .val (.double (v0_13 p0 p1 p2 p3 p4)), .second, .val (.int (v0_14 p0 p1 p2 p3 p4)), .val (.ref b16), .unset] [(.int (0 : Int32))])) _
          refine XS.istore X21.here hx rfl (hb hby at_143) rfl (l' := #[.val (.int p0), .val (.int p1), .val (.int p2), .val (.int p3), .val (.int p4), .val (.int (v0_2 p0 p1 p2 p3 p4)), .val (.int (v0_4 p0 p1 p2 p3 p4)), .val (.int (v0_6 p0 p1 p2 p3 p4)), .val (.int (v0_7 p0 p1 p2 p3 p4)), .val (.double (v0_10 p0 p1 p2 p3 p4)), .second, .val (.double (v0_13 p0 p1 p2 p3 p4)), .second, .val (.int (v0_14 p0 p1 p2 p3 p4)), .val (.ref b16), .val (.int (0 : Int32))]) rfl ?_
          show Steps p.tables e below (T21.setTop (mkF m 145 #[.val (.int p0), .val (.int p1), .val (.int p2), .val (.int p3), .val (.int p4), .val (.int (v0_2 p0 p1 p2 p3 p4)), .val (.int (v0_4 p0 p1 p2 p3 p4)), .val (.int (v0_6 p0 p1 p2 p3 p4)), .val (.int (v0_7 p0 p1 p2 p3 p4)), .val (.double (v0_10 p0 p1 p2 p3 p4)), .second, .val (.double (v0_13 p0 p1 p2 p3 p4)), .second, .val (.int (v0_14 p0 p1 p2 p3 p4)), .val (.ref b16), .val (.int (0 : Int32))] [])) _
          refine XS.goto X21.here hx rfl (pc0 := 145) (pc' := 163) rfl (hb hby at_145) (by decide) (by decide) ?_
          exact k
        · skip
          have pre30 : ∀ t, Steps p.tables e below (T21.setTop (mkF m 153 #[.val (.int p0), .val (.int p1), .val (.int p2), .val (.int p3), .val (.int p4), .val (.int (v0_2 p0 p1 p2 p3 p4)), .val (.int (v0_4 p0 p1 p2 p3 p4)), .val (.int (v0_6 p0 p1 p2 p3 p4)), .val (.int (v0_7 p0 p1 p2 p3 p4)), .val (.double (v0_10 p0 p1 p2 p3 p4)), .second, .val (.double (v0_13 p0 p1 p2 p3 p4)), .second, .val (.int (v0_14 p0 p1 p2 p3 p4)), .val (.ref b16), .unset] [(.int (cmpValue (FP.dcmp (v0_13 p0 p1 p2 p3 p4) (v0_10 p0 p1 p2 p3 p4)) .g))])) t → Steps p.tables e below (s₁.setTop (entryFrame m #[(.int p0), (.int p1), (.int p2), (.int p3), (.int p4)] maxLocals)) t := by
            intro t k
            refine pre28 t ?_
            show Steps p.tables e below (T21.setTop (mkF m 139 #[.val (.int p0), .val (.int p1), .val (.int p2), .val (.int p3), .val (.int p4), .val (.int (v0_2 p0 p1 p2 p3 p4)), .val (.int (v0_4 p0 p1 p2 p3 p4)), .val (.int (v0_6 p0 p1 p2 p3 p4)), .val (.int (v0_7 p0 p1 p2 p3 p4)), .val (.double (v0_10 p0 p1 p2 p3 p4)), .second, .val (.double (v0_13 p0 p1 p2 p3 p4)), .second, .val (.int (v0_14 p0 p1 p2 p3 p4)), .val (.ref b16), .unset] [(.int (cmpValue (FP.dcmp (v0_13 p0 p1 p2 p3 p4) (v0_10 p0 p1 p2 p3 p4)) .l))])) _
            refine XS.ifYes X21.here hx rfl (pc0 := 139) (pc' := 148) rfl (hb hby at_139) rfl (XT.i0_ne_t c29) (by decide) (by decide) ?_
            show Steps p.tables e below (T21.setTop (mkF m 148 #[.val (.int p0), .val (.int p1), .val (.int p2), .val (.int p3), .val (.int p4), .val (.int (v0_2 p0 p1 p2 p3 p4)), .val (.int (v0_4 p0 p1 p2 p3 p4)), .val (.int (v0_6 p0 p1 p2 p3 p4)), .val (.int (v0_7 p0 p1 p2 p3 p4)), .val (.double (v0_10 p0 p1 p2 p3 p4)), .second, .val (.double (v0_13 p0 p1 p2 p3 p4)), .second, .val (.int (v0_14 p0 p1 p2 p3 p4)), .val (.ref b16), .unset] [])) _
            refine XS.dload X21.here hx rfl (hb hby at_148) rfl ?_
            show Steps p.tables e below (T21.setTop (mkF m 150 #[.val (.int p0), .val (.int p1), .val (.int p2), .val (.int p3), .val (.int p4), .val (.int (v0_2 p0 p1 p2 p3 p4)), .val (.int (v0_4 p0 p1 p2 p3 p4)), .val (.int (v0_6 p0 p1 p2 p3 p4)), .val (.int (v0_7 p0 p1 p2 p3 p4)), .val (.double (v0_10 p0 p1 p2 p3 p4)), .second, .val (.double (v0_13 p0 p1 p2 p3 p4)), .second, .val (.int (v0_14 p0 p1 p2 p3 p4)), .val (.ref b16), .unset] [(.double (v0_13 p0 p1 p2 p3 p4))])) _
            refine XS.dload X21.here hx rfl (hb hby at_150) rfl ?_
            show Steps p.tables e below (T21.setTop (mkF m 152 #[.val (.int p0), .val (.int p1), .val (.int p2), .val (.int p3), .val (.int p4), .val (.int (v0_2 p0 p1 p2 p3 p4)), .val (.int (v0_4 p0 p1 p2 p3 p4)), .val (.int (v0_6 p0 p1 p2 p3 p4)), .val (.int (v0_7 p0 p1 p2 p3 p4)), .val (.double (v0_10 p0 p1 p2 p3 p4)), .second, .val (.double (v0_13 p0 p1 p2 p3 p4)), .second, .val (.int (v0_14 p0 p1 p2 p3 p4)), .val (.ref b16), .unset] [(.double (v0_10 p0 p1 p2 p3 p4)), (.double (v0_13 p0 p1 p2 p3 p4))])) _
            refine XS.dcmpS X21.here hx rfl (hb hby at_152) rfl rfl ?_
            exact k
          clear pre28
          have pre32 : ∀ t, Steps p.tables e below (T21.setTop (mkF m 161 #[.val (.int p0), .val (.int p1), .val (.int p2), .val (.int p3), .val (.int p4), .val (.int (v0_2 p0 p1 p2 p3 p4)), .val (.int (v0_4 p0 p1 p2 p3 p4)), .val (.int (v0_6 p0 p1 p2 p3 p4)), .val (.int (v0_7 p0 p1 p2 p3 p4)), .val (.double (v0_10 p0 p1 p2 p3 p4)), .second, .val (.double (v0_13 p0 p1 p2 p3 p4)), .second, .val (.int (v0_14 p0 p1 p2 p3 p4)), .val (.ref b16), .unset] [(.int (v0_18 p0 p1 p2 p3 p4))])) t → Steps p.tables e below (s₁.setTop (entryFrame m #[(.int p0), (.int p1), (.int p2), (.int p3), (.int p4)] maxLocals)) t := by
            intro t k
            by_cases c31 : (v0_17 p0 p1 p2 p3 p4) < (0 : Int32)
            · skip
              rw [show (v0_18 p0 p1 p2 p3 p4) = (1 : Int32) from (if_pos c31)] at k
              refine pre30 t ?_
              show Steps p.tables e below (T21.setTop (mkF m 153 #[.val (.int p0), .val (.int p1), .val (.int p2), .val (.int p3), .val (.int p4), .val (.int (v0_2 p0 p1 p2 p3 p4)), .val (.int (v0_4 p0 p1 p2 p3 p4)), .val (.int (v0_6 p0 p1 p2 p3 p4)), .val (.int (v0_7 p0 p1 p2 p3 p4)), .val (.double (v0_10 p0 p1 p2 p3 p4)), .second, .val (.double (v0_13 p0 p1 p2 p3 p4)), .second, .val (.int (v0_14 p0 p1 p2 p3 p4)), .val (.ref b16), .unset] [(.int (cmpValue (FP.dcmp (v0_13 p0 p1 p2 p3 p4) (v0_10 p0 p1 p2 p3 p4)) .g))])) _
              refine XS.ifNo X21.here hx rfl (hb hby at_153) rfl (XT.i0_ge_f c31) ?_
              show Steps p.tables e below (T21.setTop (mkF m 156 #[.val (.int p0), .val (.int p1), .val (.int p2), .val (.int p3), .val (.int p4), .val (.int (v0_2 p0 p1 p2 p3 p4)), .val (.int (v0_4 p0 p1 p2 p3 p4)), .val (.int (v0_6 p0 p1 p2 p3 p4)), .val (.int (v0_7 p0 p1 p2 p3 p4)), .val (.double (v0_10 p0 p1 p2 p3 p4)), .second, .val (.double (v0_13 p0 p1 p2 p3 p4)), .second, .val (.int (v0_14 p0 p1 p2 p3 p4)), .val (.ref b16), .unset] [])) _
              refine XT.iconstV X21.here hx rfl (1 : Int32) (hb hby at_156) (by decide) ?_
              show Steps p.tables e below (T21.setTop (mkF m 157 #[.val (.int p0), .val (.int p1), .val (.int p2), .val (.int p3), .val (.int p4), .val (.int (v0_2 p0 p1 p2 p3 p4)), .val (.int (v0_4 p0 p1 p2 p3 p4)), .val (.int (v0_6 p0 p1 p2 p3 p4)), .val (.int (v0_7 p0 p1 p2 p3 p4)), .val (.double (v0_10 p0 p1 p2 p3 p4)), .second, .val (.double (v0_13 p0 p1 p2 p3 p4)), .second, .val (.int (v0_14 p0 p1 p2 p3 p4)), .val (.ref b16), .unset] [(.int (1 : Int32))])) _
              refine XS.goto X21.here hx rfl (pc0 := 157) (pc' := 161) rfl (hb hby at_157) (by decide) (by decide) ?_
              exact k
            · skip
              rw [show (v0_18 p0 p1 p2 p3 p4) = (0 : Int32) from (if_neg c31)] at k
              refine pre30 t ?_
              show Steps p.tables e below (T21.setTop (mkF m 153 #[.val (.int p0), .val (.int p1), .val (.int p2), .val (.int p3), .val (.int p4), .val (.int (v0_2 p0 p1 p2 p3 p4)), .val (.int (v0_4 p0 p1 p2 p3 p4)), .val (.int (v0_6 p0 p1 p2 p3 p4)), .val (.int (v0_7 p0 p1 p2 p3 p4)), .val (.double (v0_10 p0 p1 p2 p3 p4)), .second, .val (.double (v0_13 p0 p1 p2 p3 p4)), .second, .val (.int (v0_14 p0 p1 p2 p3 p4)), .val (.ref b16), .unset] [(.int (cmpValue (FP.dcmp (v0_13 p0 p1 p2 p3 p4) (v0_10 p0 p1 p2 p3 p4)) .g))])) _
              refine XS.ifYes X21.here hx rfl (pc0 := 153) (pc' := 160) rfl (hb hby at_153) rfl (XT.i0_ge_t c31) (by decide) (by decide) ?_
              show Steps p.tables e below (T21.setTop (mkF m 160 #[.val (.int p0), .val (.int p1), .val (.int p2), .val (.int p3), .val (.int p4), .val (.int (v0_2 p0 p1 p2 p3 p4)), .val (.int (v0_4 p0 p1 p2 p3 p4)), .val (.int (v0_6 p0 p1 p2 p3 p4)), .val (.int (v0_7 p0 p1 p2 p3 p4)), .val (.double (v0_10 p0 p1 p2 p3 p4)), .second, .val (.double (v0_13 p0 p1 p2 p3 p4)), .second, .val (.int (v0_14 p0 p1 p2 p3 p4)), .val (.ref b16), .unset] [])) _
              refine XT.iconstV X21.here hx rfl (0 : Int32) (hb hby at_160) (by decide) ?_
              exact k
          rw [show (v0_23 p0 p1 p2 p3 p4) = (v0_18 p0 p1 p2 p3 p4) from (((if_pos c25).trans (if_neg c27)).trans (if_neg c29))] at k
          refine pre32 t ?_
          show Steps p.tables e below (T21.setTop (mkF m 161 #[.val (.int p0), .val (.int p1), .val (.int p2), .val (.int p3), .val (.int p4), .val (.int (v0_2 p0 p1 p2 p3 p4)), .val (.int (v0_4 p0 p1 p2 p3 p4)), .val (.int (v0_6 p0 p1 p2 p3 p4)), .val (.int (v0_7 p0 p1 p2 p3 p4)), .val (.double (v0_10 p0 p1 p2 p3 p4)), .second, .val (.double (v0_13 p0 p1 p2 p3 p4)), .second, .val (.int (v0_14 p0 p1 p2 p3 p4)), .val (.ref b16), .unset] [(.int (v0_18 p0 p1 p2 p3 p4))])) _
          refine XS.istore X21.here hx rfl (hb hby at_161) rfl (l' := #[.val (.int p0), .val (.int p1), .val (.int p2), .val (.int p3), .val (.int p4), .val (.int (v0_2 p0 p1 p2 p3 p4)), .val (.int (v0_4 p0 p1 p2 p3 p4)), .val (.int (v0_6 p0 p1 p2 p3 p4)), .val (.int (v0_7 p0 p1 p2 p3 p4)), .val (.double (v0_10 p0 p1 p2 p3 p4)), .second, .val (.double (v0_13 p0 p1 p2 p3 p4)), .second, .val (.int (v0_14 p0 p1 p2 p3 p4)), .val (.ref b16), .val (.int (v0_18 p0 p1 p2 p3 p4))]) rfl ?_
          exact k
    · skip
      have pre33 : ∀ t, Steps p.tables e below (T21.setTop (mkF m 112 #[.val (.int p0), .val (.int p1), .val (.int p2), .val (.int p3), .val (.int p4), .val (.int (v0_2 p0 p1 p2 p3 p4)), .val (.int (v0_4 p0 p1 p2 p3 p4)), .val (.int (v0_6 p0 p1 p2 p3 p4)), .val (.int (v0_7 p0 p1 p2 p3 p4)), .val (.double (v0_10 p0 p1 p2 p3 p4)), .second, .val (.double (v0_13 p0 p1 p2 p3 p4)), .second, .val (.int (v0_14 p0 p1 p2 p3 p4)), .val (.ref b16), .unset] [(.int (v0_7 p0 p1 p2 p3 p4))])) t → Steps p.tables e below (s₁.setTop (entryFrame m #[(.int p0), (.int p1), (.int p2), (.int p3), (.int p4)] maxLocals)) t := by
        intro t k
        refine pre24 t ?_
        show Steps p.tables e below (T21.setTop (mkF m 107 #[.val (.int p0), .val (.int p1), .val (.int p2), .val (.int p3), .val (.int p4), .val (.int (v0_2 p0 p1 p2 p3 p4)), .val (.int (v0_4 p0 p1 p2 p3 p4)), .val (.int (v0_6 p0 p1 p2 p3 p4)), .val (.int (v0_7 p0 p1 p2 p3 p4)), .val (.double (v0_10 p0 p1 p2 p3 p4)), .second, .val (.double (v0_13 p0 p1 p2 p3 p4)), .second, .val (.int (v0_14 p0 p1 p2 p3 p4)), .val (.ref b16), .unset] [(.int (v0_2 p0 p1 p2 p3 p4))])) _
        refine XS.ifNo X21.here hx rfl (hb hby at_107) rfl (XT.i0_eq_f c25) ?_
        show Steps p.tables e below (T21.setTop (mkF m 110 #[.val (.int p0), .val (.int p1), .val (.int p2), .val (.int p3), .val (.int p4), .val (.int (v0_2 p0 p1 p2 p3 p4)), .val (.int (v0_4 p0 p1 p2 p3 p4)), .val (.int (v0_6 p0 p1 p2 p3 p4)), .val (.int (v0_7 p0 p1 p2 p3 p4)), .val (.double (v0_10 p0 p1 p2 p3 p4)), .second, .val (.double (v0_13 p0 p1 p2 p3 p4)), .second, .val (.int (v0_14 p0 p1 p2 p3 p4)), .val (.ref b16), .unset] [])) _
        refine XS.iload X21.here hx rfl (hb hby at_110) rfl ?_
        exact k
      clear pre24
      by_cases c34 : (v0_7 p0 p1 p2 p3 p4) = (0 : Int32)
      · skip
        rw [show (v0_23 p0 p1 p2 p3 p4) = (1 : Int32) from ((if_neg c25).trans (if_pos c34))] at k
        refine pre33 t ?_
        show Steps p.tables e below (T21.setTop (mkF m 112 #[.val (.int p0), .val (.int p1), .val (.int p2), .val (.int p3), .val (.int p4), .val (.int (v0_2 p0 p1 p2 p3 p4)), .val (.int (v0_4 p0 p1 p2 p3 p4)), .val (.int (v0_6 p0 p1 p2 p3 p4)), .val (.int (v0_7 p0 p1 p2 p3 p4)), .val (.double (v0_10 p0 p1 p2 p3 p4)), .second, .val (.double (v0_13 p0 p1 p2 p3 p4)), .second, .val (.int (v0_14 p0 p1 p2 p3 p4)), .val (.ref b16), .unset] [(.int (v0_7 p0 p1 p2 p3 p4))])) _
        refine XS.ifNo X21.here hx rfl (hb hby at_112) rfl (XT.i0_ne_f c34) ?_
        show Steps p.tables e below (T21.setTop (mkF m 115 #[.val (.int p0), .val (.int p1), .val (.int p2), .val (.int p3), .val (.int p4), .val (.int (v0_2 p0 p1 p2 p3 p4)), .val (.int (v0_4 p0 p1 p2 p3 p4)), .val (.int (v0_6 p0 p1 p2 p3 p4)), .val (.int (v0_7 p0 p1 p2 p3 p4)), .val (.double (v0_10 p0 p1 p2 p3 p4)), .second, .val (.double (v0_13 p0 p1 p2 p3 p4)), .second, .val (.int (v0_14 p0 p1 p2 p3 p4)), .val (.ref b16), .unset] [])) _
        refine XT.iconstV X21.here hx rfl (1 : Int32) (hb hby at_115) (by decide) ?_
        show Steps p.tables e below (T21.setTop (mkF m 116 #[.val (.int p0), .val (.int p1), .val (.int p2), .val (.int p3), .val (.int p4), .val (.int (v0_2 p0 p1 p2 p3 p4)), .val (.int (v0_4 p0 p1 p2 p3 p4)), .val (.int (v0_6 p0 p1 p2 p3 p4)), .val (.int (v0_7 p0 p1 p2 p3 p4)), .val (.double (v0_10 p0 p1 p2 p3 p4)), .second, .val (.double (v0_13 p0 p1 p2 p3 p4)), .second, .val (.int (v0_14 p0 p1 p2 p3 p4)), .val (.ref b16), .unset] [(.int (1 : Int32))])) _
        refine XS.istore X21.here hx rfl (hb hby at_116) rfl (l' := #[.val (.int p0), .val (.int p1), .val (.int p2), .val (.int p3), .val (.int p4), .val (.int (v0_2 p0 p1 p2 p3 p4)), .val (.int (v0_4 p0 p1 p2 p3 p4)), .val (.int (v0_6 p0 p1 p2 p3 p4)), .val (.int (v0_7 p0 p1 p2 p3 p4)), .val (.double (v0_10 p0 p1 p2 p3 p4)), .second, .val (.double (v0_13 p0 p1 p2 p3 p4)), .second, .val (.int (v0_14 p0 p1 p2 p3 p4)), .val (.ref b16), .val (.int (1 : Int32))]) rfl ?_
        show Steps p.tables e below (T21.setTop (mkF m 118 #[.val (.int p0), .val (.int p1), .val (.int p2), .val (.int p3), .val (.int p4), .val (.int (v0_2 p0 p1 p2 p3 p4)), .val (.int (v0_4 p0 p1 p2 p3 p4)), .val (.int (v0_6 p0 p1 p2 p3 p4)), .val (.int (v0_7 p0 p1 p2 p3 p4)), .val (.double (v0_10 p0 p1 p2 p3 p4)), .second, .val (.double (v0_13 p0 p1 p2 p3 p4)), .second, .val (.int (v0_14 p0 p1 p2 p3 p4)), .val (.ref b16), .val (.int (1 : Int32))] [])) _
        refine XS.goto X21.here hx rfl (pc0 := 118) (pc' := 163) rfl (hb hby at_118) (by decide) (by decide) ?_
        exact k
      · skip
        have pre35 : ∀ t, Steps p.tables e below (T21.setTop (mkF m 125 #[.val (.int p0), .val (.int p1), .val (.int p2), .val (.int p3), .val (.int p4), .val (.int (v0_2 p0 p1 p2 p3 p4)), .val (.int (v0_4 p0 p1 p2 p3 p4)), .val (.int (v0_6 p0 p1 p2 p3 p4)), .val (.int (v0_7 p0 p1 p2 p3 p4)), .val (.double (v0_10 p0 p1 p2 p3 p4)), .second, .val (.double (v0_13 p0 p1 p2 p3 p4)), .second, .val (.int (v0_14 p0 p1 p2 p3 p4)), .val (.ref b16), .unset] [(.int (cmpValue (FP.dcmp (v0_10 p0 p1 p2 p3 p4) FP.dconst0) .l))])) t → Steps p.tables e below (s₁.setTop (entryFrame m #[(.int p0), (.int p1), (.int p2), (.int p3), (.int p4)] maxLocals)) t := by
          intro t k
          refine pre33 t ?_
          show Steps p.tables e below (T21.setTop (mkF m 112 #[.val (.int p0), .val (.int p1), .val (.int p2), .val (.int p3), .val (.int p4), .val (.int (v0_2 p0 p1 p2 p3 p4)), .val (.int (v0_4 p0 p1 p2 p3 p4)), .val (.int (v0_6 p0 p1 p2 p3 p4)), .val (.int (v0_7 p0 p1 p2 p3 p4)), .val (.double (v0_10 p0 p1 p2 p3 p4)), .second, .val (.double (v0_13 p0 p1 p2 p3 p4)), .second, .val (.int (v0_14 p0 p1 p2 p3 p4)), .val (.ref b16), .unset] [(.int (v0_7 p0 p1 p2 p3 p4))])) _
          refine XS.ifYes X21.here hx rfl (pc0 := 112) (pc' := 121) rfl (hb hby at_112) rfl (XT.i0_ne_t c34) (by decide) (by decide) ?_
          show Steps p.tables e below (T21.setTop (mkF m 121 #[.val (.int p0), .val (.int p1), .val (.int p2), .val (.int p3), .val (.int p4), .val (.int (v0_2 p0 p1 p2 p3 p4)), .val (.int (v0_4 p0 p1 p2 p3 p4)), .val (.int (v0_6 p0 p1 p2 p3 p4)), .val (.int (v0_7 p0 p1 p2 p3 p4)), .val (.double (v0_10 p0 p1 p2 p3 p4)), .second, .val (.double (v0_13 p0 p1 p2 p3 p4)), .second, .val (.int (v0_14 p0 p1 p2 p3 p4)), .val (.ref b16), .unset] [])) _
          refine XS.dload X21.here hx rfl (hb hby at_121) rfl ?_
          show Steps p.tables e below (T21.setTop (mkF m 123 #[.val (.int p0), .val (.int p1), .val (.int p2), .val (.int p3), .val (.int p4), .val (.int (v0_2 p0 p1 p2 p3 p4)), .val (.int (v0_4 p0 p1 p2 p3 p4)), .val (.int (v0_6 p0 p1 p2 p3 p4)), .val (.int (v0_7 p0 p1 p2 p3 p4)), .val (.double (v0_10 p0 p1 p2 p3 p4)), .second, .val (.double (v0_13 p0 p1 p2 p3 p4)), .second, .val (.int (v0_14 p0 p1 p2 p3 p4)), .val (.ref b16), .unset] [(.double (v0_10 p0 p1 p2 p3 p4))])) _
          refine XS.dconst0 X21.here hx rfl (hb hby at_123) rfl ?_
          show Steps p.tables e below (T21.setTop (mkF m 124 #[.val (.int p0), .val (.int p1), .val (.int p2), .val (.int p3), .val (.int p4), .val (.int (v0_2 p0 p1 p2 p3 p4)), .val (.int (v0_4 p0 p1 p2 p3 p4)), .val (.int (v0_6 p0 p1 p2 p3 p4)), .val (.int (v0_7 p0 p1 p2 p3 p4)), .val (.double (v0_10 p0 p1 p2 p3 p4)), .second, .val (.double (v0_13 p0 p1 p2 p3 p4)), .second, .val (.int (v0_14 p0 p1 p2 p3 p4)), .val (.ref b16), .unset] [(.double FP.dconst0), (.double (v0_10 p0 p1 p2 p3 p4))])) _
          refine XS.dcmpS X21.here hx rfl (hb hby at_124) rfl rfl ?_
          exact k
        clear pre33
        by_cases c36 : (v0_19 p0 p1 p2 p3 p4) = (0 : Int32)
        · skip
          rw [show (v0_23 p0 p1 p2 p3 p4) = (0 : Int32) from (((if_neg c25).trans (if_neg c34)).trans (if_pos c36))] at k
          refine pre35 t ?_
          show Steps p.tables e below (T21.setTop (mkF m 125 #[.val (.int p0), .val (.int p1), .val (.int p2), .val (.int p3), .val (.int p4), .val (.int (v0_2 p0 p1 p2 p3 p4)), .val (.int (v0_4 p0 p1 p2 p3 p4)), .val (.int (v0_6 p0 p1 p2 p3 p4)), .val (.int (v0_7 p0 p1 p2 p3 p4)), .val (.double (v0_10 p0 p1 p2 p3 p4)), .second, .val (.double (v0_13 p0 p1 p2 p3 p4)), .second, .val (.int (v0_14 p0 p1 p2 p3 p4)), .val (.ref b16), .unset] [(.int (cmpValue (FP.dcmp (v0_10 p0 p1 p2 p3 p4) FP.dconst0) .l))])) _
          refine XS.ifNo X21.here hx rfl (hb hby at_125) rfl (XT.i0_ne_f c36) ?_
          show Steps p.tables e below (T21.setTop (mkF m 128 #[.val (.int p0), .val (.int p1), .val (.int p2), .val (.int p3), .val (.int p4), .val (.int (v0_2 p0 p1 p2 p3 p4)), .val (.int (v0_4 p0 p1 p2 p3 p4)), .val (.int (v0_6 p0 p1 p2 p3 p4)), .val (.int (v0_7 p0 p1 p2 p3 p4)), .val (.double (v0_10 p0 p1 p2 p3 p4)), .second, .val (.double (v0_13 p0 p1 p2 p3 p4)), .second, .val (.int (v0_14 p0 p1 p2 p3 p4)), .val (.ref b16), .unset] [])) _
          refine XT.iconstV X21.here hx rfl (0 : Int32) (hb hby at_128) (by decide) ?_
          show Steps p.tables e below (T21.setTop (mkF m 129 #[.val (.int p0), .val (.int p1), .val (.int p2), .val (.int p3), .val (.int p4), .val (.int (v0_2 p0 p1 p2 p3 p4)), .val (.int (v0_4 p0 p1 p2 p3 p4)), .val (.int (v0_6 p0 p1 p2 p3 p4)), .val (.int (v0_7 p0 p1 p2 p3 p4)), .val (.double (v0_10 p0 p1 p2 p3 p4)), .second, .val (.double (v0_13 p0 p1 p2 p3 p4)), .second, .val (.int (v0_14 p0 p1 p2 p3 p4)), .val (.ref b16), .unset] [(.int (0 : Int32))])) _
          refine XS.istore X21.here hx rfl (hb hby at_129) rfl (l' := #[.val (.int p0), .val (.int p1), .val (.int p2), .val (.int p3), .val (.int p4), .val (.int (v0_2 p0 p1 p2 p3 p4)), .val (.int (v0_4 p0 p1 p2 p3 p4)), .val (.int (v0_6 p0 p1 p2 p3 p4)), .val (.int (v0_7 p0 p1 p2 p3 p4)), .val (.double (v0_10 p0 p1 p2 p3 p4)), .second, .val (.double (v0_13 p0 p1 p2 p3 p4)), .second, .val (.int (v0_14 p0 p1 p2 p3 p4)), .val (.ref b16), .val (.int (0 : Int32))]) rfl ?_
          show Steps p.tables e below (T21.setTop (mkF m 131 #[.val (.int p0), .val (.int p1), .val (.int p2), .val (.int p3), .val (.int p4), .val (.int (v0_2 p0 p1 p2 p3 p4)), .val (.int (v0_4 p0 p1 p2 p3 p4)), .val (.int (v0_6 p0 p1 p2 p3 p4)), .val (.int (v0_7 p0 p1 p2 p3 p4)), .val (.double (v0_10 p0 p1 p2 p3 p4)), .second, .val (.double (v0_13 p0 p1 p2 p3 p4)), .second, .val (.int (v0_14 p0 p1 p2 p3 p4)), .val (.ref b16), .val (.int (0 : Int32))] [])) _
          refine XS.goto X21.here hx rfl (pc0 := 131) (pc' := 163) rfl (hb hby at_131) (by decide) (by decide) ?_
          exact k
        · skip
          have pre37 : ∀ t, Steps p.tables e below (T21.setTop (mkF m 139 #[.val (.int p0), .val (.int p1), .val (.int p2), .val (.int p3), .val (.int p4), .val (.int (v0_2 p0 p1 p2 p3 p4)), .val (.int (v0_4 p0 p1 p2 p3 p4)), .val (.int (v0_6 p0 p1 p2 p3 p4)), .val (.int (v0_7 p0 p1 p2 p3 p4)), .val (.double (v0_10 p0 p1 p2 p3 p4)), .second, .val (.double (v0_13 p0 p1 p2 p3 p4)), .second, .val (.int (v0_14 p0 p1 p2 p3 p4)), .val (.ref b16), .unset] [(.int (cmpValue (FP.dcmp (v0_13 p0 p1 p2 p3 p4) (v0_10 p0 p1 p2 p3 p4)) .l))])) t → Steps p.tables e below (s₁.setTop (entryFrame m #[(.int p0), (.int p1), (.int p2), (.int p3), (.int p4)] maxLocals)) t := by
            intro t k
            refine pre35 t ?_
            show Steps p.tables e below (T21.setTop (mkF m 125 #[.val (.int p0), .val (.int p1), .val (.int p2), .val (.int p3), .val (.int p4), .val (.int (v0_2 p0 p1 p2 p3 p4)), .val (.int (v0_4 p0 p1 p2 p3 p4)), .val (.int (v0_6 p0 p1 p2 p3 p4)), .val (.int (v0_7 p0 p1 p2 p3 p4)), .val (.double (v0_10 p0 p1 p2 p3 p4)), .second, .val (.double (v0_13 p0 p1 p2 p3 p4)), .second, .val (.int (v0_14 p0 p1 p2 p3 p4)), .val (.ref b16), .unset] [(.int (cmpValue (FP.dcmp (v0_10 p0 p1 p2 p3 p4) FP.dconst0) .l))])) _
            refine XS.ifYes X21.here hx rfl (pc0 := 125) (pc' := 134) rfl (hb hby at_125) rfl (XT.i0_ne_t c36) (by decide) (by decide) ?_
            show Steps p.tables e below (T21.setTop (mkF m 134 #[.val (.int p0), .val (.int p1), .val (.int p2), .val (.int p3), .val (.int p4), .val (.int (v0_2 p0 p1 p2 p3 p4)), .val (.int (v0_4 p0 p1 p2 p3 p4)), .val (.int (v0_6 p0 p1 p2 p3 p4)), .val (.int (v0_7 p0 p1 p2 p3 p4)), .val (.double (v0_10 p0 p1 p2 p3 p4)), .second, .val (.double (v0_13 p0 p1 p2 p3 p4)), .second, .val (.int (v0_14 p0 p1 p2 p3 p4)), .val (.ref b16), .unset] [])) _
            refine XS.dload X21.here hx rfl (hb hby at_134) rfl ?_
            show Steps p.tables e below (T21.setTop (mkF m 136 #[.val (.int p0), .val (.int p1), .val (.int p2), .val (.int p3), .val (.int p4), .val (.int (v0_2 p0 p1 p2 p3 p4)), .val (.int (v0_4 p0 p1 p2 p3 p4)), .val (.int (v0_6 p0 p1 p2 p3 p4)), .val (.int (v0_7 p0 p1 p2 p3 p4)), .val (.double (v0_10 p0 p1 p2 p3 p4)), .second, .val (.double (v0_13 p0 p1 p2 p3 p4)), .second, .val (.int (v0_14 p0 p1 p2 p3 p4)), .val (.ref b16), .unset] [(.double (v0_13 p0 p1 p2 p3 p4))])) _
            refine XS.dload X21.here hx rfl (hb hby at_136) rfl ?_
            show Steps p.tables e below (T21.setTop (mkF m 138 #[.val (.int p0), .val (.int p1), .val (.int p2), .val (.int p3), .val (.int p4), .val (.int (v0_2 p0 p1 p2 p3 p4)), .val (.int (v0_4 p0 p1 p2 p3 p4)), .val (.int (v0_6 p0 p1 p2 p3 p4)), .val (.int (v0_7 p0 p1 p2 p3 p4)), .val (.double (v0_10 p0 p1 p2 p3 p4)), .second, .val (.double (v0_13 p0 p1 p2 p3 p4)), .second, .val (.int (v0_14 p0 p1 p2 p3 p4)), .val (.ref b16), .unset] [(.double (v0_10 p0 p1 p2 p3 p4)), (.double (v0_13 p0 p1 p2 p3 p4))])) _
            refine XS.dcmpS X21.here hx rfl (hb hby at_138) rfl rfl ?_
            exact k
          clear pre35
          by_cases c38 : (v0_20 p0 p1 p2 p3 p4) = (0 : Int32)
          · skip
            rw [show (v0_23 p0 p1 p2 p3 p4) = (0 : Int32) from ((((if_neg c25).trans (if_neg c34)).trans (if_neg c36)).trans (if_pos c38))] at k
            refine pre37 t ?_
            show Steps p.tables e below (T21.setTop (mkF m 139 #[.val (.int p0), .val (.int p1), .val (.int p2), .val (.int p3), .val (.int p4), .val (.int (v0_2 p0 p1 p2 p3 p4)), .val (.int (v0_4 p0 p1 p2 p3 p4)), .val (.int (v0_6 p0 p1 p2 p3 p4)), .val (.int (v0_7 p0 p1 p2 p3 p4)), .val (.double (v0_10 p0 p1 p2 p3 p4)), .second, .val (.double (v0_13 p0 p1 p2 p3 p4)), .second, .val (.int (v0_14 p0 p1 p2 p3 p4)), .val (.ref b16), .unset] [(.int (cmpValue (FP.dcmp (v0_13 p0 p1 p2 p3 p4) (v0_10 p0 p1 p2 p3 p4)) .l))])) _
            refine XS.ifNo X21.here hx rfl (hb hby at_139) rfl (XT.i0_ne_f c38) ?_
            show Steps p.tables e below (T21.setTop (mkF m 142 #[.val (.int p0), .val (.int p1), .val (.int p2), .val (.int p3), .val (.int p4), .val (.int (v0_2 p0 p1 p2 p3 p4)), .val (.int (v0_4 p0 p1 p2 p3 p4)), .val (.int (v0_6 p0 p1 p2 p3 p4)), .val (.int (v0_7 p0 p1 p2 p3 p4)), .val (.double (v0_10 p0 p1 p2 p3 p4)), .second, .val (.double (v0_13 p0 p1 p2 p3 p4)), .second, .val (.int (v0_14 p0 p1 p2 p3 p4)), .val (.ref b16), .unset] [])) _
            refine XT.iconstV X21.here hx rfl (0 : Int32) (hb hby at_142) (by decide) ?_
            show Steps p.tables e below (T21.setTop (mkF m 143 #[.val (.int p0), .val (.int p1), .val (.int p2), .val (.int p3), .val (.int p4), .val (.int (v0_2 p0 p1 p2 p3 p4)), .val (.int (v0_4 p0 p1 p2 p3 p4)), .val (.int (v0_6 p0 p1 p2 p3 p4)), .val (.int (v0_7 p0 p1 p2 p3 p4)), .val (.double (v0_10 p0 p1 p2 p3 p4)), .second, .val (.double (v0_13 p0 p1 p2 p3 p4)), .second, .val (.int (v0_14 p0 p1 p2 p3 p4)), .val (.ref b16), .unset] [(.int (0 : Int32))])) _
            refine XS.istore X21.here hx rfl (hb hby at_143) rfl (l' := #[.val (.int p0), .val (.int p1), .val (.int p2), .val (.int p3), .val (.int p4), .val (.int (v0_2 p0 p1 p2 p3 p4)), .val (.int (v0_4 p0 p1 p2 p3 p4)), .val (.int (v0_6 p0 p1 p2 p3 p4)), .val (.int (v0_7 p0 p1 p2 p3 p4)), .val (.double (v0_10 p0 p1 p2 p3 p4)), .second, .val (.double (v0_13 p0 p1 p2 p3 p4)), .second, .val (.int (v0_14 p0 p1 p2 p3 p4)), .val (.ref b16), .val (.int (0 : Int32))]) rfl ?_
            show Steps p.tables e below (T21.setTop (mkF m 145 #[.val (.int p0), .val (.int p1), .val (.int p2), .val (.int p3), .val (.int p4), .val (.int (v0_2 p0 p1 p2 p3 p4)), .val (.int (v0_4 p0 p1 p2 p3 p4)), .val (.int (v0_6 p0 p1 p2 p3 p4)), .val (.int (v0_7 p0 p1 p2 p3 p4)), .val (.double (v0_10 p0 p1 p2 p3 p4)), .second, .val (.double (v0_13 p0 p1 p2 p3 p4)), .second, .val (.int (v0_14 p0 p1 p2 p3 p4)), .val (.ref b16), .val (.int (0 : Int32))] [])) _
            refine XS.goto X21.here hx rfl (pc0 := 145) (pc' := 163) rfl (hb hby at_145) (by decide) (by decide) ?_
            exact k
          · skip
            have pre39 : ∀ t, Steps p.tables e below (T21.setTop (mkF m 153 #[.val (.int p0), .val (.int p1), .val (.int p2), .val (.int p3), .val (.int p4), .val (.int (v0_2 p0 p1 p2 p3 p4)), .val (.int (v0_4 p0 p1 p2 p3 p4)), .val (.int (v0_6 p0 p1 p2 p3 p4)), .val (.int (v0_7 p0 p1 p2 p3 p4)), .val (.double (v0_10 p0 p1 p2 p3 p4)), .second, .val (.double (v0_13 p0 p1 p2 p3 p4)), .second, .val (.int (v0_14 p0 p1 p2 p3 p4)), .val (.ref b16), .unset] [(.int (cmpValue (FP.dcmp (v0_13 p0 p1 p2 p3 p4) (v0_10 p0 p1 p2 p3 p4)) .g))])) t → Steps p.tables e below (s₁.setTop (entryFrame m #[(.int p0), (.int p1), (.int p2), (.int p3), (.int p4)] maxLocals)) t := by
              intro t k
              refine pre37 t ?_
              show Steps p.tables e below (T21.setTop (mkF m 139 #[.val (.int p0), .val (.int p1), .val (.int p2), .val (.int p3), .val (.int p4), .val (.int (v0_2 p0 p1 p2 p3 p4)), .val (.int (v0_4 p0 p1 p2 p3 p4)), .val (.int (v0_6 p0 p1 p2 p3 p4)), .val (.int (v0_7 p0 p1 p2 p3 p4)), .val (.double (v0_10 p0 p1 p2 p3 p4)), .second, .val (.double (v0_13 p0 p1 p2 p3 p4)), .second, .val (.int (v0_14 p0 p1 p2 p3 p4)), .val (.ref b16), .unset] [(.int (cmpValue (FP.dcmp (v0_13 p0 p1 p2 p3 p4) (v0_10 p0 p1 p2 p3 p4)) .l))])) _
              refine XS.ifYes X21.here hx rfl (pc0 := 139) (pc' := 148) rfl (hb hby at_139) rfl (XT.i0_ne_t c38) (by decide) (by decide) ?_
              show Steps p.tables e below (T21.setTop (mkF m 148 #[.val (.int p0), .val (.int p1), .val (.int p2), .val (.int p3), .val (.int p4), .val (.int (v0_2 p0 p1 p2 p3 p4)), .val (.int (v0_4 p0 p1 p2 p3 p4)), .val (.int (v0_6 p0 p1 p2 p3 p4)), .val (.int (v0_7 p0 p1 p2 p3 p4)), .val (.double (v0_10 p0 p1 p2 p3 p4)), .second, .val (.double (v0_13 p0 p1 p2 p3 p4)), .second, .val (.int (v0_14 p0 p1 p2 p3 p4)), .val (.ref b16), .unset] [])) _
              refine XS.dload X21.here hx rfl (hb hby at_148) rfl ?_
              show Steps p.tables e below (T21.setTop (mkF m 150 #[.val (.int p0), .val (.int p1), .val (.int p2), .val (.int p3), .val (.int p4), .val (.int (v0_2 p0 p1 p2 p3 p4)), .val (.int (v0_4 p0 p1 p2 p3 p4)), .val (.int (v0_6 p0 p1 p2 p3 p4)), .val (.int (v0_7 p0 p1 p2 p3 p4)), .val (.double (v0_10 p0 p1 p2 p3 p4)), .second, .val (.double (v0_13 p0 p1 p2 p3 p4)), .second, .val (.int (v0_14 p0 p1 p2 p3 p4)), .val (.ref b16), .unset] [(.double (v0_13 p0 p1 p2 p3 p4))])) _
              refine XS.dload X21.here hx rfl (hb hby at_150) rfl ?_
              show Steps p.tables e below (T21.setTop (mkF m 152 #[.val (.int p0), .val (.int p1), .val (.int p2), .val (.int p3), .val (.int p4), .val (.int (v0_2 p0 p1 p2 p3 p4)), .val (.int (v0_4 p0 p1 p2 p3 p4)), .val (.int (v0_6 p0 p1 p2 p3 p4)), .val (.int (v0_7 p0 p1 p2 p3 p4)), .val (.double (v0_10 p0 p1 p2 p3 p4)), .second, .val (.double (v0_13 p0 p1 p2 p3 p4)), .second, .val (.int (v0_14 p0 p1 p2 p3 p4)), .val (.ref b16), .unset] [(.double (v0_10 p0 p1 p2 p3 p4)), (.double (v0_13 p0 p1 p2 p3 p4))])) _
              refine XS.dcmpS X21.here hx rfl (hb hby at_152) rfl rfl ?_
              exact k
            clear pre37
            have pre41 : ∀ t, Steps p.tables e below (T21.setTop (mkF m 161 #[.val (.int p0), .val (.int p1), .val (.int p2), .val (.int p3), .val (.int p4), .val (.int (v0_2 p0 p1 p2 p3 p4)), .val (.int (v0_4 p0 p1 p2 p3 p4)), .val (.int (v0_6 p0 p1 p2 p3 p4)), .val (.int (v0_7 p0 p1 p2 p3 p4)), .val (.double (v0_10 p0 p1 p2 p3 p4)), .second, .val (.double (v0_13 p0 p1 p2 p3 p4)), .second, .val (.int (v0_14 p0 p1 p2 p3 p4)), .val (.ref b16), .unset] [(.int (v0_22 p0 p1 p2 p3 p4))])) t → Steps p.tables e below (s₁.setTop (entryFrame m #[(.int p0), (.int p1), (.int p2), (.int p3), (.int p4)] maxLocals)) t := by
              intro t k
              by_cases c40 : (v0_21 p0 p1 p2 p3 p4) < (0 : Int32)
              · skip
                rw [show (v0_22 p0 p1 p2 p3 p4) = (1 : Int32) from (if_pos c40)] at k
                refine pre39 t ?_
                show Steps p.tables e below (T21.setTop (mkF m 153 #[.val (.int p0), .val (.int p1), .val (.int p2), .val (.int p3), .val (.int p4), .val (.int (v0_2 p0 p1 p2 p3 p4)), .val (.int (v0_4 p0 p1 p2 p3 p4)), .val (.int (v0_6 p0 p1 p2 p3 p4)), .val (.int (v0_7 p0 p1 p2 p3 p4)), .val (.double (v0_10 p0 p1 p2 p3 p4)), .second, .val (.double (v0_13 p0 p1 p2 p3 p4)), .second, .val (.int (v0_14 p0 p1 p2 p3 p4)), .val (.ref b16), .unset] [(.int (cmpValue (FP.dcmp (v0_13 p0 p1 p2 p3 p4) (v0_10 p0 p1 p2 p3 p4)) .g))])) _
                refine XS.ifNo X21.here hx rfl (hb hby at_153) rfl (XT.i0_ge_f c40) ?_
                show Steps p.tables e below (T21.setTop (mkF m 156 #[.val (.int p0), .val (.int p1), .val (.int p2), .val (.int p3), .val (.int p4), .val (.int (v0_2 p0 p1 p2 p3 p4)), .val (.int (v0_4 p0 p1 p2 p3 p4)), .val (.int (v0_6 p0 p1 p2 p3 p4)), .val (.int (v0_7 p0 p1 p2 p3 p4)), .val (.double (v0_10 p0 p1 p2 p3 p4)), .second, .val (.double (v0_13 p0 p1 p2 p3 p4)), .second, .val (.int (v0_14 p0 p1 p2 p3 p4)), .val (.ref b16), .unset] [])) _
                refine XT.iconstV X21.here hx rfl (1 : Int32) (hb hby at_156) (by decide) ?_
                show Steps p.tables e below (T21.setTop (mkF m 157 #[.val (.int p0), .val (.int p1), .val (.int p2), .val (.int p3), .val (.int p4), .val (.int (v0_2 p0 p1 p2 p3 p4)), .val (.int (v0_4 p0 p1 p2 p3 p4)), .val (.int (v0_6 p0 p1 p2 p3 p4)), .val (.int (v0_7 p0 p1 p2 p3 p4)), .val (.double (v0_10 p0 p1 p2 p3 p4)), .second, .val (.double (v0_13 p0 p1 p2 p3 p4)), .second, .val (.int (v0_14 p0 p1 p2 p3 p4)), .val (.ref b16), .unset] [(.int (1 : Int32))])) _
                refine XS.goto X21.here hx rfl (pc0 := 157) (pc' := 161) rfl (hb hby at_157) (by decide) (by decide) ?_
                exact k
              · skip
                rw [show (v0_22 p0 p1 p2 p3 p4) = (0 : Int32) from (if_neg c40)] at k
                refine pre39 t ?_
                show Steps p.tables e below (T21.setTop (mkF m 153 #[.val (.int p0), .val (.int p1), .val (.int p2), .val (.int p3), .val (.int p4), .val (.int (v0_2 p0 p1 p2 p3 p4)), .val (.int (v0_4 p0 p1 p2 p3 p4)), .val (.int (v0_6 p0 p1 p2 p3 p4)), .val (.int (v0_7 p0 p1 p2 p3 p4)), .val (.double (v0_10 p0 p1 p2 p3 p4)), .second, .val (.double (v0_13 p0 p1 p2 p3 p4)), .second, .val (.int (v0_14 p0 p1 p2 p3 p4)), .val (.ref b16), .unset] [(.int (cmpValue (FP.dcmp (v0_13 p0 p1 p2 p3 p4) (v0_10 p0 p1 p2 p3 p4)) .g))])) _
                refine XS.ifYes X21.here hx rfl (pc0 := 153) (pc' := 160) rfl (hb hby at_153) rfl (XT.i0_ge_t c40) (by decide) (by decide) ?_
                show Steps p.tables e below (T21.setTop (mkF m 160 #[.val (.int p0), .val (.int p1), .val (.int p2), .val (.int p3), .val (.int p4), .val (.int (v0_2 p0 p1 p2 p3 p4)), .val (.int (v0_4 p0 p1 p2 p3 p4)), .val (.int (v0_6 p0 p1 p2 p3 p4)), .val (.int (v0_7 p0 p1 p2 p3 p4)), .val (.double (v0_10 p0 p1 p2 p3 p4)), .second, .val (.double (v0_13 p0 p1 p2 p3 p4)), .second, .val (.int (v0_14 p0 p1 p2 p3 p4)), .val (.ref b16), .unset] [])) _
                refine XT.iconstV X21.here hx rfl (0 : Int32) (hb hby at_160) (by decide) ?_
                exact k
            rw [show (v0_23 p0 p1 p2 p3 p4) = (v0_22 p0 p1 p2 p3 p4) from ((((if_neg c25).trans (if_neg c34)).trans (if_neg c36)).trans (if_neg c38))] at k
            refine pre41 t ?_
            show Steps p.tables e below (T21.setTop (mkF m 161 #[.val (.int p0), .val (.int p1), .val (.int p2), .val (.int p3), .val (.int p4), .val (.int (v0_2 p0 p1 p2 p3 p4)), .val (.int (v0_4 p0 p1 p2 p3 p4)), .val (.int (v0_6 p0 p1 p2 p3 p4)), .val (.int (v0_7 p0 p1 p2 p3 p4)), .val (.double (v0_10 p0 p1 p2 p3 p4)), .second, .val (.double (v0_13 p0 p1 p2 p3 p4)), .second, .val (.int (v0_14 p0 p1 p2 p3 p4)), .val (.ref b16), .unset] [(.int (v0_22 p0 p1 p2 p3 p4))])) _
            refine XS.istore X21.here hx rfl (hb hby at_161) rfl (l' := #[.val (.int p0), .val (.int p1), .val (.int p2), .val (.int p3), .val (.int p4), .val (.int (v0_2 p0 p1 p2 p3 p4)), .val (.int (v0_4 p0 p1 p2 p3 p4)), .val (.int (v0_6 p0 p1 p2 p3 p4)), .val (.int (v0_7 p0 p1 p2 p3 p4)), .val (.double (v0_10 p0 p1 p2 p3 p4)), .second, .val (.double (v0_13 p0 p1 p2 p3 p4)), .second, .val (.int (v0_14 p0 p1 p2 p3 p4)), .val (.ref b16), .val (.int (v0_22 p0 p1 p2 p3 p4))]) rfl ?_
            exact k
  obtain ⟨cq43, kq43, q43a, q43b, q43c⟩ := isOf hZ rfl po21_0
  obtain ⟨vr43, _, ⟨T43, L43, k43, n43⟩, -, X43, ⟨Lc43, hQ43, l43, y43, z43⟩, st43⟩ := X21.virtualBack hx (y := (⟨"com/example/gryphon/gryphon/engine/Stop", "met", "(ID)Z"⟩ : MethodName)) (z := (⟨"com/example/gryphon/gryphon/engine/Stop", "met", "(ID)Z"⟩ : MethodName)) hown (mvT hZ (hw _ (List.mem_of_getElem? (i := 24) rfl))) (mvT hZ (hw _ (List.mem_of_getElem? (i := 25) rfl))) (notFace_of_selects (args := #[]) (mvT hZ (hw _ (List.mem_of_getElem? (i := 27) rfl)))) (mvT hZ (hw _ (List.mem_of_getElem? (i := 27) rfl))) (mvT hZ (hw _ (List.mem_of_getElem? (i := 26) rfl))) (by decide) (backOf (W := 0) (rm4 l Z a0 hw [] b16 (v0_7 p0 p1 p2 p3 p4) (v0_13 p0 p1 p2 p3 p4) (nar .boolean (v0_2 p0 p1 p2 p3 p4)) (v0_10 p0 p1 p2 p3 p4) (v0_10 p0 p1 p2 p3 p4) T21.heap n0 z22 po21_1 po21_2 po21_2) hZ (hw _ (List.mem_of_getElem? (i := 28) rfl)) (hw _ (List.mem_of_getElem? (i := 6) rfl)) (by decide) (by decide)) q43a q43c (g := (mkF m 169 #[.val (.int p0), .val (.int p1), .val (.int p2), .val (.int p3), .val (.int p4), .val (.int (v0_2 p0 p1 p2 p3 p4)), .val (.int (v0_4 p0 p1 p2 p3 p4)), .val (.int (v0_6 p0 p1 p2 p3 p4)), .val (.int (v0_7 p0 p1 p2 p3 p4)), .val (.double (v0_10 p0 p1 p2 p3 p4)), .second, .val (.double (v0_13 p0 p1 p2 p3 p4)), .second, .val (.int (v0_14 p0 p1 p2 p3 p4)), .val (.ref b16), .val (.int (v0_23 p0 p1 p2 p3 p4))] [(.double (v0_13 p0 p1 p2 p3 p4)), (.int (v0_7 p0 p1 p2 p3 p4)), (.ref b16)])) rfl (by rw [hml]; rfl) (Steps.refl _) (argsL := [(.int (v0_7 p0 p1 p2 p3 p4)), (.double (v0_13 p0 p1 p2 p3 p4))]) (rest := []) (lenOf pd__ID_Z rfl) rfl (by show 2 * 0 + _ ≤ _; exact Nat.le_of_eq rfl) (hb hby at_169) (fun _ _ => ⟨rfl, rfl, (by decide : 1 + 0 ≤ _), (by decide : 3 + 0 ≤ _)⟩)
  dsimp only [Pt.U, Pt.locs, Pt.cells, Pt.slots] at X43 l43 y43 z43 st43 hQ43
  replace X43 := own_stand X43 l43 y43 z43
  clear l43 y43 z43
  have N43q := (show _ ∧ _ ∧ _ from hQ43).1
  have hv43 := (show _ ∧ _ ∧ _ from hQ43).2.1
  have e43 := (show _ ∧ _ ∧ _ from hQ43).2.2
  clear hQ43
  subst hv43
  have N43 := Fr.app N21 N43q
  have pre44 : ∀ t, Steps p.tables e below (T43.setTop (mkF m 174 #[.val (.int p0), .val (.int p1), .val (.int p2), .val (.int p3), .val (.int p4), .val (.int (v0_2 p0 p1 p2 p3 p4)), .val (.int (v0_4 p0 p1 p2 p3 p4)), .val (.int (v0_6 p0 p1 p2 p3 p4)), .val (.int (v0_7 p0 p1 p2 p3 p4)), .val (.double (v0_10 p0 p1 p2 p3 p4)), .second, .val (.double (v0_13 p0 p1 p2 p3 p4)), .second, .val (.int (v0_14 p0 p1 p2 p3 p4)), .val (.ref b16), .val (.int (v0_23 p0 p1 p2 p3 p4))] [(.int (v0_23 p0 p1 p2 p3 p4)), (.int (f4 (v0_7 p0 p1 p2 p3 p4) (v0_13 p0 p1 p2 p3 p4) (nar .boolean (v0_2 p0 p1 p2 p3 p4)) (v0_10 p0 p1 p2 p3 p4) (v0_10 p0 p1 p2 p3 p4)))])) t → Steps p.tables e below (s₁.setTop (entryFrame m #[(.int p0), (.int p1), (.int p2), (.int p3), (.int p4)] maxLocals)) t := by
    intro t k
    refine pre42 t ?_
    show Steps p.tables e below (T21.setTop (mkF m 163 #[.val (.int p0), .val (.int p1), .val (.int p2), .val (.int p3), .val (.int p4), .val (.int (v0_2 p0 p1 p2 p3 p4)), .val (.int (v0_4 p0 p1 p2 p3 p4)), .val (.int (v0_6 p0 p1 p2 p3 p4)), .val (.int (v0_7 p0 p1 p2 p3 p4)), .val (.double (v0_10 p0 p1 p2 p3 p4)), .second, .val (.double (v0_13 p0 p1 p2 p3 p4)), .second, .val (.int (v0_14 p0 p1 p2 p3 p4)), .val (.ref b16), .val (.int (v0_23 p0 p1 p2 p3 p4))] [])) _
    refine XS.aload X21.here hx rfl (hb hby at_163) rfl rfl ?_
    show Steps p.tables e below (T21.setTop (mkF m 165 #[.val (.int p0), .val (.int p1), .val (.int p2), .val (.int p3), .val (.int p4), .val (.int (v0_2 p0 p1 p2 p3 p4)), .val (.int (v0_4 p0 p1 p2 p3 p4)), .val (.int (v0_6 p0 p1 p2 p3 p4)), .val (.int (v0_7 p0 p1 p2 p3 p4)), .val (.double (v0_10 p0 p1 p2 p3 p4)), .second, .val (.double (v0_13 p0 p1 p2 p3 p4)), .second, .val (.int (v0_14 p0 p1 p2 p3 p4)), .val (.ref b16), .val (.int (v0_23 p0 p1 p2 p3 p4))] [(.ref b16)])) _
    refine XS.iload X21.here hx rfl (hb hby at_165) rfl ?_
    show Steps p.tables e below (T21.setTop (mkF m 167 #[.val (.int p0), .val (.int p1), .val (.int p2), .val (.int p3), .val (.int p4), .val (.int (v0_2 p0 p1 p2 p3 p4)), .val (.int (v0_4 p0 p1 p2 p3 p4)), .val (.int (v0_6 p0 p1 p2 p3 p4)), .val (.int (v0_7 p0 p1 p2 p3 p4)), .val (.double (v0_10 p0 p1 p2 p3 p4)), .second, .val (.double (v0_13 p0 p1 p2 p3 p4)), .second, .val (.int (v0_14 p0 p1 p2 p3 p4)), .val (.ref b16), .val (.int (v0_23 p0 p1 p2 p3 p4))] [(.int (v0_7 p0 p1 p2 p3 p4)), (.ref b16)])) _
    refine XS.dload X21.here hx rfl (hb hby at_167) rfl ?_
    show Steps p.tables e below (T21.setTop (mkF m 169 #[.val (.int p0), .val (.int p1), .val (.int p2), .val (.int p3), .val (.int p4), .val (.int (v0_2 p0 p1 p2 p3 p4)), .val (.int (v0_4 p0 p1 p2 p3 p4)), .val (.int (v0_6 p0 p1 p2 p3 p4)), .val (.int (v0_7 p0 p1 p2 p3 p4)), .val (.double (v0_10 p0 p1 p2 p3 p4)), .second, .val (.double (v0_13 p0 p1 p2 p3 p4)), .second, .val (.int (v0_14 p0 p1 p2 p3 p4)), .val (.ref b16), .val (.int (v0_23 p0 p1 p2 p3 p4))] [(.double (v0_13 p0 p1 p2 p3 p4)), (.int (v0_7 p0 p1 p2 p3 p4)), (.ref b16)])) _
    refine st43.trans ?_
    show Steps p.tables e below (T43.setTop (mkF m 172 #[.val (.int p0), .val (.int p1), .val (.int p2), .val (.int p3), .val (.int p4), .val (.int (v0_2 p0 p1 p2 p3 p4)), .val (.int (v0_4 p0 p1 p2 p3 p4)), .val (.int (v0_6 p0 p1 p2 p3 p4)), .val (.int (v0_7 p0 p1 p2 p3 p4)), .val (.double (v0_10 p0 p1 p2 p3 p4)), .second, .val (.double (v0_13 p0 p1 p2 p3 p4)), .second, .val (.int (v0_14 p0 p1 p2 p3 p4)), .val (.ref b16), .val (.int (v0_23 p0 p1 p2 p3 p4))] [(.int (f4 (v0_7 p0 p1 p2 p3 p4) (v0_13 p0 p1 p2 p3 p4) (nar .boolean (v0_2 p0 p1 p2 p3 p4)) (v0_10 p0 p1 p2 p3 p4) (v0_10 p0 p1 p2 p3 p4)))])) _
    refine XS.iload X43.here hx rfl (hb hby at_172) rfl ?_
    exact k
  clear pre42 st43
  have pre46 : ∀ t, Steps p.tables e below (T43.setTop (mkF m 182 #[.val (.int p0), .val (.int p1), .val (.int p2), .val (.int p3), .val (.int p4), .val (.int (v0_2 p0 p1 p2 p3 p4)), .val (.int (v0_4 p0 p1 p2 p3 p4)), .val (.int (v0_6 p0 p1 p2 p3 p4)), .val (.int (v0_7 p0 p1 p2 p3 p4)), .val (.double (v0_10 p0 p1 p2 p3 p4)), .second, .val (.double (v0_13 p0 p1 p2 p3 p4)), .second, .val (.int (v0_14 p0 p1 p2 p3 p4)), .val (.ref b16), .val (.int (v0_23 p0 p1 p2 p3 p4))] [(.int (v0_25 p0 p1 p2 p3 p4))])) t → Steps p.tables e below (s₁.setTop (entryFrame m #[(.int p0), (.int p1), (.int p2), (.int p3), (.int p4)] maxLocals)) t := by
    intro t k
    by_cases c45 : (v0_24 p0 p1 p2 p3 p4) = (v0_23 p0 p1 p2 p3 p4)
    · skip
      rw [show (v0_25 p0 p1 p2 p3 p4) = (1 : Int32) from (if_pos c45)] at k
      refine pre44 t ?_
      show Steps p.tables e below (T43.setTop (mkF m 174 #[.val (.int p0), .val (.int p1), .val (.int p2), .val (.int p3), .val (.int p4), .val (.int (v0_2 p0 p1 p2 p3 p4)), .val (.int (v0_4 p0 p1 p2 p3 p4)), .val (.int (v0_6 p0 p1 p2 p3 p4)), .val (.int (v0_7 p0 p1 p2 p3 p4)), .val (.double (v0_10 p0 p1 p2 p3 p4)), .second, .val (.double (v0_13 p0 p1 p2 p3 p4)), .second, .val (.int (v0_14 p0 p1 p2 p3 p4)), .val (.ref b16), .val (.int (v0_23 p0 p1 p2 p3 p4))] [(.int (v0_23 p0 p1 p2 p3 p4)), (.int (f4 (v0_7 p0 p1 p2 p3 p4) (v0_13 p0 p1 p2 p3 p4) (nar .boolean (v0_2 p0 p1 p2 p3 p4)) (v0_10 p0 p1 p2 p3 p4) (v0_10 p0 p1 p2 p3 p4)))])) _
      refine XS.icmpNo X43.here hx rfl (hb hby at_174) rfl (XT.ii_ne_f c45) ?_
      show Steps p.tables e below (T43.setTop (mkF m 177 #[.val (.int p0), .val (.int p1), .val (.int p2), .val (.int p3), .val (.int p4), .val (.int (v0_2 p0 p1 p2 p3 p4)), .val (.int (v0_4 p0 p1 p2 p3 p4)), .val (.int (v0_6 p0 p1 p2 p3 p4)), .val (.int (v0_7 p0 p1 p2 p3 p4)), .val (.double (v0_10 p0 p1 p2 p3 p4)), .second, .val (.double (v0_13 p0 p1 p2 p3 p4)), .second, .val (.int (v0_14 p0 p1 p2 p3 p4)), .val (.ref b16), .val (.int (v0_23 p0 p1 p2 p3 p4))] [])) _
      refine XT.iconstV X43.here hx rfl (1 : Int32) (hb hby at_177) (by decide) ?_
      show Steps p.tables e below (T43.setTop (mkF m 178 #[.val (.int p0), .val (.int p1), .val (.int p2), .val (.int p3), .val (.int p4), .val (.int (v0_2 p0 p1 p2 p3 p4)), .val (.int (v0_4 p0 p1 p2 p3 p4)), .val (.int (v0_6 p0 p1 p2 p3 p4)), .val (.int (v0_7 p0 p1 p2 p3 p4)), .val (.double (v0_10 p0 p1 p2 p3 p4)), .second, .val (.double (v0_13 p0 p1 p2 p3 p4)), .second, .val (.int (v0_14 p0 p1 p2 p3 p4)), .val (.ref b16), .val (.int (v0_23 p0 p1 p2 p3 p4))] [(.int (1 : Int32))])) _
      refine XS.goto X43.here hx rfl (pc0 := 178) (pc' := 182) rfl (hb hby at_178) (by decide) (by decide) ?_
      exact k
    · skip
      rw [show (v0_25 p0 p1 p2 p3 p4) = (0 : Int32) from (if_neg c45)] at k
      refine pre44 t ?_
      show Steps p.tables e below (T43.setTop (mkF m 174 #[.val (.int p0), .val (.int p1), .val (.int p2), .val (.int p3), .val (.int p4), .val (.int (v0_2 p0 p1 p2 p3 p4)), .val (.int (v0_4 p0 p1 p2 p3 p4)), .val (.int (v0_6 p0 p1 p2 p3 p4)), .val (.int (v0_7 p0 p1 p2 p3 p4)), .val (.double (v0_10 p0 p1 p2 p3 p4)), .second, .val (.double (v0_13 p0 p1 p2 p3 p4)), .second, .val (.int (v0_14 p0 p1 p2 p3 p4)), .val (.ref b16), .val (.int (v0_23 p0 p1 p2 p3 p4))] [(.int (v0_23 p0 p1 p2 p3 p4)), (.int (f4 (v0_7 p0 p1 p2 p3 p4) (v0_13 p0 p1 p2 p3 p4) (nar .boolean (v0_2 p0 p1 p2 p3 p4)) (v0_10 p0 p1 p2 p3 p4) (v0_10 p0 p1 p2 p3 p4)))])) _
      refine XS.icmpYes X43.here hx rfl (pc0 := 174) (pc' := 181) rfl (hb hby at_174) rfl (XT.ii_ne_t c45) (by decide) (by decide) ?_
      show Steps p.tables e below (T43.setTop (mkF m 181 #[.val (.int p0), .val (.int p1), .val (.int p2), .val (.int p3), .val (.int p4), .val (.int (v0_2 p0 p1 p2 p3 p4)), .val (.int (v0_4 p0 p1 p2 p3 p4)), .val (.int (v0_6 p0 p1 p2 p3 p4)), .val (.int (v0_7 p0 p1 p2 p3 p4)), .val (.double (v0_10 p0 p1 p2 p3 p4)), .second, .val (.double (v0_13 p0 p1 p2 p3 p4)), .second, .val (.int (v0_14 p0 p1 p2 p3 p4)), .val (.ref b16), .val (.int (v0_23 p0 p1 p2 p3 p4))] [])) _
      refine XT.iconstV X43.here hx rfl (0 : Int32) (hb hby at_181) (by decide) ?_
      exact k
  have hv47 : (v0_25 p0 p1 p2 p3 p4) = (1 : Int32) := own_law p0 p1 p2 p3 p4
  obtain ⟨fs, hr, hrun, hended, hW, hsame⟩ := X43.leave (v := some (.int (1 : Int32))) (fun h => by rw [Bd.returns] at h; cases h) hlk
  refine ⟨_, _, pre46 _ ?_, hrun, hended, _, _, rfl, ?_, ⟨_, rfl⟩, hW, hsame.mono (by decide) (by decide)⟩
  · skip
    show Steps p.tables e below (T43.setTop (mkF m 182 #[.val (.int p0), .val (.int p1), .val (.int p2), .val (.int p3), .val (.int p4), .val (.int (v0_2 p0 p1 p2 p3 p4)), .val (.int (v0_4 p0 p1 p2 p3 p4)), .val (.int (v0_6 p0 p1 p2 p3 p4)), .val (.int (v0_7 p0 p1 p2 p3 p4)), .val (.double (v0_10 p0 p1 p2 p3 p4)), .second, .val (.double (v0_13 p0 p1 p2 p3 p4)), .second, .val (.int (v0_14 p0 p1 p2 p3 p4)), .val (.ref b16), .val (.int (v0_23 p0 p1 p2 p3 p4))] [(.int (v0_25 p0 p1 p2 p3 p4))])) _
    rw [hv47]
    exact retN X43 hx (t := .boolean) Bd.returns (by simp) (hb hby at_182) hr
  · skip
    show Q0 Z p0 p1 p2 p3 p4 h0 n0 _ T43.heap _
    rw [e43]
    exact ⟨rfl, N43⟩
set_option maxRecDepth 65536 in
set_option maxHeartbeats 40000000 in
theorem comes_1 {Post : Tables → Env → Array Value → State → Outcome → State → Prop} (hpost : ∀ tb e args s v u, (limb_1_1.after args s (.returned v) u = true ∧ limb_1_2.after args s (.returned v) u = true ∧ True) → FrameEnd s (.returned v) u (Jvm.fieldLocs frame_1_writes args s ++ Jvm.arrayLocs frame_1_arrays args s ++ Jvm.staticLocs frame_1_statics s) 16 128 → Post tb e args s (.returned v) u) :
    ArmFor flags0 classFile x code maxLocals ret World_1 tables_1 room_1 Calls_1 rest_1 Pre_1 Post := by
  intro l hfl _ _ p e ha hc hk s m args below hf hA hF happ hP
  obtain ⟨hcalls, hrest, hpre⟩ := hP
  obtain ⟨-, -, -, hnamed, -, -, -, hat⟩ := (Spec.applies_iff hf).mp happ
  obtain ⟨hg, hn⟩ := and_e (Cond.before_iff.mp (show (Jvm.Cond.and given_1 narrow_1).before args s = true from hpre))
  obtain ⟨hcount, r0⟩ := and_e hg
  obtain ⟨ha0, r1⟩ := and_e r0
  obtain ⟨ha1, r2⟩ := and_e r1
  obtain ⟨ha2, r3⟩ := and_e r2
  obtain ⟨ha3, r4⟩ := and_e r3
  obtain ⟨w0, w1, w2, w3, w4, rfl⟩ : ∃ w0 w1 w2 w3 w4 : Value, args = #[w0, w1, w2, w3, w4] := by
    have hs : args.size = 5 := by simpa [Cond.value, given_1] using hcount
    obtain ⟨L⟩ := args
    match L, hs with
    | [w0, w1, w2, w3, w4], _ => exact ⟨w0, w1, w2, w3, w4, rfl⟩
  have hw := fun d (hd : d ∈ tables_1) => atoms_spec (ws := Jvm.Cond.code x code maxLocals ret :: tables_1) hat d (List.mem_cons_of_mem _ hd)
  have hfit : Fit s := fun {y c} hc i hi => by
    obtain ⟨ha, rfl⟩ := Array.getElem?_eq_some_iff.mp hc
    have q := List.all_eq_true.mp ((Array.all_eq_true_iff_forall_mem.mp hF) _ (Array.getElem_mem ha)) i (List.mem_range.mpr hi)
    simpa [Array.getElem?_eq_getElem hi] using q
  obtain ⟨i0, ei0⟩ := is_v ha0
  obtain rfl : w0 = (.int i0) := Option.some.inj ei0
  obtain ⟨i1, ei1⟩ := is_v ha1
  obtain rfl : w1 = (.int i1) := Option.some.inj ei1
  obtain ⟨i2, ei2⟩ := is_v ha2
  obtain rfl : w2 = (.int i2) := Option.some.inj ei2
  obtain ⟨i3, ei3⟩ := is_v ha3
  obtain rfl : w3 = (.int i3) := Option.some.inj ei3
  obtain ⟨i4, ei4⟩ := is_v r4
  obtain rfl : w4 = (.int i4) := Option.some.inj ei4
  obtain ⟨n, o, h1, h2, h3, _, L, rfl, ⟨rfl, N⟩, hq⟩ := rm0 l s _ hw tables_1 i0 i1 i2 i3 i4 s.heap s.heap.size (Nat.le_refl _) p e ha hc hk s m _ below hf ((Spec.applies_iff_loose hf).mp happ).1 ⟨rfl, State.Warmed39.refl s, rfl⟩ trivial
  refine ⟨n, _, h1, h2, h3, hpost _ _ _ _ _ _ ⟨Cond.after_iff.mpr rfl, Cond.after_iff.mpr (eq_i res_at (Term.int_eval (1)) rfl), trivial⟩ ⟨hq.1, hq.2.1, (hq.2.2.sift fun y hy => Or.inr (N y hy)).mono (by decide) (by decide)⟩⟩
theorem main_1_1 : Claimed_1_1 := comes_1 fun _ _ _ _ _ _ h hF => ⟨h.1, hF⟩
theorem main_1_2 : Claimed_1_2 := comes_1 fun _ _ _ _ _ _ h hF => ⟨h.2.1, hF⟩
end Jvm.Pilot.@@N@@
namespace Jvm.Pilot.@@N@@
open Jvm Jvm.ClassFile Sem Op Lib Jvm.Free Jvm.Stand Jvm.Pilot.@@N@@.Jvm.D
/-! MADE BY PROGRAM (witnessworld.py) out of the Statement's table words and the real class files: 10 classes; the members and pool entries that the words name. The judged class is class 1, her method 1. -/
namespace start1
open Jvm.ClassFile
def u (s : String) : CpInfo := .utf8 (stringToUtf16 s)
/-- a pool by its gaps: so many unusable entries, then the entry; so many at the end -/
def gap : Nat → List CpInfo → List CpInfo
  | 0, r => r
  | n + 1, r => .unusable :: gap n r
def poolList (es : List (Nat × CpInfo)) (last : Nat) : List CpInfo := es.foldr (fun e r => gap e.1 (e.2 :: r)) (gap last [])
def pool (es : List (Nat × CpInfo)) (last : Nat) : Array CpInfo := ⟨poolList es last⟩
def fileOf (pool : Array CpInfo) (this : Nat) (attrs : Array Attribute := #[]) (ms : Array MethodInfo := #[]) (fl : Nat := 33) (sup : Nat := 0) (ifs : Array Nat := #[]) (fds : Array FieldInfo := #[]) : ClassFile where
  minorVersion := 0
  majorVersion := 65
  constantPool := pool
  accessFlags := fl
  thisClass := this
  superClass := sup
  interfaces := ifs
  fields := fds
  methods := ms
  attributes := attrs
def plain (name : String) (sup : Option ClassId) : Class where
  name := name
  kind := .ordinary
  loader := none
  accessFlags := 33
  super := sup
  interfaces := #[]
  cf := none
  fields := #[]
  methods := #[]
  instanceTypes := #[]
  staticTypes := #[]
  resolved := #[]
  callSites := []
  init := .initialized
  statics := none
  mirror := none

def pool0 : Array CpInfo := pool [(5, u "<init>"), (0, u "()V"), (1, .class_ 10), (1, u "java/lang/Object")] 113

def k0c0 : Code := { maxStack := 0, maxLocals := 1, code := object_method_1_code, exceptionTable := #[], attributes := #[] }
def k0m0 : Method := { name := "<init>", desc := "()V", sig := { parameters := [], returnType := none }, accessFlags := 1, code := some k0c0 }
/-- java/lang/Object -/
def k0 : Class := { plain "java/lang/Object" none with
  accessFlags := 33
  interfaces := #[]
  cf := some (fileOf pool0 8 #[] #[{ accessFlags := 1, nameIndex := 5, descriptorIndex := 6, attributes := #[] }] 33 0 #[] #[])
  fields := #[]
  methods := #[k0m0]
  instanceTypes := #[]
  staticTypes := #[]
  resolved := Array.replicate 124 none
  statics := none }

def pool1 : Array CpInfo := pool [(2, .class_ 4), (1, u "java/lang/Object"), (0, u "<init>"), (0, u "()V"), (0, .integer 65535), (0, .double 4616189618054758400), (1, .integer 131071), (0, .integer 2147483647), (0, .class_ 13), (0, u "com/example/gryphon/gryphon/engine/Stop"), (0, .methodref 12 15), (0, .nameAndType 5 16), (0, u "(ZDI)V"), (0, .methodref 12 18), (0, .nameAndType 19 20), (0, u "met"), (0, u "(ID)Z"), (0, .class_ 22), (0, u "com/example/gryphon/gryphon/engine/StopMetPinLaw"), (2, u "law"), (0, u "(IIIII)Z")] 3

def k1m0 : Method := { name := "<init>", desc := "()V", sig := { parameters := [], returnType := none }, accessFlags := 1, code := none }
def k1c1 : Code := { maxStack := 6, maxLocals := 16, code := code, exceptionTable := #[], attributes := #[] }
def k1m1 : Method := { name := "law", desc := "(IIIII)Z", sig := { parameters := [.int, .int, .int, .int, .int], returnType := some .boolean }, accessFlags := 9, code := some k1c1 }
/-- com/example/gryphon/gryphon/engine/StopMetPinLaw -/
def k1 : Class := { plain "com/example/gryphon/gryphon/engine/StopMetPinLaw" (some 0) with
  accessFlags := 49
  interfaces := #[]
  cf := some (fileOf pool1 21 #[] #[{ accessFlags := 1, nameIndex := 5, descriptorIndex := 6, attributes := #[] }, { accessFlags := 9, nameIndex := 25, descriptorIndex := 26, attributes := #[] }] 49 2 #[] #[])
  fields := #[]
  methods := #[k1m0, k1m1]
  instanceTypes := #[]
  staticTypes := #[]
  resolved := Array.replicate 30 none
  statics := none }

def pool2 : Array CpInfo := pool [(1, .methodref 2 3), (0, .class_ 4), (0, .nameAndType 5 6), (0, u "java/lang/Object"), (0, u "<init>"), (0, u "()V"), (0, .class_ 8), (0, u "java/lang/Record")] 13

def k2c0 : Code := { maxStack := 1, maxLocals := 1, code := jdk_30_method_1_code, exceptionTable := #[], attributes := #[] }
def k2m0 : Method := { name := "<init>", desc := "()V", sig := { parameters := [], returnType := none }, accessFlags := 4, code := some k2c0 }
/-- java/lang/Record -/
def k2 : Class := { plain "java/lang/Record" (some 0) with
  accessFlags := 1057
  interfaces := #[]
  cf := some (fileOf pool2 7 #[] #[{ accessFlags := 4, nameIndex := 5, descriptorIndex := 6, attributes := #[] }] 1057 2 #[] #[])
  fields := #[]
  methods := #[k2m0]
  instanceTypes := #[]
  staticTypes := #[]
  resolved := Array.replicate 22 none
  statics := none }

def pool3 : Array CpInfo := pool [(1, .methodref 2 3), (0, .class_ 4), (0, .nameAndType 5 6), (0, u "java/lang/Record"), (0, u "<init>"), (0, u "()V"), (12, .fieldref 20 21), (0, .class_ 22), (0, .nameAndType 23 24), (0, u "com/example/gryphon/gryphon/engine/Stop"), (0, u "whenUnchanged"), (0, u "Z"), (0, .fieldref 20 26), (0, .nameAndType 27 28), (0, u "tolerance"), (0, u "D"), (0, .fieldref 20 30), (0, .nameAndType 31 32), (0, u "maxIterations"), (0, u "I"), (2, u "(ZDI)V"), (17, u "WHEN_UNCHANGED"), (0, u "Lcom/example/gryphon/gryphon/engine/Stop;"), (9, u "met"), (0, u "(ID)Z")] 38

def k3c0 : Code := { maxStack := 4, maxLocals := 5, code := prog_26_method_1_code, exceptionTable := #[], attributes := #[] }
def k3m0 : Method := { name := "<init>", desc := "(ZDI)V", sig := { parameters := [.boolean, .double, .int], returnType := none }, accessFlags := 1, code := some k3c0 }
def k3c1 : Code := { maxStack := 4, maxLocals := 4, code := prog_26_method_5_code, exceptionTable := #[], attributes := #[] }
def k3m1 : Method := { name := "met", desc := "(ID)Z", sig := { parameters := [.int, .double], returnType := some .boolean }, accessFlags := 0, code := some k3c1 }
/-- com/example/gryphon/gryphon/engine/Stop -/
def k3 : Class := { plain "com/example/gryphon/gryphon/engine/Stop" (some 2) with
  accessFlags := 49
  interfaces := #[]
  cf := some (fileOf pool3 20 #[] #[{ accessFlags := 1, nameIndex := 5, descriptorIndex := 35, attributes := #[] }, { accessFlags := 0, nameIndex := 64, descriptorIndex := 65, attributes := #[] }] 49 2 #[] #[{ accessFlags := 18, nameIndex := 23, descriptorIndex := 24, attributes := #[] }, { accessFlags := 18, nameIndex := 27, descriptorIndex := 28, attributes := #[] }, { accessFlags := 18, nameIndex := 31, descriptorIndex := 32, attributes := #[] }, { accessFlags := 25, nameIndex := 53, descriptorIndex := 54, attributes := #[] }])
  fields := #[{ name := "whenUnchanged", type := .boolean, accessFlags := 18, slot := 0, constantValue := 0 }, { name := "tolerance", type := .double, accessFlags := 18, slot := 1, constantValue := 0 }, { name := "maxIterations", type := .int, accessFlags := 18, slot := 2, constantValue := 0 }, { name := "WHEN_UNCHANGED", type := (.object "com/example/gryphon/gryphon/engine/Stop"), accessFlags := 25, slot := 0, constantValue := 0 }]
  methods := #[k3m0, k3m1]
  instanceTypes := #[.boolean, .double, .int]
  staticTypes := #[(.object "com/example/gryphon/gryphon/engine/Stop")]
  resolved := Array.replicate 104 none
  statics := none }

def pool4 : Array CpInfo := pool [(1, u "java/lang/Cloneable"), (0, .class_ 1), (0, u "java/lang/Object"), (0, .class_ 3)] 3

/-- java/lang/Cloneable -/
def k4 : Class := { plain "java/lang/Cloneable" (some 0) with
  accessFlags := 1537
  interfaces := #[]
  cf := some (fileOf pool4 2 #[] #[] 1537 4 #[] #[])
  fields := #[]
  methods := #[]
  instanceTypes := #[]
  staticTypes := #[]
  resolved := Array.replicate 8 none
  statics := none }

def pool5 : Array CpInfo := pool [(1, u "java/io/Serializable"), (0, .class_ 1), (0, u "java/lang/Object"), (0, .class_ 3)] 3

/-- java/io/Serializable -/
def k5 : Class := { plain "java/io/Serializable" (some 0) with
  accessFlags := 1537
  interfaces := #[]
  cf := some (fileOf pool5 2 #[] #[] 1537 4 #[] #[])
  fields := #[]
  methods := #[]
  instanceTypes := #[]
  staticTypes := #[]
  resolved := Array.replicate 8 none
  statics := none }

/-- the primitive byte -/
def k6 : Class := { plain "byte" none with kind := .primitive 'B', accessFlags := 0x411 }
/-- [B -/
def k7 : Class := { plain "[B" (some 0) with kind := .array 6 .byte, interfaces := #[4, 5], accessFlags := 1041 }

/-- the primitive int -/
def k8 : Class := { plain "int" none with kind := .primitive 'I', accessFlags := 0x411 }
/-- [I -/
def k9 : Class := { plain "[I" (some 0) with kind := .array 8 .int, interfaces := #[4, 5], accessFlags := 1041 }

def heap : Heap := #[]
def classes : Array Class := #[k0, k1, k2, k3, k4, k5, k6, k7, k8, k9]
def interned : List (Array UInt16 × Addr) := []
def slotsUsed : Nat := 0
def theMethod : MethodId := ⟨1, 1⟩
def args0 : Array Value := #[.int 5, .int 7, .int 3, .int 9, .int 4]
def aboutOver (below : List Frame) : State where
  vm := { classes := classes, interned := interned.toArray }
  heap := heap
  slotsUsed := slotsUsed
  threads := #[{ frames := .invoking theMethod args0 :: below }]
def below0 : List Frame := [.native { method := ⟨0, 0⟩, args := #[] }]
def about1 : State := aboutOver below0
def p0 : Program := .bare "" "" ""
def e0 : Env := launch0.env 0 0 0
theorem w_frames : about1.frames = Frame.invoking theMethod args0 :: below0 := rfl
set_option maxRecDepth 65536 in
theorem w_args : argsFit about1.vm theMethod args0 = true := by decide +kernel
set_option maxRecDepth 65536 in
theorem w_heap : heapFits about1 = true := by decide +kernel
set_option maxRecDepth 65536 in
theorem w_runnable : about1.curStatus? = some .runnable := by decide +kernel
set_option maxRecDepth 65536 in
theorem w_alone : about1.alone = true := by decide +kernel
set_option maxRecDepth 65536 in
theorem w_named : about1.methodNamed? x = some theMethod := by decide +kernel
set_option maxRecDepth 65536 in
theorem w_hears : about1.hears theMethod below0 = true := by decide +kernel
set_option maxRecDepth 65536 in
theorem w_ripe : about1.ripe theMethod args0 below0 = true := by decide +kernel
theorem w_running : about1.status = .running := rfl
set_option maxRecDepth 65536 in
theorem w_room : about1.hasRoom e0.platform room_1 = true :=
  launch0.hasRoom_least _ room_1 (by decide +kernel) (by decide +kernel) (by decide +kernel) (by decide +kernel) (by decide +kernel) (by decide +kernel)
theorem allAtoms_all (ts : List Jvm.Cond) (a : Array Jvm.Value) (st : Jvm.State) : (allAtoms ts).before a st = ts.all (fun c => c.before a st) := by
  induction ts with
  | nil => rfl
  | cons c t ih =>
    show (Jvm.Cond.and c (allAtoms t)).before a st = _
    rw [Jvm.Cond.before_and, ih, List.all_cons]
def words1 : List Jvm.Cond := Jvm.Cond.code x code maxLocals ret :: tables_1
/-- a 'code' word, met by the world's own term for the bytes: nothing is compared byte by byte -/
theorem code_word {y : MethodName} {bytes : ByteArray} {mx : Nat} {rt : Option FieldType} {a : Array Value} {s : State} {m : MethodId} {meth : Method} {c : Code} (h1 : s.methodNamed? y = some m) (h2 : s.vm.method? m = some meth) (h3 : meth.code = some c) (h4 : c.code = bytes)
    (h5 : (c.maxLocals == mx && c.exceptionTable.isEmpty && decide (c.maxStack ≤ mostOperands) && decide (meth.sig.returnType = rt) && !meth.locks && decide (parseMethodDescriptor y.desc = some meth.sig)) = true) : (Jvm.Cond.code y bytes mx rt).before a s = true := by
  simp only [Bool.and_eq_true, beq_iff_eq, Bool.not_eq_true', decide_eq_true_eq] at h5
  obtain ⟨⟨⟨⟨⟨g1, g2⟩, g3⟩, g4⟩, g5⟩, g6⟩ := h5
  simp [Cond.before, Cond.holds, Cond.value, h1, h2, h3, h4, g1, g2, g3, g4, g5, g6]
def isCode : Jvm.Cond → Bool
  | .code _ _ _ _ => true
  | _ => false
theorem all_split {L : List Jvm.Cond} {P : Jvm.Cond → Bool} (h1 : L.all (fun c => isCode c || P c) = true) (h2 : ∀ c ∈ L.filter isCode, P c = true) : L.all P = true := by
  refine List.all_eq_true.mpr fun c hc => ?_
  have h := List.all_eq_true.mp h1 c hc
  rcases Bool.eq_false_or_eq_true (isCode c) with hi | hi
  · exact h2 c (List.mem_filter.mpr ⟨hc, hi⟩)
  · simpa [hi] using h
set_option maxRecDepth 65536 in
theorem w_c0 : (Jvm.Cond.code x code maxLocals ret).before args0 about1 = true := code_word (m := ⟨1, 1⟩) (meth := k1m1) (c := k1c1) (by decide +kernel) rfl rfl rfl (by decide +kernel)
set_option maxRecDepth 65536 in
theorem w_c1 : (Jvm.Cond.code ({ cls := "com/example/gryphon/gryphon/engine/Stop", name := "<init>", desc := "(ZDI)V" } : Jvm.MethodName) prog_26_method_1_code (5 : Nat) (Option.none : Option Jvm.ClassFile.FieldType)).before args0 about1 = true := code_word (m := ⟨3, 0⟩) (meth := k3m0) (c := k3c0) (by decide +kernel) rfl rfl rfl (by decide +kernel)
set_option maxRecDepth 65536 in
theorem w_c2 : (Jvm.Cond.code ({ cls := "java/lang/Record", name := "<init>", desc := "()V" } : Jvm.MethodName) jdk_30_method_1_code (1 : Nat) (Option.none : Option Jvm.ClassFile.FieldType)).before args0 about1 = true := code_word (m := ⟨2, 0⟩) (meth := k2m0) (c := k2c0) (by decide +kernel) rfl rfl rfl (by decide +kernel)
set_option maxRecDepth 65536 in
theorem w_c3 : (Jvm.Cond.code ({ cls := "java/lang/Object", name := "<init>", desc := "()V" } : Jvm.MethodName) object_method_1_code (1 : Nat) (Option.none : Option Jvm.ClassFile.FieldType)).before args0 about1 = true := code_word (m := ⟨0, 0⟩) (meth := k0m0) (c := k0c0) (by decide +kernel) rfl rfl rfl (by decide +kernel)
set_option maxRecDepth 65536 in
theorem w_c4 : (Jvm.Cond.code ({ cls := "com/example/gryphon/gryphon/engine/Stop", name := "met", desc := "(ID)Z" } : Jvm.MethodName) prog_26_method_5_code (4 : Nat) (Option.some Jvm.ClassFile.FieldType.boolean)).before args0 about1 = true := code_word (m := ⟨3, 1⟩) (meth := k3m1) (c := k3c1) (by decide +kernel) rfl rfl rfl (by decide +kernel)
def codes1 : List Jvm.Cond := [Jvm.Cond.code x code maxLocals ret, Jvm.Cond.code ({ cls := "com/example/gryphon/gryphon/engine/Stop", name := "<init>", desc := "(ZDI)V" } : Jvm.MethodName) prog_26_method_1_code (5 : Nat) (Option.none : Option Jvm.ClassFile.FieldType), Jvm.Cond.code ({ cls := "java/lang/Record", name := "<init>", desc := "()V" } : Jvm.MethodName) jdk_30_method_1_code (1 : Nat) (Option.none : Option Jvm.ClassFile.FieldType), Jvm.Cond.code ({ cls := "java/lang/Object", name := "<init>", desc := "()V" } : Jvm.MethodName) object_method_1_code (1 : Nat) (Option.none : Option Jvm.ClassFile.FieldType), Jvm.Cond.code ({ cls := "com/example/gryphon/gryphon/engine/Stop", name := "met", desc := "(ID)Z" } : Jvm.MethodName) prog_26_method_5_code (4 : Nat) (Option.some Jvm.ClassFile.FieldType.boolean)]
set_option maxRecDepth 65536 in
theorem codes_eq : words1.filter isCode = codes1 := rfl
theorem w_codes : ∀ c ∈ words1.filter isCode, c.before args0 about1 = true := by
  rw [codes_eq]
  intro c hc
  simp only [codes1, List.mem_cons, List.not_mem_nil, or_false] at hc
  rcases hc with rfl | rfl | rfl | rfl | rfl
  · exact w_c0
  · exact w_c1
  · exact w_c2
  · exact w_c3
  · exact w_c4
set_option maxRecDepth 65536 in
theorem w_t1 : (words1.take 24).all (fun c => isCode c || c.before args0 about1) = true := by decide +kernel
set_option maxRecDepth 65536 in
theorem w_t2 : (words1.drop 24).all (fun c => isCode c || c.before args0 about1) = true := by decide +kernel
theorem w_tables : (allAtoms (Jvm.Cond.code x code maxLocals ret :: tables_1)).before args0 about1 = true := by
  rw [allAtoms_all]
  show words1.all (fun c => c.before args0 about1) = true
  refine all_split ?_ w_codes
  rw [← List.take_append_drop 24 words1, List.all_append, w_t1, w_t2]
  rfl
set_option maxRecDepth 65536 in
theorem w_case : (Jvm.Cond.and given_1 narrow_1).before args0 about1 = true := by decide +kernel
theorem w_applies : (headSpec (Jvm.Cond.code x code maxLocals ret :: tables_1) room_1).applies x e0.platform about1 = true :=
  (Spec.applies_iff w_frames).mpr ⟨w_running, w_runnable, w_alone, w_named, w_hears, w_ripe, w_room, w_tables⟩
theorem atStart : AtStart classFile x code maxLocals ret World_1 tables_1 room_1 Calls_1 rest_1 Pre_1 launch0 p0 e0 about1 theMethod args0 below0 :=
  ⟨lists_1, trivial, launch0.admits_env _ _ _, launch0.least_env, fairChoices_fair.cas, fairChoices_fair.clock, w_frames, w_args, w_heap, w_applies, trivial, trivial, w_case⟩
end start1
theorem witness_1 : WitnessClaimed_1 := ⟨start1.p0, start1.e0, start1.about1, start1.theMethod, start1.args0, start1.below0, start1.atStart⟩
end Jvm.Pilot.@@N@@
