import JvmDerived
import JvmDerived.Pilot.@@N@@Statement
import JvmDerived.Pilot.@@N@@Code
set_option linter.unusedVariables false
set_option linter.unusedSimpArgs false
@@BLOCK:NumsL.lean.txt@@
namespace Jvm.RoadKit
open Sem ClassFile Op Lib Jvm.Stand Jvm.Free Jvm.LawKit
section New
variable {p : Program} {l : Launch} {e : Env} {R : Room} {s : State} {m : MethodId} {args : Array Value} {below : List Frame} {meth : Method} {c : Code} {T : State} {locs : List Loc} {cells slots : Nat}
theorem retI (X : Stand p l e R s m args below meth c T locs cells slots) (hx : p.tables.exec = Jvm.exec) {pc : Nat} {Ls : Array Slot} {z : Int32} {rest : List Value} (hret : meth.sig.returnType = some .int) (hd : decode c.code pc = .ok (.ireturn, 1)) {fs : List Frame}
    (hl : ∀ (f : JFrame) (acts : List Action), f.method = m → f.locked = none → f.entered = [] → (doReturn e (T.setTop f) acts (some (.int z))).1 = T.setFrames fs) : Steps p.tables e below (T.setTop (mkF m pc Ls (.int z :: rest))) (T.setFrames fs) := by
  have hm' : T.vm.method? m = some meth := X.method'
  have hn : narrow .int (.int z) = .int z := rfl
  show Steps p.tables e below (T.setTop { method := m, pc := pc, locals := Ls, stack := _ :: rest, locked := none }) _
  jvm_step X.here [X.here.top, hx, hd, hm', hret, hn]
  first | (intro acts; rw [hl _ acts rfl rfl rfl]) | rw [hl _ _ rfl rfl rfl]
  exact Steps.refl _
end New
end Jvm.RoadKit
namespace Jvm.Pilot.@@N@@
open Jvm Jvm.ClassFile Sem Op Lib Jvm.Free Jvm.Stand Jvm.LawKit Jvm.RoadKit Bundle Jvm.Pilot.@@N@@.Jvm.D
theorem own_rem32 (x y : Int32) : (x - (x / y) * y).toInt = x.toInt.tmod y.toInt := by
  rw [Int32.toInt_sub, Int32.toInt_mul, Int32.toInt_div]
  simp only [Int.bmod_mul_bmod, Int.sub_bmod_bmod]
  rw [Int.tmod_def, Int.mul_comm y.toInt]
  have h := Int32.toInt_mod x y
  have h1 := (x % y).toInt_lt
  have h2 := (x % y).le_toInt
  rw [h, Int.tmod_def, Int.mul_comm y.toInt] at h1 h2
  exact Int.bmod_eq_of_le (by omega) (by omega)
theorem d3_0 : decode jdk_30_method_1_code 0 = .ok (.aload_n 0, 1) := by decide +kernel
theorem d3_1 : decode jdk_30_method_1_code 1 = .ok (.invokespecial 1, 3) := by decide +kernel
theorem d3_4 : decode jdk_30_method_1_code 4 = .ok (.return_, 1) := by decide +kernel
theorem pn_java_lang_Record : plainName "java/lang/Record" = true := by first | (simp [plainName, overriddenIn]; done) | decide +kernel
theorem ef_3 (m : MethodId) (o0 : Addr) : entryFrame m #[(.ref o0)] 1 = mkF m 0 #[.val (.ref o0)] [] := by first | (simp [entryFrame, mkF, argsToLocals, Value.category]; done) | rfl
def Q3 (Z : State) (o0 : Addr) (h0 : Heap) (n0 : Nat) (v : Option Value) (h : Heap) (L : List Loc) : Prop := Fr n0 L ∧ v = none ∧ h = h0
set_option maxRecDepth 65536 in
set_option maxHeartbeats 40000000 in
theorem rm3 (l : Launch) (Z : State) (a0 : Array Value) (hw : ∀ d ∈ tables_1, d.before a0 Z = true) (ws : List Jvm.Cond) (o0 : Addr) (h0 : Heap) (n0 : Nat) (Z0 : n0 ≤ h0.size) :
    MetFree l (⟨"java/lang/Record", "<init>", "()V"⟩ : MethodName) (head1 (Jvm.Cond.code (⟨"java/lang/Record", "<init>", "()V"⟩ : MethodName) jdk_30_method_1_code 1 none :: ws) ({ frames := 1, cells := 0, slots := 0, locals := 12 } : Room)) (fun a U => a = #[(.ref o0)] ∧ Z.Warmed39 U.vm ∧ U.heap = h0) (fun _ _ _ _ _ => True) (fun _ U o U' => ∃ v L, o = .returned v ∧ Q3 Z o0 h0 n0 v U'.heap L ∧ FrameEnd U o U' L ({ frames := 1, cells := 0, slots := 0, locals := 12 } : Room).cells ({ frames := 1, cells := 0, slots := 0, locals := 12 } : Room).slots) := by
  refine MetFree.of_bodySF (plainFor_of_name pn_java_lang_Record) hisR ?_
  intro p e s m args below meth c s₁ Bd hml0 hP hK
  obtain ⟨rfl, hZ, hh⟩ := hP
  have hx := Bd.exec
  have hby := Bd.bytes
  have hml : c.maxLocals = 1 := hml0
  have hown : s.vm.findClass "java/lang/Record" = some m.cls := findClass_of_methodNamed Bd.named
  have hnm := (name_of_methodNamed Bd.named Bd.method).1
  have X0 : Stand p l e ({ frames := 1, cells := 0, slots := 0, locals := 12 } : Room) s m #[(.ref o0)] below meth c s₁ [] 0 0 := Stand.of_body Bd
  have e0 : s₁.heap = h0 := by rw [← hh, Bd.state]; rfl
  have N0 := Fr.nil n0
  have pre0 : ∀ t, Steps p.tables e below (s₁.setTop (mkF m 0 #[.val (.ref o0)] [])) t → Steps p.tables e below (s₁.setTop (entryFrame m #[(.ref o0)] 1)) t := fun t k => castTop (ef_3 m o0) k
  obtain ⟨T1, X1, e1, st1⟩ := initO X0 hx hZ hown (hw _ (List.mem_of_getElem? (i := 16) rfl)) (hw _ (List.mem_of_getElem? (i := 17) rfl)) (hw _ (List.mem_of_getElem? (i := 18) rfl)) e0 (g := (mkF m 1 #[.val (.ref o0)] [(.ref o0)])) rfl (by rw [hml]; rfl) rfl (hb hby d3_1) (by decide) (W := 0) (by show 2 * 0 + _ ≤ _; exact Nat.le_of_eq rfl) (by decide)
  obtain ⟨fs, hr, hrun, hended, hW, hsame⟩ := X1.leave (v := none) (fun _ => rfl)
  refine ⟨_, _, pre0 _ ?_, hrun, hended, _, _, rfl, ?_, ⟨_, rfl⟩, hW, hsame.mono (by decide) (by decide)⟩
  · skip
    show Steps p.tables e below (s₁.setTop (mkF m 0 #[.val (.ref o0)] [])) _
    refine XS.aloadN X0.here hx rfl (hb hby d3_0) rfl rfl ?_
    show Steps p.tables e below (s₁.setTop (mkF m 1 #[.val (.ref o0)] [(.ref o0)])) _
    refine st1 _ ?_
    show Steps p.tables e below (T1.setTop (mkF m 4 #[.val (.ref o0)] [])) _
    exact X1.returnOut hx Bd.returns (hb hby d3_4) hr
  · skip
    show Q3 Z o0 h0 n0 _ T1.heap _
    rw [e1]
    exact ⟨N0, rfl, rfl⟩
theorem d1_0 : decode jdk_29_method_70_code 0 = .ok (.lload_n 0, 1) := by decide +kernel
theorem d1_1 : decode jdk_29_method_70_code 1 = .ok (.lload_n 2, 1) := by decide +kernel
theorem d1_2 : decode jdk_29_method_70_code 2 = .ok (.lcmp, 1) := by decide +kernel
theorem d1_3 : decode jdk_29_method_70_code 3 = .ok (.ifCond .gt 7, 3) := by decide +kernel
theorem d1_6 : decode jdk_29_method_70_code 6 = .ok (.lload_n 0, 1) := by decide +kernel
theorem d1_7 : decode jdk_29_method_70_code 7 = .ok (.goto 4, 3) := by decide +kernel
theorem d1_10 : decode jdk_29_method_70_code 10 = .ok (.lload_n 2, 1) := by decide +kernel
theorem d1_11 : decode jdk_29_method_70_code 11 = .ok (.lreturn, 1) := by decide +kernel
theorem ef_1 (m : MethodId) (q0 : Int64) (q1 : Int64) : entryFrame m #[(.long q0), (.long q1)] 4 = mkF m 0 #[.val (.long q0), .second, .val (.long q1), .second] [] := by first | (simp [entryFrame, mkF, argsToLocals, Value.category]; done) | rfl
def v1_1 (q0 : Int64) (q1 : Int64) : Int64 := (if q1 < q0 then q1 else q0)
def f1 (q0 : Int64) (q1 : Int64) : Int64 := (v1_1 q0 q1)
def Q1 (Z : State) (q0 : Int64) (q1 : Int64) (h0 : Heap) (n0 : Nat) (v : Option Value) (h : Heap) (L : List Loc) : Prop := Fr n0 L ∧ v = some (.long (f1 q0 q1)) ∧ h = h0
set_option maxRecDepth 65536 in
set_option maxHeartbeats 40000000 in
theorem rm1 (l : Launch) (Z : State) (a0 : Array Value) (hw : ∀ d ∈ tables_1, d.before a0 Z = true) (ws : List Jvm.Cond) (q0 : Int64) (q1 : Int64) (h0 : Heap) (n0 : Nat) (Z0 : n0 ≤ h0.size) :
    MetFree l (⟨"java/lang/Math", "min", "(JJ)J"⟩ : MethodName) (head1 (Jvm.Cond.code (⟨"java/lang/Math", "min", "(JJ)J"⟩ : MethodName) jdk_29_method_70_code 4 (some .long) :: ws) ({ frames := 0, cells := 0, slots := 0, locals := 0 } : Room)) (fun a U => a = #[(.long q0), (.long q1)] ∧ Z.Warmed39 U.vm ∧ U.heap = h0) (fun _ _ _ _ _ => True) (fun _ U o U' => ∃ v L, o = .returned v ∧ Q1 Z q0 q1 h0 n0 v U'.heap L ∧ FrameEnd U o U' L ({ frames := 0, cells := 0, slots := 0, locals := 0 } : Room).cells ({ frames := 0, cells := 0, slots := 0, locals := 0 } : Room).slots) := by
  refine MetFree.of_bodySF (Jvm.Free.JP.mathPlain rfl (by decide +kernel)) hisR ?_
  intro p e s m args below meth c s₁ Bd hml0 hP hK
  obtain ⟨rfl, hZ, hh⟩ := hP
  have hx := Bd.exec
  have hby := Bd.bytes
  have hml : c.maxLocals = 4 := hml0
  have hown : s.vm.findClass "java/lang/Math" = some m.cls := findClass_of_methodNamed Bd.named
  have hnm := (name_of_methodNamed Bd.named Bd.method).1
  have X0 : Stand p l e ({ frames := 0, cells := 0, slots := 0, locals := 0 } : Room) s m #[(.long q0), (.long q1)] below meth c s₁ [] 0 0 := Stand.of_body Bd
  have e0 : s₁.heap = h0 := by rw [← hh, Bd.state]; rfl
  have N0 := Fr.nil n0
  have pre0 : ∀ t, Steps p.tables e below (s₁.setTop (mkF m 0 #[.val (.long q0), .second, .val (.long q1), .second] [])) t → Steps p.tables e below (s₁.setTop (entryFrame m #[(.long q0), (.long q1)] 4)) t := fun t k => castTop (ef_1 m q0 q1) k
  have pre1 : ∀ t, Steps p.tables e below (s₁.setTop (mkF m 3 #[.val (.long q0), .second, .val (.long q1), .second] [(.int (XT.cmpL q0 q1))])) t → Steps p.tables e below (s₁.setTop (entryFrame m #[(.long q0), (.long q1)] 4)) t := by
    intro t k
    refine pre0 t ?_
    show Steps p.tables e below (s₁.setTop (mkF m 0 #[.val (.long q0), .second, .val (.long q1), .second] [])) _
    refine XT.lloadN X0.here hx rfl (hb hby d1_0) rfl ?_
    show Steps p.tables e below (s₁.setTop (mkF m 1 #[.val (.long q0), .second, .val (.long q1), .second] [(.long q0)])) _
    refine XT.lloadN X0.here hx rfl (hb hby d1_1) rfl ?_
    show Steps p.tables e below (s₁.setTop (mkF m 2 #[.val (.long q0), .second, .val (.long q1), .second] [(.long q1), (.long q0)])) _
    refine XT.lcmp X0.here hx rfl (hb hby d1_2) rfl ?_
    exact k
  have pre3 : ∀ t, Steps p.tables e below (s₁.setTop (mkF m 11 #[.val (.long q0), .second, .val (.long q1), .second] [(.long (v1_1 q0 q1))])) t → Steps p.tables e below (s₁.setTop (entryFrame m #[(.long q0), (.long q1)] 4)) t := by
    intro t k
    by_cases c2 : q1 < q0
    · skip
      rw [show (v1_1 q0 q1) = q1 from (if_pos c2)] at k
      refine pre1 t ?_
      show Steps p.tables e below (s₁.setTop (mkF m 3 #[.val (.long q0), .second, .val (.long q1), .second] [(.int (XT.cmpL q0 q1))])) _
      refine XS.ifYes X0.here hx rfl (pc0 := 3) (pc' := 10) rfl (hb hby d1_3) rfl (XT.ll_gt_t c2) (by decide) (by decide) ?_
      show Steps p.tables e below (s₁.setTop (mkF m 10 #[.val (.long q0), .second, .val (.long q1), .second] [])) _
      refine XT.lloadN X0.here hx rfl (hb hby d1_10) rfl ?_
      exact k
    · skip
      rw [show (v1_1 q0 q1) = q0 from (if_neg c2)] at k
      refine pre1 t ?_
      show Steps p.tables e below (s₁.setTop (mkF m 3 #[.val (.long q0), .second, .val (.long q1), .second] [(.int (XT.cmpL q0 q1))])) _
      refine XS.ifNo X0.here hx rfl (hb hby d1_3) rfl (XT.ll_gt_f c2) ?_
      show Steps p.tables e below (s₁.setTop (mkF m 6 #[.val (.long q0), .second, .val (.long q1), .second] [])) _
      refine XT.lloadN X0.here hx rfl (hb hby d1_6) rfl ?_
      show Steps p.tables e below (s₁.setTop (mkF m 7 #[.val (.long q0), .second, .val (.long q1), .second] [(.long q0)])) _
      refine XS.goto X0.here hx rfl (pc0 := 7) (pc' := 11) rfl (hb hby d1_7) (by decide) (by decide) ?_
      exact k
  obtain ⟨fs, hr, hrun, hended, hW, hsame⟩ := X0.leave (v := some (.long (v1_1 q0 q1))) (fun h => by rw [Bd.returns] at h; cases h)
  refine ⟨_, _, pre3 _ ?_, hrun, hended, _, _, rfl, ?_, ⟨_, rfl⟩, hW, hsame.mono (by decide) (by decide)⟩
  · skip
    show Steps p.tables e below (s₁.setTop (mkF m 11 #[.val (.long q0), .second, .val (.long q1), .second] [(.long (v1_1 q0 q1))])) _
    exact X0.lreturnOut hx Bd.returns (hb hby d1_11) hr
  · skip
    show Q1 Z q0 q1 h0 n0 _ s₁.heap _
    rw [e0]
    exact ⟨N0, rfl, rfl⟩
theorem pd___V : parseMethodDescriptor "()V" = some ⟨[], none⟩ := by decide +kernel
theorem d2_0 : decode prog_24_method_1_code 0 = .ok (.aload_n 0, 1) := by decide +kernel
theorem d2_1 : decode prog_24_method_1_code 1 = .ok (.invokespecial 1, 3) := by decide +kernel
theorem d2_4 : decode prog_24_method_1_code 4 = .ok (.aload_n 0, 1) := by decide +kernel
theorem d2_5 : decode prog_24_method_1_code 5 = .ok (.iload_n 1, 1) := by decide +kernel
theorem d2_6 : decode prog_24_method_1_code 6 = .ok (.putfield 7, 3) := by decide +kernel
theorem d2_9 : decode prog_24_method_1_code 9 = .ok (.aload_n 0, 1) := by decide +kernel
theorem d2_10 : decode prog_24_method_1_code 10 = .ok (.lload_n 2, 1) := by decide +kernel
theorem d2_11 : decode prog_24_method_1_code 11 = .ok (.putfield 13, 3) := by decide +kernel
theorem d2_14 : decode prog_24_method_1_code 14 = .ok (.return_, 1) := by decide +kernel
theorem pn_com_example_tollgate_tollgate_store_Failures : plainName "com/example/tollgate/tollgate/store/Failures" = true := by first | (simp [plainName, overriddenIn]; done) | decide +kernel
theorem ef_2 (m : MethodId) (o0 : Addr) (p1 : Int32) (q2 : Int64) : entryFrame m #[(.ref o0), (.int p1), (.long q2)] 4 = mkF m 0 #[.val (.ref o0), .val (.int p1), .val (.long q2), .second] [] := by first | (simp [entryFrame, mkF, argsToLocals, Value.category]; done) | rfl
def Q2 (Z : State) (o0 : Addr) (p1 : Int32) (q2 : Int64) (u0_count : Value) (u1_untilMillis : Value) (h0 : Heap) (n0 : Nat) (v : Option Value) (h : Heap) (L : List Loc) : Prop := Fr n0 L ∧ v = none ∧ Keep h0 h [o0] ∧ Exa Z h o0 "com/example/tollgate/tollgate/store/Failures" ∧ Fld Z h o0 "com/example/tollgate/tollgate/store/Failures" "count" "I" (.int p1) ∧ Fld Z h o0 "com/example/tollgate/tollgate/store/Failures" "untilMillis" "J" (.long q2)
set_option maxRecDepth 65536 in
set_option maxHeartbeats 40000000 in
theorem rm2 (l : Launch) (Z : State) (a0 : Array Value) (hw : ∀ d ∈ tables_1, d.before a0 Z = true) (ws : List Jvm.Cond) (o0 : Addr) (p1 : Int32) (q2 : Int64) (u0_count : Value) (u1_untilMillis : Value) (h0 : Heap) (n0 : Nat) (Z0 : n0 ≤ h0.size) (E_o0 : Exa Z h0 o0 "com/example/tollgate/tollgate/store/Failures") (F_count_o0 : Fld Z h0 o0 "com/example/tollgate/tollgate/store/Failures" "count" "I" u0_count) (g_o0 : n0 ≤ o0) (F_untilMillis_o0 : Fld Z h0 o0 "com/example/tollgate/tollgate/store/Failures" "untilMillis" "J" u1_untilMillis) :
    MetFree l (⟨"com/example/tollgate/tollgate/store/Failures", "<init>", "(IJ)V"⟩ : MethodName) (head1 (Jvm.Cond.code (⟨"com/example/tollgate/tollgate/store/Failures", "<init>", "(IJ)V"⟩ : MethodName) prog_24_method_1_code 4 none :: ws) ({ frames := 2, cells := 0, slots := 0, locals := 24 } : Room)) (fun a U => a = #[(.ref o0), (.int p1), (.long q2)] ∧ Z.Warmed39 U.vm ∧ U.heap = h0) (fun _ _ _ _ _ => True) (fun _ U o U' => ∃ v L, o = .returned v ∧ Q2 Z o0 p1 q2 u0_count u1_untilMillis h0 n0 v U'.heap L ∧ FrameEnd U o U' L ({ frames := 2, cells := 0, slots := 0, locals := 24 } : Room).cells ({ frames := 2, cells := 0, slots := 0, locals := 24 } : Room).slots) := by
  refine MetFree.of_bodySF (plainFor_of_name pn_com_example_tollgate_tollgate_store_Failures) hisR ?_
  intro p e s m args below meth c s₁ Bd hml0 hP hK
  obtain ⟨rfl, hZ, hh⟩ := hP
  have hx := Bd.exec
  have hby := Bd.bytes
  have hml : c.maxLocals = 4 := hml0
  have hown : s.vm.findClass "com/example/tollgate/tollgate/store/Failures" = some m.cls := findClass_of_methodNamed Bd.named
  have hnm := (name_of_methodNamed Bd.named Bd.method).1
  have X0 : Stand p l e ({ frames := 2, cells := 0, slots := 0, locals := 24 } : Room) s m #[(.ref o0), (.int p1), (.long q2)] below meth c s₁ [] 0 0 := Stand.of_body Bd
  have e0 : s₁.heap = h0 := by rw [← hh, Bd.state]; rfl
  have N0 := Fr.nil n0
  have pre0 : ∀ t, Steps p.tables e below (s₁.setTop (mkF m 0 #[.val (.ref o0), .val (.int p1), .val (.long q2), .second] [])) t → Steps p.tables e below (s₁.setTop (entryFrame m #[(.ref o0), (.int p1), (.long q2)] 4)) t := fun t k => castTop (ef_2 m o0 p1 q2) k
  obtain ⟨_, _, ⟨T1, L1, k1, n1⟩, -, X1, ⟨Lc1, hQ1, l1, y1, z1⟩, st1⟩ := X0.specialBack hx (y := (⟨"java/lang/Record", "<init>", "()V"⟩ : MethodName)) rfl hown (mvT hZ (hw _ (List.mem_of_getElem? (i := 11) rfl))) (mvT hZ (hw _ (List.mem_of_getElem? (i := 12) rfl))) (mvT hZ (hw _ (List.mem_of_getElem? (i := 15) rfl))) (by decide) (backOf (W := 0) (rm3 l Z a0 hw [] o0 h0 n0 Z0) hZ (hw _ (List.mem_of_getElem? (i := 15) rfl)) (hw _ (List.mem_of_getElem? (i := 14) rfl)) (by decide) (by decide)) (g := (mkF m 1 #[.val (.ref o0), .val (.int p1), .val (.long q2), .second] [(.ref o0)])) rfl (by rw [hml]; rfl) (Steps.refl _) (a := o0) (argsL := []) (rest := []) (lenOf pd___V rfl) rfl (by show 2 * 0 + _ ≤ _; exact Nat.le_of_eq rfl) (hb hby d2_1) (fun _ _ => ⟨rfl, e0, (by decide : 0 + 0 ≤ _), (by decide : 0 + 0 ≤ _)⟩)
  dsimp only [Pt.U, Pt.locs, Pt.cells, Pt.slots] at X1 l1 y1 z1 st1 hQ1
  subst l1 y1 z1
  obtain ⟨N1q, rfl, e1⟩ := hQ1
  have N1 := Fr.app N0 N1q
  obtain ⟨T2, h2, X2, e2, W2, st2⟩ := putF X1 hx hZ hown (host := "") (Or.inl (hw _ (List.mem_of_getElem? (i := 19) rfl))) Via.refl e1 F_count_o0 E_o0 (Or.inr ⟨(hw _ (List.mem_of_getElem? (i := 20) rfl)), rfl, hnm⟩) (hw _ (List.mem_of_getElem? (i := 6) rfl)) (ty := .int) (by decide) rfl rfl (g := (mkF m 6 #[.val (.ref o0), .val (.int p1), .val (.long q2), .second] [(.int p1), (.ref o0)])) rfl rfl (hb hby d2_6)
  have Fw2 := F_count_o0.same W2
  have N2 := Fr.snoc X2 N1 g_o0
  have z3 : n0 ≤ h2.size := Nat.le_trans Z0 (Keep.of_wr W2).1
  have hs4 : h0.size ≤ h2.size := Nat.le_trans (Nat.le_refl h0.size) (Keep.of_wr W2).1
  have k5 := (F_untilMillis_o0.other W2 (Or.inr (slot_ne (Or.inr (hw _ (List.mem_of_getElem? (i := 22) rfl))) (Or.inr (hw _ (List.mem_of_getElem? (i := 20) rfl))) (by decide) (t := .long) (t' := .int) (by decide) (by decide))))
  have k6 := (E_o0.wr W2)
  obtain ⟨T7, h7, X7, e7, W7, st7⟩ := putF X2 hx hZ hown (host := "") (Or.inl (hw _ (List.mem_of_getElem? (i := 21) rfl))) Via.refl e2 k5 k6 (Or.inr ⟨(hw _ (List.mem_of_getElem? (i := 22) rfl)), rfl, hnm⟩) (hw _ (List.mem_of_getElem? (i := 6) rfl)) (ty := .long) (by decide) rfl rfl (g := (mkF m 11 #[.val (.ref o0), .val (.int p1), .val (.long q2), .second] [(.long q2), (.ref o0)])) rfl rfl (hb hby d2_11)
  have Fw7 := k5.same W7
  have N7 := Fr.snoc X7 N2 g_o0
  have z8 : n0 ≤ h7.size := Nat.le_trans z3 (Keep.of_wr W7).1
  have hs9 : h0.size ≤ h7.size := Nat.le_trans hs4 (Keep.of_wr W7).1
  obtain ⟨fs, hr, hrun, hended, hW, hsame⟩ := X7.leave (v := none) (fun _ => rfl)
  refine ⟨_, _, pre0 _ ?_, hrun, hended, _, _, rfl, ?_, ⟨_, rfl⟩, hW, hsame.mono (by decide) (by decide)⟩
  · skip
    show Steps p.tables e below (s₁.setTop (mkF m 0 #[.val (.ref o0), .val (.int p1), .val (.long q2), .second] [])) _
    refine XS.aloadN X0.here hx rfl (hb hby d2_0) rfl rfl ?_
    show Steps p.tables e below (s₁.setTop (mkF m 1 #[.val (.ref o0), .val (.int p1), .val (.long q2), .second] [(.ref o0)])) _
    refine st1.trans ?_
    show Steps p.tables e below (T1.setTop (mkF m 4 #[.val (.ref o0), .val (.int p1), .val (.long q2), .second] [])) _
    refine XS.aloadN X1.here hx rfl (hb hby d2_4) rfl rfl ?_
    show Steps p.tables e below (T1.setTop (mkF m 5 #[.val (.ref o0), .val (.int p1), .val (.long q2), .second] [(.ref o0)])) _
    refine XS.iloadN X1.here hx rfl (hb hby d2_5) rfl ?_
    show Steps p.tables e below (T1.setTop (mkF m 6 #[.val (.ref o0), .val (.int p1), .val (.long q2), .second] [(.int p1), (.ref o0)])) _
    refine st2 _ ?_
    show Steps p.tables e below (T2.setTop (mkF m 9 #[.val (.ref o0), .val (.int p1), .val (.long q2), .second] [])) _
    refine XS.aloadN X2.here hx rfl (hb hby d2_9) rfl rfl ?_
    show Steps p.tables e below (T2.setTop (mkF m 10 #[.val (.ref o0), .val (.int p1), .val (.long q2), .second] [(.ref o0)])) _
    refine XT.lloadN X2.here hx rfl (hb hby d2_10) rfl ?_
    show Steps p.tables e below (T2.setTop (mkF m 11 #[.val (.ref o0), .val (.int p1), .val (.long q2), .second] [(.long q2), (.ref o0)])) _
    refine st7 _ ?_
    show Steps p.tables e below (T7.setTop (mkF m 14 #[.val (.ref o0), .val (.int p1), .val (.long q2), .second] [])) _
    exact X7.returnOut hx Bd.returns (hb hby d2_14) hr
  · skip
    show Q2 Z o0 p1 q2 u0_count u1_untilMillis h0 n0 _ T7.heap _
    rw [e7]
    have k10 := (k6.wr W7)
    have k11 := (Fw2.other W7 (Or.inr (slot_ne (Or.inr (hw _ (List.mem_of_getElem? (i := 20) rfl))) (Or.inr (hw _ (List.mem_of_getElem? (i := 22) rfl))) (by decide) (t := .int) (t' := .long) (by decide) (by decide))))
    exact ⟨N7, rfl, (((Keep.refl h0 [o0]).wr W2 (Or.inl (List.mem_of_getElem? (i := 0) rfl))).wr W7 (Or.inl (List.mem_of_getElem? (i := 0) rfl))), k10, k11, Fw7⟩
theorem d6_0 : decode prog_24_method_7_code 0 = .ok (.aload_n 0, 1) := by decide +kernel
theorem d6_1 : decode prog_24_method_7_code 1 = .ok (.getfield 7, 3) := by decide +kernel
theorem d6_4 : decode prog_24_method_7_code 4 = .ok (.ireturn, 1) := by decide +kernel
theorem ef_6 (m : MethodId) (o0 : Addr) : entryFrame m #[(.ref o0)] 1 = mkF m 0 #[.val (.ref o0)] [] := by first | (simp [entryFrame, mkF, argsToLocals, Value.category]; done) | rfl
def f6 (w0_count : Int32) : Int32 := w0_count
def Q6 (Z : State) (o0 : Addr) (w0_count : Int32) (h0 : Heap) (n0 : Nat) (v : Option Value) (h : Heap) (L : List Loc) : Prop := Fr n0 L ∧ v = some (.int (f6 w0_count)) ∧ h = h0
set_option maxRecDepth 65536 in
set_option maxHeartbeats 40000000 in
theorem rm6 (l : Launch) (Z : State) (a0 : Array Value) (hw : ∀ d ∈ tables_1, d.before a0 Z = true) (ws : List Jvm.Cond) (o0 : Addr) (w0_count : Int32) (h0 : Heap) (n0 : Nat) (Z0 : n0 ≤ h0.size) (F_count_o0 : Fld Z h0 o0 "com/example/tollgate/tollgate/store/Failures" "count" "I" (.int w0_count)) :
    MetFree l (⟨"com/example/tollgate/tollgate/store/Failures", "count", "()I"⟩ : MethodName) (head1 (Jvm.Cond.code (⟨"com/example/tollgate/tollgate/store/Failures", "count", "()I"⟩ : MethodName) prog_24_method_7_code 1 (some .int) :: ws) ({ frames := 0, cells := 0, slots := 0, locals := 0 } : Room)) (fun a U => a = #[(.ref o0)] ∧ Z.Warmed39 U.vm ∧ U.heap = h0) (fun _ _ _ _ _ => True) (fun _ U o U' => ∃ v L, o = .returned v ∧ Q6 Z o0 w0_count h0 n0 v U'.heap L ∧ FrameEnd U o U' L ({ frames := 0, cells := 0, slots := 0, locals := 0 } : Room).cells ({ frames := 0, cells := 0, slots := 0, locals := 0 } : Room).slots) := by
  refine MetFree.of_bodySF (plainFor_of_name pn_com_example_tollgate_tollgate_store_Failures) hisR ?_
  intro p e s m args below meth c s₁ Bd hml0 hP hK
  obtain ⟨rfl, hZ, hh⟩ := hP
  have hx := Bd.exec
  have hby := Bd.bytes
  have hml : c.maxLocals = 1 := hml0
  have hown : s.vm.findClass "com/example/tollgate/tollgate/store/Failures" = some m.cls := findClass_of_methodNamed Bd.named
  have hnm := (name_of_methodNamed Bd.named Bd.method).1
  have X0 : Stand p l e ({ frames := 0, cells := 0, slots := 0, locals := 0 } : Room) s m #[(.ref o0)] below meth c s₁ [] 0 0 := Stand.of_body Bd
  have e0 : s₁.heap = h0 := by rw [← hh, Bd.state]; rfl
  have N0 := Fr.nil n0
  have pre0 : ∀ t, Steps p.tables e below (s₁.setTop (mkF m 0 #[.val (.ref o0)] [])) t → Steps p.tables e below (s₁.setTop (entryFrame m #[(.ref o0)] 1)) t := fun t k => castTop (ef_6 m o0) k
  obtain ⟨T1, X1, e1, st1⟩ := getF X0 hx hZ hown (host := "") (Or.inl (hw _ (List.mem_of_getElem? (i := 19) rfl))) Via.refl e0 F_count_o0 (g := (mkF m 1 #[.val (.ref o0)] [(.ref o0)])) rfl rfl (hb hby d6_1)
  obtain ⟨fs, hr, hrun, hended, hW, hsame⟩ := X1.leave (v := some (.int w0_count)) (fun h => by rw [Bd.returns] at h; cases h)
  refine ⟨_, _, pre0 _ ?_, hrun, hended, _, _, rfl, ?_, ⟨_, rfl⟩, hW, hsame.mono (by decide) (by decide)⟩
  · skip
    show Steps p.tables e below (s₁.setTop (mkF m 0 #[.val (.ref o0)] [])) _
    refine XS.aloadN X0.here hx rfl (hb hby d6_0) rfl rfl ?_
    show Steps p.tables e below (s₁.setTop (mkF m 1 #[.val (.ref o0)] [(.ref o0)])) _
    refine st1 _ ?_
    show Steps p.tables e below (T1.setTop (mkF m 4 #[.val (.ref o0)] [(.int w0_count)])) _
    exact retI X1 hx Bd.returns (hb hby d6_4) hr
  · skip
    show Q6 Z o0 w0_count h0 n0 _ T1.heap _
    rw [e1]
    exact ⟨N0, rfl, rfl⟩
theorem d7_0 : decode prog_24_method_8_code 0 = .ok (.aload_n 0, 1) := by decide +kernel
theorem d7_1 : decode prog_24_method_8_code 1 = .ok (.getfield 13, 3) := by decide +kernel
theorem d7_4 : decode prog_24_method_8_code 4 = .ok (.lreturn, 1) := by decide +kernel
theorem ef_7 (m : MethodId) (o0 : Addr) : entryFrame m #[(.ref o0)] 1 = mkF m 0 #[.val (.ref o0)] [] := by first | (simp [entryFrame, mkF, argsToLocals, Value.category]; done) | rfl
def f7 (w0_untilMillis : Int64) : Int64 := w0_untilMillis
def Q7 (Z : State) (o0 : Addr) (w0_untilMillis : Int64) (h0 : Heap) (n0 : Nat) (v : Option Value) (h : Heap) (L : List Loc) : Prop := Fr n0 L ∧ v = some (.long (f7 w0_untilMillis)) ∧ h = h0
set_option maxRecDepth 65536 in
set_option maxHeartbeats 40000000 in
theorem rm7 (l : Launch) (Z : State) (a0 : Array Value) (hw : ∀ d ∈ tables_1, d.before a0 Z = true) (ws : List Jvm.Cond) (o0 : Addr) (w0_untilMillis : Int64) (h0 : Heap) (n0 : Nat) (Z0 : n0 ≤ h0.size) (F_untilMillis_o0 : Fld Z h0 o0 "com/example/tollgate/tollgate/store/Failures" "untilMillis" "J" (.long w0_untilMillis)) :
    MetFree l (⟨"com/example/tollgate/tollgate/store/Failures", "untilMillis", "()J"⟩ : MethodName) (head1 (Jvm.Cond.code (⟨"com/example/tollgate/tollgate/store/Failures", "untilMillis", "()J"⟩ : MethodName) prog_24_method_8_code 1 (some .long) :: ws) ({ frames := 0, cells := 0, slots := 0, locals := 0 } : Room)) (fun a U => a = #[(.ref o0)] ∧ Z.Warmed39 U.vm ∧ U.heap = h0) (fun _ _ _ _ _ => True) (fun _ U o U' => ∃ v L, o = .returned v ∧ Q7 Z o0 w0_untilMillis h0 n0 v U'.heap L ∧ FrameEnd U o U' L ({ frames := 0, cells := 0, slots := 0, locals := 0 } : Room).cells ({ frames := 0, cells := 0, slots := 0, locals := 0 } : Room).slots) := by
  refine MetFree.of_bodySF (plainFor_of_name pn_com_example_tollgate_tollgate_store_Failures) hisR ?_
  intro p e s m args below meth c s₁ Bd hml0 hP hK
  obtain ⟨rfl, hZ, hh⟩ := hP
  have hx := Bd.exec
  have hby := Bd.bytes
  have hml : c.maxLocals = 1 := hml0
  have hown : s.vm.findClass "com/example/tollgate/tollgate/store/Failures" = some m.cls := findClass_of_methodNamed Bd.named
  have hnm := (name_of_methodNamed Bd.named Bd.method).1
  have X0 : Stand p l e ({ frames := 0, cells := 0, slots := 0, locals := 0 } : Room) s m #[(.ref o0)] below meth c s₁ [] 0 0 := Stand.of_body Bd
  have e0 : s₁.heap = h0 := by rw [← hh, Bd.state]; rfl
  have N0 := Fr.nil n0
  have pre0 : ∀ t, Steps p.tables e below (s₁.setTop (mkF m 0 #[.val (.ref o0)] [])) t → Steps p.tables e below (s₁.setTop (entryFrame m #[(.ref o0)] 1)) t := fun t k => castTop (ef_7 m o0) k
  obtain ⟨T1, X1, e1, st1⟩ := getF X0 hx hZ hown (host := "") (Or.inl (hw _ (List.mem_of_getElem? (i := 21) rfl))) Via.refl e0 F_untilMillis_o0 (g := (mkF m 1 #[.val (.ref o0)] [(.ref o0)])) rfl rfl (hb hby d7_1)
  obtain ⟨fs, hr, hrun, hended, hW, hsame⟩ := X1.leave (v := some (.long w0_untilMillis)) (fun h => by rw [Bd.returns] at h; cases h)
  refine ⟨_, _, pre0 _ ?_, hrun, hended, _, _, rfl, ?_, ⟨_, rfl⟩, hW, hsame.mono (by decide) (by decide)⟩
  · skip
    show Steps p.tables e below (s₁.setTop (mkF m 0 #[.val (.ref o0)] [])) _
    refine XS.aloadN X0.here hx rfl (hb hby d7_0) rfl rfl ?_
    show Steps p.tables e below (s₁.setTop (mkF m 1 #[.val (.ref o0)] [(.ref o0)])) _
    refine st1 _ ?_
    show Steps p.tables e below (T1.setTop (mkF m 4 #[.val (.ref o0)] [(.long w0_untilMillis)])) _
    exact X1.lreturnOut hx Bd.returns (hb hby d7_4) hr
  · skip
    show Q7 Z o0 w0_untilMillis h0 n0 _ T1.heap _
    rw [e1]
    exact ⟨N0, rfl, rfl⟩
theorem d8_0 : decode prog_24_method_2_code 0 = .ok (.lload_n 1, 1) := by decide +kernel
theorem d8_1 : decode prog_24_method_2_code 1 = .ok (.aload_n 0, 1) := by decide +kernel
theorem d8_2 : decode prog_24_method_2_code 2 = .ok (.getfield 13, 3) := by decide +kernel
theorem d8_5 : decode prog_24_method_2_code 5 = .ok (.lcmp, 1) := by decide +kernel
theorem d8_6 : decode prog_24_method_2_code 6 = .ok (.ifCond .ge 10, 3) := by decide +kernel
theorem d8_9 : decode prog_24_method_2_code 9 = .ok (.aload_n 0, 1) := by decide +kernel
theorem d8_10 : decode prog_24_method_2_code 10 = .ok (.getfield 7, 3) := by decide +kernel
theorem d8_13 : decode prog_24_method_2_code 13 = .ok (.goto 4, 3) := by decide +kernel
theorem d8_16 : decode prog_24_method_2_code 16 = .ok (.iconst 0, 1) := by decide +kernel
theorem d8_17 : decode prog_24_method_2_code 17 = .ok (.ireturn, 1) := by decide +kernel
theorem ef_8 (m : MethodId) (o0 : Addr) (q1 : Int64) : entryFrame m #[(.ref o0), (.long q1)] 3 = mkF m 0 #[.val (.ref o0), .val (.long q1), .second] [] := by first | (simp [entryFrame, mkF, argsToLocals, Value.category]; done) | rfl
def v8_1 (q1 : Int64) (w0_untilMillis : Int64) (w1_count : Int32) : Int32 := (if q1 < w0_untilMillis then w1_count else (0 : Int32))
def f8 (q1 : Int64) (w0_untilMillis : Int64) (w1_count : Int32) : Int32 := (v8_1 q1 w0_untilMillis w1_count)
def Q8 (Z : State) (o0 : Addr) (q1 : Int64) (w0_untilMillis : Int64) (w1_count : Int32) (h0 : Heap) (n0 : Nat) (v : Option Value) (h : Heap) (L : List Loc) : Prop := Fr n0 L ∧ v = some (.int (f8 q1 w0_untilMillis w1_count)) ∧ h = h0
set_option maxRecDepth 65536 in
set_option maxHeartbeats 40000000 in
theorem rm8 (l : Launch) (Z : State) (a0 : Array Value) (hw : ∀ d ∈ tables_1, d.before a0 Z = true) (ws : List Jvm.Cond) (o0 : Addr) (q1 : Int64) (w0_untilMillis : Int64) (w1_count : Int32) (h0 : Heap) (n0 : Nat) (Z0 : n0 ≤ h0.size) (F_untilMillis_o0 : Fld Z h0 o0 "com/example/tollgate/tollgate/store/Failures" "untilMillis" "J" (.long w0_untilMillis)) (F_count_o0 : Fld Z h0 o0 "com/example/tollgate/tollgate/store/Failures" "count" "I" (.int w1_count)) :
    MetFree l (⟨"com/example/tollgate/tollgate/store/Failures", "countAt", "(J)I"⟩ : MethodName) (head1 (Jvm.Cond.code (⟨"com/example/tollgate/tollgate/store/Failures", "countAt", "(J)I"⟩ : MethodName) prog_24_method_2_code 3 (some .int) :: ws) ({ frames := 0, cells := 0, slots := 0, locals := 0 } : Room)) (fun a U => a = #[(.ref o0), (.long q1)] ∧ Z.Warmed39 U.vm ∧ U.heap = h0) (fun _ _ _ _ _ => True) (fun _ U o U' => ∃ v L, o = .returned v ∧ Q8 Z o0 q1 w0_untilMillis w1_count h0 n0 v U'.heap L ∧ FrameEnd U o U' L ({ frames := 0, cells := 0, slots := 0, locals := 0 } : Room).cells ({ frames := 0, cells := 0, slots := 0, locals := 0 } : Room).slots) := by
  refine MetFree.of_bodySF (plainFor_of_name pn_com_example_tollgate_tollgate_store_Failures) hisR ?_
  intro p e s m args below meth c s₁ Bd hml0 hP hK
  obtain ⟨rfl, hZ, hh⟩ := hP
  have hx := Bd.exec
  have hby := Bd.bytes
  have hml : c.maxLocals = 3 := hml0
  have hown : s.vm.findClass "com/example/tollgate/tollgate/store/Failures" = some m.cls := findClass_of_methodNamed Bd.named
  have hnm := (name_of_methodNamed Bd.named Bd.method).1
  have X0 : Stand p l e ({ frames := 0, cells := 0, slots := 0, locals := 0 } : Room) s m #[(.ref o0), (.long q1)] below meth c s₁ [] 0 0 := Stand.of_body Bd
  have e0 : s₁.heap = h0 := by rw [← hh, Bd.state]; rfl
  have N0 := Fr.nil n0
  have pre0 : ∀ t, Steps p.tables e below (s₁.setTop (mkF m 0 #[.val (.ref o0), .val (.long q1), .second] [])) t → Steps p.tables e below (s₁.setTop (entryFrame m #[(.ref o0), (.long q1)] 3)) t := fun t k => castTop (ef_8 m o0 q1) k
  obtain ⟨T1, X1, e1, st1⟩ := getF X0 hx hZ hown (host := "") (Or.inl (hw _ (List.mem_of_getElem? (i := 21) rfl))) Via.refl e0 F_untilMillis_o0 (g := (mkF m 2 #[.val (.ref o0), .val (.long q1), .second] [(.ref o0), (.long q1)])) rfl rfl (hb hby d8_2)
  have pre2 : ∀ t, Steps p.tables e below (T1.setTop (mkF m 6 #[.val (.ref o0), .val (.long q1), .second] [(.int (XT.cmpL q1 w0_untilMillis))])) t → Steps p.tables e below (s₁.setTop (entryFrame m #[(.ref o0), (.long q1)] 3)) t := by
    intro t k
    refine pre0 t ?_
    show Steps p.tables e below (s₁.setTop (mkF m 0 #[.val (.ref o0), .val (.long q1), .second] [])) _
    refine XT.lloadN X0.here hx rfl (hb hby d8_0) rfl ?_
    show Steps p.tables e below (s₁.setTop (mkF m 1 #[.val (.ref o0), .val (.long q1), .second] [(.long q1)])) _
    refine XS.aloadN X0.here hx rfl (hb hby d8_1) rfl rfl ?_
    show Steps p.tables e below (s₁.setTop (mkF m 2 #[.val (.ref o0), .val (.long q1), .second] [(.ref o0), (.long q1)])) _
    refine st1 _ ?_
    show Steps p.tables e below (T1.setTop (mkF m 5 #[.val (.ref o0), .val (.long q1), .second] [(.long w0_untilMillis), (.long q1)])) _
    refine XT.lcmp X1.here hx rfl (hb hby d8_5) rfl ?_
    exact k
  obtain ⟨T5, L5, X5, e5, N5, pre5⟩ : ∃ (T' : State) (L' : List Loc), Stand p l e ({ frames := 0, cells := 0, slots := 0, locals := 0 } : Room) s m #[(.ref o0), (.long q1)] below meth c T' L' 0 0 ∧ T'.heap = h0 ∧ Fr n0 L' ∧ ∀ t, Steps p.tables e below (T'.setTop (mkF m 17 #[.val (.ref o0), .val (.long q1), .second] [(.int (v8_1 q1 w0_untilMillis w1_count))])) t → Steps p.tables e below (s₁.setTop (entryFrame m #[(.ref o0), (.long q1)] 3)) t := by
    by_cases c3 : q1 < w0_untilMillis
    · skip
      obtain ⟨T4, X4, e4, st4⟩ := getF X1 hx hZ hown (host := "") (Or.inl (hw _ (List.mem_of_getElem? (i := 19) rfl))) Via.refl e1 F_count_o0 (g := (mkF m 10 #[.val (.ref o0), .val (.long q1), .second] [(.ref o0)])) rfl rfl (hb hby d8_10)
      refine ⟨T4, _, X4, e4, N0, fun t k => ?_⟩
      rw [show (v8_1 q1 w0_untilMillis w1_count) = w1_count from (if_pos c3)] at k
      refine pre2 t ?_
      show Steps p.tables e below (T1.setTop (mkF m 6 #[.val (.ref o0), .val (.long q1), .second] [(.int (XT.cmpL q1 w0_untilMillis))])) _
      refine XS.ifNo X1.here hx rfl (hb hby d8_6) rfl (XT.ll_ge_f c3) ?_
      show Steps p.tables e below (T1.setTop (mkF m 9 #[.val (.ref o0), .val (.long q1), .second] [])) _
      refine XS.aloadN X1.here hx rfl (hb hby d8_9) rfl rfl ?_
      show Steps p.tables e below (T1.setTop (mkF m 10 #[.val (.ref o0), .val (.long q1), .second] [(.ref o0)])) _
      refine st4 _ ?_
      show Steps p.tables e below (T4.setTop (mkF m 13 #[.val (.ref o0), .val (.long q1), .second] [(.int w1_count)])) _
      refine XS.goto X4.here hx rfl (pc0 := 13) (pc' := 17) rfl (hb hby d8_13) (by decide) (by decide) ?_
      exact k
    · skip
      refine ⟨T1, _, X1, e1, N0, fun t k => ?_⟩
      rw [show (v8_1 q1 w0_untilMillis w1_count) = (0 : Int32) from (if_neg c3)] at k
      refine pre2 t ?_
      show Steps p.tables e below (T1.setTop (mkF m 6 #[.val (.ref o0), .val (.long q1), .second] [(.int (XT.cmpL q1 w0_untilMillis))])) _
      refine XS.ifYes X1.here hx rfl (pc0 := 6) (pc' := 16) rfl (hb hby d8_6) rfl (XT.ll_ge_t c3) (by decide) (by decide) ?_
      show Steps p.tables e below (T1.setTop (mkF m 16 #[.val (.ref o0), .val (.long q1), .second] [])) _
      refine XT.iconstV X1.here hx rfl (0 : Int32) (hb hby d8_16) (by decide) ?_
      exact k
  obtain ⟨fs, hr, hrun, hended, hW, hsame⟩ := X5.leave (v := some (.int (v8_1 q1 w0_untilMillis w1_count))) (fun h => by rw [Bd.returns] at h; cases h)
  refine ⟨_, _, pre5 _ ?_, hrun, hended, _, _, rfl, ?_, ⟨_, rfl⟩, hW, hsame.mono (by decide) (by decide)⟩
  · skip
    show Steps p.tables e below (T5.setTop (mkF m 17 #[.val (.ref o0), .val (.long q1), .second] [(.int (v8_1 q1 w0_untilMillis w1_count))])) _
    exact retI X5 hx Bd.returns (hb hby d8_17) hr
  · skip
    show Q8 Z o0 q1 w0_untilMillis w1_count h0 n0 _ T5.heap _
    rw [e5]
    exact ⟨N5, rfl, rfl⟩
theorem pd__IJ_V : parseMethodDescriptor "(IJ)V" = some ⟨[.int, .long], none⟩ := by decide +kernel
theorem d5_0 : decode prog_24_method_3_code 0 = .ok (.lload_n 1, 1) := by decide +kernel
theorem d5_1 : decode prog_24_method_3_code 1 = .ok (.aload_n 0, 1) := by decide +kernel
theorem d5_2 : decode prog_24_method_3_code 2 = .ok (.getfield 13, 3) := by decide +kernel
theorem d5_5 : decode prog_24_method_3_code 5 = .ok (.lcmp, 1) := by decide +kernel
theorem d5_6 : decode prog_24_method_3_code 6 = .ok (.ifCond .ge 39, 3) := by decide +kernel
theorem d5_9 : decode prog_24_method_3_code 9 = .ok (.new 8, 3) := by decide +kernel
theorem d5_12 : decode prog_24_method_3_code 12 = .ok (.dup, 1) := by decide +kernel
theorem d5_13 : decode prog_24_method_3_code 13 = .ok (.aload_n 0, 1) := by decide +kernel
theorem d5_14 : decode prog_24_method_3_code 14 = .ok (.getfield 7, 3) := by decide +kernel
theorem d5_17 : decode prog_24_method_3_code 17 = .ok (.ldc 19, 2) := by decide +kernel
theorem d5_19 : decode prog_24_method_3_code 19 = .ok (.if_icmp .ne 10, 3) := by decide +kernel
theorem d5_22 : decode prog_24_method_3_code 22 = .ok (.aload_n 0, 1) := by decide +kernel
theorem d5_23 : decode prog_24_method_3_code 23 = .ok (.getfield 7, 3) := by decide +kernel
theorem d5_26 : decode prog_24_method_3_code 26 = .ok (.goto 9, 3) := by decide +kernel
theorem d5_29 : decode prog_24_method_3_code 29 = .ok (.aload_n 0, 1) := by decide +kernel
theorem d5_30 : decode prog_24_method_3_code 30 = .ok (.getfield 7, 3) := by decide +kernel
theorem d5_33 : decode prog_24_method_3_code 33 = .ok (.iconst 1, 1) := by decide +kernel
theorem d5_34 : decode prog_24_method_3_code 34 = .ok (.iadd, 1) := by decide +kernel
theorem d5_35 : decode prog_24_method_3_code 35 = .ok (.aload_n 0, 1) := by decide +kernel
theorem d5_36 : decode prog_24_method_3_code 36 = .ok (.getfield 13, 3) := by decide +kernel
theorem d5_39 : decode prog_24_method_3_code 39 = .ok (.invokespecial 20, 3) := by decide +kernel
theorem d5_42 : decode prog_24_method_3_code 42 = .ok (.goto 14, 3) := by decide +kernel
theorem d5_45 : decode prog_24_method_3_code 45 = .ok (.new 8, 3) := by decide +kernel
theorem d5_48 : decode prog_24_method_3_code 48 = .ok (.dup, 1) := by decide +kernel
theorem d5_49 : decode prog_24_method_3_code 49 = .ok (.iconst 1, 1) := by decide +kernel
theorem d5_50 : decode prog_24_method_3_code 50 = .ok (.lload_n 1, 1) := by decide +kernel
theorem d5_51 : decode prog_24_method_3_code 51 = .ok (.lload_n 3, 1) := by decide +kernel
theorem d5_52 : decode prog_24_method_3_code 52 = .ok (.ladd, 1) := by decide +kernel
theorem d5_53 : decode prog_24_method_3_code 53 = .ok (.invokespecial 20, 3) := by decide +kernel
theorem d5_56 : decode prog_24_method_3_code 56 = .ok (.areturn, 1) := by decide +kernel
theorem ef_5 (m : MethodId) (o0 : Addr) (q1 : Int64) (q2 : Int64) : entryFrame m #[(.ref o0), (.long q1), (.long q2)] 5 = mkF m 0 #[.val (.ref o0), .val (.long q1), .second, .val (.long q2), .second] [] := by first | (simp [entryFrame, mkF, argsToLocals, Value.category]; done) | rfl
def v5_1 (q1 : Int64) (q2 : Int64) (w0_untilMillis : Int64) (w1_count : Int32) : Int32 := (if w1_count = (2147483647 : Int32) then w1_count else (w1_count + (1 : Int32)))
def v5_2 (q1 : Int64) (q2 : Int64) (w0_untilMillis : Int64) (w1_count : Int32) : Int64 := (q1 + q2)
def r5_1 (q1 : Int64) (q2 : Int64) (w0_untilMillis : Int64) (w1_count : Int32) : Int32 := (if q1 < w0_untilMillis then (v5_1 q1 q2 w0_untilMillis w1_count) else (1 : Int32))
def r5_2 (q1 : Int64) (q2 : Int64) (w0_untilMillis : Int64) (w1_count : Int32) : Int64 := (if q1 < w0_untilMillis then w0_untilMillis else (v5_2 q1 q2 w0_untilMillis w1_count))
def Q5 (Z : State) (o0 : Addr) (q1 : Int64) (q2 : Int64) (w0_untilMillis : Int64) (w1_count : Int32) (h0 : Heap) (n0 : Nat) (v : Option Value) (h : Heap) (L : List Loc) : Prop := Fr n0 L ∧ ∃ (x5_0 : Addr), v = some (.ref x5_0) ∧ h0.size ≤ x5_0 ∧ Keep h0 h [] ∧ Exa Z h x5_0 "com/example/tollgate/tollgate/store/Failures" ∧ Fld Z h x5_0 "com/example/tollgate/tollgate/store/Failures" "count" "I" (.int (r5_1 q1 q2 w0_untilMillis w1_count)) ∧ Fld Z h x5_0 "com/example/tollgate/tollgate/store/Failures" "untilMillis" "J" (.long (r5_2 q1 q2 w0_untilMillis w1_count))
set_option maxRecDepth 65536 in
set_option maxHeartbeats 40000000 in
theorem rm5 (l : Launch) (Z : State) (a0 : Array Value) (hw : ∀ d ∈ tables_1, d.before a0 Z = true) (ws : List Jvm.Cond) (o0 : Addr) (q1 : Int64) (q2 : Int64) (w0_untilMillis : Int64) (w1_count : Int32) (h0 : Heap) (n0 : Nat) (Z0 : n0 ≤ h0.size) (F_untilMillis_o0 : Fld Z h0 o0 "com/example/tollgate/tollgate/store/Failures" "untilMillis" "J" (.long w0_untilMillis)) (F_count_o0 : Fld Z h0 o0 "com/example/tollgate/tollgate/store/Failures" "count" "I" (.int w1_count)) :
    MetFree l (⟨"com/example/tollgate/tollgate/store/Failures", "plusOne", "(JJ)Lcom/example/tollgate/tollgate/store/Failures;"⟩ : MethodName) (head1 (Jvm.Cond.code (⟨"com/example/tollgate/tollgate/store/Failures", "plusOne", "(JJ)Lcom/example/tollgate/tollgate/store/Failures;"⟩ : MethodName) prog_24_method_3_code 5 (some (.object "com/example/tollgate/tollgate/store/Failures")) :: ws) ({ frames := 3, cells := 1, slots := 2, locals := 40 } : Room)) (fun a U => a = #[(.ref o0), (.long q1), (.long q2)] ∧ Z.Warmed39 U.vm ∧ U.heap = h0) (fun _ _ _ _ _ => True) (fun _ U o U' => ∃ v L, o = .returned v ∧ Q5 Z o0 q1 q2 w0_untilMillis w1_count h0 n0 v U'.heap L ∧ FrameEnd U o U' L ({ frames := 3, cells := 1, slots := 2, locals := 40 } : Room).cells ({ frames := 3, cells := 1, slots := 2, locals := 40 } : Room).slots) := by
  refine MetFree.of_bodySF (plainFor_of_name pn_com_example_tollgate_tollgate_store_Failures) hisR ?_
  intro p e s m args below meth c s₁ Bd hml0 hP hK
  obtain ⟨rfl, hZ, hh⟩ := hP
  have hx := Bd.exec
  have hby := Bd.bytes
  have hml : c.maxLocals = 5 := hml0
  have hown : s.vm.findClass "com/example/tollgate/tollgate/store/Failures" = some m.cls := findClass_of_methodNamed Bd.named
  have hnm := (name_of_methodNamed Bd.named Bd.method).1
  have X0 : Stand p l e ({ frames := 3, cells := 1, slots := 2, locals := 40 } : Room) s m #[(.ref o0), (.long q1), (.long q2)] below meth c s₁ [] 0 0 := Stand.of_body Bd
  have e0 : s₁.heap = h0 := by rw [← hh, Bd.state]; rfl
  have N0 := Fr.nil n0
  have pre0 : ∀ t, Steps p.tables e below (s₁.setTop (mkF m 0 #[.val (.ref o0), .val (.long q1), .second, .val (.long q2), .second] [])) t → Steps p.tables e below (s₁.setTop (entryFrame m #[(.ref o0), (.long q1), (.long q2)] 5)) t := fun t k => castTop (ef_5 m o0 q1 q2) k
  obtain ⟨T1, X1, e1, st1⟩ := getF X0 hx hZ hown (host := "") (Or.inl (hw _ (List.mem_of_getElem? (i := 21) rfl))) Via.refl e0 F_untilMillis_o0 (g := (mkF m 2 #[.val (.ref o0), .val (.long q1), .second, .val (.long q2), .second] [(.ref o0), (.long q1)])) rfl rfl (hb hby d5_2)
  have pre2 : ∀ t, Steps p.tables e below (T1.setTop (mkF m 6 #[.val (.ref o0), .val (.long q1), .second, .val (.long q2), .second] [(.int (XT.cmpL q1 w0_untilMillis))])) t → Steps p.tables e below (s₁.setTop (entryFrame m #[(.ref o0), (.long q1), (.long q2)] 5)) t := by
    intro t k
    refine pre0 t ?_
    show Steps p.tables e below (s₁.setTop (mkF m 0 #[.val (.ref o0), .val (.long q1), .second, .val (.long q2), .second] [])) _
    refine XT.lloadN X0.here hx rfl (hb hby d5_0) rfl ?_
    show Steps p.tables e below (s₁.setTop (mkF m 1 #[.val (.ref o0), .val (.long q1), .second, .val (.long q2), .second] [(.long q1)])) _
    refine XS.aloadN X0.here hx rfl (hb hby d5_1) rfl rfl ?_
    show Steps p.tables e below (s₁.setTop (mkF m 2 #[.val (.ref o0), .val (.long q1), .second, .val (.long q2), .second] [(.ref o0), (.long q1)])) _
    refine st1 _ ?_
    show Steps p.tables e below (T1.setTop (mkF m 5 #[.val (.ref o0), .val (.long q1), .second, .val (.long q2), .second] [(.long w0_untilMillis), (.long q1)])) _
    refine XT.lcmp X1.here hx rfl (hb hby d5_5) rfl ?_
    exact k
  by_cases c3 : q1 < w0_untilMillis
  · skip
    obtain ⟨T4, h4, X4, e4, E4, A4, D4, -, st4⟩ := newO X1 hx hZ hown (hw _ (List.mem_of_getElem? (i := 28) rfl)) (hw _ (List.mem_of_getElem? (i := 6) rfl)) (hw _ (List.mem_of_getElem? (i := 7) rfl)) e1 (g := (mkF m 9 #[.val (.ref o0), .val (.long q1), .second, .val (.long q2), .second] [])) rfl (hb hby d5_9) (by decide) (by decide)
    obtain ⟨b4, gz4⟩ : ∃ z, z = h0.size := ⟨_, rfl⟩
    rw [← gz4] at A4 D4 st4
    have ne5 : o0 ≠ b4 := Nat.ne_of_lt (Nat.lt_of_lt_of_le F_untilMillis_o0.lt (Nat.le_of_eq gz4.symm))
    have g6 : n0 ≤ b4 := Nat.le_trans Z0 (Nat.le_of_eq gz4.symm)
    have sz7 : h0.size ≤ b4 := Nat.le_trans (Nat.le_refl h0.size) (Nat.le_of_eq gz4.symm)
    have z8 : n0 ≤ h4.size := Nat.le_trans Z0 E4.1
    have hs9 : h0.size ≤ h4.size := Nat.le_trans (Nat.le_refl h0.size) E4.1
    have F4_count : Fld Z h4 b4 "com/example/tollgate/tollgate/store/Failures" "count" "I" (.int (0 : Int32)) := D4 (Or.inr (hw _ (List.mem_of_getElem? (i := 20) rfl))) (ty := .int) (by decide)
    have F4_untilMillis : Fld Z h4 b4 "com/example/tollgate/tollgate/store/Failures" "untilMillis" "J" (.long (0 : Int64)) := D4 (Or.inr (hw _ (List.mem_of_getElem? (i := 22) rfl))) (ty := .long) (by decide)
    have k10 := (F_count_o0.ext E4)
    obtain ⟨T11, X11, e11, st11⟩ := getF X4 hx hZ hown (host := "") (Or.inl (hw _ (List.mem_of_getElem? (i := 19) rfl))) Via.refl e4 k10 (g := (mkF m 14 #[.val (.ref o0), .val (.long q1), .second, .val (.long q2), .second] [(.ref o0), (.ref b4), (.ref b4)])) rfl rfl (hb hby d5_14)
    have pre12 : ∀ t, Steps p.tables e below (T11.setTop (mkF m 19 #[.val (.ref o0), .val (.long q1), .second, .val (.long q2), .second] [(.int (2147483647 : Int32)), (.int w1_count), (.ref b4), (.ref b4)])) t → Steps p.tables e below (s₁.setTop (entryFrame m #[(.ref o0), (.long q1), (.long q2)] 5)) t := by
      intro t k
      refine pre2 t ?_
      show Steps p.tables e below (T1.setTop (mkF m 6 #[.val (.ref o0), .val (.long q1), .second, .val (.long q2), .second] [(.int (XT.cmpL q1 w0_untilMillis))])) _
      refine XS.ifNo X1.here hx rfl (hb hby d5_6) rfl (XT.ll_ge_f c3) ?_
      show Steps p.tables e below (T1.setTop (mkF m 9 #[.val (.ref o0), .val (.long q1), .second, .val (.long q2), .second] [])) _
      refine st4 _ ?_
      show Steps p.tables e below (T4.setTop (mkF m 12 #[.val (.ref o0), .val (.long q1), .second, .val (.long q2), .second] [(.ref b4)])) _
      refine XS.dup X4.here hx rfl (hb hby d5_12) rfl rfl ?_
      show Steps p.tables e below (T4.setTop (mkF m 13 #[.val (.ref o0), .val (.long q1), .second, .val (.long q2), .second] [(.ref b4), (.ref b4)])) _
      refine XS.aloadN X4.here hx rfl (hb hby d5_13) rfl rfl ?_
      show Steps p.tables e below (T4.setTop (mkF m 14 #[.val (.ref o0), .val (.long q1), .second, .val (.long q2), .second] [(.ref o0), (.ref b4), (.ref b4)])) _
      refine st11 _ ?_
      show Steps p.tables e below (T11.setTop (mkF m 17 #[.val (.ref o0), .val (.long q1), .second, .val (.long q2), .second] [(.int w1_count), (.ref b4), (.ref b4)])) _
      refine X11.ldcI hx hown (mvT hZ (hw _ (List.mem_of_getElem? (i := 29) rfl))) rfl (hb hby d5_17) ?_
      exact k
    obtain ⟨T16, L16, X16, e16, N16, pre16⟩ : ∃ (T' : State) (L' : List Loc), Stand p l e ({ frames := 3, cells := 1, slots := 2, locals := 40 } : Room) s m #[(.ref o0), (.long q1), (.long q2)] below meth c T' L' 1 2 ∧ T'.heap = h4 ∧ Fr n0 L' ∧ ∀ t, Steps p.tables e below (T'.setTop (mkF m 35 #[.val (.ref o0), .val (.long q1), .second, .val (.long q2), .second] [(.int (v5_1 q1 q2 w0_untilMillis w1_count)), (.ref b4), (.ref b4)])) t → Steps p.tables e below (s₁.setTop (entryFrame m #[(.ref o0), (.long q1), (.long q2)] 5)) t := by
      by_cases c13 : w1_count = (2147483647 : Int32)
      · skip
        obtain ⟨T14, X14, e14, st14⟩ := getF X11 hx hZ hown (host := "") (Or.inl (hw _ (List.mem_of_getElem? (i := 19) rfl))) Via.refl e11 k10 (g := (mkF m 23 #[.val (.ref o0), .val (.long q1), .second, .val (.long q2), .second] [(.ref o0), (.ref b4), (.ref b4)])) rfl rfl (hb hby d5_23)
        refine ⟨T14, _, X14, e14, N0, fun t k => ?_⟩
        rw [show (v5_1 q1 q2 w0_untilMillis w1_count) = w1_count from (if_pos c13)] at k
        refine pre12 t ?_
        show Steps p.tables e below (T11.setTop (mkF m 19 #[.val (.ref o0), .val (.long q1), .second, .val (.long q2), .second] [(.int (2147483647 : Int32)), (.int w1_count), (.ref b4), (.ref b4)])) _
        refine XS.icmpNo X11.here hx rfl (hb hby d5_19) rfl (XT.ii_ne_f c13) ?_
        show Steps p.tables e below (T11.setTop (mkF m 22 #[.val (.ref o0), .val (.long q1), .second, .val (.long q2), .second] [(.ref b4), (.ref b4)])) _
        refine XS.aloadN X11.here hx rfl (hb hby d5_22) rfl rfl ?_
        show Steps p.tables e below (T11.setTop (mkF m 23 #[.val (.ref o0), .val (.long q1), .second, .val (.long q2), .second] [(.ref o0), (.ref b4), (.ref b4)])) _
        refine st14 _ ?_
        show Steps p.tables e below (T14.setTop (mkF m 26 #[.val (.ref o0), .val (.long q1), .second, .val (.long q2), .second] [(.int w1_count), (.ref b4), (.ref b4)])) _
        refine XS.goto X14.here hx rfl (pc0 := 26) (pc' := 35) rfl (hb hby d5_26) (by decide) (by decide) ?_
        exact k
      · skip
        obtain ⟨T15, X15, e15, st15⟩ := getF X11 hx hZ hown (host := "") (Or.inl (hw _ (List.mem_of_getElem? (i := 19) rfl))) Via.refl e11 k10 (g := (mkF m 30 #[.val (.ref o0), .val (.long q1), .second, .val (.long q2), .second] [(.ref o0), (.ref b4), (.ref b4)])) rfl rfl (hb hby d5_30)
        refine ⟨T15, _, X15, e15, N0, fun t k => ?_⟩
        rw [show (v5_1 q1 q2 w0_untilMillis w1_count) = (w1_count + (1 : Int32)) from (if_neg c13)] at k
        refine pre12 t ?_
        show Steps p.tables e below (T11.setTop (mkF m 19 #[.val (.ref o0), .val (.long q1), .second, .val (.long q2), .second] [(.int (2147483647 : Int32)), (.int w1_count), (.ref b4), (.ref b4)])) _
        refine XS.icmpYes X11.here hx rfl (pc0 := 19) (pc' := 29) rfl (hb hby d5_19) rfl (XT.ii_ne_t c13) (by decide) (by decide) ?_
        show Steps p.tables e below (T11.setTop (mkF m 29 #[.val (.ref o0), .val (.long q1), .second, .val (.long q2), .second] [(.ref b4), (.ref b4)])) _
        refine XS.aloadN X11.here hx rfl (hb hby d5_29) rfl rfl ?_
        show Steps p.tables e below (T11.setTop (mkF m 30 #[.val (.ref o0), .val (.long q1), .second, .val (.long q2), .second] [(.ref o0), (.ref b4), (.ref b4)])) _
        refine st15 _ ?_
        show Steps p.tables e below (T15.setTop (mkF m 33 #[.val (.ref o0), .val (.long q1), .second, .val (.long q2), .second] [(.int w1_count), (.ref b4), (.ref b4)])) _
        refine XT.iconstV X15.here hx rfl (1 : Int32) (hb hby d5_33) (by decide) ?_
        show Steps p.tables e below (T15.setTop (mkF m 34 #[.val (.ref o0), .val (.long q1), .second, .val (.long q2), .second] [(.int (1 : Int32)), (.int w1_count), (.ref b4), (.ref b4)])) _
        refine XS.iadd X15.here hx rfl (hb hby d5_34) rfl ?_
        exact k
    have k17 := (F_untilMillis_o0.ext E4)
    obtain ⟨T18, X18, e18, st18⟩ := getF X16 hx hZ hown (host := "") (Or.inl (hw _ (List.mem_of_getElem? (i := 21) rfl))) Via.refl e16 k17 (g := (mkF m 36 #[.val (.ref o0), .val (.long q1), .second, .val (.long q2), .second] [(.ref o0), (.int (v5_1 q1 q2 w0_untilMillis w1_count)), (.ref b4), (.ref b4)])) rfl rfl (hb hby d5_36)
    obtain ⟨_, _, ⟨T19, L19, k19, n19⟩, -, X19, ⟨Lc19, hQ19, l19, y19, z19⟩, st19⟩ := X18.specialBack hx (y := (⟨"com/example/tollgate/tollgate/store/Failures", "<init>", "(IJ)V"⟩ : MethodName)) rfl hown (mvT hZ (hw _ (List.mem_of_getElem? (i := 30) rfl))) (mvT hZ (hw _ (List.mem_of_getElem? (i := 9) rfl))) (mvT hZ (hw _ (List.mem_of_getElem? (i := 10) rfl))) (by decide) (backOf (W := 1) (rm2 l Z a0 hw [] b4 (v5_1 q1 q2 w0_untilMillis w1_count) w0_untilMillis (.int (0 : Int32)) (.long (0 : Int64)) h4 n0 z8 A4 F4_count g6 F4_untilMillis) hZ (hw _ (List.mem_of_getElem? (i := 10) rfl)) (hw _ (List.mem_of_getElem? (i := 7) rfl)) (by decide) (by decide)) (g := (mkF m 39 #[.val (.ref o0), .val (.long q1), .second, .val (.long q2), .second] [(.long w0_untilMillis), (.int (v5_1 q1 q2 w0_untilMillis w1_count)), (.ref b4), (.ref b4)])) rfl (by rw [hml]; rfl) (Steps.refl _) (a := b4) (argsL := [(.int (v5_1 q1 q2 w0_untilMillis w1_count)), (.long w0_untilMillis)]) (rest := [(.ref b4)]) (lenOf pd__IJ_V rfl) rfl (by show 2 * 0 + _ ≤ _; exact Nat.le_of_eq rfl) (hb hby d5_39) (fun _ _ => ⟨rfl, e18, (by decide : 1 + 0 ≤ _), (by decide : 2 + 0 ≤ _)⟩)
    dsimp only [Pt.U, Pt.locs, Pt.cells, Pt.slots] at X19 l19 y19 z19 st19 hQ19
    subst l19 y19 z19
    obtain ⟨N19q, rfl, K19, po19_0, po19_1, po19_2⟩ := hQ19
    have z20 : n0 ≤ T19.heap.size := Nat.le_trans z8 K19.1
    have hs21 : h0.size ≤ T19.heap.size := Nat.le_trans hs9 K19.1
    have N19 := Fr.app N16 N19q
    obtain ⟨fs, hr, hrun, hended, hW, hsame⟩ := X19.leave (v := some (.ref b4)) (fun h => by rw [Bd.returns] at h; cases h)
    refine ⟨_, _, pre16 _ ?_, hrun, hended, _, _, rfl, ?_, ⟨_, rfl⟩, hW, hsame.mono (by decide) (by decide)⟩
    · skip
      show Steps p.tables e below (T16.setTop (mkF m 35 #[.val (.ref o0), .val (.long q1), .second, .val (.long q2), .second] [(.int (v5_1 q1 q2 w0_untilMillis w1_count)), (.ref b4), (.ref b4)])) _
      refine XS.aloadN X16.here hx rfl (hb hby d5_35) rfl rfl ?_
      show Steps p.tables e below (T16.setTop (mkF m 36 #[.val (.ref o0), .val (.long q1), .second, .val (.long q2), .second] [(.ref o0), (.int (v5_1 q1 q2 w0_untilMillis w1_count)), (.ref b4), (.ref b4)])) _
      refine st18 _ ?_
      show Steps p.tables e below (T18.setTop (mkF m 39 #[.val (.ref o0), .val (.long q1), .second, .val (.long q2), .second] [(.long w0_untilMillis), (.int (v5_1 q1 q2 w0_untilMillis w1_count)), (.ref b4), (.ref b4)])) _
      refine st19.trans ?_
      show Steps p.tables e below (T19.setTop (mkF m 42 #[.val (.ref o0), .val (.long q1), .second, .val (.long q2), .second] [(.ref b4)])) _
      refine XS.goto X19.here hx rfl (pc0 := 42) (pc' := 56) rfl (hb hby d5_42) (by decide) (by decide) ?_
      show Steps p.tables e below (T19.setTop (mkF m 56 #[.val (.ref o0), .val (.long q1), .second, .val (.long q2), .second] [(.ref b4)])) _
      exact X19.areturnOut hx rfl Bd.returns rfl (hb hby d5_56) hr
    · skip
      show Q5 Z o0 q1 q2 w0_untilMillis w1_count h0 n0 _ T19.heap _
      unfold Q5
      rw [show (r5_1 q1 q2 w0_untilMillis w1_count) = (v5_1 q1 q2 w0_untilMillis w1_count) from (if_pos c3)]
      rw [show (r5_2 q1 q2 w0_untilMillis w1_count) = w0_untilMillis from (if_pos c3)]
      exact ⟨N19, b4, rfl, sz7, (((Keep.refl h0 []).ext E4).trans K19 (allS (Or.inr sz7) all0)), po19_0, po19_1, po19_2⟩
  · skip
    obtain ⟨T22, h22, X22, e22, E22, A22, D22, -, st22⟩ := newO X1 hx hZ hown (hw _ (List.mem_of_getElem? (i := 28) rfl)) (hw _ (List.mem_of_getElem? (i := 6) rfl)) (hw _ (List.mem_of_getElem? (i := 7) rfl)) e1 (g := (mkF m 45 #[.val (.ref o0), .val (.long q1), .second, .val (.long q2), .second] [])) rfl (hb hby d5_45) (by decide) (by decide)
    obtain ⟨b22, gz22⟩ : ∃ z, z = h0.size := ⟨_, rfl⟩
    rw [← gz22] at A22 D22 st22
    have ne23 : o0 ≠ b22 := Nat.ne_of_lt (Nat.lt_of_lt_of_le F_untilMillis_o0.lt (Nat.le_of_eq gz22.symm))
    have g24 : n0 ≤ b22 := Nat.le_trans Z0 (Nat.le_of_eq gz22.symm)
    have sz25 : h0.size ≤ b22 := Nat.le_trans (Nat.le_refl h0.size) (Nat.le_of_eq gz22.symm)
    have z26 : n0 ≤ h22.size := Nat.le_trans Z0 E22.1
    have hs27 : h0.size ≤ h22.size := Nat.le_trans (Nat.le_refl h0.size) E22.1
    have F22_count : Fld Z h22 b22 "com/example/tollgate/tollgate/store/Failures" "count" "I" (.int (0 : Int32)) := D22 (Or.inr (hw _ (List.mem_of_getElem? (i := 20) rfl))) (ty := .int) (by decide)
    have F22_untilMillis : Fld Z h22 b22 "com/example/tollgate/tollgate/store/Failures" "untilMillis" "J" (.long (0 : Int64)) := D22 (Or.inr (hw _ (List.mem_of_getElem? (i := 22) rfl))) (ty := .long) (by decide)
    obtain ⟨_, _, ⟨T28, L28, k28, n28⟩, -, X28, ⟨Lc28, hQ28, l28, y28, z28⟩, st28⟩ := X22.specialBack hx (y := (⟨"com/example/tollgate/tollgate/store/Failures", "<init>", "(IJ)V"⟩ : MethodName)) rfl hown (mvT hZ (hw _ (List.mem_of_getElem? (i := 30) rfl))) (mvT hZ (hw _ (List.mem_of_getElem? (i := 9) rfl))) (mvT hZ (hw _ (List.mem_of_getElem? (i := 10) rfl))) (by decide) (backOf (W := 1) (rm2 l Z a0 hw [] b22 (1 : Int32) (v5_2 q1 q2 w0_untilMillis w1_count) (.int (0 : Int32)) (.long (0 : Int64)) h22 n0 z26 A22 F22_count g24 F22_untilMillis) hZ (hw _ (List.mem_of_getElem? (i := 10) rfl)) (hw _ (List.mem_of_getElem? (i := 7) rfl)) (by decide) (by decide)) (g := (mkF m 53 #[.val (.ref o0), .val (.long q1), .second, .val (.long q2), .second] [(.long (v5_2 q1 q2 w0_untilMillis w1_count)), (.int (1 : Int32)), (.ref b22), (.ref b22)])) rfl (by rw [hml]; rfl) (Steps.refl _) (a := b22) (argsL := [(.int (1 : Int32)), (.long (v5_2 q1 q2 w0_untilMillis w1_count))]) (rest := [(.ref b22)]) (lenOf pd__IJ_V rfl) rfl (by show 2 * 0 + _ ≤ _; exact Nat.le_of_eq rfl) (hb hby d5_53) (fun _ _ => ⟨rfl, e22, (by decide : 1 + 0 ≤ _), (by decide : 2 + 0 ≤ _)⟩)
    dsimp only [Pt.U, Pt.locs, Pt.cells, Pt.slots] at X28 l28 y28 z28 st28 hQ28
    subst l28 y28 z28
    obtain ⟨N28q, rfl, K28, po28_0, po28_1, po28_2⟩ := hQ28
    have z29 : n0 ≤ T28.heap.size := Nat.le_trans z26 K28.1
    have hs30 : h0.size ≤ T28.heap.size := Nat.le_trans hs27 K28.1
    have N28 := Fr.app N0 N28q
    obtain ⟨fs, hr, hrun, hended, hW, hsame⟩ := X28.leave (v := some (.ref b22)) (fun h => by rw [Bd.returns] at h; cases h)
    refine ⟨_, _, pre2 _ ?_, hrun, hended, _, _, rfl, ?_, ⟨_, rfl⟩, hW, hsame.mono (by decide) (by decide)⟩
    · skip
      show Steps p.tables e below (T1.setTop (mkF m 6 #[.val (.ref o0), .val (.long q1), .second, .val (.long q2), .second] [(.int (XT.cmpL q1 w0_untilMillis))])) _
      refine XS.ifYes X1.here hx rfl (pc0 := 6) (pc' := 45) rfl (hb hby d5_6) rfl (XT.ll_ge_t c3) (by decide) (by decide) ?_
      show Steps p.tables e below (T1.setTop (mkF m 45 #[.val (.ref o0), .val (.long q1), .second, .val (.long q2), .second] [])) _
      refine st22 _ ?_
      show Steps p.tables e below (T22.setTop (mkF m 48 #[.val (.ref o0), .val (.long q1), .second, .val (.long q2), .second] [(.ref b22)])) _
      refine XS.dup X22.here hx rfl (hb hby d5_48) rfl rfl ?_
      show Steps p.tables e below (T22.setTop (mkF m 49 #[.val (.ref o0), .val (.long q1), .second, .val (.long q2), .second] [(.ref b22), (.ref b22)])) _
      refine XT.iconstV X22.here hx rfl (1 : Int32) (hb hby d5_49) (by decide) ?_
      show Steps p.tables e below (T22.setTop (mkF m 50 #[.val (.ref o0), .val (.long q1), .second, .val (.long q2), .second] [(.int (1 : Int32)), (.ref b22), (.ref b22)])) _
      refine XT.lloadN X22.here hx rfl (hb hby d5_50) rfl ?_
      show Steps p.tables e below (T22.setTop (mkF m 51 #[.val (.ref o0), .val (.long q1), .second, .val (.long q2), .second] [(.long q1), (.int (1 : Int32)), (.ref b22), (.ref b22)])) _
      refine XT.lloadN X22.here hx rfl (hb hby d5_51) rfl ?_
      show Steps p.tables e below (T22.setTop (mkF m 52 #[.val (.ref o0), .val (.long q1), .second, .val (.long q2), .second] [(.long q2), (.long q1), (.int (1 : Int32)), (.ref b22), (.ref b22)])) _
      refine XT.ladd X22.here hx rfl (hb hby d5_52) rfl ?_
      show Steps p.tables e below (T22.setTop (mkF m 53 #[.val (.ref o0), .val (.long q1), .second, .val (.long q2), .second] [(.long (q1 + q2)), (.int (1 : Int32)), (.ref b22), (.ref b22)])) _
      refine st28.trans ?_
      show Steps p.tables e below (T28.setTop (mkF m 56 #[.val (.ref o0), .val (.long q1), .second, .val (.long q2), .second] [(.ref b22)])) _
      exact X28.areturnOut hx rfl Bd.returns rfl (hb hby d5_56) hr
    · skip
      show Q5 Z o0 q1 q2 w0_untilMillis w1_count h0 n0 _ T28.heap _
      unfold Q5
      rw [show (r5_1 q1 q2 w0_untilMillis w1_count) = (1 : Int32) from (if_neg c3)]
      rw [show (r5_2 q1 q2 w0_untilMillis w1_count) = (v5_2 q1 q2 w0_untilMillis w1_count) from (if_neg c3)]
      exact ⟨N28, b22, rfl, sz25, (((Keep.refl h0 []).ext E22).trans K28 (allS (Or.inr sz25) all0)), po28_0, po28_1, po28_2⟩
theorem pd__JJ_J : parseMethodDescriptor "(JJ)J" = some ⟨[.long, .long], some .long⟩ := by decide +kernel
theorem pd__JJ_Lcom_example_tollgate_tollgate_store_Failures_ : parseMethodDescriptor "(JJ)Lcom/example/tollgate/tollgate/store/Failures;" = some ⟨[.long, .long], some (.object "com/example/tollgate/tollgate/store/Failures")⟩ := by decide +kernel
theorem pd___I : parseMethodDescriptor "()I" = some ⟨[], some .int⟩ := by decide +kernel
theorem pd___J : parseMethodDescriptor "()J" = some ⟨[], some .long⟩ := by decide +kernel
theorem pd__J_I : parseMethodDescriptor "(J)I" = some ⟨[.long], some .int⟩ := by decide +kernel
theorem pn_com_example_tollgate_tollgate_store_FailuresPlusOnePinLaw : plainName "com/example/tollgate/tollgate/store/FailuresPlusOnePinLaw" = true := by first | (simp [plainName, overriddenIn]; done) | decide +kernel
theorem ef_0 (m : MethodId) (p0 : Int32) (q1 : Int64) (q2 : Int64) (q3 : Int64) (p4 : Int32) : entryFrame m #[(.int p0), (.long q1), (.long q2), (.long q3), (.int p4)] maxLocals = mkF m 0 #[.val (.int p0), .val (.long q1), .second, .val (.long q2), .second, .val (.long q3), .second, .val (.int p4), .unset, .unset, .unset, .unset, .unset, .unset, .unset, .unset, .unset, .unset, .unset] [] := by first | (simp [entryFrame, mkF, argsToLocals, Value.category, maxLocals]; done) | rfl
def v0_1 (p0 : Int32) (q1 : Int64) (q2 : Int64) (q3 : Int64) (p4 : Int32) : Int32 := (p4 &&& (3 : Int32))
def v0_2 (p0 : Int32) (q1 : Int64) (q2 : Int64) (q3 : Int64) (p4 : Int32) : Int64 := (q1 - (1 : Int64))
def v0_3 (p0 : Int32) (q1 : Int64) (q2 : Int64) (q3 : Int64) (p4 : Int32) : Int64 := (if (v0_1 p0 q1 q2 q3 p4) = (1 : Int32) then q1 else (if (v0_1 p0 q1 q2 q3 p4) = (2 : Int32) then (v0_2 p0 q1 q2 q3 p4) else q2))
def v0_4 (p0 : Int32) (q1 : Int64) (q2 : Int64) (q3 : Int64) (p4 : Int32) : Int32 := ((p4 >>> ((2 : Int32) &&& 31)) &&& (1 : Int32))
def v0_5 (p0 : Int32) (q1 : Int64) (q2 : Int64) (q3 : Int64) (p4 : Int32) : Int32 := (if (v0_4 p0 q1 q2 q3 p4) = (0 : Int32) then p0 else (2147483647 : Int32))
def v0_6 (p0 : Int32) (q1 : Int64) (q2 : Int64) (q3 : Int64) (p4 : Int32) : Int32 := (if (v0_3 p0 q1 q2 q3 p4) < q1 then (1 : Int32) else (0 : Int32))
def v0_7 (p0 : Int32) (q1 : Int64) (q2 : Int64) (q3 : Int64) (p4 : Int32) : Int64 := (((v0_5 p0 q1 q2 q3 p4).toInt64) + (1 : Int64))
def v0_8 (p0 : Int32) (q1 : Int64) (q2 : Int64) (q3 : Int64) (p4 : Int32) : Int64 := (if (v0_6 p0 q1 q2 q3 p4) = (0 : Int32) then (1 : Int64) else (f1 (v0_7 p0 q1 q2 q3 p4) (2147483647 : Int64)))
def v0_9 (p0 : Int32) (q1 : Int64) (q2 : Int64) (q3 : Int64) (p4 : Int32) : Int64 := (if (v0_6 p0 q1 q2 q3 p4) = (0 : Int32) then ((v0_3 p0 q1 q2 q3 p4) + q3) else q1)
def v0_10 (p0 : Int32) (q1 : Int64) (q2 : Int64) (q3 : Int64) (p4 : Int32) : Int64 := ((f6 (r5_1 (v0_3 p0 q1 q2 q3 p4) q3 q1 (v0_5 p0 q1 q2 q3 p4))).toInt64)
def v0_11 (p0 : Int32) (q1 : Int64) (q2 : Int64) (q3 : Int64) (p4 : Int32) : Int64 := (f7 (r5_2 (v0_3 p0 q1 q2 q3 p4) q3 q1 (v0_5 p0 q1 q2 q3 p4)))
def v0_12 (p0 : Int32) (q1 : Int64) (q2 : Int64) (q3 : Int64) (p4 : Int32) : Int64 := ((v0_3 p0 q1 q2 q3 p4) + q3)
def v0_13 (p0 : Int32) (q1 : Int64) (q2 : Int64) (q3 : Int64) (p4 : Int32) : Int32 := (f8 (v0_3 p0 q1 q2 q3 p4) (r5_2 (v0_3 p0 q1 q2 q3 p4) q3 q1 (v0_5 p0 q1 q2 q3 p4)) (r5_1 (v0_3 p0 q1 q2 q3 p4) q3 q1 (v0_5 p0 q1 q2 q3 p4)))
def v0_14 (p0 : Int32) (q1 : Int64) (q2 : Int64) (q3 : Int64) (p4 : Int32) : Int32 := (if (v0_13 p0 q1 q2 q3 p4) = (1 : Int32) then (1 : Int32) else (0 : Int32))
def v0_15 (p0 : Int32) (q1 : Int64) (q2 : Int64) (q3 : Int64) (p4 : Int32) : Int32 := (f8 (v0_3 p0 q1 q2 q3 p4) (r5_2 (v0_3 p0 q1 q2 q3 p4) q3 q1 (v0_5 p0 q1 q2 q3 p4)) (r5_1 (v0_3 p0 q1 q2 q3 p4) q3 q1 (v0_5 p0 q1 q2 q3 p4)))
def v0_16 (p0 : Int32) (q1 : Int64) (q2 : Int64) (q3 : Int64) (p4 : Int32) : Int32 := (f6 (r5_1 (v0_3 p0 q1 q2 q3 p4) q3 q1 (v0_5 p0 q1 q2 q3 p4)))
def v0_17 (p0 : Int32) (q1 : Int64) (q2 : Int64) (q3 : Int64) (p4 : Int32) : Int32 := (if (v0_15 p0 q1 q2 q3 p4) = (v0_16 p0 q1 q2 q3 p4) then (1 : Int32) else (0 : Int32))
/-own-/
theorem own_open (p0 : Int32) (q1 q2 q3 : Int64) (p4 : Int32) : (v0_6 p0 q1 q2 q3 p4 = (0 : Int32)) ↔ ¬ (v0_3 p0 q1 q2 q3 p4 < q1) := by
  unfold v0_6
  by_cases h : v0_3 p0 q1 q2 q3 p4 < q1
  · rw [if_pos h]; simp [h]
  · rw [if_neg h]; simp [h]
theorem own_133 (p0 : Int32) (q1 q2 q3 : Int64) (p4 : Int32) : v0_10 p0 q1 q2 q3 p4 = v0_8 p0 q1 q2 q3 p4 := by
  unfold v0_10 v0_8 f6 r5_1
  simp only [own_open]
  by_cases h : v0_3 p0 q1 q2 q3 p4 < q1
  · rw [if_pos h, if_neg (by simp [h])]
    unfold v5_1 f1 v1_1 v0_7
    generalize v0_5 p0 q1 q2 q3 p4 = c
    have c1 : (1 : Int32).toInt = 1 := by decide
    have c2 : (1 : Int64).toInt = 1 := by decide
    have c3 : (2147483647 : Int64).toInt = 2147483647 := by decide
    have c4 : (2147483647 : Int32).toInt = 2147483647 := by decide
    have b1 := c.toInt_lt
    have b2 := c.le_toInt
    have s : (c.toInt64 + (1 : Int64)).toInt = c.toInt + 1 := by
      rw [Jvm.Kit.i64_add (by rw [Jvm.Kit.i64_of_i32, c2]; omega) (by rw [Jvm.Kit.i64_of_i32, c2]; omega), Jvm.Kit.i64_of_i32, c2]
    by_cases k : c = (2147483647 : Int32)
    · rw [if_pos k, k]; decide
    · have kk : c.toInt ≠ 2147483647 := fun q => k (Int32.toInt_inj.mp (by rw [q, c4]))
      rw [if_neg k, if_neg (by rw [Int64.lt_iff_toInt_lt, s, c3]; omega)]
      apply Int64.toInt_inj.mp
      rw [s, Jvm.Kit.i64_of_i32, Jvm.Kit.i32_add (by rw [c1]; omega) (by rw [c1]; omega), c1]
  · rw [if_neg h, if_pos h]; decide
theorem own_146 (p0 : Int32) (q1 q2 q3 : Int64) (p4 : Int32) : v0_11 p0 q1 q2 q3 p4 = v0_9 p0 q1 q2 q3 p4 := by
  unfold v0_11 v0_9 f7 r5_2
  simp only [own_open]
  by_cases h : v0_3 p0 q1 q2 q3 p4 < q1
  · rw [if_pos h, if_neg (by simp [h])]
  · rw [if_neg h, if_pos h]; rfl
theorem own_leaf211 (p0 : Int32) (q1 q2 q3 : Int64) (p4 : Int32) (h1 : v0_6 p0 q1 q2 q3 p4 = (0 : Int32)) (h2 : (0 : Int64) < q3) (h3 : v0_3 p0 q1 q2 q3 p4 < v0_12 p0 q1 q2 q3 p4) : v0_14 p0 q1 q2 q3 p4 = (1 : Int32) := by
  refine if_pos ?_
  have k := (own_open p0 q1 q2 q3 p4).mp h1
  have a : r5_2 (v0_3 p0 q1 q2 q3 p4) q3 q1 (v0_5 p0 q1 q2 q3 p4) = v0_12 p0 q1 q2 q3 p4 := if_neg k
  have b : r5_1 (v0_3 p0 q1 q2 q3 p4) q3 q1 (v0_5 p0 q1 q2 q3 p4) = 1 := if_neg k
  unfold v0_13
  rw [a, b]
  exact if_pos h3
theorem own_leaf176 (p0 : Int32) (q1 q2 q3 : Int64) (p4 : Int32) (h1 : ¬ v0_6 p0 q1 q2 q3 p4 = (0 : Int32)) : v0_17 p0 q1 q2 q3 p4 = (1 : Int32) := by
  refine if_pos ?_
  have k : v0_3 p0 q1 q2 q3 p4 < q1 := Classical.not_not.mp fun z => h1 ((own_open p0 q1 q2 q3 p4).mpr z)
  have a : r5_2 (v0_3 p0 q1 q2 q3 p4) q3 q1 (v0_5 p0 q1 q2 q3 p4) = q1 := if_pos k
  unfold v0_15 v0_16
  rw [a]
  exact if_pos k
def Q0 (Z : State) (p0 : Int32) (q1 : Int64) (q2 : Int64) (q3 : Int64) (p4 : Int32) (h0 : Heap) (n0 : Nat) (v : Option Value) (h : Heap) (L : List Loc) : Prop := v = some (.int (1 : Int32)) ∧ Fr n0 L
set_option maxRecDepth 65536 in
set_option maxHeartbeats 40000000 in
theorem rm0 (l : Launch) (Z : State) (a0 : Array Value) (hw : ∀ d ∈ tables_1, d.before a0 Z = true) (ws : List Jvm.Cond) (p0 : Int32) (q1 : Int64) (q2 : Int64) (q3 : Int64) (p4 : Int32) (h0 : Heap) (n0 : Nat) (Z0 : n0 ≤ h0.size) :
    MetFree l x (head1 (Jvm.Cond.code x code maxLocals ret :: ws) room_1) (fun a U => a = #[(.int p0), (.long q1), (.long q2), (.long q3), (.int p4)] ∧ Z.Warmed39 U.vm ∧ U.heap = h0) (fun _ _ _ _ _ => True) (fun _ U o U' => ∃ v L, o = .returned v ∧ Q0 Z p0 q1 q2 q3 p4 h0 n0 v U'.heap L ∧ FrameEnd U o U' L room_1.cells room_1.slots) := by
  refine MetFree.of_bodySF (plainFor_of_name pn_com_example_tollgate_tollgate_store_FailuresPlusOnePinLaw) hisR ?_
  intro p e s m args below meth c s₁ Bd hml0 hP hK
  obtain ⟨rfl, hZ, hh⟩ := hP
  have hx := Bd.exec
  have hby := Bd.bytes
  have hml : c.maxLocals = 19 := hml0
  have hown : s.vm.findClass "com/example/tollgate/tollgate/store/FailuresPlusOnePinLaw" = some m.cls := findClass_of_methodNamed Bd.named
  have hnm := (name_of_methodNamed Bd.named Bd.method).1
  have X0 : Stand p l e room_1 s m #[(.int p0), (.long q1), (.long q2), (.long q3), (.int p4)] below meth c s₁ [] 0 0 := Stand.of_body Bd
  have e0 : s₁.heap = h0 := by rw [← hh, Bd.state]; rfl
  have N0 := Fr.nil n0
  have pre0 : ∀ t, Steps p.tables e below (s₁.setTop (mkF m 0 #[.val (.int p0), .val (.long q1), .second, .val (.long q2), .second, .val (.long q3), .second, .val (.int p4), .unset, .unset, .unset, .unset, .unset, .unset, .unset, .unset, .unset, .unset, .unset] [])) t → Steps p.tables e below (s₁.setTop (entryFrame m #[(.int p0), (.long q1), (.long q2), (.long q3), (.int p4)] maxLocals)) t := fun t k => castTop (ef_0 m p0 q1 q2 q3 p4) k
  have pre1 : ∀ t, Steps p.tables e below (s₁.setTop (mkF m 12 #[.val (.int p0), .val (.long q1), .second, .val (.long q2), .second, .val (.long q3), .second, .val (.int p4), .val (.int (v0_1 p0 q1 q2 q3 p4)), .val (.long q2), .second, .unset, .unset, .unset, .unset, .unset, .unset, .unset, .unset] [(.int (1 : Int32)), (.int (v0_1 p0 q1 q2 q3 p4))])) t → Steps p.tables e below (s₁.setTop (entryFrame m #[(.int p0), (.long q1), (.long q2), (.long q3), (.int p4)] maxLocals)) t := by
    intro t k
    refine pre0 t ?_
    show Steps p.tables e below (s₁.setTop (mkF m 0 #[.val (.int p0), .val (.long q1), .second, .val (.long q2), .second, .val (.long q3), .second, .val (.int p4), .unset, .unset, .unset, .unset, .unset, .unset, .unset, .unset, .unset, .unset, .unset] [])) _
    refine XS.iload X0.here hx rfl (hb hby at_0) rfl ?_
    show Steps p.tables e below (s₁.setTop (mkF m 2 #[.val (.int p0), .val (.long q1), .second, .val (.long q2), .second, .val (.long q3), .second, .val (.int p4), .unset, .unset, .unset, .unset, .unset, .unset, .unset, .unset, .unset, .unset, .unset] [(.int p4)])) _
    refine XT.iconstV X0.here hx rfl (3 : Int32) (hb hby at_2) (by decide) ?_
    show Steps p.tables e below (s₁.setTop (mkF m 3 #[.val (.int p0), .val (.long q1), .second, .val (.long q2), .second, .val (.long q3), .second, .val (.int p4), .unset, .unset, .unset, .unset, .unset, .unset, .unset, .unset, .unset, .unset, .unset] [(.int (3 : Int32)), (.int p4)])) _
    refine XS.iand X0.here hx rfl (hb hby at_3) rfl ?_
    show Steps p.tables e below (s₁.setTop (mkF m 4 #[.val (.int p0), .val (.long q1), .second, .val (.long q2), .second, .val (.long q3), .second, .val (.int p4), .unset, .unset, .unset, .unset, .unset, .unset, .unset, .unset, .unset, .unset, .unset] [(.int (p4 &&& (3 : Int32)))])) _
    refine XS.istore X0.here hx rfl (hb hby at_4) rfl (l' := #[.val (.int p0), .val (.long q1), .second, .val (.long q2), .second, .val (.long q3), .second, .val (.int p4), .val (.int (v0_1 p0 q1 q2 q3 p4)), .unset, .unset, .unset, .unset, .unset, .unset, .unset, .unset, .unset, .unset]) rfl ?_
    show Steps p.tables e below (s₁.setTop (mkF m 6 #[.val (.int p0), .val (.long q1), .second, .val (.long q2), .second, .val (.long q3), .second, .val (.int p4), .val (.int (v0_1 p0 q1 q2 q3 p4)), .unset, .unset, .unset, .unset, .unset, .unset, .unset, .unset, .unset, .unset] [])) _
    refine XT.lloadN X0.here hx rfl (hb hby at_6) rfl ?_
    show Steps p.tables e below (s₁.setTop (mkF m 7 #[.val (.int p0), .val (.long q1), .second, .val (.long q2), .second, .val (.long q3), .second, .val (.int p4), .val (.int (v0_1 p0 q1 q2 q3 p4)), .unset, .unset, .unset, .unset, .unset, .unset, .unset, .unset, .unset, .unset] [(.long q2)])) _
    refine XT.lstore X0.here hx rfl (hb hby at_7) rfl (l' := #[.val (.int p0), .val (.long q1), .second, .val (.long q2), .second, .val (.long q3), .second, .val (.int p4), .val (.int (v0_1 p0 q1 q2 q3 p4)), .val (.long q2), .second, .unset, .unset, .unset, .unset, .unset, .unset, .unset, .unset]) rfl ?_
    show Steps p.tables e below (s₁.setTop (mkF m 9 #[.val (.int p0), .val (.long q1), .second, .val (.long q2), .second, .val (.long q3), .second, .val (.int p4), .val (.int (v0_1 p0 q1 q2 q3 p4)), .val (.long q2), .second, .unset, .unset, .unset, .unset, .unset, .unset, .unset, .unset] [])) _
    refine XS.iload X0.here hx rfl (hb hby at_9) rfl ?_
    show Steps p.tables e below (s₁.setTop (mkF m 11 #[.val (.int p0), .val (.long q1), .second, .val (.long q2), .second, .val (.long q3), .second, .val (.int p4), .val (.int (v0_1 p0 q1 q2 q3 p4)), .val (.long q2), .second, .unset, .unset, .unset, .unset, .unset, .unset, .unset, .unset] [(.int (v0_1 p0 q1 q2 q3 p4))])) _
    refine XT.iconstV X0.here hx rfl (1 : Int32) (hb hby at_11) (by decide) ?_
    exact k
  have pre5 : ∀ t, Steps p.tables e below (s₁.setTop (mkF m 32 #[.val (.int p0), .val (.long q1), .second, .val (.long q2), .second, .val (.long q3), .second, .val (.int p4), .val (.int (v0_1 p0 q1 q2 q3 p4)), .val (.long (v0_3 p0 q1 q2 q3 p4)), .second, .unset, .unset, .unset, .unset, .unset, .unset, .unset, .unset] [])) t → Steps p.tables e below (s₁.setTop (entryFrame m #[(.int p0), (.long q1), (.long q2), (.long q3), (.int p4)] maxLocals)) t := by
    intro t k
    by_cases c2 : (v0_1 p0 q1 q2 q3 p4) = (1 : Int32)
    · skip
      rw [show (v0_3 p0 q1 q2 q3 p4) = q1 from (if_pos c2)] at k
      refine pre1 t ?_
      show Steps p.tables e below (s₁.setTop (mkF m 12 #[.val (.int p0), .val (.long q1), .second, .val (.long q2), .second, .val (.long q3), .second, .val (.int p4), .val (.int (v0_1 p0 q1 q2 q3 p4)), .val (.long q2), .second, .unset, .unset, .unset, .unset, .unset, .unset, .unset, .unset] [(.int (1 : Int32)), (.int (v0_1 p0 q1 q2 q3 p4))])) _
      refine XS.icmpNo X0.here hx rfl (hb hby at_12) rfl (XT.ii_ne_f c2) ?_
      show Steps p.tables e below (s₁.setTop (mkF m 15 #[.val (.int p0), .val (.long q1), .second, .val (.long q2), .second, .val (.long q3), .second, .val (.int p4), .val (.int (v0_1 p0 q1 q2 q3 p4)), .val (.long q2), .second, .unset, .unset, .unset, .unset, .unset, .unset, .unset, .unset] [])) _
      refine XT.lloadN X0.here hx rfl (hb hby at_15) rfl ?_
      show Steps p.tables e below (s₁.setTop (mkF m 16 #[.val (.int p0), .val (.long q1), .second, .val (.long q2), .second, .val (.long q3), .second, .val (.int p4), .val (.int (v0_1 p0 q1 q2 q3 p4)), .val (.long q2), .second, .unset, .unset, .unset, .unset, .unset, .unset, .unset, .unset] [(.long q1)])) _
      refine XT.lstore X0.here hx rfl (hb hby at_16) rfl (l' := #[.val (.int p0), .val (.long q1), .second, .val (.long q2), .second, .val (.long q3), .second, .val (.int p4), .val (.int (v0_1 p0 q1 q2 q3 p4)), .val (.long q1), .second, .unset, .unset, .unset, .unset, .unset, .unset, .unset, .unset]) rfl ?_
      show Steps p.tables e below (s₁.setTop (mkF m 18 #[.val (.int p0), .val (.long q1), .second, .val (.long q2), .second, .val (.long q3), .second, .val (.int p4), .val (.int (v0_1 p0 q1 q2 q3 p4)), .val (.long q1), .second, .unset, .unset, .unset, .unset, .unset, .unset, .unset, .unset] [])) _
      refine XS.goto X0.here hx rfl (pc0 := 18) (pc' := 32) rfl (hb hby at_18) (by decide) (by decide) ?_
      exact k
    · skip
      have pre3 : ∀ t, Steps p.tables e below (s₁.setTop (mkF m 24 #[.val (.int p0), .val (.long q1), .second, .val (.long q2), .second, .val (.long q3), .second, .val (.int p4), .val (.int (v0_1 p0 q1 q2 q3 p4)), .val (.long q2), .second, .unset, .unset, .unset, .unset, .unset, .unset, .unset, .unset] [(.int (2 : Int32)), (.int (v0_1 p0 q1 q2 q3 p4))])) t → Steps p.tables e below (s₁.setTop (entryFrame m #[(.int p0), (.long q1), (.long q2), (.long q3), (.int p4)] maxLocals)) t := by
        intro t k
        refine pre1 t ?_
        show Steps p.tables e below (s₁.setTop (mkF m 12 #[.val (.int p0), .val (.long q1), .second, .val (.long q2), .second, .val (.long q3), .second, .val (.int p4), .val (.int (v0_1 p0 q1 q2 q3 p4)), .val (.long q2), .second, .unset, .unset, .unset, .unset, .unset, .unset, .unset, .unset] [(.int (1 : Int32)), (.int (v0_1 p0 q1 q2 q3 p4))])) _
        refine XS.icmpYes X0.here hx rfl (pc0 := 12) (pc' := 21) rfl (hb hby at_12) rfl (XT.ii_ne_t c2) (by decide) (by decide) ?_
        show Steps p.tables e below (s₁.setTop (mkF m 21 #[.val (.int p0), .val (.long q1), .second, .val (.long q2), .second, .val (.long q3), .second, .val (.int p4), .val (.int (v0_1 p0 q1 q2 q3 p4)), .val (.long q2), .second, .unset, .unset, .unset, .unset, .unset, .unset, .unset, .unset] [])) _
        refine XS.iload X0.here hx rfl (hb hby at_21) rfl ?_
        show Steps p.tables e below (s₁.setTop (mkF m 23 #[.val (.int p0), .val (.long q1), .second, .val (.long q2), .second, .val (.long q3), .second, .val (.int p4), .val (.int (v0_1 p0 q1 q2 q3 p4)), .val (.long q2), .second, .unset, .unset, .unset, .unset, .unset, .unset, .unset, .unset] [(.int (v0_1 p0 q1 q2 q3 p4))])) _
        refine XT.iconstV X0.here hx rfl (2 : Int32) (hb hby at_23) (by decide) ?_
        exact k
      by_cases c4 : (v0_1 p0 q1 q2 q3 p4) = (2 : Int32)
      · skip
        rw [show (v0_3 p0 q1 q2 q3 p4) = (v0_2 p0 q1 q2 q3 p4) from ((if_neg c2).trans (if_pos c4))] at k
        refine pre3 t ?_
        show Steps p.tables e below (s₁.setTop (mkF m 24 #[.val (.int p0), .val (.long q1), .second, .val (.long q2), .second, .val (.long q3), .second, .val (.int p4), .val (.int (v0_1 p0 q1 q2 q3 p4)), .val (.long q2), .second, .unset, .unset, .unset, .unset, .unset, .unset, .unset, .unset] [(.int (2 : Int32)), (.int (v0_1 p0 q1 q2 q3 p4))])) _
        refine XS.icmpNo X0.here hx rfl (hb hby at_24) rfl (XT.ii_ne_f c4) ?_
        show Steps p.tables e below (s₁.setTop (mkF m 27 #[.val (.int p0), .val (.long q1), .second, .val (.long q2), .second, .val (.long q3), .second, .val (.int p4), .val (.int (v0_1 p0 q1 q2 q3 p4)), .val (.long q2), .second, .unset, .unset, .unset, .unset, .unset, .unset, .unset, .unset] [])) _
        refine XT.lloadN X0.here hx rfl (hb hby at_27) rfl ?_
        show Steps p.tables e below (s₁.setTop (mkF m 28 #[.val (.int p0), .val (.long q1), .second, .val (.long q2), .second, .val (.long q3), .second, .val (.int p4), .val (.int (v0_1 p0 q1 q2 q3 p4)), .val (.long q2), .second, .unset, .unset, .unset, .unset, .unset, .unset, .unset, .unset] [(.long q1)])) _
        refine XT.lconstV X0.here hx rfl (1 : Int64) (hb hby at_28) (by decide) ?_
        show Steps p.tables e below (s₁.setTop (mkF m 29 #[.val (.int p0), .val (.long q1), .second, .val (.long q2), .second, .val (.long q3), .second, .val (.int p4), .val (.int (v0_1 p0 q1 q2 q3 p4)), .val (.long q2), .second, .unset, .unset, .unset, .unset, .unset, .unset, .unset, .unset] [(.long (1 : Int64)), (.long q1)])) _
        refine XT.lsub X0.here hx rfl (hb hby at_29) rfl ?_
        show Steps p.tables e below (s₁.setTop (mkF m 30 #[.val (.int p0), .val (.long q1), .second, .val (.long q2), .second, .val (.long q3), .second, .val (.int p4), .val (.int (v0_1 p0 q1 q2 q3 p4)), .val (.long q2), .second, .unset, .unset, .unset, .unset, .unset, .unset, .unset, .unset] [(.long (q1 - (1 : Int64)))])) _
        refine XT.lstore X0.here hx rfl (hb hby at_30) rfl (l' := #[.val (.int p0), .val (.long q1), .second, .val (.long q2), .second, .val (.long q3), .second, .val (.int p4), .val (.int (v0_1 p0 q1 q2 q3 p4)), .val (.long (v0_2 p0 q1 q2 q3 p4)), .second, .unset, .unset, .unset, .unset, .unset, .unset, .unset, .unset]) rfl ?_
        exact k
      · skip
        rw [show (v0_3 p0 q1 q2 q3 p4) = q2 from ((if_neg c2).trans (if_neg c4))] at k
        refine pre3 t ?_
        show Steps p.tables e below (s₁.setTop (mkF m 24 #[.val (.int p0), .val (.long q1), .second, .val (.long q2), .second, .val (.long q3), .second, .val (.int p4), .val (.int (v0_1 p0 q1 q2 q3 p4)), .val (.long q2), .second, .unset, .unset, .unset, .unset, .unset, .unset, .unset, .unset] [(.int (2 : Int32)), (.int (v0_1 p0 q1 q2 q3 p4))])) _
        refine XS.icmpYes X0.here hx rfl (pc0 := 24) (pc' := 32) rfl (hb hby at_24) rfl (XT.ii_ne_t c4) (by decide) (by decide) ?_
        exact k
  have pre6 : ∀ t, Steps p.tables e below (s₁.setTop (mkF m 38 #[.val (.int p0), .val (.long q1), .second, .val (.long q2), .second, .val (.long q3), .second, .val (.int p4), .val (.int (v0_1 p0 q1 q2 q3 p4)), .val (.long (v0_3 p0 q1 q2 q3 p4)), .second, .unset, .unset, .unset, .unset, .unset, .unset, .unset, .unset] [(.int ((p4 >>> ((2 : Int32) &&& 31)) &&& (1 : Int32)))])) t → Steps p.tables e below (s₁.setTop (entryFrame m #[(.int p0), (.long q1), (.long q2), (.long q3), (.int p4)] maxLocals)) t := by
    intro t k
    refine pre5 t ?_
    show Steps p.tables e below (s₁.setTop (mkF m 32 #[.val (.int p0), .val (.long q1), .second, .val (.long q2), .second, .val (.long q3), .second, .val (.int p4), .val (.int (v0_1 p0 q1 q2 q3 p4)), .val (.long (v0_3 p0 q1 q2 q3 p4)), .second, .unset, .unset, .unset, .unset, .unset, .unset, .unset, .unset] [])) _
    refine XS.iload X0.here hx rfl (hb hby at_32) rfl ?_
    show Steps p.tables e below (s₁.setTop (mkF m 34 #[.val (.int p0), .val (.long q1), .second, .val (.long q2), .second, .val (.long q3), .second, .val (.int p4), .val (.int (v0_1 p0 q1 q2 q3 p4)), .val (.long (v0_3 p0 q1 q2 q3 p4)), .second, .unset, .unset, .unset, .unset, .unset, .unset, .unset, .unset] [(.int p4)])) _
    refine XT.iconstV X0.here hx rfl (2 : Int32) (hb hby at_34) (by decide) ?_
    show Steps p.tables e below (s₁.setTop (mkF m 35 #[.val (.int p0), .val (.long q1), .second, .val (.long q2), .second, .val (.long q3), .second, .val (.int p4), .val (.int (v0_1 p0 q1 q2 q3 p4)), .val (.long (v0_3 p0 q1 q2 q3 p4)), .second, .unset, .unset, .unset, .unset, .unset, .unset, .unset, .unset] [(.int (2 : Int32)), (.int p4)])) _
    refine XT.ishr X0.here hx rfl (hb hby at_35) rfl ?_
    show Steps p.tables e below (s₁.setTop (mkF m 36 #[.val (.int p0), .val (.long q1), .second, .val (.long q2), .second, .val (.long q3), .second, .val (.int p4), .val (.int (v0_1 p0 q1 q2 q3 p4)), .val (.long (v0_3 p0 q1 q2 q3 p4)), .second, .unset, .unset, .unset, .unset, .unset, .unset, .unset, .unset] [(.int (p4 >>> ((2 : Int32) &&& 31)))])) _
    refine XT.iconstV X0.here hx rfl (1 : Int32) (hb hby at_36) (by decide) ?_
    show Steps p.tables e below (s₁.setTop (mkF m 37 #[.val (.int p0), .val (.long q1), .second, .val (.long q2), .second, .val (.long q3), .second, .val (.int p4), .val (.int (v0_1 p0 q1 q2 q3 p4)), .val (.long (v0_3 p0 q1 q2 q3 p4)), .second, .unset, .unset, .unset, .unset, .unset, .unset, .unset, .unset] [(.int (1 : Int32)), (.int (p4 >>> ((2 : Int32) &&& 31)))])) _
    refine XS.iand X0.here hx rfl (hb hby at_37) rfl ?_
    exact k
  have pre8 : ∀ t, Steps p.tables e below (s₁.setTop (mkF m 47 #[.val (.int p0), .val (.long q1), .second, .val (.long q2), .second, .val (.long q3), .second, .val (.int p4), .val (.int (v0_1 p0 q1 q2 q3 p4)), .val (.long (v0_3 p0 q1 q2 q3 p4)), .second, .unset, .unset, .unset, .unset, .unset, .unset, .unset, .unset] [(.int (v0_5 p0 q1 q2 q3 p4))])) t → Steps p.tables e below (s₁.setTop (entryFrame m #[(.int p0), (.long q1), (.long q2), (.long q3), (.int p4)] maxLocals)) t := by
    intro t k
    by_cases c7 : (v0_4 p0 q1 q2 q3 p4) = (0 : Int32)
    · skip
      rw [show (v0_5 p0 q1 q2 q3 p4) = p0 from (if_pos c7)] at k
      refine pre6 t ?_
      show Steps p.tables e below (s₁.setTop (mkF m 38 #[.val (.int p0), .val (.long q1), .second, .val (.long q2), .second, .val (.long q3), .second, .val (.int p4), .val (.int (v0_1 p0 q1 q2 q3 p4)), .val (.long (v0_3 p0 q1 q2 q3 p4)), .second, .unset, .unset, .unset, .unset, .unset, .unset, .unset, .unset] [(.int ((p4 >>> ((2 : Int32) &&& 31)) &&& (1 : Int32)))])) _
      refine XS.ifYes X0.here hx rfl (pc0 := 38) (pc' := 46) rfl (hb hby at_38) rfl (XT.i0_eq_t c7) (by decide) (by decide) ?_
      show Steps p.tables e below (s₁.setTop (mkF m 46 #[.val (.int p0), .val (.long q1), .second, .val (.long q2), .second, .val (.long q3), .second, .val (.int p4), .val (.int (v0_1 p0 q1 q2 q3 p4)), .val (.long (v0_3 p0 q1 q2 q3 p4)), .second, .unset, .unset, .unset, .unset, .unset, .unset, .unset, .unset] [])) _
      refine XS.iloadN X0.here hx rfl (hb hby at_46) rfl ?_
      exact k
    · skip
      rw [show (v0_5 p0 q1 q2 q3 p4) = (2147483647 : Int32) from (if_neg c7)] at k
      refine pre6 t ?_
      show Steps p.tables e below (s₁.setTop (mkF m 38 #[.val (.int p0), .val (.long q1), .second, .val (.long q2), .second, .val (.long q3), .second, .val (.int p4), .val (.int (v0_1 p0 q1 q2 q3 p4)), .val (.long (v0_3 p0 q1 q2 q3 p4)), .second, .unset, .unset, .unset, .unset, .unset, .unset, .unset, .unset] [(.int ((p4 >>> ((2 : Int32) &&& 31)) &&& (1 : Int32)))])) _
      refine XS.ifNo X0.here hx rfl (hb hby at_38) rfl (XT.i0_eq_f c7) ?_
      show Steps p.tables e below (s₁.setTop (mkF m 41 #[.val (.int p0), .val (.long q1), .second, .val (.long q2), .second, .val (.long q3), .second, .val (.int p4), .val (.int (v0_1 p0 q1 q2 q3 p4)), .val (.long (v0_3 p0 q1 q2 q3 p4)), .second, .unset, .unset, .unset, .unset, .unset, .unset, .unset, .unset] [])) _
      refine X0.ldcI hx hown (mvT hZ (hw _ (List.mem_of_getElem? (i := 46) rfl))) rfl (hb hby at_41) ?_
      show Steps p.tables e below (s₁.setTop (mkF m 43 #[.val (.int p0), .val (.long q1), .second, .val (.long q2), .second, .val (.long q3), .second, .val (.int p4), .val (.int (v0_1 p0 q1 q2 q3 p4)), .val (.long (v0_3 p0 q1 q2 q3 p4)), .second, .unset, .unset, .unset, .unset, .unset, .unset, .unset, .unset] [(.int (2147483647 : Int32))])) _
      refine XS.goto X0.here hx rfl (pc0 := 43) (pc' := 47) rfl (hb hby at_43) (by decide) (by decide) ?_
      exact k
  have pre9 : ∀ t, Steps p.tables e below (s₁.setTop (mkF m 53 #[.val (.int p0), .val (.long q1), .second, .val (.long q2), .second, .val (.long q3), .second, .val (.int p4), .val (.int (v0_1 p0 q1 q2 q3 p4)), .val (.long (v0_3 p0 q1 q2 q3 p4)), .second, .val (.int (v0_5 p0 q1 q2 q3 p4)), .unset, .unset, .unset, .unset, .unset, .unset, .unset] [(.int (XT.cmpL (v0_3 p0 q1 q2 q3 p4) q1))])) t → Steps p.tables e below (s₁.setTop (entryFrame m #[(.int p0), (.long q1), (.long q2), (.long q3), (.int p4)] maxLocals)) t := by
    intro t k
    refine pre8 t ?_
    show Steps p.tables e below (s₁.setTop (mkF m 47 #[.val (.int p0), .val (.long q1), .second, .val (.long q2), .second, .val (.long q3), .second, .val (.int p4), .val (.int (v0_1 p0 q1 q2 q3 p4)), .val (.long (v0_3 p0 q1 q2 q3 p4)), .second, .unset, .unset, .unset, .unset, .unset, .unset, .unset, .unset] [(.int (v0_5 p0 q1 q2 q3 p4))])) _
    refine XS.istore X0.here hx rfl (hb hby at_47) rfl (l' := #[.val (.int p0), .val (.long q1), .second, .val (.long q2), .second, .val (.long q3), .second, .val (.int p4), .val (.int (v0_1 p0 q1 q2 q3 p4)), .val (.long (v0_3 p0 q1 q2 q3 p4)), .second, .val (.int (v0_5 p0 q1 q2 q3 p4)), .unset, .unset, .unset, .unset, .unset, .unset, .unset]) rfl ?_
    show Steps p.tables e below (s₁.setTop (mkF m 49 #[.val (.int p0), .val (.long q1), .second, .val (.long q2), .second, .val (.long q3), .second, .val (.int p4), .val (.int (v0_1 p0 q1 q2 q3 p4)), .val (.long (v0_3 p0 q1 q2 q3 p4)), .second, .val (.int (v0_5 p0 q1 q2 q3 p4)), .unset, .unset, .unset, .unset, .unset, .unset, .unset] [])) _
    refine XT.lload X0.here hx rfl (hb hby at_49) rfl ?_
    show Steps p.tables e below (s₁.setTop (mkF m 51 #[.val (.int p0), .val (.long q1), .second, .val (.long q2), .second, .val (.long q3), .second, .val (.int p4), .val (.int (v0_1 p0 q1 q2 q3 p4)), .val (.long (v0_3 p0 q1 q2 q3 p4)), .second, .val (.int (v0_5 p0 q1 q2 q3 p4)), .unset, .unset, .unset, .unset, .unset, .unset, .unset] [(.long (v0_3 p0 q1 q2 q3 p4))])) _
    refine XT.lloadN X0.here hx rfl (hb hby at_51) rfl ?_
    show Steps p.tables e below (s₁.setTop (mkF m 52 #[.val (.int p0), .val (.long q1), .second, .val (.long q2), .second, .val (.long q3), .second, .val (.int p4), .val (.int (v0_1 p0 q1 q2 q3 p4)), .val (.long (v0_3 p0 q1 q2 q3 p4)), .second, .val (.int (v0_5 p0 q1 q2 q3 p4)), .unset, .unset, .unset, .unset, .unset, .unset, .unset] [(.long q1), (.long (v0_3 p0 q1 q2 q3 p4))])) _
    refine XT.lcmp X0.here hx rfl (hb hby at_52) rfl ?_
    exact k
  have pre11 : ∀ t, Steps p.tables e below (s₁.setTop (mkF m 61 #[.val (.int p0), .val (.long q1), .second, .val (.long q2), .second, .val (.long q3), .second, .val (.int p4), .val (.int (v0_1 p0 q1 q2 q3 p4)), .val (.long (v0_3 p0 q1 q2 q3 p4)), .second, .val (.int (v0_5 p0 q1 q2 q3 p4)), .unset, .unset, .unset, .unset, .unset, .unset, .unset] [(.int (v0_6 p0 q1 q2 q3 p4))])) t → Steps p.tables e below (s₁.setTop (entryFrame m #[(.int p0), (.long q1), (.long q2), (.long q3), (.int p4)] maxLocals)) t := by
    intro t k
    by_cases c10 : (v0_3 p0 q1 q2 q3 p4) < q1
    · skip
      rw [show (v0_6 p0 q1 q2 q3 p4) = (1 : Int32) from (if_pos c10)] at k
      refine pre9 t ?_
      show Steps p.tables e below (s₁.setTop (mkF m 53 #[.val (.int p0), .val (.long q1), .second, .val (.long q2), .second, .val (.long q3), .second, .val (.int p4), .val (.int (v0_1 p0 q1 q2 q3 p4)), .val (.long (v0_3 p0 q1 q2 q3 p4)), .second, .val (.int (v0_5 p0 q1 q2 q3 p4)), .unset, .unset, .unset, .unset, .unset, .unset, .unset] [(.int (XT.cmpL (v0_3 p0 q1 q2 q3 p4) q1))])) _
      refine XS.ifNo X0.here hx rfl (hb hby at_53) rfl (XT.ll_ge_f c10) ?_
      show Steps p.tables e below (s₁.setTop (mkF m 56 #[.val (.int p0), .val (.long q1), .second, .val (.long q2), .second, .val (.long q3), .second, .val (.int p4), .val (.int (v0_1 p0 q1 q2 q3 p4)), .val (.long (v0_3 p0 q1 q2 q3 p4)), .second, .val (.int (v0_5 p0 q1 q2 q3 p4)), .unset, .unset, .unset, .unset, .unset, .unset, .unset] [])) _
      refine XT.iconstV X0.here hx rfl (1 : Int32) (hb hby at_56) (by decide) ?_
      show Steps p.tables e below (s₁.setTop (mkF m 57 #[.val (.int p0), .val (.long q1), .second, .val (.long q2), .second, .val (.long q3), .second, .val (.int p4), .val (.int (v0_1 p0 q1 q2 q3 p4)), .val (.long (v0_3 p0 q1 q2 q3 p4)), .second, .val (.int (v0_5 p0 q1 q2 q3 p4)), .unset, .unset, .unset, .unset, .unset, .unset, .unset] [(.int (1 : Int32))])) _
      refine XS.goto X0.here hx rfl (pc0 := 57) (pc' := 61) rfl (hb hby at_57) (by decide) (by decide) ?_
      exact k
    · skip
      rw [show (v0_6 p0 q1 q2 q3 p4) = (0 : Int32) from (if_neg c10)] at k
      refine pre9 t ?_
      show Steps p.tables e below (s₁.setTop (mkF m 53 #[.val (.int p0), .val (.long q1), .second, .val (.long q2), .second, .val (.long q3), .second, .val (.int p4), .val (.int (v0_1 p0 q1 q2 q3 p4)), .val (.long (v0_3 p0 q1 q2 q3 p4)), .second, .val (.int (v0_5 p0 q1 q2 q3 p4)), .unset, .unset, .unset, .unset, .unset, .unset, .unset] [(.int (XT.cmpL (v0_3 p0 q1 q2 q3 p4) q1))])) _
      refine XS.ifYes X0.here hx rfl (pc0 := 53) (pc' := 60) rfl (hb hby at_53) rfl (XT.ll_ge_t c10) (by decide) (by decide) ?_
      show Steps p.tables e below (s₁.setTop (mkF m 60 #[.val (.int p0), .val (.long q1), .second, .val (.long q2), .second, .val (.long q3), .second, .val (.int p4), .val (.int (v0_1 p0 q1 q2 q3 p4)), .val (.long (v0_3 p0 q1 q2 q3 p4)), .second, .val (.int (v0_5 p0 q1 q2 q3 p4)), .unset, .unset, .unset, .unset, .unset, .unset, .unset] [])) _
      refine XT.iconstV X0.here hx rfl (0 : Int32) (hb hby at_60) (by decide) ?_
      exact k
  have pre12 : ∀ t, Steps p.tables e below (s₁.setTop (mkF m 65 #[.val (.int p0), .val (.long q1), .second, .val (.long q2), .second, .val (.long q3), .second, .val (.int p4), .val (.int (v0_1 p0 q1 q2 q3 p4)), .val (.long (v0_3 p0 q1 q2 q3 p4)), .second, .val (.int (v0_5 p0 q1 q2 q3 p4)), .val (.int (v0_6 p0 q1 q2 q3 p4)), .unset, .unset, .unset, .unset, .unset, .unset] [(.int (v0_6 p0 q1 q2 q3 p4))])) t → Steps p.tables e below (s₁.setTop (entryFrame m #[(.int p0), (.long q1), (.long q2), (.long q3), (.int p4)] maxLocals)) t := by
    intro t k
    refine pre11 t ?_
    show Steps p.tables e below (s₁.setTop (mkF m 61 #[.val (.int p0), .val (.long q1), .second, .val (.long q2), .second, .val (.long q3), .second, .val (.int p4), .val (.int (v0_1 p0 q1 q2 q3 p4)), .val (.long (v0_3 p0 q1 q2 q3 p4)), .second, .val (.int (v0_5 p0 q1 q2 q3 p4)), .unset, .unset, .unset, .unset, .unset, .unset, .unset] [(.int (v0_6 p0 q1 q2 q3 p4))])) _
    refine XS.istore X0.here hx rfl (hb hby at_61) rfl (l' := #[.val (.int p0), .val (.long q1), .second, .val (.long q2), .second, .val (.long q3), .second, .val (.int p4), .val (.int (v0_1 p0 q1 q2 q3 p4)), .val (.long (v0_3 p0 q1 q2 q3 p4)), .second, .val (.int (v0_5 p0 q1 q2 q3 p4)), .val (.int (v0_6 p0 q1 q2 q3 p4)), .unset, .unset, .unset, .unset, .unset, .unset]) rfl ?_
    show Steps p.tables e below (s₁.setTop (mkF m 63 #[.val (.int p0), .val (.long q1), .second, .val (.long q2), .second, .val (.long q3), .second, .val (.int p4), .val (.int (v0_1 p0 q1 q2 q3 p4)), .val (.long (v0_3 p0 q1 q2 q3 p4)), .second, .val (.int (v0_5 p0 q1 q2 q3 p4)), .val (.int (v0_6 p0 q1 q2 q3 p4)), .unset, .unset, .unset, .unset, .unset, .unset] [])) _
    refine XS.iload X0.here hx rfl (hb hby at_63) rfl ?_
    exact k
  obtain ⟨T15, L15, X15, e15, N15, pre15⟩ : ∃ (T' : State) (L' : List Loc), Stand p l e room_1 s m #[(.int p0), (.long q1), (.long q2), (.long q3), (.int p4)] below meth c T' L' 0 0 ∧ T'.heap = h0 ∧ Fr n0 L' ∧ ∀ t, Steps p.tables e below (T'.setTop (mkF m 83 #[.val (.int p0), .val (.long q1), .second, .val (.long q2), .second, .val (.long q3), .second, .val (.int p4), .val (.int (v0_1 p0 q1 q2 q3 p4)), .val (.long (v0_3 p0 q1 q2 q3 p4)), .second, .val (.int (v0_5 p0 q1 q2 q3 p4)), .val (.int (v0_6 p0 q1 q2 q3 p4)), .unset, .unset, .unset, .unset, .unset, .unset] [(.long (v0_8 p0 q1 q2 q3 p4))])) t → Steps p.tables e below (s₁.setTop (entryFrame m #[(.int p0), (.long q1), (.long q2), (.long q3), (.int p4)] maxLocals)) t := by
    by_cases c13 : (v0_6 p0 q1 q2 q3 p4) = (0 : Int32)
    · skip
      refine ⟨s₁, _, X0, e0, N0, fun t k => ?_⟩
      rw [show (v0_8 p0 q1 q2 q3 p4) = (1 : Int64) from (if_pos c13)] at k
      refine pre12 t ?_
      show Steps p.tables e below (s₁.setTop (mkF m 65 #[.val (.int p0), .val (.long q1), .second, .val (.long q2), .second, .val (.long q3), .second, .val (.int p4), .val (.int (v0_1 p0 q1 q2 q3 p4)), .val (.long (v0_3 p0 q1 q2 q3 p4)), .second, .val (.int (v0_5 p0 q1 q2 q3 p4)), .val (.int (v0_6 p0 q1 q2 q3 p4)), .unset, .unset, .unset, .unset, .unset, .unset] [(.int (v0_6 p0 q1 q2 q3 p4))])) _
      refine XS.ifYes X0.here hx rfl (pc0 := 65) (pc' := 82) rfl (hb hby at_65) rfl (XT.i0_eq_t c13) (by decide) (by decide) ?_
      show Steps p.tables e below (s₁.setTop (mkF m 82 #[.val (.int p0), .val (.long q1), .second, .val (.long q2), .second, .val (.long q3), .second, .val (.int p4), .val (.int (v0_1 p0 q1 q2 q3 p4)), .val (.long (v0_3 p0 q1 q2 q3 p4)), .second, .val (.int (v0_5 p0 q1 q2 q3 p4)), .val (.int (v0_6 p0 q1 q2 q3 p4)), .unset, .unset, .unset, .unset, .unset, .unset] [])) _
      refine XT.lconstV X0.here hx rfl (1 : Int64) (hb hby at_82) (by decide) ?_
      exact k
    · skip
      obtain ⟨_, _, ⟨T14, L14, k14, n14⟩, -, X14, ⟨Lc14, hQ14, l14, y14, z14⟩, st14⟩ := Jvm.LawKit.callS X0 hx (y := (⟨"java/lang/Math", "min", "(JJ)J"⟩ : MethodName)) hown (mvT hZ (hw _ (List.mem_of_getElem? (i := 1) rfl))) (mvT hZ (hw _ (List.mem_of_getElem? (i := 2) rfl))) (mvT hZ (hw _ (List.mem_of_getElem? (i := 3) rfl))) (mvT hZ (hw _ (List.mem_of_getElem? (i := 4) rfl))) (by decide) (backOf (W := 0) (rm1 l Z a0 hw [] (v0_7 p0 q1 q2 q3 p4) (2147483647 : Int64) h0 n0 Z0) hZ (hw _ (List.mem_of_getElem? (i := 4) rfl)) (hw _ (List.mem_of_getElem? (i := 3) rfl)) (by decide) (by decide)) (g := (mkF m 76 #[.val (.int p0), .val (.long q1), .second, .val (.long q2), .second, .val (.long q3), .second, .val (.int p4), .val (.int (v0_1 p0 q1 q2 q3 p4)), .val (.long (v0_3 p0 q1 q2 q3 p4)), .second, .val (.int (v0_5 p0 q1 q2 q3 p4)), .val (.int (v0_6 p0 q1 q2 q3 p4)), .unset, .unset, .unset, .unset, .unset, .unset] [(.long (2147483647 : Int64)), (.long (v0_7 p0 q1 q2 q3 p4))])) rfl (by rw [hml]; rfl) (argsL := [(.long (v0_7 p0 q1 q2 q3 p4)), (.long (2147483647 : Int64))]) (rest := []) (lenOf pd__JJ_J rfl) rfl (by show 2 * 0 + _ ≤ _; exact Nat.le_of_eq rfl) (hb hby at_76) (fun _ _ => ⟨rfl, e0, (by decide : 0 + 0 ≤ _), (by decide : 0 + 0 ≤ _)⟩)
      dsimp only [Pt.U, Pt.locs, Pt.cells, Pt.slots] at X14 l14 y14 z14 st14 hQ14
      subst l14 y14 z14
      obtain ⟨N14q, rfl, e14⟩ := hQ14
      have N14 := Fr.app N0 N14q
      refine ⟨T14, _, X14, e14, N14, fun t k => ?_⟩
      rw [show (v0_8 p0 q1 q2 q3 p4) = (f1 (v0_7 p0 q1 q2 q3 p4) (2147483647 : Int64)) from (if_neg c13)] at k
      refine pre12 t ?_
      show Steps p.tables e below (s₁.setTop (mkF m 65 #[.val (.int p0), .val (.long q1), .second, .val (.long q2), .second, .val (.long q3), .second, .val (.int p4), .val (.int (v0_1 p0 q1 q2 q3 p4)), .val (.long (v0_3 p0 q1 q2 q3 p4)), .second, .val (.int (v0_5 p0 q1 q2 q3 p4)), .val (.int (v0_6 p0 q1 q2 q3 p4)), .unset, .unset, .unset, .unset, .unset, .unset] [(.int (v0_6 p0 q1 q2 q3 p4))])) _
      refine XS.ifNo X0.here hx rfl (hb hby at_65) rfl (XT.i0_eq_f c13) ?_
      show Steps p.tables e below (s₁.setTop (mkF m 68 #[.val (.int p0), .val (.long q1), .second, .val (.long q2), .second, .val (.long q3), .second, .val (.int p4), .val (.int (v0_1 p0 q1 q2 q3 p4)), .val (.long (v0_3 p0 q1 q2 q3 p4)), .second, .val (.int (v0_5 p0 q1 q2 q3 p4)), .val (.int (v0_6 p0 q1 q2 q3 p4)), .unset, .unset, .unset, .unset, .unset, .unset] [])) _
      refine XS.iload X0.here hx rfl (hb hby at_68) rfl ?_
      show Steps p.tables e below (s₁.setTop (mkF m 70 #[.val (.int p0), .val (.long q1), .second, .val (.long q2), .second, .val (.long q3), .second, .val (.int p4), .val (.int (v0_1 p0 q1 q2 q3 p4)), .val (.long (v0_3 p0 q1 q2 q3 p4)), .second, .val (.int (v0_5 p0 q1 q2 q3 p4)), .val (.int (v0_6 p0 q1 q2 q3 p4)), .unset, .unset, .unset, .unset, .unset, .unset] [(.int (v0_5 p0 q1 q2 q3 p4))])) _
      refine XT.i2l X0.here hx rfl (hb hby at_70) rfl ?_
      show Steps p.tables e below (s₁.setTop (mkF m 71 #[.val (.int p0), .val (.long q1), .second, .val (.long q2), .second, .val (.long q3), .second, .val (.int p4), .val (.int (v0_1 p0 q1 q2 q3 p4)), .val (.long (v0_3 p0 q1 q2 q3 p4)), .second, .val (.int (v0_5 p0 q1 q2 q3 p4)), .val (.int (v0_6 p0 q1 q2 q3 p4)), .unset, .unset, .unset, .unset, .unset, .unset] [(.long ((v0_5 p0 q1 q2 q3 p4).toInt64))])) _
      refine XT.lconstV X0.here hx rfl (1 : Int64) (hb hby at_71) (by decide) ?_
      show Steps p.tables e below (s₁.setTop (mkF m 72 #[.val (.int p0), .val (.long q1), .second, .val (.long q2), .second, .val (.long q3), .second, .val (.int p4), .val (.int (v0_1 p0 q1 q2 q3 p4)), .val (.long (v0_3 p0 q1 q2 q3 p4)), .second, .val (.int (v0_5 p0 q1 q2 q3 p4)), .val (.int (v0_6 p0 q1 q2 q3 p4)), .unset, .unset, .unset, .unset, .unset, .unset] [(.long (1 : Int64)), (.long ((v0_5 p0 q1 q2 q3 p4).toInt64))])) _
      refine XT.ladd X0.here hx rfl (hb hby at_72) rfl ?_
      show Steps p.tables e below (s₁.setTop (mkF m 73 #[.val (.int p0), .val (.long q1), .second, .val (.long q2), .second, .val (.long q3), .second, .val (.int p4), .val (.int (v0_1 p0 q1 q2 q3 p4)), .val (.long (v0_3 p0 q1 q2 q3 p4)), .second, .val (.int (v0_5 p0 q1 q2 q3 p4)), .val (.int (v0_6 p0 q1 q2 q3 p4)), .unset, .unset, .unset, .unset, .unset, .unset] [(.long (((v0_5 p0 q1 q2 q3 p4).toInt64) + (1 : Int64)))])) _
      refine X0.ldc2J hx hown (mvT hZ (hw _ (List.mem_of_getElem? (i := 0) rfl))) rfl (hb hby at_73) ?_
      show Steps p.tables e below (s₁.setTop (mkF m 76 #[.val (.int p0), .val (.long q1), .second, .val (.long q2), .second, .val (.long q3), .second, .val (.int p4), .val (.int (v0_1 p0 q1 q2 q3 p4)), .val (.long (v0_3 p0 q1 q2 q3 p4)), .second, .val (.int (v0_5 p0 q1 q2 q3 p4)), .val (.int (v0_6 p0 q1 q2 q3 p4)), .unset, .unset, .unset, .unset, .unset, .unset] [(.long (2147483647 : Int64)), (.long (((v0_5 p0 q1 q2 q3 p4).toInt64) + (1 : Int64)))])) _
      refine st14 _ ?_
      show Steps p.tables e below (T14.setTop (mkF m 79 #[.val (.int p0), .val (.long q1), .second, .val (.long q2), .second, .val (.long q3), .second, .val (.int p4), .val (.int (v0_1 p0 q1 q2 q3 p4)), .val (.long (v0_3 p0 q1 q2 q3 p4)), .second, .val (.int (v0_5 p0 q1 q2 q3 p4)), .val (.int (v0_6 p0 q1 q2 q3 p4)), .unset, .unset, .unset, .unset, .unset, .unset] [(.long (f1 (v0_7 p0 q1 q2 q3 p4) (2147483647 : Int64)))])) _
      refine XS.goto X14.here hx rfl (pc0 := 79) (pc' := 83) rfl (hb hby at_79) (by decide) (by decide) ?_
      exact k
  have pre16 : ∀ t, Steps p.tables e below (T15.setTop (mkF m 87 #[.val (.int p0), .val (.long q1), .second, .val (.long q2), .second, .val (.long q3), .second, .val (.int p4), .val (.int (v0_1 p0 q1 q2 q3 p4)), .val (.long (v0_3 p0 q1 q2 q3 p4)), .second, .val (.int (v0_5 p0 q1 q2 q3 p4)), .val (.int (v0_6 p0 q1 q2 q3 p4)), .val (.long (v0_8 p0 q1 q2 q3 p4)), .second, .unset, .unset, .unset, .unset] [(.int (v0_6 p0 q1 q2 q3 p4))])) t → Steps p.tables e below (s₁.setTop (entryFrame m #[(.int p0), (.long q1), (.long q2), (.long q3), (.int p4)] maxLocals)) t := by
    intro t k
    refine pre15 t ?_
    show Steps p.tables e below (T15.setTop (mkF m 83 #[.val (.int p0), .val (.long q1), .second, .val (.long q2), .second, .val (.long q3), .second, .val (.int p4), .val (.int (v0_1 p0 q1 q2 q3 p4)), .val (.long (v0_3 p0 q1 q2 q3 p4)), .second, .val (.int (v0_5 p0 q1 q2 q3 p4)), .val (.int (v0_6 p0 q1 q2 q3 p4)), .unset, .unset, .unset, .unset, .unset, .unset] [(.long (v0_8 p0 q1 q2 q3 p4))])) _
    refine XT.lstore X15.here hx rfl (hb hby at_83) rfl (l' := #[.val (.int p0), .val (.long q1), .second, .val (.long q2), .second, .val (.long q3), .second, .val (.int p4), .val (.int (v0_1 p0 q1 q2 q3 p4)), .val (.long (v0_3 p0 q1 q2 q3 p4)), .second, .val (.int (v0_5 p0 q1 q2 q3 p4)), .val (.int (v0_6 p0 q1 q2 q3 p4)), .val (.long (v0_8 p0 q1 q2 q3 p4)), .second, .unset, .unset, .unset, .unset]) rfl ?_
    show Steps p.tables e below (T15.setTop (mkF m 85 #[.val (.int p0), .val (.long q1), .second, .val (.long q2), .second, .val (.long q3), .second, .val (.int p4), .val (.int (v0_1 p0 q1 q2 q3 p4)), .val (.long (v0_3 p0 q1 q2 q3 p4)), .second, .val (.int (v0_5 p0 q1 q2 q3 p4)), .val (.int (v0_6 p0 q1 q2 q3 p4)), .val (.long (v0_8 p0 q1 q2 q3 p4)), .second, .unset, .unset, .unset, .unset] [])) _
    refine XS.iload X15.here hx rfl (hb hby at_85) rfl ?_
    exact k
  have pre18 : ∀ t, Steps p.tables e below (T15.setTop (mkF m 99 #[.val (.int p0), .val (.long q1), .second, .val (.long q2), .second, .val (.long q3), .second, .val (.int p4), .val (.int (v0_1 p0 q1 q2 q3 p4)), .val (.long (v0_3 p0 q1 q2 q3 p4)), .second, .val (.int (v0_5 p0 q1 q2 q3 p4)), .val (.int (v0_6 p0 q1 q2 q3 p4)), .val (.long (v0_8 p0 q1 q2 q3 p4)), .second, .unset, .unset, .unset, .unset] [(.long (v0_9 p0 q1 q2 q3 p4))])) t → Steps p.tables e below (s₁.setTop (entryFrame m #[(.int p0), (.long q1), (.long q2), (.long q3), (.int p4)] maxLocals)) t := by
    intro t k
    by_cases c17 : (v0_6 p0 q1 q2 q3 p4) = (0 : Int32)
    · skip
      rw [show (v0_9 p0 q1 q2 q3 p4) = ((v0_3 p0 q1 q2 q3 p4) + q3) from (if_pos c17)] at k
      refine pre16 t ?_
      show Steps p.tables e below (T15.setTop (mkF m 87 #[.val (.int p0), .val (.long q1), .second, .val (.long q2), .second, .val (.long q3), .second, .val (.int p4), .val (.int (v0_1 p0 q1 q2 q3 p4)), .val (.long (v0_3 p0 q1 q2 q3 p4)), .second, .val (.int (v0_5 p0 q1 q2 q3 p4)), .val (.int (v0_6 p0 q1 q2 q3 p4)), .val (.long (v0_8 p0 q1 q2 q3 p4)), .second, .unset, .unset, .unset, .unset] [(.int (v0_6 p0 q1 q2 q3 p4))])) _
      refine XS.ifYes X15.here hx rfl (pc0 := 87) (pc' := 94) rfl (hb hby at_87) rfl (XT.i0_eq_t c17) (by decide) (by decide) ?_
      show Steps p.tables e below (T15.setTop (mkF m 94 #[.val (.int p0), .val (.long q1), .second, .val (.long q2), .second, .val (.long q3), .second, .val (.int p4), .val (.int (v0_1 p0 q1 q2 q3 p4)), .val (.long (v0_3 p0 q1 q2 q3 p4)), .second, .val (.int (v0_5 p0 q1 q2 q3 p4)), .val (.int (v0_6 p0 q1 q2 q3 p4)), .val (.long (v0_8 p0 q1 q2 q3 p4)), .second, .unset, .unset, .unset, .unset] [])) _
      refine XT.lload X15.here hx rfl (hb hby at_94) rfl ?_
      show Steps p.tables e below (T15.setTop (mkF m 96 #[.val (.int p0), .val (.long q1), .second, .val (.long q2), .second, .val (.long q3), .second, .val (.int p4), .val (.int (v0_1 p0 q1 q2 q3 p4)), .val (.long (v0_3 p0 q1 q2 q3 p4)), .second, .val (.int (v0_5 p0 q1 q2 q3 p4)), .val (.int (v0_6 p0 q1 q2 q3 p4)), .val (.long (v0_8 p0 q1 q2 q3 p4)), .second, .unset, .unset, .unset, .unset] [(.long (v0_3 p0 q1 q2 q3 p4))])) _
      refine XT.lload X15.here hx rfl (hb hby at_96) rfl ?_
      show Steps p.tables e below (T15.setTop (mkF m 98 #[.val (.int p0), .val (.long q1), .second, .val (.long q2), .second, .val (.long q3), .second, .val (.int p4), .val (.int (v0_1 p0 q1 q2 q3 p4)), .val (.long (v0_3 p0 q1 q2 q3 p4)), .second, .val (.int (v0_5 p0 q1 q2 q3 p4)), .val (.int (v0_6 p0 q1 q2 q3 p4)), .val (.long (v0_8 p0 q1 q2 q3 p4)), .second, .unset, .unset, .unset, .unset] [(.long q3), (.long (v0_3 p0 q1 q2 q3 p4))])) _
      refine XT.ladd X15.here hx rfl (hb hby at_98) rfl ?_
      exact k
    · skip
      rw [show (v0_9 p0 q1 q2 q3 p4) = q1 from (if_neg c17)] at k
      refine pre16 t ?_
      show Steps p.tables e below (T15.setTop (mkF m 87 #[.val (.int p0), .val (.long q1), .second, .val (.long q2), .second, .val (.long q3), .second, .val (.int p4), .val (.int (v0_1 p0 q1 q2 q3 p4)), .val (.long (v0_3 p0 q1 q2 q3 p4)), .second, .val (.int (v0_5 p0 q1 q2 q3 p4)), .val (.int (v0_6 p0 q1 q2 q3 p4)), .val (.long (v0_8 p0 q1 q2 q3 p4)), .second, .unset, .unset, .unset, .unset] [(.int (v0_6 p0 q1 q2 q3 p4))])) _
      refine XS.ifNo X15.here hx rfl (hb hby at_87) rfl (XT.i0_eq_f c17) ?_
      show Steps p.tables e below (T15.setTop (mkF m 90 #[.val (.int p0), .val (.long q1), .second, .val (.long q2), .second, .val (.long q3), .second, .val (.int p4), .val (.int (v0_1 p0 q1 q2 q3 p4)), .val (.long (v0_3 p0 q1 q2 q3 p4)), .second, .val (.int (v0_5 p0 q1 q2 q3 p4)), .val (.int (v0_6 p0 q1 q2 q3 p4)), .val (.long (v0_8 p0 q1 q2 q3 p4)), .second, .unset, .unset, .unset, .unset] [])) _
      refine XT.lloadN X15.here hx rfl (hb hby at_90) rfl ?_
      show Steps p.tables e below (T15.setTop (mkF m 91 #[.val (.int p0), .val (.long q1), .second, .val (.long q2), .second, .val (.long q3), .second, .val (.int p4), .val (.int (v0_1 p0 q1 q2 q3 p4)), .val (.long (v0_3 p0 q1 q2 q3 p4)), .second, .val (.int (v0_5 p0 q1 q2 q3 p4)), .val (.int (v0_6 p0 q1 q2 q3 p4)), .val (.long (v0_8 p0 q1 q2 q3 p4)), .second, .unset, .unset, .unset, .unset] [(.long q1)])) _
      refine XS.goto X15.here hx rfl (pc0 := 91) (pc' := 99) rfl (hb hby at_91) (by decide) (by decide) ?_
      exact k
  obtain ⟨T19, h19, X19, e19, E19, A19, D19, -, st19⟩ := newO X15 hx hZ hown (hw _ (List.mem_of_getElem? (i := 5) rfl)) (hw _ (List.mem_of_getElem? (i := 6) rfl)) (hw _ (List.mem_of_getElem? (i := 7) rfl)) e15 (g := (mkF m 101 #[.val (.int p0), .val (.long q1), .second, .val (.long q2), .second, .val (.long q3), .second, .val (.int p4), .val (.int (v0_1 p0 q1 q2 q3 p4)), .val (.long (v0_3 p0 q1 q2 q3 p4)), .second, .val (.int (v0_5 p0 q1 q2 q3 p4)), .val (.int (v0_6 p0 q1 q2 q3 p4)), .val (.long (v0_8 p0 q1 q2 q3 p4)), .second, .val (.long (v0_9 p0 q1 q2 q3 p4)), .second, .unset, .unset] [])) rfl (hb hby at_101) (by decide) (by decide)
  obtain ⟨b19, gz19⟩ : ∃ z, z = h0.size := ⟨_, rfl⟩
  rw [← gz19] at A19 D19 st19
  have g20 : n0 ≤ b19 := Nat.le_trans Z0 (Nat.le_of_eq gz19.symm)
  have sz21 : h0.size ≤ b19 := Nat.le_trans (Nat.le_refl h0.size) (Nat.le_of_eq gz19.symm)
  have z22 : n0 ≤ h19.size := Nat.le_trans Z0 E19.1
  have hs23 : h0.size ≤ h19.size := Nat.le_trans (Nat.le_refl h0.size) E19.1
  have F19_count : Fld Z h19 b19 "com/example/tollgate/tollgate/store/Failures" "count" "I" (.int (0 : Int32)) := D19 (Or.inr (hw _ (List.mem_of_getElem? (i := 20) rfl))) (ty := .int) (by decide)
  have F19_untilMillis : Fld Z h19 b19 "com/example/tollgate/tollgate/store/Failures" "untilMillis" "J" (.long (0 : Int64)) := D19 (Or.inr (hw _ (List.mem_of_getElem? (i := 22) rfl))) (ty := .long) (by decide)
  obtain ⟨_, _, ⟨T24, L24, k24, n24⟩, -, X24, ⟨Lc24, hQ24, l24, y24, z24⟩, st24⟩ := X19.specialBack hx (y := (⟨"com/example/tollgate/tollgate/store/Failures", "<init>", "(IJ)V"⟩ : MethodName)) rfl hown (mvT hZ (hw _ (List.mem_of_getElem? (i := 8) rfl))) (mvT hZ (hw _ (List.mem_of_getElem? (i := 9) rfl))) (mvT hZ (hw _ (List.mem_of_getElem? (i := 10) rfl))) (by decide) (backOf (W := 1) (rm2 l Z a0 hw [] b19 (v0_5 p0 q1 q2 q3 p4) q1 (.int (0 : Int32)) (.long (0 : Int64)) h19 n0 z22 A19 F19_count g20 F19_untilMillis) hZ (hw _ (List.mem_of_getElem? (i := 10) rfl)) (hw _ (List.mem_of_getElem? (i := 7) rfl)) (by decide) (by decide)) (g := (mkF m 108 #[.val (.int p0), .val (.long q1), .second, .val (.long q2), .second, .val (.long q3), .second, .val (.int p4), .val (.int (v0_1 p0 q1 q2 q3 p4)), .val (.long (v0_3 p0 q1 q2 q3 p4)), .second, .val (.int (v0_5 p0 q1 q2 q3 p4)), .val (.int (v0_6 p0 q1 q2 q3 p4)), .val (.long (v0_8 p0 q1 q2 q3 p4)), .second, .val (.long (v0_9 p0 q1 q2 q3 p4)), .second, .unset, .unset] [(.long q1), (.int (v0_5 p0 q1 q2 q3 p4)), (.ref b19), (.ref b19)])) rfl (by rw [hml]; rfl) (Steps.refl _) (a := b19) (argsL := [(.int (v0_5 p0 q1 q2 q3 p4)), (.long q1)]) (rest := [(.ref b19)]) (lenOf pd__IJ_V rfl) rfl (by show 2 * 0 + _ ≤ _; exact Nat.le_of_eq rfl) (hb hby at_108) (fun _ _ => ⟨rfl, e19, (by decide : 1 + 0 ≤ _), (by decide : 2 + 0 ≤ _)⟩)
  dsimp only [Pt.U, Pt.locs, Pt.cells, Pt.slots] at X24 l24 y24 z24 st24 hQ24
  subst l24 y24 z24
  obtain ⟨N24q, rfl, K24, po24_0, po24_1, po24_2⟩ := hQ24
  have z25 : n0 ≤ T24.heap.size := Nat.le_trans z22 K24.1
  have hs26 : h0.size ≤ T24.heap.size := Nat.le_trans hs23 K24.1
  have N24 := Fr.app N15 N24q
  obtain ⟨cq27, kq27, q27a, q27b, q27c⟩ := isOf hZ rfl po24_0
  obtain ⟨_, _, ⟨T27, L27, k27, n27⟩, -, X27, ⟨Lc27, hQ27, l27, y27, z27⟩, st27⟩ := X24.virtualBack hx (y := (⟨"com/example/tollgate/tollgate/store/Failures", "plusOne", "(JJ)Lcom/example/tollgate/tollgate/store/Failures;"⟩ : MethodName)) (z := (⟨"com/example/tollgate/tollgate/store/Failures", "plusOne", "(JJ)Lcom/example/tollgate/tollgate/store/Failures;"⟩ : MethodName)) hown (mvT hZ (hw _ (List.mem_of_getElem? (i := 23) rfl))) (mvT hZ (hw _ (List.mem_of_getElem? (i := 24) rfl))) (notFace_of_selects (args := #[]) (mvT hZ (hw _ (List.mem_of_getElem? (i := 26) rfl)))) (mvT hZ (hw _ (List.mem_of_getElem? (i := 26) rfl))) (mvT hZ (hw _ (List.mem_of_getElem? (i := 25) rfl))) (by decide) (backOf (W := 0) (rm5 l Z a0 hw [] b19 (v0_3 p0 q1 q2 q3 p4) q3 q1 (v0_5 p0 q1 q2 q3 p4) T24.heap n0 z25 po24_2 po24_1) hZ (hw _ (List.mem_of_getElem? (i := 27) rfl)) (hw _ (List.mem_of_getElem? (i := 7) rfl)) (by decide) (by decide)) q27a q27c (g := (mkF m 119 #[.val (.int p0), .val (.long q1), .second, .val (.long q2), .second, .val (.long q3), .second, .val (.int p4), .val (.int (v0_1 p0 q1 q2 q3 p4)), .val (.long (v0_3 p0 q1 q2 q3 p4)), .second, .val (.int (v0_5 p0 q1 q2 q3 p4)), .val (.int (v0_6 p0 q1 q2 q3 p4)), .val (.long (v0_8 p0 q1 q2 q3 p4)), .second, .val (.long (v0_9 p0 q1 q2 q3 p4)), .second, .val (.ref b19), .unset] [(.long q3), (.long (v0_3 p0 q1 q2 q3 p4)), (.ref b19)])) rfl (by rw [hml]; rfl) (Steps.refl _) (argsL := [(.long (v0_3 p0 q1 q2 q3 p4)), (.long q3)]) (rest := []) (lenOf pd__JJ_Lcom_example_tollgate_tollgate_store_Failures_ rfl) rfl (by show 2 * 0 + _ ≤ _; exact Nat.le_of_eq rfl) (hb hby at_119) (fun _ _ => ⟨rfl, rfl, (by decide : 1 + 1 ≤ _), (by decide : 2 + 2 ≤ _)⟩)
  dsimp only [Pt.U, Pt.locs, Pt.cells, Pt.slots] at X27 l27 y27 z27 st27 hQ27
  subst l27 y27 z27
  obtain ⟨N27q, x5_0_27, rfl, szx5_0_27, K27, po27_0, po27_1, po27_2⟩ := hQ27
  have ne28 : b19 ≠ x5_0_27 := Nat.ne_of_lt (Nat.lt_of_lt_of_le po24_0.lt szx5_0_27)
  have g29 : n0 ≤ x5_0_27 := Nat.le_trans z25 szx5_0_27
  have sz30 : h0.size ≤ x5_0_27 := Nat.le_trans hs26 szx5_0_27
  have z31 : n0 ≤ T27.heap.size := Nat.le_trans z25 K27.1
  have hs32 : h0.size ≤ T27.heap.size := Nat.le_trans hs26 K27.1
  have N27 := Fr.app N24 N27q
  obtain ⟨cq33, kq33, q33a, q33b, q33c⟩ := isOf hZ rfl po27_0
  obtain ⟨_, _, ⟨T33, L33, k33, n33⟩, -, X33, ⟨Lc33, hQ33, l33, y33, z33⟩, st33⟩ := X27.virtualBack hx (y := (⟨"com/example/tollgate/tollgate/store/Failures", "count", "()I"⟩ : MethodName)) (z := (⟨"com/example/tollgate/tollgate/store/Failures", "count", "()I"⟩ : MethodName)) hown (mvT hZ (hw _ (List.mem_of_getElem? (i := 31) rfl))) (mvT hZ (hw _ (List.mem_of_getElem? (i := 32) rfl))) (notFace_of_selects (args := #[]) (mvT hZ (hw _ (List.mem_of_getElem? (i := 34) rfl)))) (mvT hZ (hw _ (List.mem_of_getElem? (i := 34) rfl))) (mvT hZ (hw _ (List.mem_of_getElem? (i := 33) rfl))) (by decide) (backOf (W := 0) (rm6 l Z a0 hw [] x5_0_27 (r5_1 (v0_3 p0 q1 q2 q3 p4) q3 q1 (v0_5 p0 q1 q2 q3 p4)) T27.heap n0 z31 po27_1) hZ (hw _ (List.mem_of_getElem? (i := 35) rfl)) (hw _ (List.mem_of_getElem? (i := 7) rfl)) (by decide) (by decide)) q33a q33c (g := (mkF m 126 #[.val (.int p0), .val (.long q1), .second, .val (.long q2), .second, .val (.long q3), .second, .val (.int p4), .val (.int (v0_1 p0 q1 q2 q3 p4)), .val (.long (v0_3 p0 q1 q2 q3 p4)), .second, .val (.int (v0_5 p0 q1 q2 q3 p4)), .val (.int (v0_6 p0 q1 q2 q3 p4)), .val (.long (v0_8 p0 q1 q2 q3 p4)), .second, .val (.long (v0_9 p0 q1 q2 q3 p4)), .second, .val (.ref b19), .val (.ref x5_0_27)] [(.ref x5_0_27)])) rfl (by rw [hml]; rfl) (Steps.refl _) (argsL := []) (rest := []) (lenOf pd___I rfl) rfl (by show 2 * 0 + _ ≤ _; exact Nat.le_of_eq rfl) (hb hby at_126) (fun _ _ => ⟨rfl, rfl, (by decide : 2 + 0 ≤ _), (by decide : 4 + 0 ≤ _)⟩)
  dsimp only [Pt.U, Pt.locs, Pt.cells, Pt.slots] at X33 l33 y33 z33 st33 hQ33
  subst l33 y33 z33
  obtain ⟨N33q, rfl, e33⟩ := hQ33
  have N33 := Fr.app N27 N33q
  obtain ⟨cq34, kq34, q34a, q34b, q34c⟩ := isOf hZ e33 po27_0
  obtain ⟨_, _, ⟨T34, L34, k34, n34⟩, -, X34, ⟨Lc34, hQ34, l34, y34, z34⟩, st34⟩ := X33.virtualBack hx (y := (⟨"com/example/tollgate/tollgate/store/Failures", "untilMillis", "()J"⟩ : MethodName)) (z := (⟨"com/example/tollgate/tollgate/store/Failures", "untilMillis", "()J"⟩ : MethodName)) hown (mvT hZ (hw _ (List.mem_of_getElem? (i := 36) rfl))) (mvT hZ (hw _ (List.mem_of_getElem? (i := 37) rfl))) (notFace_of_selects (args := #[]) (mvT hZ (hw _ (List.mem_of_getElem? (i := 39) rfl)))) (mvT hZ (hw _ (List.mem_of_getElem? (i := 39) rfl))) (mvT hZ (hw _ (List.mem_of_getElem? (i := 38) rfl))) (by decide) (backOf (W := 0) (rm7 l Z a0 hw [] x5_0_27 (r5_2 (v0_3 p0 q1 q2 q3 p4) q3 q1 (v0_5 p0 q1 q2 q3 p4)) T27.heap n0 z31 po27_2) hZ (hw _ (List.mem_of_getElem? (i := 40) rfl)) (hw _ (List.mem_of_getElem? (i := 7) rfl)) (by decide) (by decide)) q34a q34c (g := (mkF m 140 #[.val (.int p0), .val (.long q1), .second, .val (.long q2), .second, .val (.long q3), .second, .val (.int p4), .val (.int (v0_1 p0 q1 q2 q3 p4)), .val (.long (v0_3 p0 q1 q2 q3 p4)), .second, .val (.int (v0_5 p0 q1 q2 q3 p4)), .val (.int (v0_6 p0 q1 q2 q3 p4)), .val (.long (v0_8 p0 q1 q2 q3 p4)), .second, .val (.long (v0_9 p0 q1 q2 q3 p4)), .second, .val (.ref b19), .val (.ref x5_0_27)] [(.ref x5_0_27)])) rfl (by rw [hml]; rfl) (Steps.refl _) (argsL := []) (rest := []) (lenOf pd___J rfl) rfl (by show 2 * 0 + _ ≤ _; exact Nat.le_of_eq rfl) (hb hby at_140) (fun _ _ => ⟨rfl, e33, (by decide : 2 + 0 ≤ _), (by decide : 4 + 0 ≤ _)⟩)
  dsimp only [Pt.U, Pt.locs, Pt.cells, Pt.slots] at X34 l34 y34 z34 st34 hQ34
  subst l34 y34 z34
  obtain ⟨N34q, rfl, e34⟩ := hQ34
  have N34 := Fr.app N33 N34q
  have pre35 : ∀ t, Steps p.tables e below (T34.setTop (mkF m 153 #[.val (.int p0), .val (.long q1), .second, .val (.long q2), .second, .val (.long q3), .second, .val (.int p4), .val (.int (v0_1 p0 q1 q2 q3 p4)), .val (.long (v0_3 p0 q1 q2 q3 p4)), .second, .val (.int (v0_5 p0 q1 q2 q3 p4)), .val (.int (v0_6 p0 q1 q2 q3 p4)), .val (.long (v0_8 p0 q1 q2 q3 p4)), .second, .val (.long (v0_9 p0 q1 q2 q3 p4)), .second, .val (.ref b19), .val (.ref x5_0_27)] [(.int (v0_6 p0 q1 q2 q3 p4))])) t → Steps p.tables e below (s₁.setTop (entryFrame m #[(.int p0), (.long q1), (.long q2), (.long q3), (.int p4)] maxLocals)) t := by
    intro t k
    refine pre18 t ?_
    show Steps p.tables e below (T15.setTop (mkF m 99 #[.val (.int p0), .val (.long q1), .second, .val (.long q2), .second, .val (.long q3), .second, .val (.int p4), .val (.int (v0_1 p0 q1 q2 q3 p4)), .val (.long (v0_3 p0 q1 q2 q3 p4)), .second, .val (.int (v0_5 p0 q1 q2 q3 p4)), .val (.int (v0_6 p0 q1 q2 q3 p4)), .val (.long (v0_8 p0 q1 q2 q3 p4)), .second, .unset, .unset, .unset, .unset] [(.long (v0_9 p0 q1 q2 q3 p4))])) _
    refine XT.lstore X15.here hx rfl (hb hby at_99) rfl (l' := #[.val (.int p0), .val (.long q1), .second, .val (.long q2), .second, .val (.long q3), .second, .val (.int p4), .val (.int (v0_1 p0 q1 q2 q3 p4)), .val (.long (v0_3 p0 q1 q2 q3 p4)), .second, .val (.int (v0_5 p0 q1 q2 q3 p4)), .val (.int (v0_6 p0 q1 q2 q3 p4)), .val (.long (v0_8 p0 q1 q2 q3 p4)), .second, .val (.long (v0_9 p0 q1 q2 q3 p4)), .second, .unset, .unset]) rfl ?_
    show Steps p.tables e below (T15.setTop (mkF m 101 #[.val (.int p0), .val (.long q1), .second, .val (.long q2), .second, .val (.long q3), .second, .val (.int p4), .val (.int (v0_1 p0 q1 q2 q3 p4)), .val (.long (v0_3 p0 q1 q2 q3 p4)), .second, .val (.int (v0_5 p0 q1 q2 q3 p4)), .val (.int (v0_6 p0 q1 q2 q3 p4)), .val (.long (v0_8 p0 q1 q2 q3 p4)), .second, .val (.long (v0_9 p0 q1 q2 q3 p4)), .second, .unset, .unset] [])) _
    refine st19 _ ?_
    show Steps p.tables e below (T19.setTop (mkF m 104 #[.val (.int p0), .val (.long q1), .second, .val (.long q2), .second, .val (.long q3), .second, .val (.int p4), .val (.int (v0_1 p0 q1 q2 q3 p4)), .val (.long (v0_3 p0 q1 q2 q3 p4)), .second, .val (.int (v0_5 p0 q1 q2 q3 p4)), .val (.int (v0_6 p0 q1 q2 q3 p4)), .val (.long (v0_8 p0 q1 q2 q3 p4)), .second, .val (.long (v0_9 p0 q1 q2 q3 p4)), .second, .unset, .unset] [(.ref b19)])) _
    refine XS.dup X19.here hx rfl (hb hby at_104) rfl rfl ?_
    show Steps p.tables e below (T19.setTop (mkF m 105 #[.val (.int p0), .val (.long q1), .second, .val (.long q2), .second, .val (.long q3), .second, .val (.int p4), .val (.int (v0_1 p0 q1 q2 q3 p4)), .val (.long (v0_3 p0 q1 q2 q3 p4)), .second, .val (.int (v0_5 p0 q1 q2 q3 p4)), .val (.int (v0_6 p0 q1 q2 q3 p4)), .val (.long (v0_8 p0 q1 q2 q3 p4)), .second, .val (.long (v0_9 p0 q1 q2 q3 p4)), .second, .unset, .unset] [(.ref b19), (.ref b19)])) _
    refine XS.iload X19.here hx rfl (hb hby at_105) rfl ?_
    show Steps p.tables e below (T19.setTop (mkF m 107 #[.val (.int p0), .val (.long q1), .second, .val (.long q2), .second, .val (.long q3), .second, .val (.int p4), .val (.int (v0_1 p0 q1 q2 q3 p4)), .val (.long (v0_3 p0 q1 q2 q3 p4)), .second, .val (.int (v0_5 p0 q1 q2 q3 p4)), .val (.int (v0_6 p0 q1 q2 q3 p4)), .val (.long (v0_8 p0 q1 q2 q3 p4)), .second, .val (.long (v0_9 p0 q1 q2 q3 p4)), .second, .unset, .unset] [(.int (v0_5 p0 q1 q2 q3 p4)), (.ref b19), (.ref b19)])) _
    refine XT.lloadN X19.here hx rfl (hb hby at_107) rfl ?_
    show Steps p.tables e below (T19.setTop (mkF m 108 #[.val (.int p0), .val (.long q1), .second, .val (.long q2), .second, .val (.long q3), .second, .val (.int p4), .val (.int (v0_1 p0 q1 q2 q3 p4)), .val (.long (v0_3 p0 q1 q2 q3 p4)), .second, .val (.int (v0_5 p0 q1 q2 q3 p4)), .val (.int (v0_6 p0 q1 q2 q3 p4)), .val (.long (v0_8 p0 q1 q2 q3 p4)), .second, .val (.long (v0_9 p0 q1 q2 q3 p4)), .second, .unset, .unset] [(.long q1), (.int (v0_5 p0 q1 q2 q3 p4)), (.ref b19), (.ref b19)])) _
    refine st24.trans ?_
    show Steps p.tables e below (T24.setTop (mkF m 111 #[.val (.int p0), .val (.long q1), .second, .val (.long q2), .second, .val (.long q3), .second, .val (.int p4), .val (.int (v0_1 p0 q1 q2 q3 p4)), .val (.long (v0_3 p0 q1 q2 q3 p4)), .second, .val (.int (v0_5 p0 q1 q2 q3 p4)), .val (.int (v0_6 p0 q1 q2 q3 p4)), .val (.long (v0_8 p0 q1 q2 q3 p4)), .second, .val (.long (v0_9 p0 q1 q2 q3 p4)), .second, .unset, .unset] [(.ref b19)])) _
    refine XS.astore X24.here hx rfl (hb hby at_111) rfl rfl (l' := #[.val (.int p0), .val (.long q1), .second, .val (.long q2), .second, .val (.long q3), .second, .val (.int p4), .val (.int (v0_1 p0 q1 q2 q3 p4)), .val (.long (v0_3 p0 q1 q2 q3 p4)), .second, .val (.int (v0_5 p0 q1 q2 q3 p4)), .val (.int (v0_6 p0 q1 q2 q3 p4)), .val (.long (v0_8 p0 q1 q2 q3 p4)), .second, .val (.long (v0_9 p0 q1 q2 q3 p4)), .second, .val (.ref b19), .unset]) rfl ?_
    show Steps p.tables e below (T24.setTop (mkF m 113 #[.val (.int p0), .val (.long q1), .second, .val (.long q2), .second, .val (.long q3), .second, .val (.int p4), .val (.int (v0_1 p0 q1 q2 q3 p4)), .val (.long (v0_3 p0 q1 q2 q3 p4)), .second, .val (.int (v0_5 p0 q1 q2 q3 p4)), .val (.int (v0_6 p0 q1 q2 q3 p4)), .val (.long (v0_8 p0 q1 q2 q3 p4)), .second, .val (.long (v0_9 p0 q1 q2 q3 p4)), .second, .val (.ref b19), .unset] [])) _
    refine XS.aload X24.here hx rfl (hb hby at_113) rfl rfl ?_
    show Steps p.tables e below (T24.setTop (mkF m 115 #[.val (.int p0), .val (.long q1), .second, .val (.long q2), .second, .val (.long q3), .second, .val (.int p4), .val (.int (v0_1 p0 q1 q2 q3 p4)), .val (.long (v0_3 p0 q1 q2 q3 p4)), .second, .val (.int (v0_5 p0 q1 q2 q3 p4)), .val (.int (v0_6 p0 q1 q2 q3 p4)), .val (.long (v0_8 p0 q1 q2 q3 p4)), .second, .val (.long (v0_9 p0 q1 q2 q3 p4)), .second, .val (.ref b19), .unset] [(.ref b19)])) _
    refine XT.lload X24.here hx rfl (hb hby at_115) rfl ?_
    show Steps p.tables e below (T24.setTop (mkF m 117 #[.val (.int p0), .val (.long q1), .second, .val (.long q2), .second, .val (.long q3), .second, .val (.int p4), .val (.int (v0_1 p0 q1 q2 q3 p4)), .val (.long (v0_3 p0 q1 q2 q3 p4)), .second, .val (.int (v0_5 p0 q1 q2 q3 p4)), .val (.int (v0_6 p0 q1 q2 q3 p4)), .val (.long (v0_8 p0 q1 q2 q3 p4)), .second, .val (.long (v0_9 p0 q1 q2 q3 p4)), .second, .val (.ref b19), .unset] [(.long (v0_3 p0 q1 q2 q3 p4)), (.ref b19)])) _
    refine XT.lload X24.here hx rfl (hb hby at_117) rfl ?_
    show Steps p.tables e below (T24.setTop (mkF m 119 #[.val (.int p0), .val (.long q1), .second, .val (.long q2), .second, .val (.long q3), .second, .val (.int p4), .val (.int (v0_1 p0 q1 q2 q3 p4)), .val (.long (v0_3 p0 q1 q2 q3 p4)), .second, .val (.int (v0_5 p0 q1 q2 q3 p4)), .val (.int (v0_6 p0 q1 q2 q3 p4)), .val (.long (v0_8 p0 q1 q2 q3 p4)), .second, .val (.long (v0_9 p0 q1 q2 q3 p4)), .second, .val (.ref b19), .unset] [(.long q3), (.long (v0_3 p0 q1 q2 q3 p4)), (.ref b19)])) _
    refine st27.trans ?_
    show Steps p.tables e below (T27.setTop (mkF m 122 #[.val (.int p0), .val (.long q1), .second, .val (.long q2), .second, .val (.long q3), .second, .val (.int p4), .val (.int (v0_1 p0 q1 q2 q3 p4)), .val (.long (v0_3 p0 q1 q2 q3 p4)), .second, .val (.int (v0_5 p0 q1 q2 q3 p4)), .val (.int (v0_6 p0 q1 q2 q3 p4)), .val (.long (v0_8 p0 q1 q2 q3 p4)), .second, .val (.long (v0_9 p0 q1 q2 q3 p4)), .second, .val (.ref b19), .unset] [(.ref x5_0_27)])) _
    refine XS.astore X27.here hx rfl (hb hby at_122) rfl rfl (l' := #[.val (.int p0), .val (.long q1), .second, .val (.long q2), .second, .val (.long q3), .second, .val (.int p4), .val (.int (v0_1 p0 q1 q2 q3 p4)), .val (.long (v0_3 p0 q1 q2 q3 p4)), .second, .val (.int (v0_5 p0 q1 q2 q3 p4)), .val (.int (v0_6 p0 q1 q2 q3 p4)), .val (.long (v0_8 p0 q1 q2 q3 p4)), .second, .val (.long (v0_9 p0 q1 q2 q3 p4)), .second, .val (.ref b19), .val (.ref x5_0_27)]) rfl ?_
    show Steps p.tables e below (T27.setTop (mkF m 124 #[.val (.int p0), .val (.long q1), .second, .val (.long q2), .second, .val (.long q3), .second, .val (.int p4), .val (.int (v0_1 p0 q1 q2 q3 p4)), .val (.long (v0_3 p0 q1 q2 q3 p4)), .second, .val (.int (v0_5 p0 q1 q2 q3 p4)), .val (.int (v0_6 p0 q1 q2 q3 p4)), .val (.long (v0_8 p0 q1 q2 q3 p4)), .second, .val (.long (v0_9 p0 q1 q2 q3 p4)), .second, .val (.ref b19), .val (.ref x5_0_27)] [])) _
    refine XS.aload X27.here hx rfl (hb hby at_124) rfl rfl ?_
    show Steps p.tables e below (T27.setTop (mkF m 126 #[.val (.int p0), .val (.long q1), .second, .val (.long q2), .second, .val (.long q3), .second, .val (.int p4), .val (.int (v0_1 p0 q1 q2 q3 p4)), .val (.long (v0_3 p0 q1 q2 q3 p4)), .second, .val (.int (v0_5 p0 q1 q2 q3 p4)), .val (.int (v0_6 p0 q1 q2 q3 p4)), .val (.long (v0_8 p0 q1 q2 q3 p4)), .second, .val (.long (v0_9 p0 q1 q2 q3 p4)), .second, .val (.ref b19), .val (.ref x5_0_27)] [(.ref x5_0_27)])) _
    refine st33.trans ?_
    show Steps p.tables e below (T33.setTop (mkF m 129 #[.val (.int p0), .val (.long q1), .second, .val (.long q2), .second, .val (.long q3), .second, .val (.int p4), .val (.int (v0_1 p0 q1 q2 q3 p4)), .val (.long (v0_3 p0 q1 q2 q3 p4)), .second, .val (.int (v0_5 p0 q1 q2 q3 p4)), .val (.int (v0_6 p0 q1 q2 q3 p4)), .val (.long (v0_8 p0 q1 q2 q3 p4)), .second, .val (.long (v0_9 p0 q1 q2 q3 p4)), .second, .val (.ref b19), .val (.ref x5_0_27)] [(.int (f6 (r5_1 (v0_3 p0 q1 q2 q3 p4) q3 q1 (v0_5 p0 q1 q2 q3 p4))))])) _
    refine XT.i2l X33.here hx rfl (hb hby at_129) rfl ?_
    show Steps p.tables e below (T33.setTop (mkF m 130 #[.val (.int p0), .val (.long q1), .second, .val (.long q2), .second, .val (.long q3), .second, .val (.int p4), .val (.int (v0_1 p0 q1 q2 q3 p4)), .val (.long (v0_3 p0 q1 q2 q3 p4)), .second, .val (.int (v0_5 p0 q1 q2 q3 p4)), .val (.int (v0_6 p0 q1 q2 q3 p4)), .val (.long (v0_8 p0 q1 q2 q3 p4)), .second, .val (.long (v0_9 p0 q1 q2 q3 p4)), .second, .val (.ref b19), .val (.ref x5_0_27)] [(.long ((f6 (r5_1 (v0_3 p0 q1 q2 q3 p4) q3 q1 (v0_5 p0 q1 q2 q3 p4))).toInt64))])) _
    refine XT.lload X33.here hx rfl (hb hby at_130) rfl ?_
    show Steps p.tables e below (T33.setTop (mkF m 132 #[.val (.int p0), .val (.long q1), .second, .val (.long q2), .second, .val (.long q3), .second, .val (.int p4), .val (.int (v0_1 p0 q1 q2 q3 p4)), .val (.long (v0_3 p0 q1 q2 q3 p4)), .second, .val (.int (v0_5 p0 q1 q2 q3 p4)), .val (.int (v0_6 p0 q1 q2 q3 p4)), .val (.long (v0_8 p0 q1 q2 q3 p4)), .second, .val (.long (v0_9 p0 q1 q2 q3 p4)), .second, .val (.ref b19), .val (.ref x5_0_27)] [(.long (v0_8 p0 q1 q2 q3 p4)), (.long ((f6 (r5_1 (v0_3 p0 q1 q2 q3 p4) q3 q1 (v0_5 p0 q1 q2 q3 p4))).toInt64))])) _
    refine XT.lcmp X33.here hx rfl (hb hby at_132) rfl ?_
    show Steps p.tables e below (T33.setTop (mkF m 133 #[.val (.int p0), .val (.long q1), .second, .val (.long q2), .second, .val (.long q3), .second, .val (.int p4), .val (.int (v0_1 p0 q1 q2 q3 p4)), .val (.long (v0_3 p0 q1 q2 q3 p4)), .second, .val (.int (v0_5 p0 q1 q2 q3 p4)), .val (.int (v0_6 p0 q1 q2 q3 p4)), .val (.long (v0_8 p0 q1 q2 q3 p4)), .second, .val (.long (v0_9 p0 q1 q2 q3 p4)), .second, .val (.ref b19), .val (.ref x5_0_27)] [(.int (XT.cmpL (v0_10 p0 q1 q2 q3 p4) (v0_8 p0 q1 q2 q3 p4)))])) _
    refine XS.ifYes X33.here hx rfl (pc0 := 133) (pc' := 138) rfl (hb hby at_133) rfl (XT.ll_eq_t (own_133 p0 q1 q2 q3 p4)) (by decide) (by decide) ?_
    show Steps p.tables e below (T33.setTop (mkF m 138 #[.val (.int p0), .val (.long q1), .second, .val (.long q2), .second, .val (.long q3), .second, .val (.int p4), .val (.int (v0_1 p0 q1 q2 q3 p4)), .val (.long (v0_3 p0 q1 q2 q3 p4)), .second, .val (.int (v0_5 p0 q1 q2 q3 p4)), .val (.int (v0_6 p0 q1 q2 q3 p4)), .val (.long (v0_8 p0 q1 q2 q3 p4)), .second, .val (.long (v0_9 p0 q1 q2 q3 p4)), .second, .val (.ref b19), .val (.ref x5_0_27)] [])) _
    refine XS.aload X33.here hx rfl (hb hby at_138) rfl rfl ?_
    show Steps p.tables e below (T33.setTop (mkF m 140 #[.val (.int p0), .val (.long q1), .second, .val (.long q2), .second, .val (.long q3), .second, .val (.int p4), .val (.int (v0_1 p0 q1 q2 q3 p4)), .val (.long (v0_3 p0 q1 q2 q3 p4)), .second, .val (.int (v0_5 p0 q1 q2 q3 p4)), .val (.int (v0_6 p0 q1 q2 q3 p4)), .val (.long (v0_8 p0 q1 q2 q3 p4)), .second, .val (.long (v0_9 p0 q1 q2 q3 p4)), .second, .val (.ref b19), .val (.ref x5_0_27)] [(.ref x5_0_27)])) _
    refine st34.trans ?_
    show Steps p.tables e below (T34.setTop (mkF m 143 #[.val (.int p0), .val (.long q1), .second, .val (.long q2), .second, .val (.long q3), .second, .val (.int p4), .val (.int (v0_1 p0 q1 q2 q3 p4)), .val (.long (v0_3 p0 q1 q2 q3 p4)), .second, .val (.int (v0_5 p0 q1 q2 q3 p4)), .val (.int (v0_6 p0 q1 q2 q3 p4)), .val (.long (v0_8 p0 q1 q2 q3 p4)), .second, .val (.long (v0_9 p0 q1 q2 q3 p4)), .second, .val (.ref b19), .val (.ref x5_0_27)] [(.long (f7 (r5_2 (v0_3 p0 q1 q2 q3 p4) q3 q1 (v0_5 p0 q1 q2 q3 p4))))])) _
    refine XT.lload X34.here hx rfl (hb hby at_143) rfl ?_
    show Steps p.tables e below (T34.setTop (mkF m 145 #[.val (.int p0), .val (.long q1), .second, .val (.long q2), .second, .val (.long q3), .second, .val (.int p4), .val (.int (v0_1 p0 q1 q2 q3 p4)), .val (.long (v0_3 p0 q1 q2 q3 p4)), .second, .val (.int (v0_5 p0 q1 q2 q3 p4)), .val (.int (v0_6 p0 q1 q2 q3 p4)), .val (.long (v0_8 p0 q1 q2 q3 p4)), .second, .val (.long (v0_9 p0 q1 q2 q3 p4)), .second, .val (.ref b19), .val (.ref x5_0_27)] [(.long (v0_9 p0 q1 q2 q3 p4)), (.long (f7 (r5_2 (v0_3 p0 q1 q2 q3 p4) q3 q1 (v0_5 p0 q1 q2 q3 p4))))])) _
    refine XT.lcmp X34.here hx rfl (hb hby at_145) rfl ?_
    show Steps p.tables e below (T34.setTop (mkF m 146 #[.val (.int p0), .val (.long q1), .second, .val (.long q2), .second, .val (.long q3), .second, .val (.int p4), .val (.int (v0_1 p0 q1 q2 q3 p4)), .val (.long (v0_3 p0 q1 q2 q3 p4)), .second, .val (.int (v0_5 p0 q1 q2 q3 p4)), .val (.int (v0_6 p0 q1 q2 q3 p4)), .val (.long (v0_8 p0 q1 q2 q3 p4)), .second, .val (.long (v0_9 p0 q1 q2 q3 p4)), .second, .val (.ref b19), .val (.ref x5_0_27)] [(.int (XT.cmpL (v0_11 p0 q1 q2 q3 p4) (v0_9 p0 q1 q2 q3 p4)))])) _
    refine XS.ifYes X34.here hx rfl (pc0 := 146) (pc' := 151) rfl (hb hby at_146) rfl (XT.ll_eq_t (own_146 p0 q1 q2 q3 p4)) (by decide) (by decide) ?_
    show Steps p.tables e below (T34.setTop (mkF m 151 #[.val (.int p0), .val (.long q1), .second, .val (.long q2), .second, .val (.long q3), .second, .val (.int p4), .val (.int (v0_1 p0 q1 q2 q3 p4)), .val (.long (v0_3 p0 q1 q2 q3 p4)), .second, .val (.int (v0_5 p0 q1 q2 q3 p4)), .val (.int (v0_6 p0 q1 q2 q3 p4)), .val (.long (v0_8 p0 q1 q2 q3 p4)), .second, .val (.long (v0_9 p0 q1 q2 q3 p4)), .second, .val (.ref b19), .val (.ref x5_0_27)] [])) _
    refine XS.iload X34.here hx rfl (hb hby at_151) rfl ?_
    exact k
  by_cases c36 : (v0_6 p0 q1 q2 q3 p4) = (0 : Int32)
  · skip
    have pre37 : ∀ t, Steps p.tables e below (T34.setTop (mkF m 181 #[.val (.int p0), .val (.long q1), .second, .val (.long q2), .second, .val (.long q3), .second, .val (.int p4), .val (.int (v0_1 p0 q1 q2 q3 p4)), .val (.long (v0_3 p0 q1 q2 q3 p4)), .second, .val (.int (v0_5 p0 q1 q2 q3 p4)), .val (.int (v0_6 p0 q1 q2 q3 p4)), .val (.long (v0_8 p0 q1 q2 q3 p4)), .second, .val (.long (v0_9 p0 q1 q2 q3 p4)), .second, .val (.ref b19), .val (.ref x5_0_27)] [(.int (XT.cmpL q3 (0 : Int64)))])) t → Steps p.tables e below (s₁.setTop (entryFrame m #[(.int p0), (.long q1), (.long q2), (.long q3), (.int p4)] maxLocals)) t := by
      intro t k
      refine pre35 t ?_
      show Steps p.tables e below (T34.setTop (mkF m 153 #[.val (.int p0), .val (.long q1), .second, .val (.long q2), .second, .val (.long q3), .second, .val (.int p4), .val (.int (v0_1 p0 q1 q2 q3 p4)), .val (.long (v0_3 p0 q1 q2 q3 p4)), .second, .val (.int (v0_5 p0 q1 q2 q3 p4)), .val (.int (v0_6 p0 q1 q2 q3 p4)), .val (.long (v0_8 p0 q1 q2 q3 p4)), .second, .val (.long (v0_9 p0 q1 q2 q3 p4)), .second, .val (.ref b19), .val (.ref x5_0_27)] [(.int (v0_6 p0 q1 q2 q3 p4))])) _
      refine XS.ifYes X34.here hx rfl (pc0 := 153) (pc' := 177) rfl (hb hby at_153) rfl (XT.i0_eq_t c36) (by decide) (by decide) ?_
      show Steps p.tables e below (T34.setTop (mkF m 177 #[.val (.int p0), .val (.long q1), .second, .val (.long q2), .second, .val (.long q3), .second, .val (.int p4), .val (.int (v0_1 p0 q1 q2 q3 p4)), .val (.long (v0_3 p0 q1 q2 q3 p4)), .second, .val (.int (v0_5 p0 q1 q2 q3 p4)), .val (.int (v0_6 p0 q1 q2 q3 p4)), .val (.long (v0_8 p0 q1 q2 q3 p4)), .second, .val (.long (v0_9 p0 q1 q2 q3 p4)), .second, .val (.ref b19), .val (.ref x5_0_27)] [])) _
      refine XT.lload X34.here hx rfl (hb hby at_177) rfl ?_
      show Steps p.tables e below (T34.setTop (mkF m 179 #[.val (.int p0), .val (.long q1), .second, .val (.long q2), .second, .val (.long q3), .second, .val (.int p4), .val (.int (v0_1 p0 q1 q2 q3 p4)), .val (.long (v0_3 p0 q1 q2 q3 p4)), .second, .val (.int (v0_5 p0 q1 q2 q3 p4)), .val (.int (v0_6 p0 q1 q2 q3 p4)), .val (.long (v0_8 p0 q1 q2 q3 p4)), .second, .val (.long (v0_9 p0 q1 q2 q3 p4)), .second, .val (.ref b19), .val (.ref x5_0_27)] [(.long q3)])) _
      refine XT.lconstV X34.here hx rfl (0 : Int64) (hb hby at_179) (by decide) ?_
      show Steps p.tables e below (T34.setTop (mkF m 180 #[.val (.int p0), .val (.long q1), .second, .val (.long q2), .second, .val (.long q3), .second, .val (.int p4), .val (.int (v0_1 p0 q1 q2 q3 p4)), .val (.long (v0_3 p0 q1 q2 q3 p4)), .second, .val (.int (v0_5 p0 q1 q2 q3 p4)), .val (.int (v0_6 p0 q1 q2 q3 p4)), .val (.long (v0_8 p0 q1 q2 q3 p4)), .second, .val (.long (v0_9 p0 q1 q2 q3 p4)), .second, .val (.ref b19), .val (.ref x5_0_27)] [(.long (0 : Int64)), (.long q3)])) _
      refine XT.lcmp X34.here hx rfl (hb hby at_180) rfl ?_
      exact k
    by_cases c38 : (0 : Int64) < q3
    · skip
      have pre39 : ∀ t, Steps p.tables e below (T34.setTop (mkF m 192 #[.val (.int p0), .val (.long q1), .second, .val (.long q2), .second, .val (.long q3), .second, .val (.int p4), .val (.int (v0_1 p0 q1 q2 q3 p4)), .val (.long (v0_3 p0 q1 q2 q3 p4)), .second, .val (.int (v0_5 p0 q1 q2 q3 p4)), .val (.int (v0_6 p0 q1 q2 q3 p4)), .val (.long (v0_8 p0 q1 q2 q3 p4)), .second, .val (.long (v0_9 p0 q1 q2 q3 p4)), .second, .val (.ref b19), .val (.ref x5_0_27)] [(.int (XT.cmpL (v0_12 p0 q1 q2 q3 p4) (v0_3 p0 q1 q2 q3 p4)))])) t → Steps p.tables e below (s₁.setTop (entryFrame m #[(.int p0), (.long q1), (.long q2), (.long q3), (.int p4)] maxLocals)) t := by
        intro t k
        refine pre37 t ?_
        show Steps p.tables e below (T34.setTop (mkF m 181 #[.val (.int p0), .val (.long q1), .second, .val (.long q2), .second, .val (.long q3), .second, .val (.int p4), .val (.int (v0_1 p0 q1 q2 q3 p4)), .val (.long (v0_3 p0 q1 q2 q3 p4)), .second, .val (.int (v0_5 p0 q1 q2 q3 p4)), .val (.int (v0_6 p0 q1 q2 q3 p4)), .val (.long (v0_8 p0 q1 q2 q3 p4)), .second, .val (.long (v0_9 p0 q1 q2 q3 p4)), .second, .val (.ref b19), .val (.ref x5_0_27)] [(.int (XT.cmpL q3 (0 : Int64)))])) _
        refine XS.ifNo X34.here hx rfl (hb hby at_181) rfl (XT.ll_le_f c38) ?_
        show Steps p.tables e below (T34.setTop (mkF m 184 #[.val (.int p0), .val (.long q1), .second, .val (.long q2), .second, .val (.long q3), .second, .val (.int p4), .val (.int (v0_1 p0 q1 q2 q3 p4)), .val (.long (v0_3 p0 q1 q2 q3 p4)), .second, .val (.int (v0_5 p0 q1 q2 q3 p4)), .val (.int (v0_6 p0 q1 q2 q3 p4)), .val (.long (v0_8 p0 q1 q2 q3 p4)), .second, .val (.long (v0_9 p0 q1 q2 q3 p4)), .second, .val (.ref b19), .val (.ref x5_0_27)] [])) _
        refine XT.lload X34.here hx rfl (hb hby at_184) rfl ?_
        show Steps p.tables e below (T34.setTop (mkF m 186 #[.val (.int p0), .val (.long q1), .second, .val (.long q2), .second, .val (.long q3), .second, .val (.int p4), .val (.int (v0_1 p0 q1 q2 q3 p4)), .val (.long (v0_3 p0 q1 q2 q3 p4)), .second, .val (.int (v0_5 p0 q1 q2 q3 p4)), .val (.int (v0_6 p0 q1 q2 q3 p4)), .val (.long (v0_8 p0 q1 q2 q3 p4)), .second, .val (.long (v0_9 p0 q1 q2 q3 p4)), .second, .val (.ref b19), .val (.ref x5_0_27)] [(.long (v0_3 p0 q1 q2 q3 p4))])) _
        refine XT.lload X34.here hx rfl (hb hby at_186) rfl ?_
        show Steps p.tables e below (T34.setTop (mkF m 188 #[.val (.int p0), .val (.long q1), .second, .val (.long q2), .second, .val (.long q3), .second, .val (.int p4), .val (.int (v0_1 p0 q1 q2 q3 p4)), .val (.long (v0_3 p0 q1 q2 q3 p4)), .second, .val (.int (v0_5 p0 q1 q2 q3 p4)), .val (.int (v0_6 p0 q1 q2 q3 p4)), .val (.long (v0_8 p0 q1 q2 q3 p4)), .second, .val (.long (v0_9 p0 q1 q2 q3 p4)), .second, .val (.ref b19), .val (.ref x5_0_27)] [(.long q3), (.long (v0_3 p0 q1 q2 q3 p4))])) _
        refine XT.ladd X34.here hx rfl (hb hby at_188) rfl ?_
        show Steps p.tables e below (T34.setTop (mkF m 189 #[.val (.int p0), .val (.long q1), .second, .val (.long q2), .second, .val (.long q3), .second, .val (.int p4), .val (.int (v0_1 p0 q1 q2 q3 p4)), .val (.long (v0_3 p0 q1 q2 q3 p4)), .second, .val (.int (v0_5 p0 q1 q2 q3 p4)), .val (.int (v0_6 p0 q1 q2 q3 p4)), .val (.long (v0_8 p0 q1 q2 q3 p4)), .second, .val (.long (v0_9 p0 q1 q2 q3 p4)), .second, .val (.ref b19), .val (.ref x5_0_27)] [(.long ((v0_3 p0 q1 q2 q3 p4) + q3))])) _
        refine XT.lload X34.here hx rfl (hb hby at_189) rfl ?_
        show Steps p.tables e below (T34.setTop (mkF m 191 #[.val (.int p0), .val (.long q1), .second, .val (.long q2), .second, .val (.long q3), .second, .val (.int p4), .val (.int (v0_1 p0 q1 q2 q3 p4)), .val (.long (v0_3 p0 q1 q2 q3 p4)), .second, .val (.int (v0_5 p0 q1 q2 q3 p4)), .val (.int (v0_6 p0 q1 q2 q3 p4)), .val (.long (v0_8 p0 q1 q2 q3 p4)), .second, .val (.long (v0_9 p0 q1 q2 q3 p4)), .second, .val (.ref b19), .val (.ref x5_0_27)] [(.long (v0_3 p0 q1 q2 q3 p4)), (.long ((v0_3 p0 q1 q2 q3 p4) + q3))])) _
        refine XT.lcmp X34.here hx rfl (hb hby at_191) rfl ?_
        exact k
      by_cases c40 : (v0_3 p0 q1 q2 q3 p4) < (v0_12 p0 q1 q2 q3 p4)
      · skip
        obtain ⟨cq41, kq41, q41a, q41b, q41c⟩ := isOf hZ e34 po27_0
        obtain ⟨_, _, ⟨T41, L41, k41, n41⟩, -, X41, ⟨Lc41, hQ41, l41, y41, z41⟩, st41⟩ := X34.virtualBack hx (y := (⟨"com/example/tollgate/tollgate/store/Failures", "countAt", "(J)I"⟩ : MethodName)) (z := (⟨"com/example/tollgate/tollgate/store/Failures", "countAt", "(J)I"⟩ : MethodName)) hown (mvT hZ (hw _ (List.mem_of_getElem? (i := 41) rfl))) (mvT hZ (hw _ (List.mem_of_getElem? (i := 42) rfl))) (notFace_of_selects (args := #[]) (mvT hZ (hw _ (List.mem_of_getElem? (i := 44) rfl)))) (mvT hZ (hw _ (List.mem_of_getElem? (i := 44) rfl))) (mvT hZ (hw _ (List.mem_of_getElem? (i := 43) rfl))) (by decide) (backOf (W := 0) (rm8 l Z a0 hw [] x5_0_27 (v0_3 p0 q1 q2 q3 p4) (r5_2 (v0_3 p0 q1 q2 q3 p4) q3 q1 (v0_5 p0 q1 q2 q3 p4)) (r5_1 (v0_3 p0 q1 q2 q3 p4) q3 q1 (v0_5 p0 q1 q2 q3 p4)) T27.heap n0 z31 po27_2 po27_1) hZ (hw _ (List.mem_of_getElem? (i := 45) rfl)) (hw _ (List.mem_of_getElem? (i := 7) rfl)) (by decide) (by decide)) q41a q41c (g := (mkF m 199 #[.val (.int p0), .val (.long q1), .second, .val (.long q2), .second, .val (.long q3), .second, .val (.int p4), .val (.int (v0_1 p0 q1 q2 q3 p4)), .val (.long (v0_3 p0 q1 q2 q3 p4)), .second, .val (.int (v0_5 p0 q1 q2 q3 p4)), .val (.int (v0_6 p0 q1 q2 q3 p4)), .val (.long (v0_8 p0 q1 q2 q3 p4)), .second, .val (.long (v0_9 p0 q1 q2 q3 p4)), .second, .val (.ref b19), .val (.ref x5_0_27)] [(.long (v0_3 p0 q1 q2 q3 p4)), (.ref x5_0_27)])) rfl (by rw [hml]; rfl) (Steps.refl _) (argsL := [(.long (v0_3 p0 q1 q2 q3 p4))]) (rest := []) (lenOf pd__J_I rfl) rfl (by show 2 * 0 + _ ≤ _; exact Nat.le_of_eq rfl) (hb hby at_199) (fun _ _ => ⟨rfl, e34, (by decide : 2 + 0 ≤ _), (by decide : 4 + 0 ≤ _)⟩)
        dsimp only [Pt.U, Pt.locs, Pt.cells, Pt.slots] at X41 l41 y41 z41 st41 hQ41
        subst l41 y41 z41
        obtain ⟨N41q, rfl, e41⟩ := hQ41
        have N41 := Fr.app N34 N41q
        have pre42 : ∀ t, Steps p.tables e below (T41.setTop (mkF m 203 #[.val (.int p0), .val (.long q1), .second, .val (.long q2), .second, .val (.long q3), .second, .val (.int p4), .val (.int (v0_1 p0 q1 q2 q3 p4)), .val (.long (v0_3 p0 q1 q2 q3 p4)), .second, .val (.int (v0_5 p0 q1 q2 q3 p4)), .val (.int (v0_6 p0 q1 q2 q3 p4)), .val (.long (v0_8 p0 q1 q2 q3 p4)), .second, .val (.long (v0_9 p0 q1 q2 q3 p4)), .second, .val (.ref b19), .val (.ref x5_0_27)] [(.int (1 : Int32)), (.int (f8 (v0_3 p0 q1 q2 q3 p4) (r5_2 (v0_3 p0 q1 q2 q3 p4) q3 q1 (v0_5 p0 q1 q2 q3 p4)) (r5_1 (v0_3 p0 q1 q2 q3 p4) q3 q1 (v0_5 p0 q1 q2 q3 p4))))])) t → Steps p.tables e below (s₁.setTop (entryFrame m #[(.int p0), (.long q1), (.long q2), (.long q3), (.int p4)] maxLocals)) t := by
          intro t k
          refine pre39 t ?_
          show Steps p.tables e below (T34.setTop (mkF m 192 #[.val (.int p0), .val (.long q1), .second, .val (.long q2), .second, .val (.long q3), .second, .val (.int p4), .val (.int (v0_1 p0 q1 q2 q3 p4)), .val (.long (v0_3 p0 q1 q2 q3 p4)), .second, .val (.int (v0_5 p0 q1 q2 q3 p4)), .val (.int (v0_6 p0 q1 q2 q3 p4)), .val (.long (v0_8 p0 q1 q2 q3 p4)), .second, .val (.long (v0_9 p0 q1 q2 q3 p4)), .second, .val (.ref b19), .val (.ref x5_0_27)] [(.int (XT.cmpL (v0_12 p0 q1 q2 q3 p4) (v0_3 p0 q1 q2 q3 p4)))])) _
          refine XS.ifNo X34.here hx rfl (hb hby at_192) rfl (XT.ll_le_f c40) ?_
          show Steps p.tables e below (T34.setTop (mkF m 195 #[.val (.int p0), .val (.long q1), .second, .val (.long q2), .second, .val (.long q3), .second, .val (.int p4), .val (.int (v0_1 p0 q1 q2 q3 p4)), .val (.long (v0_3 p0 q1 q2 q3 p4)), .second, .val (.int (v0_5 p0 q1 q2 q3 p4)), .val (.int (v0_6 p0 q1 q2 q3 p4)), .val (.long (v0_8 p0 q1 q2 q3 p4)), .second, .val (.long (v0_9 p0 q1 q2 q3 p4)), .second, .val (.ref b19), .val (.ref x5_0_27)] [])) _
          refine XS.aload X34.here hx rfl (hb hby at_195) rfl rfl ?_
          show Steps p.tables e below (T34.setTop (mkF m 197 #[.val (.int p0), .val (.long q1), .second, .val (.long q2), .second, .val (.long q3), .second, .val (.int p4), .val (.int (v0_1 p0 q1 q2 q3 p4)), .val (.long (v0_3 p0 q1 q2 q3 p4)), .second, .val (.int (v0_5 p0 q1 q2 q3 p4)), .val (.int (v0_6 p0 q1 q2 q3 p4)), .val (.long (v0_8 p0 q1 q2 q3 p4)), .second, .val (.long (v0_9 p0 q1 q2 q3 p4)), .second, .val (.ref b19), .val (.ref x5_0_27)] [(.ref x5_0_27)])) _
          refine XT.lload X34.here hx rfl (hb hby at_197) rfl ?_
          show Steps p.tables e below (T34.setTop (mkF m 199 #[.val (.int p0), .val (.long q1), .second, .val (.long q2), .second, .val (.long q3), .second, .val (.int p4), .val (.int (v0_1 p0 q1 q2 q3 p4)), .val (.long (v0_3 p0 q1 q2 q3 p4)), .second, .val (.int (v0_5 p0 q1 q2 q3 p4)), .val (.int (v0_6 p0 q1 q2 q3 p4)), .val (.long (v0_8 p0 q1 q2 q3 p4)), .second, .val (.long (v0_9 p0 q1 q2 q3 p4)), .second, .val (.ref b19), .val (.ref x5_0_27)] [(.long (v0_3 p0 q1 q2 q3 p4)), (.ref x5_0_27)])) _
          refine st41.trans ?_
          show Steps p.tables e below (T41.setTop (mkF m 202 #[.val (.int p0), .val (.long q1), .second, .val (.long q2), .second, .val (.long q3), .second, .val (.int p4), .val (.int (v0_1 p0 q1 q2 q3 p4)), .val (.long (v0_3 p0 q1 q2 q3 p4)), .second, .val (.int (v0_5 p0 q1 q2 q3 p4)), .val (.int (v0_6 p0 q1 q2 q3 p4)), .val (.long (v0_8 p0 q1 q2 q3 p4)), .second, .val (.long (v0_9 p0 q1 q2 q3 p4)), .second, .val (.ref b19), .val (.ref x5_0_27)] [(.int (f8 (v0_3 p0 q1 q2 q3 p4) (r5_2 (v0_3 p0 q1 q2 q3 p4) q3 q1 (v0_5 p0 q1 q2 q3 p4)) (r5_1 (v0_3 p0 q1 q2 q3 p4) q3 q1 (v0_5 p0 q1 q2 q3 p4))))])) _
          refine XT.iconstV X41.here hx rfl (1 : Int32) (hb hby at_202) (by decide) ?_
          exact k
        have pre44 : ∀ t, Steps p.tables e below (T41.setTop (mkF m 211 #[.val (.int p0), .val (.long q1), .second, .val (.long q2), .second, .val (.long q3), .second, .val (.int p4), .val (.int (v0_1 p0 q1 q2 q3 p4)), .val (.long (v0_3 p0 q1 q2 q3 p4)), .second, .val (.int (v0_5 p0 q1 q2 q3 p4)), .val (.int (v0_6 p0 q1 q2 q3 p4)), .val (.long (v0_8 p0 q1 q2 q3 p4)), .second, .val (.long (v0_9 p0 q1 q2 q3 p4)), .second, .val (.ref b19), .val (.ref x5_0_27)] [(.int (v0_14 p0 q1 q2 q3 p4))])) t → Steps p.tables e below (s₁.setTop (entryFrame m #[(.int p0), (.long q1), (.long q2), (.long q3), (.int p4)] maxLocals)) t := by
          intro t k
          by_cases c43 : (v0_13 p0 q1 q2 q3 p4) = (1 : Int32)
          · skip
            rw [show (v0_14 p0 q1 q2 q3 p4) = (1 : Int32) from (if_pos c43)] at k
            refine pre42 t ?_
            show Steps p.tables e below (T41.setTop (mkF m 203 #[.val (.int p0), .val (.long q1), .second, .val (.long q2), .second, .val (.long q3), .second, .val (.int p4), .val (.int (v0_1 p0 q1 q2 q3 p4)), .val (.long (v0_3 p0 q1 q2 q3 p4)), .second, .val (.int (v0_5 p0 q1 q2 q3 p4)), .val (.int (v0_6 p0 q1 q2 q3 p4)), .val (.long (v0_8 p0 q1 q2 q3 p4)), .second, .val (.long (v0_9 p0 q1 q2 q3 p4)), .second, .val (.ref b19), .val (.ref x5_0_27)] [(.int (1 : Int32)), (.int (f8 (v0_3 p0 q1 q2 q3 p4) (r5_2 (v0_3 p0 q1 q2 q3 p4) q3 q1 (v0_5 p0 q1 q2 q3 p4)) (r5_1 (v0_3 p0 q1 q2 q3 p4) q3 q1 (v0_5 p0 q1 q2 q3 p4))))])) _
            refine XS.icmpNo X41.here hx rfl (hb hby at_203) rfl (XT.ii_ne_f c43) ?_
            show Steps p.tables e below (T41.setTop (mkF m 206 #[.val (.int p0), .val (.long q1), .second, .val (.long q2), .second, .val (.long q3), .second, .val (.int p4), .val (.int (v0_1 p0 q1 q2 q3 p4)), .val (.long (v0_3 p0 q1 q2 q3 p4)), .second, .val (.int (v0_5 p0 q1 q2 q3 p4)), .val (.int (v0_6 p0 q1 q2 q3 p4)), .val (.long (v0_8 p0 q1 q2 q3 p4)), .second, .val (.long (v0_9 p0 q1 q2 q3 p4)), .second, .val (.ref b19), .val (.ref x5_0_27)] [])) _
            refine XT.iconstV X41.here hx rfl (1 : Int32) (hb hby at_206) (by decide) ?_
            show Steps p.tables e below (T41.setTop (mkF m 207 #[.val (.int p0), .val (.long q1), .second, .val (.long q2), .second, .val (.long q3), .second, .val (.int p4), .val (.int (v0_1 p0 q1 q2 q3 p4)), .val (.long (v0_3 p0 q1 q2 q3 p4)), .second, .val (.int (v0_5 p0 q1 q2 q3 p4)), .val (.int (v0_6 p0 q1 q2 q3 p4)), .val (.long (v0_8 p0 q1 q2 q3 p4)), .second, .val (.long (v0_9 p0 q1 q2 q3 p4)), .second, .val (.ref b19), .val (.ref x5_0_27)] [(.int (1 : Int32))])) _
            refine XS.goto X41.here hx rfl (pc0 := 207) (pc' := 211) rfl (hb hby at_207) (by decide) (by decide) ?_
            exact k
          · skip
            rw [show (v0_14 p0 q1 q2 q3 p4) = (0 : Int32) from (if_neg c43)] at k
            refine pre42 t ?_
            show Steps p.tables e below (T41.setTop (mkF m 203 #[.val (.int p0), .val (.long q1), .second, .val (.long q2), .second, .val (.long q3), .second, .val (.int p4), .val (.int (v0_1 p0 q1 q2 q3 p4)), .val (.long (v0_3 p0 q1 q2 q3 p4)), .second, .val (.int (v0_5 p0 q1 q2 q3 p4)), .val (.int (v0_6 p0 q1 q2 q3 p4)), .val (.long (v0_8 p0 q1 q2 q3 p4)), .second, .val (.long (v0_9 p0 q1 q2 q3 p4)), .second, .val (.ref b19), .val (.ref x5_0_27)] [(.int (1 : Int32)), (.int (f8 (v0_3 p0 q1 q2 q3 p4) (r5_2 (v0_3 p0 q1 q2 q3 p4) q3 q1 (v0_5 p0 q1 q2 q3 p4)) (r5_1 (v0_3 p0 q1 q2 q3 p4) q3 q1 (v0_5 p0 q1 q2 q3 p4))))])) _
            refine XS.icmpYes X41.here hx rfl (pc0 := 203) (pc' := 210) rfl (hb hby at_203) rfl (XT.ii_ne_t c43) (by decide) (by decide) ?_
            show Steps p.tables e below (T41.setTop (mkF m 210 #[.val (.int p0), .val (.long q1), .second, .val (.long q2), .second, .val (.long q3), .second, .val (.int p4), .val (.int (v0_1 p0 q1 q2 q3 p4)), .val (.long (v0_3 p0 q1 q2 q3 p4)), .second, .val (.int (v0_5 p0 q1 q2 q3 p4)), .val (.int (v0_6 p0 q1 q2 q3 p4)), .val (.long (v0_8 p0 q1 q2 q3 p4)), .second, .val (.long (v0_9 p0 q1 q2 q3 p4)), .second, .val (.ref b19), .val (.ref x5_0_27)] [])) _
            refine XT.iconstV X41.here hx rfl (0 : Int32) (hb hby at_210) (by decide) ?_
            exact k
        have hv45 : (v0_14 p0 q1 q2 q3 p4) = (1 : Int32) := own_leaf211 p0 q1 q2 q3 p4 c36 c38 c40
        obtain ⟨fs, hr, hrun, hended, hW, hsame⟩ := X41.leave (v := some (.int (1 : Int32))) (fun h => by rw [Bd.returns] at h; cases h)
        refine ⟨_, _, pre44 _ ?_, hrun, hended, _, _, rfl, ?_, ⟨_, rfl⟩, hW, hsame.mono (by decide) (by decide)⟩
        · skip
          show Steps p.tables e below (T41.setTop (mkF m 211 #[.val (.int p0), .val (.long q1), .second, .val (.long q2), .second, .val (.long q3), .second, .val (.int p4), .val (.int (v0_1 p0 q1 q2 q3 p4)), .val (.long (v0_3 p0 q1 q2 q3 p4)), .second, .val (.int (v0_5 p0 q1 q2 q3 p4)), .val (.int (v0_6 p0 q1 q2 q3 p4)), .val (.long (v0_8 p0 q1 q2 q3 p4)), .second, .val (.long (v0_9 p0 q1 q2 q3 p4)), .second, .val (.ref b19), .val (.ref x5_0_27)] [(.int (v0_14 p0 q1 q2 q3 p4))])) _
          rw [hv45]
          exact retN X41 hx (t := .boolean) Bd.returns (by simp) (hb hby at_211) hr
        · skip
          show Q0 Z p0 q1 q2 q3 p4 h0 n0 _ T41.heap _
          rw [e41]
          exact ⟨rfl, N41⟩
      · skip
        obtain ⟨fs, hr, hrun, hended, hW, hsame⟩ := X34.leave (v := some (.int (1 : Int32))) (fun h => by rw [Bd.returns] at h; cases h)
        refine ⟨_, _, pre39 _ ?_, hrun, hended, _, _, rfl, ?_, ⟨_, rfl⟩, hW, hsame.mono (by decide) (by decide)⟩
        · skip
          show Steps p.tables e below (T34.setTop (mkF m 192 #[.val (.int p0), .val (.long q1), .second, .val (.long q2), .second, .val (.long q3), .second, .val (.int p4), .val (.int (v0_1 p0 q1 q2 q3 p4)), .val (.long (v0_3 p0 q1 q2 q3 p4)), .second, .val (.int (v0_5 p0 q1 q2 q3 p4)), .val (.int (v0_6 p0 q1 q2 q3 p4)), .val (.long (v0_8 p0 q1 q2 q3 p4)), .second, .val (.long (v0_9 p0 q1 q2 q3 p4)), .second, .val (.ref b19), .val (.ref x5_0_27)] [(.int (XT.cmpL (v0_12 p0 q1 q2 q3 p4) (v0_3 p0 q1 q2 q3 p4)))])) _
          refine XS.ifYes X34.here hx rfl (pc0 := 192) (pc' := 212) rfl (hb hby at_192) rfl (XT.ll_le_t c40) (by decide) (by decide) ?_
          show Steps p.tables e below (T34.setTop (mkF m 212 #[.val (.int p0), .val (.long q1), .second, .val (.long q2), .second, .val (.long q3), .second, .val (.int p4), .val (.int (v0_1 p0 q1 q2 q3 p4)), .val (.long (v0_3 p0 q1 q2 q3 p4)), .second, .val (.int (v0_5 p0 q1 q2 q3 p4)), .val (.int (v0_6 p0 q1 q2 q3 p4)), .val (.long (v0_8 p0 q1 q2 q3 p4)), .second, .val (.long (v0_9 p0 q1 q2 q3 p4)), .second, .val (.ref b19), .val (.ref x5_0_27)] [])) _
          refine XT.iconstV X34.here hx rfl (1 : Int32) (hb hby at_212) (by decide) ?_
          show Steps p.tables e below (T34.setTop (mkF m 213 #[.val (.int p0), .val (.long q1), .second, .val (.long q2), .second, .val (.long q3), .second, .val (.int p4), .val (.int (v0_1 p0 q1 q2 q3 p4)), .val (.long (v0_3 p0 q1 q2 q3 p4)), .second, .val (.int (v0_5 p0 q1 q2 q3 p4)), .val (.int (v0_6 p0 q1 q2 q3 p4)), .val (.long (v0_8 p0 q1 q2 q3 p4)), .second, .val (.long (v0_9 p0 q1 q2 q3 p4)), .second, .val (.ref b19), .val (.ref x5_0_27)] [(.int (1 : Int32))])) _
          exact retN X34 hx (t := .boolean) Bd.returns (by simp) (hb hby at_213) hr
        · skip
          show Q0 Z p0 q1 q2 q3 p4 h0 n0 _ T34.heap _
          rw [e34]
          exact ⟨rfl, N34⟩
    · skip
      obtain ⟨fs, hr, hrun, hended, hW, hsame⟩ := X34.leave (v := some (.int (1 : Int32))) (fun h => by rw [Bd.returns] at h; cases h)
      refine ⟨_, _, pre37 _ ?_, hrun, hended, _, _, rfl, ?_, ⟨_, rfl⟩, hW, hsame.mono (by decide) (by decide)⟩
      · skip
        show Steps p.tables e below (T34.setTop (mkF m 181 #[.val (.int p0), .val (.long q1), .second, .val (.long q2), .second, .val (.long q3), .second, .val (.int p4), .val (.int (v0_1 p0 q1 q2 q3 p4)), .val (.long (v0_3 p0 q1 q2 q3 p4)), .second, .val (.int (v0_5 p0 q1 q2 q3 p4)), .val (.int (v0_6 p0 q1 q2 q3 p4)), .val (.long (v0_8 p0 q1 q2 q3 p4)), .second, .val (.long (v0_9 p0 q1 q2 q3 p4)), .second, .val (.ref b19), .val (.ref x5_0_27)] [(.int (XT.cmpL q3 (0 : Int64)))])) _
        refine XS.ifYes X34.here hx rfl (pc0 := 181) (pc' := 212) rfl (hb hby at_181) rfl (XT.ll_le_t c38) (by decide) (by decide) ?_
        show Steps p.tables e below (T34.setTop (mkF m 212 #[.val (.int p0), .val (.long q1), .second, .val (.long q2), .second, .val (.long q3), .second, .val (.int p4), .val (.int (v0_1 p0 q1 q2 q3 p4)), .val (.long (v0_3 p0 q1 q2 q3 p4)), .second, .val (.int (v0_5 p0 q1 q2 q3 p4)), .val (.int (v0_6 p0 q1 q2 q3 p4)), .val (.long (v0_8 p0 q1 q2 q3 p4)), .second, .val (.long (v0_9 p0 q1 q2 q3 p4)), .second, .val (.ref b19), .val (.ref x5_0_27)] [])) _
        refine XT.iconstV X34.here hx rfl (1 : Int32) (hb hby at_212) (by decide) ?_
        show Steps p.tables e below (T34.setTop (mkF m 213 #[.val (.int p0), .val (.long q1), .second, .val (.long q2), .second, .val (.long q3), .second, .val (.int p4), .val (.int (v0_1 p0 q1 q2 q3 p4)), .val (.long (v0_3 p0 q1 q2 q3 p4)), .second, .val (.int (v0_5 p0 q1 q2 q3 p4)), .val (.int (v0_6 p0 q1 q2 q3 p4)), .val (.long (v0_8 p0 q1 q2 q3 p4)), .second, .val (.long (v0_9 p0 q1 q2 q3 p4)), .second, .val (.ref b19), .val (.ref x5_0_27)] [(.int (1 : Int32))])) _
        exact retN X34 hx (t := .boolean) Bd.returns (by simp) (hb hby at_213) hr
      · skip
        show Q0 Z p0 q1 q2 q3 p4 h0 n0 _ T34.heap _
        rw [e34]
        exact ⟨rfl, N34⟩
  · skip
    obtain ⟨cq46, kq46, q46a, q46b, q46c⟩ := isOf hZ e34 po27_0
    obtain ⟨_, _, ⟨T46, L46, k46, n46⟩, -, X46, ⟨Lc46, hQ46, l46, y46, z46⟩, st46⟩ := X34.virtualBack hx (y := (⟨"com/example/tollgate/tollgate/store/Failures", "countAt", "(J)I"⟩ : MethodName)) (z := (⟨"com/example/tollgate/tollgate/store/Failures", "countAt", "(J)I"⟩ : MethodName)) hown (mvT hZ (hw _ (List.mem_of_getElem? (i := 41) rfl))) (mvT hZ (hw _ (List.mem_of_getElem? (i := 42) rfl))) (notFace_of_selects (args := #[]) (mvT hZ (hw _ (List.mem_of_getElem? (i := 44) rfl)))) (mvT hZ (hw _ (List.mem_of_getElem? (i := 44) rfl))) (mvT hZ (hw _ (List.mem_of_getElem? (i := 43) rfl))) (by decide) (backOf (W := 0) (rm8 l Z a0 hw [] x5_0_27 (v0_3 p0 q1 q2 q3 p4) (r5_2 (v0_3 p0 q1 q2 q3 p4) q3 q1 (v0_5 p0 q1 q2 q3 p4)) (r5_1 (v0_3 p0 q1 q2 q3 p4) q3 q1 (v0_5 p0 q1 q2 q3 p4)) T27.heap n0 z31 po27_2 po27_1) hZ (hw _ (List.mem_of_getElem? (i := 45) rfl)) (hw _ (List.mem_of_getElem? (i := 7) rfl)) (by decide) (by decide)) q46a q46c (g := (mkF m 160 #[.val (.int p0), .val (.long q1), .second, .val (.long q2), .second, .val (.long q3), .second, .val (.int p4), .val (.int (v0_1 p0 q1 q2 q3 p4)), .val (.long (v0_3 p0 q1 q2 q3 p4)), .second, .val (.int (v0_5 p0 q1 q2 q3 p4)), .val (.int (v0_6 p0 q1 q2 q3 p4)), .val (.long (v0_8 p0 q1 q2 q3 p4)), .second, .val (.long (v0_9 p0 q1 q2 q3 p4)), .second, .val (.ref b19), .val (.ref x5_0_27)] [(.long (v0_3 p0 q1 q2 q3 p4)), (.ref x5_0_27)])) rfl (by rw [hml]; rfl) (Steps.refl _) (argsL := [(.long (v0_3 p0 q1 q2 q3 p4))]) (rest := []) (lenOf pd__J_I rfl) rfl (by show 2 * 0 + _ ≤ _; exact Nat.le_of_eq rfl) (hb hby at_160) (fun _ _ => ⟨rfl, e34, (by decide : 2 + 0 ≤ _), (by decide : 4 + 0 ≤ _)⟩)
    dsimp only [Pt.U, Pt.locs, Pt.cells, Pt.slots] at X46 l46 y46 z46 st46 hQ46
    subst l46 y46 z46
    obtain ⟨N46q, rfl, e46⟩ := hQ46
    have N46 := Fr.app N34 N46q
    obtain ⟨cq47, kq47, q47a, q47b, q47c⟩ := isOf hZ e46 po27_0
    obtain ⟨_, _, ⟨T47, L47, k47, n47⟩, -, X47, ⟨Lc47, hQ47, l47, y47, z47⟩, st47⟩ := X46.virtualBack hx (y := (⟨"com/example/tollgate/tollgate/store/Failures", "count", "()I"⟩ : MethodName)) (z := (⟨"com/example/tollgate/tollgate/store/Failures", "count", "()I"⟩ : MethodName)) hown (mvT hZ (hw _ (List.mem_of_getElem? (i := 31) rfl))) (mvT hZ (hw _ (List.mem_of_getElem? (i := 32) rfl))) (notFace_of_selects (args := #[]) (mvT hZ (hw _ (List.mem_of_getElem? (i := 34) rfl)))) (mvT hZ (hw _ (List.mem_of_getElem? (i := 34) rfl))) (mvT hZ (hw _ (List.mem_of_getElem? (i := 33) rfl))) (by decide) (backOf (W := 1) (rm6 l Z a0 hw [] x5_0_27 (r5_1 (v0_3 p0 q1 q2 q3 p4) q3 q1 (v0_5 p0 q1 q2 q3 p4)) T27.heap n0 z31 po27_1) hZ (hw _ (List.mem_of_getElem? (i := 35) rfl)) (hw _ (List.mem_of_getElem? (i := 7) rfl)) (by decide) (by decide)) q47a q47c (g := (mkF m 165 #[.val (.int p0), .val (.long q1), .second, .val (.long q2), .second, .val (.long q3), .second, .val (.int p4), .val (.int (v0_1 p0 q1 q2 q3 p4)), .val (.long (v0_3 p0 q1 q2 q3 p4)), .second, .val (.int (v0_5 p0 q1 q2 q3 p4)), .val (.int (v0_6 p0 q1 q2 q3 p4)), .val (.long (v0_8 p0 q1 q2 q3 p4)), .second, .val (.long (v0_9 p0 q1 q2 q3 p4)), .second, .val (.ref b19), .val (.ref x5_0_27)] [(.ref x5_0_27), (.int (f8 (v0_3 p0 q1 q2 q3 p4) (r5_2 (v0_3 p0 q1 q2 q3 p4) q3 q1 (v0_5 p0 q1 q2 q3 p4)) (r5_1 (v0_3 p0 q1 q2 q3 p4) q3 q1 (v0_5 p0 q1 q2 q3 p4))))])) rfl (by rw [hml]; rfl) (Steps.refl _) (argsL := []) (rest := [(.int (f8 (v0_3 p0 q1 q2 q3 p4) (r5_2 (v0_3 p0 q1 q2 q3 p4) q3 q1 (v0_5 p0 q1 q2 q3 p4)) (r5_1 (v0_3 p0 q1 q2 q3 p4) q3 q1 (v0_5 p0 q1 q2 q3 p4))))]) (lenOf pd___I rfl) rfl (by show 2 * 0 + _ ≤ _; exact Nat.le_of_eq rfl) (hb hby at_165) (fun _ _ => ⟨rfl, e46, (by decide : 2 + 0 ≤ _), (by decide : 4 + 0 ≤ _)⟩)
    dsimp only [Pt.U, Pt.locs, Pt.cells, Pt.slots] at X47 l47 y47 z47 st47 hQ47
    subst l47 y47 z47
    obtain ⟨N47q, rfl, e47⟩ := hQ47
    have N47 := Fr.app N46 N47q
    have pre48 : ∀ t, Steps p.tables e below (T47.setTop (mkF m 168 #[.val (.int p0), .val (.long q1), .second, .val (.long q2), .second, .val (.long q3), .second, .val (.int p4), .val (.int (v0_1 p0 q1 q2 q3 p4)), .val (.long (v0_3 p0 q1 q2 q3 p4)), .second, .val (.int (v0_5 p0 q1 q2 q3 p4)), .val (.int (v0_6 p0 q1 q2 q3 p4)), .val (.long (v0_8 p0 q1 q2 q3 p4)), .second, .val (.long (v0_9 p0 q1 q2 q3 p4)), .second, .val (.ref b19), .val (.ref x5_0_27)] [(.int (f6 (r5_1 (v0_3 p0 q1 q2 q3 p4) q3 q1 (v0_5 p0 q1 q2 q3 p4)))), (.int (f8 (v0_3 p0 q1 q2 q3 p4) (r5_2 (v0_3 p0 q1 q2 q3 p4) q3 q1 (v0_5 p0 q1 q2 q3 p4)) (r5_1 (v0_3 p0 q1 q2 q3 p4) q3 q1 (v0_5 p0 q1 q2 q3 p4))))])) t → Steps p.tables e below (s₁.setTop (entryFrame m #[(.int p0), (.long q1), (.long q2), (.long q3), (.int p4)] maxLocals)) t := by
      intro t k
      refine pre35 t ?_
      show Steps p.tables e below (T34.setTop (mkF m 153 #[.val (.int p0), .val (.long q1), .second, .val (.long q2), .second, .val (.long q3), .second, .val (.int p4), .val (.int (v0_1 p0 q1 q2 q3 p4)), .val (.long (v0_3 p0 q1 q2 q3 p4)), .second, .val (.int (v0_5 p0 q1 q2 q3 p4)), .val (.int (v0_6 p0 q1 q2 q3 p4)), .val (.long (v0_8 p0 q1 q2 q3 p4)), .second, .val (.long (v0_9 p0 q1 q2 q3 p4)), .second, .val (.ref b19), .val (.ref x5_0_27)] [(.int (v0_6 p0 q1 q2 q3 p4))])) _
      refine XS.ifNo X34.here hx rfl (hb hby at_153) rfl (XT.i0_eq_f c36) ?_
      show Steps p.tables e below (T34.setTop (mkF m 156 #[.val (.int p0), .val (.long q1), .second, .val (.long q2), .second, .val (.long q3), .second, .val (.int p4), .val (.int (v0_1 p0 q1 q2 q3 p4)), .val (.long (v0_3 p0 q1 q2 q3 p4)), .second, .val (.int (v0_5 p0 q1 q2 q3 p4)), .val (.int (v0_6 p0 q1 q2 q3 p4)), .val (.long (v0_8 p0 q1 q2 q3 p4)), .second, .val (.long (v0_9 p0 q1 q2 q3 p4)), .second, .val (.ref b19), .val (.ref x5_0_27)] [])) _
      refine XS.aload X34.here hx rfl (hb hby at_156) rfl rfl ?_
      show Steps p.tables e below (T34.setTop (mkF m 158 #[.val (.int p0), .val (.long q1), .second, .val (.long q2), .second, .val (.long q3), .second, .val (.int p4), .val (.int (v0_1 p0 q1 q2 q3 p4)), .val (.long (v0_3 p0 q1 q2 q3 p4)), .second, .val (.int (v0_5 p0 q1 q2 q3 p4)), .val (.int (v0_6 p0 q1 q2 q3 p4)), .val (.long (v0_8 p0 q1 q2 q3 p4)), .second, .val (.long (v0_9 p0 q1 q2 q3 p4)), .second, .val (.ref b19), .val (.ref x5_0_27)] [(.ref x5_0_27)])) _
      refine XT.lload X34.here hx rfl (hb hby at_158) rfl ?_
      show Steps p.tables e below (T34.setTop (mkF m 160 #[.val (.int p0), .val (.long q1), .second, .val (.long q2), .second, .val (.long q3), .second, .val (.int p4), .val (.int (v0_1 p0 q1 q2 q3 p4)), .val (.long (v0_3 p0 q1 q2 q3 p4)), .second, .val (.int (v0_5 p0 q1 q2 q3 p4)), .val (.int (v0_6 p0 q1 q2 q3 p4)), .val (.long (v0_8 p0 q1 q2 q3 p4)), .second, .val (.long (v0_9 p0 q1 q2 q3 p4)), .second, .val (.ref b19), .val (.ref x5_0_27)] [(.long (v0_3 p0 q1 q2 q3 p4)), (.ref x5_0_27)])) _
      refine st46.trans ?_
      show Steps p.tables e below (T46.setTop (mkF m 163 #[.val (.int p0), .val (.long q1), .second, .val (.long q2), .second, .val (.long q3), .second, .val (.int p4), .val (.int (v0_1 p0 q1 q2 q3 p4)), .val (.long (v0_3 p0 q1 q2 q3 p4)), .second, .val (.int (v0_5 p0 q1 q2 q3 p4)), .val (.int (v0_6 p0 q1 q2 q3 p4)), .val (.long (v0_8 p0 q1 q2 q3 p4)), .second, .val (.long (v0_9 p0 q1 q2 q3 p4)), .second, .val (.ref b19), .val (.ref x5_0_27)] [(.int (f8 (v0_3 p0 q1 q2 q3 p4) (r5_2 (v0_3 p0 q1 q2 q3 p4) q3 q1 (v0_5 p0 q1 q2 q3 p4)) (r5_1 (v0_3 p0 q1 q2 q3 p4) q3 q1 (v0_5 p0 q1 q2 q3 p4))))])) _
      refine XS.aload X46.here hx rfl (hb hby at_163) rfl rfl ?_
      show Steps p.tables e below (T46.setTop (mkF m 165 #[.val (.int p0), .val (.long q1), .second, .val (.long q2), .second, .val (.long q3), .second, .val (.int p4), .val (.int (v0_1 p0 q1 q2 q3 p4)), .val (.long (v0_3 p0 q1 q2 q3 p4)), .second, .val (.int (v0_5 p0 q1 q2 q3 p4)), .val (.int (v0_6 p0 q1 q2 q3 p4)), .val (.long (v0_8 p0 q1 q2 q3 p4)), .second, .val (.long (v0_9 p0 q1 q2 q3 p4)), .second, .val (.ref b19), .val (.ref x5_0_27)] [(.ref x5_0_27), (.int (f8 (v0_3 p0 q1 q2 q3 p4) (r5_2 (v0_3 p0 q1 q2 q3 p4) q3 q1 (v0_5 p0 q1 q2 q3 p4)) (r5_1 (v0_3 p0 q1 q2 q3 p4) q3 q1 (v0_5 p0 q1 q2 q3 p4))))])) _
      refine st47.trans ?_
      exact k
    have pre50 : ∀ t, Steps p.tables e below (T47.setTop (mkF m 176 #[.val (.int p0), .val (.long q1), .second, .val (.long q2), .second, .val (.long q3), .second, .val (.int p4), .val (.int (v0_1 p0 q1 q2 q3 p4)), .val (.long (v0_3 p0 q1 q2 q3 p4)), .second, .val (.int (v0_5 p0 q1 q2 q3 p4)), .val (.int (v0_6 p0 q1 q2 q3 p4)), .val (.long (v0_8 p0 q1 q2 q3 p4)), .second, .val (.long (v0_9 p0 q1 q2 q3 p4)), .second, .val (.ref b19), .val (.ref x5_0_27)] [(.int (v0_17 p0 q1 q2 q3 p4))])) t → Steps p.tables e below (s₁.setTop (entryFrame m #[(.int p0), (.long q1), (.long q2), (.long q3), (.int p4)] maxLocals)) t := by
      intro t k
      by_cases c49 : (v0_15 p0 q1 q2 q3 p4) = (v0_16 p0 q1 q2 q3 p4)
      · skip
        rw [show (v0_17 p0 q1 q2 q3 p4) = (1 : Int32) from (if_pos c49)] at k
        refine pre48 t ?_
        show Steps p.tables e below (T47.setTop (mkF m 168 #[.val (.int p0), .val (.long q1), .second, .val (.long q2), .second, .val (.long q3), .second, .val (.int p4), .val (.int (v0_1 p0 q1 q2 q3 p4)), .val (.long (v0_3 p0 q1 q2 q3 p4)), .second, .val (.int (v0_5 p0 q1 q2 q3 p4)), .val (.int (v0_6 p0 q1 q2 q3 p4)), .val (.long (v0_8 p0 q1 q2 q3 p4)), .second, .val (.long (v0_9 p0 q1 q2 q3 p4)), .second, .val (.ref b19), .val (.ref x5_0_27)] [(.int (f6 (r5_1 (v0_3 p0 q1 q2 q3 p4) q3 q1 (v0_5 p0 q1 q2 q3 p4)))), (.int (f8 (v0_3 p0 q1 q2 q3 p4) (r5_2 (v0_3 p0 q1 q2 q3 p4) q3 q1 (v0_5 p0 q1 q2 q3 p4)) (r5_1 (v0_3 p0 q1 q2 q3 p4) q3 q1 (v0_5 p0 q1 q2 q3 p4))))])) _
        refine XS.icmpNo X47.here hx rfl (hb hby at_168) rfl (XT.ii_ne_f c49) ?_
        show Steps p.tables e below (T47.setTop (mkF m 171 #[.val (.int p0), .val (.long q1), .second, .val (.long q2), .second, .val (.long q3), .second, .val (.int p4), .val (.int (v0_1 p0 q1 q2 q3 p4)), .val (.long (v0_3 p0 q1 q2 q3 p4)), .second, .val (.int (v0_5 p0 q1 q2 q3 p4)), .val (.int (v0_6 p0 q1 q2 q3 p4)), .val (.long (v0_8 p0 q1 q2 q3 p4)), .second, .val (.long (v0_9 p0 q1 q2 q3 p4)), .second, .val (.ref b19), .val (.ref x5_0_27)] [])) _
        refine XT.iconstV X47.here hx rfl (1 : Int32) (hb hby at_171) (by decide) ?_
        show Steps p.tables e below (T47.setTop (mkF m 172 #[.val (.int p0), .val (.long q1), .second, .val (.long q2), .second, .val (.long q3), .second, .val (.int p4), .val (.int (v0_1 p0 q1 q2 q3 p4)), .val (.long (v0_3 p0 q1 q2 q3 p4)), .second, .val (.int (v0_5 p0 q1 q2 q3 p4)), .val (.int (v0_6 p0 q1 q2 q3 p4)), .val (.long (v0_8 p0 q1 q2 q3 p4)), .second, .val (.long (v0_9 p0 q1 q2 q3 p4)), .second, .val (.ref b19), .val (.ref x5_0_27)] [(.int (1 : Int32))])) _
        refine XS.goto X47.here hx rfl (pc0 := 172) (pc' := 176) rfl (hb hby at_172) (by decide) (by decide) ?_
        exact k
      · skip
        rw [show (v0_17 p0 q1 q2 q3 p4) = (0 : Int32) from (if_neg c49)] at k
        refine pre48 t ?_
        show Steps p.tables e below (T47.setTop (mkF m 168 #[.val (.int p0), .val (.long q1), .second, .val (.long q2), .second, .val (.long q3), .second, .val (.int p4), .val (.int (v0_1 p0 q1 q2 q3 p4)), .val (.long (v0_3 p0 q1 q2 q3 p4)), .second, .val (.int (v0_5 p0 q1 q2 q3 p4)), .val (.int (v0_6 p0 q1 q2 q3 p4)), .val (.long (v0_8 p0 q1 q2 q3 p4)), .second, .val (.long (v0_9 p0 q1 q2 q3 p4)), .second, .val (.ref b19), .val (.ref x5_0_27)] [(.int (f6 (r5_1 (v0_3 p0 q1 q2 q3 p4) q3 q1 (v0_5 p0 q1 q2 q3 p4)))), (.int (f8 (v0_3 p0 q1 q2 q3 p4) (r5_2 (v0_3 p0 q1 q2 q3 p4) q3 q1 (v0_5 p0 q1 q2 q3 p4)) (r5_1 (v0_3 p0 q1 q2 q3 p4) q3 q1 (v0_5 p0 q1 q2 q3 p4))))])) _
        refine XS.icmpYes X47.here hx rfl (pc0 := 168) (pc' := 175) rfl (hb hby at_168) rfl (XT.ii_ne_t c49) (by decide) (by decide) ?_
        show Steps p.tables e below (T47.setTop (mkF m 175 #[.val (.int p0), .val (.long q1), .second, .val (.long q2), .second, .val (.long q3), .second, .val (.int p4), .val (.int (v0_1 p0 q1 q2 q3 p4)), .val (.long (v0_3 p0 q1 q2 q3 p4)), .second, .val (.int (v0_5 p0 q1 q2 q3 p4)), .val (.int (v0_6 p0 q1 q2 q3 p4)), .val (.long (v0_8 p0 q1 q2 q3 p4)), .second, .val (.long (v0_9 p0 q1 q2 q3 p4)), .second, .val (.ref b19), .val (.ref x5_0_27)] [])) _
        refine XT.iconstV X47.here hx rfl (0 : Int32) (hb hby at_175) (by decide) ?_
        exact k
    have hv51 : (v0_17 p0 q1 q2 q3 p4) = (1 : Int32) := own_leaf176 p0 q1 q2 q3 p4 c36
    obtain ⟨fs, hr, hrun, hended, hW, hsame⟩ := X47.leave (v := some (.int (1 : Int32))) (fun h => by rw [Bd.returns] at h; cases h)
    refine ⟨_, _, pre50 _ ?_, hrun, hended, _, _, rfl, ?_, ⟨_, rfl⟩, hW, hsame.mono (by decide) (by decide)⟩
    · skip
      show Steps p.tables e below (T47.setTop (mkF m 176 #[.val (.int p0), .val (.long q1), .second, .val (.long q2), .second, .val (.long q3), .second, .val (.int p4), .val (.int (v0_1 p0 q1 q2 q3 p4)), .val (.long (v0_3 p0 q1 q2 q3 p4)), .second, .val (.int (v0_5 p0 q1 q2 q3 p4)), .val (.int (v0_6 p0 q1 q2 q3 p4)), .val (.long (v0_8 p0 q1 q2 q3 p4)), .second, .val (.long (v0_9 p0 q1 q2 q3 p4)), .second, .val (.ref b19), .val (.ref x5_0_27)] [(.int (v0_17 p0 q1 q2 q3 p4))])) _
      rw [hv51]
      exact retN X47 hx (t := .boolean) Bd.returns (by simp) (hb hby at_176) hr
    · skip
      show Q0 Z p0 q1 q2 q3 p4 h0 n0 _ T47.heap _
      rw [e47]
      exact ⟨rfl, N47⟩
set_option maxRecDepth 65536 in
set_option maxHeartbeats 40000000 in
theorem comes_1 {Post : Tables → Env → Array Value → State → Outcome → State → Prop} (hpost : ∀ tb e args s v u, (limb_1_1.after args s (.returned v) u = true ∧ limb_1_2.after args s (.returned v) u = true ∧ True) → FrameEnd s (.returned v) u (Jvm.fieldLocs frame_1_writes args s ++ Jvm.arrayLocs frame_1_arrays args s ++ Jvm.staticLocs frame_1_statics s) 16 128 → Post tb e args s (.returned v) u) :
    ArmFor flags0 classFile x code maxLocals ret World_1 tables_1 room_1 Calls_1 rest_1 Pre_1 Post := by
  intro l hfl _ _ p e ha hc hk s m args below hf hA hF happ hP
  obtain ⟨hcalls, hrest, hpre⟩ := hP
  obtain ⟨-, -, -, hnamed, -, -, -, hat⟩ := (Spec.applies_iff hf).mp happ
  obtain ⟨hg, hn⟩ := and_e (Cond.before_iff.mp (show (Jvm.Cond.and given_1 narrow_1).before args s = true from hpre))
  obtain ⟨hcount, r0⟩ := and_e hg
  obtain ⟨ha0, r1⟩ := and_e r0
  obtain ⟨ha1, r2⟩ := and_e r1
  obtain ⟨ha2, r3⟩ := and_e r2
  obtain ⟨ha3, r4⟩ := and_e r3
  obtain ⟨w0, w1, w2, w3, w4, rfl⟩ : ∃ w0 w1 w2 w3 w4 : Value, args = #[w0, w1, w2, w3, w4] := by
    have hs : args.size = 5 := by simpa [Cond.value, given_1] using hcount
    obtain ⟨L⟩ := args
    match L, hs with
    | [w0, w1, w2, w3, w4], _ => exact ⟨w0, w1, w2, w3, w4, rfl⟩
  have hw := fun d (hd : d ∈ tables_1) => atoms_spec (ws := Jvm.Cond.code x code maxLocals ret :: tables_1) hat d (List.mem_cons_of_mem _ hd)
  have hfit : Fit s := fun {y c} hc i hi => by
    obtain ⟨ha, rfl⟩ := Array.getElem?_eq_some_iff.mp hc
    have q := List.all_eq_true.mp ((Array.all_eq_true_iff_forall_mem.mp hF) _ (Array.getElem_mem ha)) i (List.mem_range.mpr hi)
    simpa [Array.getElem?_eq_getElem hi] using q
  obtain ⟨i0, ei0⟩ := is_v ha0
  obtain rfl : w0 = (.int i0) := Option.some.inj ei0
  obtain ⟨i1, ei1⟩ := isL_v ha1
  obtain rfl : w1 = (.long i1) := Option.some.inj ei1
  obtain ⟨i2, ei2⟩ := isL_v ha2
  obtain rfl : w2 = (.long i2) := Option.some.inj ei2
  obtain ⟨i3, ei3⟩ := isL_v ha3
  obtain rfl : w3 = (.long i3) := Option.some.inj ei3
  obtain ⟨i4, ei4⟩ := is_v r4
  obtain rfl : w4 = (.int i4) := Option.some.inj ei4
  obtain ⟨n, o, h1, h2, h3, _, L, rfl, ⟨rfl, N⟩, hq⟩ := rm0 l s _ hw tables_1 i0 i1 i2 i3 i4 s.heap s.heap.size (Nat.le_refl _) p e ha hc hk s m _ below hf ((Spec.applies_iff_loose hf).mp happ).1 ⟨rfl, State.Warmed39.refl s, rfl⟩ trivial
  refine ⟨n, _, h1, h2, h3, hpost _ _ _ _ _ _ ⟨Cond.after_iff.mpr rfl, Cond.after_iff.mpr (eq_i res_at (Term.int_eval (1)) rfl), trivial⟩ ⟨hq.1, hq.2.1, (hq.2.2.sift fun y hy => Or.inr (N y hy)).mono (by decide) (by decide)⟩⟩
theorem main_1_1 : Claimed_1_1 := comes_1 fun _ _ _ _ _ _ h hF => ⟨h.1, hF⟩
theorem main_1_2 : Claimed_1_2 := comes_1 fun _ _ _ _ _ _ h hF => ⟨h.2.1, hF⟩
end Jvm.Pilot.@@N@@
namespace Jvm.Pilot.@@N@@
open Jvm Jvm.ClassFile Sem Op Lib Jvm.Free Jvm.Stand Jvm.Pilot.@@N@@.Jvm.D
/-! MADE BY PROGRAM (witnessworld.py) out of the Statement's table words and the real class files: 9 classes; the members and pool entries that the words name. The judged class is class 1, her method 1. -/
namespace start1
open Jvm.ClassFile
def u (s : String) : CpInfo := .utf8 (stringToUtf16 s)
/-- a pool by its gaps: so many unusable entries, then the entry; so many at the end -/
def gap : Nat → List CpInfo → List CpInfo
  | 0, r => r
  | n + 1, r => .unusable :: gap n r
def poolList (es : List (Nat × CpInfo)) (last : Nat) : List CpInfo := es.foldr (fun e r => gap e.1 (e.2 :: r)) (gap last [])
def pool (es : List (Nat × CpInfo)) (last : Nat) : Array CpInfo := ⟨poolList es last⟩
def fileOf (pool : Array CpInfo) (this : Nat) (attrs : Array Attribute := #[]) (ms : Array MethodInfo := #[]) (fl : Nat := 33) (sup : Nat := 0) (ifs : Array Nat := #[]) (fds : Array FieldInfo := #[]) : ClassFile where
  minorVersion := 0
  majorVersion := 65
  constantPool := pool
  accessFlags := fl
  thisClass := this
  superClass := sup
  interfaces := ifs
  fields := fds
  methods := ms
  attributes := attrs
def plain (name : String) (sup : Option ClassId) : Class where
  name := name
  kind := .ordinary
  loader := none
  accessFlags := 33
  super := sup
  interfaces := #[]
  cf := none
  fields := #[]
  methods := #[]
  instanceTypes := #[]
  staticTypes := #[]
  resolved := #[]
  callSites := []
  init := .initialized
  statics := none
  mirror := none

def pool0 : Array CpInfo := pool [(5, u "<init>"), (0, u "()V"), (1, .class_ 10), (1, u "java/lang/Object")] 113

def k0c0 : Code := { maxStack := 0, maxLocals := 1, code := object_method_1_code, exceptionTable := #[], attributes := #[] }
def k0m0 : Method := { name := "<init>", desc := "()V", sig := { parameters := [], returnType := none }, accessFlags := 1, code := some k0c0 }
/-- java/lang/Object -/
def k0 : Class := { plain "java/lang/Object" none with
  accessFlags := 33
  interfaces := #[]
  cf := some (fileOf pool0 8 #[] #[{ accessFlags := 1, nameIndex := 5, descriptorIndex := 6, attributes := #[] }] 33 0 #[] #[])
  fields := #[]
  methods := #[k0m0]
  instanceTypes := #[]
  staticTypes := #[]
  resolved := Array.replicate 124 none
  statics := none }

def pool1 : Array CpInfo := pool [(2, .class_ 4), (1, u "java/lang/Object"), (0, u "<init>"), (0, u "()V"), (2, .integer 2147483647), (0, .long 2147483647), (1, .methodref 13 14), (0, .class_ 15), (0, .nameAndType 16 17), (0, u "java/lang/Math"), (0, u "min"), (0, u "(JJ)J"), (0, .class_ 19), (0, u "com/example/tollgate/tollgate/store/Failures"), (0, .methodref 18 21), (0, .nameAndType 5 22), (0, u "(IJ)V"), (0, .methodref 18 24), (0, .nameAndType 25 26), (0, u "plusOne"), (0, u "(JJ)Lcom/example/tollgate/tollgate/store/Failures;"), (0, .methodref 18 28), (0, .nameAndType 29 30), (0, u "count"), (0, u "()I"), (0, .methodref 18 32), (0, .nameAndType 33 34), (0, u "untilMillis"), (0, u "()J"), (0, .methodref 18 36), (0, .nameAndType 37 38), (0, u "countAt"), (0, u "(J)I"), (0, .class_ 40), (0, u "com/example/tollgate/tollgate/store/FailuresPlusOnePinLaw"), (2, u "law"), (0, u "(IJJJI)Z")] 3

def k1m0 : Method := { name := "<init>", desc := "()V", sig := { parameters := [], returnType := none }, accessFlags := 1, code := none }
def k1c1 : Code := { maxStack := 5, maxLocals := 19, code := code, exceptionTable := #[], attributes := #[] }
def k1m1 : Method := { name := "law", desc := "(IJJJI)Z", sig := { parameters := [.int, .long, .long, .long, .int], returnType := some .boolean }, accessFlags := 9, code := some k1c1 }
/-- com/example/tollgate/tollgate/store/FailuresPlusOnePinLaw -/
def k1 : Class := { plain "com/example/tollgate/tollgate/store/FailuresPlusOnePinLaw" (some 0) with
  accessFlags := 49
  interfaces := #[]
  cf := some (fileOf pool1 39 #[] #[{ accessFlags := 1, nameIndex := 5, descriptorIndex := 6, attributes := #[] }, { accessFlags := 9, nameIndex := 43, descriptorIndex := 44, attributes := #[] }] 49 2 #[] #[])
  fields := #[]
  methods := #[k1m0, k1m1]
  instanceTypes := #[]
  staticTypes := #[]
  resolved := Array.replicate 48 none
  statics := none }

def pool2 : Array CpInfo := pool [(1, .class_ 2), (0, u "java/lang/Math"), (1, .class_ 6), (1, u "java/lang/Object"), (0, u "<init>"), (0, u "()V"), (89, .class_ 100), (1, u "java/lang/Math$RandomNumberGeneratorHolder"), (20, u "(JJ)J"), (50, u "negativeZeroFloatBits"), (0, u "J"), (2, u "negativeZeroDoubleBits"), (24, u "min"), (43, u "$assertionsDisabled"), (0, u "Z"), (91, u "twoToTheDoubleScaleDown"), (0, u "D"), (4, u "twoToTheDoubleScaleUp"), (9, u "E"), (3, u "PI"), (2, u "TAU"), (2, u "DEGREES_TO_RADIANS"), (0, u "RADIANS_TO_DEGREES")] 94

def k2m0 : Method := { name := "<init>", desc := "()V", sig := { parameters := [], returnType := none }, accessFlags := 2, code := none }
def k2c1 : Code := { maxStack := 4, maxLocals := 4, code := jdk_29_method_70_code, exceptionTable := #[], attributes := #[] }
def k2m1 : Method := { name := "min", desc := "(JJ)J", sig := { parameters := [.long, .long], returnType := some .long }, accessFlags := 9, code := some k2c1 }
/-- java/lang/Math -/
def k2 : Class := { plain "java/lang/Math" (some 0) with
  accessFlags := 49
  interfaces := #[]
  cf := some (fileOf pool2 1 #[.nestMembers #[98]] #[{ accessFlags := 2, nameIndex := 7, descriptorIndex := 8, attributes := #[] }, { accessFlags := 9, nameIndex := 201, descriptorIndex := 121, attributes := #[] }] 49 4 #[] #[{ accessFlags := 25, nameIndex := 354, descriptorIndex := 339, attributes := #[] }, { accessFlags := 25, nameIndex := 358, descriptorIndex := 339, attributes := #[] }, { accessFlags := 25, nameIndex := 361, descriptorIndex := 339, attributes := #[] }, { accessFlags := 26, nameIndex := 364, descriptorIndex := 339, attributes := #[] }, { accessFlags := 26, nameIndex := 365, descriptorIndex := 339, attributes := #[] }, { accessFlags := 26, nameIndex := 172, descriptorIndex := 173, attributes := #[] }, { accessFlags := 26, nameIndex := 176, descriptorIndex := 173, attributes := #[] }, { accessFlags := 8, nameIndex := 344, descriptorIndex := 339, attributes := #[] }, { accessFlags := 8, nameIndex := 338, descriptorIndex := 339, attributes := #[] }, { accessFlags := 4120, nameIndex := 245, descriptorIndex := 246, attributes := #[] }])
  fields := #[{ name := "E", type := .double, accessFlags := 25, slot := 0, constantValue := 0 }, { name := "PI", type := .double, accessFlags := 25, slot := 1, constantValue := 0 }, { name := "TAU", type := .double, accessFlags := 25, slot := 2, constantValue := 0 }, { name := "DEGREES_TO_RADIANS", type := .double, accessFlags := 26, slot := 3, constantValue := 0 }, { name := "RADIANS_TO_DEGREES", type := .double, accessFlags := 26, slot := 4, constantValue := 0 }, { name := "negativeZeroFloatBits", type := .long, accessFlags := 26, slot := 5, constantValue := 0 }, { name := "negativeZeroDoubleBits", type := .long, accessFlags := 26, slot := 6, constantValue := 0 }, { name := "twoToTheDoubleScaleUp", type := .double, accessFlags := 8, slot := 7, constantValue := 0 }, { name := "twoToTheDoubleScaleDown", type := .double, accessFlags := 8, slot := 8, constantValue := 0 }, { name := "$assertionsDisabled", type := .boolean, accessFlags := 4120, slot := 9, constantValue := 0 }]
  methods := #[k2m0, k2m1]
  instanceTypes := #[]
  staticTypes := #[.double, .double, .double, .double, .double, .long, .long, .double, .double, .boolean]
  resolved := Array.replicate 460 none
  statics := none }

def pool3 : Array CpInfo := pool [(1, .methodref 2 3), (0, .class_ 4), (0, .nameAndType 5 6), (0, u "java/lang/Object"), (0, u "<init>"), (0, u "()V"), (0, .class_ 8), (0, u "java/lang/Record")] 13

def k3c0 : Code := { maxStack := 1, maxLocals := 1, code := jdk_30_method_1_code, exceptionTable := #[], attributes := #[] }
def k3m0 : Method := { name := "<init>", desc := "()V", sig := { parameters := [], returnType := none }, accessFlags := 4, code := some k3c0 }
/-- java/lang/Record -/
def k3 : Class := { plain "java/lang/Record" (some 0) with
  accessFlags := 1057
  interfaces := #[]
  cf := some (fileOf pool3 7 #[] #[{ accessFlags := 4, nameIndex := 5, descriptorIndex := 6, attributes := #[] }] 1057 2 #[] #[])
  fields := #[]
  methods := #[k3m0]
  instanceTypes := #[]
  staticTypes := #[]
  resolved := Array.replicate 22 none
  statics := none }

def pool4 : Array CpInfo := pool [(1, .methodref 2 3), (0, .class_ 4), (0, .nameAndType 5 6), (0, u "java/lang/Record"), (0, u "<init>"), (0, u "()V"), (0, .fieldref 8 9), (0, .class_ 10), (0, .nameAndType 11 12), (0, u "com/example/tollgate/tollgate/store/Failures"), (0, u "count"), (0, u "I"), (0, .fieldref 8 14), (0, .nameAndType 15 16), (0, u "untilMillis"), (0, u "J"), (2, .integer 2147483647), (0, .methodref 8 21), (0, .nameAndType 5 22), (0, u "(IJ)V"), (18, u "NONE"), (0, u "Lcom/example/tollgate/tollgate/store/Failures;"), (3, u "countAt"), (0, u "(J)I"), (1, u "plusOne"), (0, u "(JJ)Lcom/example/tollgate/tollgate/store/Failures;"), (1, u "()I"), (1, u "()J")] 22

def k4c0 : Code := { maxStack := 3, maxLocals := 4, code := prog_24_method_1_code, exceptionTable := #[], attributes := #[] }
def k4m0 : Method := { name := "<init>", desc := "(IJ)V", sig := { parameters := [.int, .long], returnType := none }, accessFlags := 1, code := some k4c0 }
def k4c1 : Code := { maxStack := 4, maxLocals := 3, code := prog_24_method_2_code, exceptionTable := #[], attributes := #[] }
def k4m1 : Method := { name := "countAt", desc := "(J)I", sig := { parameters := [.long], returnType := some .int }, accessFlags := 1, code := some k4c1 }
def k4c2 : Code := { maxStack := 7, maxLocals := 5, code := prog_24_method_3_code, exceptionTable := #[], attributes := #[] }
def k4m2 : Method := { name := "plusOne", desc := "(JJ)Lcom/example/tollgate/tollgate/store/Failures;", sig := { parameters := [.long, .long], returnType := some (.object "com/example/tollgate/tollgate/store/Failures") }, accessFlags := 1, code := some k4c2 }
def k4c3 : Code := { maxStack := 1, maxLocals := 1, code := prog_24_method_7_code, exceptionTable := #[], attributes := #[] }
def k4m3 : Method := { name := "count", desc := "()I", sig := { parameters := [], returnType := some .int }, accessFlags := 1, code := some k4c3 }
def k4c4 : Code := { maxStack := 2, maxLocals := 1, code := prog_24_method_8_code, exceptionTable := #[], attributes := #[] }
def k4m4 : Method := { name := "untilMillis", desc := "()J", sig := { parameters := [], returnType := some .long }, accessFlags := 1, code := some k4c4 }
/-- com/example/tollgate/tollgate/store/Failures -/
def k4 : Class := { plain "com/example/tollgate/tollgate/store/Failures" (some 3) with
  accessFlags := 49
  interfaces := #[]
  cf := some (fileOf pool4 8 #[] #[{ accessFlags := 1, nameIndex := 5, descriptorIndex := 22, attributes := #[] }, { accessFlags := 1, nameIndex := 46, descriptorIndex := 47, attributes := #[] }, { accessFlags := 1, nameIndex := 49, descriptorIndex := 50, attributes := #[] }, { accessFlags := 1, nameIndex := 11, descriptorIndex := 52, attributes := #[] }, { accessFlags := 1, nameIndex := 15, descriptorIndex := 54, attributes := #[] }] 49 2 #[] #[{ accessFlags := 18, nameIndex := 11, descriptorIndex := 12, attributes := #[] }, { accessFlags := 18, nameIndex := 15, descriptorIndex := 16, attributes := #[] }, { accessFlags := 25, nameIndex := 41, descriptorIndex := 42, attributes := #[] }])
  fields := #[{ name := "count", type := .int, accessFlags := 18, slot := 0, constantValue := 0 }, { name := "untilMillis", type := .long, accessFlags := 18, slot := 1, constantValue := 0 }, { name := "NONE", type := (.object "com/example/tollgate/tollgate/store/Failures"), accessFlags := 25, slot := 0, constantValue := 0 }]
  methods := #[k4m0, k4m1, k4m2, k4m3, k4m4]
  instanceTypes := #[.int, .long]
  staticTypes := #[(.object "com/example/tollgate/tollgate/store/Failures")]
  resolved := Array.replicate 77 none
  statics := none }

def pool5 : Array CpInfo := pool [(1, u "java/lang/Cloneable"), (0, .class_ 1), (0, u "java/lang/Object"), (0, .class_ 3)] 3

/-- java/lang/Cloneable -/
def k5 : Class := { plain "java/lang/Cloneable" (some 0) with
  accessFlags := 1537
  interfaces := #[]
  cf := some (fileOf pool5 2 #[] #[] 1537 4 #[] #[])
  fields := #[]
  methods := #[]
  instanceTypes := #[]
  staticTypes := #[]
  resolved := Array.replicate 8 none
  statics := none }

def pool6 : Array CpInfo := pool [(1, u "java/io/Serializable"), (0, .class_ 1), (0, u "java/lang/Object"), (0, .class_ 3)] 3

/-- java/io/Serializable -/
def k6 : Class := { plain "java/io/Serializable" (some 0) with
  accessFlags := 1537
  interfaces := #[]
  cf := some (fileOf pool6 2 #[] #[] 1537 4 #[] #[])
  fields := #[]
  methods := #[]
  instanceTypes := #[]
  staticTypes := #[]
  resolved := Array.replicate 8 none
  statics := none }

/-- the primitive byte -/
def k7 : Class := { plain "byte" none with kind := .primitive 'B', accessFlags := 0x411 }
/-- [B -/
def k8 : Class := { plain "[B" (some 0) with kind := .array 7 .byte, interfaces := #[5, 6], accessFlags := 1041 }

def heap : Heap := #[]
def classes : Array Class := #[k0, k1, k2, k3, k4, k5, k6, k7, k8]
def interned : List (Array UInt16 × Addr) := []
def slotsUsed : Nat := 0
def theMethod : MethodId := ⟨1, 1⟩
def args0 : Array Value := #[.int 5, .long 7, .long 9, .long 11, .int 1]
def aboutOver (below : List Frame) : State where
  vm := { classes := classes, interned := interned.toArray }
  heap := heap
  slotsUsed := slotsUsed
  threads := #[{ frames := .invoking theMethod args0 :: below }]
def below0 : List Frame := [.native { method := ⟨0, 0⟩, args := #[] }]
def about1 : State := aboutOver below0
def p0 : Program := .bare "" "" ""
def e0 : Env := launch0.env 0 0 0
theorem w_frames : about1.frames = Frame.invoking theMethod args0 :: below0 := rfl
set_option maxRecDepth 65536 in
theorem w_args : argsFit about1.vm theMethod args0 = true := by decide +kernel
set_option maxRecDepth 65536 in
theorem w_heap : heapFits about1 = true := by decide +kernel
set_option maxRecDepth 65536 in
theorem w_runnable : about1.curStatus? = some .runnable := by decide +kernel
set_option maxRecDepth 65536 in
theorem w_alone : about1.alone = true := by decide +kernel
set_option maxRecDepth 65536 in
theorem w_named : about1.methodNamed? x = some theMethod := by decide +kernel
set_option maxRecDepth 65536 in
theorem w_hears : about1.hears theMethod below0 = true := by decide +kernel
set_option maxRecDepth 65536 in
theorem w_ripe : about1.ripe theMethod args0 below0 = true := by decide +kernel
theorem w_running : about1.status = .running := rfl
set_option maxRecDepth 65536 in
theorem w_room : about1.hasRoom e0.platform room_1 = true :=
  launch0.hasRoom_least _ room_1 (by decide +kernel) (by decide +kernel) (by decide +kernel) (by decide +kernel) (by decide +kernel) (by decide +kernel)
theorem allAtoms_all (ts : List Jvm.Cond) (a : Array Jvm.Value) (st : Jvm.State) : (allAtoms ts).before a st = ts.all (fun c => c.before a st) := by
  induction ts with
  | nil => rfl
  | cons c t ih =>
    show (Jvm.Cond.and c (allAtoms t)).before a st = _
    rw [Jvm.Cond.before_and, ih, List.all_cons]
def words1 : List Jvm.Cond := Jvm.Cond.code x code maxLocals ret :: tables_1
/-- a 'code' word, met by the world's own term for the bytes: nothing is compared byte by byte -/
theorem code_word {y : MethodName} {bytes : ByteArray} {mx : Nat} {rt : Option FieldType} {a : Array Value} {s : State} {m : MethodId} {meth : Method} {c : Code} (h1 : s.methodNamed? y = some m) (h2 : s.vm.method? m = some meth) (h3 : meth.code = some c) (h4 : c.code = bytes)
    (h5 : (c.maxLocals == mx && c.exceptionTable.isEmpty && decide (c.maxStack ≤ mostOperands) && decide (meth.sig.returnType = rt) && !meth.locks && decide (parseMethodDescriptor y.desc = some meth.sig)) = true) : (Jvm.Cond.code y bytes mx rt).before a s = true := by
  simp only [Bool.and_eq_true, beq_iff_eq, Bool.not_eq_true', decide_eq_true_eq] at h5
  obtain ⟨⟨⟨⟨⟨g1, g2⟩, g3⟩, g4⟩, g5⟩, g6⟩ := h5
  simp [Cond.before, Cond.holds, Cond.value, h1, h2, h3, h4, g1, g2, g3, g4, g5, g6]
def isCode : Jvm.Cond → Bool
  | .code _ _ _ _ => true
  | _ => false
theorem all_split {L : List Jvm.Cond} {P : Jvm.Cond → Bool} (h1 : L.all (fun c => isCode c || P c) = true) (h2 : ∀ c ∈ L.filter isCode, P c = true) : L.all P = true := by
  refine List.all_eq_true.mpr fun c hc => ?_
  have h := List.all_eq_true.mp h1 c hc
  rcases Bool.eq_false_or_eq_true (isCode c) with hi | hi
  · exact h2 c (List.mem_filter.mpr ⟨hc, hi⟩)
  · simpa [hi] using h
set_option maxRecDepth 65536 in
theorem w_c0 : (Jvm.Cond.code x code maxLocals ret).before args0 about1 = true := code_word (m := ⟨1, 1⟩) (meth := k1m1) (c := k1c1) (by decide +kernel) rfl rfl rfl (by decide +kernel)
set_option maxRecDepth 65536 in
theorem w_c1 : (Jvm.Cond.code ({ cls := "java/lang/Math", name := "min", desc := "(JJ)J" } : Jvm.MethodName) jdk_29_method_70_code (4 : Nat) (Option.some Jvm.ClassFile.FieldType.long)).before args0 about1 = true := code_word (m := ⟨2, 1⟩) (meth := k2m1) (c := k2c1) (by decide +kernel) rfl rfl rfl (by decide +kernel)
set_option maxRecDepth 65536 in
theorem w_c2 : (Jvm.Cond.code ({ cls := "com/example/tollgate/tollgate/store/Failures", name := "<init>", desc := "(IJ)V" } : Jvm.MethodName) prog_24_method_1_code (4 : Nat) (Option.none : Option Jvm.ClassFile.FieldType)).before args0 about1 = true := code_word (m := ⟨4, 0⟩) (meth := k4m0) (c := k4c0) (by decide +kernel) rfl rfl rfl (by decide +kernel)
set_option maxRecDepth 65536 in
theorem w_c3 : (Jvm.Cond.code ({ cls := "java/lang/Record", name := "<init>", desc := "()V" } : Jvm.MethodName) jdk_30_method_1_code (1 : Nat) (Option.none : Option Jvm.ClassFile.FieldType)).before args0 about1 = true := code_word (m := ⟨3, 0⟩) (meth := k3m0) (c := k3c0) (by decide +kernel) rfl rfl rfl (by decide +kernel)
set_option maxRecDepth 65536 in
theorem w_c4 : (Jvm.Cond.code ({ cls := "java/lang/Object", name := "<init>", desc := "()V" } : Jvm.MethodName) object_method_1_code (1 : Nat) (Option.none : Option Jvm.ClassFile.FieldType)).before args0 about1 = true := code_word (m := ⟨0, 0⟩) (meth := k0m0) (c := k0c0) (by decide +kernel) rfl rfl rfl (by decide +kernel)
set_option maxRecDepth 65536 in
theorem w_c5 : (Jvm.Cond.code ({ cls := "com/example/tollgate/tollgate/store/Failures", name := "plusOne", desc := "(JJ)Lcom/example/tollgate/tollgate/store/Failures;" } : Jvm.MethodName) prog_24_method_3_code (5 : Nat) (Option.some (Jvm.ClassFile.FieldType.object "com/example/tollgate/tollgate/store/Failures"))).before args0 about1 = true := code_word (m := ⟨4, 2⟩) (meth := k4m2) (c := k4c2) (by decide +kernel) rfl rfl rfl (by decide +kernel)
set_option maxRecDepth 65536 in
theorem w_c6 : (Jvm.Cond.code ({ cls := "com/example/tollgate/tollgate/store/Failures", name := "count", desc := "()I" } : Jvm.MethodName) prog_24_method_7_code (1 : Nat) (Option.some Jvm.ClassFile.FieldType.int)).before args0 about1 = true := code_word (m := ⟨4, 3⟩) (meth := k4m3) (c := k4c3) (by decide +kernel) rfl rfl rfl (by decide +kernel)
set_option maxRecDepth 65536 in
theorem w_c7 : (Jvm.Cond.code ({ cls := "com/example/tollgate/tollgate/store/Failures", name := "untilMillis", desc := "()J" } : Jvm.MethodName) prog_24_method_8_code (1 : Nat) (Option.some Jvm.ClassFile.FieldType.long)).before args0 about1 = true := code_word (m := ⟨4, 4⟩) (meth := k4m4) (c := k4c4) (by decide +kernel) rfl rfl rfl (by decide +kernel)
set_option maxRecDepth 65536 in
theorem w_c8 : (Jvm.Cond.code ({ cls := "com/example/tollgate/tollgate/store/Failures", name := "countAt", desc := "(J)I" } : Jvm.MethodName) prog_24_method_2_code (3 : Nat) (Option.some Jvm.ClassFile.FieldType.int)).before args0 about1 = true := code_word (m := ⟨4, 1⟩) (meth := k4m1) (c := k4c1) (by decide +kernel) rfl rfl rfl (by decide +kernel)
def codes1 : List Jvm.Cond := [Jvm.Cond.code x code maxLocals ret, Jvm.Cond.code ({ cls := "java/lang/Math", name := "min", desc := "(JJ)J" } : Jvm.MethodName) jdk_29_method_70_code (4 : Nat) (Option.some Jvm.ClassFile.FieldType.long), Jvm.Cond.code ({ cls := "com/example/tollgate/tollgate/store/Failures", name := "<init>", desc := "(IJ)V" } : Jvm.MethodName) prog_24_method_1_code (4 : Nat) (Option.none : Option Jvm.ClassFile.FieldType), Jvm.Cond.code ({ cls := "java/lang/Record", name := "<init>", desc := "()V" } : Jvm.MethodName) jdk_30_method_1_code (1 : Nat) (Option.none : Option Jvm.ClassFile.FieldType), Jvm.Cond.code ({ cls := "java/lang/Object", name := "<init>", desc := "()V" } : Jvm.MethodName) object_method_1_code (1 : Nat) (Option.none : Option Jvm.ClassFile.FieldType), Jvm.Cond.code ({ cls := "com/example/tollgate/tollgate/store/Failures", name := "plusOne", desc := "(JJ)Lcom/example/tollgate/tollgate/store/Failures;" } : Jvm.MethodName) prog_24_method_3_code (5 : Nat) (Option.some (Jvm.ClassFile.FieldType.object "com/example/tollgate/tollgate/store/Failures")), Jvm.Cond.code ({ cls := "com/example/tollgate/tollgate/store/Failures", name := "count", desc := "()I" } : Jvm.MethodName) prog_24_method_7_code (1 : Nat) (Option.some Jvm.ClassFile.FieldType.int), Jvm.Cond.code ({ cls := "com/example/tollgate/tollgate/store/Failures", name := "untilMillis", desc := "()J" } : Jvm.MethodName) prog_24_method_8_code (1 : Nat) (Option.some Jvm.ClassFile.FieldType.long), Jvm.Cond.code ({ cls := "com/example/tollgate/tollgate/store/Failures", name := "countAt", desc := "(J)I" } : Jvm.MethodName) prog_24_method_2_code (3 : Nat) (Option.some Jvm.ClassFile.FieldType.int)]
set_option maxRecDepth 65536 in
theorem codes_eq : words1.filter isCode = codes1 := rfl
theorem w_codes : ∀ c ∈ words1.filter isCode, c.before args0 about1 = true := by
  rw [codes_eq]
  intro c hc
  simp only [codes1, List.mem_cons, List.not_mem_nil, or_false] at hc
  rcases hc with rfl | rfl | rfl | rfl | rfl | rfl | rfl | rfl | rfl
  · exact w_c0
  · exact w_c1
  · exact w_c2
  · exact w_c3
  · exact w_c4
  · exact w_c5
  · exact w_c6
  · exact w_c7
  · exact w_c8
set_option maxRecDepth 65536 in
theorem w_t1 : (words1.take 24).all (fun c => isCode c || c.before args0 about1) = true := by decide +kernel
set_option maxRecDepth 65536 in
theorem w_t2 : (words1.drop 24).all (fun c => isCode c || c.before args0 about1) = true := by decide +kernel
theorem w_tables : (allAtoms (Jvm.Cond.code x code maxLocals ret :: tables_1)).before args0 about1 = true := by
  rw [allAtoms_all]
  show words1.all (fun c => c.before args0 about1) = true
  refine all_split ?_ w_codes
  rw [← List.take_append_drop 24 words1, List.all_append, w_t1, w_t2]
  rfl
set_option maxRecDepth 65536 in
theorem w_case : (Jvm.Cond.and given_1 narrow_1).before args0 about1 = true := by decide +kernel
theorem w_applies : (headSpec (Jvm.Cond.code x code maxLocals ret :: tables_1) room_1).applies x e0.platform about1 = true :=
  (Spec.applies_iff w_frames).mpr ⟨w_running, w_runnable, w_alone, w_named, w_hears, w_ripe, w_room, w_tables⟩
theorem atStart : AtStart classFile x code maxLocals ret World_1 tables_1 room_1 Calls_1 rest_1 Pre_1 launch0 p0 e0 about1 theMethod args0 below0 :=
  ⟨lists_1, trivial, launch0.admits_env _ _ _, launch0.least_env, fairChoices_fair.cas, fairChoices_fair.clock, w_frames, w_args, w_heap, w_applies, trivial, trivial, w_case⟩
end start1
theorem witness_1 : WitnessClaimed_1 := ⟨start1.p0, start1.e0, start1.about1, start1.theMethod, start1.args0, start1.below0, start1.atStart⟩
end Jvm.Pilot.@@N@@
