import JvmDerived
import JvmDerived.Pilot.@@N@@Statement
import JvmDerived.Pilot.@@N@@Code
set_option linter.unusedVariables false
set_option linter.unusedSimpArgs false
@@BLOCK:NumsL.lean.txt@@
namespace Jvm.RoadKit
open Sem ClassFile Op Lib Jvm.Stand Jvm.Free Jvm.LawKit
section New
variable {p : Program} {l : Launch} {e : Env} {R : Room} {s : State} {m : MethodId} {args : Array Value} {below : List Frame} {meth : Method} {c : Code} {T : State} {locs : List Loc} {cells slots : Nat}
theorem retI (X : Stand p l e R s m args below meth c T locs cells slots) (hx : p.tables.exec = Jvm.exec) {pc : Nat} {Ls : Array Slot} {z : Int32} {rest : List Value} (hret : meth.sig.returnType = some .int) (hd : decode c.code pc = .ok (.ireturn, 1)) {fs : List Frame}
    (hl : ∀ (f : JFrame) (acts : List Action), f.method = m → f.locked = none → f.entered = [] → (doReturn e (T.setTop f) acts (some (.int z))).1 = T.setFrames fs) : Steps p.tables e below (T.setTop (mkF m pc Ls (.int z :: rest))) (T.setFrames fs) := by
  have hm' : T.vm.method? m = some meth := X.method'
  have hn : narrow .int (.int z) = .int z := rfl
  show Steps p.tables e below (T.setTop { method := m, pc := pc, locals := Ls, stack := _ :: rest, locked := none }) _
  jvm_step X.here [X.here.top, hx, hd, hm', hret, hn]
  first | (intro acts; rw [hl _ acts rfl rfl rfl]) | rw [hl _ _ rfl rfl rfl]
  exact Steps.refl _
end New
end Jvm.RoadKit
namespace Jvm.Pilot.@@N@@
open Jvm Jvm.ClassFile Sem Op Lib Jvm.Free Jvm.Stand Jvm.LawKit Jvm.RoadKit Bundle Jvm.Pilot.@@N@@.Jvm.D
theorem own_rem32 (x y : Int32) : (x - (x / y) * y).toInt = x.toInt.tmod y.toInt := by
  rw [Int32.toInt_sub, Int32.toInt_mul, Int32.toInt_div]
  simp only [Int.bmod_mul_bmod, Int.sub_bmod_bmod]
  rw [Int.tmod_def, Int.mul_comm y.toInt]
  have h := Int32.toInt_mod x y
  have h1 := (x % y).toInt_lt
  have h2 := (x % y).le_toInt
  rw [h, Int.tmod_def, Int.mul_comm y.toInt] at h1 h2
  exact Int.bmod_eq_of_le (by omega) (by omega)
theorem d2_0 : decode jdk_30_method_1_code 0 = .ok (.aload_n 0, 1) := by decide +kernel
theorem d2_1 : decode jdk_30_method_1_code 1 = .ok (.invokespecial 1, 3) := by decide +kernel
theorem d2_4 : decode jdk_30_method_1_code 4 = .ok (.return_, 1) := by decide +kernel
theorem pn_java_lang_Record : plainName "java/lang/Record" = true := by first | (simp [plainName, overriddenIn]; done) | decide +kernel
theorem ef_2 (m : MethodId) (o0 : Addr) : entryFrame m #[(.ref o0)] 1 = mkF m 0 #[.val (.ref o0)] [] := by first | (simp [entryFrame, mkF, argsToLocals, Value.category]; done) | rfl
def Q2 (Z : State) (o0 : Addr) (h0 : Heap) (n0 : Nat) (v : Option Value) (h : Heap) (L : List Loc) : Prop := Fr n0 L ∧ v = none ∧ h = h0
set_option maxRecDepth 65536 in
set_option maxHeartbeats 40000000 in
theorem rm2 (l : Launch) (Z : State) (a0 : Array Value) (hw : ∀ d ∈ tables_1, d.before a0 Z = true) (ws : List Jvm.Cond) (o0 : Addr) (h0 : Heap) (n0 : Nat) (Z0 : n0 ≤ h0.size) :
    MetFree l (⟨"java/lang/Record", "<init>", "()V"⟩ : MethodName) (head1 (Jvm.Cond.code (⟨"java/lang/Record", "<init>", "()V"⟩ : MethodName) jdk_30_method_1_code 1 none :: ws) ({ frames := 1, cells := 0, slots := 0, locals := 12 } : Room)) (fun a U => a = #[(.ref o0)] ∧ Z.Warmed39 U.vm ∧ U.heap = h0) (fun _ _ _ _ _ => True) (fun _ U o U' => ∃ v L, o = .returned v ∧ Q2 Z o0 h0 n0 v U'.heap L ∧ FrameEnd U o U' L ({ frames := 1, cells := 0, slots := 0, locals := 12 } : Room).cells ({ frames := 1, cells := 0, slots := 0, locals := 12 } : Room).slots) := by
  refine MetFree.of_bodySF (plainFor_of_name pn_java_lang_Record) hisR ?_
  intro p e s m args below meth c s₁ Bd hml0 hP hK
  obtain ⟨rfl, hZ, hh⟩ := hP
  have hx := Bd.exec
  have hby := Bd.bytes
  have hml : c.maxLocals = 1 := hml0
  have hown : s.vm.findClass "java/lang/Record" = some m.cls := findClass_of_methodNamed Bd.named
  have hnm := (name_of_methodNamed Bd.named Bd.method).1
  have X0 : Stand p l e ({ frames := 1, cells := 0, slots := 0, locals := 12 } : Room) s m #[(.ref o0)] below meth c s₁ [] 0 0 := Stand.of_body Bd
  have e0 : s₁.heap = h0 := by rw [← hh, Bd.state]; rfl
  have N0 := Fr.nil n0
  have pre0 : ∀ t, Steps p.tables e below (s₁.setTop (mkF m 0 #[.val (.ref o0)] [])) t → Steps p.tables e below (s₁.setTop (entryFrame m #[(.ref o0)] 1)) t := fun t k => castTop (ef_2 m o0) k
  obtain ⟨T1, X1, e1, st1⟩ := initO X0 hx hZ hown (hw _ (List.mem_of_getElem? (i := 11) rfl)) (hw _ (List.mem_of_getElem? (i := 12) rfl)) (hw _ (List.mem_of_getElem? (i := 13) rfl)) e0 (g := (mkF m 1 #[.val (.ref o0)] [(.ref o0)])) rfl (by rw [hml]; rfl) rfl (hb hby d2_1) (by decide) (W := 0) (by show 2 * 0 + _ ≤ _; exact Nat.le_of_eq rfl) (by decide)
  obtain ⟨fs, hr, hrun, hended, hW, hsame⟩ := X1.leave (v := none) (fun _ => rfl)
  refine ⟨_, _, pre0 _ ?_, hrun, hended, _, _, rfl, ?_, ⟨_, rfl⟩, hW, hsame.mono (by decide) (by decide)⟩
  · skip
    show Steps p.tables e below (s₁.setTop (mkF m 0 #[.val (.ref o0)] [])) _
    refine XS.aloadN X0.here hx rfl (hb hby d2_0) rfl rfl ?_
    show Steps p.tables e below (s₁.setTop (mkF m 1 #[.val (.ref o0)] [(.ref o0)])) _
    refine st1 _ ?_
    show Steps p.tables e below (T1.setTop (mkF m 4 #[.val (.ref o0)] [])) _
    exact X1.returnOut hx Bd.returns (hb hby d2_4) hr
  · skip
    show Q2 Z o0 h0 n0 _ T1.heap _
    rw [e1]
    exact ⟨N0, rfl, rfl⟩
theorem pd___V : parseMethodDescriptor "()V" = some ⟨[], none⟩ := by decide +kernel
theorem d1_0 : decode prog_24_method_1_code 0 = .ok (.aload_n 0, 1) := by decide +kernel
theorem d1_1 : decode prog_24_method_1_code 1 = .ok (.invokespecial 1, 3) := by decide +kernel
theorem d1_4 : decode prog_24_method_1_code 4 = .ok (.aload_n 0, 1) := by decide +kernel
theorem d1_5 : decode prog_24_method_1_code 5 = .ok (.iload_n 1, 1) := by decide +kernel
theorem d1_6 : decode prog_24_method_1_code 6 = .ok (.putfield 7, 3) := by decide +kernel
theorem d1_9 : decode prog_24_method_1_code 9 = .ok (.aload_n 0, 1) := by decide +kernel
theorem d1_10 : decode prog_24_method_1_code 10 = .ok (.lload_n 2, 1) := by decide +kernel
theorem d1_11 : decode prog_24_method_1_code 11 = .ok (.putfield 13, 3) := by decide +kernel
theorem d1_14 : decode prog_24_method_1_code 14 = .ok (.return_, 1) := by decide +kernel
theorem pn_com_example_tollgate_tollgate_store_Failures : plainName "com/example/tollgate/tollgate/store/Failures" = true := by first | (simp [plainName, overriddenIn]; done) | decide +kernel
theorem ef_1 (m : MethodId) (o0 : Addr) (p1 : Int32) (q2 : Int64) : entryFrame m #[(.ref o0), (.int p1), (.long q2)] 4 = mkF m 0 #[.val (.ref o0), .val (.int p1), .val (.long q2), .second] [] := by first | (simp [entryFrame, mkF, argsToLocals, Value.category]; done) | rfl
def Q1 (Z : State) (o0 : Addr) (p1 : Int32) (q2 : Int64) (u0_count : Value) (u1_untilMillis : Value) (h0 : Heap) (n0 : Nat) (v : Option Value) (h : Heap) (L : List Loc) : Prop := Fr n0 L ∧ v = none ∧ Keep h0 h [o0] ∧ Exa Z h o0 "com/example/tollgate/tollgate/store/Failures" ∧ Fld Z h o0 "com/example/tollgate/tollgate/store/Failures" "count" "I" (.int p1) ∧ Fld Z h o0 "com/example/tollgate/tollgate/store/Failures" "untilMillis" "J" (.long q2)
set_option maxRecDepth 65536 in
set_option maxHeartbeats 40000000 in
theorem rm1 (l : Launch) (Z : State) (a0 : Array Value) (hw : ∀ d ∈ tables_1, d.before a0 Z = true) (ws : List Jvm.Cond) (o0 : Addr) (p1 : Int32) (q2 : Int64) (u0_count : Value) (u1_untilMillis : Value) (h0 : Heap) (n0 : Nat) (Z0 : n0 ≤ h0.size) (E_o0 : Exa Z h0 o0 "com/example/tollgate/tollgate/store/Failures") (F_count_o0 : Fld Z h0 o0 "com/example/tollgate/tollgate/store/Failures" "count" "I" u0_count) (g_o0 : n0 ≤ o0) (F_untilMillis_o0 : Fld Z h0 o0 "com/example/tollgate/tollgate/store/Failures" "untilMillis" "J" u1_untilMillis) :
    MetFree l (⟨"com/example/tollgate/tollgate/store/Failures", "<init>", "(IJ)V"⟩ : MethodName) (head1 (Jvm.Cond.code (⟨"com/example/tollgate/tollgate/store/Failures", "<init>", "(IJ)V"⟩ : MethodName) prog_24_method_1_code 4 none :: ws) ({ frames := 2, cells := 0, slots := 0, locals := 24 } : Room)) (fun a U => a = #[(.ref o0), (.int p1), (.long q2)] ∧ Z.Warmed39 U.vm ∧ U.heap = h0) (fun _ _ _ _ _ => True) (fun _ U o U' => ∃ v L, o = .returned v ∧ Q1 Z o0 p1 q2 u0_count u1_untilMillis h0 n0 v U'.heap L ∧ FrameEnd U o U' L ({ frames := 2, cells := 0, slots := 0, locals := 24 } : Room).cells ({ frames := 2, cells := 0, slots := 0, locals := 24 } : Room).slots) := by
  refine MetFree.of_bodySF (plainFor_of_name pn_com_example_tollgate_tollgate_store_Failures) hisR ?_
  intro p e s m args below meth c s₁ Bd hml0 hP hK
  obtain ⟨rfl, hZ, hh⟩ := hP
  have hx := Bd.exec
  have hby := Bd.bytes
  have hml : c.maxLocals = 4 := hml0
  have hown : s.vm.findClass "com/example/tollgate/tollgate/store/Failures" = some m.cls := findClass_of_methodNamed Bd.named
  have hnm := (name_of_methodNamed Bd.named Bd.method).1
  have X0 : Stand p l e ({ frames := 2, cells := 0, slots := 0, locals := 24 } : Room) s m #[(.ref o0), (.int p1), (.long q2)] below meth c s₁ [] 0 0 := Stand.of_body Bd
  have e0 : s₁.heap = h0 := by rw [← hh, Bd.state]; rfl
  have N0 := Fr.nil n0
  have pre0 : ∀ t, Steps p.tables e below (s₁.setTop (mkF m 0 #[.val (.ref o0), .val (.int p1), .val (.long q2), .second] [])) t → Steps p.tables e below (s₁.setTop (entryFrame m #[(.ref o0), (.int p1), (.long q2)] 4)) t := fun t k => castTop (ef_1 m o0 p1 q2) k
  obtain ⟨_, _, ⟨T1, L1, k1, n1⟩, -, X1, ⟨Lc1, hQ1, l1, y1, z1⟩, st1⟩ := X0.specialBack hx (y := (⟨"java/lang/Record", "<init>", "()V"⟩ : MethodName)) rfl hown (mvT hZ (hw _ (List.mem_of_getElem? (i := 6) rfl))) (mvT hZ (hw _ (List.mem_of_getElem? (i := 7) rfl))) (mvT hZ (hw _ (List.mem_of_getElem? (i := 10) rfl))) (by decide) (backOf (W := 0) (rm2 l Z a0 hw [] o0 h0 n0 Z0) hZ (hw _ (List.mem_of_getElem? (i := 10) rfl)) (hw _ (List.mem_of_getElem? (i := 9) rfl)) (by decide) (by decide)) (g := (mkF m 1 #[.val (.ref o0), .val (.int p1), .val (.long q2), .second] [(.ref o0)])) rfl (by rw [hml]; rfl) (Steps.refl _) (a := o0) (argsL := []) (rest := []) (lenOf pd___V rfl) rfl (by show 2 * 0 + _ ≤ _; exact Nat.le_of_eq rfl) (hb hby d1_1) (fun _ _ => ⟨rfl, e0, (by decide : 0 + 0 ≤ _), (by decide : 0 + 0 ≤ _)⟩)
  dsimp only [Pt.U, Pt.locs, Pt.cells, Pt.slots] at X1 l1 y1 z1 st1 hQ1
  subst l1 y1 z1
  obtain ⟨N1q, rfl, e1⟩ := hQ1
  have N1 := Fr.app N0 N1q
  obtain ⟨T2, h2, X2, e2, W2, st2⟩ := putF X1 hx hZ hown (host := "") (Or.inl (hw _ (List.mem_of_getElem? (i := 14) rfl))) Via.refl e1 F_count_o0 E_o0 (Or.inr ⟨(hw _ (List.mem_of_getElem? (i := 15) rfl)), rfl, hnm⟩) (hw _ (List.mem_of_getElem? (i := 1) rfl)) (ty := .int) (by decide) rfl rfl (g := (mkF m 6 #[.val (.ref o0), .val (.int p1), .val (.long q2), .second] [(.int p1), (.ref o0)])) rfl rfl (hb hby d1_6)
  have Fw2 := F_count_o0.same W2
  have N2 := Fr.snoc X2 N1 g_o0
  have z3 : n0 ≤ h2.size := Nat.le_trans Z0 (Keep.of_wr W2).1
  have hs4 : h0.size ≤ h2.size := Nat.le_trans (Nat.le_refl h0.size) (Keep.of_wr W2).1
  have k5 := (F_untilMillis_o0.other W2 (Or.inr (slot_ne (Or.inr (hw _ (List.mem_of_getElem? (i := 17) rfl))) (Or.inr (hw _ (List.mem_of_getElem? (i := 15) rfl))) (by decide) (t := .long) (t' := .int) (by decide) (by decide))))
  have k6 := (E_o0.wr W2)
  obtain ⟨T7, h7, X7, e7, W7, st7⟩ := putF X2 hx hZ hown (host := "") (Or.inl (hw _ (List.mem_of_getElem? (i := 16) rfl))) Via.refl e2 k5 k6 (Or.inr ⟨(hw _ (List.mem_of_getElem? (i := 17) rfl)), rfl, hnm⟩) (hw _ (List.mem_of_getElem? (i := 1) rfl)) (ty := .long) (by decide) rfl rfl (g := (mkF m 11 #[.val (.ref o0), .val (.int p1), .val (.long q2), .second] [(.long q2), (.ref o0)])) rfl rfl (hb hby d1_11)
  have Fw7 := k5.same W7
  have N7 := Fr.snoc X7 N2 g_o0
  have z8 : n0 ≤ h7.size := Nat.le_trans z3 (Keep.of_wr W7).1
  have hs9 : h0.size ≤ h7.size := Nat.le_trans hs4 (Keep.of_wr W7).1
  obtain ⟨fs, hr, hrun, hended, hW, hsame⟩ := X7.leave (v := none) (fun _ => rfl)
  refine ⟨_, _, pre0 _ ?_, hrun, hended, _, _, rfl, ?_, ⟨_, rfl⟩, hW, hsame.mono (by decide) (by decide)⟩
  · skip
    show Steps p.tables e below (s₁.setTop (mkF m 0 #[.val (.ref o0), .val (.int p1), .val (.long q2), .second] [])) _
    refine XS.aloadN X0.here hx rfl (hb hby d1_0) rfl rfl ?_
    show Steps p.tables e below (s₁.setTop (mkF m 1 #[.val (.ref o0), .val (.int p1), .val (.long q2), .second] [(.ref o0)])) _
    refine st1.trans ?_
    show Steps p.tables e below (T1.setTop (mkF m 4 #[.val (.ref o0), .val (.int p1), .val (.long q2), .second] [])) _
    refine XS.aloadN X1.here hx rfl (hb hby d1_4) rfl rfl ?_
    show Steps p.tables e below (T1.setTop (mkF m 5 #[.val (.ref o0), .val (.int p1), .val (.long q2), .second] [(.ref o0)])) _
    refine XS.iloadN X1.here hx rfl (hb hby d1_5) rfl ?_
    show Steps p.tables e below (T1.setTop (mkF m 6 #[.val (.ref o0), .val (.int p1), .val (.long q2), .second] [(.int p1), (.ref o0)])) _
    refine st2 _ ?_
    show Steps p.tables e below (T2.setTop (mkF m 9 #[.val (.ref o0), .val (.int p1), .val (.long q2), .second] [])) _
    refine XS.aloadN X2.here hx rfl (hb hby d1_9) rfl rfl ?_
    show Steps p.tables e below (T2.setTop (mkF m 10 #[.val (.ref o0), .val (.int p1), .val (.long q2), .second] [(.ref o0)])) _
    refine XT.lloadN X2.here hx rfl (hb hby d1_10) rfl ?_
    show Steps p.tables e below (T2.setTop (mkF m 11 #[.val (.ref o0), .val (.int p1), .val (.long q2), .second] [(.long q2), (.ref o0)])) _
    refine st7 _ ?_
    show Steps p.tables e below (T7.setTop (mkF m 14 #[.val (.ref o0), .val (.int p1), .val (.long q2), .second] [])) _
    exact X7.returnOut hx Bd.returns (hb hby d1_14) hr
  · skip
    show Q1 Z o0 p1 q2 u0_count u1_untilMillis h0 n0 _ T7.heap _
    rw [e7]
    have k10 := (k6.wr W7)
    have k11 := (Fw2.other W7 (Or.inr (slot_ne (Or.inr (hw _ (List.mem_of_getElem? (i := 15) rfl))) (Or.inr (hw _ (List.mem_of_getElem? (i := 17) rfl))) (by decide) (t := .int) (t' := .long) (by decide) (by decide))))
    exact ⟨N7, rfl, (((Keep.refl h0 [o0]).wr W2 (Or.inl (List.mem_of_getElem? (i := 0) rfl))).wr W7 (Or.inl (List.mem_of_getElem? (i := 0) rfl))), k10, k11, Fw7⟩
theorem d4_0 : decode prog_24_method_2_code 0 = .ok (.lload_n 1, 1) := by decide +kernel
theorem d4_1 : decode prog_24_method_2_code 1 = .ok (.aload_n 0, 1) := by decide +kernel
theorem d4_2 : decode prog_24_method_2_code 2 = .ok (.getfield 13, 3) := by decide +kernel
theorem d4_5 : decode prog_24_method_2_code 5 = .ok (.lcmp, 1) := by decide +kernel
theorem d4_6 : decode prog_24_method_2_code 6 = .ok (.ifCond .ge 10, 3) := by decide +kernel
theorem d4_9 : decode prog_24_method_2_code 9 = .ok (.aload_n 0, 1) := by decide +kernel
theorem d4_10 : decode prog_24_method_2_code 10 = .ok (.getfield 7, 3) := by decide +kernel
theorem d4_13 : decode prog_24_method_2_code 13 = .ok (.goto 4, 3) := by decide +kernel
theorem d4_16 : decode prog_24_method_2_code 16 = .ok (.iconst 0, 1) := by decide +kernel
theorem d4_17 : decode prog_24_method_2_code 17 = .ok (.ireturn, 1) := by decide +kernel
theorem ef_4 (m : MethodId) (o0 : Addr) (q1 : Int64) : entryFrame m #[(.ref o0), (.long q1)] 3 = mkF m 0 #[.val (.ref o0), .val (.long q1), .second] [] := by first | (simp [entryFrame, mkF, argsToLocals, Value.category]; done) | rfl
def v4_1 (q1 : Int64) (w0_untilMillis : Int64) (w1_count : Int32) : Int32 := (if q1 < w0_untilMillis then w1_count else (0 : Int32))
def f4 (q1 : Int64) (w0_untilMillis : Int64) (w1_count : Int32) : Int32 := (v4_1 q1 w0_untilMillis w1_count)
def Q4 (Z : State) (o0 : Addr) (q1 : Int64) (w0_untilMillis : Int64) (w1_count : Int32) (h0 : Heap) (n0 : Nat) (v : Option Value) (h : Heap) (L : List Loc) : Prop := Fr n0 L ∧ v = some (.int (f4 q1 w0_untilMillis w1_count)) ∧ h = h0
set_option maxRecDepth 65536 in
set_option maxHeartbeats 40000000 in
theorem rm4 (l : Launch) (Z : State) (a0 : Array Value) (hw : ∀ d ∈ tables_1, d.before a0 Z = true) (ws : List Jvm.Cond) (o0 : Addr) (q1 : Int64) (w0_untilMillis : Int64) (w1_count : Int32) (h0 : Heap) (n0 : Nat) (Z0 : n0 ≤ h0.size) (F_untilMillis_o0 : Fld Z h0 o0 "com/example/tollgate/tollgate/store/Failures" "untilMillis" "J" (.long w0_untilMillis)) (F_count_o0 : Fld Z h0 o0 "com/example/tollgate/tollgate/store/Failures" "count" "I" (.int w1_count)) :
    MetFree l (⟨"com/example/tollgate/tollgate/store/Failures", "countAt", "(J)I"⟩ : MethodName) (head1 (Jvm.Cond.code (⟨"com/example/tollgate/tollgate/store/Failures", "countAt", "(J)I"⟩ : MethodName) prog_24_method_2_code 3 (some .int) :: ws) ({ frames := 0, cells := 0, slots := 0, locals := 0 } : Room)) (fun a U => a = #[(.ref o0), (.long q1)] ∧ Z.Warmed39 U.vm ∧ U.heap = h0) (fun _ _ _ _ _ => True) (fun _ U o U' => ∃ v L, o = .returned v ∧ Q4 Z o0 q1 w0_untilMillis w1_count h0 n0 v U'.heap L ∧ FrameEnd U o U' L ({ frames := 0, cells := 0, slots := 0, locals := 0 } : Room).cells ({ frames := 0, cells := 0, slots := 0, locals := 0 } : Room).slots) := by
  refine MetFree.of_bodySF (plainFor_of_name pn_com_example_tollgate_tollgate_store_Failures) hisR ?_
  intro p e s m args below meth c s₁ Bd hml0 hP hK
  obtain ⟨rfl, hZ, hh⟩ := hP
  have hx := Bd.exec
  have hby := Bd.bytes
  have hml : c.maxLocals = 3 := hml0
  have hown : s.vm.findClass "com/example/tollgate/tollgate/store/Failures" = some m.cls := findClass_of_methodNamed Bd.named
  have hnm := (name_of_methodNamed Bd.named Bd.method).1
  have X0 : Stand p l e ({ frames := 0, cells := 0, slots := 0, locals := 0 } : Room) s m #[(.ref o0), (.long q1)] below meth c s₁ [] 0 0 := Stand.of_body Bd
  have e0 : s₁.heap = h0 := by rw [← hh, Bd.state]; rfl
  have N0 := Fr.nil n0
  have pre0 : ∀ t, Steps p.tables e below (s₁.setTop (mkF m 0 #[.val (.ref o0), .val (.long q1), .second] [])) t → Steps p.tables e below (s₁.setTop (entryFrame m #[(.ref o0), (.long q1)] 3)) t := fun t k => castTop (ef_4 m o0 q1) k
  obtain ⟨T1, X1, e1, st1⟩ := getF X0 hx hZ hown (host := "") (Or.inl (hw _ (List.mem_of_getElem? (i := 16) rfl))) Via.refl e0 F_untilMillis_o0 (g := (mkF m 2 #[.val (.ref o0), .val (.long q1), .second] [(.ref o0), (.long q1)])) rfl rfl (hb hby d4_2)
  have pre2 : ∀ t, Steps p.tables e below (T1.setTop (mkF m 6 #[.val (.ref o0), .val (.long q1), .second] [(.int (XT.cmpL q1 w0_untilMillis))])) t → Steps p.tables e below (s₁.setTop (entryFrame m #[(.ref o0), (.long q1)] 3)) t := by
    intro t k
    refine pre0 t ?_
    show Steps p.tables e below (s₁.setTop (mkF m 0 #[.val (.ref o0), .val (.long q1), .second] [])) _
    refine XT.lloadN X0.here hx rfl (hb hby d4_0) rfl ?_
    show Steps p.tables e below (s₁.setTop (mkF m 1 #[.val (.ref o0), .val (.long q1), .second] [(.long q1)])) _
    refine XS.aloadN X0.here hx rfl (hb hby d4_1) rfl rfl ?_
    show Steps p.tables e below (s₁.setTop (mkF m 2 #[.val (.ref o0), .val (.long q1), .second] [(.ref o0), (.long q1)])) _
    refine st1 _ ?_
    show Steps p.tables e below (T1.setTop (mkF m 5 #[.val (.ref o0), .val (.long q1), .second] [(.long w0_untilMillis), (.long q1)])) _
    refine XT.lcmp X1.here hx rfl (hb hby d4_5) rfl ?_
    exact k
  obtain ⟨T5, L5, X5, e5, N5, pre5⟩ : ∃ (T' : State) (L' : List Loc), Stand p l e ({ frames := 0, cells := 0, slots := 0, locals := 0 } : Room) s m #[(.ref o0), (.long q1)] below meth c T' L' 0 0 ∧ T'.heap = h0 ∧ Fr n0 L' ∧ ∀ t, Steps p.tables e below (T'.setTop (mkF m 17 #[.val (.ref o0), .val (.long q1), .second] [(.int (v4_1 q1 w0_untilMillis w1_count))])) t → Steps p.tables e below (s₁.setTop (entryFrame m #[(.ref o0), (.long q1)] 3)) t := by
    by_cases c3 : q1 < w0_untilMillis
    · skip
      obtain ⟨T4, X4, e4, st4⟩ := getF X1 hx hZ hown (host := "") (Or.inl (hw _ (List.mem_of_getElem? (i := 14) rfl))) Via.refl e1 F_count_o0 (g := (mkF m 10 #[.val (.ref o0), .val (.long q1), .second] [(.ref o0)])) rfl rfl (hb hby d4_10)
      refine ⟨T4, _, X4, e4, N0, fun t k => ?_⟩
      rw [show (v4_1 q1 w0_untilMillis w1_count) = w1_count from (if_pos c3)] at k
      refine pre2 t ?_
      show Steps p.tables e below (T1.setTop (mkF m 6 #[.val (.ref o0), .val (.long q1), .second] [(.int (XT.cmpL q1 w0_untilMillis))])) _
      refine XS.ifNo X1.here hx rfl (hb hby d4_6) rfl (XT.ll_ge_f c3) ?_
      show Steps p.tables e below (T1.setTop (mkF m 9 #[.val (.ref o0), .val (.long q1), .second] [])) _
      refine XS.aloadN X1.here hx rfl (hb hby d4_9) rfl rfl ?_
      show Steps p.tables e below (T1.setTop (mkF m 10 #[.val (.ref o0), .val (.long q1), .second] [(.ref o0)])) _
      refine st4 _ ?_
      show Steps p.tables e below (T4.setTop (mkF m 13 #[.val (.ref o0), .val (.long q1), .second] [(.int w1_count)])) _
      refine XS.goto X4.here hx rfl (pc0 := 13) (pc' := 17) rfl (hb hby d4_13) (by decide) (by decide) ?_
      exact k
    · skip
      refine ⟨T1, _, X1, e1, N0, fun t k => ?_⟩
      rw [show (v4_1 q1 w0_untilMillis w1_count) = (0 : Int32) from (if_neg c3)] at k
      refine pre2 t ?_
      show Steps p.tables e below (T1.setTop (mkF m 6 #[.val (.ref o0), .val (.long q1), .second] [(.int (XT.cmpL q1 w0_untilMillis))])) _
      refine XS.ifYes X1.here hx rfl (pc0 := 6) (pc' := 16) rfl (hb hby d4_6) rfl (XT.ll_ge_t c3) (by decide) (by decide) ?_
      show Steps p.tables e below (T1.setTop (mkF m 16 #[.val (.ref o0), .val (.long q1), .second] [])) _
      refine XT.iconstV X1.here hx rfl (0 : Int32) (hb hby d4_16) (by decide) ?_
      exact k
  obtain ⟨fs, hr, hrun, hended, hW, hsame⟩ := X5.leave (v := some (.int (v4_1 q1 w0_untilMillis w1_count))) (fun h => by rw [Bd.returns] at h; cases h)
  refine ⟨_, _, pre5 _ ?_, hrun, hended, _, _, rfl, ?_, ⟨_, rfl⟩, hW, hsame.mono (by decide) (by decide)⟩
  · skip
    show Steps p.tables e below (T5.setTop (mkF m 17 #[.val (.ref o0), .val (.long q1), .second] [(.int (v4_1 q1 w0_untilMillis w1_count))])) _
    exact retI X5 hx Bd.returns (hb hby d4_17) hr
  · skip
    show Q4 Z o0 q1 w0_untilMillis w1_count h0 n0 _ T5.heap _
    rw [e5]
    exact ⟨N5, rfl, rfl⟩
theorem d5_0 : decode method_2_code 0 = .ok (.lload_n 3, 1) := by decide +kernel
theorem d5_1 : decode method_2_code 1 = .ok (.lload_n 1, 1) := by decide +kernel
theorem d5_2 : decode method_2_code 2 = .ok (.lcmp, 1) := by decide +kernel
theorem d5_3 : decode method_2_code 3 = .ok (.ifCond .ge 5, 3) := by decide +kernel
theorem d5_6 : decode method_2_code 6 = .ok (.iload_n 0, 1) := by decide +kernel
theorem d5_7 : decode method_2_code 7 = .ok (.ireturn, 1) := by decide +kernel
theorem d5_8 : decode method_2_code 8 = .ok (.iconst 0, 1) := by decide +kernel
theorem d5_9 : decode method_2_code 9 = .ok (.ireturn, 1) := by decide +kernel
theorem pn_com_example_tollgate_tollgate_store_FailuresCountAtPinLaw : plainName "com/example/tollgate/tollgate/store/FailuresCountAtPinLaw" = true := by first | (simp [plainName, overriddenIn]; done) | decide +kernel
theorem ef_5 (m : MethodId) (p0 : Int32) (q1 : Int64) (q2 : Int64) : entryFrame m #[(.int p0), (.long q1), (.long q2)] 5 = mkF m 0 #[.val (.int p0), .val (.long q1), .second, .val (.long q2), .second] [] := by first | (simp [entryFrame, mkF, argsToLocals, Value.category]; done) | rfl
def f5 (p0 : Int32) (q1 : Int64) (q2 : Int64) : Int32 := (if q2 < q1 then p0 else (0 : Int32))
def Q5 (Z : State) (p0 : Int32) (q1 : Int64) (q2 : Int64) (h0 : Heap) (n0 : Nat) (v : Option Value) (h : Heap) (L : List Loc) : Prop := Fr n0 L ∧ v = some (.int (f5 p0 q1 q2)) ∧ h = h0
set_option maxRecDepth 65536 in
set_option maxHeartbeats 40000000 in
theorem rm5 (l : Launch) (Z : State) (a0 : Array Value) (hw : ∀ d ∈ tables_1, d.before a0 Z = true) (ws : List Jvm.Cond) (p0 : Int32) (q1 : Int64) (q2 : Int64) (h0 : Heap) (n0 : Nat) (Z0 : n0 ≤ h0.size) :
    MetFree l (⟨"com/example/tollgate/tollgate/store/FailuresCountAtPinLaw", "expected", "(IJJ)I"⟩ : MethodName) (head1 (Jvm.Cond.code (⟨"com/example/tollgate/tollgate/store/FailuresCountAtPinLaw", "expected", "(IJJ)I"⟩ : MethodName) method_2_code 5 (some .int) :: ws) ({ frames := 0, cells := 0, slots := 0, locals := 0 } : Room)) (fun a U => a = #[(.int p0), (.long q1), (.long q2)] ∧ Z.Warmed39 U.vm ∧ U.heap = h0) (fun _ _ _ _ _ => True) (fun _ U o U' => ∃ v L, o = .returned v ∧ Q5 Z p0 q1 q2 h0 n0 v U'.heap L ∧ FrameEnd U o U' L ({ frames := 0, cells := 0, slots := 0, locals := 0 } : Room).cells ({ frames := 0, cells := 0, slots := 0, locals := 0 } : Room).slots) := by
  refine MetFree.of_bodySF (plainFor_of_name pn_com_example_tollgate_tollgate_store_FailuresCountAtPinLaw) hisR ?_
  intro p e s m args below meth c s₁ Bd hml0 hP hK
  obtain ⟨rfl, hZ, hh⟩ := hP
  have hx := Bd.exec
  have hby := Bd.bytes
  have hml : c.maxLocals = 5 := hml0
  have hown : s.vm.findClass "com/example/tollgate/tollgate/store/FailuresCountAtPinLaw" = some m.cls := findClass_of_methodNamed Bd.named
  have hnm := (name_of_methodNamed Bd.named Bd.method).1
  have X0 : Stand p l e ({ frames := 0, cells := 0, slots := 0, locals := 0 } : Room) s m #[(.int p0), (.long q1), (.long q2)] below meth c s₁ [] 0 0 := Stand.of_body Bd
  have e0 : s₁.heap = h0 := by rw [← hh, Bd.state]; rfl
  have N0 := Fr.nil n0
  have pre0 : ∀ t, Steps p.tables e below (s₁.setTop (mkF m 0 #[.val (.int p0), .val (.long q1), .second, .val (.long q2), .second] [])) t → Steps p.tables e below (s₁.setTop (entryFrame m #[(.int p0), (.long q1), (.long q2)] 5)) t := fun t k => castTop (ef_5 m p0 q1 q2) k
  have pre1 : ∀ t, Steps p.tables e below (s₁.setTop (mkF m 3 #[.val (.int p0), .val (.long q1), .second, .val (.long q2), .second] [(.int (XT.cmpL q2 q1))])) t → Steps p.tables e below (s₁.setTop (entryFrame m #[(.int p0), (.long q1), (.long q2)] 5)) t := by
    intro t k
    refine pre0 t ?_
    show Steps p.tables e below (s₁.setTop (mkF m 0 #[.val (.int p0), .val (.long q1), .second, .val (.long q2), .second] [])) _
    refine XT.lloadN X0.here hx rfl (hb hby d5_0) rfl ?_
    show Steps p.tables e below (s₁.setTop (mkF m 1 #[.val (.int p0), .val (.long q1), .second, .val (.long q2), .second] [(.long q2)])) _
    refine XT.lloadN X0.here hx rfl (hb hby d5_1) rfl ?_
    show Steps p.tables e below (s₁.setTop (mkF m 2 #[.val (.int p0), .val (.long q1), .second, .val (.long q2), .second] [(.long q1), (.long q2)])) _
    refine XT.lcmp X0.here hx rfl (hb hby d5_2) rfl ?_
    exact k
  by_cases c2 : q2 < q1
  · skip
    obtain ⟨fs, hr, hrun, hended, hW, hsame⟩ := X0.leave (v := some (.int p0)) (fun h => by rw [Bd.returns] at h; cases h)
    refine ⟨_, _, pre1 _ ?_, hrun, hended, _, _, rfl, ?_, ⟨_, rfl⟩, hW, hsame.mono (by decide) (by decide)⟩
    · skip
      show Steps p.tables e below (s₁.setTop (mkF m 3 #[.val (.int p0), .val (.long q1), .second, .val (.long q2), .second] [(.int (XT.cmpL q2 q1))])) _
      refine XS.ifNo X0.here hx rfl (hb hby d5_3) rfl (XT.ll_ge_f c2) ?_
      show Steps p.tables e below (s₁.setTop (mkF m 6 #[.val (.int p0), .val (.long q1), .second, .val (.long q2), .second] [])) _
      refine XS.iloadN X0.here hx rfl (hb hby d5_6) rfl ?_
      show Steps p.tables e below (s₁.setTop (mkF m 7 #[.val (.int p0), .val (.long q1), .second, .val (.long q2), .second] [(.int p0)])) _
      exact retI X0 hx Bd.returns (hb hby d5_7) hr
    · skip
      show Q5 Z p0 q1 q2 h0 n0 _ s₁.heap _
      rw [e0]
      exact ⟨N0, (by rw [show (f5 p0 q1 q2) = p0 from (if_pos c2)]), rfl⟩
  · skip
    obtain ⟨fs, hr, hrun, hended, hW, hsame⟩ := X0.leave (v := some (.int (0 : Int32))) (fun h => by rw [Bd.returns] at h; cases h)
    refine ⟨_, _, pre1 _ ?_, hrun, hended, _, _, rfl, ?_, ⟨_, rfl⟩, hW, hsame.mono (by decide) (by decide)⟩
    · skip
      show Steps p.tables e below (s₁.setTop (mkF m 3 #[.val (.int p0), .val (.long q1), .second, .val (.long q2), .second] [(.int (XT.cmpL q2 q1))])) _
      refine XS.ifYes X0.here hx rfl (pc0 := 3) (pc' := 8) rfl (hb hby d5_3) rfl (XT.ll_ge_t c2) (by decide) (by decide) ?_
      show Steps p.tables e below (s₁.setTop (mkF m 8 #[.val (.int p0), .val (.long q1), .second, .val (.long q2), .second] [])) _
      refine XT.iconstV X0.here hx rfl (0 : Int32) (hb hby d5_8) (by decide) ?_
      show Steps p.tables e below (s₁.setTop (mkF m 9 #[.val (.int p0), .val (.long q1), .second, .val (.long q2), .second] [(.int (0 : Int32))])) _
      exact retI X0 hx Bd.returns (hb hby d5_9) hr
    · skip
      show Q5 Z p0 q1 q2 h0 n0 _ s₁.heap _
      rw [e0]
      exact ⟨N0, (by rw [show (f5 p0 q1 q2) = (0 : Int32) from (if_neg c2)]), rfl⟩
theorem d6_0 : decode jdk_29_method_70_code 0 = .ok (.lload_n 0, 1) := by decide +kernel
theorem d6_1 : decode jdk_29_method_70_code 1 = .ok (.lload_n 2, 1) := by decide +kernel
theorem d6_2 : decode jdk_29_method_70_code 2 = .ok (.lcmp, 1) := by decide +kernel
theorem d6_3 : decode jdk_29_method_70_code 3 = .ok (.ifCond .gt 7, 3) := by decide +kernel
theorem d6_6 : decode jdk_29_method_70_code 6 = .ok (.lload_n 0, 1) := by decide +kernel
theorem d6_7 : decode jdk_29_method_70_code 7 = .ok (.goto 4, 3) := by decide +kernel
theorem d6_10 : decode jdk_29_method_70_code 10 = .ok (.lload_n 2, 1) := by decide +kernel
theorem d6_11 : decode jdk_29_method_70_code 11 = .ok (.lreturn, 1) := by decide +kernel
theorem ef_6 (m : MethodId) (q0 : Int64) (q1 : Int64) : entryFrame m #[(.long q0), (.long q1)] 4 = mkF m 0 #[.val (.long q0), .second, .val (.long q1), .second] [] := by first | (simp [entryFrame, mkF, argsToLocals, Value.category]; done) | rfl
def v6_1 (q0 : Int64) (q1 : Int64) : Int64 := (if q1 < q0 then q1 else q0)
def f6 (q0 : Int64) (q1 : Int64) : Int64 := (v6_1 q0 q1)
def Q6 (Z : State) (q0 : Int64) (q1 : Int64) (h0 : Heap) (n0 : Nat) (v : Option Value) (h : Heap) (L : List Loc) : Prop := Fr n0 L ∧ v = some (.long (f6 q0 q1)) ∧ h = h0
set_option maxRecDepth 65536 in
set_option maxHeartbeats 40000000 in
theorem rm6 (l : Launch) (Z : State) (a0 : Array Value) (hw : ∀ d ∈ tables_1, d.before a0 Z = true) (ws : List Jvm.Cond) (q0 : Int64) (q1 : Int64) (h0 : Heap) (n0 : Nat) (Z0 : n0 ≤ h0.size) :
    MetFree l (⟨"java/lang/Math", "min", "(JJ)J"⟩ : MethodName) (head1 (Jvm.Cond.code (⟨"java/lang/Math", "min", "(JJ)J"⟩ : MethodName) jdk_29_method_70_code 4 (some .long) :: ws) ({ frames := 0, cells := 0, slots := 0, locals := 0 } : Room)) (fun a U => a = #[(.long q0), (.long q1)] ∧ Z.Warmed39 U.vm ∧ U.heap = h0) (fun _ _ _ _ _ => True) (fun _ U o U' => ∃ v L, o = .returned v ∧ Q6 Z q0 q1 h0 n0 v U'.heap L ∧ FrameEnd U o U' L ({ frames := 0, cells := 0, slots := 0, locals := 0 } : Room).cells ({ frames := 0, cells := 0, slots := 0, locals := 0 } : Room).slots) := by
  refine MetFree.of_bodySF (Jvm.Free.JP.mathPlain rfl (by decide +kernel)) hisR ?_
  intro p e s m args below meth c s₁ Bd hml0 hP hK
  obtain ⟨rfl, hZ, hh⟩ := hP
  have hx := Bd.exec
  have hby := Bd.bytes
  have hml : c.maxLocals = 4 := hml0
  have hown : s.vm.findClass "java/lang/Math" = some m.cls := findClass_of_methodNamed Bd.named
  have hnm := (name_of_methodNamed Bd.named Bd.method).1
  have X0 : Stand p l e ({ frames := 0, cells := 0, slots := 0, locals := 0 } : Room) s m #[(.long q0), (.long q1)] below meth c s₁ [] 0 0 := Stand.of_body Bd
  have e0 : s₁.heap = h0 := by rw [← hh, Bd.state]; rfl
  have N0 := Fr.nil n0
  have pre0 : ∀ t, Steps p.tables e below (s₁.setTop (mkF m 0 #[.val (.long q0), .second, .val (.long q1), .second] [])) t → Steps p.tables e below (s₁.setTop (entryFrame m #[(.long q0), (.long q1)] 4)) t := fun t k => castTop (ef_6 m q0 q1) k
  have pre1 : ∀ t, Steps p.tables e below (s₁.setTop (mkF m 3 #[.val (.long q0), .second, .val (.long q1), .second] [(.int (XT.cmpL q0 q1))])) t → Steps p.tables e below (s₁.setTop (entryFrame m #[(.long q0), (.long q1)] 4)) t := by
    intro t k
    refine pre0 t ?_
    show Steps p.tables e below (s₁.setTop (mkF m 0 #[.val (.long q0), .second, .val (.long q1), .second] [])) _
    refine XT.lloadN X0.here hx rfl (hb hby d6_0) rfl ?_
    show Steps p.tables e below (s₁.setTop (mkF m 1 #[.val (.long q0), .second, .val (.long q1), .second] [(.long q0)])) _
    refine XT.lloadN X0.here hx rfl (hb hby d6_1) rfl ?_
    show Steps p.tables e below (s₁.setTop (mkF m 2 #[.val (.long q0), .second, .val (.long q1), .second] [(.long q1), (.long q0)])) _
    refine XT.lcmp X0.here hx rfl (hb hby d6_2) rfl ?_
    exact k
  have pre3 : ∀ t, Steps p.tables e below (s₁.setTop (mkF m 11 #[.val (.long q0), .second, .val (.long q1), .second] [(.long (v6_1 q0 q1))])) t → Steps p.tables e below (s₁.setTop (entryFrame m #[(.long q0), (.long q1)] 4)) t := by
    intro t k
    by_cases c2 : q1 < q0
    · skip
      rw [show (v6_1 q0 q1) = q1 from (if_pos c2)] at k
      refine pre1 t ?_
      show Steps p.tables e below (s₁.setTop (mkF m 3 #[.val (.long q0), .second, .val (.long q1), .second] [(.int (XT.cmpL q0 q1))])) _
      refine XS.ifYes X0.here hx rfl (pc0 := 3) (pc' := 10) rfl (hb hby d6_3) rfl (XT.ll_gt_t c2) (by decide) (by decide) ?_
      show Steps p.tables e below (s₁.setTop (mkF m 10 #[.val (.long q0), .second, .val (.long q1), .second] [])) _
      refine XT.lloadN X0.here hx rfl (hb hby d6_10) rfl ?_
      exact k
    · skip
      rw [show (v6_1 q0 q1) = q0 from (if_neg c2)] at k
      refine pre1 t ?_
      show Steps p.tables e below (s₁.setTop (mkF m 3 #[.val (.long q0), .second, .val (.long q1), .second] [(.int (XT.cmpL q0 q1))])) _
      refine XS.ifNo X0.here hx rfl (hb hby d6_3) rfl (XT.ll_gt_f c2) ?_
      show Steps p.tables e below (s₁.setTop (mkF m 6 #[.val (.long q0), .second, .val (.long q1), .second] [])) _
      refine XT.lloadN X0.here hx rfl (hb hby d6_6) rfl ?_
      show Steps p.tables e below (s₁.setTop (mkF m 7 #[.val (.long q0), .second, .val (.long q1), .second] [(.long q0)])) _
      refine XS.goto X0.here hx rfl (pc0 := 7) (pc' := 11) rfl (hb hby d6_7) (by decide) (by decide) ?_
      exact k
  obtain ⟨fs, hr, hrun, hended, hW, hsame⟩ := X0.leave (v := some (.long (v6_1 q0 q1))) (fun h => by rw [Bd.returns] at h; cases h)
  refine ⟨_, _, pre3 _ ?_, hrun, hended, _, _, rfl, ?_, ⟨_, rfl⟩, hW, hsame.mono (by decide) (by decide)⟩
  · skip
    show Steps p.tables e below (s₁.setTop (mkF m 11 #[.val (.long q0), .second, .val (.long q1), .second] [(.long (v6_1 q0 q1))])) _
    exact X0.lreturnOut hx Bd.returns (hb hby d6_11) hr
  · skip
    show Q6 Z q0 q1 h0 n0 _ s₁.heap _
    rw [e0]
    exact ⟨N0, rfl, rfl⟩
theorem pd__IJ_V : parseMethodDescriptor "(IJ)V" = some ⟨[.int, .long], none⟩ := by decide +kernel
theorem pd__J_I : parseMethodDescriptor "(J)I" = some ⟨[.long], some .int⟩ := by decide +kernel
theorem pd__IJJ_I : parseMethodDescriptor "(IJJ)I" = some ⟨[.int, .long, .long], some .int⟩ := by decide +kernel
theorem pd__JJ_J : parseMethodDescriptor "(JJ)J" = some ⟨[.long, .long], some .long⟩ := by decide +kernel
theorem ef_0 (m : MethodId) (p0 : Int32) (q1 : Int64) (q2 : Int64) (p3 : Int32) : entryFrame m #[(.int p0), (.long q1), (.long q2), (.int p3)] maxLocals = mkF m 0 #[.val (.int p0), .val (.long q1), .second, .val (.long q2), .second, .val (.int p3), .unset, .unset, .unset, .unset, .unset, .unset, .unset, .unset, .unset, .unset, .unset] [] := by first | (simp [entryFrame, mkF, argsToLocals, Value.category, maxLocals]; done) | rfl
def v0_1 (p0 : Int32) (q1 : Int64) (q2 : Int64) (p3 : Int32) : Int64 := (q1 + (((p3 &&& (3 : Int32)) - (2 : Int32)).toInt64))
def v0_2 (p0 : Int32) (q1 : Int64) (q2 : Int64) (p3 : Int32) : Int32 := (f4 q2 q1 p0)
def v0_3 (p0 : Int32) (q1 : Int64) (q2 : Int64) (p3 : Int32) : Int32 := (f4 (v0_1 p0 q1 q2 p3) q1 p0)
def v0_4 (p0 : Int32) (q1 : Int64) (q2 : Int64) (p3 : Int32) : Int32 := (f5 p0 q1 q2)
def v0_5 (p0 : Int32) (q1 : Int64) (q2 : Int64) (p3 : Int32) : Int32 := (f5 p0 q1 (v0_1 p0 q1 q2 p3))
def v0_6 (p0 : Int32) (q1 : Int64) (q2 : Int64) (p3 : Int32) : Int32 := (if (v0_2 p0 q1 q2 p3) = (v0_4 p0 q1 q2 p3) then (if (v0_3 p0 q1 q2 p3) = (v0_5 p0 q1 q2 p3) then (1 : Int32) else (0 : Int32)) else (0 : Int32))
def v0_7 (p0 : Int32) (q1 : Int64) (q2 : Int64) (p3 : Int32) : Int64 := (f6 q2 (v0_1 p0 q1 q2 p3))
def v0_8 (p0 : Int32) (q1 : Int64) (q2 : Int64) (p3 : Int32) : Int32 := (if (v0_1 p0 q1 q2 p3) < q2 then (v0_3 p0 q1 q2 p3) else (v0_2 p0 q1 q2 p3))
def v0_9 (p0 : Int32) (q1 : Int64) (q2 : Int64) (p3 : Int32) : Int32 := (if (v0_1 p0 q1 q2 p3) < q2 then (v0_2 p0 q1 q2 p3) else (v0_3 p0 q1 q2 p3))
def v0_10 (p0 : Int32) (q1 : Int64) (q2 : Int64) (p3 : Int32) : Int32 := (if (v0_8 p0 q1 q2 p3) = (0 : Int32) then (if p0 = (0 : Int32) then (1 : Int32) else (if (v0_9 p0 q1 q2 p3) = (0 : Int32) then (1 : Int32) else (0 : Int32))) else (1 : Int32))
def v0_11 (p0 : Int32) (q1 : Int64) (q2 : Int64) (p3 : Int32) : Int32 := (if (v0_6 p0 q1 q2 p3) = (0 : Int32) then (0 : Int32) else (if (v0_10 p0 q1 q2 p3) = (0 : Int32) then (0 : Int32) else (1 : Int32)))
/-own-/
theorem own_law (p0 : Int32) (q1 q2 : Int64) (p3 : Int32) : v0_11 p0 q1 q2 p3 = (1 : Int32) := by
  have e1 : v0_6 p0 q1 q2 p3 = 1 := by
    refine (if_pos ?_).trans (if_pos ?_)
    · rfl
    · rfl
  have e2 : v0_10 p0 q1 q2 p3 = 1 := by
    unfold v0_10 v0_8 v0_9 v0_2 v0_3 f4 v4_1
    generalize v0_1 p0 q1 q2 p3 = m
    have a1 : (m < q2) ↔ m.toInt < q2.toInt := Int64.lt_iff_toInt_lt
    have a2 : (m < q1) ↔ m.toInt < q1.toInt := Int64.lt_iff_toInt_lt
    have a3 : (q2 < q1) ↔ q2.toInt < q1.toInt := Int64.lt_iff_toInt_lt
    simp only [a1, a2, a3]
    by_cases c1 : m.toInt < q2.toInt <;> by_cases c2 : m.toInt < q1.toInt <;> by_cases c3 : q2.toInt < q1.toInt <;> by_cases c4 : p0 = 0 <;> simp [c1, c2, c3, c4] <;> omega
  unfold v0_11
  rw [e1, e2]
  decide
def Q0 (Z : State) (p0 : Int32) (q1 : Int64) (q2 : Int64) (p3 : Int32) (h0 : Heap) (n0 : Nat) (v : Option Value) (h : Heap) (L : List Loc) : Prop := v = some (.int (1 : Int32)) ∧ Fr n0 L
set_option maxRecDepth 65536 in
set_option maxHeartbeats 40000000 in
theorem rm0 (l : Launch) (Z : State) (a0 : Array Value) (hw : ∀ d ∈ tables_1, d.before a0 Z = true) (ws : List Jvm.Cond) (p0 : Int32) (q1 : Int64) (q2 : Int64) (p3 : Int32) (h0 : Heap) (n0 : Nat) (Z0 : n0 ≤ h0.size) :
    MetFree l x (head1 (Jvm.Cond.code x code maxLocals ret :: ws) room_1) (fun a U => a = #[(.int p0), (.long q1), (.long q2), (.int p3)] ∧ Z.Warmed39 U.vm ∧ U.heap = h0) (fun _ _ _ _ _ => True) (fun _ U o U' => ∃ v L, o = .returned v ∧ Q0 Z p0 q1 q2 p3 h0 n0 v U'.heap L ∧ FrameEnd U o U' L room_1.cells room_1.slots) := by
  refine MetFree.of_bodySF (plainFor_of_name pn_com_example_tollgate_tollgate_store_FailuresCountAtPinLaw) hisR ?_
  intro p e s m args below meth c s₁ Bd hml0 hP hK
  obtain ⟨rfl, hZ, hh⟩ := hP
  have hx := Bd.exec
  have hby := Bd.bytes
  have hml : c.maxLocals = 17 := hml0
  have hown : s.vm.findClass "com/example/tollgate/tollgate/store/FailuresCountAtPinLaw" = some m.cls := findClass_of_methodNamed Bd.named
  have hnm := (name_of_methodNamed Bd.named Bd.method).1
  have X0 : Stand p l e room_1 s m #[(.int p0), (.long q1), (.long q2), (.int p3)] below meth c s₁ [] 0 0 := Stand.of_body Bd
  have e0 : s₁.heap = h0 := by rw [← hh, Bd.state]; rfl
  have N0 := Fr.nil n0
  have pre0 : ∀ t, Steps p.tables e below (s₁.setTop (mkF m 0 #[.val (.int p0), .val (.long q1), .second, .val (.long q2), .second, .val (.int p3), .unset, .unset, .unset, .unset, .unset, .unset, .unset, .unset, .unset, .unset, .unset] [])) t → Steps p.tables e below (s₁.setTop (entryFrame m #[(.int p0), (.long q1), (.long q2), (.int p3)] maxLocals)) t := fun t k => castTop (ef_0 m p0 q1 q2 p3) k
  obtain ⟨T1, h1, X1, e1, E1, A1, D1, -, st1⟩ := newO X0 hx hZ hown (hw _ (List.mem_of_getElem? (i := 0) rfl)) (hw _ (List.mem_of_getElem? (i := 1) rfl)) (hw _ (List.mem_of_getElem? (i := 2) rfl)) e0 (g := (mkF m 11 #[.val (.int p0), .val (.long q1), .second, .val (.long q2), .second, .val (.int p3), .val (.long (v0_1 p0 q1 q2 p3)), .second, .unset, .unset, .unset, .unset, .unset, .unset, .unset, .unset, .unset] [])) rfl (hb hby at_11) (by decide) (by decide)
  obtain ⟨b1, gz1⟩ : ∃ z, z = h0.size := ⟨_, rfl⟩
  rw [← gz1] at A1 D1 st1
  have g2 : n0 ≤ b1 := Nat.le_trans Z0 (Nat.le_of_eq gz1.symm)
  have sz3 : h0.size ≤ b1 := Nat.le_trans (Nat.le_refl h0.size) (Nat.le_of_eq gz1.symm)
  have z4 : n0 ≤ h1.size := Nat.le_trans Z0 E1.1
  have hs5 : h0.size ≤ h1.size := Nat.le_trans (Nat.le_refl h0.size) E1.1
  have F1_count : Fld Z h1 b1 "com/example/tollgate/tollgate/store/Failures" "count" "I" (.int (0 : Int32)) := D1 (Or.inr (hw _ (List.mem_of_getElem? (i := 15) rfl))) (ty := .int) (by decide)
  have F1_untilMillis : Fld Z h1 b1 "com/example/tollgate/tollgate/store/Failures" "untilMillis" "J" (.long (0 : Int64)) := D1 (Or.inr (hw _ (List.mem_of_getElem? (i := 17) rfl))) (ty := .long) (by decide)
  obtain ⟨_, _, ⟨T6, L6, k6, n6⟩, -, X6, ⟨Lc6, hQ6, l6, y6, z6⟩, st6⟩ := X1.specialBack hx (y := (⟨"com/example/tollgate/tollgate/store/Failures", "<init>", "(IJ)V"⟩ : MethodName)) rfl hown (mvT hZ (hw _ (List.mem_of_getElem? (i := 3) rfl))) (mvT hZ (hw _ (List.mem_of_getElem? (i := 4) rfl))) (mvT hZ (hw _ (List.mem_of_getElem? (i := 5) rfl))) (by decide) (backOf (W := 1) (rm1 l Z a0 hw [] b1 p0 q1 (.int (0 : Int32)) (.long (0 : Int64)) h1 n0 z4 A1 F1_count g2 F1_untilMillis) hZ (hw _ (List.mem_of_getElem? (i := 5) rfl)) (hw _ (List.mem_of_getElem? (i := 2) rfl)) (by decide) (by decide)) (g := (mkF m 17 #[.val (.int p0), .val (.long q1), .second, .val (.long q2), .second, .val (.int p3), .val (.long (v0_1 p0 q1 q2 p3)), .second, .unset, .unset, .unset, .unset, .unset, .unset, .unset, .unset, .unset] [(.long q1), (.int p0), (.ref b1), (.ref b1)])) rfl (by rw [hml]; rfl) (Steps.refl _) (a := b1) (argsL := [(.int p0), (.long q1)]) (rest := [(.ref b1)]) (lenOf pd__IJ_V rfl) rfl (by show 2 * 0 + _ ≤ _; exact Nat.le_of_eq rfl) (hb hby at_17) (fun _ _ => ⟨rfl, e1, (by decide : 1 + 0 ≤ _), (by decide : 2 + 0 ≤ _)⟩)
  dsimp only [Pt.U, Pt.locs, Pt.cells, Pt.slots] at X6 l6 y6 z6 st6 hQ6
  subst l6 y6 z6
  obtain ⟨N6q, rfl, K6, po6_0, po6_1, po6_2⟩ := hQ6
  have z7 : n0 ≤ T6.heap.size := Nat.le_trans z4 K6.1
  have hs8 : h0.size ≤ T6.heap.size := Nat.le_trans hs5 K6.1
  have N6 := Fr.app N0 N6q
  obtain ⟨cq9, kq9, q9a, q9b, q9c⟩ := isOf hZ rfl po6_0
  obtain ⟨_, _, ⟨T9, L9, k9, n9⟩, -, X9, ⟨Lc9, hQ9, l9, y9, z9⟩, st9⟩ := X6.virtualBack hx (y := (⟨"com/example/tollgate/tollgate/store/Failures", "countAt", "(J)I"⟩ : MethodName)) (z := (⟨"com/example/tollgate/tollgate/store/Failures", "countAt", "(J)I"⟩ : MethodName)) hown (mvT hZ (hw _ (List.mem_of_getElem? (i := 18) rfl))) (mvT hZ (hw _ (List.mem_of_getElem? (i := 19) rfl))) (notFace_of_selects (args := #[]) (mvT hZ (hw _ (List.mem_of_getElem? (i := 21) rfl)))) (mvT hZ (hw _ (List.mem_of_getElem? (i := 21) rfl))) (mvT hZ (hw _ (List.mem_of_getElem? (i := 20) rfl))) (by decide) (backOf (W := 0) (rm4 l Z a0 hw [] b1 q2 q1 p0 T6.heap n0 z7 po6_2 po6_1) hZ (hw _ (List.mem_of_getElem? (i := 22) rfl)) (hw _ (List.mem_of_getElem? (i := 2) rfl)) (by decide) (by decide)) q9a q9c (g := (mkF m 25 #[.val (.int p0), .val (.long q1), .second, .val (.long q2), .second, .val (.int p3), .val (.long (v0_1 p0 q1 q2 p3)), .second, .val (.ref b1), .unset, .unset, .unset, .unset, .unset, .unset, .unset, .unset] [(.long q2), (.ref b1)])) rfl (by rw [hml]; rfl) (Steps.refl _) (argsL := [(.long q2)]) (rest := []) (lenOf pd__J_I rfl) rfl (by show 2 * 0 + _ ≤ _; exact Nat.le_of_eq rfl) (hb hby at_25) (fun _ _ => ⟨rfl, rfl, (by decide : 1 + 0 ≤ _), (by decide : 2 + 0 ≤ _)⟩)
  dsimp only [Pt.U, Pt.locs, Pt.cells, Pt.slots] at X9 l9 y9 z9 st9 hQ9
  subst l9 y9 z9
  obtain ⟨N9q, rfl, e9⟩ := hQ9
  have N9 := Fr.app N6 N9q
  obtain ⟨cq10, kq10, q10a, q10b, q10c⟩ := isOf hZ e9 po6_0
  obtain ⟨_, _, ⟨T10, L10, k10, n10⟩, -, X10, ⟨Lc10, hQ10, l10, y10, z10⟩, st10⟩ := X9.virtualBack hx (y := (⟨"com/example/tollgate/tollgate/store/Failures", "countAt", "(J)I"⟩ : MethodName)) (z := (⟨"com/example/tollgate/tollgate/store/Failures", "countAt", "(J)I"⟩ : MethodName)) hown (mvT hZ (hw _ (List.mem_of_getElem? (i := 18) rfl))) (mvT hZ (hw _ (List.mem_of_getElem? (i := 19) rfl))) (notFace_of_selects (args := #[]) (mvT hZ (hw _ (List.mem_of_getElem? (i := 21) rfl)))) (mvT hZ (hw _ (List.mem_of_getElem? (i := 21) rfl))) (mvT hZ (hw _ (List.mem_of_getElem? (i := 20) rfl))) (by decide) (backOf (W := 0) (rm4 l Z a0 hw [] b1 (v0_1 p0 q1 q2 p3) q1 p0 T6.heap n0 z7 po6_2 po6_1) hZ (hw _ (List.mem_of_getElem? (i := 22) rfl)) (hw _ (List.mem_of_getElem? (i := 2) rfl)) (by decide) (by decide)) q10a q10c (g := (mkF m 34 #[.val (.int p0), .val (.long q1), .second, .val (.long q2), .second, .val (.int p3), .val (.long (v0_1 p0 q1 q2 p3)), .second, .val (.ref b1), .val (.int (v0_2 p0 q1 q2 p3)), .unset, .unset, .unset, .unset, .unset, .unset, .unset] [(.long (v0_1 p0 q1 q2 p3)), (.ref b1)])) rfl (by rw [hml]; rfl) (Steps.refl _) (argsL := [(.long (v0_1 p0 q1 q2 p3))]) (rest := []) (lenOf pd__J_I rfl) rfl (by show 2 * 0 + _ ≤ _; exact Nat.le_of_eq rfl) (hb hby at_34) (fun _ _ => ⟨rfl, e9, (by decide : 1 + 0 ≤ _), (by decide : 2 + 0 ≤ _)⟩)
  dsimp only [Pt.U, Pt.locs, Pt.cells, Pt.slots] at X10 l10 y10 z10 st10 hQ10
  subst l10 y10 z10
  obtain ⟨N10q, rfl, e10⟩ := hQ10
  have N10 := Fr.app N9 N10q
  obtain ⟨_, _, ⟨T11, L11, k11, n11⟩, -, X11, ⟨Lc11, hQ11, l11, y11, z11⟩, st11⟩ := Jvm.LawKit.callS X10 hx (y := (⟨"com/example/tollgate/tollgate/store/FailuresCountAtPinLaw", "expected", "(IJJ)I"⟩ : MethodName)) hown (mvT hZ (hw _ (List.mem_of_getElem? (i := 23) rfl))) (mvT hZ (hw _ (List.mem_of_getElem? (i := 24) rfl))) (mvT hZ (hw _ (List.mem_of_getElem? (i := 25) rfl))) (mvT hZ (hw _ (List.mem_of_getElem? (i := 26) rfl))) (by decide) (backOf (W := 1) (rm5 l Z a0 hw [] p0 q1 q2 T6.heap n0 z7) hZ (hw _ (List.mem_of_getElem? (i := 26) rfl)) (hw _ (List.mem_of_getElem? (i := 25) rfl)) (by decide) (by decide)) (g := (mkF m 44 #[.val (.int p0), .val (.long q1), .second, .val (.long q2), .second, .val (.int p3), .val (.long (v0_1 p0 q1 q2 p3)), .second, .val (.ref b1), .val (.int (v0_2 p0 q1 q2 p3)), .val (.int (v0_3 p0 q1 q2 p3)), .unset, .unset, .unset, .unset, .unset, .unset] [(.long q2), (.long q1), (.int p0), (.int (v0_2 p0 q1 q2 p3))])) rfl (by rw [hml]; rfl) (argsL := [(.int p0), (.long q1), (.long q2)]) (rest := [(.int (v0_2 p0 q1 q2 p3))]) (lenOf pd__IJJ_I rfl) rfl (by show 2 * 0 + _ ≤ _; exact Nat.le_of_eq rfl) (hb hby at_44) (fun _ _ => ⟨rfl, e10, (by decide : 1 + 0 ≤ _), (by decide : 2 + 0 ≤ _)⟩)
  dsimp only [Pt.U, Pt.locs, Pt.cells, Pt.slots] at X11 l11 y11 z11 st11 hQ11
  subst l11 y11 z11
  obtain ⟨N11q, rfl, e11⟩ := hQ11
  have N11 := Fr.app N10 N11q
  have pre12 : ∀ t, Steps p.tables e below (T11.setTop (mkF m 47 #[.val (.int p0), .val (.long q1), .second, .val (.long q2), .second, .val (.int p3), .val (.long (v0_1 p0 q1 q2 p3)), .second, .val (.ref b1), .val (.int (v0_2 p0 q1 q2 p3)), .val (.int (v0_3 p0 q1 q2 p3)), .unset, .unset, .unset, .unset, .unset, .unset] [(.int (f5 p0 q1 q2)), (.int (v0_2 p0 q1 q2 p3))])) t → Steps p.tables e below (s₁.setTop (entryFrame m #[(.int p0), (.long q1), (.long q2), (.int p3)] maxLocals)) t := by
    intro t k
    refine pre0 t ?_
    show Steps p.tables e below (s₁.setTop (mkF m 0 #[.val (.int p0), .val (.long q1), .second, .val (.long q2), .second, .val (.int p3), .unset, .unset, .unset, .unset, .unset, .unset, .unset, .unset, .unset, .unset, .unset] [])) _
    refine XT.lloadN X0.here hx rfl (hb hby at_0) rfl ?_
    show Steps p.tables e below (s₁.setTop (mkF m 1 #[.val (.int p0), .val (.long q1), .second, .val (.long q2), .second, .val (.int p3), .unset, .unset, .unset, .unset, .unset, .unset, .unset, .unset, .unset, .unset, .unset] [(.long q1)])) _
    refine XS.iload X0.here hx rfl (hb hby at_1) rfl ?_
    show Steps p.tables e below (s₁.setTop (mkF m 3 #[.val (.int p0), .val (.long q1), .second, .val (.long q2), .second, .val (.int p3), .unset, .unset, .unset, .unset, .unset, .unset, .unset, .unset, .unset, .unset, .unset] [(.int p3), (.long q1)])) _
    refine XT.iconstV X0.here hx rfl (3 : Int32) (hb hby at_3) (by decide) ?_
    show Steps p.tables e below (s₁.setTop (mkF m 4 #[.val (.int p0), .val (.long q1), .second, .val (.long q2), .second, .val (.int p3), .unset, .unset, .unset, .unset, .unset, .unset, .unset, .unset, .unset, .unset, .unset] [(.int (3 : Int32)), (.int p3), (.long q1)])) _
    refine XS.iand X0.here hx rfl (hb hby at_4) rfl ?_
    show Steps p.tables e below (s₁.setTop (mkF m 5 #[.val (.int p0), .val (.long q1), .second, .val (.long q2), .second, .val (.int p3), .unset, .unset, .unset, .unset, .unset, .unset, .unset, .unset, .unset, .unset, .unset] [(.int (p3 &&& (3 : Int32))), (.long q1)])) _
    refine XT.iconstV X0.here hx rfl (2 : Int32) (hb hby at_5) (by decide) ?_
    show Steps p.tables e below (s₁.setTop (mkF m 6 #[.val (.int p0), .val (.long q1), .second, .val (.long q2), .second, .val (.int p3), .unset, .unset, .unset, .unset, .unset, .unset, .unset, .unset, .unset, .unset, .unset] [(.int (2 : Int32)), (.int (p3 &&& (3 : Int32))), (.long q1)])) _
    refine XS.isub X0.here hx rfl (hb hby at_6) rfl ?_
    show Steps p.tables e below (s₁.setTop (mkF m 7 #[.val (.int p0), .val (.long q1), .second, .val (.long q2), .second, .val (.int p3), .unset, .unset, .unset, .unset, .unset, .unset, .unset, .unset, .unset, .unset, .unset] [(.int ((p3 &&& (3 : Int32)) - (2 : Int32))), (.long q1)])) _
    refine XT.i2l X0.here hx rfl (hb hby at_7) rfl ?_
    show Steps p.tables e below (s₁.setTop (mkF m 8 #[.val (.int p0), .val (.long q1), .second, .val (.long q2), .second, .val (.int p3), .unset, .unset, .unset, .unset, .unset, .unset, .unset, .unset, .unset, .unset, .unset] [(.long (((p3 &&& (3 : Int32)) - (2 : Int32)).toInt64)), (.long q1)])) _
    refine XT.ladd X0.here hx rfl (hb hby at_8) rfl ?_
    show Steps p.tables e below (s₁.setTop (mkF m 9 #[.val (.int p0), .val (.long q1), .second, .val (.long q2), .second, .val (.int p3), .unset, .unset, .unset, .unset, .unset, .unset, .unset, .unset, .unset, .unset, .unset] [(.long (q1 + (((p3 &&& (3 : Int32)) - (2 : Int32)).toInt64)))])) _
    refine XT.lstore X0.here hx rfl (hb hby at_9) rfl (l' := #[.val (.int p0), .val (.long q1), .second, .val (.long q2), .second, .val (.int p3), .val (.long (v0_1 p0 q1 q2 p3)), .second, .unset, .unset, .unset, .unset, .unset, .unset, .unset, .unset, .unset]) rfl ?_
    show Steps p.tables e below (s₁.setTop (mkF m 11 #[.val (.int p0), .val (.long q1), .second, .val (.long q2), .second, .val (.int p3), .val (.long (v0_1 p0 q1 q2 p3)), .second, .unset, .unset, .unset, .unset, .unset, .unset, .unset, .unset, .unset] [])) _
    refine st1 _ ?_
    show Steps p.tables e below (T1.setTop (mkF m 14 #[.val (.int p0), .val (.long q1), .second, .val (.long q2), .second, .val (.int p3), .val (.long (v0_1 p0 q1 q2 p3)), .second, .unset, .unset, .unset, .unset, .unset, .unset, .unset, .unset, .unset] [(.ref b1)])) _
    refine XS.dup X1.here hx rfl (hb hby at_14) rfl rfl ?_
    show Steps p.tables e below (T1.setTop (mkF m 15 #[.val (.int p0), .val (.long q1), .second, .val (.long q2), .second, .val (.int p3), .val (.long (v0_1 p0 q1 q2 p3)), .second, .unset, .unset, .unset, .unset, .unset, .unset, .unset, .unset, .unset] [(.ref b1), (.ref b1)])) _
    refine XS.iloadN X1.here hx rfl (hb hby at_15) rfl ?_
    show Steps p.tables e below (T1.setTop (mkF m 16 #[.val (.int p0), .val (.long q1), .second, .val (.long q2), .second, .val (.int p3), .val (.long (v0_1 p0 q1 q2 p3)), .second, .unset, .unset, .unset, .unset, .unset, .unset, .unset, .unset, .unset] [(.int p0), (.ref b1), (.ref b1)])) _
    refine XT.lloadN X1.here hx rfl (hb hby at_16) rfl ?_
    show Steps p.tables e below (T1.setTop (mkF m 17 #[.val (.int p0), .val (.long q1), .second, .val (.long q2), .second, .val (.int p3), .val (.long (v0_1 p0 q1 q2 p3)), .second, .unset, .unset, .unset, .unset, .unset, .unset, .unset, .unset, .unset] [(.long q1), (.int p0), (.ref b1), (.ref b1)])) _
    refine st6.trans ?_
    show Steps p.tables e below (T6.setTop (mkF m 20 #[.val (.int p0), .val (.long q1), .second, .val (.long q2), .second, .val (.int p3), .val (.long (v0_1 p0 q1 q2 p3)), .second, .unset, .unset, .unset, .unset, .unset, .unset, .unset, .unset, .unset] [(.ref b1)])) _
    refine XS.astore X6.here hx rfl (hb hby at_20) rfl rfl (l' := #[.val (.int p0), .val (.long q1), .second, .val (.long q2), .second, .val (.int p3), .val (.long (v0_1 p0 q1 q2 p3)), .second, .val (.ref b1), .unset, .unset, .unset, .unset, .unset, .unset, .unset, .unset]) rfl ?_
    show Steps p.tables e below (T6.setTop (mkF m 22 #[.val (.int p0), .val (.long q1), .second, .val (.long q2), .second, .val (.int p3), .val (.long (v0_1 p0 q1 q2 p3)), .second, .val (.ref b1), .unset, .unset, .unset, .unset, .unset, .unset, .unset, .unset] [])) _
    refine XS.aload X6.here hx rfl (hb hby at_22) rfl rfl ?_
    show Steps p.tables e below (T6.setTop (mkF m 24 #[.val (.int p0), .val (.long q1), .second, .val (.long q2), .second, .val (.int p3), .val (.long (v0_1 p0 q1 q2 p3)), .second, .val (.ref b1), .unset, .unset, .unset, .unset, .unset, .unset, .unset, .unset] [(.ref b1)])) _
    refine XT.lloadN X6.here hx rfl (hb hby at_24) rfl ?_
    show Steps p.tables e below (T6.setTop (mkF m 25 #[.val (.int p0), .val (.long q1), .second, .val (.long q2), .second, .val (.int p3), .val (.long (v0_1 p0 q1 q2 p3)), .second, .val (.ref b1), .unset, .unset, .unset, .unset, .unset, .unset, .unset, .unset] [(.long q2), (.ref b1)])) _
    refine st9.trans ?_
    show Steps p.tables e below (T9.setTop (mkF m 28 #[.val (.int p0), .val (.long q1), .second, .val (.long q2), .second, .val (.int p3), .val (.long (v0_1 p0 q1 q2 p3)), .second, .val (.ref b1), .unset, .unset, .unset, .unset, .unset, .unset, .unset, .unset] [(.int (f4 q2 q1 p0))])) _
    refine XS.istore X9.here hx rfl (hb hby at_28) rfl (l' := #[.val (.int p0), .val (.long q1), .second, .val (.long q2), .second, .val (.int p3), .val (.long (v0_1 p0 q1 q2 p3)), .second, .val (.ref b1), .val (.int (v0_2 p0 q1 q2 p3)), .unset, .unset, .unset, .unset, .unset, .unset, .unset]) rfl ?_
    show Steps p.tables e below (T9.setTop (mkF m 30 #[.val (.int p0), .val (.long q1), .second, .val (.long q2), .second, .val (.int p3), .val (.long (v0_1 p0 q1 q2 p3)), .second, .val (.ref b1), .val (.int (v0_2 p0 q1 q2 p3)), .unset, .unset, .unset, .unset, .unset, .unset, .unset] [])) _
    refine XS.aload X9.here hx rfl (hb hby at_30) rfl rfl ?_
    show Steps p.tables e below (T9.setTop (mkF m 32 #[.val (.int p0), .val (.long q1), .second, .val (.long q2), .second, .val (.int p3), .val (.long (v0_1 p0 q1 q2 p3)), .second, .val (.ref b1), .val (.int (v0_2 p0 q1 q2 p3)), .unset, .unset, .unset, .unset, .unset, .unset, .unset] [(.ref b1)])) _
    refine XT.lload X9.here hx rfl (hb hby at_32) rfl ?_
    show Steps p.tables e below (T9.setTop (mkF m 34 #[.val (.int p0), .val (.long q1), .second, .val (.long q2), .second, .val (.int p3), .val (.long (v0_1 p0 q1 q2 p3)), .second, .val (.ref b1), .val (.int (v0_2 p0 q1 q2 p3)), .unset, .unset, .unset, .unset, .unset, .unset, .unset] [(.long (v0_1 p0 q1 q2 p3)), (.ref b1)])) _
    refine st10.trans ?_
    show Steps p.tables e below (T10.setTop (mkF m 37 #[.val (.int p0), .val (.long q1), .second, .val (.long q2), .second, .val (.int p3), .val (.long (v0_1 p0 q1 q2 p3)), .second, .val (.ref b1), .val (.int (v0_2 p0 q1 q2 p3)), .unset, .unset, .unset, .unset, .unset, .unset, .unset] [(.int (f4 (v0_1 p0 q1 q2 p3) q1 p0))])) _
    refine XS.istore X10.here hx rfl (hb hby at_37) rfl (l' := #[.val (.int p0), .val (.long q1), .second, .val (.long q2), .second, .val (.int p3), .val (.long (v0_1 p0 q1 q2 p3)), .second, .val (.ref b1), .val (.int (v0_2 p0 q1 q2 p3)), .val (.int (v0_3 p0 q1 q2 p3)), .unset, .unset, .unset, .unset, .unset, .unset]) rfl ?_
    show Steps p.tables e below (T10.setTop (mkF m 39 #[.val (.int p0), .val (.long q1), .second, .val (.long q2), .second, .val (.int p3), .val (.long (v0_1 p0 q1 q2 p3)), .second, .val (.ref b1), .val (.int (v0_2 p0 q1 q2 p3)), .val (.int (v0_3 p0 q1 q2 p3)), .unset, .unset, .unset, .unset, .unset, .unset] [])) _
    refine XS.iload X10.here hx rfl (hb hby at_39) rfl ?_
    show Steps p.tables e below (T10.setTop (mkF m 41 #[.val (.int p0), .val (.long q1), .second, .val (.long q2), .second, .val (.int p3), .val (.long (v0_1 p0 q1 q2 p3)), .second, .val (.ref b1), .val (.int (v0_2 p0 q1 q2 p3)), .val (.int (v0_3 p0 q1 q2 p3)), .unset, .unset, .unset, .unset, .unset, .unset] [(.int (v0_2 p0 q1 q2 p3))])) _
    refine XS.iloadN X10.here hx rfl (hb hby at_41) rfl ?_
    show Steps p.tables e below (T10.setTop (mkF m 42 #[.val (.int p0), .val (.long q1), .second, .val (.long q2), .second, .val (.int p3), .val (.long (v0_1 p0 q1 q2 p3)), .second, .val (.ref b1), .val (.int (v0_2 p0 q1 q2 p3)), .val (.int (v0_3 p0 q1 q2 p3)), .unset, .unset, .unset, .unset, .unset, .unset] [(.int p0), (.int (v0_2 p0 q1 q2 p3))])) _
    refine XT.lloadN X10.here hx rfl (hb hby at_42) rfl ?_
    show Steps p.tables e below (T10.setTop (mkF m 43 #[.val (.int p0), .val (.long q1), .second, .val (.long q2), .second, .val (.int p3), .val (.long (v0_1 p0 q1 q2 p3)), .second, .val (.ref b1), .val (.int (v0_2 p0 q1 q2 p3)), .val (.int (v0_3 p0 q1 q2 p3)), .unset, .unset, .unset, .unset, .unset, .unset] [(.long q1), (.int p0), (.int (v0_2 p0 q1 q2 p3))])) _
    refine XT.lloadN X10.here hx rfl (hb hby at_43) rfl ?_
    show Steps p.tables e below (T10.setTop (mkF m 44 #[.val (.int p0), .val (.long q1), .second, .val (.long q2), .second, .val (.int p3), .val (.long (v0_1 p0 q1 q2 p3)), .second, .val (.ref b1), .val (.int (v0_2 p0 q1 q2 p3)), .val (.int (v0_3 p0 q1 q2 p3)), .unset, .unset, .unset, .unset, .unset, .unset] [(.long q2), (.long q1), (.int p0), (.int (v0_2 p0 q1 q2 p3))])) _
    refine st11 _ ?_
    exact k
  obtain ⟨T17, L17, X17, e17, N17, pre17⟩ : ∃ (T' : State) (L' : List Loc), Stand p l e room_1 s m #[(.int p0), (.long q1), (.long q2), (.int p3)] below meth c T' L' 1 2 ∧ T'.heap = T6.heap ∧ Fr n0 L' ∧ ∀ t, Steps p.tables e below (T'.setTop (mkF m 67 #[.val (.int p0), .val (.long q1), .second, .val (.long q2), .second, .val (.int p3), .val (.long (v0_1 p0 q1 q2 p3)), .second, .val (.ref b1), .val (.int (v0_2 p0 q1 q2 p3)), .val (.int (v0_3 p0 q1 q2 p3)), .unset, .unset, .unset, .unset, .unset, .unset] [(.int (v0_6 p0 q1 q2 p3))])) t → Steps p.tables e below (s₁.setTop (entryFrame m #[(.int p0), (.long q1), (.long q2), (.int p3)] maxLocals)) t := by
    by_cases c13 : (v0_2 p0 q1 q2 p3) = (v0_4 p0 q1 q2 p3)
    · skip
      obtain ⟨_, _, ⟨T14, L14, k14, n14⟩, -, X14, ⟨Lc14, hQ14, l14, y14, z14⟩, st14⟩ := Jvm.LawKit.callS X11 hx (y := (⟨"com/example/tollgate/tollgate/store/FailuresCountAtPinLaw", "expected", "(IJJ)I"⟩ : MethodName)) hown (mvT hZ (hw _ (List.mem_of_getElem? (i := 23) rfl))) (mvT hZ (hw _ (List.mem_of_getElem? (i := 24) rfl))) (mvT hZ (hw _ (List.mem_of_getElem? (i := 25) rfl))) (mvT hZ (hw _ (List.mem_of_getElem? (i := 26) rfl))) (by decide) (backOf (W := 1) (rm5 l Z a0 hw [] p0 q1 (v0_1 p0 q1 q2 p3) T6.heap n0 z7) hZ (hw _ (List.mem_of_getElem? (i := 26) rfl)) (hw _ (List.mem_of_getElem? (i := 25) rfl)) (by decide) (by decide)) (g := (mkF m 56 #[.val (.int p0), .val (.long q1), .second, .val (.long q2), .second, .val (.int p3), .val (.long (v0_1 p0 q1 q2 p3)), .second, .val (.ref b1), .val (.int (v0_2 p0 q1 q2 p3)), .val (.int (v0_3 p0 q1 q2 p3)), .unset, .unset, .unset, .unset, .unset, .unset] [(.long (v0_1 p0 q1 q2 p3)), (.long q1), (.int p0), (.int (v0_3 p0 q1 q2 p3))])) rfl (by rw [hml]; rfl) (argsL := [(.int p0), (.long q1), (.long (v0_1 p0 q1 q2 p3))]) (rest := [(.int (v0_3 p0 q1 q2 p3))]) (lenOf pd__IJJ_I rfl) rfl (by show 2 * 0 + _ ≤ _; exact Nat.le_of_eq rfl) (hb hby at_56) (fun _ _ => ⟨rfl, e11, (by decide : 1 + 0 ≤ _), (by decide : 2 + 0 ≤ _)⟩)
      dsimp only [Pt.U, Pt.locs, Pt.cells, Pt.slots] at X14 l14 y14 z14 st14 hQ14
      subst l14 y14 z14
      obtain ⟨N14q, rfl, e14⟩ := hQ14
      have N14 := Fr.app N11 N14q
      have pre15 : ∀ t, Steps p.tables e below (T14.setTop (mkF m 59 #[.val (.int p0), .val (.long q1), .second, .val (.long q2), .second, .val (.int p3), .val (.long (v0_1 p0 q1 q2 p3)), .second, .val (.ref b1), .val (.int (v0_2 p0 q1 q2 p3)), .val (.int (v0_3 p0 q1 q2 p3)), .unset, .unset, .unset, .unset, .unset, .unset] [(.int (f5 p0 q1 (v0_1 p0 q1 q2 p3))), (.int (v0_3 p0 q1 q2 p3))])) t → Steps p.tables e below (s₁.setTop (entryFrame m #[(.int p0), (.long q1), (.long q2), (.int p3)] maxLocals)) t := by
        intro t k
        refine pre12 t ?_
        show Steps p.tables e below (T11.setTop (mkF m 47 #[.val (.int p0), .val (.long q1), .second, .val (.long q2), .second, .val (.int p3), .val (.long (v0_1 p0 q1 q2 p3)), .second, .val (.ref b1), .val (.int (v0_2 p0 q1 q2 p3)), .val (.int (v0_3 p0 q1 q2 p3)), .unset, .unset, .unset, .unset, .unset, .unset] [(.int (f5 p0 q1 q2)), (.int (v0_2 p0 q1 q2 p3))])) _
        refine XS.icmpNo X11.here hx rfl (hb hby at_47) rfl (XT.ii_ne_f c13) ?_
        show Steps p.tables e below (T11.setTop (mkF m 50 #[.val (.int p0), .val (.long q1), .second, .val (.long q2), .second, .val (.int p3), .val (.long (v0_1 p0 q1 q2 p3)), .second, .val (.ref b1), .val (.int (v0_2 p0 q1 q2 p3)), .val (.int (v0_3 p0 q1 q2 p3)), .unset, .unset, .unset, .unset, .unset, .unset] [])) _
        refine XS.iload X11.here hx rfl (hb hby at_50) rfl ?_
        show Steps p.tables e below (T11.setTop (mkF m 52 #[.val (.int p0), .val (.long q1), .second, .val (.long q2), .second, .val (.int p3), .val (.long (v0_1 p0 q1 q2 p3)), .second, .val (.ref b1), .val (.int (v0_2 p0 q1 q2 p3)), .val (.int (v0_3 p0 q1 q2 p3)), .unset, .unset, .unset, .unset, .unset, .unset] [(.int (v0_3 p0 q1 q2 p3))])) _
        refine XS.iloadN X11.here hx rfl (hb hby at_52) rfl ?_
        show Steps p.tables e below (T11.setTop (mkF m 53 #[.val (.int p0), .val (.long q1), .second, .val (.long q2), .second, .val (.int p3), .val (.long (v0_1 p0 q1 q2 p3)), .second, .val (.ref b1), .val (.int (v0_2 p0 q1 q2 p3)), .val (.int (v0_3 p0 q1 q2 p3)), .unset, .unset, .unset, .unset, .unset, .unset] [(.int p0), (.int (v0_3 p0 q1 q2 p3))])) _
        refine XT.lloadN X11.here hx rfl (hb hby at_53) rfl ?_
        show Steps p.tables e below (T11.setTop (mkF m 54 #[.val (.int p0), .val (.long q1), .second, .val (.long q2), .second, .val (.int p3), .val (.long (v0_1 p0 q1 q2 p3)), .second, .val (.ref b1), .val (.int (v0_2 p0 q1 q2 p3)), .val (.int (v0_3 p0 q1 q2 p3)), .unset, .unset, .unset, .unset, .unset, .unset] [(.long q1), (.int p0), (.int (v0_3 p0 q1 q2 p3))])) _
        refine XT.lload X11.here hx rfl (hb hby at_54) rfl ?_
        show Steps p.tables e below (T11.setTop (mkF m 56 #[.val (.int p0), .val (.long q1), .second, .val (.long q2), .second, .val (.int p3), .val (.long (v0_1 p0 q1 q2 p3)), .second, .val (.ref b1), .val (.int (v0_2 p0 q1 q2 p3)), .val (.int (v0_3 p0 q1 q2 p3)), .unset, .unset, .unset, .unset, .unset, .unset] [(.long (v0_1 p0 q1 q2 p3)), (.long q1), (.int p0), (.int (v0_3 p0 q1 q2 p3))])) _
        refine st14 _ ?_
        exact k
      by_cases c16 : (v0_3 p0 q1 q2 p3) = (v0_5 p0 q1 q2 p3)
      · skip
        refine ⟨T14, _, X14, e14, N14, fun t k => ?_⟩
        rw [show (v0_6 p0 q1 q2 p3) = (1 : Int32) from ((if_pos c13).trans (if_pos c16))] at k
        refine pre15 t ?_
        show Steps p.tables e below (T14.setTop (mkF m 59 #[.val (.int p0), .val (.long q1), .second, .val (.long q2), .second, .val (.int p3), .val (.long (v0_1 p0 q1 q2 p3)), .second, .val (.ref b1), .val (.int (v0_2 p0 q1 q2 p3)), .val (.int (v0_3 p0 q1 q2 p3)), .unset, .unset, .unset, .unset, .unset, .unset] [(.int (f5 p0 q1 (v0_1 p0 q1 q2 p3))), (.int (v0_3 p0 q1 q2 p3))])) _
        refine XS.icmpNo X14.here hx rfl (hb hby at_59) rfl (XT.ii_ne_f c16) ?_
        show Steps p.tables e below (T14.setTop (mkF m 62 #[.val (.int p0), .val (.long q1), .second, .val (.long q2), .second, .val (.int p3), .val (.long (v0_1 p0 q1 q2 p3)), .second, .val (.ref b1), .val (.int (v0_2 p0 q1 q2 p3)), .val (.int (v0_3 p0 q1 q2 p3)), .unset, .unset, .unset, .unset, .unset, .unset] [])) _
        refine XT.iconstV X14.here hx rfl (1 : Int32) (hb hby at_62) (by decide) ?_
        show Steps p.tables e below (T14.setTop (mkF m 63 #[.val (.int p0), .val (.long q1), .second, .val (.long q2), .second, .val (.int p3), .val (.long (v0_1 p0 q1 q2 p3)), .second, .val (.ref b1), .val (.int (v0_2 p0 q1 q2 p3)), .val (.int (v0_3 p0 q1 q2 p3)), .unset, .unset, .unset, .unset, .unset, .unset] [(.int (1 : Int32))])) _
        refine XS.goto X14.here hx rfl (pc0 := 63) (pc' := 67) rfl (hb hby at_63) (by decide) (by decide) ?_
        exact k
      · skip
        refine ⟨T14, _, X14, e14, N14, fun t k => ?_⟩
        rw [show (v0_6 p0 q1 q2 p3) = (0 : Int32) from ((if_pos c13).trans (if_neg c16))] at k
        refine pre15 t ?_
        show Steps p.tables e below (T14.setTop (mkF m 59 #[.val (.int p0), .val (.long q1), .second, .val (.long q2), .second, .val (.int p3), .val (.long (v0_1 p0 q1 q2 p3)), .second, .val (.ref b1), .val (.int (v0_2 p0 q1 q2 p3)), .val (.int (v0_3 p0 q1 q2 p3)), .unset, .unset, .unset, .unset, .unset, .unset] [(.int (f5 p0 q1 (v0_1 p0 q1 q2 p3))), (.int (v0_3 p0 q1 q2 p3))])) _
        refine XS.icmpYes X14.here hx rfl (pc0 := 59) (pc' := 66) rfl (hb hby at_59) rfl (XT.ii_ne_t c16) (by decide) (by decide) ?_
        show Steps p.tables e below (T14.setTop (mkF m 66 #[.val (.int p0), .val (.long q1), .second, .val (.long q2), .second, .val (.int p3), .val (.long (v0_1 p0 q1 q2 p3)), .second, .val (.ref b1), .val (.int (v0_2 p0 q1 q2 p3)), .val (.int (v0_3 p0 q1 q2 p3)), .unset, .unset, .unset, .unset, .unset, .unset] [])) _
        refine XT.iconstV X14.here hx rfl (0 : Int32) (hb hby at_66) (by decide) ?_
        exact k
    · skip
      refine ⟨T11, _, X11, e11, N11, fun t k => ?_⟩
      rw [show (v0_6 p0 q1 q2 p3) = (0 : Int32) from (if_neg c13)] at k
      refine pre12 t ?_
      show Steps p.tables e below (T11.setTop (mkF m 47 #[.val (.int p0), .val (.long q1), .second, .val (.long q2), .second, .val (.int p3), .val (.long (v0_1 p0 q1 q2 p3)), .second, .val (.ref b1), .val (.int (v0_2 p0 q1 q2 p3)), .val (.int (v0_3 p0 q1 q2 p3)), .unset, .unset, .unset, .unset, .unset, .unset] [(.int (f5 p0 q1 q2)), (.int (v0_2 p0 q1 q2 p3))])) _
      refine XS.icmpYes X11.here hx rfl (pc0 := 47) (pc' := 66) rfl (hb hby at_47) rfl (XT.ii_ne_t c13) (by decide) (by decide) ?_
      show Steps p.tables e below (T11.setTop (mkF m 66 #[.val (.int p0), .val (.long q1), .second, .val (.long q2), .second, .val (.int p3), .val (.long (v0_1 p0 q1 q2 p3)), .second, .val (.ref b1), .val (.int (v0_2 p0 q1 q2 p3)), .val (.int (v0_3 p0 q1 q2 p3)), .unset, .unset, .unset, .unset, .unset, .unset] [])) _
      refine XT.iconstV X11.here hx rfl (0 : Int32) (hb hby at_66) (by decide) ?_
      exact k
  obtain ⟨_, _, ⟨T18, L18, k18, n18⟩, -, X18, ⟨Lc18, hQ18, l18, y18, z18⟩, st18⟩ := Jvm.LawKit.callS X17 hx (y := (⟨"java/lang/Math", "min", "(JJ)J"⟩ : MethodName)) hown (mvT hZ (hw _ (List.mem_of_getElem? (i := 27) rfl))) (mvT hZ (hw _ (List.mem_of_getElem? (i := 28) rfl))) (mvT hZ (hw _ (List.mem_of_getElem? (i := 29) rfl))) (mvT hZ (hw _ (List.mem_of_getElem? (i := 30) rfl))) (by decide) (backOf (W := 0) (rm6 l Z a0 hw [] q2 (v0_1 p0 q1 q2 p3) T6.heap n0 z7) hZ (hw _ (List.mem_of_getElem? (i := 30) rfl)) (hw _ (List.mem_of_getElem? (i := 29) rfl)) (by decide) (by decide)) (g := (mkF m 72 #[.val (.int p0), .val (.long q1), .second, .val (.long q2), .second, .val (.int p3), .val (.long (v0_1 p0 q1 q2 p3)), .second, .val (.ref b1), .val (.int (v0_2 p0 q1 q2 p3)), .val (.int (v0_3 p0 q1 q2 p3)), .val (.int (v0_6 p0 q1 q2 p3)), .unset, .unset, .unset, .unset, .unset] [(.long (v0_1 p0 q1 q2 p3)), (.long q2)])) rfl (by rw [hml]; rfl) (argsL := [(.long q2), (.long (v0_1 p0 q1 q2 p3))]) (rest := []) (lenOf pd__JJ_J rfl) rfl (by show 2 * 0 + _ ≤ _; exact Nat.le_of_eq rfl) (hb hby at_72) (fun _ _ => ⟨rfl, e17, (by decide : 1 + 0 ≤ _), (by decide : 2 + 0 ≤ _)⟩)
  dsimp only [Pt.U, Pt.locs, Pt.cells, Pt.slots] at X18 l18 y18 z18 st18 hQ18
  subst l18 y18 z18
  obtain ⟨N18q, rfl, e18⟩ := hQ18
  have N18 := Fr.app N17 N18q
  have pre19 : ∀ t, Steps p.tables e below (T18.setTop (mkF m 81 #[.val (.int p0), .val (.long q1), .second, .val (.long q2), .second, .val (.int p3), .val (.long (v0_1 p0 q1 q2 p3)), .second, .val (.ref b1), .val (.int (v0_2 p0 q1 q2 p3)), .val (.int (v0_3 p0 q1 q2 p3)), .val (.int (v0_6 p0 q1 q2 p3)), .val (.long (v0_7 p0 q1 q2 p3)), .second, .unset, .unset, .unset] [(.int (XT.cmpL q2 (v0_1 p0 q1 q2 p3)))])) t → Steps p.tables e below (s₁.setTop (entryFrame m #[(.int p0), (.long q1), (.long q2), (.int p3)] maxLocals)) t := by
    intro t k
    refine pre17 t ?_
    show Steps p.tables e below (T17.setTop (mkF m 67 #[.val (.int p0), .val (.long q1), .second, .val (.long q2), .second, .val (.int p3), .val (.long (v0_1 p0 q1 q2 p3)), .second, .val (.ref b1), .val (.int (v0_2 p0 q1 q2 p3)), .val (.int (v0_3 p0 q1 q2 p3)), .unset, .unset, .unset, .unset, .unset, .unset] [(.int (v0_6 p0 q1 q2 p3))])) _
    refine XS.istore X17.here hx rfl (hb hby at_67) rfl (l' := #[.val (.int p0), .val (.long q1), .second, .val (.long q2), .second, .val (.int p3), .val (.long (v0_1 p0 q1 q2 p3)), .second, .val (.ref b1), .val (.int (v0_2 p0 q1 q2 p3)), .val (.int (v0_3 p0 q1 q2 p3)), .val (.int (v0_6 p0 q1 q2 p3)), .unset, .unset, .unset, .unset, .unset]) rfl ?_
    show Steps p.tables e below (T17.setTop (mkF m 69 #[.val (.int p0), .val (.long q1), .second, .val (.long q2), .second, .val (.int p3), .val (.long (v0_1 p0 q1 q2 p3)), .second, .val (.ref b1), .val (.int (v0_2 p0 q1 q2 p3)), .val (.int (v0_3 p0 q1 q2 p3)), .val (.int (v0_6 p0 q1 q2 p3)), .unset, .unset, .unset, .unset, .unset] [])) _
    refine XT.lloadN X17.here hx rfl (hb hby at_69) rfl ?_
    show Steps p.tables e below (T17.setTop (mkF m 70 #[.val (.int p0), .val (.long q1), .second, .val (.long q2), .second, .val (.int p3), .val (.long (v0_1 p0 q1 q2 p3)), .second, .val (.ref b1), .val (.int (v0_2 p0 q1 q2 p3)), .val (.int (v0_3 p0 q1 q2 p3)), .val (.int (v0_6 p0 q1 q2 p3)), .unset, .unset, .unset, .unset, .unset] [(.long q2)])) _
    refine XT.lload X17.here hx rfl (hb hby at_70) rfl ?_
    show Steps p.tables e below (T17.setTop (mkF m 72 #[.val (.int p0), .val (.long q1), .second, .val (.long q2), .second, .val (.int p3), .val (.long (v0_1 p0 q1 q2 p3)), .second, .val (.ref b1), .val (.int (v0_2 p0 q1 q2 p3)), .val (.int (v0_3 p0 q1 q2 p3)), .val (.int (v0_6 p0 q1 q2 p3)), .unset, .unset, .unset, .unset, .unset] [(.long (v0_1 p0 q1 q2 p3)), (.long q2)])) _
    refine st18 _ ?_
    show Steps p.tables e below (T18.setTop (mkF m 75 #[.val (.int p0), .val (.long q1), .second, .val (.long q2), .second, .val (.int p3), .val (.long (v0_1 p0 q1 q2 p3)), .second, .val (.ref b1), .val (.int (v0_2 p0 q1 q2 p3)), .val (.int (v0_3 p0 q1 q2 p3)), .val (.int (v0_6 p0 q1 q2 p3)), .unset, .unset, .unset, .unset, .unset] [(.long (f6 q2 (v0_1 p0 q1 q2 p3)))])) _
    refine XT.lstore X18.here hx rfl (hb hby at_75) rfl (l' := #[.val (.int p0), .val (.long q1), .second, .val (.long q2), .second, .val (.int p3), .val (.long (v0_1 p0 q1 q2 p3)), .second, .val (.ref b1), .val (.int (v0_2 p0 q1 q2 p3)), .val (.int (v0_3 p0 q1 q2 p3)), .val (.int (v0_6 p0 q1 q2 p3)), .val (.long (v0_7 p0 q1 q2 p3)), .second, .unset, .unset, .unset]) rfl ?_
    show Steps p.tables e below (T18.setTop (mkF m 77 #[.val (.int p0), .val (.long q1), .second, .val (.long q2), .second, .val (.int p3), .val (.long (v0_1 p0 q1 q2 p3)), .second, .val (.ref b1), .val (.int (v0_2 p0 q1 q2 p3)), .val (.int (v0_3 p0 q1 q2 p3)), .val (.int (v0_6 p0 q1 q2 p3)), .val (.long (v0_7 p0 q1 q2 p3)), .second, .unset, .unset, .unset] [])) _
    refine XT.lloadN X18.here hx rfl (hb hby at_77) rfl ?_
    show Steps p.tables e below (T18.setTop (mkF m 78 #[.val (.int p0), .val (.long q1), .second, .val (.long q2), .second, .val (.int p3), .val (.long (v0_1 p0 q1 q2 p3)), .second, .val (.ref b1), .val (.int (v0_2 p0 q1 q2 p3)), .val (.int (v0_3 p0 q1 q2 p3)), .val (.int (v0_6 p0 q1 q2 p3)), .val (.long (v0_7 p0 q1 q2 p3)), .second, .unset, .unset, .unset] [(.long q2)])) _
    refine XT.lload X18.here hx rfl (hb hby at_78) rfl ?_
    show Steps p.tables e below (T18.setTop (mkF m 80 #[.val (.int p0), .val (.long q1), .second, .val (.long q2), .second, .val (.int p3), .val (.long (v0_1 p0 q1 q2 p3)), .second, .val (.ref b1), .val (.int (v0_2 p0 q1 q2 p3)), .val (.int (v0_3 p0 q1 q2 p3)), .val (.int (v0_6 p0 q1 q2 p3)), .val (.long (v0_7 p0 q1 q2 p3)), .second, .unset, .unset, .unset] [(.long (v0_1 p0 q1 q2 p3)), (.long q2)])) _
    refine XT.lcmp X18.here hx rfl (hb hby at_80) rfl ?_
    exact k
  have pre21 : ∀ t, Steps p.tables e below (T18.setTop (mkF m 91 #[.val (.int p0), .val (.long q1), .second, .val (.long q2), .second, .val (.int p3), .val (.long (v0_1 p0 q1 q2 p3)), .second, .val (.ref b1), .val (.int (v0_2 p0 q1 q2 p3)), .val (.int (v0_3 p0 q1 q2 p3)), .val (.int (v0_6 p0 q1 q2 p3)), .val (.long (v0_7 p0 q1 q2 p3)), .second, .unset, .unset, .unset] [(.int (v0_8 p0 q1 q2 p3))])) t → Steps p.tables e below (s₁.setTop (entryFrame m #[(.int p0), (.long q1), (.long q2), (.int p3)] maxLocals)) t := by
    intro t k
    by_cases c20 : (v0_1 p0 q1 q2 p3) < q2
    · skip
      rw [show (v0_8 p0 q1 q2 p3) = (v0_3 p0 q1 q2 p3) from (if_pos c20)] at k
      refine pre19 t ?_
      show Steps p.tables e below (T18.setTop (mkF m 81 #[.val (.int p0), .val (.long q1), .second, .val (.long q2), .second, .val (.int p3), .val (.long (v0_1 p0 q1 q2 p3)), .second, .val (.ref b1), .val (.int (v0_2 p0 q1 q2 p3)), .val (.int (v0_3 p0 q1 q2 p3)), .val (.int (v0_6 p0 q1 q2 p3)), .val (.long (v0_7 p0 q1 q2 p3)), .second, .unset, .unset, .unset] [(.int (XT.cmpL q2 (v0_1 p0 q1 q2 p3)))])) _
      refine XS.ifYes X18.here hx rfl (pc0 := 81) (pc' := 89) rfl (hb hby at_81) rfl (XT.ll_gt_t c20) (by decide) (by decide) ?_
      show Steps p.tables e below (T18.setTop (mkF m 89 #[.val (.int p0), .val (.long q1), .second, .val (.long q2), .second, .val (.int p3), .val (.long (v0_1 p0 q1 q2 p3)), .second, .val (.ref b1), .val (.int (v0_2 p0 q1 q2 p3)), .val (.int (v0_3 p0 q1 q2 p3)), .val (.int (v0_6 p0 q1 q2 p3)), .val (.long (v0_7 p0 q1 q2 p3)), .second, .unset, .unset, .unset] [])) _
      refine XS.iload X18.here hx rfl (hb hby at_89) rfl ?_
      exact k
    · skip
      rw [show (v0_8 p0 q1 q2 p3) = (v0_2 p0 q1 q2 p3) from (if_neg c20)] at k
      refine pre19 t ?_
      show Steps p.tables e below (T18.setTop (mkF m 81 #[.val (.int p0), .val (.long q1), .second, .val (.long q2), .second, .val (.int p3), .val (.long (v0_1 p0 q1 q2 p3)), .second, .val (.ref b1), .val (.int (v0_2 p0 q1 q2 p3)), .val (.int (v0_3 p0 q1 q2 p3)), .val (.int (v0_6 p0 q1 q2 p3)), .val (.long (v0_7 p0 q1 q2 p3)), .second, .unset, .unset, .unset] [(.int (XT.cmpL q2 (v0_1 p0 q1 q2 p3)))])) _
      refine XS.ifNo X18.here hx rfl (hb hby at_81) rfl (XT.ll_gt_f c20) ?_
      show Steps p.tables e below (T18.setTop (mkF m 84 #[.val (.int p0), .val (.long q1), .second, .val (.long q2), .second, .val (.int p3), .val (.long (v0_1 p0 q1 q2 p3)), .second, .val (.ref b1), .val (.int (v0_2 p0 q1 q2 p3)), .val (.int (v0_3 p0 q1 q2 p3)), .val (.int (v0_6 p0 q1 q2 p3)), .val (.long (v0_7 p0 q1 q2 p3)), .second, .unset, .unset, .unset] [])) _
      refine XS.iload X18.here hx rfl (hb hby at_84) rfl ?_
      show Steps p.tables e below (T18.setTop (mkF m 86 #[.val (.int p0), .val (.long q1), .second, .val (.long q2), .second, .val (.int p3), .val (.long (v0_1 p0 q1 q2 p3)), .second, .val (.ref b1), .val (.int (v0_2 p0 q1 q2 p3)), .val (.int (v0_3 p0 q1 q2 p3)), .val (.int (v0_6 p0 q1 q2 p3)), .val (.long (v0_7 p0 q1 q2 p3)), .second, .unset, .unset, .unset] [(.int (v0_2 p0 q1 q2 p3))])) _
      refine XS.goto X18.here hx rfl (pc0 := 86) (pc' := 91) rfl (hb hby at_86) (by decide) (by decide) ?_
      exact k
  have pre22 : ∀ t, Steps p.tables e below (T18.setTop (mkF m 97 #[.val (.int p0), .val (.long q1), .second, .val (.long q2), .second, .val (.int p3), .val (.long (v0_1 p0 q1 q2 p3)), .second, .val (.ref b1), .val (.int (v0_2 p0 q1 q2 p3)), .val (.int (v0_3 p0 q1 q2 p3)), .val (.int (v0_6 p0 q1 q2 p3)), .val (.long (v0_7 p0 q1 q2 p3)), .second, .val (.int (v0_8 p0 q1 q2 p3)), .unset, .unset] [(.int (XT.cmpL q2 (v0_1 p0 q1 q2 p3)))])) t → Steps p.tables e below (s₁.setTop (entryFrame m #[(.int p0), (.long q1), (.long q2), (.int p3)] maxLocals)) t := by
    intro t k
    refine pre21 t ?_
    show Steps p.tables e below (T18.setTop (mkF m 91 #[.val (.int p0), .val (.long q1), .second, .val (.long q2), .second, .val (.int p3), .val (.long (v0_1 p0 q1 q2 p3)), .second, .val (.ref b1), .val (.int (v0_2 p0 q1 q2 p3)), .val (.int (v0_3 p0 q1 q2 p3)), .val (.int (v0_6 p0 q1 q2 p3)), .val (.long (v0_7 p0 q1 q2 p3)), .second, .unset, .unset, .unset] [(.int (v0_8 p0 q1 q2 p3))])) _
    refine XS.istore X18.here hx rfl (hb hby at_91) rfl (l' := #[.val (.int p0), .val (.long q1), .second, .val (.long q2), .second, .val (.int p3), .val (.long (v0_1 p0 q1 q2 p3)), .second, .val (.ref b1), .val (.int (v0_2 p0 q1 q2 p3)), .val (.int (v0_3 p0 q1 q2 p3)), .val (.int (v0_6 p0 q1 q2 p3)), .val (.long (v0_7 p0 q1 q2 p3)), .second, .val (.int (v0_8 p0 q1 q2 p3)), .unset, .unset]) rfl ?_
    show Steps p.tables e below (T18.setTop (mkF m 93 #[.val (.int p0), .val (.long q1), .second, .val (.long q2), .second, .val (.int p3), .val (.long (v0_1 p0 q1 q2 p3)), .second, .val (.ref b1), .val (.int (v0_2 p0 q1 q2 p3)), .val (.int (v0_3 p0 q1 q2 p3)), .val (.int (v0_6 p0 q1 q2 p3)), .val (.long (v0_7 p0 q1 q2 p3)), .second, .val (.int (v0_8 p0 q1 q2 p3)), .unset, .unset] [])) _
    refine XT.lloadN X18.here hx rfl (hb hby at_93) rfl ?_
    show Steps p.tables e below (T18.setTop (mkF m 94 #[.val (.int p0), .val (.long q1), .second, .val (.long q2), .second, .val (.int p3), .val (.long (v0_1 p0 q1 q2 p3)), .second, .val (.ref b1), .val (.int (v0_2 p0 q1 q2 p3)), .val (.int (v0_3 p0 q1 q2 p3)), .val (.int (v0_6 p0 q1 q2 p3)), .val (.long (v0_7 p0 q1 q2 p3)), .second, .val (.int (v0_8 p0 q1 q2 p3)), .unset, .unset] [(.long q2)])) _
    refine XT.lload X18.here hx rfl (hb hby at_94) rfl ?_
    show Steps p.tables e below (T18.setTop (mkF m 96 #[.val (.int p0), .val (.long q1), .second, .val (.long q2), .second, .val (.int p3), .val (.long (v0_1 p0 q1 q2 p3)), .second, .val (.ref b1), .val (.int (v0_2 p0 q1 q2 p3)), .val (.int (v0_3 p0 q1 q2 p3)), .val (.int (v0_6 p0 q1 q2 p3)), .val (.long (v0_7 p0 q1 q2 p3)), .second, .val (.int (v0_8 p0 q1 q2 p3)), .unset, .unset] [(.long (v0_1 p0 q1 q2 p3)), (.long q2)])) _
    refine XT.lcmp X18.here hx rfl (hb hby at_96) rfl ?_
    exact k
  have pre24 : ∀ t, Steps p.tables e below (T18.setTop (mkF m 107 #[.val (.int p0), .val (.long q1), .second, .val (.long q2), .second, .val (.int p3), .val (.long (v0_1 p0 q1 q2 p3)), .second, .val (.ref b1), .val (.int (v0_2 p0 q1 q2 p3)), .val (.int (v0_3 p0 q1 q2 p3)), .val (.int (v0_6 p0 q1 q2 p3)), .val (.long (v0_7 p0 q1 q2 p3)), .second, .val (.int (v0_8 p0 q1 q2 p3)), .unset, .unset] [(.int (v0_9 p0 q1 q2 p3))])) t → Steps p.tables e below (s₁.setTop (entryFrame m #[(.int p0), (.long q1), (.long q2), (.int p3)] maxLocals)) t := by
    intro t k
    by_cases c23 : (v0_1 p0 q1 q2 p3) < q2
    · skip
      rw [show (v0_9 p0 q1 q2 p3) = (v0_2 p0 q1 q2 p3) from (if_pos c23)] at k
      refine pre22 t ?_
      show Steps p.tables e below (T18.setTop (mkF m 97 #[.val (.int p0), .val (.long q1), .second, .val (.long q2), .second, .val (.int p3), .val (.long (v0_1 p0 q1 q2 p3)), .second, .val (.ref b1), .val (.int (v0_2 p0 q1 q2 p3)), .val (.int (v0_3 p0 q1 q2 p3)), .val (.int (v0_6 p0 q1 q2 p3)), .val (.long (v0_7 p0 q1 q2 p3)), .second, .val (.int (v0_8 p0 q1 q2 p3)), .unset, .unset] [(.int (XT.cmpL q2 (v0_1 p0 q1 q2 p3)))])) _
      refine XS.ifYes X18.here hx rfl (pc0 := 97) (pc' := 105) rfl (hb hby at_97) rfl (XT.ll_gt_t c23) (by decide) (by decide) ?_
      show Steps p.tables e below (T18.setTop (mkF m 105 #[.val (.int p0), .val (.long q1), .second, .val (.long q2), .second, .val (.int p3), .val (.long (v0_1 p0 q1 q2 p3)), .second, .val (.ref b1), .val (.int (v0_2 p0 q1 q2 p3)), .val (.int (v0_3 p0 q1 q2 p3)), .val (.int (v0_6 p0 q1 q2 p3)), .val (.long (v0_7 p0 q1 q2 p3)), .second, .val (.int (v0_8 p0 q1 q2 p3)), .unset, .unset] [])) _
      refine XS.iload X18.here hx rfl (hb hby at_105) rfl ?_
      exact k
    · skip
      rw [show (v0_9 p0 q1 q2 p3) = (v0_3 p0 q1 q2 p3) from (if_neg c23)] at k
      refine pre22 t ?_
      show Steps p.tables e below (T18.setTop (mkF m 97 #[.val (.int p0), .val (.long q1), .second, .val (.long q2), .second, .val (.int p3), .val (.long (v0_1 p0 q1 q2 p3)), .second, .val (.ref b1), .val (.int (v0_2 p0 q1 q2 p3)), .val (.int (v0_3 p0 q1 q2 p3)), .val (.int (v0_6 p0 q1 q2 p3)), .val (.long (v0_7 p0 q1 q2 p3)), .second, .val (.int (v0_8 p0 q1 q2 p3)), .unset, .unset] [(.int (XT.cmpL q2 (v0_1 p0 q1 q2 p3)))])) _
      refine XS.ifNo X18.here hx rfl (hb hby at_97) rfl (XT.ll_gt_f c23) ?_
      show Steps p.tables e below (T18.setTop (mkF m 100 #[.val (.int p0), .val (.long q1), .second, .val (.long q2), .second, .val (.int p3), .val (.long (v0_1 p0 q1 q2 p3)), .second, .val (.ref b1), .val (.int (v0_2 p0 q1 q2 p3)), .val (.int (v0_3 p0 q1 q2 p3)), .val (.int (v0_6 p0 q1 q2 p3)), .val (.long (v0_7 p0 q1 q2 p3)), .second, .val (.int (v0_8 p0 q1 q2 p3)), .unset, .unset] [])) _
      refine XS.iload X18.here hx rfl (hb hby at_100) rfl ?_
      show Steps p.tables e below (T18.setTop (mkF m 102 #[.val (.int p0), .val (.long q1), .second, .val (.long q2), .second, .val (.int p3), .val (.long (v0_1 p0 q1 q2 p3)), .second, .val (.ref b1), .val (.int (v0_2 p0 q1 q2 p3)), .val (.int (v0_3 p0 q1 q2 p3)), .val (.int (v0_6 p0 q1 q2 p3)), .val (.long (v0_7 p0 q1 q2 p3)), .second, .val (.int (v0_8 p0 q1 q2 p3)), .unset, .unset] [(.int (v0_3 p0 q1 q2 p3))])) _
      refine XS.goto X18.here hx rfl (pc0 := 102) (pc' := 107) rfl (hb hby at_102) (by decide) (by decide) ?_
      exact k
  have pre25 : ∀ t, Steps p.tables e below (T18.setTop (mkF m 111 #[.val (.int p0), .val (.long q1), .second, .val (.long q2), .second, .val (.int p3), .val (.long (v0_1 p0 q1 q2 p3)), .second, .val (.ref b1), .val (.int (v0_2 p0 q1 q2 p3)), .val (.int (v0_3 p0 q1 q2 p3)), .val (.int (v0_6 p0 q1 q2 p3)), .val (.long (v0_7 p0 q1 q2 p3)), .second, .val (.int (v0_8 p0 q1 q2 p3)), .val (.int (v0_9 p0 q1 q2 p3)), .unset] [(.int (v0_8 p0 q1 q2 p3))])) t → Steps p.tables e below (s₁.setTop (entryFrame m #[(.int p0), (.long q1), (.long q2), (.int p3)] maxLocals)) t := by
    intro t k
    refine pre24 t ?_
    show Steps p.tables e below (T18.setTop (mkF m 107 #[.val (.int p0), .val (.long q1), .second, .val (.long q2), .second, .val (.int p3), .val (.long (v0_1 p0 q1 q2 p3)), .second, .val (.ref b1), .val (.int (v0_2 p0 q1 q2 p3)), .val (.int (v0_3 p0 q1 q2 p3)), .val (.int (v0_6 p0 q1 q2 p3)), .val (.long (v0_7 p0 q1 q2 p3)), .second, .val (.int (v0_8 p0 q1 q2 p3)), .unset, .unset] [(.int (v0_9 p0 q1 q2 p3))])) _
    refine XS.istore X18.here hx rfl (hb hby at_107) rfl (l' := #[.val (.int p0), .val (.long q1), .second, .val (.long q2), .second, .val (.int p3), .val (.long (v0_1 p0 q1 q2 p3)), .second, .val (.ref b1), .val (.int (v0_2 p0 q1 q2 p3)), .val (.int (v0_3 p0 q1 q2 p3)), .val (.int (v0_6 p0 q1 q2 p3)), .val (.long (v0_7 p0 q1 q2 p3)), .second, .val (.int (v0_8 p0 q1 q2 p3)), .val (.int (v0_9 p0 q1 q2 p3)), .unset]) rfl ?_
    show Steps p.tables e below (T18.setTop (mkF m 109 #[.val (.int p0), .val (.long q1), .second, .val (.long q2), .second, .val (.int p3), .val (.long (v0_1 p0 q1 q2 p3)), .second, .val (.ref b1), .val (.int (v0_2 p0 q1 q2 p3)), .val (.int (v0_3 p0 q1 q2 p3)), .val (.int (v0_6 p0 q1 q2 p3)), .val (.long (v0_7 p0 q1 q2 p3)), .second, .val (.int (v0_8 p0 q1 q2 p3)), .val (.int (v0_9 p0 q1 q2 p3)), .unset] [])) _
    refine XS.iload X18.here hx rfl (hb hby at_109) rfl ?_
    exact k
  have pre31 : ∀ t, Steps p.tables e below (T18.setTop (mkF m 128 #[.val (.int p0), .val (.long q1), .second, .val (.long q2), .second, .val (.int p3), .val (.long (v0_1 p0 q1 q2 p3)), .second, .val (.ref b1), .val (.int (v0_2 p0 q1 q2 p3)), .val (.int (v0_3 p0 q1 q2 p3)), .val (.int (v0_6 p0 q1 q2 p3)), .val (.long (v0_7 p0 q1 q2 p3)), .second, .val (.int (v0_8 p0 q1 q2 p3)), .val (.int (v0_9 p0 q1 q2 p3)), .unset] [(.int (v0_10 p0 q1 q2 p3))])) t → Steps p.tables e below (s₁.setTop (entryFrame m #[(.int p0), (.long q1), (.long q2), (.int p3)] maxLocals)) t := by
    intro t k
    by_cases c26 : (v0_8 p0 q1 q2 p3) = (0 : Int32)
    · skip
      have pre27 : ∀ t, Steps p.tables e below (T18.setTop (mkF m 115 #[.val (.int p0), .val (.long q1), .second, .val (.long q2), .second, .val (.int p3), .val (.long (v0_1 p0 q1 q2 p3)), .second, .val (.ref b1), .val (.int (v0_2 p0 q1 q2 p3)), .val (.int (v0_3 p0 q1 q2 p3)), .val (.int (v0_6 p0 q1 q2 p3)), .val (.long (v0_7 p0 q1 q2 p3)), .second, .val (.int (v0_8 p0 q1 q2 p3)), .val (.int (v0_9 p0 q1 q2 p3)), .unset] [(.int p0)])) t → Steps p.tables e below (s₁.setTop (entryFrame m #[(.int p0), (.long q1), (.long q2), (.int p3)] maxLocals)) t := by
        intro t k
        refine pre25 t ?_
        show Steps p.tables e below (T18.setTop (mkF m 111 #[.val (.int p0), .val (.long q1), .second, .val (.long q2), .second, .val (.int p3), .val (.long (v0_1 p0 q1 q2 p3)), .second, .val (.ref b1), .val (.int (v0_2 p0 q1 q2 p3)), .val (.int (v0_3 p0 q1 q2 p3)), .val (.int (v0_6 p0 q1 q2 p3)), .val (.long (v0_7 p0 q1 q2 p3)), .second, .val (.int (v0_8 p0 q1 q2 p3)), .val (.int (v0_9 p0 q1 q2 p3)), .unset] [(.int (v0_8 p0 q1 q2 p3))])) _
        refine XS.ifNo X18.here hx rfl (hb hby at_111) rfl (XT.i0_ne_f c26) ?_
        show Steps p.tables e below (T18.setTop (mkF m 114 #[.val (.int p0), .val (.long q1), .second, .val (.long q2), .second, .val (.int p3), .val (.long (v0_1 p0 q1 q2 p3)), .second, .val (.ref b1), .val (.int (v0_2 p0 q1 q2 p3)), .val (.int (v0_3 p0 q1 q2 p3)), .val (.int (v0_6 p0 q1 q2 p3)), .val (.long (v0_7 p0 q1 q2 p3)), .second, .val (.int (v0_8 p0 q1 q2 p3)), .val (.int (v0_9 p0 q1 q2 p3)), .unset] [])) _
        refine XS.iloadN X18.here hx rfl (hb hby at_114) rfl ?_
        exact k
      by_cases c28 : p0 = (0 : Int32)
      · skip
        rw [show (v0_10 p0 q1 q2 p3) = (1 : Int32) from ((if_pos c26).trans (if_pos c28))] at k
        refine pre27 t ?_
        show Steps p.tables e below (T18.setTop (mkF m 115 #[.val (.int p0), .val (.long q1), .second, .val (.long q2), .second, .val (.int p3), .val (.long (v0_1 p0 q1 q2 p3)), .second, .val (.ref b1), .val (.int (v0_2 p0 q1 q2 p3)), .val (.int (v0_3 p0 q1 q2 p3)), .val (.int (v0_6 p0 q1 q2 p3)), .val (.long (v0_7 p0 q1 q2 p3)), .second, .val (.int (v0_8 p0 q1 q2 p3)), .val (.int (v0_9 p0 q1 q2 p3)), .unset] [(.int p0)])) _
        refine XS.ifYes X18.here hx rfl (pc0 := 115) (pc' := 123) rfl (hb hby at_115) rfl (XT.i0_eq_t c28) (by decide) (by decide) ?_
        show Steps p.tables e below (T18.setTop (mkF m 123 #[.val (.int p0), .val (.long q1), .second, .val (.long q2), .second, .val (.int p3), .val (.long (v0_1 p0 q1 q2 p3)), .second, .val (.ref b1), .val (.int (v0_2 p0 q1 q2 p3)), .val (.int (v0_3 p0 q1 q2 p3)), .val (.int (v0_6 p0 q1 q2 p3)), .val (.long (v0_7 p0 q1 q2 p3)), .second, .val (.int (v0_8 p0 q1 q2 p3)), .val (.int (v0_9 p0 q1 q2 p3)), .unset] [])) _
        refine XT.iconstV X18.here hx rfl (1 : Int32) (hb hby at_123) (by decide) ?_
        show Steps p.tables e below (T18.setTop (mkF m 124 #[.val (.int p0), .val (.long q1), .second, .val (.long q2), .second, .val (.int p3), .val (.long (v0_1 p0 q1 q2 p3)), .second, .val (.ref b1), .val (.int (v0_2 p0 q1 q2 p3)), .val (.int (v0_3 p0 q1 q2 p3)), .val (.int (v0_6 p0 q1 q2 p3)), .val (.long (v0_7 p0 q1 q2 p3)), .second, .val (.int (v0_8 p0 q1 q2 p3)), .val (.int (v0_9 p0 q1 q2 p3)), .unset] [(.int (1 : Int32))])) _
        refine XS.goto X18.here hx rfl (pc0 := 124) (pc' := 128) rfl (hb hby at_124) (by decide) (by decide) ?_
        exact k
      · skip
        have pre29 : ∀ t, Steps p.tables e below (T18.setTop (mkF m 120 #[.val (.int p0), .val (.long q1), .second, .val (.long q2), .second, .val (.int p3), .val (.long (v0_1 p0 q1 q2 p3)), .second, .val (.ref b1), .val (.int (v0_2 p0 q1 q2 p3)), .val (.int (v0_3 p0 q1 q2 p3)), .val (.int (v0_6 p0 q1 q2 p3)), .val (.long (v0_7 p0 q1 q2 p3)), .second, .val (.int (v0_8 p0 q1 q2 p3)), .val (.int (v0_9 p0 q1 q2 p3)), .unset] [(.int (v0_9 p0 q1 q2 p3))])) t → Steps p.tables e below (s₁.setTop (entryFrame m #[(.int p0), (.long q1), (.long q2), (.int p3)] maxLocals)) t := by
          intro t k
          refine pre27 t ?_
          show Steps p.tables e below (T18.setTop (mkF m 115 #[.val (.int p0), .val (.long q1), .second, .val (.long q2), .second, .val (.int p3), .val (.long (v0_1 p0 q1 q2 p3)), .second, .val (.ref b1), .val (.int (v0_2 p0 q1 q2 p3)), .val (.int (v0_3 p0 q1 q2 p3)), .val (.int (v0_6 p0 q1 q2 p3)), .val (.long (v0_7 p0 q1 q2 p3)), .second, .val (.int (v0_8 p0 q1 q2 p3)), .val (.int (v0_9 p0 q1 q2 p3)), .unset] [(.int p0)])) _
          refine XS.ifNo X18.here hx rfl (hb hby at_115) rfl (XT.i0_eq_f c28) ?_
          show Steps p.tables e below (T18.setTop (mkF m 118 #[.val (.int p0), .val (.long q1), .second, .val (.long q2), .second, .val (.int p3), .val (.long (v0_1 p0 q1 q2 p3)), .second, .val (.ref b1), .val (.int (v0_2 p0 q1 q2 p3)), .val (.int (v0_3 p0 q1 q2 p3)), .val (.int (v0_6 p0 q1 q2 p3)), .val (.long (v0_7 p0 q1 q2 p3)), .second, .val (.int (v0_8 p0 q1 q2 p3)), .val (.int (v0_9 p0 q1 q2 p3)), .unset] [])) _
          refine XS.iload X18.here hx rfl (hb hby at_118) rfl ?_
          exact k
        by_cases c30 : (v0_9 p0 q1 q2 p3) = (0 : Int32)
        · skip
          rw [show (v0_10 p0 q1 q2 p3) = (1 : Int32) from (((if_pos c26).trans (if_neg c28)).trans (if_pos c30))] at k
          refine pre29 t ?_
          show Steps p.tables e below (T18.setTop (mkF m 120 #[.val (.int p0), .val (.long q1), .second, .val (.long q2), .second, .val (.int p3), .val (.long (v0_1 p0 q1 q2 p3)), .second, .val (.ref b1), .val (.int (v0_2 p0 q1 q2 p3)), .val (.int (v0_3 p0 q1 q2 p3)), .val (.int (v0_6 p0 q1 q2 p3)), .val (.long (v0_7 p0 q1 q2 p3)), .second, .val (.int (v0_8 p0 q1 q2 p3)), .val (.int (v0_9 p0 q1 q2 p3)), .unset] [(.int (v0_9 p0 q1 q2 p3))])) _
          refine XS.ifNo X18.here hx rfl (hb hby at_120) rfl (XT.i0_ne_f c30) ?_
          show Steps p.tables e below (T18.setTop (mkF m 123 #[.val (.int p0), .val (.long q1), .second, .val (.long q2), .second, .val (.int p3), .val (.long (v0_1 p0 q1 q2 p3)), .second, .val (.ref b1), .val (.int (v0_2 p0 q1 q2 p3)), .val (.int (v0_3 p0 q1 q2 p3)), .val (.int (v0_6 p0 q1 q2 p3)), .val (.long (v0_7 p0 q1 q2 p3)), .second, .val (.int (v0_8 p0 q1 q2 p3)), .val (.int (v0_9 p0 q1 q2 p3)), .unset] [])) _
          refine XT.iconstV X18.here hx rfl (1 : Int32) (hb hby at_123) (by decide) ?_
          show Steps p.tables e below (T18.setTop (mkF m 124 #[.val (.int p0), .val (.long q1), .second, .val (.long q2), .second, .val (.int p3), .val (.long (v0_1 p0 q1 q2 p3)), .second, .val (.ref b1), .val (.int (v0_2 p0 q1 q2 p3)), .val (.int (v0_3 p0 q1 q2 p3)), .val (.int (v0_6 p0 q1 q2 p3)), .val (.long (v0_7 p0 q1 q2 p3)), .second, .val (.int (v0_8 p0 q1 q2 p3)), .val (.int (v0_9 p0 q1 q2 p3)), .unset] [(.int (1 : Int32))])) _
          refine XS.goto X18.here hx rfl (pc0 := 124) (pc' := 128) rfl (hb hby at_124) (by decide) (by decide) ?_
          exact k
        · skip
          rw [show (v0_10 p0 q1 q2 p3) = (0 : Int32) from (((if_pos c26).trans (if_neg c28)).trans (if_neg c30))] at k
          refine pre29 t ?_
          show Steps p.tables e below (T18.setTop (mkF m 120 #[.val (.int p0), .val (.long q1), .second, .val (.long q2), .second, .val (.int p3), .val (.long (v0_1 p0 q1 q2 p3)), .second, .val (.ref b1), .val (.int (v0_2 p0 q1 q2 p3)), .val (.int (v0_3 p0 q1 q2 p3)), .val (.int (v0_6 p0 q1 q2 p3)), .val (.long (v0_7 p0 q1 q2 p3)), .second, .val (.int (v0_8 p0 q1 q2 p3)), .val (.int (v0_9 p0 q1 q2 p3)), .unset] [(.int (v0_9 p0 q1 q2 p3))])) _
          refine XS.ifYes X18.here hx rfl (pc0 := 120) (pc' := 127) rfl (hb hby at_120) rfl (XT.i0_ne_t c30) (by decide) (by decide) ?_
          show Steps p.tables e below (T18.setTop (mkF m 127 #[.val (.int p0), .val (.long q1), .second, .val (.long q2), .second, .val (.int p3), .val (.long (v0_1 p0 q1 q2 p3)), .second, .val (.ref b1), .val (.int (v0_2 p0 q1 q2 p3)), .val (.int (v0_3 p0 q1 q2 p3)), .val (.int (v0_6 p0 q1 q2 p3)), .val (.long (v0_7 p0 q1 q2 p3)), .second, .val (.int (v0_8 p0 q1 q2 p3)), .val (.int (v0_9 p0 q1 q2 p3)), .unset] [])) _
          refine XT.iconstV X18.here hx rfl (0 : Int32) (hb hby at_127) (by decide) ?_
          exact k
    · skip
      rw [show (v0_10 p0 q1 q2 p3) = (1 : Int32) from (if_neg c26)] at k
      refine pre25 t ?_
      show Steps p.tables e below (T18.setTop (mkF m 111 #[.val (.int p0), .val (.long q1), .second, .val (.long q2), .second, .val (.int p3), .val (.long (v0_1 p0 q1 q2 p3)), .second, .val (.ref b1), .val (.int (v0_2 p0 q1 q2 p3)), .val (.int (v0_3 p0 q1 q2 p3)), .val (.int (v0_6 p0 q1 q2 p3)), .val (.long (v0_7 p0 q1 q2 p3)), .second, .val (.int (v0_8 p0 q1 q2 p3)), .val (.int (v0_9 p0 q1 q2 p3)), .unset] [(.int (v0_8 p0 q1 q2 p3))])) _
      refine XS.ifYes X18.here hx rfl (pc0 := 111) (pc' := 123) rfl (hb hby at_111) rfl (XT.i0_ne_t c26) (by decide) (by decide) ?_
      show Steps p.tables e below (T18.setTop (mkF m 123 #[.val (.int p0), .val (.long q1), .second, .val (.long q2), .second, .val (.int p3), .val (.long (v0_1 p0 q1 q2 p3)), .second, .val (.ref b1), .val (.int (v0_2 p0 q1 q2 p3)), .val (.int (v0_3 p0 q1 q2 p3)), .val (.int (v0_6 p0 q1 q2 p3)), .val (.long (v0_7 p0 q1 q2 p3)), .second, .val (.int (v0_8 p0 q1 q2 p3)), .val (.int (v0_9 p0 q1 q2 p3)), .unset] [])) _
      refine XT.iconstV X18.here hx rfl (1 : Int32) (hb hby at_123) (by decide) ?_
      show Steps p.tables e below (T18.setTop (mkF m 124 #[.val (.int p0), .val (.long q1), .second, .val (.long q2), .second, .val (.int p3), .val (.long (v0_1 p0 q1 q2 p3)), .second, .val (.ref b1), .val (.int (v0_2 p0 q1 q2 p3)), .val (.int (v0_3 p0 q1 q2 p3)), .val (.int (v0_6 p0 q1 q2 p3)), .val (.long (v0_7 p0 q1 q2 p3)), .second, .val (.int (v0_8 p0 q1 q2 p3)), .val (.int (v0_9 p0 q1 q2 p3)), .unset] [(.int (1 : Int32))])) _
      refine XS.goto X18.here hx rfl (pc0 := 124) (pc' := 128) rfl (hb hby at_124) (by decide) (by decide) ?_
      exact k
  have pre32 : ∀ t, Steps p.tables e below (T18.setTop (mkF m 132 #[.val (.int p0), .val (.long q1), .second, .val (.long q2), .second, .val (.int p3), .val (.long (v0_1 p0 q1 q2 p3)), .second, .val (.ref b1), .val (.int (v0_2 p0 q1 q2 p3)), .val (.int (v0_3 p0 q1 q2 p3)), .val (.int (v0_6 p0 q1 q2 p3)), .val (.long (v0_7 p0 q1 q2 p3)), .second, .val (.int (v0_8 p0 q1 q2 p3)), .val (.int (v0_9 p0 q1 q2 p3)), .val (.int (v0_10 p0 q1 q2 p3))] [(.int (v0_6 p0 q1 q2 p3))])) t → Steps p.tables e below (s₁.setTop (entryFrame m #[(.int p0), (.long q1), (.long q2), (.int p3)] maxLocals)) t := by
    intro t k
    refine pre31 t ?_
    show Steps p.tables e below (T18.setTop (mkF m 128 #[.val (.int p0), .val (.long q1), .second, .val (.long q2), .second, .val (.int p3), .val (.long (v0_1 p0 q1 q2 p3)), .second, .val (.ref b1), .val (.int (v0_2 p0 q1 q2 p3)), .val (.int (v0_3 p0 q1 q2 p3)), .val (.int (v0_6 p0 q1 q2 p3)), .val (.long (v0_7 p0 q1 q2 p3)), .second, .val (.int (v0_8 p0 q1 q2 p3)), .val (.int (v0_9 p0 q1 q2 p3)), .unset] [(.int (v0_10 p0 q1 q2 p3))])) _
    refine XS.istore X18.here hx rfl (hb hby at_128) rfl (l' := #[.val (.int p0), .val (.long q1), .second, .val (.long q2), .second, .val (.int p3), .val (.long (v0_1 p0 q1 q2 p3)), .second, .val (.ref b1), .val (.int (v0_2 p0 q1 q2 p3)), .val (.int (v0_3 p0 q1 q2 p3)), .val (.int (v0_6 p0 q1 q2 p3)), .val (.long (v0_7 p0 q1 q2 p3)), .second, .val (.int (v0_8 p0 q1 q2 p3)), .val (.int (v0_9 p0 q1 q2 p3)), .val (.int (v0_10 p0 q1 q2 p3))]) rfl ?_
    show Steps p.tables e below (T18.setTop (mkF m 130 #[.val (.int p0), .val (.long q1), .second, .val (.long q2), .second, .val (.int p3), .val (.long (v0_1 p0 q1 q2 p3)), .second, .val (.ref b1), .val (.int (v0_2 p0 q1 q2 p3)), .val (.int (v0_3 p0 q1 q2 p3)), .val (.int (v0_6 p0 q1 q2 p3)), .val (.long (v0_7 p0 q1 q2 p3)), .second, .val (.int (v0_8 p0 q1 q2 p3)), .val (.int (v0_9 p0 q1 q2 p3)), .val (.int (v0_10 p0 q1 q2 p3))] [])) _
    refine XS.iload X18.here hx rfl (hb hby at_130) rfl ?_
    exact k
  have pre36 : ∀ t, Steps p.tables e below (T18.setTop (mkF m 145 #[.val (.int p0), .val (.long q1), .second, .val (.long q2), .second, .val (.int p3), .val (.long (v0_1 p0 q1 q2 p3)), .second, .val (.ref b1), .val (.int (v0_2 p0 q1 q2 p3)), .val (.int (v0_3 p0 q1 q2 p3)), .val (.int (v0_6 p0 q1 q2 p3)), .val (.long (v0_7 p0 q1 q2 p3)), .second, .val (.int (v0_8 p0 q1 q2 p3)), .val (.int (v0_9 p0 q1 q2 p3)), .val (.int (v0_10 p0 q1 q2 p3))] [(.int (v0_11 p0 q1 q2 p3))])) t → Steps p.tables e below (s₁.setTop (entryFrame m #[(.int p0), (.long q1), (.long q2), (.int p3)] maxLocals)) t := by
    intro t k
    by_cases c33 : (v0_6 p0 q1 q2 p3) = (0 : Int32)
    · skip
      rw [show (v0_11 p0 q1 q2 p3) = (0 : Int32) from (if_pos c33)] at k
      refine pre32 t ?_
      show Steps p.tables e below (T18.setTop (mkF m 132 #[.val (.int p0), .val (.long q1), .second, .val (.long q2), .second, .val (.int p3), .val (.long (v0_1 p0 q1 q2 p3)), .second, .val (.ref b1), .val (.int (v0_2 p0 q1 q2 p3)), .val (.int (v0_3 p0 q1 q2 p3)), .val (.int (v0_6 p0 q1 q2 p3)), .val (.long (v0_7 p0 q1 q2 p3)), .second, .val (.int (v0_8 p0 q1 q2 p3)), .val (.int (v0_9 p0 q1 q2 p3)), .val (.int (v0_10 p0 q1 q2 p3))] [(.int (v0_6 p0 q1 q2 p3))])) _
      refine XS.ifYes X18.here hx rfl (pc0 := 132) (pc' := 144) rfl (hb hby at_132) rfl (XT.i0_eq_t c33) (by decide) (by decide) ?_
      show Steps p.tables e below (T18.setTop (mkF m 144 #[.val (.int p0), .val (.long q1), .second, .val (.long q2), .second, .val (.int p3), .val (.long (v0_1 p0 q1 q2 p3)), .second, .val (.ref b1), .val (.int (v0_2 p0 q1 q2 p3)), .val (.int (v0_3 p0 q1 q2 p3)), .val (.int (v0_6 p0 q1 q2 p3)), .val (.long (v0_7 p0 q1 q2 p3)), .second, .val (.int (v0_8 p0 q1 q2 p3)), .val (.int (v0_9 p0 q1 q2 p3)), .val (.int (v0_10 p0 q1 q2 p3))] [])) _
      refine XT.iconstV X18.here hx rfl (0 : Int32) (hb hby at_144) (by decide) ?_
      exact k
    · skip
      have pre34 : ∀ t, Steps p.tables e below (T18.setTop (mkF m 137 #[.val (.int p0), .val (.long q1), .second, .val (.long q2), .second, .val (.int p3), .val (.long (v0_1 p0 q1 q2 p3)), .second, .val (.ref b1), .val (.int (v0_2 p0 q1 q2 p3)), .val (.int (v0_3 p0 q1 q2 p3)), .val (.int (v0_6 p0 q1 q2 p3)), .val (.long (v0_7 p0 q1 q2 p3)), .second, .val (.int (v0_8 p0 q1 q2 p3)), .val (.int (v0_9 p0 q1 q2 p3)), .val (.int (v0_10 p0 q1 q2 p3))] [(.int (v0_10 p0 q1 q2 p3))])) t → Steps p.tables e below (s₁.setTop (entryFrame m #[(.int p0), (.long q1), (.long q2), (.int p3)] maxLocals)) t := by
        intro t k
        refine pre32 t ?_
        show Steps p.tables e below (T18.setTop (mkF m 132 #[.val (.int p0), .val (.long q1), .second, .val (.long q2), .second, .val (.int p3), .val (.long (v0_1 p0 q1 q2 p3)), .second, .val (.ref b1), .val (.int (v0_2 p0 q1 q2 p3)), .val (.int (v0_3 p0 q1 q2 p3)), .val (.int (v0_6 p0 q1 q2 p3)), .val (.long (v0_7 p0 q1 q2 p3)), .second, .val (.int (v0_8 p0 q1 q2 p3)), .val (.int (v0_9 p0 q1 q2 p3)), .val (.int (v0_10 p0 q1 q2 p3))] [(.int (v0_6 p0 q1 q2 p3))])) _
        refine XS.ifNo X18.here hx rfl (hb hby at_132) rfl (XT.i0_eq_f c33) ?_
        show Steps p.tables e below (T18.setTop (mkF m 135 #[.val (.int p0), .val (.long q1), .second, .val (.long q2), .second, .val (.int p3), .val (.long (v0_1 p0 q1 q2 p3)), .second, .val (.ref b1), .val (.int (v0_2 p0 q1 q2 p3)), .val (.int (v0_3 p0 q1 q2 p3)), .val (.int (v0_6 p0 q1 q2 p3)), .val (.long (v0_7 p0 q1 q2 p3)), .second, .val (.int (v0_8 p0 q1 q2 p3)), .val (.int (v0_9 p0 q1 q2 p3)), .val (.int (v0_10 p0 q1 q2 p3))] [])) _
        refine XS.iload X18.here hx rfl (hb hby at_135) rfl ?_
        exact k
      by_cases c35 : (v0_10 p0 q1 q2 p3) = (0 : Int32)
      · skip
        rw [show (v0_11 p0 q1 q2 p3) = (0 : Int32) from ((if_neg c33).trans (if_pos c35))] at k
        refine pre34 t ?_
        show Steps p.tables e below (T18.setTop (mkF m 137 #[.val (.int p0), .val (.long q1), .second, .val (.long q2), .second, .val (.int p3), .val (.long (v0_1 p0 q1 q2 p3)), .second, .val (.ref b1), .val (.int (v0_2 p0 q1 q2 p3)), .val (.int (v0_3 p0 q1 q2 p3)), .val (.int (v0_6 p0 q1 q2 p3)), .val (.long (v0_7 p0 q1 q2 p3)), .second, .val (.int (v0_8 p0 q1 q2 p3)), .val (.int (v0_9 p0 q1 q2 p3)), .val (.int (v0_10 p0 q1 q2 p3))] [(.int (v0_10 p0 q1 q2 p3))])) _
        refine XS.ifYes X18.here hx rfl (pc0 := 137) (pc' := 144) rfl (hb hby at_137) rfl (XT.i0_eq_t c35) (by decide) (by decide) ?_
        show Steps p.tables e below (T18.setTop (mkF m 144 #[.val (.int p0), .val (.long q1), .second, .val (.long q2), .second, .val (.int p3), .val (.long (v0_1 p0 q1 q2 p3)), .second, .val (.ref b1), .val (.int (v0_2 p0 q1 q2 p3)), .val (.int (v0_3 p0 q1 q2 p3)), .val (.int (v0_6 p0 q1 q2 p3)), .val (.long (v0_7 p0 q1 q2 p3)), .second, .val (.int (v0_8 p0 q1 q2 p3)), .val (.int (v0_9 p0 q1 q2 p3)), .val (.int (v0_10 p0 q1 q2 p3))] [])) _
        refine XT.iconstV X18.here hx rfl (0 : Int32) (hb hby at_144) (by decide) ?_
        exact k
      · skip
        rw [show (v0_11 p0 q1 q2 p3) = (1 : Int32) from ((if_neg c33).trans (if_neg c35))] at k
        refine pre34 t ?_
        show Steps p.tables e below (T18.setTop (mkF m 137 #[.val (.int p0), .val (.long q1), .second, .val (.long q2), .second, .val (.int p3), .val (.long (v0_1 p0 q1 q2 p3)), .second, .val (.ref b1), .val (.int (v0_2 p0 q1 q2 p3)), .val (.int (v0_3 p0 q1 q2 p3)), .val (.int (v0_6 p0 q1 q2 p3)), .val (.long (v0_7 p0 q1 q2 p3)), .second, .val (.int (v0_8 p0 q1 q2 p3)), .val (.int (v0_9 p0 q1 q2 p3)), .val (.int (v0_10 p0 q1 q2 p3))] [(.int (v0_10 p0 q1 q2 p3))])) _
        refine XS.ifNo X18.here hx rfl (hb hby at_137) rfl (XT.i0_eq_f c35) ?_
        show Steps p.tables e below (T18.setTop (mkF m 140 #[.val (.int p0), .val (.long q1), .second, .val (.long q2), .second, .val (.int p3), .val (.long (v0_1 p0 q1 q2 p3)), .second, .val (.ref b1), .val (.int (v0_2 p0 q1 q2 p3)), .val (.int (v0_3 p0 q1 q2 p3)), .val (.int (v0_6 p0 q1 q2 p3)), .val (.long (v0_7 p0 q1 q2 p3)), .second, .val (.int (v0_8 p0 q1 q2 p3)), .val (.int (v0_9 p0 q1 q2 p3)), .val (.int (v0_10 p0 q1 q2 p3))] [])) _
        refine XT.iconstV X18.here hx rfl (1 : Int32) (hb hby at_140) (by decide) ?_
        show Steps p.tables e below (T18.setTop (mkF m 141 #[.val (.int p0), .val (.long q1), .second, .val (.long q2), .second, .val (.int p3), .val (.long (v0_1 p0 q1 q2 p3)), .second, .val (.ref b1), .val (.int (v0_2 p0 q1 q2 p3)), .val (.int (v0_3 p0 q1 q2 p3)), .val (.int (v0_6 p0 q1 q2 p3)), .val (.long (v0_7 p0 q1 q2 p3)), .second, .val (.int (v0_8 p0 q1 q2 p3)), .val (.int (v0_9 p0 q1 q2 p3)), .val (.int (v0_10 p0 q1 q2 p3))] [(.int (1 : Int32))])) _
        refine XS.goto X18.here hx rfl (pc0 := 141) (pc' := 145) rfl (hb hby at_141) (by decide) (by decide) ?_
        exact k
  have hv37 : (v0_11 p0 q1 q2 p3) = (1 : Int32) := own_law p0 q1 q2 p3
  obtain ⟨fs, hr, hrun, hended, hW, hsame⟩ := X18.leave (v := some (.int (1 : Int32))) (fun h => by rw [Bd.returns] at h; cases h)
  refine ⟨_, _, pre36 _ ?_, hrun, hended, _, _, rfl, ?_, ⟨_, rfl⟩, hW, hsame.mono (by decide) (by decide)⟩
  · skip
    show Steps p.tables e below (T18.setTop (mkF m 145 #[.val (.int p0), .val (.long q1), .second, .val (.long q2), .second, .val (.int p3), .val (.long (v0_1 p0 q1 q2 p3)), .second, .val (.ref b1), .val (.int (v0_2 p0 q1 q2 p3)), .val (.int (v0_3 p0 q1 q2 p3)), .val (.int (v0_6 p0 q1 q2 p3)), .val (.long (v0_7 p0 q1 q2 p3)), .second, .val (.int (v0_8 p0 q1 q2 p3)), .val (.int (v0_9 p0 q1 q2 p3)), .val (.int (v0_10 p0 q1 q2 p3))] [(.int (v0_11 p0 q1 q2 p3))])) _
    rw [hv37]
    exact retN X18 hx (t := .boolean) Bd.returns (by simp) (hb hby at_145) hr
  · skip
    show Q0 Z p0 q1 q2 p3 h0 n0 _ T18.heap _
    rw [e18]
    exact ⟨rfl, N18⟩
set_option maxRecDepth 65536 in
set_option maxHeartbeats 40000000 in
theorem comes_1 {Post : Tables → Env → Array Value → State → Outcome → State → Prop} (hpost : ∀ tb e args s v u, (limb_1_1.after args s (.returned v) u = true ∧ limb_1_2.after args s (.returned v) u = true ∧ True) → FrameEnd s (.returned v) u (Jvm.fieldLocs frame_1_writes args s ++ Jvm.arrayLocs frame_1_arrays args s ++ Jvm.staticLocs frame_1_statics s) 16 128 → Post tb e args s (.returned v) u) :
    ArmFor flags0 classFile x code maxLocals ret World_1 tables_1 room_1 Calls_1 rest_1 Pre_1 Post := by
  intro l hfl _ _ p e ha hc hk s m args below hf hA hF happ hP
  obtain ⟨hcalls, hrest, hpre⟩ := hP
  obtain ⟨-, -, -, hnamed, -, -, -, hat⟩ := (Spec.applies_iff hf).mp happ
  obtain ⟨hg, hn⟩ := and_e (Cond.before_iff.mp (show (Jvm.Cond.and given_1 narrow_1).before args s = true from hpre))
  obtain ⟨hcount, r0⟩ := and_e hg
  obtain ⟨ha0, r1⟩ := and_e r0
  obtain ⟨ha1, r2⟩ := and_e r1
  obtain ⟨ha2, r3⟩ := and_e r2
  obtain ⟨w0, w1, w2, w3, rfl⟩ : ∃ w0 w1 w2 w3 : Value, args = #[w0, w1, w2, w3] := by
    have hs : args.size = 4 := by simpa [Cond.value, given_1] using hcount
    obtain ⟨L⟩ := args
    match L, hs with
    | [w0, w1, w2, w3], _ => exact ⟨w0, w1, w2, w3, rfl⟩
  have hw := fun d (hd : d ∈ tables_1) => atoms_spec (ws := Jvm.Cond.code x code maxLocals ret :: tables_1) hat d (List.mem_cons_of_mem _ hd)
  have hfit : Fit s := fun {y c} hc i hi => by
    obtain ⟨ha, rfl⟩ := Array.getElem?_eq_some_iff.mp hc
    have q := List.all_eq_true.mp ((Array.all_eq_true_iff_forall_mem.mp hF) _ (Array.getElem_mem ha)) i (List.mem_range.mpr hi)
    simpa [Array.getElem?_eq_getElem hi] using q
  obtain ⟨i0, ei0⟩ := is_v ha0
  obtain rfl : w0 = (.int i0) := Option.some.inj ei0
  obtain ⟨i1, ei1⟩ := isL_v ha1
  obtain rfl : w1 = (.long i1) := Option.some.inj ei1
  obtain ⟨i2, ei2⟩ := isL_v ha2
  obtain rfl : w2 = (.long i2) := Option.some.inj ei2
  obtain ⟨i3, ei3⟩ := is_v r3
  obtain rfl : w3 = (.int i3) := Option.some.inj ei3
  obtain ⟨n, o, h1, h2, h3, _, L, rfl, ⟨rfl, N⟩, hq⟩ := rm0 l s _ hw tables_1 i0 i1 i2 i3 s.heap s.heap.size (Nat.le_refl _) p e ha hc hk s m _ below hf ((Spec.applies_iff_loose hf).mp happ).1 ⟨rfl, State.Warmed39.refl s, rfl⟩ trivial
  refine ⟨n, _, h1, h2, h3, hpost _ _ _ _ _ _ ⟨Cond.after_iff.mpr rfl, Cond.after_iff.mpr (eq_i res_at (Term.int_eval (1)) rfl), trivial⟩ ⟨hq.1, hq.2.1, (hq.2.2.sift fun y hy => Or.inr (N y hy)).mono (by decide) (by decide)⟩⟩
theorem main_1_1 : Claimed_1_1 := comes_1 fun _ _ _ _ _ _ h hF => ⟨h.1, hF⟩
theorem main_1_2 : Claimed_1_2 := comes_1 fun _ _ _ _ _ _ h hF => ⟨h.2.1, hF⟩
end Jvm.Pilot.@@N@@
namespace Jvm.Pilot.@@N@@
open Jvm Jvm.ClassFile Sem Op Lib Jvm.Free Jvm.Stand Jvm.Pilot.@@N@@.Jvm.D
/-! MADE BY PROGRAM (witnessworld.py) out of the Statement's table words and the real class files: 9 classes; the members and pool entries that the words name. The judged class is class 1, her method 2. -/
namespace start1
open Jvm.ClassFile
def u (s : String) : CpInfo := .utf8 (stringToUtf16 s)
/-- a pool by its gaps: so many unusable entries, then the entry; so many at the end -/
def gap : Nat → List CpInfo → List CpInfo
  | 0, r => r
  | n + 1, r => .unusable :: gap n r
def poolList (es : List (Nat × CpInfo)) (last : Nat) : List CpInfo := es.foldr (fun e r => gap e.1 (e.2 :: r)) (gap last [])
def pool (es : List (Nat × CpInfo)) (last : Nat) : Array CpInfo := ⟨poolList es last⟩
def fileOf (pool : Array CpInfo) (this : Nat) (attrs : Array Attribute := #[]) (ms : Array MethodInfo := #[]) (fl : Nat := 33) (sup : Nat := 0) (ifs : Array Nat := #[]) (fds : Array FieldInfo := #[]) : ClassFile where
  minorVersion := 0
  majorVersion := 65
  constantPool := pool
  accessFlags := fl
  thisClass := this
  superClass := sup
  interfaces := ifs
  fields := fds
  methods := ms
  attributes := attrs
def plain (name : String) (sup : Option ClassId) : Class where
  name := name
  kind := .ordinary
  loader := none
  accessFlags := 33
  super := sup
  interfaces := #[]
  cf := none
  fields := #[]
  methods := #[]
  instanceTypes := #[]
  staticTypes := #[]
  resolved := #[]
  callSites := []
  init := .initialized
  statics := none
  mirror := none

def pool0 : Array CpInfo := pool [(5, u "<init>"), (0, u "()V"), (1, .class_ 10), (1, u "java/lang/Object")] 113

def k0c0 : Code := { maxStack := 0, maxLocals := 1, code := object_method_1_code, exceptionTable := #[], attributes := #[] }
def k0m0 : Method := { name := "<init>", desc := "()V", sig := { parameters := [], returnType := none }, accessFlags := 1, code := some k0c0 }
/-- java/lang/Object -/
def k0 : Class := { plain "java/lang/Object" none with
  accessFlags := 33
  interfaces := #[]
  cf := some (fileOf pool0 8 #[] #[{ accessFlags := 1, nameIndex := 5, descriptorIndex := 6, attributes := #[] }] 33 0 #[] #[])
  fields := #[]
  methods := #[k0m0]
  instanceTypes := #[]
  staticTypes := #[]
  resolved := Array.replicate 124 none
  statics := none }

def pool1 : Array CpInfo := pool [(2, .class_ 4), (1, u "java/lang/Object"), (0, u "<init>"), (0, u "()V"), (0, .class_ 8), (0, u "com/example/tollgate/tollgate/store/Failures"), (0, .methodref 7 10), (0, .nameAndType 5 11), (0, u "(IJ)V"), (0, .methodref 7 13), (0, .nameAndType 14 15), (0, u "countAt"), (0, u "(J)I"), (0, .methodref 17 18), (0, .class_ 19), (0, .nameAndType 20 21), (0, u "com/example/tollgate/tollgate/store/FailuresCountAtPinLaw"), (0, u "expected"), (0, u "(IJJ)I"), (0, .methodref 23 24), (0, .class_ 25), (0, .nameAndType 26 27), (0, u "java/lang/Math"), (0, u "min"), (0, u "(JJ)J"), (3, u "law"), (0, u "(IJJI)Z")] 2

def k1m0 : Method := { name := "<init>", desc := "()V", sig := { parameters := [], returnType := none }, accessFlags := 1, code := none }
def k1c1 : Code := { maxStack := 4, maxLocals := 5, code := method_2_code, exceptionTable := #[], attributes := #[] }
def k1m1 : Method := { name := "expected", desc := "(IJJ)I", sig := { parameters := [.int, .long, .long], returnType := some .int }, accessFlags := 10, code := some k1c1 }
def k1c2 : Code := { maxStack := 6, maxLocals := 17, code := code, exceptionTable := #[], attributes := #[] }
def k1m2 : Method := { name := "law", desc := "(IJJI)Z", sig := { parameters := [.int, .long, .long, .int], returnType := some .boolean }, accessFlags := 9, code := some k1c2 }
/-- com/example/tollgate/tollgate/store/FailuresCountAtPinLaw -/
def k1 : Class := { plain "com/example/tollgate/tollgate/store/FailuresCountAtPinLaw" (some 0) with
  accessFlags := 49
  interfaces := #[]
  cf := some (fileOf pool1 17 #[] #[{ accessFlags := 1, nameIndex := 5, descriptorIndex := 6, attributes := #[] }, { accessFlags := 10, nameIndex := 20, descriptorIndex := 21, attributes := #[] }, { accessFlags := 9, nameIndex := 31, descriptorIndex := 32, attributes := #[] }] 49 2 #[] #[])
  fields := #[]
  methods := #[k1m0, k1m1, k1m2]
  instanceTypes := #[]
  staticTypes := #[]
  resolved := Array.replicate 35 none
  statics := none }

def pool2 : Array CpInfo := pool [(1, .methodref 2 3), (0, .class_ 4), (0, .nameAndType 5 6), (0, u "java/lang/Object"), (0, u "<init>"), (0, u "()V"), (0, .class_ 8), (0, u "java/lang/Record")] 13

def k2c0 : Code := { maxStack := 1, maxLocals := 1, code := jdk_30_method_1_code, exceptionTable := #[], attributes := #[] }
def k2m0 : Method := { name := "<init>", desc := "()V", sig := { parameters := [], returnType := none }, accessFlags := 4, code := some k2c0 }
/-- java/lang/Record -/
def k2 : Class := { plain "java/lang/Record" (some 0) with
  accessFlags := 1057
  interfaces := #[]
  cf := some (fileOf pool2 7 #[] #[{ accessFlags := 4, nameIndex := 5, descriptorIndex := 6, attributes := #[] }] 1057 2 #[] #[])
  fields := #[]
  methods := #[k2m0]
  instanceTypes := #[]
  staticTypes := #[]
  resolved := Array.replicate 22 none
  statics := none }

def pool3 : Array CpInfo := pool [(1, .methodref 2 3), (0, .class_ 4), (0, .nameAndType 5 6), (0, u "java/lang/Record"), (0, u "<init>"), (0, u "()V"), (0, .fieldref 8 9), (0, .class_ 10), (0, .nameAndType 11 12), (0, u "com/example/tollgate/tollgate/store/Failures"), (0, u "count"), (0, u "I"), (0, .fieldref 8 14), (0, .nameAndType 15 16), (0, u "untilMillis"), (0, u "J"), (5, u "(IJ)V"), (18, u "NONE"), (0, u "Lcom/example/tollgate/tollgate/store/Failures;"), (3, u "countAt"), (0, u "(J)I")] 29

def k3c0 : Code := { maxStack := 3, maxLocals := 4, code := prog_24_method_1_code, exceptionTable := #[], attributes := #[] }
def k3m0 : Method := { name := "<init>", desc := "(IJ)V", sig := { parameters := [.int, .long], returnType := none }, accessFlags := 1, code := some k3c0 }
def k3c1 : Code := { maxStack := 4, maxLocals := 3, code := prog_24_method_2_code, exceptionTable := #[], attributes := #[] }
def k3m1 : Method := { name := "countAt", desc := "(J)I", sig := { parameters := [.long], returnType := some .int }, accessFlags := 1, code := some k3c1 }
/-- com/example/tollgate/tollgate/store/Failures -/
def k3 : Class := { plain "com/example/tollgate/tollgate/store/Failures" (some 2) with
  accessFlags := 49
  interfaces := #[]
  cf := some (fileOf pool3 8 #[] #[{ accessFlags := 1, nameIndex := 5, descriptorIndex := 22, attributes := #[] }, { accessFlags := 1, nameIndex := 46, descriptorIndex := 47, attributes := #[] }] 49 2 #[] #[{ accessFlags := 18, nameIndex := 11, descriptorIndex := 12, attributes := #[] }, { accessFlags := 18, nameIndex := 15, descriptorIndex := 16, attributes := #[] }, { accessFlags := 25, nameIndex := 41, descriptorIndex := 42, attributes := #[] }])
  fields := #[{ name := "count", type := .int, accessFlags := 18, slot := 0, constantValue := 0 }, { name := "untilMillis", type := .long, accessFlags := 18, slot := 1, constantValue := 0 }, { name := "NONE", type := (.object "com/example/tollgate/tollgate/store/Failures"), accessFlags := 25, slot := 0, constantValue := 0 }]
  methods := #[k3m0, k3m1]
  instanceTypes := #[.int, .long]
  staticTypes := #[(.object "com/example/tollgate/tollgate/store/Failures")]
  resolved := Array.replicate 77 none
  statics := none }

def pool4 : Array CpInfo := pool [(1, .class_ 2), (0, u "java/lang/Math"), (1, .class_ 6), (1, u "java/lang/Object"), (0, u "<init>"), (0, u "()V"), (89, .class_ 100), (1, u "java/lang/Math$RandomNumberGeneratorHolder"), (20, u "(JJ)J"), (50, u "negativeZeroFloatBits"), (0, u "J"), (2, u "negativeZeroDoubleBits"), (24, u "min"), (43, u "$assertionsDisabled"), (0, u "Z"), (91, u "twoToTheDoubleScaleDown"), (0, u "D"), (4, u "twoToTheDoubleScaleUp"), (9, u "E"), (3, u "PI"), (2, u "TAU"), (2, u "DEGREES_TO_RADIANS"), (0, u "RADIANS_TO_DEGREES")] 94

def k4m0 : Method := { name := "<init>", desc := "()V", sig := { parameters := [], returnType := none }, accessFlags := 2, code := none }
def k4c1 : Code := { maxStack := 4, maxLocals := 4, code := jdk_29_method_70_code, exceptionTable := #[], attributes := #[] }
def k4m1 : Method := { name := "min", desc := "(JJ)J", sig := { parameters := [.long, .long], returnType := some .long }, accessFlags := 9, code := some k4c1 }
/-- java/lang/Math -/
def k4 : Class := { plain "java/lang/Math" (some 0) with
  accessFlags := 49
  interfaces := #[]
  cf := some (fileOf pool4 1 #[.nestMembers #[98]] #[{ accessFlags := 2, nameIndex := 7, descriptorIndex := 8, attributes := #[] }, { accessFlags := 9, nameIndex := 201, descriptorIndex := 121, attributes := #[] }] 49 4 #[] #[{ accessFlags := 25, nameIndex := 354, descriptorIndex := 339, attributes := #[] }, { accessFlags := 25, nameIndex := 358, descriptorIndex := 339, attributes := #[] }, { accessFlags := 25, nameIndex := 361, descriptorIndex := 339, attributes := #[] }, { accessFlags := 26, nameIndex := 364, descriptorIndex := 339, attributes := #[] }, { accessFlags := 26, nameIndex := 365, descriptorIndex := 339, attributes := #[] }, { accessFlags := 26, nameIndex := 172, descriptorIndex := 173, attributes := #[] }, { accessFlags := 26, nameIndex := 176, descriptorIndex := 173, attributes := #[] }, { accessFlags := 8, nameIndex := 344, descriptorIndex := 339, attributes := #[] }, { accessFlags := 8, nameIndex := 338, descriptorIndex := 339, attributes := #[] }, { accessFlags := 4120, nameIndex := 245, descriptorIndex := 246, attributes := #[] }])
  fields := #[{ name := "E", type := .double, accessFlags := 25, slot := 0, constantValue := 0 }, { name := "PI", type := .double, accessFlags := 25, slot := 1, constantValue := 0 }, { name := "TAU", type := .double, accessFlags := 25, slot := 2, constantValue := 0 }, { name := "DEGREES_TO_RADIANS", type := .double, accessFlags := 26, slot := 3, constantValue := 0 }, { name := "RADIANS_TO_DEGREES", type := .double, accessFlags := 26, slot := 4, constantValue := 0 }, { name := "negativeZeroFloatBits", type := .long, accessFlags := 26, slot := 5, constantValue := 0 }, { name := "negativeZeroDoubleBits", type := .long, accessFlags := 26, slot := 6, constantValue := 0 }, { name := "twoToTheDoubleScaleUp", type := .double, accessFlags := 8, slot := 7, constantValue := 0 }, { name := "twoToTheDoubleScaleDown", type := .double, accessFlags := 8, slot := 8, constantValue := 0 }, { name := "$assertionsDisabled", type := .boolean, accessFlags := 4120, slot := 9, constantValue := 0 }]
  methods := #[k4m0, k4m1]
  instanceTypes := #[]
  staticTypes := #[.double, .double, .double, .double, .double, .long, .long, .double, .double, .boolean]
  resolved := Array.replicate 460 none
  statics := none }

def pool5 : Array CpInfo := pool [(1, u "java/lang/Cloneable"), (0, .class_ 1), (0, u "java/lang/Object"), (0, .class_ 3)] 3

/-- java/lang/Cloneable -/
def k5 : Class := { plain "java/lang/Cloneable" (some 0) with
  accessFlags := 1537
  interfaces := #[]
  cf := some (fileOf pool5 2 #[] #[] 1537 4 #[] #[])
  fields := #[]
  methods := #[]
  instanceTypes := #[]
  staticTypes := #[]
  resolved := Array.replicate 8 none
  statics := none }

def pool6 : Array CpInfo := pool [(1, u "java/io/Serializable"), (0, .class_ 1), (0, u "java/lang/Object"), (0, .class_ 3)] 3

/-- java/io/Serializable -/
def k6 : Class := { plain "java/io/Serializable" (some 0) with
  accessFlags := 1537
  interfaces := #[]
  cf := some (fileOf pool6 2 #[] #[] 1537 4 #[] #[])
  fields := #[]
  methods := #[]
  instanceTypes := #[]
  staticTypes := #[]
  resolved := Array.replicate 8 none
  statics := none }

/-- the primitive byte -/
def k7 : Class := { plain "byte" none with kind := .primitive 'B', accessFlags := 0x411 }
/-- [B -/
def k8 : Class := { plain "[B" (some 0) with kind := .array 7 .byte, interfaces := #[5, 6], accessFlags := 1041 }

def heap : Heap := #[]
def classes : Array Class := #[k0, k1, k2, k3, k4, k5, k6, k7, k8]
def interned : List (Array UInt16 × Addr) := []
def slotsUsed : Nat := 0
def theMethod : MethodId := ⟨1, 2⟩
def args0 : Array Value := #[.int 5, .long 7, .long 9, .int 1]
def aboutOver (below : List Frame) : State where
  vm := { classes := classes, interned := interned.toArray }
  heap := heap
  slotsUsed := slotsUsed
  threads := #[{ frames := .invoking theMethod args0 :: below }]
def below0 : List Frame := [.native { method := ⟨0, 0⟩, args := #[] }]
def about1 : State := aboutOver below0
def p0 : Program := .bare "" "" ""
def e0 : Env := launch0.env 0 0 0
theorem w_frames : about1.frames = Frame.invoking theMethod args0 :: below0 := rfl
set_option maxRecDepth 65536 in
theorem w_args : argsFit about1.vm theMethod args0 = true := by decide +kernel
set_option maxRecDepth 65536 in
theorem w_heap : heapFits about1 = true := by decide +kernel
set_option maxRecDepth 65536 in
theorem w_runnable : about1.curStatus? = some .runnable := by decide +kernel
set_option maxRecDepth 65536 in
theorem w_alone : about1.alone = true := by decide +kernel
set_option maxRecDepth 65536 in
theorem w_named : about1.methodNamed? x = some theMethod := by decide +kernel
set_option maxRecDepth 65536 in
theorem w_hears : about1.hears theMethod below0 = true := by decide +kernel
set_option maxRecDepth 65536 in
theorem w_ripe : about1.ripe theMethod args0 below0 = true := by decide +kernel
theorem w_running : about1.status = .running := rfl
set_option maxRecDepth 65536 in
theorem w_room : about1.hasRoom e0.platform room_1 = true :=
  launch0.hasRoom_least _ room_1 (by decide +kernel) (by decide +kernel) (by decide +kernel) (by decide +kernel) (by decide +kernel) (by decide +kernel)
theorem allAtoms_all (ts : List Jvm.Cond) (a : Array Jvm.Value) (st : Jvm.State) : (allAtoms ts).before a st = ts.all (fun c => c.before a st) := by
  induction ts with
  | nil => rfl
  | cons c t ih =>
    show (Jvm.Cond.and c (allAtoms t)).before a st = _
    rw [Jvm.Cond.before_and, ih, List.all_cons]
def words1 : List Jvm.Cond := Jvm.Cond.code x code maxLocals ret :: tables_1
/-- a 'code' word, met by the world's own term for the bytes: nothing is compared byte by byte -/
theorem code_word {y : MethodName} {bytes : ByteArray} {mx : Nat} {rt : Option FieldType} {a : Array Value} {s : State} {m : MethodId} {meth : Method} {c : Code} (h1 : s.methodNamed? y = some m) (h2 : s.vm.method? m = some meth) (h3 : meth.code = some c) (h4 : c.code = bytes)
    (h5 : (c.maxLocals == mx && c.exceptionTable.isEmpty && decide (c.maxStack ≤ mostOperands) && decide (meth.sig.returnType = rt) && !meth.locks && decide (parseMethodDescriptor y.desc = some meth.sig)) = true) : (Jvm.Cond.code y bytes mx rt).before a s = true := by
  simp only [Bool.and_eq_true, beq_iff_eq, Bool.not_eq_true', decide_eq_true_eq] at h5
  obtain ⟨⟨⟨⟨⟨g1, g2⟩, g3⟩, g4⟩, g5⟩, g6⟩ := h5
  simp [Cond.before, Cond.holds, Cond.value, h1, h2, h3, h4, g1, g2, g3, g4, g5, g6]
def isCode : Jvm.Cond → Bool
  | .code _ _ _ _ => true
  | _ => false
theorem all_split {L : List Jvm.Cond} {P : Jvm.Cond → Bool} (h1 : L.all (fun c => isCode c || P c) = true) (h2 : ∀ c ∈ L.filter isCode, P c = true) : L.all P = true := by
  refine List.all_eq_true.mpr fun c hc => ?_
  have h := List.all_eq_true.mp h1 c hc
  rcases Bool.eq_false_or_eq_true (isCode c) with hi | hi
  · exact h2 c (List.mem_filter.mpr ⟨hc, hi⟩)
  · simpa [hi] using h
set_option maxRecDepth 65536 in
theorem w_c0 : (Jvm.Cond.code x code maxLocals ret).before args0 about1 = true := code_word (m := ⟨1, 2⟩) (meth := k1m2) (c := k1c2) (by decide +kernel) rfl rfl rfl (by decide +kernel)
set_option maxRecDepth 65536 in
theorem w_c1 : (Jvm.Cond.code ({ cls := "com/example/tollgate/tollgate/store/Failures", name := "<init>", desc := "(IJ)V" } : Jvm.MethodName) prog_24_method_1_code (4 : Nat) (Option.none : Option Jvm.ClassFile.FieldType)).before args0 about1 = true := code_word (m := ⟨3, 0⟩) (meth := k3m0) (c := k3c0) (by decide +kernel) rfl rfl rfl (by decide +kernel)
set_option maxRecDepth 65536 in
theorem w_c2 : (Jvm.Cond.code ({ cls := "java/lang/Record", name := "<init>", desc := "()V" } : Jvm.MethodName) jdk_30_method_1_code (1 : Nat) (Option.none : Option Jvm.ClassFile.FieldType)).before args0 about1 = true := code_word (m := ⟨2, 0⟩) (meth := k2m0) (c := k2c0) (by decide +kernel) rfl rfl rfl (by decide +kernel)
set_option maxRecDepth 65536 in
theorem w_c3 : (Jvm.Cond.code ({ cls := "java/lang/Object", name := "<init>", desc := "()V" } : Jvm.MethodName) object_method_1_code (1 : Nat) (Option.none : Option Jvm.ClassFile.FieldType)).before args0 about1 = true := code_word (m := ⟨0, 0⟩) (meth := k0m0) (c := k0c0) (by decide +kernel) rfl rfl rfl (by decide +kernel)
set_option maxRecDepth 65536 in
theorem w_c4 : (Jvm.Cond.code ({ cls := "com/example/tollgate/tollgate/store/Failures", name := "countAt", desc := "(J)I" } : Jvm.MethodName) prog_24_method_2_code (3 : Nat) (Option.some Jvm.ClassFile.FieldType.int)).before args0 about1 = true := code_word (m := ⟨3, 1⟩) (meth := k3m1) (c := k3c1) (by decide +kernel) rfl rfl rfl (by decide +kernel)
set_option maxRecDepth 65536 in
theorem w_c5 : (Jvm.Cond.code ({ cls := "com/example/tollgate/tollgate/store/FailuresCountAtPinLaw", name := "expected", desc := "(IJJ)I" } : Jvm.MethodName) method_2_code (5 : Nat) (Option.some Jvm.ClassFile.FieldType.int)).before args0 about1 = true := code_word (m := ⟨1, 1⟩) (meth := k1m1) (c := k1c1) (by decide +kernel) rfl rfl rfl (by decide +kernel)
set_option maxRecDepth 65536 in
theorem w_c6 : (Jvm.Cond.code ({ cls := "java/lang/Math", name := "min", desc := "(JJ)J" } : Jvm.MethodName) jdk_29_method_70_code (4 : Nat) (Option.some Jvm.ClassFile.FieldType.long)).before args0 about1 = true := code_word (m := ⟨4, 1⟩) (meth := k4m1) (c := k4c1) (by decide +kernel) rfl rfl rfl (by decide +kernel)
def codes1 : List Jvm.Cond := [Jvm.Cond.code x code maxLocals ret, Jvm.Cond.code ({ cls := "com/example/tollgate/tollgate/store/Failures", name := "<init>", desc := "(IJ)V" } : Jvm.MethodName) prog_24_method_1_code (4 : Nat) (Option.none : Option Jvm.ClassFile.FieldType), Jvm.Cond.code ({ cls := "java/lang/Record", name := "<init>", desc := "()V" } : Jvm.MethodName) jdk_30_method_1_code (1 : Nat) (Option.none : Option Jvm.ClassFile.FieldType), Jvm.Cond.code ({ cls := "java/lang/Object", name := "<init>", desc := "()V" } : Jvm.MethodName) object_method_1_code (1 : Nat) (Option.none : Option Jvm.ClassFile.FieldType), Jvm.Cond.code ({ cls := "com/example/tollgate/tollgate/store/Failures", name := "countAt", desc := "(J)I" } : Jvm.MethodName) prog_24_method_2_code (3 : Nat) (Option.some Jvm.ClassFile.FieldType.int), Jvm.Cond.code ({ cls := "com/example/tollgate/tollgate/store/FailuresCountAtPinLaw", name := "expected", desc := "(IJJ)I" } : Jvm.MethodName) method_2_code (5 : Nat) (Option.some Jvm.ClassFile.FieldType.int), Jvm.Cond.code ({ cls := "java/lang/Math", name := "min", desc := "(JJ)J" } : Jvm.MethodName) jdk_29_method_70_code (4 : Nat) (Option.some Jvm.ClassFile.FieldType.long)]
set_option maxRecDepth 65536 in
theorem codes_eq : words1.filter isCode = codes1 := rfl
theorem w_codes : ∀ c ∈ words1.filter isCode, c.before args0 about1 = true := by
  rw [codes_eq]
  intro c hc
  simp only [codes1, List.mem_cons, List.not_mem_nil, or_false] at hc
  rcases hc with rfl | rfl | rfl | rfl | rfl | rfl | rfl
  · exact w_c0
  · exact w_c1
  · exact w_c2
  · exact w_c3
  · exact w_c4
  · exact w_c5
  · exact w_c6
set_option maxRecDepth 65536 in
theorem w_t1 : (words1.take 24).all (fun c => isCode c || c.before args0 about1) = true := by decide +kernel
set_option maxRecDepth 65536 in
theorem w_t2 : (words1.drop 24).all (fun c => isCode c || c.before args0 about1) = true := by decide +kernel
theorem w_tables : (allAtoms (Jvm.Cond.code x code maxLocals ret :: tables_1)).before args0 about1 = true := by
  rw [allAtoms_all]
  show words1.all (fun c => c.before args0 about1) = true
  refine all_split ?_ w_codes
  rw [← List.take_append_drop 24 words1, List.all_append, w_t1, w_t2]
  rfl
set_option maxRecDepth 65536 in
theorem w_case : (Jvm.Cond.and given_1 narrow_1).before args0 about1 = true := by decide +kernel
theorem w_applies : (headSpec (Jvm.Cond.code x code maxLocals ret :: tables_1) room_1).applies x e0.platform about1 = true :=
  (Spec.applies_iff w_frames).mpr ⟨w_running, w_runnable, w_alone, w_named, w_hears, w_ripe, w_room, w_tables⟩
theorem atStart : AtStart classFile x code maxLocals ret World_1 tables_1 room_1 Calls_1 rest_1 Pre_1 launch0 p0 e0 about1 theMethod args0 below0 :=
  ⟨lists_1, trivial, launch0.admits_env _ _ _, launch0.least_env, fairChoices_fair.cas, fairChoices_fair.clock, w_frames, w_args, w_heap, w_applies, trivial, trivial, w_case⟩
end start1
theorem witness_1 : WitnessClaimed_1 := ⟨start1.p0, start1.e0, start1.about1, start1.theMethod, start1.args0, start1.below0, start1.atStart⟩
end Jvm.Pilot.@@N@@
