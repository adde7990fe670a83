import JvmDerived
import JvmDerived.Pilot.@@N@@Statement
import JvmDerived.Pilot.@@N@@Code
set_option linter.unusedVariables false
set_option linter.unusedSimpArgs false
@@BLOCK:NumsL.lean.txt@@
namespace Jvm.RoadKit
open Sem ClassFile Op Lib Jvm.Stand Jvm.Free Jvm.LawKit
section New
variable {p : Program} {l : Launch} {e : Env} {R : Room} {s : State} {m : MethodId} {args : Array Value} {below : List Frame} {meth : Method} {c : Code} {T : State} {locs : List Loc} {cells slots : Nat}
theorem retI (X : Stand p l e R s m args below meth c T locs cells slots) (hx : p.tables.exec = Jvm.exec) {pc : Nat} {Ls : Array Slot} {z : Int32} {rest : List Value} (hret : meth.sig.returnType = some .int) (hd : decode c.code pc = .ok (.ireturn, 1)) {fs : List Frame}
    (hl : ∀ (f : JFrame) (acts : List Action), f.method = m → f.locked = none → f.entered = [] → (doReturn e (T.setTop f) acts (some (.int z))).1 = T.setFrames fs) : Steps p.tables e below (T.setTop (mkF m pc Ls (.int z :: rest))) (T.setFrames fs) := by
  have hm' : T.vm.method? m = some meth := X.method'
  have hn : narrow .int (.int z) = .int z := rfl
  show Steps p.tables e below (T.setTop { method := m, pc := pc, locals := Ls, stack := _ :: rest, locked := none }) _
  jvm_step X.here [X.here.top, hx, hd, hm', hret, hn]
  first | (intro acts; rw [hl _ acts rfl rfl rfl]) | rw [hl _ _ rfl rfl rfl]
  exact Steps.refl _
end New
end Jvm.RoadKit
namespace Jvm.Pilot.@@N@@
open Jvm Jvm.ClassFile Sem Op Lib Jvm.Free Jvm.Stand Jvm.LawKit Jvm.RoadKit Bundle Jvm.Pilot.@@N@@.Jvm.D
theorem own_rem32 (x y : Int32) : (x - (x / y) * y).toInt = x.toInt.tmod y.toInt := by
  rw [Int32.toInt_sub, Int32.toInt_mul, Int32.toInt_div]
  simp only [Int.bmod_mul_bmod, Int.sub_bmod_bmod]
  rw [Int.tmod_def, Int.mul_comm y.toInt]
  have h := Int32.toInt_mod x y
  have h1 := (x % y).toInt_lt
  have h2 := (x % y).le_toInt
  rw [h, Int.tmod_def, Int.mul_comm y.toInt] at h1 h2
  exact Int.bmod_eq_of_le (by omega) (by omega)
theorem d4_0 : decode jdk_22_method_1_code 0 = .ok (.aload_n 0, 1) := by decide +kernel
theorem d4_1 : decode jdk_22_method_1_code 1 = .ok (.invokespecial 1, 3) := by decide +kernel
theorem d4_4 : decode jdk_22_method_1_code 4 = .ok (.return_, 1) := by decide +kernel
theorem pn_java_util_AbstractCollection : plainName "java/util/AbstractCollection" = true := by first | (simp [plainName, overriddenIn]; done) | decide +kernel
theorem ef_4 (m : MethodId) (o0 : Addr) : entryFrame m #[(.ref o0)] 1 = mkF m 0 #[.val (.ref o0)] [] := by first | (simp [entryFrame, mkF, argsToLocals, Value.category]; done) | rfl
def Q4 (Z : State) (o0 : Addr) (h0 : Heap) (n0 : Nat) (v : Option Value) (h : Heap) (L : List Loc) : Prop := Fr n0 L ∧ v = none ∧ h = h0
set_option maxRecDepth 65536 in
set_option maxHeartbeats 40000000 in
theorem rm4 (l : Launch) (Z : State) (a0 : Array Value) (hw : ∀ d ∈ tables_1, d.before a0 Z = true) (ws : List Jvm.Cond) (o0 : Addr) (h0 : Heap) (n0 : Nat) (Z0 : n0 ≤ h0.size) :
    MetFree l (⟨"java/util/AbstractCollection", "<init>", "()V"⟩ : MethodName) (head1 (Jvm.Cond.code (⟨"java/util/AbstractCollection", "<init>", "()V"⟩ : MethodName) jdk_22_method_1_code 1 none :: ws) ({ frames := 1, cells := 0, slots := 0, locals := 12 } : Room)) (fun a U => a = #[(.ref o0)] ∧ Z.Warmed39 U.vm ∧ U.heap = h0) (fun _ _ _ _ _ => True) (fun _ U o U' => ∃ v L, o = .returned v ∧ Q4 Z o0 h0 n0 v U'.heap L ∧ FrameEnd U o U' L ({ frames := 1, cells := 0, slots := 0, locals := 12 } : Room).cells ({ frames := 1, cells := 0, slots := 0, locals := 12 } : Room).slots) := by
  refine MetFree.of_bodySF (plainFor_of_name pn_java_util_AbstractCollection) hisR ?_
  intro p e s m args below meth c s₁ Bd hml0 hP hK
  obtain ⟨rfl, hZ, hh⟩ := hP
  have hx := Bd.exec
  have hby := Bd.bytes
  have hml : c.maxLocals = 1 := hml0
  have hown : s.vm.findClass "java/util/AbstractCollection" = some m.cls := findClass_of_methodNamed Bd.named
  have hnm := (name_of_methodNamed Bd.named Bd.method).1
  have hlk := BodyLoose.notSynchronized Bd
  have X0 : Stand p l e ({ frames := 1, cells := 0, slots := 0, locals := 12 } : Room) s m #[(.ref o0)] below meth c s₁ [] 0 0 := Stand.of_body Bd
  have e0 : s₁.heap = h0 := by rw [← hh, Bd.state]; rfl
  have N0 := Fr.nil n0
  have pre0 : ∀ t, Steps p.tables e below (s₁.setTop (mkF m 0 #[.val (.ref o0)] [])) t → Steps p.tables e below (s₁.setTop (entryFrame m #[(.ref o0)] 1)) t := fun t k => castTop (ef_4 m o0) k
  obtain ⟨T1, X1, e1, st1⟩ := initO X0 hx hZ hown (hw _ (List.mem_of_getElem? (i := 21) rfl)) (hw _ (List.mem_of_getElem? (i := 7) rfl)) (hw _ (List.mem_of_getElem? (i := 8) rfl)) e0 (g := (mkF m 1 #[.val (.ref o0)] [(.ref o0)])) rfl (by rw [hml]; rfl) rfl (hb hby d4_1) (by decide) (W := 0) (by show 2 * 0 + _ ≤ _; exact Nat.le_of_eq rfl) (by decide)
  obtain ⟨fs, hr, hrun, hended, hW, hsame⟩ := X1.leave (v := none) (fun _ => rfl) hlk
  refine ⟨_, _, pre0 _ ?_, hrun, hended, _, _, rfl, ?_, ⟨_, rfl⟩, hW, hsame.mono (by decide) (by decide)⟩
  · skip
    show Steps p.tables e below (s₁.setTop (mkF m 0 #[.val (.ref o0)] [])) _
    refine XS.aloadN X0.here hx rfl (hb hby d4_0) rfl rfl ?_
    show Steps p.tables e below (s₁.setTop (mkF m 1 #[.val (.ref o0)] [(.ref o0)])) _
    refine st1 _ ?_
    show Steps p.tables e below (T1.setTop (mkF m 4 #[.val (.ref o0)] [])) _
    exact X1.returnOut hx Bd.returns (hb hby d4_4) hr
  · skip
    show Q4 Z o0 h0 n0 _ T1.heap _
    rw [e1]
    exact ⟨N0, rfl, rfl⟩
theorem d6_0 : decode jdk_30_method_1_code 0 = .ok (.aload_n 0, 1) := by decide +kernel
theorem d6_1 : decode jdk_30_method_1_code 1 = .ok (.invokespecial 1, 3) := by decide +kernel
theorem d6_4 : decode jdk_30_method_1_code 4 = .ok (.return_, 1) := by decide +kernel
theorem pn_java_lang_Record : plainName "java/lang/Record" = true := by first | (simp [plainName, overriddenIn]; done) | decide +kernel
theorem ef_6 (m : MethodId) (o0 : Addr) : entryFrame m #[(.ref o0)] 1 = mkF m 0 #[.val (.ref o0)] [] := by first | (simp [entryFrame, mkF, argsToLocals, Value.category]; done) | rfl
def Q6 (Z : State) (o0 : Addr) (h0 : Heap) (n0 : Nat) (v : Option Value) (h : Heap) (L : List Loc) : Prop := Fr n0 L ∧ v = none ∧ h = h0
set_option maxRecDepth 65536 in
set_option maxHeartbeats 40000000 in
theorem rm6 (l : Launch) (Z : State) (a0 : Array Value) (hw : ∀ d ∈ tables_1, d.before a0 Z = true) (ws : List Jvm.Cond) (o0 : Addr) (h0 : Heap) (n0 : Nat) (Z0 : n0 ≤ h0.size) :
    MetFree l (⟨"java/lang/Record", "<init>", "()V"⟩ : MethodName) (head1 (Jvm.Cond.code (⟨"java/lang/Record", "<init>", "()V"⟩ : MethodName) jdk_30_method_1_code 1 none :: ws) ({ frames := 1, cells := 0, slots := 0, locals := 12 } : Room)) (fun a U => a = #[(.ref o0)] ∧ Z.Warmed39 U.vm ∧ U.heap = h0) (fun _ _ _ _ _ => True) (fun _ U o U' => ∃ v L, o = .returned v ∧ Q6 Z o0 h0 n0 v U'.heap L ∧ FrameEnd U o U' L ({ frames := 1, cells := 0, slots := 0, locals := 12 } : Room).cells ({ frames := 1, cells := 0, slots := 0, locals := 12 } : Room).slots) := by
  refine MetFree.of_bodySF (plainFor_of_name pn_java_lang_Record) hisR ?_
  intro p e s m args below meth c s₁ Bd hml0 hP hK
  obtain ⟨rfl, hZ, hh⟩ := hP
  have hx := Bd.exec
  have hby := Bd.bytes
  have hml : c.maxLocals = 1 := hml0
  have hown : s.vm.findClass "java/lang/Record" = some m.cls := findClass_of_methodNamed Bd.named
  have hnm := (name_of_methodNamed Bd.named Bd.method).1
  have hlk := BodyLoose.notSynchronized Bd
  have X0 : Stand p l e ({ frames := 1, cells := 0, slots := 0, locals := 12 } : Room) s m #[(.ref o0)] below meth c s₁ [] 0 0 := Stand.of_body Bd
  have e0 : s₁.heap = h0 := by rw [← hh, Bd.state]; rfl
  have N0 := Fr.nil n0
  have pre0 : ∀ t, Steps p.tables e below (s₁.setTop (mkF m 0 #[.val (.ref o0)] [])) t → Steps p.tables e below (s₁.setTop (entryFrame m #[(.ref o0)] 1)) t := fun t k => castTop (ef_6 m o0) k
  obtain ⟨T1, X1, e1, st1⟩ := initO X0 hx hZ hown (hw _ (List.mem_of_getElem? (i := 39) rfl)) (hw _ (List.mem_of_getElem? (i := 7) rfl)) (hw _ (List.mem_of_getElem? (i := 8) rfl)) e0 (g := (mkF m 1 #[.val (.ref o0)] [(.ref o0)])) rfl (by rw [hml]; rfl) rfl (hb hby d6_1) (by decide) (W := 0) (by show 2 * 0 + _ ≤ _; exact Nat.le_of_eq rfl) (by decide)
  obtain ⟨fs, hr, hrun, hended, hW, hsame⟩ := X1.leave (v := none) (fun _ => rfl) hlk
  refine ⟨_, _, pre0 _ ?_, hrun, hended, _, _, rfl, ?_, ⟨_, rfl⟩, hW, hsame.mono (by decide) (by decide)⟩
  · skip
    show Steps p.tables e below (s₁.setTop (mkF m 0 #[.val (.ref o0)] [])) _
    refine XS.aloadN X0.here hx rfl (hb hby d6_0) rfl rfl ?_
    show Steps p.tables e below (s₁.setTop (mkF m 1 #[.val (.ref o0)] [(.ref o0)])) _
    refine st1 _ ?_
    show Steps p.tables e below (T1.setTop (mkF m 4 #[.val (.ref o0)] [])) _
    exact X1.returnOut hx Bd.returns (hb hby d6_4) hr
  · skip
    show Q6 Z o0 h0 n0 _ T1.heap _
    rw [e1]
    exact ⟨N0, rfl, rfl⟩
theorem pd___V : parseMethodDescriptor "()V" = some ⟨[], none⟩ := by decide +kernel
theorem d3_0 : decode jdk_21_method_3_code 0 = .ok (.aload_n 0, 1) := by decide +kernel
theorem d3_1 : decode jdk_21_method_3_code 1 = .ok (.invokespecial 42, 3) := by decide +kernel
theorem d3_4 : decode jdk_21_method_3_code 4 = .ok (.aload_n 0, 1) := by decide +kernel
theorem d3_5 : decode jdk_21_method_3_code 5 = .ok (.bipush 17, 2) := by decide +kernel
theorem d3_7 : decode jdk_21_method_3_code 7 = .ok (.anewarray 47, 3) := by decide +kernel
theorem d3_10 : decode jdk_21_method_3_code 10 = .ok (.putfield 3, 3) := by decide +kernel
theorem d3_13 : decode jdk_21_method_3_code 13 = .ok (.return_, 1) := by decide +kernel
theorem pn_java_util_ArrayDeque : plainName "java/util/ArrayDeque" = true := by first | (simp [plainName, overriddenIn]; done) | decide +kernel
theorem ef_3 (m : MethodId) (o0 : Addr) : entryFrame m #[(.ref o0)] 1 = mkF m 0 #[.val (.ref o0)] [] := by first | (simp [entryFrame, mkF, argsToLocals, Value.category]; done) | rfl
def Q3 (Z : State) (o0 : Addr) (w0_head : Int32) (w1_tail : Int32) (u2_elements : Value) (h0 : Heap) (n0 : Nat) (v : Option Value) (h : Heap) (L : List Loc) : Prop := Fr n0 L ∧ ∃ (x3_0 : Addr) (k3_1 : ClassId), v = none ∧ h0.size ≤ x3_0 ∧ Keep h0 h [o0] ∧ Exa Z h o0 "java/util/ArrayDeque" ∧ Fld Z h o0 "java/util/ArrayDeque" "head" "I" (.int w0_head) ∧ Fld Z h o0 "java/util/ArrayDeque" "tail" "I" (.int w1_tail) ∧ Fld Z h o0 "java/util/ArrayDeque" "elements" "[Ljava/lang/Object;" (.ref x3_0) ∧ Exa Z h x3_0 "[Ljava/lang/Object;" ∧ Arv Z h x3_0 k3_1 (.object "java/lang/Object") (17 : Int32) [.null, .null, .null, .null, .null, .null, .null, .null, .null, .null, .null, .null, .null, .null, .null, .null, .null] .null ∧ Ovr Z k3_1 "java/lang/Object"
set_option maxRecDepth 65536 in
set_option maxHeartbeats 40000000 in
theorem rm3 (l : Launch) (Z : State) (a0 : Array Value) (hw : ∀ d ∈ tables_1, d.before a0 Z = true) (ws : List Jvm.Cond) (o0 : Addr) (w0_head : Int32) (w1_tail : Int32) (u2_elements : Value) (h0 : Heap) (n0 : Nat) (Z0 : n0 ≤ h0.size) (E_o0 : Exa Z h0 o0 "java/util/ArrayDeque") (F_head_o0 : Fld Z h0 o0 "java/util/ArrayDeque" "head" "I" (.int w0_head)) (F_tail_o0 : Fld Z h0 o0 "java/util/ArrayDeque" "tail" "I" (.int w1_tail)) (F_elements_o0 : Fld Z h0 o0 "java/util/ArrayDeque" "elements" "[Ljava/lang/Object;" u2_elements) (g_o0 : n0 ≤ o0) :
    MetFree l (⟨"java/util/ArrayDeque", "<init>", "()V"⟩ : MethodName) (head1 (Jvm.Cond.code (⟨"java/util/ArrayDeque", "<init>", "()V"⟩ : MethodName) jdk_21_method_3_code 1 none :: ws) ({ frames := 2, cells := 1, slots := 17, locals := 24 } : Room)) (fun a U => a = #[(.ref o0)] ∧ Z.Warmed39 U.vm ∧ U.heap = h0) (fun _ _ _ _ _ => True) (fun _ U o U' => ∃ v L, o = .returned v ∧ Q3 Z o0 w0_head w1_tail u2_elements h0 n0 v U'.heap L ∧ FrameEnd U o U' L ({ frames := 2, cells := 1, slots := 17, locals := 24 } : Room).cells ({ frames := 2, cells := 1, slots := 17, locals := 24 } : Room).slots) := by
  refine MetFree.of_bodySF (plainFor_of_name pn_java_util_ArrayDeque) hisR ?_
  intro p e s m args below meth c s₁ Bd hml0 hP hK
  obtain ⟨rfl, hZ, hh⟩ := hP
  have hx := Bd.exec
  have hby := Bd.bytes
  have hml : c.maxLocals = 1 := hml0
  have hown : s.vm.findClass "java/util/ArrayDeque" = some m.cls := findClass_of_methodNamed Bd.named
  have hnm := (name_of_methodNamed Bd.named Bd.method).1
  have hlk := BodyLoose.notSynchronized Bd
  have X0 : Stand p l e ({ frames := 2, cells := 1, slots := 17, locals := 24 } : Room) s m #[(.ref o0)] below meth c s₁ [] 0 0 := Stand.of_body Bd
  have e0 : s₁.heap = h0 := by rw [← hh, Bd.state]; rfl
  have N0 := Fr.nil n0
  have pre0 : ∀ t, Steps p.tables e below (s₁.setTop (mkF m 0 #[.val (.ref o0)] [])) t → Steps p.tables e below (s₁.setTop (entryFrame m #[(.ref o0)] 1)) t := fun t k => castTop (ef_3 m o0) k
  obtain ⟨vr1, _, ⟨T1, L1, k1, n1⟩, -, X1, ⟨Lc1, hQ1, l1, y1, z1⟩, st1⟩ := X0.specialBack hx (y := (⟨"java/util/AbstractCollection", "<init>", "()V"⟩ : MethodName)) rfl hown (mvT hZ (hw _ (List.mem_of_getElem? (i := 15) rfl))) (mvT hZ (hw _ (List.mem_of_getElem? (i := 16) rfl))) (mvT hZ (hw _ (List.mem_of_getElem? (i := 20) rfl))) (by decide) (backOf (W := 0) (rm4 l Z a0 hw [] o0 h0 n0 Z0) hZ (hw _ (List.mem_of_getElem? (i := 20) rfl)) (hw _ (List.mem_of_getElem? (i := 19) rfl)) (by decide) (by decide)) (g := (mkF m 1 #[.val (.ref o0)] [(.ref o0)])) rfl (by rw [hml]; rfl) (Steps.refl _) (a := o0) (argsL := []) (rest := []) (lenOf pd___V rfl) rfl (by show 2 * 0 + _ ≤ _; exact Nat.le_of_eq rfl) (hb hby d3_1) (fun _ _ => ⟨rfl, e0, (by decide : 0 + 0 ≤ _), (by decide : 0 + 0 ≤ _)⟩)
  dsimp only [Pt.U, Pt.locs, Pt.cells, Pt.slots] at X1 l1 y1 z1 st1 hQ1
  subst l1 y1 z1
  have N1q := (show _ ∧ _ ∧ _ from hQ1).1
  have hv1 := (show _ ∧ _ ∧ _ from hQ1).2.1
  have e1 := (show _ ∧ _ ∧ _ from hQ1).2.2
  clear hQ1
  subst hv1
  have N1 := Fr.app N0 N1q
  obtain ⟨T2, h2, k2, X2, e2, E2, A2, EA2, Ov2, st2⟩ := newRE X1 hx hZ hown (hw _ (List.mem_of_getElem? (i := 22) rfl)) (hw _ (List.mem_of_getElem? (i := 23) rfl)) e1 (g := (mkF m 7 #[.val (.ref o0)] [(.int (17 : Int32)), (.ref o0)])) rfl (hb hby d3_7) rfl (by decide) (cap := 17) (by decide) (by decide) (by decide) (by decide) (ad := "[Ljava/lang/Object;") rfl
  obtain ⟨b2, gz2⟩ : ∃ z, z = h0.size := ⟨_, rfl⟩
  rw [← gz2] at A2 EA2 st2
  have ne3 : o0 ≠ b2 := Nat.ne_of_lt (Nat.lt_of_lt_of_le E_o0.lt (Nat.le_of_eq gz2.symm))
  have g4 : n0 ≤ b2 := Nat.le_trans Z0 (Nat.le_of_eq gz2.symm)
  have sz5 : h0.size ≤ b2 := Nat.le_trans (Nat.le_refl h0.size) (Nat.le_of_eq gz2.symm)
  have z6 : n0 ≤ h2.size := Nat.le_trans Z0 E2.1
  have hs7 : h0.size ≤ h2.size := Nat.le_trans (Nat.le_refl h0.size) E2.1
  have V2 : Arv Z h2 b2 k2 (.object "java/lang/Object") (17 : Int32) [.null, .null, .null, .null, .null, .null, .null, .null, .null, .null, .null, .null, .null, .null, .null, .null, .null] .null := (Arv.new A2 (by decide)).pad (pad_rep [] .null 17)
  have k8 := (F_elements_o0.ext E2)
  have k9 := (E_o0.ext E2)
  obtain ⟨T10, h10, X10, e10, W10, st10⟩ := putF X2 hx hZ hown (host := "") (Or.inl (hw _ (List.mem_of_getElem? (i := 24) rfl))) Via.refl e2 k8 k9 (Or.inl (hw _ (List.mem_of_getElem? (i := 25) rfl))) (hw _ (List.mem_of_getElem? (i := 10) rfl)) (ty := (.array (.object "java/lang/Object"))) (by decide) rfl rfl (g := (mkF m 10 #[.val (.ref o0)] [(.ref b2), (.ref o0)])) rfl rfl (hb hby d3_10)
  have Fw10 := k8.same W10
  have N10 := Fr.snoc X10 N1 g_o0
  have z11 : n0 ≤ h10.size := Nat.le_trans z6 (Keep.of_wr W10).1
  have hs12 : h0.size ≤ h10.size := Nat.le_trans hs7 (Keep.of_wr W10).1
  obtain ⟨fs, hr, hrun, hended, hW, hsame⟩ := X10.leave (v := none) (fun _ => rfl) hlk
  refine ⟨_, _, pre0 _ ?_, hrun, hended, _, _, rfl, ?_, ⟨_, rfl⟩, hW, hsame.mono (by decide) (by decide)⟩
  · skip
    show Steps p.tables e below (s₁.setTop (mkF m 0 #[.val (.ref o0)] [])) _
    refine XS.aloadN X0.here hx rfl (hb hby d3_0) rfl rfl ?_
    show Steps p.tables e below (s₁.setTop (mkF m 1 #[.val (.ref o0)] [(.ref o0)])) _
    refine st1.trans ?_
    show Steps p.tables e below (T1.setTop (mkF m 4 #[.val (.ref o0)] [])) _
    refine XS.aloadN X1.here hx rfl (hb hby d3_4) rfl rfl ?_
    show Steps p.tables e below (T1.setTop (mkF m 5 #[.val (.ref o0)] [(.ref o0)])) _
    refine XT.bipushV X1.here hx rfl (17 : Int32) (hb hby d3_5) (by decide) ?_
    show Steps p.tables e below (T1.setTop (mkF m 7 #[.val (.ref o0)] [(.int (17 : Int32)), (.ref o0)])) _
    refine st2 _ ?_
    show Steps p.tables e below (T2.setTop (mkF m 10 #[.val (.ref o0)] [(.ref b2), (.ref o0)])) _
    refine st10 _ ?_
    show Steps p.tables e below (T10.setTop (mkF m 13 #[.val (.ref o0)] [])) _
    exact X10.returnOut hx Bd.returns (hb hby d3_13) hr
  · skip
    show Q3 Z o0 w0_head w1_tail u2_elements h0 n0 _ T10.heap _
    rw [e10]
    have k13 := (k9.wr W10)
    have k14 := ((F_head_o0.ext E2).other W10 (Or.inr (slot_ne (Or.inl (hw _ (List.mem_of_getElem? (i := 65) rfl))) (Or.inl (hw _ (List.mem_of_getElem? (i := 25) rfl))) (by decide) (t := .int) (t' := (.array (.object "java/lang/Object"))) (by decide) (by decide))))
    have k15 := ((F_tail_o0.ext E2).other W10 (Or.inr (slot_ne (Or.inl (hw _ (List.mem_of_getElem? (i := 87) rfl))) (Or.inl (hw _ (List.mem_of_getElem? (i := 25) rfl))) (by decide) (t := .int) (t' := (.array (.object "java/lang/Object"))) (by decide) (by decide))))
    have k16 := (EA2.wr W10)
    have k17 := (V2.other W10 (Ne.symm ne3))
    exact ⟨N10, b2, k2, rfl, sz5, (((Keep.refl h0 [o0]).ext E2).wr W10 (Or.inl (List.mem_of_getElem? (i := 0) rfl))), k13, k14, k15, Fw10, k16, k17, Ov2⟩
theorem d1_0 : decode prog_41_method_1_code 0 = .ok (.aload_n 0, 1) := by decide +kernel
theorem d1_1 : decode prog_41_method_1_code 1 = .ok (.invokespecial 1, 3) := by decide +kernel
theorem d1_4 : decode prog_41_method_1_code 4 = .ok (.aload_n 0, 1) := by decide +kernel
theorem d1_5 : decode prog_41_method_1_code 5 = .ok (.new 7, 3) := by decide +kernel
theorem d1_8 : decode prog_41_method_1_code 8 = .ok (.dup, 1) := by decide +kernel
theorem d1_9 : decode prog_41_method_1_code 9 = .ok (.invokespecial 9, 3) := by decide +kernel
theorem d1_12 : decode prog_41_method_1_code 12 = .ok (.putfield 10, 3) := by decide +kernel
theorem d1_15 : decode prog_41_method_1_code 15 = .ok (.return_, 1) := by decide +kernel
theorem pn_com_example_dispatch_by_catalog_dispatchbycatalog_subscriptions_EventQueue : plainName "com/example/dispatch_by_catalog/dispatchbycatalog/subscriptions/EventQueue" = true := by first | (simp [plainName, overriddenIn]; done) | decide +kernel
theorem ef_1 (m : MethodId) (o0 : Addr) : entryFrame m #[(.ref o0)] 1 = mkF m 0 #[.val (.ref o0)] [] := by first | (simp [entryFrame, mkF, argsToLocals, Value.category]; done) | rfl
def Q1 (Z : State) (o0 : Addr) (w0_sz : Int64) (u1_events : Value) (h0 : Heap) (n0 : Nat) (v : Option Value) (h : Heap) (L : List Loc) : Prop := Fr n0 L ∧ ∃ (x1_0 : Addr) (x1_1 : Addr) (k1_2 : ClassId), v = none ∧ h0.size ≤ x1_0 ∧ h0.size ≤ x1_1 ∧ x1_0 ≠ x1_1 ∧ Keep h0 h [o0] ∧ Exa Z h o0 "com/example/dispatch_by_catalog/dispatchbycatalog/subscriptions/EventQueue" ∧ Fld Z h o0 "com/example/dispatch_by_catalog/dispatchbycatalog/subscriptions/EventQueue" "bytes" "J" (.long w0_sz) ∧ Fld Z h o0 "com/example/dispatch_by_catalog/dispatchbycatalog/subscriptions/EventQueue" "events" "Ljava/util/Deque;" (.ref x1_0) ∧ Exa Z h x1_0 "java/util/ArrayDeque" ∧ Fld Z h x1_0 "java/util/ArrayDeque" "head" "I" (.int (0 : Int32)) ∧ Fld Z h x1_0 "java/util/ArrayDeque" "tail" "I" (.int (0 : Int32)) ∧ Fld Z h x1_0 "java/util/ArrayDeque" "elements" "[Ljava/lang/Object;" (.ref x1_1) ∧ Exa Z h x1_1 "[Ljava/lang/Object;" ∧ Arv Z h x1_1 k1_2 (.object "java/lang/Object") (17 : Int32) [.null, .null, .null, .null, .null, .null, .null, .null, .null, .null, .null, .null, .null, .null, .null, .null, .null] .null ∧ Ovr Z k1_2 "java/lang/Object"
set_option maxRecDepth 65536 in
set_option maxHeartbeats 40000000 in
theorem rm1 (l : Launch) (Z : State) (a0 : Array Value) (hw : ∀ d ∈ tables_1, d.before a0 Z = true) (ws : List Jvm.Cond) (o0 : Addr) (w0_sz : Int64) (u1_events : Value) (h0 : Heap) (n0 : Nat) (Z0 : n0 ≤ h0.size) (E_o0 : Exa Z h0 o0 "com/example/dispatch_by_catalog/dispatchbycatalog/subscriptions/EventQueue") (F_bytes_o0 : Fld Z h0 o0 "com/example/dispatch_by_catalog/dispatchbycatalog/subscriptions/EventQueue" "bytes" "J" (.long w0_sz)) (F_events_o0 : Fld Z h0 o0 "com/example/dispatch_by_catalog/dispatchbycatalog/subscriptions/EventQueue" "events" "Ljava/util/Deque;" u1_events) (g_o0 : n0 ≤ o0) :
    MetFree l (⟨"com/example/dispatch_by_catalog/dispatchbycatalog/subscriptions/EventQueue", "<init>", "()V"⟩ : MethodName) (head1 (Jvm.Cond.code (⟨"com/example/dispatch_by_catalog/dispatchbycatalog/subscriptions/EventQueue", "<init>", "()V"⟩ : MethodName) prog_41_method_1_code 1 none :: ws) ({ frames := 3, cells := 2, slots := 20, locals := 38 } : Room)) (fun a U => a = #[(.ref o0)] ∧ Z.Warmed39 U.vm ∧ U.heap = h0) (fun _ _ _ _ _ => True) (fun _ U o U' => ∃ v L, o = .returned v ∧ Q1 Z o0 w0_sz u1_events h0 n0 v U'.heap L ∧ FrameEnd U o U' L ({ frames := 3, cells := 2, slots := 20, locals := 38 } : Room).cells ({ frames := 3, cells := 2, slots := 20, locals := 38 } : Room).slots) := by
  refine MetFree.of_bodySF (plainFor_of_name pn_com_example_dispatch_by_catalog_dispatchbycatalog_subscriptions_EventQueue) hisR ?_
  intro p e s m args below meth c s₁ Bd hml0 hP hK
  obtain ⟨rfl, hZ, hh⟩ := hP
  have hx := Bd.exec
  have hby := Bd.bytes
  have hml : c.maxLocals = 1 := hml0
  have hown : s.vm.findClass "com/example/dispatch_by_catalog/dispatchbycatalog/subscriptions/EventQueue" = some m.cls := findClass_of_methodNamed Bd.named
  have hnm := (name_of_methodNamed Bd.named Bd.method).1
  have hlk := BodyLoose.notSynchronized Bd
  have X0 : Stand p l e ({ frames := 3, cells := 2, slots := 20, locals := 38 } : Room) s m #[(.ref o0)] below meth c s₁ [] 0 0 := Stand.of_body Bd
  have e0 : s₁.heap = h0 := by rw [← hh, Bd.state]; rfl
  have N0 := Fr.nil n0
  have pre0 : ∀ t, Steps p.tables e below (s₁.setTop (mkF m 0 #[.val (.ref o0)] [])) t → Steps p.tables e below (s₁.setTop (entryFrame m #[(.ref o0)] 1)) t := fun t k => castTop (ef_1 m o0) k
  obtain ⟨T1, X1, e1, st1⟩ := initO X0 hx hZ hown (hw _ (List.mem_of_getElem? (i := 6) rfl)) (hw _ (List.mem_of_getElem? (i := 7) rfl)) (hw _ (List.mem_of_getElem? (i := 8) rfl)) e0 (g := (mkF m 1 #[.val (.ref o0)] [(.ref o0)])) rfl (by rw [hml]; rfl) rfl (hb hby d1_1) (by decide) (W := 0) (by show 2 * 0 + _ ≤ _; exact Nat.le_of_eq rfl) (by decide)
  obtain ⟨T2, h2, X2, e2, E2, A2, D2, -, st2⟩ := newO X1 hx hZ hown (hw _ (List.mem_of_getElem? (i := 9) rfl)) (hw _ (List.mem_of_getElem? (i := 10) rfl)) (hw _ (List.mem_of_getElem? (i := 11) rfl)) e1 (g := (mkF m 5 #[.val (.ref o0)] [(.ref o0)])) rfl (hb hby d1_5) (by decide) (by decide)
  obtain ⟨b2, gz2⟩ : ∃ z, z = h0.size := ⟨_, rfl⟩
  rw [← gz2] at A2 D2 st2
  have ne3 : o0 ≠ b2 := Nat.ne_of_lt (Nat.lt_of_lt_of_le E_o0.lt (Nat.le_of_eq gz2.symm))
  have g4 : n0 ≤ b2 := Nat.le_trans Z0 (Nat.le_of_eq gz2.symm)
  have sz5 : h0.size ≤ b2 := Nat.le_trans (Nat.le_refl h0.size) (Nat.le_of_eq gz2.symm)
  have z6 : n0 ≤ h2.size := Nat.le_trans Z0 E2.1
  have hs7 : h0.size ≤ h2.size := Nat.le_trans (Nat.le_refl h0.size) E2.1
  have F2_elements : Fld Z h2 b2 "java/util/ArrayDeque" "elements" "[Ljava/lang/Object;" .null := D2 (Or.inl (hw _ (List.mem_of_getElem? (i := 25) rfl))) (ty := (.array (.object "java/lang/Object"))) (by decide)
  have F2_head : Fld Z h2 b2 "java/util/ArrayDeque" "head" "I" (.int (0 : Int32)) := D2 (Or.inl (hw _ (List.mem_of_getElem? (i := 65) rfl))) (ty := .int) (by decide)
  have F2_tail : Fld Z h2 b2 "java/util/ArrayDeque" "tail" "I" (.int (0 : Int32)) := D2 (Or.inl (hw _ (List.mem_of_getElem? (i := 87) rfl))) (ty := .int) (by decide)
  obtain ⟨vr8, _, ⟨T8, L8, k8, n8⟩, -, X8, ⟨Lc8, hQ8, l8, y8, z8⟩, st8⟩ := X2.specialBack hx (y := (⟨"java/util/ArrayDeque", "<init>", "()V"⟩ : MethodName)) rfl hown (mvT hZ (hw _ (List.mem_of_getElem? (i := 12) rfl))) (mvT hZ (hw _ (List.mem_of_getElem? (i := 13) rfl))) (mvT hZ (hw _ (List.mem_of_getElem? (i := 14) rfl))) (by decide) (backOf (W := 2) (rm3 l Z a0 hw [] b2 (0 : Int32) (0 : Int32) .null h2 n0 z6 A2 F2_head F2_tail F2_elements g4) hZ (hw _ (List.mem_of_getElem? (i := 14) rfl)) (hw _ (List.mem_of_getElem? (i := 11) rfl)) (by decide) (by decide)) (g := (mkF m 9 #[.val (.ref o0)] [(.ref b2), (.ref b2), (.ref o0)])) rfl (by rw [hml]; rfl) (Steps.refl _) (a := b2) (argsL := []) (rest := [(.ref b2), (.ref o0)]) (lenOf pd___V rfl) rfl (by show 2 * 0 + _ ≤ _; exact Nat.le_of_eq rfl) (hb hby d1_9) (fun _ _ => ⟨rfl, e2, (by decide : 1 + 1 ≤ _), (by decide : 3 + 17 ≤ _)⟩)
  dsimp only [Pt.U, Pt.locs, Pt.cells, Pt.slots] at X8 l8 y8 z8 st8 hQ8
  subst l8 y8 z8
  have N8q := (show _ ∧ _ from hQ8).1
  have hq8 := (show _ ∧ _ from hQ8).2
  clear hQ8
  obtain ⟨x3_0_8, k3_1_8, hq8x⟩ := hq8
  have hv8 := hq8x.1
  have szx3_0_8 := hq8x.2.1
  have K8 := hq8x.2.2.1
  have po8_0 := hq8x.2.2.2.1
  have po8_1 := hq8x.2.2.2.2.1
  have po8_2 := hq8x.2.2.2.2.2.1
  have po8_3 := hq8x.2.2.2.2.2.2.1
  have po8_4 := hq8x.2.2.2.2.2.2.2.1
  have po8_5 := hq8x.2.2.2.2.2.2.2.2.1
  have po8_6 := hq8x.2.2.2.2.2.2.2.2.2
  clear hq8x
  subst hv8
  have k9 := (E_o0.ext E2)
  have ne10 : o0 ≠ x3_0_8 := Nat.ne_of_lt (Nat.lt_of_lt_of_le k9.lt szx3_0_8)
  have ne11 : b2 ≠ x3_0_8 := Nat.ne_of_lt (Nat.lt_of_lt_of_le A2.lt szx3_0_8)
  have g12 : n0 ≤ x3_0_8 := Nat.le_trans z6 szx3_0_8
  have sz13 : h0.size ≤ x3_0_8 := Nat.le_trans hs7 szx3_0_8
  have z14 : n0 ≤ T8.heap.size := Nat.le_trans z6 K8.1
  have hs15 : h0.size ≤ T8.heap.size := Nat.le_trans hs7 K8.1
  have N8 := Fr.app N0 N8q
  have k16 := ((F_events_o0.ext E2).keep K8 (ninS ne3 nin0))
  have k17 := (k9.keep K8)
  obtain ⟨T18, h18, X18, e18, W18, st18⟩ := putF X8 hx hZ hown (host := "") (Or.inl (hw _ (List.mem_of_getElem? (i := 26) rfl))) Via.refl rfl k16 k17 (Or.inr ⟨(hw _ (List.mem_of_getElem? (i := 27) rfl)), rfl, hnm⟩) (hw _ (List.mem_of_getElem? (i := 1) rfl)) (ty := (.object "java/util/Deque")) (by decide) rfl rfl (g := (mkF m 12 #[.val (.ref o0)] [(.ref b2), (.ref o0)])) rfl rfl (hb hby d1_12)
  have Fw18 := k16.same W18
  have N18 := Fr.snoc X18 N8 g_o0
  have z19 : n0 ≤ h18.size := Nat.le_trans z14 (Keep.of_wr W18).1
  have hs20 : h0.size ≤ h18.size := Nat.le_trans hs15 (Keep.of_wr W18).1
  obtain ⟨fs, hr, hrun, hended, hW, hsame⟩ := X18.leave (v := none) (fun _ => rfl) hlk
  refine ⟨_, _, pre0 _ ?_, hrun, hended, _, _, rfl, ?_, ⟨_, rfl⟩, hW, hsame.mono (by decide) (by decide)⟩
  · skip
    show Steps p.tables e below (s₁.setTop (mkF m 0 #[.val (.ref o0)] [])) _
    refine XS.aloadN X0.here hx rfl (hb hby d1_0) rfl rfl ?_
    show Steps p.tables e below (s₁.setTop (mkF m 1 #[.val (.ref o0)] [(.ref o0)])) _
    refine st1 _ ?_
    show Steps p.tables e below (T1.setTop (mkF m 4 #[.val (.ref o0)] [])) _
    refine XS.aloadN X1.here hx rfl (hb hby d1_4) rfl rfl ?_
    show Steps p.tables e below (T1.setTop (mkF m 5 #[.val (.ref o0)] [(.ref o0)])) _
    refine st2 _ ?_
    show Steps p.tables e below (T2.setTop (mkF m 8 #[.val (.ref o0)] [(.ref b2), (.ref o0)])) _
    refine XS.dup X2.here hx rfl (hb hby d1_8) rfl rfl ?_
    show Steps p.tables e below (T2.setTop (mkF m 9 #[.val (.ref o0)] [(.ref b2), (.ref b2), (.ref o0)])) _
    refine st8.trans ?_
    show Steps p.tables e below (T8.setTop (mkF m 12 #[.val (.ref o0)] [(.ref b2), (.ref o0)])) _
    refine st18 _ ?_
    show Steps p.tables e below (T18.setTop (mkF m 15 #[.val (.ref o0)] [])) _
    exact X18.returnOut hx Bd.returns (hb hby d1_15) hr
  · skip
    show Q1 Z o0 w0_sz u1_events h0 n0 _ T18.heap _
    rw [e18]
    have k21 := (k17.wr W18)
    have k22 := (((F_bytes_o0.ext E2).keep K8 (ninS ne3 nin0)).other W18 (Or.inr (slot_ne (Or.inl (hw _ (List.mem_of_getElem? (i := 89) rfl))) (Or.inr (hw _ (List.mem_of_getElem? (i := 27) rfl))) (by decide) (t := .long) (t' := (.object "java/util/Deque")) (by decide) (by decide))))
    have k23 := (po8_0.wr W18)
    have k24 := (po8_1.other W18 (Or.inl (Ne.symm ne3)))
    have k25 := (po8_2.other W18 (Or.inl (Ne.symm ne3)))
    have k26 := (po8_3.other W18 (Or.inl (Ne.symm ne3)))
    have k27 := (po8_4.wr W18)
    have k28 := (po8_5.other W18 (Ne.symm ne10))
    exact ⟨N18, b2, x3_0_8, k3_1_8, rfl, sz5, sz13, ne11, ((((Keep.refl h0 [o0]).ext E2).trans K8 (allS (Or.inr sz5) all0)).wr W18 (Or.inl (List.mem_of_getElem? (i := 0) rfl))), k21, k22, Fw18, k23, k24, k25, k26, k27, k28, po8_6⟩
theorem d5_0 : decode prog_37_method_1_code 0 = .ok (.aload_n 0, 1) := by decide +kernel
theorem d5_1 : decode prog_37_method_1_code 1 = .ok (.invokespecial 1, 3) := by decide +kernel
theorem d5_4 : decode prog_37_method_1_code 4 = .ok (.lload_n 3, 1) := by decide +kernel
theorem d5_5 : decode prog_37_method_1_code 5 = .ok (.lconst 1, 1) := by decide +kernel
theorem d5_6 : decode prog_37_method_1_code 6 = .ok (.lcmp, 1) := by decide +kernel
theorem d5_7 : decode prog_37_method_1_code 7 = .ok (.ifCond .ge 17, 3) := by decide +kernel
theorem d5_24 : decode prog_37_method_1_code 24 = .ok (.aload_n 0, 1) := by decide +kernel
theorem d5_25 : decode prog_37_method_1_code 25 = .ok (.lload_n 1, 1) := by decide +kernel
theorem d5_26 : decode prog_37_method_1_code 26 = .ok (.putfield 16, 3) := by decide +kernel
theorem d5_29 : decode prog_37_method_1_code 29 = .ok (.aload_n 0, 1) := by decide +kernel
theorem d5_30 : decode prog_37_method_1_code 30 = .ok (.lload_n 3, 1) := by decide +kernel
theorem d5_31 : decode prog_37_method_1_code 31 = .ok (.putfield 22, 3) := by decide +kernel
theorem d5_34 : decode prog_37_method_1_code 34 = .ok (.return_, 1) := by decide +kernel
theorem pn_com_example_dispatch_by_catalog_dispatchbycatalog_subscriptions_DroppedEvents : plainName "com/example/dispatch_by_catalog/dispatchbycatalog/subscriptions/DroppedEvents" = true := by first | (simp [plainName, overriddenIn]; done) | decide +kernel
theorem ef_5 (m : MethodId) (o0 : Addr) (q1 : Int64) (q2 : Int64) : entryFrame m #[(.ref o0), (.long q1), (.long q2)] 5 = mkF m 0 #[.val (.ref o0), .val (.long q1), .second, .val (.long q2), .second] [] := by first | (simp [entryFrame, mkF, argsToLocals, Value.category]; done) | rfl
def Q5 (Z : State) (o0 : Addr) (q1 : Int64) (q2 : Int64) (u0_number : Value) (u1_count : Value) (h0 : Heap) (n0 : Nat) (v : Option Value) (h : Heap) (L : List Loc) : Prop := Fr n0 L ∧ v = none ∧ Keep h0 h [o0] ∧ Exa Z h o0 "com/example/dispatch_by_catalog/dispatchbycatalog/subscriptions/DroppedEvents" ∧ Fld Z h o0 "com/example/dispatch_by_catalog/dispatchbycatalog/subscriptions/DroppedEvents" "number" "J" (.long q1) ∧ Fld Z h o0 "com/example/dispatch_by_catalog/dispatchbycatalog/subscriptions/DroppedEvents" "count" "J" (.long q2)
set_option maxRecDepth 65536 in
set_option maxHeartbeats 40000000 in
theorem rm5 (l : Launch) (Z : State) (a0 : Array Value) (hw : ∀ d ∈ tables_1, d.before a0 Z = true) (ws : List Jvm.Cond) (o0 : Addr) (q1 : Int64) (q2 : Int64) (u0_number : Value) (u1_count : Value) (h0 : Heap) (n0 : Nat) (Z0 : n0 ≤ h0.size) (hy0 : ¬ (q2 < (1 : Int64))) (E_o0 : Exa Z h0 o0 "com/example/dispatch_by_catalog/dispatchbycatalog/subscriptions/DroppedEvents") (F_number_o0 : Fld Z h0 o0 "com/example/dispatch_by_catalog/dispatchbycatalog/subscriptions/DroppedEvents" "number" "J" u0_number) (g_o0 : n0 ≤ o0) (F_count_o0 : Fld Z h0 o0 "com/example/dispatch_by_catalog/dispatchbycatalog/subscriptions/DroppedEvents" "count" "J" u1_count) :
    MetFree l (⟨"com/example/dispatch_by_catalog/dispatchbycatalog/subscriptions/DroppedEvents", "<init>", "(JJ)V"⟩ : MethodName) (head1 (Jvm.Cond.code (⟨"com/example/dispatch_by_catalog/dispatchbycatalog/subscriptions/DroppedEvents", "<init>", "(JJ)V"⟩ : MethodName) prog_37_method_1_code 5 none :: ws) ({ frames := 2, cells := 0, slots := 0, locals := 24 } : Room)) (fun a U => a = #[(.ref o0), (.long q1), (.long q2)] ∧ Z.Warmed39 U.vm ∧ U.heap = h0) (fun _ _ _ _ _ => True) (fun _ U o U' => ∃ v L, o = .returned v ∧ Q5 Z o0 q1 q2 u0_number u1_count h0 n0 v U'.heap L ∧ FrameEnd U o U' L ({ frames := 2, cells := 0, slots := 0, locals := 24 } : Room).cells ({ frames := 2, cells := 0, slots := 0, locals := 24 } : Room).slots) := by
  refine MetFree.of_bodySF (plainFor_of_name pn_com_example_dispatch_by_catalog_dispatchbycatalog_subscriptions_DroppedEvents) hisR ?_
  intro p e s m args below meth c s₁ Bd hml0 hP hK
  obtain ⟨rfl, hZ, hh⟩ := hP
  have hx := Bd.exec
  have hby := Bd.bytes
  have hml : c.maxLocals = 5 := hml0
  have hown : s.vm.findClass "com/example/dispatch_by_catalog/dispatchbycatalog/subscriptions/DroppedEvents" = some m.cls := findClass_of_methodNamed Bd.named
  have hnm := (name_of_methodNamed Bd.named Bd.method).1
  have hlk := BodyLoose.notSynchronized Bd
  have X0 : Stand p l e ({ frames := 2, cells := 0, slots := 0, locals := 24 } : Room) s m #[(.ref o0), (.long q1), (.long q2)] below meth c s₁ [] 0 0 := Stand.of_body Bd
  have e0 : s₁.heap = h0 := by rw [← hh, Bd.state]; rfl
  have N0 := Fr.nil n0
  have pre0 : ∀ t, Steps p.tables e below (s₁.setTop (mkF m 0 #[.val (.ref o0), .val (.long q1), .second, .val (.long q2), .second] [])) t → Steps p.tables e below (s₁.setTop (entryFrame m #[(.ref o0), (.long q1), (.long q2)] 5)) t := fun t k => castTop (ef_5 m o0 q1 q2) k
  obtain ⟨vr1, _, ⟨T1, L1, k1, n1⟩, -, X1, ⟨Lc1, hQ1, l1, y1, z1⟩, st1⟩ := X0.specialBack hx (y := (⟨"java/lang/Record", "<init>", "()V"⟩ : MethodName)) rfl hown (mvT hZ (hw _ (List.mem_of_getElem? (i := 34) rfl))) (mvT hZ (hw _ (List.mem_of_getElem? (i := 35) rfl))) (mvT hZ (hw _ (List.mem_of_getElem? (i := 38) rfl))) (by decide) (backOf (W := 0) (rm6 l Z a0 hw [] o0 h0 n0 Z0) hZ (hw _ (List.mem_of_getElem? (i := 38) rfl)) (hw _ (List.mem_of_getElem? (i := 37) rfl)) (by decide) (by decide)) (g := (mkF m 1 #[.val (.ref o0), .val (.long q1), .second, .val (.long q2), .second] [(.ref o0)])) rfl (by rw [hml]; rfl) (Steps.refl _) (a := o0) (argsL := []) (rest := []) (lenOf pd___V rfl) rfl (by show 2 * 0 + _ ≤ _; exact Nat.le_of_eq rfl) (hb hby d5_1) (fun _ _ => ⟨rfl, e0, (by decide : 0 + 0 ≤ _), (by decide : 0 + 0 ≤ _)⟩)
  dsimp only [Pt.U, Pt.locs, Pt.cells, Pt.slots] at X1 l1 y1 z1 st1 hQ1
  subst l1 y1 z1
  have N1q := (show _ ∧ _ ∧ _ from hQ1).1
  have hv1 := (show _ ∧ _ ∧ _ from hQ1).2.1
  have e1 := (show _ ∧ _ ∧ _ from hQ1).2.2
  clear hQ1
  subst hv1
  have N1 := Fr.app N0 N1q
  obtain ⟨T2, h2, X2, e2, W2, st2⟩ := putF X1 hx hZ hown (host := "") (Or.inl (hw _ (List.mem_of_getElem? (i := 40) rfl))) Via.refl e1 F_number_o0 E_o0 (Or.inr ⟨(hw _ (List.mem_of_getElem? (i := 41) rfl)), rfl, hnm⟩) (hw _ (List.mem_of_getElem? (i := 29) rfl)) (ty := .long) (by decide) rfl rfl (g := (mkF m 26 #[.val (.ref o0), .val (.long q1), .second, .val (.long q2), .second] [(.long q1), (.ref o0)])) rfl rfl (hb hby d5_26)
  have Fw2 := F_number_o0.same W2
  have N2 := Fr.snoc X2 N1 g_o0
  have z3 : n0 ≤ h2.size := Nat.le_trans Z0 (Keep.of_wr W2).1
  have hs4 : h0.size ≤ h2.size := Nat.le_trans (Nat.le_refl h0.size) (Keep.of_wr W2).1
  have k5 := (F_count_o0.other W2 (Or.inr (slot_ne (Or.inr (hw _ (List.mem_of_getElem? (i := 43) rfl))) (Or.inr (hw _ (List.mem_of_getElem? (i := 41) rfl))) (by decide) (t := .long) (t' := .long) (by decide) (by decide))))
  have k6 := (E_o0.wr W2)
  obtain ⟨T7, h7, X7, e7, W7, st7⟩ := putF X2 hx hZ hown (host := "") (Or.inl (hw _ (List.mem_of_getElem? (i := 42) rfl))) Via.refl e2 k5 k6 (Or.inr ⟨(hw _ (List.mem_of_getElem? (i := 43) rfl)), rfl, hnm⟩) (hw _ (List.mem_of_getElem? (i := 29) rfl)) (ty := .long) (by decide) rfl rfl (g := (mkF m 31 #[.val (.ref o0), .val (.long q1), .second, .val (.long q2), .second] [(.long q2), (.ref o0)])) rfl rfl (hb hby d5_31)
  have Fw7 := k5.same W7
  have N7 := Fr.snoc X7 N2 g_o0
  have z8 : n0 ≤ h7.size := Nat.le_trans z3 (Keep.of_wr W7).1
  have hs9 : h0.size ≤ h7.size := Nat.le_trans hs4 (Keep.of_wr W7).1
  obtain ⟨fs, hr, hrun, hended, hW, hsame⟩ := X7.leave (v := none) (fun _ => rfl) hlk
  refine ⟨_, _, pre0 _ ?_, hrun, hended, _, _, rfl, ?_, ⟨_, rfl⟩, hW, hsame.mono (by decide) (by decide)⟩
  · skip
    show Steps p.tables e below (s₁.setTop (mkF m 0 #[.val (.ref o0), .val (.long q1), .second, .val (.long q2), .second] [])) _
    refine XS.aloadN X0.here hx rfl (hb hby d5_0) rfl rfl ?_
    show Steps p.tables e below (s₁.setTop (mkF m 1 #[.val (.ref o0), .val (.long q1), .second, .val (.long q2), .second] [(.ref o0)])) _
    refine st1.trans ?_
    show Steps p.tables e below (T1.setTop (mkF m 4 #[.val (.ref o0), .val (.long q1), .second, .val (.long q2), .second] [])) _
    refine XT.lloadN X1.here hx rfl (hb hby d5_4) rfl ?_
    show Steps p.tables e below (T1.setTop (mkF m 5 #[.val (.ref o0), .val (.long q1), .second, .val (.long q2), .second] [(.long q2)])) _
    refine XT.lconstV X1.here hx rfl (1 : Int64) (hb hby d5_5) (by decide) ?_
    show Steps p.tables e below (T1.setTop (mkF m 6 #[.val (.ref o0), .val (.long q1), .second, .val (.long q2), .second] [(.long (1 : Int64)), (.long q2)])) _
    refine XT.lcmp X1.here hx rfl (hb hby d5_6) rfl ?_
    show Steps p.tables e below (T1.setTop (mkF m 7 #[.val (.ref o0), .val (.long q1), .second, .val (.long q2), .second] [(.int (XT.cmpL q2 (1 : Int64)))])) _
    refine XS.ifYes X1.here hx rfl (pc0 := 7) (pc' := 24) rfl (hb hby d5_7) rfl (XT.ll_ge_t hy0) (by decide) (by decide) ?_
    show Steps p.tables e below (T1.setTop (mkF m 24 #[.val (.ref o0), .val (.long q1), .second, .val (.long q2), .second] [])) _
    refine XS.aloadN X1.here hx rfl (hb hby d5_24) rfl rfl ?_
    show Steps p.tables e below (T1.setTop (mkF m 25 #[.val (.ref o0), .val (.long q1), .second, .val (.long q2), .second] [(.ref o0)])) _
    refine XT.lloadN X1.here hx rfl (hb hby d5_25) rfl ?_
    show Steps p.tables e below (T1.setTop (mkF m 26 #[.val (.ref o0), .val (.long q1), .second, .val (.long q2), .second] [(.long q1), (.ref o0)])) _
    refine st2 _ ?_
    show Steps p.tables e below (T2.setTop (mkF m 29 #[.val (.ref o0), .val (.long q1), .second, .val (.long q2), .second] [])) _
    refine XS.aloadN X2.here hx rfl (hb hby d5_29) rfl rfl ?_
    show Steps p.tables e below (T2.setTop (mkF m 30 #[.val (.ref o0), .val (.long q1), .second, .val (.long q2), .second] [(.ref o0)])) _
    refine XT.lloadN X2.here hx rfl (hb hby d5_30) rfl ?_
    show Steps p.tables e below (T2.setTop (mkF m 31 #[.val (.ref o0), .val (.long q1), .second, .val (.long q2), .second] [(.long q2), (.ref o0)])) _
    refine st7 _ ?_
    show Steps p.tables e below (T7.setTop (mkF m 34 #[.val (.ref o0), .val (.long q1), .second, .val (.long q2), .second] [])) _
    exact X7.returnOut hx Bd.returns (hb hby d5_34) hr
  · skip
    show Q5 Z o0 q1 q2 u0_number u1_count h0 n0 _ T7.heap _
    rw [e7]
    have k10 := (k6.wr W7)
    have k11 := (Fw2.other W7 (Or.inr (slot_ne (Or.inr (hw _ (List.mem_of_getElem? (i := 41) rfl))) (Or.inr (hw _ (List.mem_of_getElem? (i := 43) rfl))) (by decide) (t := .long) (t' := .long) (by decide) (by decide))))
    exact ⟨N7, rfl, (((Keep.refl h0 [o0]).wr W2 (Or.inl (List.mem_of_getElem? (i := 0) rfl))).wr W7 (Or.inl (List.mem_of_getElem? (i := 0) rfl))), k10, k11, Fw7⟩
theorem d14_0 : decode prog_37_method_2_code 0 = .ok (.lconst 0, 1) := by decide +kernel
theorem d14_1 : decode prog_37_method_2_code 1 = .ok (.lreturn, 1) := by decide +kernel
theorem ef_14 (m : MethodId) (o0 : Addr) : entryFrame m #[(.ref o0)] 1 = mkF m 0 #[.val (.ref o0)] [] := by first | (simp [entryFrame, mkF, argsToLocals, Value.category]; done) | rfl
def f14 : Int64 := (0 : Int64)
def Q14 (Z : State) (o0 : Addr) (h0 : Heap) (n0 : Nat) (v : Option Value) (h : Heap) (L : List Loc) : Prop := Fr n0 L ∧ v = some (.long f14) ∧ h = h0
set_option maxRecDepth 65536 in
set_option maxHeartbeats 40000000 in
theorem rm14 (l : Launch) (Z : State) (a0 : Array Value) (hw : ∀ d ∈ tables_1, d.before a0 Z = true) (ws : List Jvm.Cond) (o0 : Addr) (h0 : Heap) (n0 : Nat) (Z0 : n0 ≤ h0.size) :
    MetFree l (⟨"com/example/dispatch_by_catalog/dispatchbycatalog/subscriptions/DroppedEvents", "size", "()J"⟩ : MethodName) (head1 (Jvm.Cond.code (⟨"com/example/dispatch_by_catalog/dispatchbycatalog/subscriptions/DroppedEvents", "size", "()J"⟩ : MethodName) prog_37_method_2_code 1 (some .long) :: ws) ({ frames := 0, cells := 0, slots := 0, locals := 0 } : Room)) (fun a U => a = #[(.ref o0)] ∧ Z.Warmed39 U.vm ∧ U.heap = h0) (fun _ _ _ _ _ => True) (fun _ U o U' => ∃ v L, o = .returned v ∧ Q14 Z o0 h0 n0 v U'.heap L ∧ FrameEnd U o U' L ({ frames := 0, cells := 0, slots := 0, locals := 0 } : Room).cells ({ frames := 0, cells := 0, slots := 0, locals := 0 } : Room).slots) := by
  refine MetFree.of_bodySF (plainFor_of_name pn_com_example_dispatch_by_catalog_dispatchbycatalog_subscriptions_DroppedEvents) hisR ?_
  intro p e s m args below meth c s₁ Bd hml0 hP hK
  obtain ⟨rfl, hZ, hh⟩ := hP
  have hx := Bd.exec
  have hby := Bd.bytes
  have hml : c.maxLocals = 1 := hml0
  have hown : s.vm.findClass "com/example/dispatch_by_catalog/dispatchbycatalog/subscriptions/DroppedEvents" = some m.cls := findClass_of_methodNamed Bd.named
  have hnm := (name_of_methodNamed Bd.named Bd.method).1
  have hlk := BodyLoose.notSynchronized Bd
  have X0 : Stand p l e ({ frames := 0, cells := 0, slots := 0, locals := 0 } : Room) s m #[(.ref o0)] below meth c s₁ [] 0 0 := Stand.of_body Bd
  have e0 : s₁.heap = h0 := by rw [← hh, Bd.state]; rfl
  have N0 := Fr.nil n0
  have pre0 : ∀ t, Steps p.tables e below (s₁.setTop (mkF m 0 #[.val (.ref o0)] [])) t → Steps p.tables e below (s₁.setTop (entryFrame m #[(.ref o0)] 1)) t := fun t k => castTop (ef_14 m o0) k
  obtain ⟨fs, hr, hrun, hended, hW, hsame⟩ := X0.leave (v := some (.long (0 : Int64))) (fun h => by rw [Bd.returns] at h; cases h) hlk
  refine ⟨_, _, pre0 _ ?_, hrun, hended, _, _, rfl, ?_, ⟨_, rfl⟩, hW, hsame.mono (by decide) (by decide)⟩
  · skip
    show Steps p.tables e below (s₁.setTop (mkF m 0 #[.val (.ref o0)] [])) _
    refine XT.lconstV X0.here hx rfl (0 : Int64) (hb hby d14_0) (by decide) ?_
    show Steps p.tables e below (s₁.setTop (mkF m 1 #[.val (.ref o0)] [(.long (0 : Int64))])) _
    exact X0.lreturnOut hx Bd.returns (hb hby d14_1) hr
  · skip
    show Q14 Z o0 h0 n0 _ s₁.heap _
    rw [e0]
    exact ⟨N0, rfl, rfl⟩
theorem d13_0 : decode jdk_21_method_7_code 0 = .ok (.iinc 0 (-1), 3) := by decide +kernel
theorem d13_3 : decode jdk_21_method_7_code 3 = .ok (.iload_n 0, 1) := by decide +kernel
theorem d13_4 : decode jdk_21_method_7_code 4 = .ok (.ifCond .ge 7, 3) := by decide +kernel
theorem d13_7 : decode jdk_21_method_7_code 7 = .ok (.iload_n 1, 1) := by decide +kernel
theorem d13_8 : decode jdk_21_method_7_code 8 = .ok (.iconst 1, 1) := by decide +kernel
theorem d13_9 : decode jdk_21_method_7_code 9 = .ok (.isub, 1) := by decide +kernel
theorem d13_10 : decode jdk_21_method_7_code 10 = .ok (.istore_n 0, 1) := by decide +kernel
theorem d13_11 : decode jdk_21_method_7_code 11 = .ok (.iload_n 0, 1) := by decide +kernel
theorem d13_12 : decode jdk_21_method_7_code 12 = .ok (.ireturn, 1) := by decide +kernel
theorem ef_13 (m : MethodId) (p0 : Int32) (p1 : Int32) : entryFrame m #[(.int p0), (.int p1)] 2 = mkF m 0 #[.val (.int p0), .val (.int p1)] [] := by first | (simp [entryFrame, mkF, argsToLocals, Value.category]; done) | rfl
def v13_1 (p0 : Int32) (p1 : Int32) : Int32 := (p0 + (-1 : Int32))
def v13_2 (p0 : Int32) (p1 : Int32) : Int32 := (p1 - (1 : Int32))
def v13_3 (p0 : Int32) (p1 : Int32) : Int32 := (if (v13_1 p0 p1) < (0 : Int32) then (v13_2 p0 p1) else (v13_1 p0 p1))
def f13 (p0 : Int32) (p1 : Int32) : Int32 := (v13_3 p0 p1)
def Q13 (Z : State) (p0 : Int32) (p1 : Int32) (h0 : Heap) (n0 : Nat) (v : Option Value) (h : Heap) (L : List Loc) : Prop := Fr n0 L ∧ v = some (.int (f13 p0 p1)) ∧ h = h0
set_option maxRecDepth 65536 in
set_option maxHeartbeats 40000000 in
theorem rm13 (l : Launch) (Z : State) (a0 : Array Value) (hw : ∀ d ∈ tables_1, d.before a0 Z = true) (ws : List Jvm.Cond) (p0 : Int32) (p1 : Int32) (h0 : Heap) (n0 : Nat) (Z0 : n0 ≤ h0.size) :
    MetFree l (⟨"java/util/ArrayDeque", "dec", "(II)I"⟩ : MethodName) (head1 (Jvm.Cond.code (⟨"java/util/ArrayDeque", "dec", "(II)I"⟩ : MethodName) jdk_21_method_7_code 2 (some .int) :: ws) ({ frames := 0, cells := 0, slots := 0, locals := 0 } : Room)) (fun a U => a = #[(.int p0), (.int p1)] ∧ Z.Warmed39 U.vm ∧ U.heap = h0) (fun _ _ _ _ _ => True) (fun _ U o U' => ∃ v L, o = .returned v ∧ Q13 Z p0 p1 h0 n0 v U'.heap L ∧ FrameEnd U o U' L ({ frames := 0, cells := 0, slots := 0, locals := 0 } : Room).cells ({ frames := 0, cells := 0, slots := 0, locals := 0 } : Room).slots) := by
  refine MetFree.of_bodySF (plainFor_of_name pn_java_util_ArrayDeque) hisR ?_
  intro p e s m args below meth c s₁ Bd hml0 hP hK
  obtain ⟨rfl, hZ, hh⟩ := hP
  have hx := Bd.exec
  have hby := Bd.bytes
  have hml : c.maxLocals = 2 := hml0
  have hown : s.vm.findClass "java/util/ArrayDeque" = some m.cls := findClass_of_methodNamed Bd.named
  have hnm := (name_of_methodNamed Bd.named Bd.method).1
  have hlk := BodyLoose.notSynchronized Bd
  have X0 : Stand p l e ({ frames := 0, cells := 0, slots := 0, locals := 0 } : Room) s m #[(.int p0), (.int p1)] below meth c s₁ [] 0 0 := Stand.of_body Bd
  have e0 : s₁.heap = h0 := by rw [← hh, Bd.state]; rfl
  have N0 := Fr.nil n0
  have pre0 : ∀ t, Steps p.tables e below (s₁.setTop (mkF m 0 #[.val (.int p0), .val (.int p1)] [])) t → Steps p.tables e below (s₁.setTop (entryFrame m #[(.int p0), (.int p1)] 2)) t := fun t k => castTop (ef_13 m p0 p1) k
  have pre1 : ∀ t, Steps p.tables e below (s₁.setTop (mkF m 4 #[.val (.int (v13_1 p0 p1)), .val (.int p1)] [(.int (v13_1 p0 p1))])) t → Steps p.tables e below (s₁.setTop (entryFrame m #[(.int p0), (.int p1)] 2)) t := by
    intro t k
    refine pre0 t ?_
    show Steps p.tables e below (s₁.setTop (mkF m 0 #[.val (.int p0), .val (.int p1)] [])) _
    refine XT.iincV X0.here hx rfl (-1 : Int32) (hb hby d13_0) (by decide) rfl (l' := #[.val (.int (v13_1 p0 p1)), .val (.int p1)]) rfl ?_
    show Steps p.tables e below (s₁.setTop (mkF m 3 #[.val (.int (v13_1 p0 p1)), .val (.int p1)] [])) _
    refine XS.iloadN X0.here hx rfl (hb hby d13_3) rfl ?_
    exact k
  clear pre0
  have pre3 : ∀ t, Steps p.tables e below (s₁.setTop (mkF m 11 #[.val (.int (v13_3 p0 p1)), .val (.int p1)] [])) t → Steps p.tables e below (s₁.setTop (entryFrame m #[(.int p0), (.int p1)] 2)) t := by
    intro t k
    by_cases c2 : (v13_1 p0 p1) < (0 : Int32)
    · skip
      rw [show (v13_3 p0 p1) = (v13_2 p0 p1) from (if_pos c2)] at k
      refine pre1 t ?_
      show Steps p.tables e below (s₁.setTop (mkF m 4 #[.val (.int (v13_1 p0 p1)), .val (.int p1)] [(.int (v13_1 p0 p1))])) _
      refine XS.ifNo X0.here hx rfl (hb hby d13_4) rfl (XT.i0_ge_f c2) ?_
      show Steps p.tables e below (s₁.setTop (mkF m 7 #[.val (.int (v13_1 p0 p1)), .val (.int p1)] [])) _
      refine XS.iloadN X0.here hx rfl (hb hby d13_7) rfl ?_
      show Steps p.tables e below (s₁.setTop (mkF m 8 #[.val (.int (v13_1 p0 p1)), .val (.int p1)] [(.int p1)])) _
      refine XT.iconstV X0.here hx rfl (1 : Int32) (hb hby d13_8) (by decide) ?_
      show Steps p.tables e below (s₁.setTop (mkF m 9 #[.val (.int (v13_1 p0 p1)), .val (.int p1)] [(.int (1 : Int32)), (.int p1)])) _
      refine XS.isub X0.here hx rfl (hb hby d13_9) rfl ?_
      show Steps p.tables e below (s₁.setTop (mkF m 10 #[.val (.int (v13_1 p0 p1)), .val (.int p1)] [(.int (p1 - (1 : Int32)))])) _
      refine XS.istoreN X0.here hx rfl (hb hby d13_10) rfl (l' := #[.val (.int (v13_2 p0 p1)), .val (.int p1)]) rfl ?_
      exact k
    · skip
      rw [show (v13_3 p0 p1) = (v13_1 p0 p1) from (if_neg c2)] at k
      refine pre1 t ?_
      show Steps p.tables e below (s₁.setTop (mkF m 4 #[.val (.int (v13_1 p0 p1)), .val (.int p1)] [(.int (v13_1 p0 p1))])) _
      refine XS.ifYes X0.here hx rfl (pc0 := 4) (pc' := 11) rfl (hb hby d13_4) rfl (XT.i0_ge_t c2) (by decide) (by decide) ?_
      exact k
  obtain ⟨fs, hr, hrun, hended, hW, hsame⟩ := X0.leave (v := some (.int (v13_3 p0 p1))) (fun h => by rw [Bd.returns] at h; cases h) hlk
  refine ⟨_, _, pre3 _ ?_, hrun, hended, _, _, rfl, ?_, ⟨_, rfl⟩, hW, hsame.mono (by decide) (by decide)⟩
  · skip
    show Steps p.tables e below (s₁.setTop (mkF m 11 #[.val (.int (v13_3 p0 p1)), .val (.int p1)] [])) _
    refine XS.iloadN X0.here hx rfl (hb hby d13_11) rfl ?_
    show Steps p.tables e below (s₁.setTop (mkF m 12 #[.val (.int (v13_3 p0 p1)), .val (.int p1)] [(.int (v13_3 p0 p1))])) _
    exact retI X0 hx Bd.returns (hb hby d13_12) hr
  · skip
    show Q13 Z p0 p1 h0 n0 _ s₁.heap _
    rw [e0]
    exact ⟨N0, rfl, rfl⟩
theorem d17_0 : decode jdk_21_method_6_code 0 = .ok (.iinc 0 1, 3) := by decide +kernel
theorem d17_3 : decode jdk_21_method_6_code 3 = .ok (.iload_n 0, 1) := by decide +kernel
theorem d17_4 : decode jdk_21_method_6_code 4 = .ok (.iload_n 1, 1) := by decide +kernel
theorem d17_5 : decode jdk_21_method_6_code 5 = .ok (.if_icmp .lt 5, 3) := by decide +kernel
theorem d17_8 : decode jdk_21_method_6_code 8 = .ok (.iconst 0, 1) := by decide +kernel
theorem d17_9 : decode jdk_21_method_6_code 9 = .ok (.istore_n 0, 1) := by decide +kernel
theorem d17_10 : decode jdk_21_method_6_code 10 = .ok (.iload_n 0, 1) := by decide +kernel
theorem d17_11 : decode jdk_21_method_6_code 11 = .ok (.ireturn, 1) := by decide +kernel
theorem ef_17 (m : MethodId) (p0 : Int32) (p1 : Int32) : entryFrame m #[(.int p0), (.int p1)] 2 = mkF m 0 #[.val (.int p0), .val (.int p1)] [] := by first | (simp [entryFrame, mkF, argsToLocals, Value.category]; done) | rfl
def v17_1 (p0 : Int32) (p1 : Int32) : Int32 := (p0 + (1 : Int32))
def v17_2 (p0 : Int32) (p1 : Int32) : Int32 := (if (v17_1 p0 p1) < p1 then (v17_1 p0 p1) else (0 : Int32))
def f17 (p0 : Int32) (p1 : Int32) : Int32 := (v17_2 p0 p1)
def Q17 (Z : State) (p0 : Int32) (p1 : Int32) (h0 : Heap) (n0 : Nat) (v : Option Value) (h : Heap) (L : List Loc) : Prop := Fr n0 L ∧ v = some (.int (f17 p0 p1)) ∧ h = h0
set_option maxRecDepth 65536 in
set_option maxHeartbeats 40000000 in
theorem rm17 (l : Launch) (Z : State) (a0 : Array Value) (hw : ∀ d ∈ tables_1, d.before a0 Z = true) (ws : List Jvm.Cond) (p0 : Int32) (p1 : Int32) (h0 : Heap) (n0 : Nat) (Z0 : n0 ≤ h0.size) :
    MetFree l (⟨"java/util/ArrayDeque", "inc", "(II)I"⟩ : MethodName) (head1 (Jvm.Cond.code (⟨"java/util/ArrayDeque", "inc", "(II)I"⟩ : MethodName) jdk_21_method_6_code 2 (some .int) :: ws) ({ frames := 0, cells := 0, slots := 0, locals := 0 } : Room)) (fun a U => a = #[(.int p0), (.int p1)] ∧ Z.Warmed39 U.vm ∧ U.heap = h0) (fun _ _ _ _ _ => True) (fun _ U o U' => ∃ v L, o = .returned v ∧ Q17 Z p0 p1 h0 n0 v U'.heap L ∧ FrameEnd U o U' L ({ frames := 0, cells := 0, slots := 0, locals := 0 } : Room).cells ({ frames := 0, cells := 0, slots := 0, locals := 0 } : Room).slots) := by
  refine MetFree.of_bodySF (plainFor_of_name pn_java_util_ArrayDeque) hisR ?_
  intro p e s m args below meth c s₁ Bd hml0 hP hK
  obtain ⟨rfl, hZ, hh⟩ := hP
  have hx := Bd.exec
  have hby := Bd.bytes
  have hml : c.maxLocals = 2 := hml0
  have hown : s.vm.findClass "java/util/ArrayDeque" = some m.cls := findClass_of_methodNamed Bd.named
  have hnm := (name_of_methodNamed Bd.named Bd.method).1
  have hlk := BodyLoose.notSynchronized Bd
  have X0 : Stand p l e ({ frames := 0, cells := 0, slots := 0, locals := 0 } : Room) s m #[(.int p0), (.int p1)] below meth c s₁ [] 0 0 := Stand.of_body Bd
  have e0 : s₁.heap = h0 := by rw [← hh, Bd.state]; rfl
  have N0 := Fr.nil n0
  have pre0 : ∀ t, Steps p.tables e below (s₁.setTop (mkF m 0 #[.val (.int p0), .val (.int p1)] [])) t → Steps p.tables e below (s₁.setTop (entryFrame m #[(.int p0), (.int p1)] 2)) t := fun t k => castTop (ef_17 m p0 p1) k
  have pre1 : ∀ t, Steps p.tables e below (s₁.setTop (mkF m 5 #[.val (.int (v17_1 p0 p1)), .val (.int p1)] [(.int p1), (.int (v17_1 p0 p1))])) t → Steps p.tables e below (s₁.setTop (entryFrame m #[(.int p0), (.int p1)] 2)) t := by
    intro t k
    refine pre0 t ?_
    show Steps p.tables e below (s₁.setTop (mkF m 0 #[.val (.int p0), .val (.int p1)] [])) _
    refine XT.iincV X0.here hx rfl (1 : Int32) (hb hby d17_0) (by decide) rfl (l' := #[.val (.int (v17_1 p0 p1)), .val (.int p1)]) rfl ?_
    show Steps p.tables e below (s₁.setTop (mkF m 3 #[.val (.int (v17_1 p0 p1)), .val (.int p1)] [])) _
    refine XS.iloadN X0.here hx rfl (hb hby d17_3) rfl ?_
    show Steps p.tables e below (s₁.setTop (mkF m 4 #[.val (.int (v17_1 p0 p1)), .val (.int p1)] [(.int (v17_1 p0 p1))])) _
    refine XS.iloadN X0.here hx rfl (hb hby d17_4) rfl ?_
    exact k
  clear pre0
  have pre3 : ∀ t, Steps p.tables e below (s₁.setTop (mkF m 10 #[.val (.int (v17_2 p0 p1)), .val (.int p1)] [])) t → Steps p.tables e below (s₁.setTop (entryFrame m #[(.int p0), (.int p1)] 2)) t := by
    intro t k
    by_cases c2 : (v17_1 p0 p1) < p1
    · skip
      rw [show (v17_2 p0 p1) = (v17_1 p0 p1) from (if_pos c2)] at k
      refine pre1 t ?_
      show Steps p.tables e below (s₁.setTop (mkF m 5 #[.val (.int (v17_1 p0 p1)), .val (.int p1)] [(.int p1), (.int (v17_1 p0 p1))])) _
      refine XS.icmpYes X0.here hx rfl (pc0 := 5) (pc' := 10) rfl (hb hby d17_5) rfl (XT.ii_lt_t c2) (by decide) (by decide) ?_
      exact k
    · skip
      rw [show (v17_2 p0 p1) = (0 : Int32) from (if_neg c2)] at k
      refine pre1 t ?_
      show Steps p.tables e below (s₁.setTop (mkF m 5 #[.val (.int (v17_1 p0 p1)), .val (.int p1)] [(.int p1), (.int (v17_1 p0 p1))])) _
      refine XS.icmpNo X0.here hx rfl (hb hby d17_5) rfl (XT.ii_lt_f c2) ?_
      show Steps p.tables e below (s₁.setTop (mkF m 8 #[.val (.int (v17_1 p0 p1)), .val (.int p1)] [])) _
      refine XT.iconstV X0.here hx rfl (0 : Int32) (hb hby d17_8) (by decide) ?_
      show Steps p.tables e below (s₁.setTop (mkF m 9 #[.val (.int (v17_1 p0 p1)), .val (.int p1)] [(.int (0 : Int32))])) _
      refine XS.istoreN X0.here hx rfl (hb hby d17_9) rfl (l' := #[.val (.int (0 : Int32)), .val (.int p1)]) rfl ?_
      exact k
  obtain ⟨fs, hr, hrun, hended, hW, hsame⟩ := X0.leave (v := some (.int (v17_2 p0 p1))) (fun h => by rw [Bd.returns] at h; cases h) hlk
  refine ⟨_, _, pre3 _ ?_, hrun, hended, _, _, rfl, ?_, ⟨_, rfl⟩, hW, hsame.mono (by decide) (by decide)⟩
  · skip
    show Steps p.tables e below (s₁.setTop (mkF m 10 #[.val (.int (v17_2 p0 p1)), .val (.int p1)] [])) _
    refine XS.iloadN X0.here hx rfl (hb hby d17_10) rfl ?_
    show Steps p.tables e below (s₁.setTop (mkF m 11 #[.val (.int (v17_2 p0 p1)), .val (.int p1)] [(.int (v17_2 p0 p1))])) _
    exact retI X0 hx Bd.returns (hb hby d17_11) hr
  · skip
    show Q17 Z p0 p1 h0 n0 _ s₁.heap _
    rw [e0]
    exact ⟨N0, rfl, rfl⟩
theorem d10_0 : decode jdk_21_method_10_code 0 = .ok (.aload_n 0, 1) := by decide +kernel
theorem d10_1 : decode jdk_21_method_10_code 1 = .ok (.iload_n 1, 1) := by decide +kernel
theorem d10_2 : decode jdk_21_method_10_code 2 = .ok (.aaload, 1) := by decide +kernel
theorem d10_3 : decode jdk_21_method_10_code 3 = .ok (.areturn, 1) := by decide +kernel
theorem ef_ea0 (m : MethodId) (o0 : Addr) : entryFrame m #[(.ref o0), (.int (0 : Int32))] 2 = mkF m 0 #[.val (.ref o0), .val (.int (0 : Int32))] [] := by first | (simp [entryFrame, mkF, argsToLocals, Value.category]; done) | rfl
def Qea0 (Z : State) (o0 : Addr) (w9_hd : Addr) (u21_e : Value) (u22_e : Value) (u23_e : Value) (u24_e : Value) (u25_e : Value) (u26_e : Value) (u27_e : Value) (u28_e : Value) (u29_e : Value) (u30_e : Value) (u31_e : Value) (u32_e : Value) (u33_e : Value) (u34_e : Value) (u35_e : Value) (u36_e : Value) (kA : ClassId) (h0 : Heap) (n0 : Nat) (v : Option Value) (h : Heap) (L : List Loc) : Prop := Fr n0 L ∧ v = some (.ref w9_hd) ∧ h = h0
set_option maxRecDepth 65536 in
set_option maxHeartbeats 40000000 in
theorem rmea0 (l : Launch) (Z : State) (a0 : Array Value) (hw : ∀ d ∈ tables_1, d.before a0 Z = true) (ws : List Jvm.Cond) (o0 : Addr) (w9_hd : Addr) (u21_e : Value) (u22_e : Value) (u23_e : Value) (u24_e : Value) (u25_e : Value) (u26_e : Value) (u27_e : Value) (u28_e : Value) (u29_e : Value) (u30_e : Value) (u31_e : Value) (u32_e : Value) (u33_e : Value) (u34_e : Value) (u35_e : Value) (u36_e : Value) (kA : ClassId) (h0 : Heap) (n0 : Nat) (Z0 : n0 ≤ h0.size) (V_o0 : Arv Z h0 o0 kA (.object "java/lang/Object") (17 : Int32) [(.ref w9_hd), u21_e, u22_e, u23_e, u24_e, u25_e, u26_e, u27_e, u28_e, u29_e, u30_e, u31_e, u32_e, u33_e, u34_e, u35_e, u36_e] .null) :
    MetFree l (⟨"java/util/ArrayDeque", "elementAt", "([Ljava/lang/Object;I)Ljava/lang/Object;"⟩ : MethodName) (head1 (Jvm.Cond.code (⟨"java/util/ArrayDeque", "elementAt", "([Ljava/lang/Object;I)Ljava/lang/Object;"⟩ : MethodName) jdk_21_method_10_code 2 (some (.object "java/lang/Object")) :: ws) ({ frames := 0, cells := 0, slots := 0, locals := 0 } : Room)) (fun a U => a = #[(.ref o0), (.int (0 : Int32))] ∧ Z.Warmed39 U.vm ∧ U.heap = h0) (fun _ _ _ _ _ => True) (fun _ U o U' => ∃ v L, o = .returned v ∧ Qea0 Z o0 w9_hd u21_e u22_e u23_e u24_e u25_e u26_e u27_e u28_e u29_e u30_e u31_e u32_e u33_e u34_e u35_e u36_e kA h0 n0 v U'.heap L ∧ FrameEnd U o U' L ({ frames := 0, cells := 0, slots := 0, locals := 0 } : Room).cells ({ frames := 0, cells := 0, slots := 0, locals := 0 } : Room).slots) := by
  refine MetFree.of_bodySF (plainFor_of_name pn_java_util_ArrayDeque) hisR ?_
  intro p e s m args below meth c s₁ Bd hml0 hP hK
  obtain ⟨rfl, hZ, hh⟩ := hP
  have hx := Bd.exec
  have hby := Bd.bytes
  have hml : c.maxLocals = 2 := hml0
  have hown : s.vm.findClass "java/util/ArrayDeque" = some m.cls := findClass_of_methodNamed Bd.named
  have hnm := (name_of_methodNamed Bd.named Bd.method).1
  have hlk := BodyLoose.notSynchronized Bd
  have X0 : Stand p l e ({ frames := 0, cells := 0, slots := 0, locals := 0 } : Room) s m #[(.ref o0), (.int (0 : Int32))] below meth c s₁ [] 0 0 := Stand.of_body Bd
  have e0 : s₁.heap = h0 := by rw [← hh, Bd.state]; rfl
  have N0 := Fr.nil n0
  have pre0 : ∀ t, Steps p.tables e below (s₁.setTop (mkF m 0 #[.val (.ref o0), .val (.int (0 : Int32))] [])) t → Steps p.tables e below (s₁.setTop (entryFrame m #[(.ref o0), (.int (0 : Int32))] 2)) t := fun t k => castTop (ef_ea0 m o0) k
  obtain ⟨cl1, Ar1, qc1, S1, M1, Ha1, G1⟩ := id V_o0
  have hin2 : ¬ ((0 : Int32) < 0 ∨ cl1.slots.size ≤ ((0 : Int32)).toNatClampNeg) := inb_of S1 ⟨by decide, by decide⟩
  obtain ⟨fs, hr, hrun, hended, hW, hsame⟩ := X0.leave (v := some (.ref w9_hd)) (fun h => by rw [Bd.returns] at h; cases h) hlk
  refine ⟨_, _, pre0 _ ?_, hrun, hended, _, _, rfl, ?_, ⟨_, rfl⟩, hW, hsame.mono (by decide) (by decide)⟩
  · skip
    show Steps p.tables e below (s₁.setTop (mkF m 0 #[.val (.ref o0), .val (.int (0 : Int32))] [])) _
    refine XS.aloadN X0.here hx rfl (hb hby d10_0) rfl rfl ?_
    show Steps p.tables e below (s₁.setTop (mkF m 1 #[.val (.ref o0), .val (.int (0 : Int32))] [(.ref o0)])) _
    refine XS.iloadN X0.here hx rfl (hb hby d10_1) rfl ?_
    show Steps p.tables e below (s₁.setTop (mkF m 2 #[.val (.ref o0), .val (.int (0 : Int32))] [(.int (0 : Int32)), (.ref o0)])) _
    refine X0.aaload hx (j := (0 : Int32)) (v := (.ref w9_hd)) (by rw [e0]; exact Ar1.1) (State.isArrayOf_alike hZ.alike Ar1.2.1) rfl Ar1.2.2 hin2 (Has.at Ha1 hin2 rfl) (g := (mkF m 2 #[.val (.ref o0), .val (.int (0 : Int32))] [(.int (0 : Int32)), (.ref o0)])) rfl rfl (hb hby d10_2) _ ?_
    show Steps p.tables e below (s₁.setTop (mkF m 3 #[.val (.ref o0), .val (.int (0 : Int32))] [(.ref w9_hd)])) _
    exact X0.areturnOut hx rfl Bd.returns rfl (hb hby d10_3) hr
  · skip
    show Qea0 Z o0 w9_hd u21_e u22_e u23_e u24_e u25_e u26_e u27_e u28_e u29_e u30_e u31_e u32_e u33_e u34_e u35_e u36_e kA h0 n0 _ s₁.heap _
    rw [e0]
    exact ⟨N0, rfl, rfl⟩
theorem pd___Ljava_lang_Object_I_Ljava_lang_Object_ : parseMethodDescriptor "([Ljava/lang/Object;I)Ljava/lang/Object;" = some ⟨[(.array (.object "java/lang/Object")), .int], some (.object "java/lang/Object")⟩ := by decide +kernel
theorem d9_0 : decode jdk_21_method_24_code 0 = .ok (.aload_n 0, 1) := by decide +kernel
theorem d9_1 : decode jdk_21_method_24_code 1 = .ok (.getfield 3, 3) := by decide +kernel
theorem d9_4 : decode jdk_21_method_24_code 4 = .ok (.aload_n 0, 1) := by decide +kernel
theorem d9_5 : decode jdk_21_method_24_code 5 = .ok (.getfield 24, 3) := by decide +kernel
theorem d9_8 : decode jdk_21_method_24_code 8 = .ok (.invokestatic 103, 3) := by decide +kernel
theorem d9_11 : decode jdk_21_method_24_code 11 = .ok (.areturn, 1) := by decide +kernel
theorem ef_pf0 (m : MethodId) (o0 : Addr) : entryFrame m #[(.ref o0)] 1 = mkF m 0 #[.val (.ref o0)] [] := by first | (simp [entryFrame, mkF, argsToLocals, Value.category]; done) | rfl
def Qpf0 (Z : State) (o0 : Addr) (w2_els : Addr) (w9_hd : Addr) (u21_e : Value) (u22_e : Value) (u23_e : Value) (u24_e : Value) (u25_e : Value) (u26_e : Value) (u27_e : Value) (u28_e : Value) (u29_e : Value) (u30_e : Value) (u31_e : Value) (u32_e : Value) (u33_e : Value) (u34_e : Value) (u35_e : Value) (u36_e : Value) (kA : ClassId) (h0 : Heap) (n0 : Nat) (v : Option Value) (h : Heap) (L : List Loc) : Prop := Fr n0 L ∧ v = some (.ref w9_hd) ∧ h = h0
set_option maxRecDepth 65536 in
set_option maxHeartbeats 40000000 in
theorem rmpf0 (l : Launch) (Z : State) (a0 : Array Value) (hw : ∀ d ∈ tables_1, d.before a0 Z = true) (ws : List Jvm.Cond) (o0 : Addr) (w2_els : Addr) (w9_hd : Addr) (u21_e : Value) (u22_e : Value) (u23_e : Value) (u24_e : Value) (u25_e : Value) (u26_e : Value) (u27_e : Value) (u28_e : Value) (u29_e : Value) (u30_e : Value) (u31_e : Value) (u32_e : Value) (u33_e : Value) (u34_e : Value) (u35_e : Value) (u36_e : Value) (kA : ClassId) (h0 : Heap) (n0 : Nat) (Z0 : n0 ≤ h0.size) (E_o0 : Exa Z h0 o0 "java/util/ArrayDeque") (F_elements_o0 : Fld Z h0 o0 "java/util/ArrayDeque" "elements" "[Ljava/lang/Object;" (.ref w2_els)) (F_head_o0 : Fld Z h0 o0 "java/util/ArrayDeque" "head" "I" (.int (0 : Int32))) (V_w2_els : Arv Z h0 w2_els kA (.object "java/lang/Object") (17 : Int32) [(.ref w9_hd), u21_e, u22_e, u23_e, u24_e, u25_e, u26_e, u27_e, u28_e, u29_e, u30_e, u31_e, u32_e, u33_e, u34_e, u35_e, u36_e] .null) :
    MetFree l (⟨"java/util/ArrayDeque", "peekFirst", "()Ljava/lang/Object;"⟩ : MethodName) (head1 (Jvm.Cond.code (⟨"java/util/ArrayDeque", "peekFirst", "()Ljava/lang/Object;"⟩ : MethodName) jdk_21_method_24_code 1 (some (.object "java/lang/Object")) :: ws) ({ frames := 1, cells := 0, slots := 0, locals := 13 } : Room)) (fun a U => a = #[(.ref o0)] ∧ Z.Warmed39 U.vm ∧ U.heap = h0) (fun _ _ _ _ _ => True) (fun _ U o U' => ∃ v L, o = .returned v ∧ Qpf0 Z o0 w2_els w9_hd u21_e u22_e u23_e u24_e u25_e u26_e u27_e u28_e u29_e u30_e u31_e u32_e u33_e u34_e u35_e u36_e kA h0 n0 v U'.heap L ∧ FrameEnd U o U' L ({ frames := 1, cells := 0, slots := 0, locals := 13 } : Room).cells ({ frames := 1, cells := 0, slots := 0, locals := 13 } : Room).slots) := by
  refine MetFree.of_bodySF (plainFor_of_name pn_java_util_ArrayDeque) hisR ?_
  intro p e s m args below meth c s₁ Bd hml0 hP hK
  obtain ⟨rfl, hZ, hh⟩ := hP
  have hx := Bd.exec
  have hby := Bd.bytes
  have hml : c.maxLocals = 1 := hml0
  have hown : s.vm.findClass "java/util/ArrayDeque" = some m.cls := findClass_of_methodNamed Bd.named
  have hnm := (name_of_methodNamed Bd.named Bd.method).1
  have hlk := BodyLoose.notSynchronized Bd
  have X0 : Stand p l e ({ frames := 1, cells := 0, slots := 0, locals := 13 } : Room) s m #[(.ref o0)] below meth c s₁ [] 0 0 := Stand.of_body Bd
  have e0 : s₁.heap = h0 := by rw [← hh, Bd.state]; rfl
  have N0 := Fr.nil n0
  have pre0 : ∀ t, Steps p.tables e below (s₁.setTop (mkF m 0 #[.val (.ref o0)] [])) t → Steps p.tables e below (s₁.setTop (entryFrame m #[(.ref o0)] 1)) t := fun t k => castTop (ef_pf0 m o0) k
  obtain ⟨T1, X1, e1, st1⟩ := getF X0 hx hZ hown (host := "") (Or.inl (hw _ (List.mem_of_getElem? (i := 24) rfl))) Via.refl e0 F_elements_o0 (g := (mkF m 1 #[.val (.ref o0)] [(.ref o0)])) rfl rfl (hb hby d9_1)
  obtain ⟨T2, X2, e2, st2⟩ := getF X1 hx hZ hown (host := "") (Or.inl (hw _ (List.mem_of_getElem? (i := 64) rfl))) Via.refl e1 F_head_o0 (g := (mkF m 5 #[.val (.ref o0)] [(.ref o0), (.ref w2_els)])) rfl rfl (hb hby d9_5)
  obtain ⟨vr3, _, ⟨T3, L3, k3, n3⟩, -, X3, ⟨Lc3, hQ3, l3, y3, z3⟩, st3⟩ := Jvm.LawKit.callS X2 hx (y := (⟨"java/util/ArrayDeque", "elementAt", "([Ljava/lang/Object;I)Ljava/lang/Object;"⟩ : MethodName)) hown (mvT hZ (hw _ (List.mem_of_getElem? (i := 66) rfl))) (mvT hZ (hw _ (List.mem_of_getElem? (i := 67) rfl))) (mvT hZ (hw _ (List.mem_of_getElem? (i := 11) rfl))) (mvT hZ (hw _ (List.mem_of_getElem? (i := 68) rfl))) (by decide) (backOf (W := 0) (rmea0 l Z a0 hw [] w2_els w9_hd u21_e u22_e u23_e u24_e u25_e u26_e u27_e u28_e u29_e u30_e u31_e u32_e u33_e u34_e u35_e u36_e kA h0 n0 Z0 V_w2_els) hZ (hw _ (List.mem_of_getElem? (i := 68) rfl)) (hw _ (List.mem_of_getElem? (i := 11) rfl)) (by decide) (by decide)) (g := (mkF m 8 #[.val (.ref o0)] [(.int (0 : Int32)), (.ref w2_els)])) rfl (by rw [hml]; rfl) (argsL := [(.ref w2_els), (.int (0 : Int32))]) (rest := []) (lenOf pd___Ljava_lang_Object_I_Ljava_lang_Object_ rfl) rfl (by show 2 * 0 + _ ≤ _; exact Nat.le_of_eq rfl) (hb hby d9_8) (fun _ _ => ⟨rfl, e2, (by decide : 0 + 0 ≤ _), (by decide : 0 + 0 ≤ _)⟩)
  dsimp only [Pt.U, Pt.locs, Pt.cells, Pt.slots] at X3 l3 y3 z3 st3 hQ3
  subst l3 y3 z3
  have N3q := (show _ ∧ _ ∧ _ from hQ3).1
  have hv3 := (show _ ∧ _ ∧ _ from hQ3).2.1
  have e3 := (show _ ∧ _ ∧ _ from hQ3).2.2
  clear hQ3
  subst hv3
  have N3 := Fr.app N0 N3q
  obtain ⟨fs, hr, hrun, hended, hW, hsame⟩ := X3.leave (v := some (.ref w9_hd)) (fun h => by rw [Bd.returns] at h; cases h) hlk
  refine ⟨_, _, pre0 _ ?_, hrun, hended, _, _, rfl, ?_, ⟨_, rfl⟩, hW, hsame.mono (by decide) (by decide)⟩
  · skip
    show Steps p.tables e below (s₁.setTop (mkF m 0 #[.val (.ref o0)] [])) _
    refine XS.aloadN X0.here hx rfl (hb hby d9_0) rfl rfl ?_
    show Steps p.tables e below (s₁.setTop (mkF m 1 #[.val (.ref o0)] [(.ref o0)])) _
    refine st1 _ ?_
    show Steps p.tables e below (T1.setTop (mkF m 4 #[.val (.ref o0)] [(.ref w2_els)])) _
    refine XS.aloadN X1.here hx rfl (hb hby d9_4) rfl rfl ?_
    show Steps p.tables e below (T1.setTop (mkF m 5 #[.val (.ref o0)] [(.ref o0), (.ref w2_els)])) _
    refine st2 _ ?_
    show Steps p.tables e below (T2.setTop (mkF m 8 #[.val (.ref o0)] [(.int (0 : Int32)), (.ref w2_els)])) _
    refine st3 _ ?_
    show Steps p.tables e below (T3.setTop (mkF m 11 #[.val (.ref o0)] [(.ref w9_hd)])) _
    exact X3.areturnOut hx rfl Bd.returns rfl (hb hby d9_11) hr
  · skip
    show Qpf0 Z o0 w2_els w9_hd u21_e u22_e u23_e u24_e u25_e u26_e u27_e u28_e u29_e u30_e u31_e u32_e u33_e u34_e u35_e u36_e kA h0 n0 _ T3.heap _
    rw [e3]
    exact ⟨N3, rfl, rfl⟩
theorem pd___Ljava_lang_Object_ : parseMethodDescriptor "()Ljava/lang/Object;" = some ⟨[], some (.object "java/lang/Object")⟩ := by decide +kernel
theorem d8_0 : decode jdk_21_method_33_code 0 = .ok (.aload_n 0, 1) := by decide +kernel
theorem d8_1 : decode jdk_21_method_33_code 1 = .ok (.invokevirtual 124, 3) := by decide +kernel
theorem d8_4 : decode jdk_21_method_33_code 4 = .ok (.areturn, 1) := by decide +kernel
theorem ef_pk0 (m : MethodId) (o0 : Addr) : entryFrame m #[(.ref o0)] 1 = mkF m 0 #[.val (.ref o0)] [] := by first | (simp [entryFrame, mkF, argsToLocals, Value.category]; done) | rfl
def Qpk0 (Z : State) (o0 : Addr) (w2_els : Addr) (w9_hd : Addr) (u21_e : Value) (u22_e : Value) (u23_e : Value) (u24_e : Value) (u25_e : Value) (u26_e : Value) (u27_e : Value) (u28_e : Value) (u29_e : Value) (u30_e : Value) (u31_e : Value) (u32_e : Value) (u33_e : Value) (u34_e : Value) (u35_e : Value) (u36_e : Value) (kA : ClassId) (h0 : Heap) (n0 : Nat) (v : Option Value) (h : Heap) (L : List Loc) : Prop := Fr n0 L ∧ v = some (.ref w9_hd) ∧ h = h0
set_option maxRecDepth 65536 in
set_option maxHeartbeats 40000000 in
theorem rmpk0 (l : Launch) (Z : State) (a0 : Array Value) (hw : ∀ d ∈ tables_1, d.before a0 Z = true) (ws : List Jvm.Cond) (o0 : Addr) (w2_els : Addr) (w9_hd : Addr) (u21_e : Value) (u22_e : Value) (u23_e : Value) (u24_e : Value) (u25_e : Value) (u26_e : Value) (u27_e : Value) (u28_e : Value) (u29_e : Value) (u30_e : Value) (u31_e : Value) (u32_e : Value) (u33_e : Value) (u34_e : Value) (u35_e : Value) (u36_e : Value) (kA : ClassId) (h0 : Heap) (n0 : Nat) (Z0 : n0 ≤ h0.size) (E_o0 : Exa Z h0 o0 "java/util/ArrayDeque") (F_elements_o0 : Fld Z h0 o0 "java/util/ArrayDeque" "elements" "[Ljava/lang/Object;" (.ref w2_els)) (F_head_o0 : Fld Z h0 o0 "java/util/ArrayDeque" "head" "I" (.int (0 : Int32))) (V_w2_els : Arv Z h0 w2_els kA (.object "java/lang/Object") (17 : Int32) [(.ref w9_hd), u21_e, u22_e, u23_e, u24_e, u25_e, u26_e, u27_e, u28_e, u29_e, u30_e, u31_e, u32_e, u33_e, u34_e, u35_e, u36_e] .null) :
    MetFree l (⟨"java/util/ArrayDeque", "peek", "()Ljava/lang/Object;"⟩ : MethodName) (head1 (Jvm.Cond.code (⟨"java/util/ArrayDeque", "peek", "()Ljava/lang/Object;"⟩ : MethodName) jdk_21_method_33_code 1 (some (.object "java/lang/Object")) :: ws) ({ frames := 2, cells := 0, slots := 0, locals := 25 } : Room)) (fun a U => a = #[(.ref o0)] ∧ Z.Warmed39 U.vm ∧ U.heap = h0) (fun _ _ _ _ _ => True) (fun _ U o U' => ∃ v L, o = .returned v ∧ Qpk0 Z o0 w2_els w9_hd u21_e u22_e u23_e u24_e u25_e u26_e u27_e u28_e u29_e u30_e u31_e u32_e u33_e u34_e u35_e u36_e kA h0 n0 v U'.heap L ∧ FrameEnd U o U' L ({ frames := 2, cells := 0, slots := 0, locals := 25 } : Room).cells ({ frames := 2, cells := 0, slots := 0, locals := 25 } : Room).slots) := by
  refine MetFree.of_bodySF (plainFor_of_name pn_java_util_ArrayDeque) hisR ?_
  intro p e s m args below meth c s₁ Bd hml0 hP hK
  obtain ⟨rfl, hZ, hh⟩ := hP
  have hx := Bd.exec
  have hby := Bd.bytes
  have hml : c.maxLocals = 1 := hml0
  have hown : s.vm.findClass "java/util/ArrayDeque" = some m.cls := findClass_of_methodNamed Bd.named
  have hnm := (name_of_methodNamed Bd.named Bd.method).1
  have hlk := BodyLoose.notSynchronized Bd
  have X0 : Stand p l e ({ frames := 2, cells := 0, slots := 0, locals := 25 } : Room) s m #[(.ref o0)] below meth c s₁ [] 0 0 := Stand.of_body Bd
  have e0 : s₁.heap = h0 := by rw [← hh, Bd.state]; rfl
  have N0 := Fr.nil n0
  have pre0 : ∀ t, Steps p.tables e below (s₁.setTop (mkF m 0 #[.val (.ref o0)] [])) t → Steps p.tables e below (s₁.setTop (entryFrame m #[(.ref o0)] 1)) t := fun t k => castTop (ef_pk0 m o0) k
  obtain ⟨cq1, kq1, q1a, q1b, q1c⟩ := isOf hZ e0 E_o0
  obtain ⟨vr1, _, ⟨T1, L1, k1, n1⟩, -, X1, ⟨Lc1, hQ1, l1, y1, z1⟩, st1⟩ := X0.virtualBack hx (y := (⟨"java/util/ArrayDeque", "peekFirst", "()Ljava/lang/Object;"⟩ : MethodName)) (z := (⟨"java/util/ArrayDeque", "peekFirst", "()Ljava/lang/Object;"⟩ : MethodName)) hown (mvT hZ (hw _ (List.mem_of_getElem? (i := 59) rfl))) (mvT hZ (hw _ (List.mem_of_getElem? (i := 60) rfl))) (notFace_of_selects (args := #[]) (mvT hZ (hw _ (List.mem_of_getElem? (i := 62) rfl)))) (mvT hZ (hw _ (List.mem_of_getElem? (i := 62) rfl))) (mvT hZ (hw _ (List.mem_of_getElem? (i := 61) rfl))) (by decide) (backOf (W := 0) (rmpf0 l Z a0 hw [] o0 w2_els w9_hd u21_e u22_e u23_e u24_e u25_e u26_e u27_e u28_e u29_e u30_e u31_e u32_e u33_e u34_e u35_e u36_e kA h0 n0 Z0 E_o0 F_elements_o0 F_head_o0 V_w2_els) hZ (hw _ (List.mem_of_getElem? (i := 63) rfl)) (hw _ (List.mem_of_getElem? (i := 11) rfl)) (by decide) (by decide)) q1a q1c (g := (mkF m 1 #[.val (.ref o0)] [(.ref o0)])) rfl (by rw [hml]; rfl) (Steps.refl _) (argsL := []) (rest := []) (lenOf pd___Ljava_lang_Object_ rfl) rfl (by show 2 * 0 + _ ≤ _; exact Nat.le_of_eq rfl) (hb hby d8_1) (fun _ _ => ⟨rfl, e0, (by decide : 0 + 0 ≤ _), (by decide : 0 + 0 ≤ _)⟩)
  dsimp only [Pt.U, Pt.locs, Pt.cells, Pt.slots] at X1 l1 y1 z1 st1 hQ1
  subst l1 y1 z1
  have N1q := (show _ ∧ _ ∧ _ from hQ1).1
  have hv1 := (show _ ∧ _ ∧ _ from hQ1).2.1
  have e1 := (show _ ∧ _ ∧ _ from hQ1).2.2
  clear hQ1
  subst hv1
  have N1 := Fr.app N0 N1q
  obtain ⟨fs, hr, hrun, hended, hW, hsame⟩ := X1.leave (v := some (.ref w9_hd)) (fun h => by rw [Bd.returns] at h; cases h) hlk
  refine ⟨_, _, pre0 _ ?_, hrun, hended, _, _, rfl, ?_, ⟨_, rfl⟩, hW, hsame.mono (by decide) (by decide)⟩
  · skip
    show Steps p.tables e below (s₁.setTop (mkF m 0 #[.val (.ref o0)] [])) _
    refine XS.aloadN X0.here hx rfl (hb hby d8_0) rfl rfl ?_
    show Steps p.tables e below (s₁.setTop (mkF m 1 #[.val (.ref o0)] [(.ref o0)])) _
    refine st1.trans ?_
    show Steps p.tables e below (T1.setTop (mkF m 4 #[.val (.ref o0)] [(.ref w9_hd)])) _
    exact X1.areturnOut hx rfl Bd.returns rfl (hb hby d8_4) hr
  · skip
    show Qpk0 Z o0 w2_els w9_hd u21_e u22_e u23_e u24_e u25_e u26_e u27_e u28_e u29_e u30_e u31_e u32_e u33_e u34_e u35_e u36_e kA h0 n0 _ T1.heap _
    rw [e1]
    exact ⟨N1, rfl, rfl⟩
theorem d7_0 : decode prog_41_method_5_code 0 = .ok (.aload_n 0, 1) := by decide +kernel
theorem d7_1 : decode prog_41_method_5_code 1 = .ok (.getfield 10, 3) := by decide +kernel
theorem d7_4 : decode prog_41_method_5_code 4 = .ok (.invokeinterface 30 1, 5) := by decide +kernel
theorem d7_9 : decode prog_41_method_5_code 9 = .ok (.checkcast 34, 3) := by decide +kernel
theorem d7_12 : decode prog_41_method_5_code 12 = .ok (.areturn, 1) := by decide +kernel
theorem ef_qp0 (m : MethodId) (o0 : Addr) : entryFrame m #[(.ref o0)] 1 = mkF m 0 #[.val (.ref o0)] [] := by first | (simp [entryFrame, mkF, argsToLocals, Value.category]; done) | rfl
def Qqp0 (Z : State) (o0 : Addr) (w1_dq : Addr) (w2_els : Addr) (w9_hd : Addr) (u21_e : Value) (u22_e : Value) (u23_e : Value) (u24_e : Value) (u25_e : Value) (u26_e : Value) (u27_e : Value) (u28_e : Value) (u29_e : Value) (u30_e : Value) (u31_e : Value) (u32_e : Value) (u33_e : Value) (u34_e : Value) (u35_e : Value) (u36_e : Value) (kA : ClassId) (h0 : Heap) (n0 : Nat) (v : Option Value) (h : Heap) (L : List Loc) : Prop := Fr n0 L ∧ v = some (.ref w9_hd) ∧ h = h0
set_option maxRecDepth 65536 in
set_option maxHeartbeats 40000000 in
theorem rmqp0 (l : Launch) (Z : State) (a0 : Array Value) (hw : ∀ d ∈ tables_1, d.before a0 Z = true) (ws : List Jvm.Cond) (o0 : Addr) (w1_dq : Addr) (w2_els : Addr) (w9_hd : Addr) (u21_e : Value) (u22_e : Value) (u23_e : Value) (u24_e : Value) (u25_e : Value) (u26_e : Value) (u27_e : Value) (u28_e : Value) (u29_e : Value) (u30_e : Value) (u31_e : Value) (u32_e : Value) (u33_e : Value) (u34_e : Value) (u35_e : Value) (u36_e : Value) (kA : ClassId) (h0 : Heap) (n0 : Nat) (Z0 : n0 ≤ h0.size) (F_events_o0 : Fld Z h0 o0 "com/example/dispatch_by_catalog/dispatchbycatalog/subscriptions/EventQueue" "events" "Ljava/util/Deque;" (.ref w1_dq)) (E_w1_dq : Exa Z h0 w1_dq "java/util/ArrayDeque") (F_elements_w1_dq : Fld Z h0 w1_dq "java/util/ArrayDeque" "elements" "[Ljava/lang/Object;" (.ref w2_els)) (F_head_w1_dq : Fld Z h0 w1_dq "java/util/ArrayDeque" "head" "I" (.int (0 : Int32))) (V_w2_els : Arv Z h0 w2_els kA (.object "java/lang/Object") (17 : Int32) [(.ref w9_hd), u21_e, u22_e, u23_e, u24_e, u25_e, u26_e, u27_e, u28_e, u29_e, u30_e, u31_e, u32_e, u33_e, u34_e, u35_e, u36_e] .null) (E_w9_hd : Exa Z h0 w9_hd "com/example/dispatch_by_catalog/dispatchbycatalog/subscriptions/DroppedEvents") :
    MetFree l (⟨"com/example/dispatch_by_catalog/dispatchbycatalog/subscriptions/EventQueue", "peek", "()Lcom/example/dispatch_by_catalog/dispatchbycatalog/subscriptions/Event;"⟩ : MethodName) (head1 (Jvm.Cond.code (⟨"com/example/dispatch_by_catalog/dispatchbycatalog/subscriptions/EventQueue", "peek", "()Lcom/example/dispatch_by_catalog/dispatchbycatalog/subscriptions/Event;"⟩ : MethodName) prog_41_method_5_code 1 (some (.object "com/example/dispatch_by_catalog/dispatchbycatalog/subscriptions/Event")) :: ws) ({ frames := 3, cells := 0, slots := 0, locals := 37 } : Room)) (fun a U => a = #[(.ref o0)] ∧ Z.Warmed39 U.vm ∧ U.heap = h0) (fun _ _ _ _ _ => True) (fun _ U o U' => ∃ v L, o = .returned v ∧ Qqp0 Z o0 w1_dq w2_els w9_hd u21_e u22_e u23_e u24_e u25_e u26_e u27_e u28_e u29_e u30_e u31_e u32_e u33_e u34_e u35_e u36_e kA h0 n0 v U'.heap L ∧ FrameEnd U o U' L ({ frames := 3, cells := 0, slots := 0, locals := 37 } : Room).cells ({ frames := 3, cells := 0, slots := 0, locals := 37 } : Room).slots) := by
  refine MetFree.of_bodySF (plainFor_of_name pn_com_example_dispatch_by_catalog_dispatchbycatalog_subscriptions_EventQueue) hisR ?_
  intro p e s m args below meth c s₁ Bd hml0 hP hK
  obtain ⟨rfl, hZ, hh⟩ := hP
  have hx := Bd.exec
  have hby := Bd.bytes
  have hml : c.maxLocals = 1 := hml0
  have hown : s.vm.findClass "com/example/dispatch_by_catalog/dispatchbycatalog/subscriptions/EventQueue" = some m.cls := findClass_of_methodNamed Bd.named
  have hnm := (name_of_methodNamed Bd.named Bd.method).1
  have hlk := BodyLoose.notSynchronized Bd
  have X0 : Stand p l e ({ frames := 3, cells := 0, slots := 0, locals := 37 } : Room) s m #[(.ref o0)] below meth c s₁ [] 0 0 := Stand.of_body Bd
  have e0 : s₁.heap = h0 := by rw [← hh, Bd.state]; rfl
  have N0 := Fr.nil n0
  have pre0 : ∀ t, Steps p.tables e below (s₁.setTop (mkF m 0 #[.val (.ref o0)] [])) t → Steps p.tables e below (s₁.setTop (entryFrame m #[(.ref o0)] 1)) t := fun t k => castTop (ef_qp0 m o0) k
  obtain ⟨T1, X1, e1, st1⟩ := getF X0 hx hZ hown (host := "") (Or.inl (hw _ (List.mem_of_getElem? (i := 26) rfl))) Via.refl e0 F_events_o0 (g := (mkF m 1 #[.val (.ref o0)] [(.ref o0)])) rfl rfl (hb hby d7_1)
  obtain ⟨cq2, kq2, q2a, q2b, q2c⟩ := isOf hZ e1 E_w1_dq
  obtain ⟨vr2, _, ⟨T2, L2, k2, n2⟩, -, X2, ⟨Lc2, hQ2, l2, y2, z2⟩, st2⟩ := X1.interfaceBack hx (xi := (⟨"java/util/Deque", "peek", "()Ljava/lang/Object;"⟩ : MethodName)) (y := (⟨"java/util/ArrayDeque", "peek", "()Ljava/lang/Object;"⟩ : MethodName)) hown (mvT hZ (hw _ (List.mem_of_getElem? (i := 50) rfl))) (mvT hZ (hw _ (List.mem_of_getElem? (i := 51) rfl))) (mvT hZ (hw _ (List.mem_of_getElem? (i := 52) rfl))) (mvT hZ (hw _ (List.mem_of_getElem? (i := 53) rfl))) (mvT hZ (hw _ (List.mem_of_getElem? (i := 54) rfl))) (mvT hZ (hw _ (List.mem_of_getElem? (i := 55) rfl))) (mvT hZ (hw _ (List.mem_of_getElem? (i := 56) rfl))) (mvT hZ (hw _ (List.mem_of_getElem? (i := 57) rfl))) (by decide) (backOf (W := 0) (rmpk0 l Z a0 hw [] w1_dq w2_els w9_hd u21_e u22_e u23_e u24_e u25_e u26_e u27_e u28_e u29_e u30_e u31_e u32_e u33_e u34_e u35_e u36_e kA h0 n0 Z0 E_w1_dq F_elements_w1_dq F_head_w1_dq V_w2_els) hZ (hw _ (List.mem_of_getElem? (i := 58) rfl)) (hw _ (List.mem_of_getElem? (i := 11) rfl)) (by decide) (by decide)) q2a q2b q2c (g := (mkF m 4 #[.val (.ref o0)] [(.ref w1_dq)])) rfl (by rw [hml]; rfl) (Steps.refl _) (argsL := []) (rest := []) (lenOf pd___Ljava_lang_Object_ rfl) rfl (by show 2 * 0 + _ ≤ _; exact Nat.le_of_eq rfl) (hb hby d7_4) (fun _ _ => ⟨rfl, e1, (by decide : 0 + 0 ≤ _), (by decide : 0 + 0 ≤ _)⟩)
  dsimp only [Pt.U, Pt.locs, Pt.cells, Pt.slots] at X2 l2 y2 z2 st2 hQ2
  subst l2 y2 z2
  have N2q := (show _ ∧ _ ∧ _ from hQ2).1
  have hv2 := (show _ ∧ _ ∧ _ from hQ2).2.1
  have e2 := (show _ ∧ _ ∧ _ from hQ2).2.2
  clear hQ2
  subst hv2
  have N2 := Fr.app N0 N2q
  obtain ⟨T3, X3, e3, st3⟩ := castY X2 hx hZ hown (hw _ (List.mem_of_getElem? (i := 99) rfl)) e2 (Ins.of_exa E_w9_hd (hw _ (List.mem_of_getElem? (i := 97) rfl))) (g := (mkF m 9 #[.val (.ref o0)] [(.ref w9_hd)])) rfl rfl (hb hby d7_9)
  obtain ⟨fs, hr, hrun, hended, hW, hsame⟩ := X3.leave (v := some (.ref w9_hd)) (fun h => by rw [Bd.returns] at h; cases h) hlk
  refine ⟨_, _, pre0 _ ?_, hrun, hended, _, _, rfl, ?_, ⟨_, rfl⟩, hW, hsame.mono (by decide) (by decide)⟩
  · skip
    show Steps p.tables e below (s₁.setTop (mkF m 0 #[.val (.ref o0)] [])) _
    refine XS.aloadN X0.here hx rfl (hb hby d7_0) rfl rfl ?_
    show Steps p.tables e below (s₁.setTop (mkF m 1 #[.val (.ref o0)] [(.ref o0)])) _
    refine st1 _ ?_
    show Steps p.tables e below (T1.setTop (mkF m 4 #[.val (.ref o0)] [(.ref w1_dq)])) _
    refine st2.trans ?_
    show Steps p.tables e below (T2.setTop (mkF m 9 #[.val (.ref o0)] [(.ref w9_hd)])) _
    refine st3 _ ?_
    show Steps p.tables e below (T3.setTop (mkF m 12 #[.val (.ref o0)] [(.ref w9_hd)])) _
    exact X3.areturnOut hx rfl Bd.returns rfl (hb hby d7_12) hr
  · skip
    show Qqp0 Z o0 w1_dq w2_els w9_hd u21_e u22_e u23_e u24_e u25_e u26_e u27_e u28_e u29_e u30_e u31_e u32_e u33_e u34_e u35_e u36_e kA h0 n0 _ T3.heap _
    rw [e3]
    exact ⟨N2, rfl, rfl⟩
theorem ef_ea1 (m : MethodId) (o0 : Addr) : entryFrame m #[(.ref o0), (.int (1 : Int32))] 2 = mkF m 0 #[.val (.ref o0), .val (.int (1 : Int32))] [] := by first | (simp [entryFrame, mkF, argsToLocals, Value.category]; done) | rfl
def Qea1 (Z : State) (o0 : Addr) (u20_e : Value) (w9_hd : Addr) (u22_e : Value) (u23_e : Value) (u24_e : Value) (u25_e : Value) (u26_e : Value) (u27_e : Value) (u28_e : Value) (u29_e : Value) (u30_e : Value) (u31_e : Value) (u32_e : Value) (u33_e : Value) (u34_e : Value) (u35_e : Value) (u36_e : Value) (kA : ClassId) (h0 : Heap) (n0 : Nat) (v : Option Value) (h : Heap) (L : List Loc) : Prop := Fr n0 L ∧ v = some (.ref w9_hd) ∧ h = h0
set_option maxRecDepth 65536 in
set_option maxHeartbeats 40000000 in
theorem rmea1 (l : Launch) (Z : State) (a0 : Array Value) (hw : ∀ d ∈ tables_1, d.before a0 Z = true) (ws : List Jvm.Cond) (o0 : Addr) (u20_e : Value) (w9_hd : Addr) (u22_e : Value) (u23_e : Value) (u24_e : Value) (u25_e : Value) (u26_e : Value) (u27_e : Value) (u28_e : Value) (u29_e : Value) (u30_e : Value) (u31_e : Value) (u32_e : Value) (u33_e : Value) (u34_e : Value) (u35_e : Value) (u36_e : Value) (kA : ClassId) (h0 : Heap) (n0 : Nat) (Z0 : n0 ≤ h0.size) (V_o0 : Arv Z h0 o0 kA (.object "java/lang/Object") (17 : Int32) [u20_e, (.ref w9_hd), u22_e, u23_e, u24_e, u25_e, u26_e, u27_e, u28_e, u29_e, u30_e, u31_e, u32_e, u33_e, u34_e, u35_e, u36_e] .null) :
    MetFree l (⟨"java/util/ArrayDeque", "elementAt", "([Ljava/lang/Object;I)Ljava/lang/Object;"⟩ : MethodName) (head1 (Jvm.Cond.code (⟨"java/util/ArrayDeque", "elementAt", "([Ljava/lang/Object;I)Ljava/lang/Object;"⟩ : MethodName) jdk_21_method_10_code 2 (some (.object "java/lang/Object")) :: ws) ({ frames := 0, cells := 0, slots := 0, locals := 0 } : Room)) (fun a U => a = #[(.ref o0), (.int (1 : Int32))] ∧ Z.Warmed39 U.vm ∧ U.heap = h0) (fun _ _ _ _ _ => True) (fun _ U o U' => ∃ v L, o = .returned v ∧ Qea1 Z o0 u20_e w9_hd u22_e u23_e u24_e u25_e u26_e u27_e u28_e u29_e u30_e u31_e u32_e u33_e u34_e u35_e u36_e kA h0 n0 v U'.heap L ∧ FrameEnd U o U' L ({ frames := 0, cells := 0, slots := 0, locals := 0 } : Room).cells ({ frames := 0, cells := 0, slots := 0, locals := 0 } : Room).slots) := by
  refine MetFree.of_bodySF (plainFor_of_name pn_java_util_ArrayDeque) hisR ?_
  intro p e s m args below meth c s₁ Bd hml0 hP hK
  obtain ⟨rfl, hZ, hh⟩ := hP
  have hx := Bd.exec
  have hby := Bd.bytes
  have hml : c.maxLocals = 2 := hml0
  have hown : s.vm.findClass "java/util/ArrayDeque" = some m.cls := findClass_of_methodNamed Bd.named
  have hnm := (name_of_methodNamed Bd.named Bd.method).1
  have hlk := BodyLoose.notSynchronized Bd
  have X0 : Stand p l e ({ frames := 0, cells := 0, slots := 0, locals := 0 } : Room) s m #[(.ref o0), (.int (1 : Int32))] below meth c s₁ [] 0 0 := Stand.of_body Bd
  have e0 : s₁.heap = h0 := by rw [← hh, Bd.state]; rfl
  have N0 := Fr.nil n0
  have pre0 : ∀ t, Steps p.tables e below (s₁.setTop (mkF m 0 #[.val (.ref o0), .val (.int (1 : Int32))] [])) t → Steps p.tables e below (s₁.setTop (entryFrame m #[(.ref o0), (.int (1 : Int32))] 2)) t := fun t k => castTop (ef_ea1 m o0) k
  obtain ⟨cl1, Ar1, qc1, S1, M1, Ha1, G1⟩ := id V_o0
  have hin2 : ¬ ((1 : Int32) < 0 ∨ cl1.slots.size ≤ ((1 : Int32)).toNatClampNeg) := inb_of S1 ⟨by decide, by decide⟩
  obtain ⟨fs, hr, hrun, hended, hW, hsame⟩ := X0.leave (v := some (.ref w9_hd)) (fun h => by rw [Bd.returns] at h; cases h) hlk
  refine ⟨_, _, pre0 _ ?_, hrun, hended, _, _, rfl, ?_, ⟨_, rfl⟩, hW, hsame.mono (by decide) (by decide)⟩
  · skip
    show Steps p.tables e below (s₁.setTop (mkF m 0 #[.val (.ref o0), .val (.int (1 : Int32))] [])) _
    refine XS.aloadN X0.here hx rfl (hb hby d10_0) rfl rfl ?_
    show Steps p.tables e below (s₁.setTop (mkF m 1 #[.val (.ref o0), .val (.int (1 : Int32))] [(.ref o0)])) _
    refine XS.iloadN X0.here hx rfl (hb hby d10_1) rfl ?_
    show Steps p.tables e below (s₁.setTop (mkF m 2 #[.val (.ref o0), .val (.int (1 : Int32))] [(.int (1 : Int32)), (.ref o0)])) _
    refine X0.aaload hx (j := (1 : Int32)) (v := (.ref w9_hd)) (by rw [e0]; exact Ar1.1) (State.isArrayOf_alike hZ.alike Ar1.2.1) rfl Ar1.2.2 hin2 (Has.at Ha1 hin2 rfl) (g := (mkF m 2 #[.val (.ref o0), .val (.int (1 : Int32))] [(.int (1 : Int32)), (.ref o0)])) rfl rfl (hb hby d10_2) _ ?_
    show Steps p.tables e below (s₁.setTop (mkF m 3 #[.val (.ref o0), .val (.int (1 : Int32))] [(.ref w9_hd)])) _
    exact X0.areturnOut hx rfl Bd.returns rfl (hb hby d10_3) hr
  · skip
    show Qea1 Z o0 u20_e w9_hd u22_e u23_e u24_e u25_e u26_e u27_e u28_e u29_e u30_e u31_e u32_e u33_e u34_e u35_e u36_e kA h0 n0 _ s₁.heap _
    rw [e0]
    exact ⟨N0, rfl, rfl⟩
theorem ef_pf1 (m : MethodId) (o0 : Addr) : entryFrame m #[(.ref o0)] 1 = mkF m 0 #[.val (.ref o0)] [] := by first | (simp [entryFrame, mkF, argsToLocals, Value.category]; done) | rfl
def Qpf1 (Z : State) (o0 : Addr) (w2_els : Addr) (u20_e : Value) (w9_hd : Addr) (u22_e : Value) (u23_e : Value) (u24_e : Value) (u25_e : Value) (u26_e : Value) (u27_e : Value) (u28_e : Value) (u29_e : Value) (u30_e : Value) (u31_e : Value) (u32_e : Value) (u33_e : Value) (u34_e : Value) (u35_e : Value) (u36_e : Value) (kA : ClassId) (h0 : Heap) (n0 : Nat) (v : Option Value) (h : Heap) (L : List Loc) : Prop := Fr n0 L ∧ v = some (.ref w9_hd) ∧ h = h0
set_option maxRecDepth 65536 in
set_option maxHeartbeats 40000000 in
theorem rmpf1 (l : Launch) (Z : State) (a0 : Array Value) (hw : ∀ d ∈ tables_1, d.before a0 Z = true) (ws : List Jvm.Cond) (o0 : Addr) (w2_els : Addr) (u20_e : Value) (w9_hd : Addr) (u22_e : Value) (u23_e : Value) (u24_e : Value) (u25_e : Value) (u26_e : Value) (u27_e : Value) (u28_e : Value) (u29_e : Value) (u30_e : Value) (u31_e : Value) (u32_e : Value) (u33_e : Value) (u34_e : Value) (u35_e : Value) (u36_e : Value) (kA : ClassId) (h0 : Heap) (n0 : Nat) (Z0 : n0 ≤ h0.size) (E_o0 : Exa Z h0 o0 "java/util/ArrayDeque") (F_elements_o0 : Fld Z h0 o0 "java/util/ArrayDeque" "elements" "[Ljava/lang/Object;" (.ref w2_els)) (F_head_o0 : Fld Z h0 o0 "java/util/ArrayDeque" "head" "I" (.int (1 : Int32))) (V_w2_els : Arv Z h0 w2_els kA (.object "java/lang/Object") (17 : Int32) [u20_e, (.ref w9_hd), u22_e, u23_e, u24_e, u25_e, u26_e, u27_e, u28_e, u29_e, u30_e, u31_e, u32_e, u33_e, u34_e, u35_e, u36_e] .null) :
    MetFree l (⟨"java/util/ArrayDeque", "peekFirst", "()Ljava/lang/Object;"⟩ : MethodName) (head1 (Jvm.Cond.code (⟨"java/util/ArrayDeque", "peekFirst", "()Ljava/lang/Object;"⟩ : MethodName) jdk_21_method_24_code 1 (some (.object "java/lang/Object")) :: ws) ({ frames := 1, cells := 0, slots := 0, locals := 13 } : Room)) (fun a U => a = #[(.ref o0)] ∧ Z.Warmed39 U.vm ∧ U.heap = h0) (fun _ _ _ _ _ => True) (fun _ U o U' => ∃ v L, o = .returned v ∧ Qpf1 Z o0 w2_els u20_e w9_hd u22_e u23_e u24_e u25_e u26_e u27_e u28_e u29_e u30_e u31_e u32_e u33_e u34_e u35_e u36_e kA h0 n0 v U'.heap L ∧ FrameEnd U o U' L ({ frames := 1, cells := 0, slots := 0, locals := 13 } : Room).cells ({ frames := 1, cells := 0, slots := 0, locals := 13 } : Room).slots) := by
  refine MetFree.of_bodySF (plainFor_of_name pn_java_util_ArrayDeque) hisR ?_
  intro p e s m args below meth c s₁ Bd hml0 hP hK
  obtain ⟨rfl, hZ, hh⟩ := hP
  have hx := Bd.exec
  have hby := Bd.bytes
  have hml : c.maxLocals = 1 := hml0
  have hown : s.vm.findClass "java/util/ArrayDeque" = some m.cls := findClass_of_methodNamed Bd.named
  have hnm := (name_of_methodNamed Bd.named Bd.method).1
  have hlk := BodyLoose.notSynchronized Bd
  have X0 : Stand p l e ({ frames := 1, cells := 0, slots := 0, locals := 13 } : Room) s m #[(.ref o0)] below meth c s₁ [] 0 0 := Stand.of_body Bd
  have e0 : s₁.heap = h0 := by rw [← hh, Bd.state]; rfl
  have N0 := Fr.nil n0
  have pre0 : ∀ t, Steps p.tables e below (s₁.setTop (mkF m 0 #[.val (.ref o0)] [])) t → Steps p.tables e below (s₁.setTop (entryFrame m #[(.ref o0)] 1)) t := fun t k => castTop (ef_pf1 m o0) k
  obtain ⟨T1, X1, e1, st1⟩ := getF X0 hx hZ hown (host := "") (Or.inl (hw _ (List.mem_of_getElem? (i := 24) rfl))) Via.refl e0 F_elements_o0 (g := (mkF m 1 #[.val (.ref o0)] [(.ref o0)])) rfl rfl (hb hby d9_1)
  obtain ⟨T2, X2, e2, st2⟩ := getF X1 hx hZ hown (host := "") (Or.inl (hw _ (List.mem_of_getElem? (i := 64) rfl))) Via.refl e1 F_head_o0 (g := (mkF m 5 #[.val (.ref o0)] [(.ref o0), (.ref w2_els)])) rfl rfl (hb hby d9_5)
  obtain ⟨vr3, _, ⟨T3, L3, k3, n3⟩, -, X3, ⟨Lc3, hQ3, l3, y3, z3⟩, st3⟩ := Jvm.LawKit.callS X2 hx (y := (⟨"java/util/ArrayDeque", "elementAt", "([Ljava/lang/Object;I)Ljava/lang/Object;"⟩ : MethodName)) hown (mvT hZ (hw _ (List.mem_of_getElem? (i := 66) rfl))) (mvT hZ (hw _ (List.mem_of_getElem? (i := 67) rfl))) (mvT hZ (hw _ (List.mem_of_getElem? (i := 11) rfl))) (mvT hZ (hw _ (List.mem_of_getElem? (i := 68) rfl))) (by decide) (backOf (W := 0) (rmea1 l Z a0 hw [] w2_els u20_e w9_hd u22_e u23_e u24_e u25_e u26_e u27_e u28_e u29_e u30_e u31_e u32_e u33_e u34_e u35_e u36_e kA h0 n0 Z0 V_w2_els) hZ (hw _ (List.mem_of_getElem? (i := 68) rfl)) (hw _ (List.mem_of_getElem? (i := 11) rfl)) (by decide) (by decide)) (g := (mkF m 8 #[.val (.ref o0)] [(.int (1 : Int32)), (.ref w2_els)])) rfl (by rw [hml]; rfl) (argsL := [(.ref w2_els), (.int (1 : Int32))]) (rest := []) (lenOf pd___Ljava_lang_Object_I_Ljava_lang_Object_ rfl) rfl (by show 2 * 0 + _ ≤ _; exact Nat.le_of_eq rfl) (hb hby d9_8) (fun _ _ => ⟨rfl, e2, (by decide : 0 + 0 ≤ _), (by decide : 0 + 0 ≤ _)⟩)
  dsimp only [Pt.U, Pt.locs, Pt.cells, Pt.slots] at X3 l3 y3 z3 st3 hQ3
  subst l3 y3 z3
  have N3q := (show _ ∧ _ ∧ _ from hQ3).1
  have hv3 := (show _ ∧ _ ∧ _ from hQ3).2.1
  have e3 := (show _ ∧ _ ∧ _ from hQ3).2.2
  clear hQ3
  subst hv3
  have N3 := Fr.app N0 N3q
  obtain ⟨fs, hr, hrun, hended, hW, hsame⟩ := X3.leave (v := some (.ref w9_hd)) (fun h => by rw [Bd.returns] at h; cases h) hlk
  refine ⟨_, _, pre0 _ ?_, hrun, hended, _, _, rfl, ?_, ⟨_, rfl⟩, hW, hsame.mono (by decide) (by decide)⟩
  · skip
    show Steps p.tables e below (s₁.setTop (mkF m 0 #[.val (.ref o0)] [])) _
    refine XS.aloadN X0.here hx rfl (hb hby d9_0) rfl rfl ?_
    show Steps p.tables e below (s₁.setTop (mkF m 1 #[.val (.ref o0)] [(.ref o0)])) _
    refine st1 _ ?_
    show Steps p.tables e below (T1.setTop (mkF m 4 #[.val (.ref o0)] [(.ref w2_els)])) _
    refine XS.aloadN X1.here hx rfl (hb hby d9_4) rfl rfl ?_
    show Steps p.tables e below (T1.setTop (mkF m 5 #[.val (.ref o0)] [(.ref o0), (.ref w2_els)])) _
    refine st2 _ ?_
    show Steps p.tables e below (T2.setTop (mkF m 8 #[.val (.ref o0)] [(.int (1 : Int32)), (.ref w2_els)])) _
    refine st3 _ ?_
    show Steps p.tables e below (T3.setTop (mkF m 11 #[.val (.ref o0)] [(.ref w9_hd)])) _
    exact X3.areturnOut hx rfl Bd.returns rfl (hb hby d9_11) hr
  · skip
    show Qpf1 Z o0 w2_els u20_e w9_hd u22_e u23_e u24_e u25_e u26_e u27_e u28_e u29_e u30_e u31_e u32_e u33_e u34_e u35_e u36_e kA h0 n0 _ T3.heap _
    rw [e3]
    exact ⟨N3, rfl, rfl⟩
theorem ef_pk1 (m : MethodId) (o0 : Addr) : entryFrame m #[(.ref o0)] 1 = mkF m 0 #[.val (.ref o0)] [] := by first | (simp [entryFrame, mkF, argsToLocals, Value.category]; done) | rfl
def Qpk1 (Z : State) (o0 : Addr) (w2_els : Addr) (u20_e : Value) (w9_hd : Addr) (u22_e : Value) (u23_e : Value) (u24_e : Value) (u25_e : Value) (u26_e : Value) (u27_e : Value) (u28_e : Value) (u29_e : Value) (u30_e : Value) (u31_e : Value) (u32_e : Value) (u33_e : Value) (u34_e : Value) (u35_e : Value) (u36_e : Value) (kA : ClassId) (h0 : Heap) (n0 : Nat) (v : Option Value) (h : Heap) (L : List Loc) : Prop := Fr n0 L ∧ v = some (.ref w9_hd) ∧ h = h0
set_option maxRecDepth 65536 in
set_option maxHeartbeats 40000000 in
theorem rmpk1 (l : Launch) (Z : State) (a0 : Array Value) (hw : ∀ d ∈ tables_1, d.before a0 Z = true) (ws : List Jvm.Cond) (o0 : Addr) (w2_els : Addr) (u20_e : Value) (w9_hd : Addr) (u22_e : Value) (u23_e : Value) (u24_e : Value) (u25_e : Value) (u26_e : Value) (u27_e : Value) (u28_e : Value) (u29_e : Value) (u30_e : Value) (u31_e : Value) (u32_e : Value) (u33_e : Value) (u34_e : Value) (u35_e : Value) (u36_e : Value) (kA : ClassId) (h0 : Heap) (n0 : Nat) (Z0 : n0 ≤ h0.size) (E_o0 : Exa Z h0 o0 "java/util/ArrayDeque") (F_elements_o0 : Fld Z h0 o0 "java/util/ArrayDeque" "elements" "[Ljava/lang/Object;" (.ref w2_els)) (F_head_o0 : Fld Z h0 o0 "java/util/ArrayDeque" "head" "I" (.int (1 : Int32))) (V_w2_els : Arv Z h0 w2_els kA (.object "java/lang/Object") (17 : Int32) [u20_e, (.ref w9_hd), u22_e, u23_e, u24_e, u25_e, u26_e, u27_e, u28_e, u29_e, u30_e, u31_e, u32_e, u33_e, u34_e, u35_e, u36_e] .null) :
    MetFree l (⟨"java/util/ArrayDeque", "peek", "()Ljava/lang/Object;"⟩ : MethodName) (head1 (Jvm.Cond.code (⟨"java/util/ArrayDeque", "peek", "()Ljava/lang/Object;"⟩ : MethodName) jdk_21_method_33_code 1 (some (.object "java/lang/Object")) :: ws) ({ frames := 2, cells := 0, slots := 0, locals := 25 } : Room)) (fun a U => a = #[(.ref o0)] ∧ Z.Warmed39 U.vm ∧ U.heap = h0) (fun _ _ _ _ _ => True) (fun _ U o U' => ∃ v L, o = .returned v ∧ Qpk1 Z o0 w2_els u20_e w9_hd u22_e u23_e u24_e u25_e u26_e u27_e u28_e u29_e u30_e u31_e u32_e u33_e u34_e u35_e u36_e kA h0 n0 v U'.heap L ∧ FrameEnd U o U' L ({ frames := 2, cells := 0, slots := 0, locals := 25 } : Room).cells ({ frames := 2, cells := 0, slots := 0, locals := 25 } : Room).slots) := by
  refine MetFree.of_bodySF (plainFor_of_name pn_java_util_ArrayDeque) hisR ?_
  intro p e s m args below meth c s₁ Bd hml0 hP hK
  obtain ⟨rfl, hZ, hh⟩ := hP
  have hx := Bd.exec
  have hby := Bd.bytes
  have hml : c.maxLocals = 1 := hml0
  have hown : s.vm.findClass "java/util/ArrayDeque" = some m.cls := findClass_of_methodNamed Bd.named
  have hnm := (name_of_methodNamed Bd.named Bd.method).1
  have hlk := BodyLoose.notSynchronized Bd
  have X0 : Stand p l e ({ frames := 2, cells := 0, slots := 0, locals := 25 } : Room) s m #[(.ref o0)] below meth c s₁ [] 0 0 := Stand.of_body Bd
  have e0 : s₁.heap = h0 := by rw [← hh, Bd.state]; rfl
  have N0 := Fr.nil n0
  have pre0 : ∀ t, Steps p.tables e below (s₁.setTop (mkF m 0 #[.val (.ref o0)] [])) t → Steps p.tables e below (s₁.setTop (entryFrame m #[(.ref o0)] 1)) t := fun t k => castTop (ef_pk1 m o0) k
  obtain ⟨cq1, kq1, q1a, q1b, q1c⟩ := isOf hZ e0 E_o0
  obtain ⟨vr1, _, ⟨T1, L1, k1, n1⟩, -, X1, ⟨Lc1, hQ1, l1, y1, z1⟩, st1⟩ := X0.virtualBack hx (y := (⟨"java/util/ArrayDeque", "peekFirst", "()Ljava/lang/Object;"⟩ : MethodName)) (z := (⟨"java/util/ArrayDeque", "peekFirst", "()Ljava/lang/Object;"⟩ : MethodName)) hown (mvT hZ (hw _ (List.mem_of_getElem? (i := 59) rfl))) (mvT hZ (hw _ (List.mem_of_getElem? (i := 60) rfl))) (notFace_of_selects (args := #[]) (mvT hZ (hw _ (List.mem_of_getElem? (i := 62) rfl)))) (mvT hZ (hw _ (List.mem_of_getElem? (i := 62) rfl))) (mvT hZ (hw _ (List.mem_of_getElem? (i := 61) rfl))) (by decide) (backOf (W := 0) (rmpf1 l Z a0 hw [] o0 w2_els u20_e w9_hd u22_e u23_e u24_e u25_e u26_e u27_e u28_e u29_e u30_e u31_e u32_e u33_e u34_e u35_e u36_e kA h0 n0 Z0 E_o0 F_elements_o0 F_head_o0 V_w2_els) hZ (hw _ (List.mem_of_getElem? (i := 63) rfl)) (hw _ (List.mem_of_getElem? (i := 11) rfl)) (by decide) (by decide)) q1a q1c (g := (mkF m 1 #[.val (.ref o0)] [(.ref o0)])) rfl (by rw [hml]; rfl) (Steps.refl _) (argsL := []) (rest := []) (lenOf pd___Ljava_lang_Object_ rfl) rfl (by show 2 * 0 + _ ≤ _; exact Nat.le_of_eq rfl) (hb hby d8_1) (fun _ _ => ⟨rfl, e0, (by decide : 0 + 0 ≤ _), (by decide : 0 + 0 ≤ _)⟩)
  dsimp only [Pt.U, Pt.locs, Pt.cells, Pt.slots] at X1 l1 y1 z1 st1 hQ1
  subst l1 y1 z1
  have N1q := (show _ ∧ _ ∧ _ from hQ1).1
  have hv1 := (show _ ∧ _ ∧ _ from hQ1).2.1
  have e1 := (show _ ∧ _ ∧ _ from hQ1).2.2
  clear hQ1
  subst hv1
  have N1 := Fr.app N0 N1q
  obtain ⟨fs, hr, hrun, hended, hW, hsame⟩ := X1.leave (v := some (.ref w9_hd)) (fun h => by rw [Bd.returns] at h; cases h) hlk
  refine ⟨_, _, pre0 _ ?_, hrun, hended, _, _, rfl, ?_, ⟨_, rfl⟩, hW, hsame.mono (by decide) (by decide)⟩
  · skip
    show Steps p.tables e below (s₁.setTop (mkF m 0 #[.val (.ref o0)] [])) _
    refine XS.aloadN X0.here hx rfl (hb hby d8_0) rfl rfl ?_
    show Steps p.tables e below (s₁.setTop (mkF m 1 #[.val (.ref o0)] [(.ref o0)])) _
    refine st1.trans ?_
    show Steps p.tables e below (T1.setTop (mkF m 4 #[.val (.ref o0)] [(.ref w9_hd)])) _
    exact X1.areturnOut hx rfl Bd.returns rfl (hb hby d8_4) hr
  · skip
    show Qpk1 Z o0 w2_els u20_e w9_hd u22_e u23_e u24_e u25_e u26_e u27_e u28_e u29_e u30_e u31_e u32_e u33_e u34_e u35_e u36_e kA h0 n0 _ T1.heap _
    rw [e1]
    exact ⟨N1, rfl, rfl⟩
theorem ef_qp1 (m : MethodId) (o0 : Addr) : entryFrame m #[(.ref o0)] 1 = mkF m 0 #[.val (.ref o0)] [] := by first | (simp [entryFrame, mkF, argsToLocals, Value.category]; done) | rfl
def Qqp1 (Z : State) (o0 : Addr) (w1_dq : Addr) (w2_els : Addr) (u20_e : Value) (w9_hd : Addr) (u22_e : Value) (u23_e : Value) (u24_e : Value) (u25_e : Value) (u26_e : Value) (u27_e : Value) (u28_e : Value) (u29_e : Value) (u30_e : Value) (u31_e : Value) (u32_e : Value) (u33_e : Value) (u34_e : Value) (u35_e : Value) (u36_e : Value) (kA : ClassId) (h0 : Heap) (n0 : Nat) (v : Option Value) (h : Heap) (L : List Loc) : Prop := Fr n0 L ∧ v = some (.ref w9_hd) ∧ h = h0
set_option maxRecDepth 65536 in
set_option maxHeartbeats 40000000 in
theorem rmqp1 (l : Launch) (Z : State) (a0 : Array Value) (hw : ∀ d ∈ tables_1, d.before a0 Z = true) (ws : List Jvm.Cond) (o0 : Addr) (w1_dq : Addr) (w2_els : Addr) (u20_e : Value) (w9_hd : Addr) (u22_e : Value) (u23_e : Value) (u24_e : Value) (u25_e : Value) (u26_e : Value) (u27_e : Value) (u28_e : Value) (u29_e : Value) (u30_e : Value) (u31_e : Value) (u32_e : Value) (u33_e : Value) (u34_e : Value) (u35_e : Value) (u36_e : Value) (kA : ClassId) (h0 : Heap) (n0 : Nat) (Z0 : n0 ≤ h0.size) (F_events_o0 : Fld Z h0 o0 "com/example/dispatch_by_catalog/dispatchbycatalog/subscriptions/EventQueue" "events" "Ljava/util/Deque;" (.ref w1_dq)) (E_w1_dq : Exa Z h0 w1_dq "java/util/ArrayDeque") (F_elements_w1_dq : Fld Z h0 w1_dq "java/util/ArrayDeque" "elements" "[Ljava/lang/Object;" (.ref w2_els)) (F_head_w1_dq : Fld Z h0 w1_dq "java/util/ArrayDeque" "head" "I" (.int (1 : Int32))) (V_w2_els : Arv Z h0 w2_els kA (.object "java/lang/Object") (17 : Int32) [u20_e, (.ref w9_hd), u22_e, u23_e, u24_e, u25_e, u26_e, u27_e, u28_e, u29_e, u30_e, u31_e, u32_e, u33_e, u34_e, u35_e, u36_e] .null) (E_w9_hd : Exa Z h0 w9_hd "com/example/dispatch_by_catalog/dispatchbycatalog/subscriptions/DroppedEvents") :
    MetFree l (⟨"com/example/dispatch_by_catalog/dispatchbycatalog/subscriptions/EventQueue", "peek", "()Lcom/example/dispatch_by_catalog/dispatchbycatalog/subscriptions/Event;"⟩ : MethodName) (head1 (Jvm.Cond.code (⟨"com/example/dispatch_by_catalog/dispatchbycatalog/subscriptions/EventQueue", "peek", "()Lcom/example/dispatch_by_catalog/dispatchbycatalog/subscriptions/Event;"⟩ : MethodName) prog_41_method_5_code 1 (some (.object "com/example/dispatch_by_catalog/dispatchbycatalog/subscriptions/Event")) :: ws) ({ frames := 3, cells := 0, slots := 0, locals := 37 } : Room)) (fun a U => a = #[(.ref o0)] ∧ Z.Warmed39 U.vm ∧ U.heap = h0) (fun _ _ _ _ _ => True) (fun _ U o U' => ∃ v L, o = .returned v ∧ Qqp1 Z o0 w1_dq w2_els u20_e w9_hd u22_e u23_e u24_e u25_e u26_e u27_e u28_e u29_e u30_e u31_e u32_e u33_e u34_e u35_e u36_e kA h0 n0 v U'.heap L ∧ FrameEnd U o U' L ({ frames := 3, cells := 0, slots := 0, locals := 37 } : Room).cells ({ frames := 3, cells := 0, slots := 0, locals := 37 } : Room).slots) := by
  refine MetFree.of_bodySF (plainFor_of_name pn_com_example_dispatch_by_catalog_dispatchbycatalog_subscriptions_EventQueue) hisR ?_
  intro p e s m args below meth c s₁ Bd hml0 hP hK
  obtain ⟨rfl, hZ, hh⟩ := hP
  have hx := Bd.exec
  have hby := Bd.bytes
  have hml : c.maxLocals = 1 := hml0
  have hown : s.vm.findClass "com/example/dispatch_by_catalog/dispatchbycatalog/subscriptions/EventQueue" = some m.cls := findClass_of_methodNamed Bd.named
  have hnm := (name_of_methodNamed Bd.named Bd.method).1
  have hlk := BodyLoose.notSynchronized Bd
  have X0 : Stand p l e ({ frames := 3, cells := 0, slots := 0, locals := 37 } : Room) s m #[(.ref o0)] below meth c s₁ [] 0 0 := Stand.of_body Bd
  have e0 : s₁.heap = h0 := by rw [← hh, Bd.state]; rfl
  have N0 := Fr.nil n0
  have pre0 : ∀ t, Steps p.tables e below (s₁.setTop (mkF m 0 #[.val (.ref o0)] [])) t → Steps p.tables e below (s₁.setTop (entryFrame m #[(.ref o0)] 1)) t := fun t k => castTop (ef_qp1 m o0) k
  obtain ⟨T1, X1, e1, st1⟩ := getF X0 hx hZ hown (host := "") (Or.inl (hw _ (List.mem_of_getElem? (i := 26) rfl))) Via.refl e0 F_events_o0 (g := (mkF m 1 #[.val (.ref o0)] [(.ref o0)])) rfl rfl (hb hby d7_1)
  obtain ⟨cq2, kq2, q2a, q2b, q2c⟩ := isOf hZ e1 E_w1_dq
  obtain ⟨vr2, _, ⟨T2, L2, k2, n2⟩, -, X2, ⟨Lc2, hQ2, l2, y2, z2⟩, st2⟩ := X1.interfaceBack hx (xi := (⟨"java/util/Deque", "peek", "()Ljava/lang/Object;"⟩ : MethodName)) (y := (⟨"java/util/ArrayDeque", "peek", "()Ljava/lang/Object;"⟩ : MethodName)) hown (mvT hZ (hw _ (List.mem_of_getElem? (i := 50) rfl))) (mvT hZ (hw _ (List.mem_of_getElem? (i := 51) rfl))) (mvT hZ (hw _ (List.mem_of_getElem? (i := 52) rfl))) (mvT hZ (hw _ (List.mem_of_getElem? (i := 53) rfl))) (mvT hZ (hw _ (List.mem_of_getElem? (i := 54) rfl))) (mvT hZ (hw _ (List.mem_of_getElem? (i := 55) rfl))) (mvT hZ (hw _ (List.mem_of_getElem? (i := 56) rfl))) (mvT hZ (hw _ (List.mem_of_getElem? (i := 57) rfl))) (by decide) (backOf (W := 0) (rmpk1 l Z a0 hw [] w1_dq w2_els u20_e w9_hd u22_e u23_e u24_e u25_e u26_e u27_e u28_e u29_e u30_e u31_e u32_e u33_e u34_e u35_e u36_e kA h0 n0 Z0 E_w1_dq F_elements_w1_dq F_head_w1_dq V_w2_els) hZ (hw _ (List.mem_of_getElem? (i := 58) rfl)) (hw _ (List.mem_of_getElem? (i := 11) rfl)) (by decide) (by decide)) q2a q2b q2c (g := (mkF m 4 #[.val (.ref o0)] [(.ref w1_dq)])) rfl (by rw [hml]; rfl) (Steps.refl _) (argsL := []) (rest := []) (lenOf pd___Ljava_lang_Object_ rfl) rfl (by show 2 * 0 + _ ≤ _; exact Nat.le_of_eq rfl) (hb hby d7_4) (fun _ _ => ⟨rfl, e1, (by decide : 0 + 0 ≤ _), (by decide : 0 + 0 ≤ _)⟩)
  dsimp only [Pt.U, Pt.locs, Pt.cells, Pt.slots] at X2 l2 y2 z2 st2 hQ2
  subst l2 y2 z2
  have N2q := (show _ ∧ _ ∧ _ from hQ2).1
  have hv2 := (show _ ∧ _ ∧ _ from hQ2).2.1
  have e2 := (show _ ∧ _ ∧ _ from hQ2).2.2
  clear hQ2
  subst hv2
  have N2 := Fr.app N0 N2q
  obtain ⟨T3, X3, e3, st3⟩ := castY X2 hx hZ hown (hw _ (List.mem_of_getElem? (i := 99) rfl)) e2 (Ins.of_exa E_w9_hd (hw _ (List.mem_of_getElem? (i := 97) rfl))) (g := (mkF m 9 #[.val (.ref o0)] [(.ref w9_hd)])) rfl rfl (hb hby d7_9)
  obtain ⟨fs, hr, hrun, hended, hW, hsame⟩ := X3.leave (v := some (.ref w9_hd)) (fun h => by rw [Bd.returns] at h; cases h) hlk
  refine ⟨_, _, pre0 _ ?_, hrun, hended, _, _, rfl, ?_, ⟨_, rfl⟩, hW, hsame.mono (by decide) (by decide)⟩
  · skip
    show Steps p.tables e below (s₁.setTop (mkF m 0 #[.val (.ref o0)] [])) _
    refine XS.aloadN X0.here hx rfl (hb hby d7_0) rfl rfl ?_
    show Steps p.tables e below (s₁.setTop (mkF m 1 #[.val (.ref o0)] [(.ref o0)])) _
    refine st1 _ ?_
    show Steps p.tables e below (T1.setTop (mkF m 4 #[.val (.ref o0)] [(.ref w1_dq)])) _
    refine st2.trans ?_
    show Steps p.tables e below (T2.setTop (mkF m 9 #[.val (.ref o0)] [(.ref w9_hd)])) _
    refine st3 _ ?_
    show Steps p.tables e below (T3.setTop (mkF m 12 #[.val (.ref o0)] [(.ref w9_hd)])) _
    exact X3.areturnOut hx rfl Bd.returns rfl (hb hby d7_12) hr
  · skip
    show Qqp1 Z o0 w1_dq w2_els u20_e w9_hd u22_e u23_e u24_e u25_e u26_e u27_e u28_e u29_e u30_e u31_e u32_e u33_e u34_e u35_e u36_e kA h0 n0 _ T3.heap _
    rw [e3]
    exact ⟨N2, rfl, rfl⟩
theorem ef_ea15 (m : MethodId) (o0 : Addr) : entryFrame m #[(.ref o0), (.int (15 : Int32))] 2 = mkF m 0 #[.val (.ref o0), .val (.int (15 : Int32))] [] := by first | (simp [entryFrame, mkF, argsToLocals, Value.category]; done) | rfl
def Qea15 (Z : State) (o0 : Addr) (u20_e : Value) (u21_e : Value) (u22_e : Value) (u23_e : Value) (u24_e : Value) (u25_e : Value) (u26_e : Value) (u27_e : Value) (u28_e : Value) (u29_e : Value) (u30_e : Value) (u31_e : Value) (u32_e : Value) (u33_e : Value) (u34_e : Value) (w9_hd : Addr) (u36_e : Value) (kA : ClassId) (h0 : Heap) (n0 : Nat) (v : Option Value) (h : Heap) (L : List Loc) : Prop := Fr n0 L ∧ v = some (.ref w9_hd) ∧ h = h0
set_option maxRecDepth 65536 in
set_option maxHeartbeats 40000000 in
theorem rmea15 (l : Launch) (Z : State) (a0 : Array Value) (hw : ∀ d ∈ tables_1, d.before a0 Z = true) (ws : List Jvm.Cond) (o0 : Addr) (u20_e : Value) (u21_e : Value) (u22_e : Value) (u23_e : Value) (u24_e : Value) (u25_e : Value) (u26_e : Value) (u27_e : Value) (u28_e : Value) (u29_e : Value) (u30_e : Value) (u31_e : Value) (u32_e : Value) (u33_e : Value) (u34_e : Value) (w9_hd : Addr) (u36_e : Value) (kA : ClassId) (h0 : Heap) (n0 : Nat) (Z0 : n0 ≤ h0.size) (V_o0 : Arv Z h0 o0 kA (.object "java/lang/Object") (17 : Int32) [u20_e, u21_e, u22_e, u23_e, u24_e, u25_e, u26_e, u27_e, u28_e, u29_e, u30_e, u31_e, u32_e, u33_e, u34_e, (.ref w9_hd), u36_e] .null) :
    MetFree l (⟨"java/util/ArrayDeque", "elementAt", "([Ljava/lang/Object;I)Ljava/lang/Object;"⟩ : MethodName) (head1 (Jvm.Cond.code (⟨"java/util/ArrayDeque", "elementAt", "([Ljava/lang/Object;I)Ljava/lang/Object;"⟩ : MethodName) jdk_21_method_10_code 2 (some (.object "java/lang/Object")) :: ws) ({ frames := 0, cells := 0, slots := 0, locals := 0 } : Room)) (fun a U => a = #[(.ref o0), (.int (15 : Int32))] ∧ Z.Warmed39 U.vm ∧ U.heap = h0) (fun _ _ _ _ _ => True) (fun _ U o U' => ∃ v L, o = .returned v ∧ Qea15 Z o0 u20_e u21_e u22_e u23_e u24_e u25_e u26_e u27_e u28_e u29_e u30_e u31_e u32_e u33_e u34_e w9_hd u36_e kA h0 n0 v U'.heap L ∧ FrameEnd U o U' L ({ frames := 0, cells := 0, slots := 0, locals := 0 } : Room).cells ({ frames := 0, cells := 0, slots := 0, locals := 0 } : Room).slots) := by
  refine MetFree.of_bodySF (plainFor_of_name pn_java_util_ArrayDeque) hisR ?_
  intro p e s m args below meth c s₁ Bd hml0 hP hK
  obtain ⟨rfl, hZ, hh⟩ := hP
  have hx := Bd.exec
  have hby := Bd.bytes
  have hml : c.maxLocals = 2 := hml0
  have hown : s.vm.findClass "java/util/ArrayDeque" = some m.cls := findClass_of_methodNamed Bd.named
  have hnm := (name_of_methodNamed Bd.named Bd.method).1
  have hlk := BodyLoose.notSynchronized Bd
  have X0 : Stand p l e ({ frames := 0, cells := 0, slots := 0, locals := 0 } : Room) s m #[(.ref o0), (.int (15 : Int32))] below meth c s₁ [] 0 0 := Stand.of_body Bd
  have e0 : s₁.heap = h0 := by rw [← hh, Bd.state]; rfl
  have N0 := Fr.nil n0
  have pre0 : ∀ t, Steps p.tables e below (s₁.setTop (mkF m 0 #[.val (.ref o0), .val (.int (15 : Int32))] [])) t → Steps p.tables e below (s₁.setTop (entryFrame m #[(.ref o0), (.int (15 : Int32))] 2)) t := fun t k => castTop (ef_ea15 m o0) k
  obtain ⟨cl1, Ar1, qc1, S1, M1, Ha1, G1⟩ := id V_o0
  have hin2 : ¬ ((15 : Int32) < 0 ∨ cl1.slots.size ≤ ((15 : Int32)).toNatClampNeg) := inb_of S1 ⟨by decide, by decide⟩
  obtain ⟨fs, hr, hrun, hended, hW, hsame⟩ := X0.leave (v := some (.ref w9_hd)) (fun h => by rw [Bd.returns] at h; cases h) hlk
  refine ⟨_, _, pre0 _ ?_, hrun, hended, _, _, rfl, ?_, ⟨_, rfl⟩, hW, hsame.mono (by decide) (by decide)⟩
  · skip
    show Steps p.tables e below (s₁.setTop (mkF m 0 #[.val (.ref o0), .val (.int (15 : Int32))] [])) _
    refine XS.aloadN X0.here hx rfl (hb hby d10_0) rfl rfl ?_
    show Steps p.tables e below (s₁.setTop (mkF m 1 #[.val (.ref o0), .val (.int (15 : Int32))] [(.ref o0)])) _
    refine XS.iloadN X0.here hx rfl (hb hby d10_1) rfl ?_
    show Steps p.tables e below (s₁.setTop (mkF m 2 #[.val (.ref o0), .val (.int (15 : Int32))] [(.int (15 : Int32)), (.ref o0)])) _
    refine X0.aaload hx (j := (15 : Int32)) (v := (.ref w9_hd)) (by rw [e0]; exact Ar1.1) (State.isArrayOf_alike hZ.alike Ar1.2.1) rfl Ar1.2.2 hin2 (Has.at Ha1 hin2 rfl) (g := (mkF m 2 #[.val (.ref o0), .val (.int (15 : Int32))] [(.int (15 : Int32)), (.ref o0)])) rfl rfl (hb hby d10_2) _ ?_
    show Steps p.tables e below (s₁.setTop (mkF m 3 #[.val (.ref o0), .val (.int (15 : Int32))] [(.ref w9_hd)])) _
    exact X0.areturnOut hx rfl Bd.returns rfl (hb hby d10_3) hr
  · skip
    show Qea15 Z o0 u20_e u21_e u22_e u23_e u24_e u25_e u26_e u27_e u28_e u29_e u30_e u31_e u32_e u33_e u34_e w9_hd u36_e kA h0 n0 _ s₁.heap _
    rw [e0]
    exact ⟨N0, rfl, rfl⟩
theorem ef_pf15 (m : MethodId) (o0 : Addr) : entryFrame m #[(.ref o0)] 1 = mkF m 0 #[.val (.ref o0)] [] := by first | (simp [entryFrame, mkF, argsToLocals, Value.category]; done) | rfl
def Qpf15 (Z : State) (o0 : Addr) (w2_els : Addr) (u20_e : Value) (u21_e : Value) (u22_e : Value) (u23_e : Value) (u24_e : Value) (u25_e : Value) (u26_e : Value) (u27_e : Value) (u28_e : Value) (u29_e : Value) (u30_e : Value) (u31_e : Value) (u32_e : Value) (u33_e : Value) (u34_e : Value) (w9_hd : Addr) (u36_e : Value) (kA : ClassId) (h0 : Heap) (n0 : Nat) (v : Option Value) (h : Heap) (L : List Loc) : Prop := Fr n0 L ∧ v = some (.ref w9_hd) ∧ h = h0
set_option maxRecDepth 65536 in
set_option maxHeartbeats 40000000 in
theorem rmpf15 (l : Launch) (Z : State) (a0 : Array Value) (hw : ∀ d ∈ tables_1, d.before a0 Z = true) (ws : List Jvm.Cond) (o0 : Addr) (w2_els : Addr) (u20_e : Value) (u21_e : Value) (u22_e : Value) (u23_e : Value) (u24_e : Value) (u25_e : Value) (u26_e : Value) (u27_e : Value) (u28_e : Value) (u29_e : Value) (u30_e : Value) (u31_e : Value) (u32_e : Value) (u33_e : Value) (u34_e : Value) (w9_hd : Addr) (u36_e : Value) (kA : ClassId) (h0 : Heap) (n0 : Nat) (Z0 : n0 ≤ h0.size) (E_o0 : Exa Z h0 o0 "java/util/ArrayDeque") (F_elements_o0 : Fld Z h0 o0 "java/util/ArrayDeque" "elements" "[Ljava/lang/Object;" (.ref w2_els)) (F_head_o0 : Fld Z h0 o0 "java/util/ArrayDeque" "head" "I" (.int (15 : Int32))) (V_w2_els : Arv Z h0 w2_els kA (.object "java/lang/Object") (17 : Int32) [u20_e, u21_e, u22_e, u23_e, u24_e, u25_e, u26_e, u27_e, u28_e, u29_e, u30_e, u31_e, u32_e, u33_e, u34_e, (.ref w9_hd), u36_e] .null) :
    MetFree l (⟨"java/util/ArrayDeque", "peekFirst", "()Ljava/lang/Object;"⟩ : MethodName) (head1 (Jvm.Cond.code (⟨"java/util/ArrayDeque", "peekFirst", "()Ljava/lang/Object;"⟩ : MethodName) jdk_21_method_24_code 1 (some (.object "java/lang/Object")) :: ws) ({ frames := 1, cells := 0, slots := 0, locals := 13 } : Room)) (fun a U => a = #[(.ref o0)] ∧ Z.Warmed39 U.vm ∧ U.heap = h0) (fun _ _ _ _ _ => True) (fun _ U o U' => ∃ v L, o = .returned v ∧ Qpf15 Z o0 w2_els u20_e u21_e u22_e u23_e u24_e u25_e u26_e u27_e u28_e u29_e u30_e u31_e u32_e u33_e u34_e w9_hd u36_e kA h0 n0 v U'.heap L ∧ FrameEnd U o U' L ({ frames := 1, cells := 0, slots := 0, locals := 13 } : Room).cells ({ frames := 1, cells := 0, slots := 0, locals := 13 } : Room).slots) := by
  refine MetFree.of_bodySF (plainFor_of_name pn_java_util_ArrayDeque) hisR ?_
  intro p e s m args below meth c s₁ Bd hml0 hP hK
  obtain ⟨rfl, hZ, hh⟩ := hP
  have hx := Bd.exec
  have hby := Bd.bytes
  have hml : c.maxLocals = 1 := hml0
  have hown : s.vm.findClass "java/util/ArrayDeque" = some m.cls := findClass_of_methodNamed Bd.named
  have hnm := (name_of_methodNamed Bd.named Bd.method).1
  have hlk := BodyLoose.notSynchronized Bd
  have X0 : Stand p l e ({ frames := 1, cells := 0, slots := 0, locals := 13 } : Room) s m #[(.ref o0)] below meth c s₁ [] 0 0 := Stand.of_body Bd
  have e0 : s₁.heap = h0 := by rw [← hh, Bd.state]; rfl
  have N0 := Fr.nil n0
  have pre0 : ∀ t, Steps p.tables e below (s₁.setTop (mkF m 0 #[.val (.ref o0)] [])) t → Steps p.tables e below (s₁.setTop (entryFrame m #[(.ref o0)] 1)) t := fun t k => castTop (ef_pf15 m o0) k
  obtain ⟨T1, X1, e1, st1⟩ := getF X0 hx hZ hown (host := "") (Or.inl (hw _ (List.mem_of_getElem? (i := 24) rfl))) Via.refl e0 F_elements_o0 (g := (mkF m 1 #[.val (.ref o0)] [(.ref o0)])) rfl rfl (hb hby d9_1)
  obtain ⟨T2, X2, e2, st2⟩ := getF X1 hx hZ hown (host := "") (Or.inl (hw _ (List.mem_of_getElem? (i := 64) rfl))) Via.refl e1 F_head_o0 (g := (mkF m 5 #[.val (.ref o0)] [(.ref o0), (.ref w2_els)])) rfl rfl (hb hby d9_5)
  obtain ⟨vr3, _, ⟨T3, L3, k3, n3⟩, -, X3, ⟨Lc3, hQ3, l3, y3, z3⟩, st3⟩ := Jvm.LawKit.callS X2 hx (y := (⟨"java/util/ArrayDeque", "elementAt", "([Ljava/lang/Object;I)Ljava/lang/Object;"⟩ : MethodName)) hown (mvT hZ (hw _ (List.mem_of_getElem? (i := 66) rfl))) (mvT hZ (hw _ (List.mem_of_getElem? (i := 67) rfl))) (mvT hZ (hw _ (List.mem_of_getElem? (i := 11) rfl))) (mvT hZ (hw _ (List.mem_of_getElem? (i := 68) rfl))) (by decide) (backOf (W := 0) (rmea15 l Z a0 hw [] w2_els u20_e u21_e u22_e u23_e u24_e u25_e u26_e u27_e u28_e u29_e u30_e u31_e u32_e u33_e u34_e w9_hd u36_e kA h0 n0 Z0 V_w2_els) hZ (hw _ (List.mem_of_getElem? (i := 68) rfl)) (hw _ (List.mem_of_getElem? (i := 11) rfl)) (by decide) (by decide)) (g := (mkF m 8 #[.val (.ref o0)] [(.int (15 : Int32)), (.ref w2_els)])) rfl (by rw [hml]; rfl) (argsL := [(.ref w2_els), (.int (15 : Int32))]) (rest := []) (lenOf pd___Ljava_lang_Object_I_Ljava_lang_Object_ rfl) rfl (by show 2 * 0 + _ ≤ _; exact Nat.le_of_eq rfl) (hb hby d9_8) (fun _ _ => ⟨rfl, e2, (by decide : 0 + 0 ≤ _), (by decide : 0 + 0 ≤ _)⟩)
  dsimp only [Pt.U, Pt.locs, Pt.cells, Pt.slots] at X3 l3 y3 z3 st3 hQ3
  subst l3 y3 z3
  have N3q := (show _ ∧ _ ∧ _ from hQ3).1
  have hv3 := (show _ ∧ _ ∧ _ from hQ3).2.1
  have e3 := (show _ ∧ _ ∧ _ from hQ3).2.2
  clear hQ3
  subst hv3
  have N3 := Fr.app N0 N3q
  obtain ⟨fs, hr, hrun, hended, hW, hsame⟩ := X3.leave (v := some (.ref w9_hd)) (fun h => by rw [Bd.returns] at h; cases h) hlk
  refine ⟨_, _, pre0 _ ?_, hrun, hended, _, _, rfl, ?_, ⟨_, rfl⟩, hW, hsame.mono (by decide) (by decide)⟩
  · skip
    show Steps p.tables e below (s₁.setTop (mkF m 0 #[.val (.ref o0)] [])) _
    refine XS.aloadN X0.here hx rfl (hb hby d9_0) rfl rfl ?_
    show Steps p.tables e below (s₁.setTop (mkF m 1 #[.val (.ref o0)] [(.ref o0)])) _
    refine st1 _ ?_
    show Steps p.tables e below (T1.setTop (mkF m 4 #[.val (.ref o0)] [(.ref w2_els)])) _
    refine XS.aloadN X1.here hx rfl (hb hby d9_4) rfl rfl ?_
    show Steps p.tables e below (T1.setTop (mkF m 5 #[.val (.ref o0)] [(.ref o0), (.ref w2_els)])) _
    refine st2 _ ?_
    show Steps p.tables e below (T2.setTop (mkF m 8 #[.val (.ref o0)] [(.int (15 : Int32)), (.ref w2_els)])) _
    refine st3 _ ?_
    show Steps p.tables e below (T3.setTop (mkF m 11 #[.val (.ref o0)] [(.ref w9_hd)])) _
    exact X3.areturnOut hx rfl Bd.returns rfl (hb hby d9_11) hr
  · skip
    show Qpf15 Z o0 w2_els u20_e u21_e u22_e u23_e u24_e u25_e u26_e u27_e u28_e u29_e u30_e u31_e u32_e u33_e u34_e w9_hd u36_e kA h0 n0 _ T3.heap _
    rw [e3]
    exact ⟨N3, rfl, rfl⟩
theorem ef_pk15 (m : MethodId) (o0 : Addr) : entryFrame m #[(.ref o0)] 1 = mkF m 0 #[.val (.ref o0)] [] := by first | (simp [entryFrame, mkF, argsToLocals, Value.category]; done) | rfl
def Qpk15 (Z : State) (o0 : Addr) (w2_els : Addr) (u20_e : Value) (u21_e : Value) (u22_e : Value) (u23_e : Value) (u24_e : Value) (u25_e : Value) (u26_e : Value) (u27_e : Value) (u28_e : Value) (u29_e : Value) (u30_e : Value) (u31_e : Value) (u32_e : Value) (u33_e : Value) (u34_e : Value) (w9_hd : Addr) (u36_e : Value) (kA : ClassId) (h0 : Heap) (n0 : Nat) (v : Option Value) (h : Heap) (L : List Loc) : Prop := Fr n0 L ∧ v = some (.ref w9_hd) ∧ h = h0
set_option maxRecDepth 65536 in
set_option maxHeartbeats 40000000 in
theorem rmpk15 (l : Launch) (Z : State) (a0 : Array Value) (hw : ∀ d ∈ tables_1, d.before a0 Z = true) (ws : List Jvm.Cond) (o0 : Addr) (w2_els : Addr) (u20_e : Value) (u21_e : Value) (u22_e : Value) (u23_e : Value) (u24_e : Value) (u25_e : Value) (u26_e : Value) (u27_e : Value) (u28_e : Value) (u29_e : Value) (u30_e : Value) (u31_e : Value) (u32_e : Value) (u33_e : Value) (u34_e : Value) (w9_hd : Addr) (u36_e : Value) (kA : ClassId) (h0 : Heap) (n0 : Nat) (Z0 : n0 ≤ h0.size) (E_o0 : Exa Z h0 o0 "java/util/ArrayDeque") (F_elements_o0 : Fld Z h0 o0 "java/util/ArrayDeque" "elements" "[Ljava/lang/Object;" (.ref w2_els)) (F_head_o0 : Fld Z h0 o0 "java/util/ArrayDeque" "head" "I" (.int (15 : Int32))) (V_w2_els : Arv Z h0 w2_els kA (.object "java/lang/Object") (17 : Int32) [u20_e, u21_e, u22_e, u23_e, u24_e, u25_e, u26_e, u27_e, u28_e, u29_e, u30_e, u31_e, u32_e, u33_e, u34_e, (.ref w9_hd), u36_e] .null) :
    MetFree l (⟨"java/util/ArrayDeque", "peek", "()Ljava/lang/Object;"⟩ : MethodName) (head1 (Jvm.Cond.code (⟨"java/util/ArrayDeque", "peek", "()Ljava/lang/Object;"⟩ : MethodName) jdk_21_method_33_code 1 (some (.object "java/lang/Object")) :: ws) ({ frames := 2, cells := 0, slots := 0, locals := 25 } : Room)) (fun a U => a = #[(.ref o0)] ∧ Z.Warmed39 U.vm ∧ U.heap = h0) (fun _ _ _ _ _ => True) (fun _ U o U' => ∃ v L, o = .returned v ∧ Qpk15 Z o0 w2_els u20_e u21_e u22_e u23_e u24_e u25_e u26_e u27_e u28_e u29_e u30_e u31_e u32_e u33_e u34_e w9_hd u36_e kA h0 n0 v U'.heap L ∧ FrameEnd U o U' L ({ frames := 2, cells := 0, slots := 0, locals := 25 } : Room).cells ({ frames := 2, cells := 0, slots := 0, locals := 25 } : Room).slots) := by
  refine MetFree.of_bodySF (plainFor_of_name pn_java_util_ArrayDeque) hisR ?_
  intro p e s m args below meth c s₁ Bd hml0 hP hK
  obtain ⟨rfl, hZ, hh⟩ := hP
  have hx := Bd.exec
  have hby := Bd.bytes
  have hml : c.maxLocals = 1 := hml0
  have hown : s.vm.findClass "java/util/ArrayDeque" = some m.cls := findClass_of_methodNamed Bd.named
  have hnm := (name_of_methodNamed Bd.named Bd.method).1
  have hlk := BodyLoose.notSynchronized Bd
  have X0 : Stand p l e ({ frames := 2, cells := 0, slots := 0, locals := 25 } : Room) s m #[(.ref o0)] below meth c s₁ [] 0 0 := Stand.of_body Bd
  have e0 : s₁.heap = h0 := by rw [← hh, Bd.state]; rfl
  have N0 := Fr.nil n0
  have pre0 : ∀ t, Steps p.tables e below (s₁.setTop (mkF m 0 #[.val (.ref o0)] [])) t → Steps p.tables e below (s₁.setTop (entryFrame m #[(.ref o0)] 1)) t := fun t k => castTop (ef_pk15 m o0) k
  obtain ⟨cq1, kq1, q1a, q1b, q1c⟩ := isOf hZ e0 E_o0
  obtain ⟨vr1, _, ⟨T1, L1, k1, n1⟩, -, X1, ⟨Lc1, hQ1, l1, y1, z1⟩, st1⟩ := X0.virtualBack hx (y := (⟨"java/util/ArrayDeque", "peekFirst", "()Ljava/lang/Object;"⟩ : MethodName)) (z := (⟨"java/util/ArrayDeque", "peekFirst", "()Ljava/lang/Object;"⟩ : MethodName)) hown (mvT hZ (hw _ (List.mem_of_getElem? (i := 59) rfl))) (mvT hZ (hw _ (List.mem_of_getElem? (i := 60) rfl))) (notFace_of_selects (args := #[]) (mvT hZ (hw _ (List.mem_of_getElem? (i := 62) rfl)))) (mvT hZ (hw _ (List.mem_of_getElem? (i := 62) rfl))) (mvT hZ (hw _ (List.mem_of_getElem? (i := 61) rfl))) (by decide) (backOf (W := 0) (rmpf15 l Z a0 hw [] o0 w2_els u20_e u21_e u22_e u23_e u24_e u25_e u26_e u27_e u28_e u29_e u30_e u31_e u32_e u33_e u34_e w9_hd u36_e kA h0 n0 Z0 E_o0 F_elements_o0 F_head_o0 V_w2_els) hZ (hw _ (List.mem_of_getElem? (i := 63) rfl)) (hw _ (List.mem_of_getElem? (i := 11) rfl)) (by decide) (by decide)) q1a q1c (g := (mkF m 1 #[.val (.ref o0)] [(.ref o0)])) rfl (by rw [hml]; rfl) (Steps.refl _) (argsL := []) (rest := []) (lenOf pd___Ljava_lang_Object_ rfl) rfl (by show 2 * 0 + _ ≤ _; exact Nat.le_of_eq rfl) (hb hby d8_1) (fun _ _ => ⟨rfl, e0, (by decide : 0 + 0 ≤ _), (by decide : 0 + 0 ≤ _)⟩)
  dsimp only [Pt.U, Pt.locs, Pt.cells, Pt.slots] at X1 l1 y1 z1 st1 hQ1
  subst l1 y1 z1
  have N1q := (show _ ∧ _ ∧ _ from hQ1).1
  have hv1 := (show _ ∧ _ ∧ _ from hQ1).2.1
  have e1 := (show _ ∧ _ ∧ _ from hQ1).2.2
  clear hQ1
  subst hv1
  have N1 := Fr.app N0 N1q
  obtain ⟨fs, hr, hrun, hended, hW, hsame⟩ := X1.leave (v := some (.ref w9_hd)) (fun h => by rw [Bd.returns] at h; cases h) hlk
  refine ⟨_, _, pre0 _ ?_, hrun, hended, _, _, rfl, ?_, ⟨_, rfl⟩, hW, hsame.mono (by decide) (by decide)⟩
  · skip
    show Steps p.tables e below (s₁.setTop (mkF m 0 #[.val (.ref o0)] [])) _
    refine XS.aloadN X0.here hx rfl (hb hby d8_0) rfl rfl ?_
    show Steps p.tables e below (s₁.setTop (mkF m 1 #[.val (.ref o0)] [(.ref o0)])) _
    refine st1.trans ?_
    show Steps p.tables e below (T1.setTop (mkF m 4 #[.val (.ref o0)] [(.ref w9_hd)])) _
    exact X1.areturnOut hx rfl Bd.returns rfl (hb hby d8_4) hr
  · skip
    show Qpk15 Z o0 w2_els u20_e u21_e u22_e u23_e u24_e u25_e u26_e u27_e u28_e u29_e u30_e u31_e u32_e u33_e u34_e w9_hd u36_e kA h0 n0 _ T1.heap _
    rw [e1]
    exact ⟨N1, rfl, rfl⟩
theorem ef_qp15 (m : MethodId) (o0 : Addr) : entryFrame m #[(.ref o0)] 1 = mkF m 0 #[.val (.ref o0)] [] := by first | (simp [entryFrame, mkF, argsToLocals, Value.category]; done) | rfl
def Qqp15 (Z : State) (o0 : Addr) (w1_dq : Addr) (w2_els : Addr) (u20_e : Value) (u21_e : Value) (u22_e : Value) (u23_e : Value) (u24_e : Value) (u25_e : Value) (u26_e : Value) (u27_e : Value) (u28_e : Value) (u29_e : Value) (u30_e : Value) (u31_e : Value) (u32_e : Value) (u33_e : Value) (u34_e : Value) (w9_hd : Addr) (u36_e : Value) (kA : ClassId) (h0 : Heap) (n0 : Nat) (v : Option Value) (h : Heap) (L : List Loc) : Prop := Fr n0 L ∧ v = some (.ref w9_hd) ∧ h = h0
set_option maxRecDepth 65536 in
set_option maxHeartbeats 40000000 in
theorem rmqp15 (l : Launch) (Z : State) (a0 : Array Value) (hw : ∀ d ∈ tables_1, d.before a0 Z = true) (ws : List Jvm.Cond) (o0 : Addr) (w1_dq : Addr) (w2_els : Addr) (u20_e : Value) (u21_e : Value) (u22_e : Value) (u23_e : Value) (u24_e : Value) (u25_e : Value) (u26_e : Value) (u27_e : Value) (u28_e : Value) (u29_e : Value) (u30_e : Value) (u31_e : Value) (u32_e : Value) (u33_e : Value) (u34_e : Value) (w9_hd : Addr) (u36_e : Value) (kA : ClassId) (h0 : Heap) (n0 : Nat) (Z0 : n0 ≤ h0.size) (F_events_o0 : Fld Z h0 o0 "com/example/dispatch_by_catalog/dispatchbycatalog/subscriptions/EventQueue" "events" "Ljava/util/Deque;" (.ref w1_dq)) (E_w1_dq : Exa Z h0 w1_dq "java/util/ArrayDeque") (F_elements_w1_dq : Fld Z h0 w1_dq "java/util/ArrayDeque" "elements" "[Ljava/lang/Object;" (.ref w2_els)) (F_head_w1_dq : Fld Z h0 w1_dq "java/util/ArrayDeque" "head" "I" (.int (15 : Int32))) (V_w2_els : Arv Z h0 w2_els kA (.object "java/lang/Object") (17 : Int32) [u20_e, u21_e, u22_e, u23_e, u24_e, u25_e, u26_e, u27_e, u28_e, u29_e, u30_e, u31_e, u32_e, u33_e, u34_e, (.ref w9_hd), u36_e] .null) (E_w9_hd : Exa Z h0 w9_hd "com/example/dispatch_by_catalog/dispatchbycatalog/subscriptions/DroppedEvents") :
    MetFree l (⟨"com/example/dispatch_by_catalog/dispatchbycatalog/subscriptions/EventQueue", "peek", "()Lcom/example/dispatch_by_catalog/dispatchbycatalog/subscriptions/Event;"⟩ : MethodName) (head1 (Jvm.Cond.code (⟨"com/example/dispatch_by_catalog/dispatchbycatalog/subscriptions/EventQueue", "peek", "()Lcom/example/dispatch_by_catalog/dispatchbycatalog/subscriptions/Event;"⟩ : MethodName) prog_41_method_5_code 1 (some (.object "com/example/dispatch_by_catalog/dispatchbycatalog/subscriptions/Event")) :: ws) ({ frames := 3, cells := 0, slots := 0, locals := 37 } : Room)) (fun a U => a = #[(.ref o0)] ∧ Z.Warmed39 U.vm ∧ U.heap = h0) (fun _ _ _ _ _ => True) (fun _ U o U' => ∃ v L, o = .returned v ∧ Qqp15 Z o0 w1_dq w2_els u20_e u21_e u22_e u23_e u24_e u25_e u26_e u27_e u28_e u29_e u30_e u31_e u32_e u33_e u34_e w9_hd u36_e kA h0 n0 v U'.heap L ∧ FrameEnd U o U' L ({ frames := 3, cells := 0, slots := 0, locals := 37 } : Room).cells ({ frames := 3, cells := 0, slots := 0, locals := 37 } : Room).slots) := by
  refine MetFree.of_bodySF (plainFor_of_name pn_com_example_dispatch_by_catalog_dispatchbycatalog_subscriptions_EventQueue) hisR ?_
  intro p e s m args below meth c s₁ Bd hml0 hP hK
  obtain ⟨rfl, hZ, hh⟩ := hP
  have hx := Bd.exec
  have hby := Bd.bytes
  have hml : c.maxLocals = 1 := hml0
  have hown : s.vm.findClass "com/example/dispatch_by_catalog/dispatchbycatalog/subscriptions/EventQueue" = some m.cls := findClass_of_methodNamed Bd.named
  have hnm := (name_of_methodNamed Bd.named Bd.method).1
  have hlk := BodyLoose.notSynchronized Bd
  have X0 : Stand p l e ({ frames := 3, cells := 0, slots := 0, locals := 37 } : Room) s m #[(.ref o0)] below meth c s₁ [] 0 0 := Stand.of_body Bd
  have e0 : s₁.heap = h0 := by rw [← hh, Bd.state]; rfl
  have N0 := Fr.nil n0
  have pre0 : ∀ t, Steps p.tables e below (s₁.setTop (mkF m 0 #[.val (.ref o0)] [])) t → Steps p.tables e below (s₁.setTop (entryFrame m #[(.ref o0)] 1)) t := fun t k => castTop (ef_qp15 m o0) k
  obtain ⟨T1, X1, e1, st1⟩ := getF X0 hx hZ hown (host := "") (Or.inl (hw _ (List.mem_of_getElem? (i := 26) rfl))) Via.refl e0 F_events_o0 (g := (mkF m 1 #[.val (.ref o0)] [(.ref o0)])) rfl rfl (hb hby d7_1)
  obtain ⟨cq2, kq2, q2a, q2b, q2c⟩ := isOf hZ e1 E_w1_dq
  obtain ⟨vr2, _, ⟨T2, L2, k2, n2⟩, -, X2, ⟨Lc2, hQ2, l2, y2, z2⟩, st2⟩ := X1.interfaceBack hx (xi := (⟨"java/util/Deque", "peek", "()Ljava/lang/Object;"⟩ : MethodName)) (y := (⟨"java/util/ArrayDeque", "peek", "()Ljava/lang/Object;"⟩ : MethodName)) hown (mvT hZ (hw _ (List.mem_of_getElem? (i := 50) rfl))) (mvT hZ (hw _ (List.mem_of_getElem? (i := 51) rfl))) (mvT hZ (hw _ (List.mem_of_getElem? (i := 52) rfl))) (mvT hZ (hw _ (List.mem_of_getElem? (i := 53) rfl))) (mvT hZ (hw _ (List.mem_of_getElem? (i := 54) rfl))) (mvT hZ (hw _ (List.mem_of_getElem? (i := 55) rfl))) (mvT hZ (hw _ (List.mem_of_getElem? (i := 56) rfl))) (mvT hZ (hw _ (List.mem_of_getElem? (i := 57) rfl))) (by decide) (backOf (W := 0) (rmpk15 l Z a0 hw [] w1_dq w2_els u20_e u21_e u22_e u23_e u24_e u25_e u26_e u27_e u28_e u29_e u30_e u31_e u32_e u33_e u34_e w9_hd u36_e kA h0 n0 Z0 E_w1_dq F_elements_w1_dq F_head_w1_dq V_w2_els) hZ (hw _ (List.mem_of_getElem? (i := 58) rfl)) (hw _ (List.mem_of_getElem? (i := 11) rfl)) (by decide) (by decide)) q2a q2b q2c (g := (mkF m 4 #[.val (.ref o0)] [(.ref w1_dq)])) rfl (by rw [hml]; rfl) (Steps.refl _) (argsL := []) (rest := []) (lenOf pd___Ljava_lang_Object_ rfl) rfl (by show 2 * 0 + _ ≤ _; exact Nat.le_of_eq rfl) (hb hby d7_4) (fun _ _ => ⟨rfl, e1, (by decide : 0 + 0 ≤ _), (by decide : 0 + 0 ≤ _)⟩)
  dsimp only [Pt.U, Pt.locs, Pt.cells, Pt.slots] at X2 l2 y2 z2 st2 hQ2
  subst l2 y2 z2
  have N2q := (show _ ∧ _ ∧ _ from hQ2).1
  have hv2 := (show _ ∧ _ ∧ _ from hQ2).2.1
  have e2 := (show _ ∧ _ ∧ _ from hQ2).2.2
  clear hQ2
  subst hv2
  have N2 := Fr.app N0 N2q
  obtain ⟨T3, X3, e3, st3⟩ := castY X2 hx hZ hown (hw _ (List.mem_of_getElem? (i := 99) rfl)) e2 (Ins.of_exa E_w9_hd (hw _ (List.mem_of_getElem? (i := 97) rfl))) (g := (mkF m 9 #[.val (.ref o0)] [(.ref w9_hd)])) rfl rfl (hb hby d7_9)
  obtain ⟨fs, hr, hrun, hended, hW, hsame⟩ := X3.leave (v := some (.ref w9_hd)) (fun h => by rw [Bd.returns] at h; cases h) hlk
  refine ⟨_, _, pre0 _ ?_, hrun, hended, _, _, rfl, ?_, ⟨_, rfl⟩, hW, hsame.mono (by decide) (by decide)⟩
  · skip
    show Steps p.tables e below (s₁.setTop (mkF m 0 #[.val (.ref o0)] [])) _
    refine XS.aloadN X0.here hx rfl (hb hby d7_0) rfl rfl ?_
    show Steps p.tables e below (s₁.setTop (mkF m 1 #[.val (.ref o0)] [(.ref o0)])) _
    refine st1 _ ?_
    show Steps p.tables e below (T1.setTop (mkF m 4 #[.val (.ref o0)] [(.ref w1_dq)])) _
    refine st2.trans ?_
    show Steps p.tables e below (T2.setTop (mkF m 9 #[.val (.ref o0)] [(.ref w9_hd)])) _
    refine st3 _ ?_
    show Steps p.tables e below (T3.setTop (mkF m 12 #[.val (.ref o0)] [(.ref w9_hd)])) _
    exact X3.areturnOut hx rfl Bd.returns rfl (hb hby d7_12) hr
  · skip
    show Qqp15 Z o0 w1_dq w2_els u20_e u21_e u22_e u23_e u24_e u25_e u26_e u27_e u28_e u29_e u30_e u31_e u32_e u33_e u34_e w9_hd u36_e kA h0 n0 _ T3.heap _
    rw [e3]
    exact ⟨N2, rfl, rfl⟩
theorem ef_ea16 (m : MethodId) (o0 : Addr) : entryFrame m #[(.ref o0), (.int (16 : Int32))] 2 = mkF m 0 #[.val (.ref o0), .val (.int (16 : Int32))] [] := by first | (simp [entryFrame, mkF, argsToLocals, Value.category]; done) | rfl
def Qea16 (Z : State) (o0 : Addr) (u20_e : Value) (u21_e : Value) (u22_e : Value) (u23_e : Value) (u24_e : Value) (u25_e : Value) (u26_e : Value) (u27_e : Value) (u28_e : Value) (u29_e : Value) (u30_e : Value) (u31_e : Value) (u32_e : Value) (u33_e : Value) (u34_e : Value) (u35_e : Value) (w9_hd : Addr) (kA : ClassId) (h0 : Heap) (n0 : Nat) (v : Option Value) (h : Heap) (L : List Loc) : Prop := Fr n0 L ∧ v = some (.ref w9_hd) ∧ h = h0
set_option maxRecDepth 65536 in
set_option maxHeartbeats 40000000 in
theorem rmea16 (l : Launch) (Z : State) (a0 : Array Value) (hw : ∀ d ∈ tables_1, d.before a0 Z = true) (ws : List Jvm.Cond) (o0 : Addr) (u20_e : Value) (u21_e : Value) (u22_e : Value) (u23_e : Value) (u24_e : Value) (u25_e : Value) (u26_e : Value) (u27_e : Value) (u28_e : Value) (u29_e : Value) (u30_e : Value) (u31_e : Value) (u32_e : Value) (u33_e : Value) (u34_e : Value) (u35_e : Value) (w9_hd : Addr) (kA : ClassId) (h0 : Heap) (n0 : Nat) (Z0 : n0 ≤ h0.size) (V_o0 : Arv Z h0 o0 kA (.object "java/lang/Object") (17 : Int32) [u20_e, u21_e, u22_e, u23_e, u24_e, u25_e, u26_e, u27_e, u28_e, u29_e, u30_e, u31_e, u32_e, u33_e, u34_e, u35_e, (.ref w9_hd)] .null) :
    MetFree l (⟨"java/util/ArrayDeque", "elementAt", "([Ljava/lang/Object;I)Ljava/lang/Object;"⟩ : MethodName) (head1 (Jvm.Cond.code (⟨"java/util/ArrayDeque", "elementAt", "([Ljava/lang/Object;I)Ljava/lang/Object;"⟩ : MethodName) jdk_21_method_10_code 2 (some (.object "java/lang/Object")) :: ws) ({ frames := 0, cells := 0, slots := 0, locals := 0 } : Room)) (fun a U => a = #[(.ref o0), (.int (16 : Int32))] ∧ Z.Warmed39 U.vm ∧ U.heap = h0) (fun _ _ _ _ _ => True) (fun _ U o U' => ∃ v L, o = .returned v ∧ Qea16 Z o0 u20_e u21_e u22_e u23_e u24_e u25_e u26_e u27_e u28_e u29_e u30_e u31_e u32_e u33_e u34_e u35_e w9_hd kA h0 n0 v U'.heap L ∧ FrameEnd U o U' L ({ frames := 0, cells := 0, slots := 0, locals := 0 } : Room).cells ({ frames := 0, cells := 0, slots := 0, locals := 0 } : Room).slots) := by
  refine MetFree.of_bodySF (plainFor_of_name pn_java_util_ArrayDeque) hisR ?_
  intro p e s m args below meth c s₁ Bd hml0 hP hK
  obtain ⟨rfl, hZ, hh⟩ := hP
  have hx := Bd.exec
  have hby := Bd.bytes
  have hml : c.maxLocals = 2 := hml0
  have hown : s.vm.findClass "java/util/ArrayDeque" = some m.cls := findClass_of_methodNamed Bd.named
  have hnm := (name_of_methodNamed Bd.named Bd.method).1
  have hlk := BodyLoose.notSynchronized Bd
  have X0 : Stand p l e ({ frames := 0, cells := 0, slots := 0, locals := 0 } : Room) s m #[(.ref o0), (.int (16 : Int32))] below meth c s₁ [] 0 0 := Stand.of_body Bd
  have e0 : s₁.heap = h0 := by rw [← hh, Bd.state]; rfl
  have N0 := Fr.nil n0
  have pre0 : ∀ t, Steps p.tables e below (s₁.setTop (mkF m 0 #[.val (.ref o0), .val (.int (16 : Int32))] [])) t → Steps p.tables e below (s₁.setTop (entryFrame m #[(.ref o0), (.int (16 : Int32))] 2)) t := fun t k => castTop (ef_ea16 m o0) k
  obtain ⟨cl1, Ar1, qc1, S1, M1, Ha1, G1⟩ := id V_o0
  have hin2 : ¬ ((16 : Int32) < 0 ∨ cl1.slots.size ≤ ((16 : Int32)).toNatClampNeg) := inb_of S1 ⟨by decide, by decide⟩
  obtain ⟨fs, hr, hrun, hended, hW, hsame⟩ := X0.leave (v := some (.ref w9_hd)) (fun h => by rw [Bd.returns] at h; cases h) hlk
  refine ⟨_, _, pre0 _ ?_, hrun, hended, _, _, rfl, ?_, ⟨_, rfl⟩, hW, hsame.mono (by decide) (by decide)⟩
  · skip
    show Steps p.tables e below (s₁.setTop (mkF m 0 #[.val (.ref o0), .val (.int (16 : Int32))] [])) _
    refine XS.aloadN X0.here hx rfl (hb hby d10_0) rfl rfl ?_
    show Steps p.tables e below (s₁.setTop (mkF m 1 #[.val (.ref o0), .val (.int (16 : Int32))] [(.ref o0)])) _
    refine XS.iloadN X0.here hx rfl (hb hby d10_1) rfl ?_
    show Steps p.tables e below (s₁.setTop (mkF m 2 #[.val (.ref o0), .val (.int (16 : Int32))] [(.int (16 : Int32)), (.ref o0)])) _
    refine X0.aaload hx (j := (16 : Int32)) (v := (.ref w9_hd)) (by rw [e0]; exact Ar1.1) (State.isArrayOf_alike hZ.alike Ar1.2.1) rfl Ar1.2.2 hin2 (Has.at Ha1 hin2 rfl) (g := (mkF m 2 #[.val (.ref o0), .val (.int (16 : Int32))] [(.int (16 : Int32)), (.ref o0)])) rfl rfl (hb hby d10_2) _ ?_
    show Steps p.tables e below (s₁.setTop (mkF m 3 #[.val (.ref o0), .val (.int (16 : Int32))] [(.ref w9_hd)])) _
    exact X0.areturnOut hx rfl Bd.returns rfl (hb hby d10_3) hr
  · skip
    show Qea16 Z o0 u20_e u21_e u22_e u23_e u24_e u25_e u26_e u27_e u28_e u29_e u30_e u31_e u32_e u33_e u34_e u35_e w9_hd kA h0 n0 _ s₁.heap _
    rw [e0]
    exact ⟨N0, rfl, rfl⟩
theorem ef_pf16 (m : MethodId) (o0 : Addr) : entryFrame m #[(.ref o0)] 1 = mkF m 0 #[.val (.ref o0)] [] := by first | (simp [entryFrame, mkF, argsToLocals, Value.category]; done) | rfl
def Qpf16 (Z : State) (o0 : Addr) (w2_els : Addr) (u20_e : Value) (u21_e : Value) (u22_e : Value) (u23_e : Value) (u24_e : Value) (u25_e : Value) (u26_e : Value) (u27_e : Value) (u28_e : Value) (u29_e : Value) (u30_e : Value) (u31_e : Value) (u32_e : Value) (u33_e : Value) (u34_e : Value) (u35_e : Value) (w9_hd : Addr) (kA : ClassId) (h0 : Heap) (n0 : Nat) (v : Option Value) (h : Heap) (L : List Loc) : Prop := Fr n0 L ∧ v = some (.ref w9_hd) ∧ h = h0
set_option maxRecDepth 65536 in
set_option maxHeartbeats 40000000 in
theorem rmpf16 (l : Launch) (Z : State) (a0 : Array Value) (hw : ∀ d ∈ tables_1, d.before a0 Z = true) (ws : List Jvm.Cond) (o0 : Addr) (w2_els : Addr) (u20_e : Value) (u21_e : Value) (u22_e : Value) (u23_e : Value) (u24_e : Value) (u25_e : Value) (u26_e : Value) (u27_e : Value) (u28_e : Value) (u29_e : Value) (u30_e : Value) (u31_e : Value) (u32_e : Value) (u33_e : Value) (u34_e : Value) (u35_e : Value) (w9_hd : Addr) (kA : ClassId) (h0 : Heap) (n0 : Nat) (Z0 : n0 ≤ h0.size) (E_o0 : Exa Z h0 o0 "java/util/ArrayDeque") (F_elements_o0 : Fld Z h0 o0 "java/util/ArrayDeque" "elements" "[Ljava/lang/Object;" (.ref w2_els)) (F_head_o0 : Fld Z h0 o0 "java/util/ArrayDeque" "head" "I" (.int (16 : Int32))) (V_w2_els : Arv Z h0 w2_els kA (.object "java/lang/Object") (17 : Int32) [u20_e, u21_e, u22_e, u23_e, u24_e, u25_e, u26_e, u27_e, u28_e, u29_e, u30_e, u31_e, u32_e, u33_e, u34_e, u35_e, (.ref w9_hd)] .null) :
    MetFree l (⟨"java/util/ArrayDeque", "peekFirst", "()Ljava/lang/Object;"⟩ : MethodName) (head1 (Jvm.Cond.code (⟨"java/util/ArrayDeque", "peekFirst", "()Ljava/lang/Object;"⟩ : MethodName) jdk_21_method_24_code 1 (some (.object "java/lang/Object")) :: ws) ({ frames := 1, cells := 0, slots := 0, locals := 13 } : Room)) (fun a U => a = #[(.ref o0)] ∧ Z.Warmed39 U.vm ∧ U.heap = h0) (fun _ _ _ _ _ => True) (fun _ U o U' => ∃ v L, o = .returned v ∧ Qpf16 Z o0 w2_els u20_e u21_e u22_e u23_e u24_e u25_e u26_e u27_e u28_e u29_e u30_e u31_e u32_e u33_e u34_e u35_e w9_hd kA h0 n0 v U'.heap L ∧ FrameEnd U o U' L ({ frames := 1, cells := 0, slots := 0, locals := 13 } : Room).cells ({ frames := 1, cells := 0, slots := 0, locals := 13 } : Room).slots) := by
  refine MetFree.of_bodySF (plainFor_of_name pn_java_util_ArrayDeque) hisR ?_
  intro p e s m args below meth c s₁ Bd hml0 hP hK
  obtain ⟨rfl, hZ, hh⟩ := hP
  have hx := Bd.exec
  have hby := Bd.bytes
  have hml : c.maxLocals = 1 := hml0
  have hown : s.vm.findClass "java/util/ArrayDeque" = some m.cls := findClass_of_methodNamed Bd.named
  have hnm := (name_of_methodNamed Bd.named Bd.method).1
  have hlk := BodyLoose.notSynchronized Bd
  have X0 : Stand p l e ({ frames := 1, cells := 0, slots := 0, locals := 13 } : Room) s m #[(.ref o0)] below meth c s₁ [] 0 0 := Stand.of_body Bd
  have e0 : s₁.heap = h0 := by rw [← hh, Bd.state]; rfl
  have N0 := Fr.nil n0
  have pre0 : ∀ t, Steps p.tables e below (s₁.setTop (mkF m 0 #[.val (.ref o0)] [])) t → Steps p.tables e below (s₁.setTop (entryFrame m #[(.ref o0)] 1)) t := fun t k => castTop (ef_pf16 m o0) k
  obtain ⟨T1, X1, e1, st1⟩ := getF X0 hx hZ hown (host := "") (Or.inl (hw _ (List.mem_of_getElem? (i := 24) rfl))) Via.refl e0 F_elements_o0 (g := (mkF m 1 #[.val (.ref o0)] [(.ref o0)])) rfl rfl (hb hby d9_1)
  obtain ⟨T2, X2, e2, st2⟩ := getF X1 hx hZ hown (host := "") (Or.inl (hw _ (List.mem_of_getElem? (i := 64) rfl))) Via.refl e1 F_head_o0 (g := (mkF m 5 #[.val (.ref o0)] [(.ref o0), (.ref w2_els)])) rfl rfl (hb hby d9_5)
  obtain ⟨vr3, _, ⟨T3, L3, k3, n3⟩, -, X3, ⟨Lc3, hQ3, l3, y3, z3⟩, st3⟩ := Jvm.LawKit.callS X2 hx (y := (⟨"java/util/ArrayDeque", "elementAt", "([Ljava/lang/Object;I)Ljava/lang/Object;"⟩ : MethodName)) hown (mvT hZ (hw _ (List.mem_of_getElem? (i := 66) rfl))) (mvT hZ (hw _ (List.mem_of_getElem? (i := 67) rfl))) (mvT hZ (hw _ (List.mem_of_getElem? (i := 11) rfl))) (mvT hZ (hw _ (List.mem_of_getElem? (i := 68) rfl))) (by decide) (backOf (W := 0) (rmea16 l Z a0 hw [] w2_els u20_e u21_e u22_e u23_e u24_e u25_e u26_e u27_e u28_e u29_e u30_e u31_e u32_e u33_e u34_e u35_e w9_hd kA h0 n0 Z0 V_w2_els) hZ (hw _ (List.mem_of_getElem? (i := 68) rfl)) (hw _ (List.mem_of_getElem? (i := 11) rfl)) (by decide) (by decide)) (g := (mkF m 8 #[.val (.ref o0)] [(.int (16 : Int32)), (.ref w2_els)])) rfl (by rw [hml]; rfl) (argsL := [(.ref w2_els), (.int (16 : Int32))]) (rest := []) (lenOf pd___Ljava_lang_Object_I_Ljava_lang_Object_ rfl) rfl (by show 2 * 0 + _ ≤ _; exact Nat.le_of_eq rfl) (hb hby d9_8) (fun _ _ => ⟨rfl, e2, (by decide : 0 + 0 ≤ _), (by decide : 0 + 0 ≤ _)⟩)
  dsimp only [Pt.U, Pt.locs, Pt.cells, Pt.slots] at X3 l3 y3 z3 st3 hQ3
  subst l3 y3 z3
  have N3q := (show _ ∧ _ ∧ _ from hQ3).1
  have hv3 := (show _ ∧ _ ∧ _ from hQ3).2.1
  have e3 := (show _ ∧ _ ∧ _ from hQ3).2.2
  clear hQ3
  subst hv3
  have N3 := Fr.app N0 N3q
  obtain ⟨fs, hr, hrun, hended, hW, hsame⟩ := X3.leave (v := some (.ref w9_hd)) (fun h => by rw [Bd.returns] at h; cases h) hlk
  refine ⟨_, _, pre0 _ ?_, hrun, hended, _, _, rfl, ?_, ⟨_, rfl⟩, hW, hsame.mono (by decide) (by decide)⟩
  · skip
    show Steps p.tables e below (s₁.setTop (mkF m 0 #[.val (.ref o0)] [])) _
    refine XS.aloadN X0.here hx rfl (hb hby d9_0) rfl rfl ?_
    show Steps p.tables e below (s₁.setTop (mkF m 1 #[.val (.ref o0)] [(.ref o0)])) _
    refine st1 _ ?_
    show Steps p.tables e below (T1.setTop (mkF m 4 #[.val (.ref o0)] [(.ref w2_els)])) _
    refine XS.aloadN X1.here hx rfl (hb hby d9_4) rfl rfl ?_
    show Steps p.tables e below (T1.setTop (mkF m 5 #[.val (.ref o0)] [(.ref o0), (.ref w2_els)])) _
    refine st2 _ ?_
    show Steps p.tables e below (T2.setTop (mkF m 8 #[.val (.ref o0)] [(.int (16 : Int32)), (.ref w2_els)])) _
    refine st3 _ ?_
    show Steps p.tables e below (T3.setTop (mkF m 11 #[.val (.ref o0)] [(.ref w9_hd)])) _
    exact X3.areturnOut hx rfl Bd.returns rfl (hb hby d9_11) hr
  · skip
    show Qpf16 Z o0 w2_els u20_e u21_e u22_e u23_e u24_e u25_e u26_e u27_e u28_e u29_e u30_e u31_e u32_e u33_e u34_e u35_e w9_hd kA h0 n0 _ T3.heap _
    rw [e3]
    exact ⟨N3, rfl, rfl⟩
theorem ef_pk16 (m : MethodId) (o0 : Addr) : entryFrame m #[(.ref o0)] 1 = mkF m 0 #[.val (.ref o0)] [] := by first | (simp [entryFrame, mkF, argsToLocals, Value.category]; done) | rfl
def Qpk16 (Z : State) (o0 : Addr) (w2_els : Addr) (u20_e : Value) (u21_e : Value) (u22_e : Value) (u23_e : Value) (u24_e : Value) (u25_e : Value) (u26_e : Value) (u27_e : Value) (u28_e : Value) (u29_e : Value) (u30_e : Value) (u31_e : Value) (u32_e : Value) (u33_e : Value) (u34_e : Value) (u35_e : Value) (w9_hd : Addr) (kA : ClassId) (h0 : Heap) (n0 : Nat) (v : Option Value) (h : Heap) (L : List Loc) : Prop := Fr n0 L ∧ v = some (.ref w9_hd) ∧ h = h0
set_option maxRecDepth 65536 in
set_option maxHeartbeats 40000000 in
theorem rmpk16 (l : Launch) (Z : State) (a0 : Array Value) (hw : ∀ d ∈ tables_1, d.before a0 Z = true) (ws : List Jvm.Cond) (o0 : Addr) (w2_els : Addr) (u20_e : Value) (u21_e : Value) (u22_e : Value) (u23_e : Value) (u24_e : Value) (u25_e : Value) (u26_e : Value) (u27_e : Value) (u28_e : Value) (u29_e : Value) (u30_e : Value) (u31_e : Value) (u32_e : Value) (u33_e : Value) (u34_e : Value) (u35_e : Value) (w9_hd : Addr) (kA : ClassId) (h0 : Heap) (n0 : Nat) (Z0 : n0 ≤ h0.size) (E_o0 : Exa Z h0 o0 "java/util/ArrayDeque") (F_elements_o0 : Fld Z h0 o0 "java/util/ArrayDeque" "elements" "[Ljava/lang/Object;" (.ref w2_els)) (F_head_o0 : Fld Z h0 o0 "java/util/ArrayDeque" "head" "I" (.int (16 : Int32))) (V_w2_els : Arv Z h0 w2_els kA (.object "java/lang/Object") (17 : Int32) [u20_e, u21_e, u22_e, u23_e, u24_e, u25_e, u26_e, u27_e, u28_e, u29_e, u30_e, u31_e, u32_e, u33_e, u34_e, u35_e, (.ref w9_hd)] .null) :
    MetFree l (⟨"java/util/ArrayDeque", "peek", "()Ljava/lang/Object;"⟩ : MethodName) (head1 (Jvm.Cond.code (⟨"java/util/ArrayDeque", "peek", "()Ljava/lang/Object;"⟩ : MethodName) jdk_21_method_33_code 1 (some (.object "java/lang/Object")) :: ws) ({ frames := 2, cells := 0, slots := 0, locals := 25 } : Room)) (fun a U => a = #[(.ref o0)] ∧ Z.Warmed39 U.vm ∧ U.heap = h0) (fun _ _ _ _ _ => True) (fun _ U o U' => ∃ v L, o = .returned v ∧ Qpk16 Z o0 w2_els u20_e u21_e u22_e u23_e u24_e u25_e u26_e u27_e u28_e u29_e u30_e u31_e u32_e u33_e u34_e u35_e w9_hd kA h0 n0 v U'.heap L ∧ FrameEnd U o U' L ({ frames := 2, cells := 0, slots := 0, locals := 25 } : Room).cells ({ frames := 2, cells := 0, slots := 0, locals := 25 } : Room).slots) := by
  refine MetFree.of_bodySF (plainFor_of_name pn_java_util_ArrayDeque) hisR ?_
  intro p e s m args below meth c s₁ Bd hml0 hP hK
  obtain ⟨rfl, hZ, hh⟩ := hP
  have hx := Bd.exec
  have hby := Bd.bytes
  have hml : c.maxLocals = 1 := hml0
  have hown : s.vm.findClass "java/util/ArrayDeque" = some m.cls := findClass_of_methodNamed Bd.named
  have hnm := (name_of_methodNamed Bd.named Bd.method).1
  have hlk := BodyLoose.notSynchronized Bd
  have X0 : Stand p l e ({ frames := 2, cells := 0, slots := 0, locals := 25 } : Room) s m #[(.ref o0)] below meth c s₁ [] 0 0 := Stand.of_body Bd
  have e0 : s₁.heap = h0 := by rw [← hh, Bd.state]; rfl
  have N0 := Fr.nil n0
  have pre0 : ∀ t, Steps p.tables e below (s₁.setTop (mkF m 0 #[.val (.ref o0)] [])) t → Steps p.tables e below (s₁.setTop (entryFrame m #[(.ref o0)] 1)) t := fun t k => castTop (ef_pk16 m o0) k
  obtain ⟨cq1, kq1, q1a, q1b, q1c⟩ := isOf hZ e0 E_o0
  obtain ⟨vr1, _, ⟨T1, L1, k1, n1⟩, -, X1, ⟨Lc1, hQ1, l1, y1, z1⟩, st1⟩ := X0.virtualBack hx (y := (⟨"java/util/ArrayDeque", "peekFirst", "()Ljava/lang/Object;"⟩ : MethodName)) (z := (⟨"java/util/ArrayDeque", "peekFirst", "()Ljava/lang/Object;"⟩ : MethodName)) hown (mvT hZ (hw _ (List.mem_of_getElem? (i := 59) rfl))) (mvT hZ (hw _ (List.mem_of_getElem? (i := 60) rfl))) (notFace_of_selects (args := #[]) (mvT hZ (hw _ (List.mem_of_getElem? (i := 62) rfl)))) (mvT hZ (hw _ (List.mem_of_getElem? (i := 62) rfl))) (mvT hZ (hw _ (List.mem_of_getElem? (i := 61) rfl))) (by decide) (backOf (W := 0) (rmpf16 l Z a0 hw [] o0 w2_els u20_e u21_e u22_e u23_e u24_e u25_e u26_e u27_e u28_e u29_e u30_e u31_e u32_e u33_e u34_e u35_e w9_hd kA h0 n0 Z0 E_o0 F_elements_o0 F_head_o0 V_w2_els) hZ (hw _ (List.mem_of_getElem? (i := 63) rfl)) (hw _ (List.mem_of_getElem? (i := 11) rfl)) (by decide) (by decide)) q1a q1c (g := (mkF m 1 #[.val (.ref o0)] [(.ref o0)])) rfl (by rw [hml]; rfl) (Steps.refl _) (argsL := []) (rest := []) (lenOf pd___Ljava_lang_Object_ rfl) rfl (by show 2 * 0 + _ ≤ _; exact Nat.le_of_eq rfl) (hb hby d8_1) (fun _ _ => ⟨rfl, e0, (by decide : 0 + 0 ≤ _), (by decide : 0 + 0 ≤ _)⟩)
  dsimp only [Pt.U, Pt.locs, Pt.cells, Pt.slots] at X1 l1 y1 z1 st1 hQ1
  subst l1 y1 z1
  have N1q := (show _ ∧ _ ∧ _ from hQ1).1
  have hv1 := (show _ ∧ _ ∧ _ from hQ1).2.1
  have e1 := (show _ ∧ _ ∧ _ from hQ1).2.2
  clear hQ1
  subst hv1
  have N1 := Fr.app N0 N1q
  obtain ⟨fs, hr, hrun, hended, hW, hsame⟩ := X1.leave (v := some (.ref w9_hd)) (fun h => by rw [Bd.returns] at h; cases h) hlk
  refine ⟨_, _, pre0 _ ?_, hrun, hended, _, _, rfl, ?_, ⟨_, rfl⟩, hW, hsame.mono (by decide) (by decide)⟩
  · skip
    show Steps p.tables e below (s₁.setTop (mkF m 0 #[.val (.ref o0)] [])) _
    refine XS.aloadN X0.here hx rfl (hb hby d8_0) rfl rfl ?_
    show Steps p.tables e below (s₁.setTop (mkF m 1 #[.val (.ref o0)] [(.ref o0)])) _
    refine st1.trans ?_
    show Steps p.tables e below (T1.setTop (mkF m 4 #[.val (.ref o0)] [(.ref w9_hd)])) _
    exact X1.areturnOut hx rfl Bd.returns rfl (hb hby d8_4) hr
  · skip
    show Qpk16 Z o0 w2_els u20_e u21_e u22_e u23_e u24_e u25_e u26_e u27_e u28_e u29_e u30_e u31_e u32_e u33_e u34_e u35_e w9_hd kA h0 n0 _ T1.heap _
    rw [e1]
    exact ⟨N1, rfl, rfl⟩
theorem ef_qp16 (m : MethodId) (o0 : Addr) : entryFrame m #[(.ref o0)] 1 = mkF m 0 #[.val (.ref o0)] [] := by first | (simp [entryFrame, mkF, argsToLocals, Value.category]; done) | rfl
def Qqp16 (Z : State) (o0 : Addr) (w1_dq : Addr) (w2_els : Addr) (u20_e : Value) (u21_e : Value) (u22_e : Value) (u23_e : Value) (u24_e : Value) (u25_e : Value) (u26_e : Value) (u27_e : Value) (u28_e : Value) (u29_e : Value) (u30_e : Value) (u31_e : Value) (u32_e : Value) (u33_e : Value) (u34_e : Value) (u35_e : Value) (w9_hd : Addr) (kA : ClassId) (h0 : Heap) (n0 : Nat) (v : Option Value) (h : Heap) (L : List Loc) : Prop := Fr n0 L ∧ v = some (.ref w9_hd) ∧ h = h0
set_option maxRecDepth 65536 in
set_option maxHeartbeats 40000000 in
theorem rmqp16 (l : Launch) (Z : State) (a0 : Array Value) (hw : ∀ d ∈ tables_1, d.before a0 Z = true) (ws : List Jvm.Cond) (o0 : Addr) (w1_dq : Addr) (w2_els : Addr) (u20_e : Value) (u21_e : Value) (u22_e : Value) (u23_e : Value) (u24_e : Value) (u25_e : Value) (u26_e : Value) (u27_e : Value) (u28_e : Value) (u29_e : Value) (u30_e : Value) (u31_e : Value) (u32_e : Value) (u33_e : Value) (u34_e : Value) (u35_e : Value) (w9_hd : Addr) (kA : ClassId) (h0 : Heap) (n0 : Nat) (Z0 : n0 ≤ h0.size) (F_events_o0 : Fld Z h0 o0 "com/example/dispatch_by_catalog/dispatchbycatalog/subscriptions/EventQueue" "events" "Ljava/util/Deque;" (.ref w1_dq)) (E_w1_dq : Exa Z h0 w1_dq "java/util/ArrayDeque") (F_elements_w1_dq : Fld Z h0 w1_dq "java/util/ArrayDeque" "elements" "[Ljava/lang/Object;" (.ref w2_els)) (F_head_w1_dq : Fld Z h0 w1_dq "java/util/ArrayDeque" "head" "I" (.int (16 : Int32))) (V_w2_els : Arv Z h0 w2_els kA (.object "java/lang/Object") (17 : Int32) [u20_e, u21_e, u22_e, u23_e, u24_e, u25_e, u26_e, u27_e, u28_e, u29_e, u30_e, u31_e, u32_e, u33_e, u34_e, u35_e, (.ref w9_hd)] .null) (E_w9_hd : Exa Z h0 w9_hd "com/example/dispatch_by_catalog/dispatchbycatalog/subscriptions/DroppedEvents") :
    MetFree l (⟨"com/example/dispatch_by_catalog/dispatchbycatalog/subscriptions/EventQueue", "peek", "()Lcom/example/dispatch_by_catalog/dispatchbycatalog/subscriptions/Event;"⟩ : MethodName) (head1 (Jvm.Cond.code (⟨"com/example/dispatch_by_catalog/dispatchbycatalog/subscriptions/EventQueue", "peek", "()Lcom/example/dispatch_by_catalog/dispatchbycatalog/subscriptions/Event;"⟩ : MethodName) prog_41_method_5_code 1 (some (.object "com/example/dispatch_by_catalog/dispatchbycatalog/subscriptions/Event")) :: ws) ({ frames := 3, cells := 0, slots := 0, locals := 37 } : Room)) (fun a U => a = #[(.ref o0)] ∧ Z.Warmed39 U.vm ∧ U.heap = h0) (fun _ _ _ _ _ => True) (fun _ U o U' => ∃ v L, o = .returned v ∧ Qqp16 Z o0 w1_dq w2_els u20_e u21_e u22_e u23_e u24_e u25_e u26_e u27_e u28_e u29_e u30_e u31_e u32_e u33_e u34_e u35_e w9_hd kA h0 n0 v U'.heap L ∧ FrameEnd U o U' L ({ frames := 3, cells := 0, slots := 0, locals := 37 } : Room).cells ({ frames := 3, cells := 0, slots := 0, locals := 37 } : Room).slots) := by
  refine MetFree.of_bodySF (plainFor_of_name pn_com_example_dispatch_by_catalog_dispatchbycatalog_subscriptions_EventQueue) hisR ?_
  intro p e s m args below meth c s₁ Bd hml0 hP hK
  obtain ⟨rfl, hZ, hh⟩ := hP
  have hx := Bd.exec
  have hby := Bd.bytes
  have hml : c.maxLocals = 1 := hml0
  have hown : s.vm.findClass "com/example/dispatch_by_catalog/dispatchbycatalog/subscriptions/EventQueue" = some m.cls := findClass_of_methodNamed Bd.named
  have hnm := (name_of_methodNamed Bd.named Bd.method).1
  have hlk := BodyLoose.notSynchronized Bd
  have X0 : Stand p l e ({ frames := 3, cells := 0, slots := 0, locals := 37 } : Room) s m #[(.ref o0)] below meth c s₁ [] 0 0 := Stand.of_body Bd
  have e0 : s₁.heap = h0 := by rw [← hh, Bd.state]; rfl
  have N0 := Fr.nil n0
  have pre0 : ∀ t, Steps p.tables e below (s₁.setTop (mkF m 0 #[.val (.ref o0)] [])) t → Steps p.tables e below (s₁.setTop (entryFrame m #[(.ref o0)] 1)) t := fun t k => castTop (ef_qp16 m o0) k
  obtain ⟨T1, X1, e1, st1⟩ := getF X0 hx hZ hown (host := "") (Or.inl (hw _ (List.mem_of_getElem? (i := 26) rfl))) Via.refl e0 F_events_o0 (g := (mkF m 1 #[.val (.ref o0)] [(.ref o0)])) rfl rfl (hb hby d7_1)
  obtain ⟨cq2, kq2, q2a, q2b, q2c⟩ := isOf hZ e1 E_w1_dq
  obtain ⟨vr2, _, ⟨T2, L2, k2, n2⟩, -, X2, ⟨Lc2, hQ2, l2, y2, z2⟩, st2⟩ := X1.interfaceBack hx (xi := (⟨"java/util/Deque", "peek", "()Ljava/lang/Object;"⟩ : MethodName)) (y := (⟨"java/util/ArrayDeque", "peek", "()Ljava/lang/Object;"⟩ : MethodName)) hown (mvT hZ (hw _ (List.mem_of_getElem? (i := 50) rfl))) (mvT hZ (hw _ (List.mem_of_getElem? (i := 51) rfl))) (mvT hZ (hw _ (List.mem_of_getElem? (i := 52) rfl))) (mvT hZ (hw _ (List.mem_of_getElem? (i := 53) rfl))) (mvT hZ (hw _ (List.mem_of_getElem? (i := 54) rfl))) (mvT hZ (hw _ (List.mem_of_getElem? (i := 55) rfl))) (mvT hZ (hw _ (List.mem_of_getElem? (i := 56) rfl))) (mvT hZ (hw _ (List.mem_of_getElem? (i := 57) rfl))) (by decide) (backOf (W := 0) (rmpk16 l Z a0 hw [] w1_dq w2_els u20_e u21_e u22_e u23_e u24_e u25_e u26_e u27_e u28_e u29_e u30_e u31_e u32_e u33_e u34_e u35_e w9_hd kA h0 n0 Z0 E_w1_dq F_elements_w1_dq F_head_w1_dq V_w2_els) hZ (hw _ (List.mem_of_getElem? (i := 58) rfl)) (hw _ (List.mem_of_getElem? (i := 11) rfl)) (by decide) (by decide)) q2a q2b q2c (g := (mkF m 4 #[.val (.ref o0)] [(.ref w1_dq)])) rfl (by rw [hml]; rfl) (Steps.refl _) (argsL := []) (rest := []) (lenOf pd___Ljava_lang_Object_ rfl) rfl (by show 2 * 0 + _ ≤ _; exact Nat.le_of_eq rfl) (hb hby d7_4) (fun _ _ => ⟨rfl, e1, (by decide : 0 + 0 ≤ _), (by decide : 0 + 0 ≤ _)⟩)
  dsimp only [Pt.U, Pt.locs, Pt.cells, Pt.slots] at X2 l2 y2 z2 st2 hQ2
  subst l2 y2 z2
  have N2q := (show _ ∧ _ ∧ _ from hQ2).1
  have hv2 := (show _ ∧ _ ∧ _ from hQ2).2.1
  have e2 := (show _ ∧ _ ∧ _ from hQ2).2.2
  clear hQ2
  subst hv2
  have N2 := Fr.app N0 N2q
  obtain ⟨T3, X3, e3, st3⟩ := castY X2 hx hZ hown (hw _ (List.mem_of_getElem? (i := 99) rfl)) e2 (Ins.of_exa E_w9_hd (hw _ (List.mem_of_getElem? (i := 97) rfl))) (g := (mkF m 9 #[.val (.ref o0)] [(.ref w9_hd)])) rfl rfl (hb hby d7_9)
  obtain ⟨fs, hr, hrun, hended, hW, hsame⟩ := X3.leave (v := some (.ref w9_hd)) (fun h => by rw [Bd.returns] at h; cases h) hlk
  refine ⟨_, _, pre0 _ ?_, hrun, hended, _, _, rfl, ?_, ⟨_, rfl⟩, hW, hsame.mono (by decide) (by decide)⟩
  · skip
    show Steps p.tables e below (s₁.setTop (mkF m 0 #[.val (.ref o0)] [])) _
    refine XS.aloadN X0.here hx rfl (hb hby d7_0) rfl rfl ?_
    show Steps p.tables e below (s₁.setTop (mkF m 1 #[.val (.ref o0)] [(.ref o0)])) _
    refine st1 _ ?_
    show Steps p.tables e below (T1.setTop (mkF m 4 #[.val (.ref o0)] [(.ref w1_dq)])) _
    refine st2.trans ?_
    show Steps p.tables e below (T2.setTop (mkF m 9 #[.val (.ref o0)] [(.ref w9_hd)])) _
    refine st3 _ ?_
    show Steps p.tables e below (T3.setTop (mkF m 12 #[.val (.ref o0)] [(.ref w9_hd)])) _
    exact X3.areturnOut hx rfl Bd.returns rfl (hb hby d7_12) hr
  · skip
    show Qqp16 Z o0 w1_dq w2_els u20_e u21_e u22_e u23_e u24_e u25_e u26_e u27_e u28_e u29_e u30_e u31_e u32_e u33_e u34_e u35_e w9_hd kA h0 n0 _ T3.heap _
    rw [e3]
    exact ⟨N2, rfl, rfl⟩
theorem ef_eaN (m : MethodId) (o0 : Addr) : entryFrame m #[(.ref o0), (.int (0 : Int32))] 2 = mkF m 0 #[.val (.ref o0), .val (.int (0 : Int32))] [] := by first | (simp [entryFrame, mkF, argsToLocals, Value.category]; done) | rfl
def QeaN (Z : State) (o0 : Addr) (u21_e : Value) (u22_e : Value) (u23_e : Value) (u24_e : Value) (u25_e : Value) (u26_e : Value) (u27_e : Value) (u28_e : Value) (u29_e : Value) (u30_e : Value) (u31_e : Value) (u32_e : Value) (u33_e : Value) (u34_e : Value) (u35_e : Value) (u36_e : Value) (kA : ClassId) (h0 : Heap) (n0 : Nat) (v : Option Value) (h : Heap) (L : List Loc) : Prop := Fr n0 L ∧ v = some .null ∧ h = h0
set_option maxRecDepth 65536 in
set_option maxHeartbeats 40000000 in
theorem rmeaN (l : Launch) (Z : State) (a0 : Array Value) (hw : ∀ d ∈ tables_1, d.before a0 Z = true) (ws : List Jvm.Cond) (o0 : Addr) (u21_e : Value) (u22_e : Value) (u23_e : Value) (u24_e : Value) (u25_e : Value) (u26_e : Value) (u27_e : Value) (u28_e : Value) (u29_e : Value) (u30_e : Value) (u31_e : Value) (u32_e : Value) (u33_e : Value) (u34_e : Value) (u35_e : Value) (u36_e : Value) (kA : ClassId) (h0 : Heap) (n0 : Nat) (Z0 : n0 ≤ h0.size) (V_o0 : Arv Z h0 o0 kA (.object "java/lang/Object") (17 : Int32) [.null, u21_e, u22_e, u23_e, u24_e, u25_e, u26_e, u27_e, u28_e, u29_e, u30_e, u31_e, u32_e, u33_e, u34_e, u35_e, u36_e] .null) :
    MetFree l (⟨"java/util/ArrayDeque", "elementAt", "([Ljava/lang/Object;I)Ljava/lang/Object;"⟩ : MethodName) (head1 (Jvm.Cond.code (⟨"java/util/ArrayDeque", "elementAt", "([Ljava/lang/Object;I)Ljava/lang/Object;"⟩ : MethodName) jdk_21_method_10_code 2 (some (.object "java/lang/Object")) :: ws) ({ frames := 0, cells := 0, slots := 0, locals := 0 } : Room)) (fun a U => a = #[(.ref o0), (.int (0 : Int32))] ∧ Z.Warmed39 U.vm ∧ U.heap = h0) (fun _ _ _ _ _ => True) (fun _ U o U' => ∃ v L, o = .returned v ∧ QeaN Z o0 u21_e u22_e u23_e u24_e u25_e u26_e u27_e u28_e u29_e u30_e u31_e u32_e u33_e u34_e u35_e u36_e kA h0 n0 v U'.heap L ∧ FrameEnd U o U' L ({ frames := 0, cells := 0, slots := 0, locals := 0 } : Room).cells ({ frames := 0, cells := 0, slots := 0, locals := 0 } : Room).slots) := by
  refine MetFree.of_bodySF (plainFor_of_name pn_java_util_ArrayDeque) hisR ?_
  intro p e s m args below meth c s₁ Bd hml0 hP hK
  obtain ⟨rfl, hZ, hh⟩ := hP
  have hx := Bd.exec
  have hby := Bd.bytes
  have hml : c.maxLocals = 2 := hml0
  have hown : s.vm.findClass "java/util/ArrayDeque" = some m.cls := findClass_of_methodNamed Bd.named
  have hnm := (name_of_methodNamed Bd.named Bd.method).1
  have hlk := BodyLoose.notSynchronized Bd
  have X0 : Stand p l e ({ frames := 0, cells := 0, slots := 0, locals := 0 } : Room) s m #[(.ref o0), (.int (0 : Int32))] below meth c s₁ [] 0 0 := Stand.of_body Bd
  have e0 : s₁.heap = h0 := by rw [← hh, Bd.state]; rfl
  have N0 := Fr.nil n0
  have pre0 : ∀ t, Steps p.tables e below (s₁.setTop (mkF m 0 #[.val (.ref o0), .val (.int (0 : Int32))] [])) t → Steps p.tables e below (s₁.setTop (entryFrame m #[(.ref o0), (.int (0 : Int32))] 2)) t := fun t k => castTop (ef_eaN m o0) k
  obtain ⟨cl1, Ar1, qc1, S1, M1, Ha1, G1⟩ := id V_o0
  have hin2 : ¬ ((0 : Int32) < 0 ∨ cl1.slots.size ≤ ((0 : Int32)).toNatClampNeg) := inb_of S1 ⟨by decide, by decide⟩
  obtain ⟨fs, hr, hrun, hended, hW, hsame⟩ := X0.leave (v := some .null) (fun h => by rw [Bd.returns] at h; cases h) hlk
  refine ⟨_, _, pre0 _ ?_, hrun, hended, _, _, rfl, ?_, ⟨_, rfl⟩, hW, hsame.mono (by decide) (by decide)⟩
  · skip
    show Steps p.tables e below (s₁.setTop (mkF m 0 #[.val (.ref o0), .val (.int (0 : Int32))] [])) _
    refine XS.aloadN X0.here hx rfl (hb hby d10_0) rfl rfl ?_
    show Steps p.tables e below (s₁.setTop (mkF m 1 #[.val (.ref o0), .val (.int (0 : Int32))] [(.ref o0)])) _
    refine XS.iloadN X0.here hx rfl (hb hby d10_1) rfl ?_
    show Steps p.tables e below (s₁.setTop (mkF m 2 #[.val (.ref o0), .val (.int (0 : Int32))] [(.int (0 : Int32)), (.ref o0)])) _
    refine X0.aaload hx (j := (0 : Int32)) (v := .null) (by rw [e0]; exact Ar1.1) (State.isArrayOf_alike hZ.alike Ar1.2.1) rfl Ar1.2.2 hin2 (Has.at Ha1 hin2 rfl) (g := (mkF m 2 #[.val (.ref o0), .val (.int (0 : Int32))] [(.int (0 : Int32)), (.ref o0)])) rfl rfl (hb hby d10_2) _ ?_
    show Steps p.tables e below (s₁.setTop (mkF m 3 #[.val (.ref o0), .val (.int (0 : Int32))] [.null])) _
    exact X0.areturnOut hx rfl Bd.returns rfl (hb hby d10_3) hr
  · skip
    show QeaN Z o0 u21_e u22_e u23_e u24_e u25_e u26_e u27_e u28_e u29_e u30_e u31_e u32_e u33_e u34_e u35_e u36_e kA h0 n0 _ s₁.heap _
    rw [e0]
    exact ⟨N0, rfl, rfl⟩
theorem ef_pfN (m : MethodId) (o0 : Addr) : entryFrame m #[(.ref o0)] 1 = mkF m 0 #[.val (.ref o0)] [] := by first | (simp [entryFrame, mkF, argsToLocals, Value.category]; done) | rfl
def QpfN (Z : State) (o0 : Addr) (w2_els : Addr) (u21_e : Value) (u22_e : Value) (u23_e : Value) (u24_e : Value) (u25_e : Value) (u26_e : Value) (u27_e : Value) (u28_e : Value) (u29_e : Value) (u30_e : Value) (u31_e : Value) (u32_e : Value) (u33_e : Value) (u34_e : Value) (u35_e : Value) (u36_e : Value) (kA : ClassId) (h0 : Heap) (n0 : Nat) (v : Option Value) (h : Heap) (L : List Loc) : Prop := Fr n0 L ∧ v = some .null ∧ h = h0
set_option maxRecDepth 65536 in
set_option maxHeartbeats 40000000 in
theorem rmpfN (l : Launch) (Z : State) (a0 : Array Value) (hw : ∀ d ∈ tables_1, d.before a0 Z = true) (ws : List Jvm.Cond) (o0 : Addr) (w2_els : Addr) (u21_e : Value) (u22_e : Value) (u23_e : Value) (u24_e : Value) (u25_e : Value) (u26_e : Value) (u27_e : Value) (u28_e : Value) (u29_e : Value) (u30_e : Value) (u31_e : Value) (u32_e : Value) (u33_e : Value) (u34_e : Value) (u35_e : Value) (u36_e : Value) (kA : ClassId) (h0 : Heap) (n0 : Nat) (Z0 : n0 ≤ h0.size) (E_o0 : Exa Z h0 o0 "java/util/ArrayDeque") (F_elements_o0 : Fld Z h0 o0 "java/util/ArrayDeque" "elements" "[Ljava/lang/Object;" (.ref w2_els)) (F_head_o0 : Fld Z h0 o0 "java/util/ArrayDeque" "head" "I" (.int (0 : Int32))) (V_w2_els : Arv Z h0 w2_els kA (.object "java/lang/Object") (17 : Int32) [.null, u21_e, u22_e, u23_e, u24_e, u25_e, u26_e, u27_e, u28_e, u29_e, u30_e, u31_e, u32_e, u33_e, u34_e, u35_e, u36_e] .null) :
    MetFree l (⟨"java/util/ArrayDeque", "peekFirst", "()Ljava/lang/Object;"⟩ : MethodName) (head1 (Jvm.Cond.code (⟨"java/util/ArrayDeque", "peekFirst", "()Ljava/lang/Object;"⟩ : MethodName) jdk_21_method_24_code 1 (some (.object "java/lang/Object")) :: ws) ({ frames := 1, cells := 0, slots := 0, locals := 13 } : Room)) (fun a U => a = #[(.ref o0)] ∧ Z.Warmed39 U.vm ∧ U.heap = h0) (fun _ _ _ _ _ => True) (fun _ U o U' => ∃ v L, o = .returned v ∧ QpfN Z o0 w2_els u21_e u22_e u23_e u24_e u25_e u26_e u27_e u28_e u29_e u30_e u31_e u32_e u33_e u34_e u35_e u36_e kA h0 n0 v U'.heap L ∧ FrameEnd U o U' L ({ frames := 1, cells := 0, slots := 0, locals := 13 } : Room).cells ({ frames := 1, cells := 0, slots := 0, locals := 13 } : Room).slots) := by
  refine MetFree.of_bodySF (plainFor_of_name pn_java_util_ArrayDeque) hisR ?_
  intro p e s m args below meth c s₁ Bd hml0 hP hK
  obtain ⟨rfl, hZ, hh⟩ := hP
  have hx := Bd.exec
  have hby := Bd.bytes
  have hml : c.maxLocals = 1 := hml0
  have hown : s.vm.findClass "java/util/ArrayDeque" = some m.cls := findClass_of_methodNamed Bd.named
  have hnm := (name_of_methodNamed Bd.named Bd.method).1
  have hlk := BodyLoose.notSynchronized Bd
  have X0 : Stand p l e ({ frames := 1, cells := 0, slots := 0, locals := 13 } : Room) s m #[(.ref o0)] below meth c s₁ [] 0 0 := Stand.of_body Bd
  have e0 : s₁.heap = h0 := by rw [← hh, Bd.state]; rfl
  have N0 := Fr.nil n0
  have pre0 : ∀ t, Steps p.tables e below (s₁.setTop (mkF m 0 #[.val (.ref o0)] [])) t → Steps p.tables e below (s₁.setTop (entryFrame m #[(.ref o0)] 1)) t := fun t k => castTop (ef_pfN m o0) k
  obtain ⟨T1, X1, e1, st1⟩ := getF X0 hx hZ hown (host := "") (Or.inl (hw _ (List.mem_of_getElem? (i := 24) rfl))) Via.refl e0 F_elements_o0 (g := (mkF m 1 #[.val (.ref o0)] [(.ref o0)])) rfl rfl (hb hby d9_1)
  obtain ⟨T2, X2, e2, st2⟩ := getF X1 hx hZ hown (host := "") (Or.inl (hw _ (List.mem_of_getElem? (i := 64) rfl))) Via.refl e1 F_head_o0 (g := (mkF m 5 #[.val (.ref o0)] [(.ref o0), (.ref w2_els)])) rfl rfl (hb hby d9_5)
  obtain ⟨vr3, _, ⟨T3, L3, k3, n3⟩, -, X3, ⟨Lc3, hQ3, l3, y3, z3⟩, st3⟩ := Jvm.LawKit.callS X2 hx (y := (⟨"java/util/ArrayDeque", "elementAt", "([Ljava/lang/Object;I)Ljava/lang/Object;"⟩ : MethodName)) hown (mvT hZ (hw _ (List.mem_of_getElem? (i := 66) rfl))) (mvT hZ (hw _ (List.mem_of_getElem? (i := 67) rfl))) (mvT hZ (hw _ (List.mem_of_getElem? (i := 11) rfl))) (mvT hZ (hw _ (List.mem_of_getElem? (i := 68) rfl))) (by decide) (backOf (W := 0) (rmeaN l Z a0 hw [] w2_els u21_e u22_e u23_e u24_e u25_e u26_e u27_e u28_e u29_e u30_e u31_e u32_e u33_e u34_e u35_e u36_e kA h0 n0 Z0 V_w2_els) hZ (hw _ (List.mem_of_getElem? (i := 68) rfl)) (hw _ (List.mem_of_getElem? (i := 11) rfl)) (by decide) (by decide)) (g := (mkF m 8 #[.val (.ref o0)] [(.int (0 : Int32)), (.ref w2_els)])) rfl (by rw [hml]; rfl) (argsL := [(.ref w2_els), (.int (0 : Int32))]) (rest := []) (lenOf pd___Ljava_lang_Object_I_Ljava_lang_Object_ rfl) rfl (by show 2 * 0 + _ ≤ _; exact Nat.le_of_eq rfl) (hb hby d9_8) (fun _ _ => ⟨rfl, e2, (by decide : 0 + 0 ≤ _), (by decide : 0 + 0 ≤ _)⟩)
  dsimp only [Pt.U, Pt.locs, Pt.cells, Pt.slots] at X3 l3 y3 z3 st3 hQ3
  subst l3 y3 z3
  have N3q := (show _ ∧ _ ∧ _ from hQ3).1
  have hv3 := (show _ ∧ _ ∧ _ from hQ3).2.1
  have e3 := (show _ ∧ _ ∧ _ from hQ3).2.2
  clear hQ3
  subst hv3
  have N3 := Fr.app N0 N3q
  obtain ⟨fs, hr, hrun, hended, hW, hsame⟩ := X3.leave (v := some .null) (fun h => by rw [Bd.returns] at h; cases h) hlk
  refine ⟨_, _, pre0 _ ?_, hrun, hended, _, _, rfl, ?_, ⟨_, rfl⟩, hW, hsame.mono (by decide) (by decide)⟩
  · skip
    show Steps p.tables e below (s₁.setTop (mkF m 0 #[.val (.ref o0)] [])) _
    refine XS.aloadN X0.here hx rfl (hb hby d9_0) rfl rfl ?_
    show Steps p.tables e below (s₁.setTop (mkF m 1 #[.val (.ref o0)] [(.ref o0)])) _
    refine st1 _ ?_
    show Steps p.tables e below (T1.setTop (mkF m 4 #[.val (.ref o0)] [(.ref w2_els)])) _
    refine XS.aloadN X1.here hx rfl (hb hby d9_4) rfl rfl ?_
    show Steps p.tables e below (T1.setTop (mkF m 5 #[.val (.ref o0)] [(.ref o0), (.ref w2_els)])) _
    refine st2 _ ?_
    show Steps p.tables e below (T2.setTop (mkF m 8 #[.val (.ref o0)] [(.int (0 : Int32)), (.ref w2_els)])) _
    refine st3 _ ?_
    show Steps p.tables e below (T3.setTop (mkF m 11 #[.val (.ref o0)] [.null])) _
    exact X3.areturnOut hx rfl Bd.returns rfl (hb hby d9_11) hr
  · skip
    show QpfN Z o0 w2_els u21_e u22_e u23_e u24_e u25_e u26_e u27_e u28_e u29_e u30_e u31_e u32_e u33_e u34_e u35_e u36_e kA h0 n0 _ T3.heap _
    rw [e3]
    exact ⟨N3, rfl, rfl⟩
theorem ef_pkN (m : MethodId) (o0 : Addr) : entryFrame m #[(.ref o0)] 1 = mkF m 0 #[.val (.ref o0)] [] := by first | (simp [entryFrame, mkF, argsToLocals, Value.category]; done) | rfl
def QpkN (Z : State) (o0 : Addr) (w2_els : Addr) (u21_e : Value) (u22_e : Value) (u23_e : Value) (u24_e : Value) (u25_e : Value) (u26_e : Value) (u27_e : Value) (u28_e : Value) (u29_e : Value) (u30_e : Value) (u31_e : Value) (u32_e : Value) (u33_e : Value) (u34_e : Value) (u35_e : Value) (u36_e : Value) (kA : ClassId) (h0 : Heap) (n0 : Nat) (v : Option Value) (h : Heap) (L : List Loc) : Prop := Fr n0 L ∧ v = some .null ∧ h = h0
set_option maxRecDepth 65536 in
set_option maxHeartbeats 40000000 in
theorem rmpkN (l : Launch) (Z : State) (a0 : Array Value) (hw : ∀ d ∈ tables_1, d.before a0 Z = true) (ws : List Jvm.Cond) (o0 : Addr) (w2_els : Addr) (u21_e : Value) (u22_e : Value) (u23_e : Value) (u24_e : Value) (u25_e : Value) (u26_e : Value) (u27_e : Value) (u28_e : Value) (u29_e : Value) (u30_e : Value) (u31_e : Value) (u32_e : Value) (u33_e : Value) (u34_e : Value) (u35_e : Value) (u36_e : Value) (kA : ClassId) (h0 : Heap) (n0 : Nat) (Z0 : n0 ≤ h0.size) (E_o0 : Exa Z h0 o0 "java/util/ArrayDeque") (F_elements_o0 : Fld Z h0 o0 "java/util/ArrayDeque" "elements" "[Ljava/lang/Object;" (.ref w2_els)) (F_head_o0 : Fld Z h0 o0 "java/util/ArrayDeque" "head" "I" (.int (0 : Int32))) (V_w2_els : Arv Z h0 w2_els kA (.object "java/lang/Object") (17 : Int32) [.null, u21_e, u22_e, u23_e, u24_e, u25_e, u26_e, u27_e, u28_e, u29_e, u30_e, u31_e, u32_e, u33_e, u34_e, u35_e, u36_e] .null) :
    MetFree l (⟨"java/util/ArrayDeque", "peek", "()Ljava/lang/Object;"⟩ : MethodName) (head1 (Jvm.Cond.code (⟨"java/util/ArrayDeque", "peek", "()Ljava/lang/Object;"⟩ : MethodName) jdk_21_method_33_code 1 (some (.object "java/lang/Object")) :: ws) ({ frames := 2, cells := 0, slots := 0, locals := 25 } : Room)) (fun a U => a = #[(.ref o0)] ∧ Z.Warmed39 U.vm ∧ U.heap = h0) (fun _ _ _ _ _ => True) (fun _ U o U' => ∃ v L, o = .returned v ∧ QpkN Z o0 w2_els u21_e u22_e u23_e u24_e u25_e u26_e u27_e u28_e u29_e u30_e u31_e u32_e u33_e u34_e u35_e u36_e kA h0 n0 v U'.heap L ∧ FrameEnd U o U' L ({ frames := 2, cells := 0, slots := 0, locals := 25 } : Room).cells ({ frames := 2, cells := 0, slots := 0, locals := 25 } : Room).slots) := by
  refine MetFree.of_bodySF (plainFor_of_name pn_java_util_ArrayDeque) hisR ?_
  intro p e s m args below meth c s₁ Bd hml0 hP hK
  obtain ⟨rfl, hZ, hh⟩ := hP
  have hx := Bd.exec
  have hby := Bd.bytes
  have hml : c.maxLocals = 1 := hml0
  have hown : s.vm.findClass "java/util/ArrayDeque" = some m.cls := findClass_of_methodNamed Bd.named
  have hnm := (name_of_methodNamed Bd.named Bd.method).1
  have hlk := BodyLoose.notSynchronized Bd
  have X0 : Stand p l e ({ frames := 2, cells := 0, slots := 0, locals := 25 } : Room) s m #[(.ref o0)] below meth c s₁ [] 0 0 := Stand.of_body Bd
  have e0 : s₁.heap = h0 := by rw [← hh, Bd.state]; rfl
  have N0 := Fr.nil n0
  have pre0 : ∀ t, Steps p.tables e below (s₁.setTop (mkF m 0 #[.val (.ref o0)] [])) t → Steps p.tables e below (s₁.setTop (entryFrame m #[(.ref o0)] 1)) t := fun t k => castTop (ef_pkN m o0) k
  obtain ⟨cq1, kq1, q1a, q1b, q1c⟩ := isOf hZ e0 E_o0
  obtain ⟨vr1, _, ⟨T1, L1, k1, n1⟩, -, X1, ⟨Lc1, hQ1, l1, y1, z1⟩, st1⟩ := X0.virtualBack hx (y := (⟨"java/util/ArrayDeque", "peekFirst", "()Ljava/lang/Object;"⟩ : MethodName)) (z := (⟨"java/util/ArrayDeque", "peekFirst", "()Ljava/lang/Object;"⟩ : MethodName)) hown (mvT hZ (hw _ (List.mem_of_getElem? (i := 59) rfl))) (mvT hZ (hw _ (List.mem_of_getElem? (i := 60) rfl))) (notFace_of_selects (args := #[]) (mvT hZ (hw _ (List.mem_of_getElem? (i := 62) rfl)))) (mvT hZ (hw _ (List.mem_of_getElem? (i := 62) rfl))) (mvT hZ (hw _ (List.mem_of_getElem? (i := 61) rfl))) (by decide) (backOf (W := 0) (rmpfN l Z a0 hw [] o0 w2_els u21_e u22_e u23_e u24_e u25_e u26_e u27_e u28_e u29_e u30_e u31_e u32_e u33_e u34_e u35_e u36_e kA h0 n0 Z0 E_o0 F_elements_o0 F_head_o0 V_w2_els) hZ (hw _ (List.mem_of_getElem? (i := 63) rfl)) (hw _ (List.mem_of_getElem? (i := 11) rfl)) (by decide) (by decide)) q1a q1c (g := (mkF m 1 #[.val (.ref o0)] [(.ref o0)])) rfl (by rw [hml]; rfl) (Steps.refl _) (argsL := []) (rest := []) (lenOf pd___Ljava_lang_Object_ rfl) rfl (by show 2 * 0 + _ ≤ _; exact Nat.le_of_eq rfl) (hb hby d8_1) (fun _ _ => ⟨rfl, e0, (by decide : 0 + 0 ≤ _), (by decide : 0 + 0 ≤ _)⟩)
  dsimp only [Pt.U, Pt.locs, Pt.cells, Pt.slots] at X1 l1 y1 z1 st1 hQ1
  subst l1 y1 z1
  have N1q := (show _ ∧ _ ∧ _ from hQ1).1
  have hv1 := (show _ ∧ _ ∧ _ from hQ1).2.1
  have e1 := (show _ ∧ _ ∧ _ from hQ1).2.2
  clear hQ1
  subst hv1
  have N1 := Fr.app N0 N1q
  obtain ⟨fs, hr, hrun, hended, hW, hsame⟩ := X1.leave (v := some .null) (fun h => by rw [Bd.returns] at h; cases h) hlk
  refine ⟨_, _, pre0 _ ?_, hrun, hended, _, _, rfl, ?_, ⟨_, rfl⟩, hW, hsame.mono (by decide) (by decide)⟩
  · skip
    show Steps p.tables e below (s₁.setTop (mkF m 0 #[.val (.ref o0)] [])) _
    refine XS.aloadN X0.here hx rfl (hb hby d8_0) rfl rfl ?_
    show Steps p.tables e below (s₁.setTop (mkF m 1 #[.val (.ref o0)] [(.ref o0)])) _
    refine st1.trans ?_
    show Steps p.tables e below (T1.setTop (mkF m 4 #[.val (.ref o0)] [.null])) _
    exact X1.areturnOut hx rfl Bd.returns rfl (hb hby d8_4) hr
  · skip
    show QpkN Z o0 w2_els u21_e u22_e u23_e u24_e u25_e u26_e u27_e u28_e u29_e u30_e u31_e u32_e u33_e u34_e u35_e u36_e kA h0 n0 _ T1.heap _
    rw [e1]
    exact ⟨N1, rfl, rfl⟩
theorem ef_qpN (m : MethodId) (o0 : Addr) : entryFrame m #[(.ref o0)] 1 = mkF m 0 #[.val (.ref o0)] [] := by first | (simp [entryFrame, mkF, argsToLocals, Value.category]; done) | rfl
def QqpN (Z : State) (o0 : Addr) (w1_dq : Addr) (w2_els : Addr) (u21_e : Value) (u22_e : Value) (u23_e : Value) (u24_e : Value) (u25_e : Value) (u26_e : Value) (u27_e : Value) (u28_e : Value) (u29_e : Value) (u30_e : Value) (u31_e : Value) (u32_e : Value) (u33_e : Value) (u34_e : Value) (u35_e : Value) (u36_e : Value) (kA : ClassId) (h0 : Heap) (n0 : Nat) (v : Option Value) (h : Heap) (L : List Loc) : Prop := Fr n0 L ∧ v = some .null ∧ h = h0
set_option maxRecDepth 65536 in
set_option maxHeartbeats 40000000 in
theorem rmqpN (l : Launch) (Z : State) (a0 : Array Value) (hw : ∀ d ∈ tables_1, d.before a0 Z = true) (ws : List Jvm.Cond) (o0 : Addr) (w1_dq : Addr) (w2_els : Addr) (u21_e : Value) (u22_e : Value) (u23_e : Value) (u24_e : Value) (u25_e : Value) (u26_e : Value) (u27_e : Value) (u28_e : Value) (u29_e : Value) (u30_e : Value) (u31_e : Value) (u32_e : Value) (u33_e : Value) (u34_e : Value) (u35_e : Value) (u36_e : Value) (kA : ClassId) (h0 : Heap) (n0 : Nat) (Z0 : n0 ≤ h0.size) (F_events_o0 : Fld Z h0 o0 "com/example/dispatch_by_catalog/dispatchbycatalog/subscriptions/EventQueue" "events" "Ljava/util/Deque;" (.ref w1_dq)) (E_w1_dq : Exa Z h0 w1_dq "java/util/ArrayDeque") (F_elements_w1_dq : Fld Z h0 w1_dq "java/util/ArrayDeque" "elements" "[Ljava/lang/Object;" (.ref w2_els)) (F_head_w1_dq : Fld Z h0 w1_dq "java/util/ArrayDeque" "head" "I" (.int (0 : Int32))) (V_w2_els : Arv Z h0 w2_els kA (.object "java/lang/Object") (17 : Int32) [.null, u21_e, u22_e, u23_e, u24_e, u25_e, u26_e, u27_e, u28_e, u29_e, u30_e, u31_e, u32_e, u33_e, u34_e, u35_e, u36_e] .null) :
    MetFree l (⟨"com/example/dispatch_by_catalog/dispatchbycatalog/subscriptions/EventQueue", "peek", "()Lcom/example/dispatch_by_catalog/dispatchbycatalog/subscriptions/Event;"⟩ : MethodName) (head1 (Jvm.Cond.code (⟨"com/example/dispatch_by_catalog/dispatchbycatalog/subscriptions/EventQueue", "peek", "()Lcom/example/dispatch_by_catalog/dispatchbycatalog/subscriptions/Event;"⟩ : MethodName) prog_41_method_5_code 1 (some (.object "com/example/dispatch_by_catalog/dispatchbycatalog/subscriptions/Event")) :: ws) ({ frames := 3, cells := 0, slots := 0, locals := 37 } : Room)) (fun a U => a = #[(.ref o0)] ∧ Z.Warmed39 U.vm ∧ U.heap = h0) (fun _ _ _ _ _ => True) (fun _ U o U' => ∃ v L, o = .returned v ∧ QqpN Z o0 w1_dq w2_els u21_e u22_e u23_e u24_e u25_e u26_e u27_e u28_e u29_e u30_e u31_e u32_e u33_e u34_e u35_e u36_e kA h0 n0 v U'.heap L ∧ FrameEnd U o U' L ({ frames := 3, cells := 0, slots := 0, locals := 37 } : Room).cells ({ frames := 3, cells := 0, slots := 0, locals := 37 } : Room).slots) := by
  refine MetFree.of_bodySF (plainFor_of_name pn_com_example_dispatch_by_catalog_dispatchbycatalog_subscriptions_EventQueue) hisR ?_
  intro p e s m args below meth c s₁ Bd hml0 hP hK
  obtain ⟨rfl, hZ, hh⟩ := hP
  have hx := Bd.exec
  have hby := Bd.bytes
  have hml : c.maxLocals = 1 := hml0
  have hown : s.vm.findClass "com/example/dispatch_by_catalog/dispatchbycatalog/subscriptions/EventQueue" = some m.cls := findClass_of_methodNamed Bd.named
  have hnm := (name_of_methodNamed Bd.named Bd.method).1
  have hlk := BodyLoose.notSynchronized Bd
  have X0 : Stand p l e ({ frames := 3, cells := 0, slots := 0, locals := 37 } : Room) s m #[(.ref o0)] below meth c s₁ [] 0 0 := Stand.of_body Bd
  have e0 : s₁.heap = h0 := by rw [← hh, Bd.state]; rfl
  have N0 := Fr.nil n0
  have pre0 : ∀ t, Steps p.tables e below (s₁.setTop (mkF m 0 #[.val (.ref o0)] [])) t → Steps p.tables e below (s₁.setTop (entryFrame m #[(.ref o0)] 1)) t := fun t k => castTop (ef_qpN m o0) k
  obtain ⟨T1, X1, e1, st1⟩ := getF X0 hx hZ hown (host := "") (Or.inl (hw _ (List.mem_of_getElem? (i := 26) rfl))) Via.refl e0 F_events_o0 (g := (mkF m 1 #[.val (.ref o0)] [(.ref o0)])) rfl rfl (hb hby d7_1)
  obtain ⟨cq2, kq2, q2a, q2b, q2c⟩ := isOf hZ e1 E_w1_dq
  obtain ⟨vr2, _, ⟨T2, L2, k2, n2⟩, -, X2, ⟨Lc2, hQ2, l2, y2, z2⟩, st2⟩ := X1.interfaceBack hx (xi := (⟨"java/util/Deque", "peek", "()Ljava/lang/Object;"⟩ : MethodName)) (y := (⟨"java/util/ArrayDeque", "peek", "()Ljava/lang/Object;"⟩ : MethodName)) hown (mvT hZ (hw _ (List.mem_of_getElem? (i := 50) rfl))) (mvT hZ (hw _ (List.mem_of_getElem? (i := 51) rfl))) (mvT hZ (hw _ (List.mem_of_getElem? (i := 52) rfl))) (mvT hZ (hw _ (List.mem_of_getElem? (i := 53) rfl))) (mvT hZ (hw _ (List.mem_of_getElem? (i := 54) rfl))) (mvT hZ (hw _ (List.mem_of_getElem? (i := 55) rfl))) (mvT hZ (hw _ (List.mem_of_getElem? (i := 56) rfl))) (mvT hZ (hw _ (List.mem_of_getElem? (i := 57) rfl))) (by decide) (backOf (W := 0) (rmpkN l Z a0 hw [] w1_dq w2_els u21_e u22_e u23_e u24_e u25_e u26_e u27_e u28_e u29_e u30_e u31_e u32_e u33_e u34_e u35_e u36_e kA h0 n0 Z0 E_w1_dq F_elements_w1_dq F_head_w1_dq V_w2_els) hZ (hw _ (List.mem_of_getElem? (i := 58) rfl)) (hw _ (List.mem_of_getElem? (i := 11) rfl)) (by decide) (by decide)) q2a q2b q2c (g := (mkF m 4 #[.val (.ref o0)] [(.ref w1_dq)])) rfl (by rw [hml]; rfl) (Steps.refl _) (argsL := []) (rest := []) (lenOf pd___Ljava_lang_Object_ rfl) rfl (by show 2 * 0 + _ ≤ _; exact Nat.le_of_eq rfl) (hb hby d7_4) (fun _ _ => ⟨rfl, e1, (by decide : 0 + 0 ≤ _), (by decide : 0 + 0 ≤ _)⟩)
  dsimp only [Pt.U, Pt.locs, Pt.cells, Pt.slots] at X2 l2 y2 z2 st2 hQ2
  subst l2 y2 z2
  have N2q := (show _ ∧ _ ∧ _ from hQ2).1
  have hv2 := (show _ ∧ _ ∧ _ from hQ2).2.1
  have e2 := (show _ ∧ _ ∧ _ from hQ2).2.2
  clear hQ2
  subst hv2
  have N2 := Fr.app N0 N2q
  obtain ⟨fs, hr, hrun, hended, hW, hsame⟩ := X2.leave (v := some .null) (fun h => by rw [Bd.returns] at h; cases h) hlk
  refine ⟨_, _, pre0 _ ?_, hrun, hended, _, _, rfl, ?_, ⟨_, rfl⟩, hW, hsame.mono (by decide) (by decide)⟩
  · skip
    show Steps p.tables e below (s₁.setTop (mkF m 0 #[.val (.ref o0)] [])) _
    refine XS.aloadN X0.here hx rfl (hb hby d7_0) rfl rfl ?_
    show Steps p.tables e below (s₁.setTop (mkF m 1 #[.val (.ref o0)] [(.ref o0)])) _
    refine st1 _ ?_
    show Steps p.tables e below (T1.setTop (mkF m 4 #[.val (.ref o0)] [(.ref w1_dq)])) _
    refine st2.trans ?_
    show Steps p.tables e below (T2.setTop (mkF m 9 #[.val (.ref o0)] [.null])) _
    refine X2.checkcastNull hx (g := (mkF m 9 #[.val (.ref o0)] [.null])) rfl rfl (hb hby d7_9) _ ?_
    show Steps p.tables e below (T2.setTop (mkF m 12 #[.val (.ref o0)] [.null])) _
    exact X2.areturnOut hx rfl Bd.returns rfl (hb hby d7_12) hr
  · skip
    show QqpN Z o0 w1_dq w2_els u21_e u22_e u23_e u24_e u25_e u26_e u27_e u28_e u29_e u30_e u31_e u32_e u33_e u34_e u35_e u36_e kA h0 n0 _ T2.heap _
    rw [e2]
    exact ⟨N2, rfl, rfl⟩
theorem pd__II_I : parseMethodDescriptor "(II)I" = some ⟨[.int, .int], some .int⟩ := by decide +kernel
theorem d16_0 : decode jdk_21_method_13_code 0 = .ok (.aload_n 1, 1) := by decide +kernel
theorem d16_1 : decode jdk_21_method_13_code 1 = .ok (.ifnonnull 11, 3) := by decide +kernel
theorem d16_12 : decode jdk_21_method_13_code 12 = .ok (.aload_n 0, 1) := by decide +kernel
theorem d16_13 : decode jdk_21_method_13_code 13 = .ok (.getfield 3, 3) := by decide +kernel
theorem d16_16 : decode jdk_21_method_13_code 16 = .ok (.astore_n 2, 1) := by decide +kernel
theorem d16_17 : decode jdk_21_method_13_code 17 = .ok (.aload_n 2, 1) := by decide +kernel
theorem d16_18 : decode jdk_21_method_13_code 18 = .ok (.aload_n 0, 1) := by decide +kernel
theorem d16_19 : decode jdk_21_method_13_code 19 = .ok (.getfield 20, 3) := by decide +kernel
theorem d16_22 : decode jdk_21_method_13_code 22 = .ok (.aload_n 1, 1) := by decide +kernel
theorem d16_23 : decode jdk_21_method_13_code 23 = .ok (.aastore, 1) := by decide +kernel
theorem d16_24 : decode jdk_21_method_13_code 24 = .ok (.aload_n 0, 1) := by decide +kernel
theorem d16_25 : decode jdk_21_method_13_code 25 = .ok (.getfield 24, 3) := by decide +kernel
theorem d16_28 : decode jdk_21_method_13_code 28 = .ok (.aload_n 0, 1) := by decide +kernel
theorem d16_29 : decode jdk_21_method_13_code 29 = .ok (.aload_n 0, 1) := by decide +kernel
theorem d16_30 : decode jdk_21_method_13_code 30 = .ok (.getfield 20, 3) := by decide +kernel
theorem d16_33 : decode jdk_21_method_13_code 33 = .ok (.aload_n 2, 1) := by decide +kernel
theorem d16_34 : decode jdk_21_method_13_code 34 = .ok (.arraylength, 1) := by decide +kernel
theorem d16_35 : decode jdk_21_method_13_code 35 = .ok (.invokestatic 74, 3) := by decide +kernel
theorem d16_38 : decode jdk_21_method_13_code 38 = .ok (.dup_x1, 1) := by decide +kernel
theorem d16_39 : decode jdk_21_method_13_code 39 = .ok (.putfield 20, 3) := by decide +kernel
theorem d16_42 : decode jdk_21_method_13_code 42 = .ok (.if_icmp .ne 8, 3) := by decide +kernel
theorem d16_50 : decode jdk_21_method_13_code 50 = .ok (.return_, 1) := by decide +kernel
theorem ef_al0_0 (m : MethodId) (o0 : Addr) (o1 : Addr) : entryFrame m #[(.ref o0), (.ref o1)] 3 = mkF m 0 #[.val (.ref o0), .val (.ref o1), .unset] [] := by first | (simp [entryFrame, mkF, argsToLocals, Value.category]; done) | rfl
def Qal0_0 (Z : State) (o0 : Addr) (o1 : Addr) (w2_els : Addr) (u20_e : Value) (u21_e : Value) (u22_e : Value) (u23_e : Value) (u24_e : Value) (u25_e : Value) (u26_e : Value) (u27_e : Value) (u28_e : Value) (u29_e : Value) (u30_e : Value) (u31_e : Value) (u32_e : Value) (u33_e : Value) (u34_e : Value) (u35_e : Value) (u36_e : Value) (kA : ClassId) (h0 : Heap) (n0 : Nat) (v : Option Value) (h : Heap) (L : List Loc) : Prop := Fr n0 L ∧ v = none ∧ Keep h0 h [w2_els, o0] ∧ Arv Z h w2_els kA (.object "java/lang/Object") (17 : Int32) [(.ref o1), u21_e, u22_e, u23_e, u24_e, u25_e, u26_e, u27_e, u28_e, u29_e, u30_e, u31_e, u32_e, u33_e, u34_e, u35_e, u36_e] .null ∧ Exa Z h o0 "java/util/ArrayDeque" ∧ Fld Z h o0 "java/util/ArrayDeque" "elements" "[Ljava/lang/Object;" (.ref w2_els) ∧ Fld Z h o0 "java/util/ArrayDeque" "head" "I" (.int (0 : Int32)) ∧ Fld Z h o0 "java/util/ArrayDeque" "tail" "I" (.int (1 : Int32))
set_option maxRecDepth 65536 in
set_option maxHeartbeats 40000000 in
theorem rmal0_0 (l : Launch) (Z : State) (a0 : Array Value) (hw : ∀ d ∈ tables_1, d.before a0 Z = true) (ws : List Jvm.Cond) (o0 : Addr) (o1 : Addr) (w2_els : Addr) (u20_e : Value) (u21_e : Value) (u22_e : Value) (u23_e : Value) (u24_e : Value) (u25_e : Value) (u26_e : Value) (u27_e : Value) (u28_e : Value) (u29_e : Value) (u30_e : Value) (u31_e : Value) (u32_e : Value) (u33_e : Value) (u34_e : Value) (u35_e : Value) (u36_e : Value) (kA : ClassId) (h0 : Heap) (n0 : Nat) (Z0 : n0 ≤ h0.size) (E_o0 : Exa Z h0 o0 "java/util/ArrayDeque") (F_elements_o0 : Fld Z h0 o0 "java/util/ArrayDeque" "elements" "[Ljava/lang/Object;" (.ref w2_els)) (F_head_o0 : Fld Z h0 o0 "java/util/ArrayDeque" "head" "I" (.int (0 : Int32))) (F_tail_o0 : Fld Z h0 o0 "java/util/ArrayDeque" "tail" "I" (.int (0 : Int32))) (V_w2_els : Arv Z h0 w2_els kA (.object "java/lang/Object") (17 : Int32) [u20_e, u21_e, u22_e, u23_e, u24_e, u25_e, u26_e, u27_e, u28_e, u29_e, u30_e, u31_e, u32_e, u33_e, u34_e, u35_e, u36_e] .null) (ovr : Ovr Z kA "java/lang/Object") (E_o1 : Exa Z h0 o1 "com/example/dispatch_by_catalog/dispatchbycatalog/subscriptions/DroppedEvents") (g_w2_els : n0 ≤ w2_els) (ne_o0_w2_els : o0 ≠ w2_els) (g_o0 : n0 ≤ o0) :
    MetFree l (⟨"java/util/ArrayDeque", "addLast", "(Ljava/lang/Object;)V"⟩ : MethodName) (head1 (Jvm.Cond.code (⟨"java/util/ArrayDeque", "addLast", "(Ljava/lang/Object;)V"⟩ : MethodName) jdk_21_method_13_code 3 none :: ws) ({ frames := 1, cells := 0, slots := 0, locals := 15 } : Room)) (fun a U => a = #[(.ref o0), (.ref o1)] ∧ Z.Warmed39 U.vm ∧ U.heap = h0) (fun _ _ _ _ _ => True) (fun _ U o U' => ∃ v L, o = .returned v ∧ Qal0_0 Z o0 o1 w2_els u20_e u21_e u22_e u23_e u24_e u25_e u26_e u27_e u28_e u29_e u30_e u31_e u32_e u33_e u34_e u35_e u36_e kA h0 n0 v U'.heap L ∧ FrameEnd U o U' L ({ frames := 1, cells := 0, slots := 0, locals := 15 } : Room).cells ({ frames := 1, cells := 0, slots := 0, locals := 15 } : Room).slots) := by
  refine MetFree.of_bodySF (plainFor_of_name pn_java_util_ArrayDeque) hisR ?_
  intro p e s m args below meth c s₁ Bd hml0 hP hK
  obtain ⟨rfl, hZ, hh⟩ := hP
  have hx := Bd.exec
  have hby := Bd.bytes
  have hml : c.maxLocals = 3 := hml0
  have hown : s.vm.findClass "java/util/ArrayDeque" = some m.cls := findClass_of_methodNamed Bd.named
  have hnm := (name_of_methodNamed Bd.named Bd.method).1
  have hlk := BodyLoose.notSynchronized Bd
  have X0 : Stand p l e ({ frames := 1, cells := 0, slots := 0, locals := 15 } : Room) s m #[(.ref o0), (.ref o1)] below meth c s₁ [] 0 0 := Stand.of_body Bd
  have e0 : s₁.heap = h0 := by rw [← hh, Bd.state]; rfl
  have N0 := Fr.nil n0
  have pre0 : ∀ t, Steps p.tables e below (s₁.setTop (mkF m 0 #[.val (.ref o0), .val (.ref o1), .unset] [])) t → Steps p.tables e below (s₁.setTop (entryFrame m #[(.ref o0), (.ref o1)] 3)) t := fun t k => castTop (ef_al0_0 m o0 o1) k
  obtain ⟨T1, X1, e1, st1⟩ := getF X0 hx hZ hown (host := "") (Or.inl (hw _ (List.mem_of_getElem? (i := 24) rfl))) Via.refl e0 F_elements_o0 (g := (mkF m 13 #[.val (.ref o0), .val (.ref o1), .unset] [(.ref o0)])) rfl rfl (hb hby d16_13)
  obtain ⟨T2, X2, e2, st2⟩ := getF X1 hx hZ hown (host := "") (Or.inl (hw _ (List.mem_of_getElem? (i := 86) rfl))) Via.refl e1 F_tail_o0 (g := (mkF m 19 #[.val (.ref o0), .val (.ref o1), .val (.ref w2_els)] [(.ref o0), (.ref w2_els)])) rfl rfl (hb hby d16_19)
  obtain ⟨cl3, Ar3, qc3, S3, M3, Ha3, G3⟩ := id V_w2_els
  have hin4 : ¬ ((0 : Int32) < 0 ∨ cl3.slots.size ≤ ((0 : Int32)).toNatClampNeg) := inb_of S3 ⟨by decide, by decide⟩
  obtain ⟨T5, h5, X5, e5, W5, st5⟩ := stR X2 hx hZ e2 Ar3 (j := (0 : Int32)) hin4 rfl (Sto.ofV Ar3 qc3 ovr (Ins.of_exa E_o1 (hw _ (List.mem_of_getElem? (i := 85) rfl)))) (g := (mkF m 23 #[.val (.ref o0), .val (.ref o1), .val (.ref w2_els)] [(.ref o1), (.int (0 : Int32)), (.ref w2_els)])) rfl rfl (hb hby d16_23)
  have V5 : Arv Z h5 w2_els kA (.object "java/lang/Object") (17 : Int32) [(.ref o1), u21_e, u22_e, u23_e, u24_e, u25_e, u26_e, u27_e, u28_e, u29_e, u30_e, u31_e, u32_e, u33_e, u34_e, u35_e, u36_e] .null := Arv.set Ar3 qc3 S3 M3 Ha3 G3 rfl W5 0 rfl (Nat.le_of_ble_eq_true rfl)
  have N5 := Fr.snoc X5 N0 g_w2_els
  have z6 : n0 ≤ h5.size := Nat.le_trans Z0 (Keep.of_wr W5).1
  have hs7 : h0.size ≤ h5.size := Nat.le_trans (Nat.le_refl h0.size) (Keep.of_wr W5).1
  have k8 := (F_head_o0.other W5 (Or.inl ne_o0_w2_els))
  obtain ⟨T9, X9, e9, st9⟩ := getF X5 hx hZ hown (host := "") (Or.inl (hw _ (List.mem_of_getElem? (i := 64) rfl))) Via.refl e5 k8 (g := (mkF m 25 #[.val (.ref o0), .val (.ref o1), .val (.ref w2_els)] [(.ref o0)])) rfl rfl (hb hby d16_25)
  have k10 := (F_tail_o0.other W5 (Or.inl ne_o0_w2_els))
  obtain ⟨T11, X11, e11, st11⟩ := getF X9 hx hZ hown (host := "") (Or.inl (hw _ (List.mem_of_getElem? (i := 86) rfl))) Via.refl e9 k10 (g := (mkF m 30 #[.val (.ref o0), .val (.ref o1), .val (.ref w2_els)] [(.ref o0), (.ref o0), (.int (0 : Int32))])) rfl rfl (hb hby d16_30)
  obtain ⟨cl12, Ar12, qc12, S12, M12, Ha12, G12⟩ := id V5
  obtain ⟨vr13, _, ⟨T13, L13, k13, n13⟩, -, X13, ⟨Lc13, hQ13, l13, y13, z13⟩, st13⟩ := Jvm.LawKit.callS X11 hx (y := (⟨"java/util/ArrayDeque", "inc", "(II)I"⟩ : MethodName)) hown (mvT hZ (hw _ (List.mem_of_getElem? (i := 113) rfl))) (mvT hZ (hw _ (List.mem_of_getElem? (i := 114) rfl))) (mvT hZ (hw _ (List.mem_of_getElem? (i := 11) rfl))) (mvT hZ (hw _ (List.mem_of_getElem? (i := 115) rfl))) (by decide) (backOf (W := 2) (rm17 l Z a0 hw [] (0 : Int32) (17 : Int32) h5 n0 z6) hZ (hw _ (List.mem_of_getElem? (i := 115) rfl)) (hw _ (List.mem_of_getElem? (i := 11) rfl)) (by decide) (by decide)) (g := (mkF m 35 #[.val (.ref o0), .val (.ref o1), .val (.ref w2_els)] [(.int (17 : Int32)), (.int (0 : Int32)), (.ref o0), (.int (0 : Int32))])) rfl (by rw [hml]; rfl) (argsL := [(.int (0 : Int32)), (.int (17 : Int32))]) (rest := [(.ref o0), (.int (0 : Int32))]) (lenOf pd__II_I rfl) rfl (by show 2 * 0 + _ ≤ _; exact Nat.le_of_eq rfl) (hb hby d16_35) (fun _ _ => ⟨rfl, e11, (by decide : 0 + 0 ≤ _), (by decide : 0 + 0 ≤ _)⟩)
  dsimp only [Pt.U, Pt.locs, Pt.cells, Pt.slots] at X13 l13 y13 z13 st13 hQ13
  subst l13 y13 z13
  have N13q := (show _ ∧ _ ∧ _ from hQ13).1
  have hv13 := (show _ ∧ _ ∧ _ from hQ13).2.1
  have e13 := (show _ ∧ _ ∧ _ from hQ13).2.2
  clear hQ13
  subst hv13
  have N13 := Fr.app N5 N13q
  have k14 := (E_o0.wr W5)
  obtain ⟨T15, h15, X15, e15, W15, st15⟩ := putF X13 hx hZ hown (host := "") (Or.inl (hw _ (List.mem_of_getElem? (i := 86) rfl))) Via.refl e13 k10 k14 (Or.inl (hw _ (List.mem_of_getElem? (i := 87) rfl))) (hw _ (List.mem_of_getElem? (i := 10) rfl)) (ty := .int) (by decide) rfl rfl (g := (mkF m 39 #[.val (.ref o0), .val (.ref o1), .val (.ref w2_els)] [(.int (1 : Int32)), (.ref o0), (.int (1 : Int32)), (.int (0 : Int32))])) rfl rfl (hb hby d16_39)
  have Fw15 := k10.same W15
  have N15 := Fr.snoc X15 N13 g_o0
  have z16 : n0 ≤ h15.size := Nat.le_trans z6 (Keep.of_wr W15).1
  have hs17 : h0.size ≤ h15.size := Nat.le_trans hs7 (Keep.of_wr W15).1
  obtain ⟨fs, hr, hrun, hended, hW, hsame⟩ := X15.leave (v := none) (fun _ => rfl) hlk
  refine ⟨_, _, pre0 _ ?_, hrun, hended, _, _, rfl, ?_, ⟨_, rfl⟩, hW, hsame.mono (by decide) (by decide)⟩
  · skip
    show Steps p.tables e below (s₁.setTop (mkF m 0 #[.val (.ref o0), .val (.ref o1), .unset] [])) _
    refine XS.aloadN X0.here hx rfl (hb hby d16_0) rfl rfl ?_
    show Steps p.tables e below (s₁.setTop (mkF m 1 #[.val (.ref o0), .val (.ref o1), .unset] [(.ref o1)])) _
    refine XT.ifnonnullYes X0.here hx rfl (pc0 := 1) (pc' := 12) rfl (hb hby d16_1) rfl (by decide) (by decide) ?_
    show Steps p.tables e below (s₁.setTop (mkF m 12 #[.val (.ref o0), .val (.ref o1), .unset] [])) _
    refine XS.aloadN X0.here hx rfl (hb hby d16_12) rfl rfl ?_
    show Steps p.tables e below (s₁.setTop (mkF m 13 #[.val (.ref o0), .val (.ref o1), .unset] [(.ref o0)])) _
    refine st1 _ ?_
    show Steps p.tables e below (T1.setTop (mkF m 16 #[.val (.ref o0), .val (.ref o1), .unset] [(.ref w2_els)])) _
    refine XS.astoreN X1.here hx rfl (hb hby d16_16) rfl rfl (l' := #[.val (.ref o0), .val (.ref o1), .val (.ref w2_els)]) rfl ?_
    show Steps p.tables e below (T1.setTop (mkF m 17 #[.val (.ref o0), .val (.ref o1), .val (.ref w2_els)] [])) _
    refine XS.aloadN X1.here hx rfl (hb hby d16_17) rfl rfl ?_
    show Steps p.tables e below (T1.setTop (mkF m 18 #[.val (.ref o0), .val (.ref o1), .val (.ref w2_els)] [(.ref w2_els)])) _
    refine XS.aloadN X1.here hx rfl (hb hby d16_18) rfl rfl ?_
    show Steps p.tables e below (T1.setTop (mkF m 19 #[.val (.ref o0), .val (.ref o1), .val (.ref w2_els)] [(.ref o0), (.ref w2_els)])) _
    refine st2 _ ?_
    show Steps p.tables e below (T2.setTop (mkF m 22 #[.val (.ref o0), .val (.ref o1), .val (.ref w2_els)] [(.int (0 : Int32)), (.ref w2_els)])) _
    refine XS.aloadN X2.here hx rfl (hb hby d16_22) rfl rfl ?_
    show Steps p.tables e below (T2.setTop (mkF m 23 #[.val (.ref o0), .val (.ref o1), .val (.ref w2_els)] [(.ref o1), (.int (0 : Int32)), (.ref w2_els)])) _
    refine st5 _ ?_
    show Steps p.tables e below (T5.setTop (mkF m 24 #[.val (.ref o0), .val (.ref o1), .val (.ref w2_els)] [])) _
    refine XS.aloadN X5.here hx rfl (hb hby d16_24) rfl rfl ?_
    show Steps p.tables e below (T5.setTop (mkF m 25 #[.val (.ref o0), .val (.ref o1), .val (.ref w2_els)] [(.ref o0)])) _
    refine st9 _ ?_
    show Steps p.tables e below (T9.setTop (mkF m 28 #[.val (.ref o0), .val (.ref o1), .val (.ref w2_els)] [(.int (0 : Int32))])) _
    refine XS.aloadN X9.here hx rfl (hb hby d16_28) rfl rfl ?_
    show Steps p.tables e below (T9.setTop (mkF m 29 #[.val (.ref o0), .val (.ref o1), .val (.ref w2_els)] [(.ref o0), (.int (0 : Int32))])) _
    refine XS.aloadN X9.here hx rfl (hb hby d16_29) rfl rfl ?_
    show Steps p.tables e below (T9.setTop (mkF m 30 #[.val (.ref o0), .val (.ref o1), .val (.ref w2_els)] [(.ref o0), (.ref o0), (.int (0 : Int32))])) _
    refine st11 _ ?_
    show Steps p.tables e below (T11.setTop (mkF m 33 #[.val (.ref o0), .val (.ref o1), .val (.ref w2_els)] [(.int (0 : Int32)), (.ref o0), (.int (0 : Int32))])) _
    refine XS.aloadN X11.here hx rfl (hb hby d16_33) rfl rfl ?_
    show Steps p.tables e below (T11.setTop (mkF m 34 #[.val (.ref o0), .val (.ref o1), .val (.ref w2_els)] [(.ref w2_els), (.int (0 : Int32)), (.ref o0), (.int (0 : Int32))])) _
    refine X11.arraylength hx (by rw [e11]; exact Ar12.1) (State.isArrayOf_alike hZ.alike Ar12.2.1) (g := (mkF m 34 #[.val (.ref o0), .val (.ref o1), .val (.ref w2_els)] [(.ref w2_els), (.int (0 : Int32)), (.ref o0), (.int (0 : Int32))])) rfl rfl (hb hby d16_34) _ ?_
    rw [len_of S12 M12]
    show Steps p.tables e below (T11.setTop (mkF m 35 #[.val (.ref o0), .val (.ref o1), .val (.ref w2_els)] [(.int (17 : Int32)), (.int (0 : Int32)), (.ref o0), (.int (0 : Int32))])) _
    refine st13 _ ?_
    show Steps p.tables e below (T13.setTop (mkF m 38 #[.val (.ref o0), .val (.ref o1), .val (.ref w2_els)] [(.int (1 : Int32)), (.ref o0), (.int (0 : Int32))])) _
    refine XT.dupX1 X13.here hx rfl (hb hby d16_38) rfl rfl rfl ?_
    show Steps p.tables e below (T13.setTop (mkF m 39 #[.val (.ref o0), .val (.ref o1), .val (.ref w2_els)] [(.int (1 : Int32)), (.ref o0), (.int (1 : Int32)), (.int (0 : Int32))])) _
    refine st15 _ ?_
    show Steps p.tables e below (T15.setTop (mkF m 42 #[.val (.ref o0), .val (.ref o1), .val (.ref w2_els)] [(.int (1 : Int32)), (.int (0 : Int32))])) _
    refine XS.icmpYes X15.here hx rfl (pc0 := 42) (pc' := 50) rfl (hb hby d16_42) rfl (XT.ii_ne_t (by decide)) (by decide) (by decide) ?_
    show Steps p.tables e below (T15.setTop (mkF m 50 #[.val (.ref o0), .val (.ref o1), .val (.ref w2_els)] [])) _
    exact X15.returnOut hx Bd.returns (hb hby d16_50) hr
  · skip
    show Qal0_0 Z o0 o1 w2_els u20_e u21_e u22_e u23_e u24_e u25_e u26_e u27_e u28_e u29_e u30_e u31_e u32_e u33_e u34_e u35_e u36_e kA h0 n0 _ T15.heap _
    rw [e15]
    have k18 := (V5.other W15 (Ne.symm ne_o0_w2_els))
    have k19 := (k14.wr W15)
    have k20 := ((F_elements_o0.other W5 (Or.inl ne_o0_w2_els)).other W15 (Or.inr (slot_ne (Or.inl (hw _ (List.mem_of_getElem? (i := 25) rfl))) (Or.inl (hw _ (List.mem_of_getElem? (i := 87) rfl))) (by decide) (t := (.array (.object "java/lang/Object"))) (t' := .int) (by decide) (by decide))))
    have k21 := (k8.other W15 (Or.inr (slot_ne (Or.inl (hw _ (List.mem_of_getElem? (i := 65) rfl))) (Or.inl (hw _ (List.mem_of_getElem? (i := 87) rfl))) (by decide) (t := .int) (t' := .int) (by decide) (by decide))))
    exact ⟨N15, rfl, (((Keep.refl h0 [w2_els, o0]).wr W5 (Or.inl (List.mem_of_getElem? (i := 0) rfl))).wr W15 (Or.inl (List.mem_of_getElem? (i := 1) rfl))), k18, k19, k20, k21, Fw15⟩
theorem d12_0 : decode jdk_21_method_12_code 0 = .ok (.aload_n 1, 1) := by decide +kernel
theorem d12_1 : decode jdk_21_method_12_code 1 = .ok (.ifnonnull 11, 3) := by decide +kernel
theorem d12_12 : decode jdk_21_method_12_code 12 = .ok (.aload_n 0, 1) := by decide +kernel
theorem d12_13 : decode jdk_21_method_12_code 13 = .ok (.getfield 3, 3) := by decide +kernel
theorem d12_16 : decode jdk_21_method_12_code 16 = .ok (.astore_n 2, 1) := by decide +kernel
theorem d12_17 : decode jdk_21_method_12_code 17 = .ok (.aload_n 2, 1) := by decide +kernel
theorem d12_18 : decode jdk_21_method_12_code 18 = .ok (.aload_n 0, 1) := by decide +kernel
theorem d12_19 : decode jdk_21_method_12_code 19 = .ok (.aload_n 0, 1) := by decide +kernel
theorem d12_20 : decode jdk_21_method_12_code 20 = .ok (.getfield 24, 3) := by decide +kernel
theorem d12_23 : decode jdk_21_method_12_code 23 = .ok (.aload_n 2, 1) := by decide +kernel
theorem d12_24 : decode jdk_21_method_12_code 24 = .ok (.arraylength, 1) := by decide +kernel
theorem d12_25 : decode jdk_21_method_12_code 25 = .ok (.invokestatic 68, 3) := by decide +kernel
theorem d12_28 : decode jdk_21_method_12_code 28 = .ok (.dup_x1, 1) := by decide +kernel
theorem d12_29 : decode jdk_21_method_12_code 29 = .ok (.putfield 24, 3) := by decide +kernel
theorem d12_32 : decode jdk_21_method_12_code 32 = .ok (.aload_n 1, 1) := by decide +kernel
theorem d12_33 : decode jdk_21_method_12_code 33 = .ok (.aastore, 1) := by decide +kernel
theorem d12_34 : decode jdk_21_method_12_code 34 = .ok (.aload_n 0, 1) := by decide +kernel
theorem d12_35 : decode jdk_21_method_12_code 35 = .ok (.getfield 24, 3) := by decide +kernel
theorem d12_38 : decode jdk_21_method_12_code 38 = .ok (.aload_n 0, 1) := by decide +kernel
theorem d12_39 : decode jdk_21_method_12_code 39 = .ok (.getfield 20, 3) := by decide +kernel
theorem d12_42 : decode jdk_21_method_12_code 42 = .ok (.if_icmp .ne 8, 3) := by decide +kernel
theorem d12_50 : decode jdk_21_method_12_code 50 = .ok (.return_, 1) := by decide +kernel
theorem ef_af0_0 (m : MethodId) (o0 : Addr) (o1 : Addr) : entryFrame m #[(.ref o0), (.ref o1)] 3 = mkF m 0 #[.val (.ref o0), .val (.ref o1), .unset] [] := by first | (simp [entryFrame, mkF, argsToLocals, Value.category]; done) | rfl
def Qaf0_0 (Z : State) (o0 : Addr) (o1 : Addr) (w2_els : Addr) (u20_e : Value) (u21_e : Value) (u22_e : Value) (u23_e : Value) (u24_e : Value) (u25_e : Value) (u26_e : Value) (u27_e : Value) (u28_e : Value) (u29_e : Value) (u30_e : Value) (u31_e : Value) (u32_e : Value) (u33_e : Value) (u34_e : Value) (u35_e : Value) (u36_e : Value) (kA : ClassId) (h0 : Heap) (n0 : Nat) (v : Option Value) (h : Heap) (L : List Loc) : Prop := Fr n0 L ∧ v = none ∧ Keep h0 h [o0, w2_els] ∧ Exa Z h o0 "java/util/ArrayDeque" ∧ Fld Z h o0 "java/util/ArrayDeque" "elements" "[Ljava/lang/Object;" (.ref w2_els) ∧ Fld Z h o0 "java/util/ArrayDeque" "head" "I" (.int (16 : Int32)) ∧ Fld Z h o0 "java/util/ArrayDeque" "tail" "I" (.int (0 : Int32)) ∧ Arv Z h w2_els kA (.object "java/lang/Object") (17 : Int32) [u20_e, u21_e, u22_e, u23_e, u24_e, u25_e, u26_e, u27_e, u28_e, u29_e, u30_e, u31_e, u32_e, u33_e, u34_e, u35_e, (.ref o1)] .null
set_option maxRecDepth 65536 in
set_option maxHeartbeats 40000000 in
theorem rmaf0_0 (l : Launch) (Z : State) (a0 : Array Value) (hw : ∀ d ∈ tables_1, d.before a0 Z = true) (ws : List Jvm.Cond) (o0 : Addr) (o1 : Addr) (w2_els : Addr) (u20_e : Value) (u21_e : Value) (u22_e : Value) (u23_e : Value) (u24_e : Value) (u25_e : Value) (u26_e : Value) (u27_e : Value) (u28_e : Value) (u29_e : Value) (u30_e : Value) (u31_e : Value) (u32_e : Value) (u33_e : Value) (u34_e : Value) (u35_e : Value) (u36_e : Value) (kA : ClassId) (h0 : Heap) (n0 : Nat) (Z0 : n0 ≤ h0.size) (E_o0 : Exa Z h0 o0 "java/util/ArrayDeque") (F_elements_o0 : Fld Z h0 o0 "java/util/ArrayDeque" "elements" "[Ljava/lang/Object;" (.ref w2_els)) (F_head_o0 : Fld Z h0 o0 "java/util/ArrayDeque" "head" "I" (.int (0 : Int32))) (F_tail_o0 : Fld Z h0 o0 "java/util/ArrayDeque" "tail" "I" (.int (0 : Int32))) (V_w2_els : Arv Z h0 w2_els kA (.object "java/lang/Object") (17 : Int32) [u20_e, u21_e, u22_e, u23_e, u24_e, u25_e, u26_e, u27_e, u28_e, u29_e, u30_e, u31_e, u32_e, u33_e, u34_e, u35_e, u36_e] .null) (ovr : Ovr Z kA "java/lang/Object") (E_o1 : Exa Z h0 o1 "com/example/dispatch_by_catalog/dispatchbycatalog/subscriptions/DroppedEvents") (g_o0 : n0 ≤ o0) (ne_w2_els_o0 : w2_els ≠ o0) (g_w2_els : n0 ≤ w2_els) :
    MetFree l (⟨"java/util/ArrayDeque", "addFirst", "(Ljava/lang/Object;)V"⟩ : MethodName) (head1 (Jvm.Cond.code (⟨"java/util/ArrayDeque", "addFirst", "(Ljava/lang/Object;)V"⟩ : MethodName) jdk_21_method_12_code 3 none :: ws) ({ frames := 1, cells := 0, slots := 0, locals := 15 } : Room)) (fun a U => a = #[(.ref o0), (.ref o1)] ∧ Z.Warmed39 U.vm ∧ U.heap = h0) (fun _ _ _ _ _ => True) (fun _ U o U' => ∃ v L, o = .returned v ∧ Qaf0_0 Z o0 o1 w2_els u20_e u21_e u22_e u23_e u24_e u25_e u26_e u27_e u28_e u29_e u30_e u31_e u32_e u33_e u34_e u35_e u36_e kA h0 n0 v U'.heap L ∧ FrameEnd U o U' L ({ frames := 1, cells := 0, slots := 0, locals := 15 } : Room).cells ({ frames := 1, cells := 0, slots := 0, locals := 15 } : Room).slots) := by
  refine MetFree.of_bodySF (plainFor_of_name pn_java_util_ArrayDeque) hisR ?_
  intro p e s m args below meth c s₁ Bd hml0 hP hK
  obtain ⟨rfl, hZ, hh⟩ := hP
  have hx := Bd.exec
  have hby := Bd.bytes
  have hml : c.maxLocals = 3 := hml0
  have hown : s.vm.findClass "java/util/ArrayDeque" = some m.cls := findClass_of_methodNamed Bd.named
  have hnm := (name_of_methodNamed Bd.named Bd.method).1
  have hlk := BodyLoose.notSynchronized Bd
  have X0 : Stand p l e ({ frames := 1, cells := 0, slots := 0, locals := 15 } : Room) s m #[(.ref o0), (.ref o1)] below meth c s₁ [] 0 0 := Stand.of_body Bd
  have e0 : s₁.heap = h0 := by rw [← hh, Bd.state]; rfl
  have N0 := Fr.nil n0
  have pre0 : ∀ t, Steps p.tables e below (s₁.setTop (mkF m 0 #[.val (.ref o0), .val (.ref o1), .unset] [])) t → Steps p.tables e below (s₁.setTop (entryFrame m #[(.ref o0), (.ref o1)] 3)) t := fun t k => castTop (ef_af0_0 m o0 o1) k
  obtain ⟨T1, X1, e1, st1⟩ := getF X0 hx hZ hown (host := "") (Or.inl (hw _ (List.mem_of_getElem? (i := 24) rfl))) Via.refl e0 F_elements_o0 (g := (mkF m 13 #[.val (.ref o0), .val (.ref o1), .unset] [(.ref o0)])) rfl rfl (hb hby d12_13)
  obtain ⟨T2, X2, e2, st2⟩ := getF X1 hx hZ hown (host := "") (Or.inl (hw _ (List.mem_of_getElem? (i := 64) rfl))) Via.refl e1 F_head_o0 (g := (mkF m 20 #[.val (.ref o0), .val (.ref o1), .val (.ref w2_els)] [(.ref o0), (.ref o0), (.ref w2_els)])) rfl rfl (hb hby d12_20)
  obtain ⟨cl3, Ar3, qc3, S3, M3, Ha3, G3⟩ := id V_w2_els
  obtain ⟨vr4, _, ⟨T4, L4, k4, n4⟩, -, X4, ⟨Lc4, hQ4, l4, y4, z4⟩, st4⟩ := Jvm.LawKit.callS X2 hx (y := (⟨"java/util/ArrayDeque", "dec", "(II)I"⟩ : MethodName)) hown (mvT hZ (hw _ (List.mem_of_getElem? (i := 82) rfl))) (mvT hZ (hw _ (List.mem_of_getElem? (i := 83) rfl))) (mvT hZ (hw _ (List.mem_of_getElem? (i := 11) rfl))) (mvT hZ (hw _ (List.mem_of_getElem? (i := 84) rfl))) (by decide) (backOf (W := 2) (rm13 l Z a0 hw [] (0 : Int32) (17 : Int32) h0 n0 Z0) hZ (hw _ (List.mem_of_getElem? (i := 84) rfl)) (hw _ (List.mem_of_getElem? (i := 11) rfl)) (by decide) (by decide)) (g := (mkF m 25 #[.val (.ref o0), .val (.ref o1), .val (.ref w2_els)] [(.int (17 : Int32)), (.int (0 : Int32)), (.ref o0), (.ref w2_els)])) rfl (by rw [hml]; rfl) (argsL := [(.int (0 : Int32)), (.int (17 : Int32))]) (rest := [(.ref o0), (.ref w2_els)]) (lenOf pd__II_I rfl) rfl (by show 2 * 0 + _ ≤ _; exact Nat.le_of_eq rfl) (hb hby d12_25) (fun _ _ => ⟨rfl, e2, (by decide : 0 + 0 ≤ _), (by decide : 0 + 0 ≤ _)⟩)
  dsimp only [Pt.U, Pt.locs, Pt.cells, Pt.slots] at X4 l4 y4 z4 st4 hQ4
  subst l4 y4 z4
  have N4q := (show _ ∧ _ ∧ _ from hQ4).1
  have hv4 := (show _ ∧ _ ∧ _ from hQ4).2.1
  have e4 := (show _ ∧ _ ∧ _ from hQ4).2.2
  clear hQ4
  subst hv4
  have N4 := Fr.app N0 N4q
  obtain ⟨T5, h5, X5, e5, W5, st5⟩ := putF X4 hx hZ hown (host := "") (Or.inl (hw _ (List.mem_of_getElem? (i := 64) rfl))) Via.refl e4 F_head_o0 E_o0 (Or.inl (hw _ (List.mem_of_getElem? (i := 65) rfl))) (hw _ (List.mem_of_getElem? (i := 10) rfl)) (ty := .int) (by decide) rfl rfl (g := (mkF m 29 #[.val (.ref o0), .val (.ref o1), .val (.ref w2_els)] [(.int (16 : Int32)), (.ref o0), (.int (16 : Int32)), (.ref w2_els)])) rfl rfl (hb hby d12_29)
  have Fw5 := F_head_o0.same W5
  have N5 := Fr.snoc X5 N4 g_o0
  have z6 : n0 ≤ h5.size := Nat.le_trans Z0 (Keep.of_wr W5).1
  have hs7 : h0.size ≤ h5.size := Nat.le_trans (Nat.le_refl h0.size) (Keep.of_wr W5).1
  have k8 := (V_w2_els.other W5 ne_w2_els_o0)
  obtain ⟨cl9, Ar9, qc9, S9, M9, Ha9, G9⟩ := id k8
  have hin10 : ¬ ((16 : Int32) < 0 ∨ cl9.slots.size ≤ ((16 : Int32)).toNatClampNeg) := inb_of S9 ⟨by decide, by decide⟩
  have k11 := (E_o1.wr W5)
  obtain ⟨T12, h12, X12, e12, W12, st12⟩ := stR X5 hx hZ e5 Ar9 (j := (16 : Int32)) hin10 rfl (Sto.ofV Ar9 qc9 ovr (Ins.of_exa k11 (hw _ (List.mem_of_getElem? (i := 85) rfl)))) (g := (mkF m 33 #[.val (.ref o0), .val (.ref o1), .val (.ref w2_els)] [(.ref o1), (.int (16 : Int32)), (.ref w2_els)])) rfl rfl (hb hby d12_33)
  have V12 : Arv Z h12 w2_els kA (.object "java/lang/Object") (17 : Int32) [u20_e, u21_e, u22_e, u23_e, u24_e, u25_e, u26_e, u27_e, u28_e, u29_e, u30_e, u31_e, u32_e, u33_e, u34_e, u35_e, (.ref o1)] .null := Arv.set Ar9 qc9 S9 M9 Ha9 G9 rfl W12 16 rfl (Nat.le_of_ble_eq_true rfl)
  have N12 := Fr.snoc X12 N5 g_w2_els
  have z13 : n0 ≤ h12.size := Nat.le_trans z6 (Keep.of_wr W12).1
  have hs14 : h0.size ≤ h12.size := Nat.le_trans hs7 (Keep.of_wr W12).1
  have k15 := (Fw5.other W12 (Or.inl (Ne.symm ne_w2_els_o0)))
  obtain ⟨T16, X16, e16, st16⟩ := getF X12 hx hZ hown (host := "") (Or.inl (hw _ (List.mem_of_getElem? (i := 64) rfl))) Via.refl e12 k15 (g := (mkF m 35 #[.val (.ref o0), .val (.ref o1), .val (.ref w2_els)] [(.ref o0)])) rfl rfl (hb hby d12_35)
  have k17 := ((F_tail_o0.other W5 (Or.inr (slot_ne (Or.inl (hw _ (List.mem_of_getElem? (i := 87) rfl))) (Or.inl (hw _ (List.mem_of_getElem? (i := 65) rfl))) (by decide) (t := .int) (t' := .int) (by decide) (by decide)))).other W12 (Or.inl (Ne.symm ne_w2_els_o0)))
  obtain ⟨T18, X18, e18, st18⟩ := getF X16 hx hZ hown (host := "") (Or.inl (hw _ (List.mem_of_getElem? (i := 86) rfl))) Via.refl e16 k17 (g := (mkF m 39 #[.val (.ref o0), .val (.ref o1), .val (.ref w2_els)] [(.ref o0), (.int (16 : Int32))])) rfl rfl (hb hby d12_39)
  obtain ⟨fs, hr, hrun, hended, hW, hsame⟩ := X18.leave (v := none) (fun _ => rfl) hlk
  refine ⟨_, _, pre0 _ ?_, hrun, hended, _, _, rfl, ?_, ⟨_, rfl⟩, hW, hsame.mono (by decide) (by decide)⟩
  · skip
    show Steps p.tables e below (s₁.setTop (mkF m 0 #[.val (.ref o0), .val (.ref o1), .unset] [])) _
    refine XS.aloadN X0.here hx rfl (hb hby d12_0) rfl rfl ?_
    show Steps p.tables e below (s₁.setTop (mkF m 1 #[.val (.ref o0), .val (.ref o1), .unset] [(.ref o1)])) _
    refine XT.ifnonnullYes X0.here hx rfl (pc0 := 1) (pc' := 12) rfl (hb hby d12_1) rfl (by decide) (by decide) ?_
    show Steps p.tables e below (s₁.setTop (mkF m 12 #[.val (.ref o0), .val (.ref o1), .unset] [])) _
    refine XS.aloadN X0.here hx rfl (hb hby d12_12) rfl rfl ?_
    show Steps p.tables e below (s₁.setTop (mkF m 13 #[.val (.ref o0), .val (.ref o1), .unset] [(.ref o0)])) _
    refine st1 _ ?_
    show Steps p.tables e below (T1.setTop (mkF m 16 #[.val (.ref o0), .val (.ref o1), .unset] [(.ref w2_els)])) _
    refine XS.astoreN X1.here hx rfl (hb hby d12_16) rfl rfl (l' := #[.val (.ref o0), .val (.ref o1), .val (.ref w2_els)]) rfl ?_
    show Steps p.tables e below (T1.setTop (mkF m 17 #[.val (.ref o0), .val (.ref o1), .val (.ref w2_els)] [])) _
    refine XS.aloadN X1.here hx rfl (hb hby d12_17) rfl rfl ?_
    show Steps p.tables e below (T1.setTop (mkF m 18 #[.val (.ref o0), .val (.ref o1), .val (.ref w2_els)] [(.ref w2_els)])) _
    refine XS.aloadN X1.here hx rfl (hb hby d12_18) rfl rfl ?_
    show Steps p.tables e below (T1.setTop (mkF m 19 #[.val (.ref o0), .val (.ref o1), .val (.ref w2_els)] [(.ref o0), (.ref w2_els)])) _
    refine XS.aloadN X1.here hx rfl (hb hby d12_19) rfl rfl ?_
    show Steps p.tables e below (T1.setTop (mkF m 20 #[.val (.ref o0), .val (.ref o1), .val (.ref w2_els)] [(.ref o0), (.ref o0), (.ref w2_els)])) _
    refine st2 _ ?_
    show Steps p.tables e below (T2.setTop (mkF m 23 #[.val (.ref o0), .val (.ref o1), .val (.ref w2_els)] [(.int (0 : Int32)), (.ref o0), (.ref w2_els)])) _
    refine XS.aloadN X2.here hx rfl (hb hby d12_23) rfl rfl ?_
    show Steps p.tables e below (T2.setTop (mkF m 24 #[.val (.ref o0), .val (.ref o1), .val (.ref w2_els)] [(.ref w2_els), (.int (0 : Int32)), (.ref o0), (.ref w2_els)])) _
    refine X2.arraylength hx (by rw [e2]; exact Ar3.1) (State.isArrayOf_alike hZ.alike Ar3.2.1) (g := (mkF m 24 #[.val (.ref o0), .val (.ref o1), .val (.ref w2_els)] [(.ref w2_els), (.int (0 : Int32)), (.ref o0), (.ref w2_els)])) rfl rfl (hb hby d12_24) _ ?_
    rw [len_of S3 M3]
    show Steps p.tables e below (T2.setTop (mkF m 25 #[.val (.ref o0), .val (.ref o1), .val (.ref w2_els)] [(.int (17 : Int32)), (.int (0 : Int32)), (.ref o0), (.ref w2_els)])) _
    refine st4 _ ?_
    show Steps p.tables e below (T4.setTop (mkF m 28 #[.val (.ref o0), .val (.ref o1), .val (.ref w2_els)] [(.int (16 : Int32)), (.ref o0), (.ref w2_els)])) _
    refine XT.dupX1 X4.here hx rfl (hb hby d12_28) rfl rfl rfl ?_
    show Steps p.tables e below (T4.setTop (mkF m 29 #[.val (.ref o0), .val (.ref o1), .val (.ref w2_els)] [(.int (16 : Int32)), (.ref o0), (.int (16 : Int32)), (.ref w2_els)])) _
    refine st5 _ ?_
    show Steps p.tables e below (T5.setTop (mkF m 32 #[.val (.ref o0), .val (.ref o1), .val (.ref w2_els)] [(.int (16 : Int32)), (.ref w2_els)])) _
    refine XS.aloadN X5.here hx rfl (hb hby d12_32) rfl rfl ?_
    show Steps p.tables e below (T5.setTop (mkF m 33 #[.val (.ref o0), .val (.ref o1), .val (.ref w2_els)] [(.ref o1), (.int (16 : Int32)), (.ref w2_els)])) _
    refine st12 _ ?_
    show Steps p.tables e below (T12.setTop (mkF m 34 #[.val (.ref o0), .val (.ref o1), .val (.ref w2_els)] [])) _
    refine XS.aloadN X12.here hx rfl (hb hby d12_34) rfl rfl ?_
    show Steps p.tables e below (T12.setTop (mkF m 35 #[.val (.ref o0), .val (.ref o1), .val (.ref w2_els)] [(.ref o0)])) _
    refine st16 _ ?_
    show Steps p.tables e below (T16.setTop (mkF m 38 #[.val (.ref o0), .val (.ref o1), .val (.ref w2_els)] [(.int (16 : Int32))])) _
    refine XS.aloadN X16.here hx rfl (hb hby d12_38) rfl rfl ?_
    show Steps p.tables e below (T16.setTop (mkF m 39 #[.val (.ref o0), .val (.ref o1), .val (.ref w2_els)] [(.ref o0), (.int (16 : Int32))])) _
    refine st18 _ ?_
    show Steps p.tables e below (T18.setTop (mkF m 42 #[.val (.ref o0), .val (.ref o1), .val (.ref w2_els)] [(.int (0 : Int32)), (.int (16 : Int32))])) _
    refine XS.icmpYes X18.here hx rfl (pc0 := 42) (pc' := 50) rfl (hb hby d12_42) rfl (XT.ii_ne_t (by decide)) (by decide) (by decide) ?_
    show Steps p.tables e below (T18.setTop (mkF m 50 #[.val (.ref o0), .val (.ref o1), .val (.ref w2_els)] [])) _
    exact X18.returnOut hx Bd.returns (hb hby d12_50) hr
  · skip
    show Qaf0_0 Z o0 o1 w2_els u20_e u21_e u22_e u23_e u24_e u25_e u26_e u27_e u28_e u29_e u30_e u31_e u32_e u33_e u34_e u35_e u36_e kA h0 n0 _ T18.heap _
    rw [e18]
    have k19 := ((E_o0.wr W5).wr W12)
    have k20 := ((F_elements_o0.other W5 (Or.inr (slot_ne (Or.inl (hw _ (List.mem_of_getElem? (i := 25) rfl))) (Or.inl (hw _ (List.mem_of_getElem? (i := 65) rfl))) (by decide) (t := (.array (.object "java/lang/Object"))) (t' := .int) (by decide) (by decide)))).other W12 (Or.inl (Ne.symm ne_w2_els_o0)))
    exact ⟨N12, rfl, (((Keep.refl h0 [o0, w2_els]).wr W5 (Or.inl (List.mem_of_getElem? (i := 0) rfl))).wr W12 (Or.inl (List.mem_of_getElem? (i := 1) rfl))), k19, k20, k15, k17, V12⟩
theorem pd__Ljava_lang_Object__V : parseMethodDescriptor "(Ljava/lang/Object;)V" = some ⟨[(.object "java/lang/Object")], none⟩ := by decide +kernel
theorem pd___J : parseMethodDescriptor "()J" = some ⟨[], some .long⟩ := by decide +kernel
theorem d15_0 : decode prog_41_method_7_code 0 = .ok (.aload_n 0, 1) := by decide +kernel
theorem d15_1 : decode prog_41_method_7_code 1 = .ok (.getfield 10, 3) := by decide +kernel
theorem d15_4 : decode prog_41_method_7_code 4 = .ok (.aload_n 1, 1) := by decide +kernel
theorem d15_5 : decode prog_41_method_7_code 5 = .ok (.invokeinterface 42 2, 5) := by decide +kernel
theorem d15_10 : decode prog_41_method_7_code 10 = .ok (.aload_n 0, 1) := by decide +kernel
theorem d15_11 : decode prog_41_method_7_code 11 = .ok (.dup, 1) := by decide +kernel
theorem d15_12 : decode prog_41_method_7_code 12 = .ok (.getfield 26, 3) := by decide +kernel
theorem d15_15 : decode prog_41_method_7_code 15 = .ok (.aload_n 1, 1) := by decide +kernel
theorem d15_16 : decode prog_41_method_7_code 16 = .ok (.invokeinterface 39 1, 5) := by decide +kernel
theorem d15_21 : decode prog_41_method_7_code 21 = .ok (.ladd, 1) := by decide +kernel
theorem d15_22 : decode prog_41_method_7_code 22 = .ok (.putfield 26, 3) := by decide +kernel
theorem d15_25 : decode prog_41_method_7_code 25 = .ok (.return_, 1) := by decide +kernel
theorem ef_qa0_0 (m : MethodId) (o0 : Addr) (o1 : Addr) : entryFrame m #[(.ref o0), (.ref o1)] 2 = mkF m 0 #[.val (.ref o0), .val (.ref o1)] [] := by first | (simp [entryFrame, mkF, argsToLocals, Value.category]; done) | rfl
def Qqa0_0 (Z : State) (o0 : Addr) (o1 : Addr) (w1_dq : Addr) (w0_sz : Int64) (w2_els : Addr) (u20_e : Value) (u21_e : Value) (u22_e : Value) (u23_e : Value) (u24_e : Value) (u25_e : Value) (u26_e : Value) (u27_e : Value) (u28_e : Value) (u29_e : Value) (u30_e : Value) (u31_e : Value) (u32_e : Value) (u33_e : Value) (u34_e : Value) (u35_e : Value) (u36_e : Value) (kA : ClassId) (h0 : Heap) (n0 : Nat) (v : Option Value) (h : Heap) (L : List Loc) : Prop := Fr n0 L ∧ v = none ∧ Keep h0 h [w2_els, w1_dq, o0] ∧ Arv Z h w2_els kA (.object "java/lang/Object") (17 : Int32) [(.ref o1), u21_e, u22_e, u23_e, u24_e, u25_e, u26_e, u27_e, u28_e, u29_e, u30_e, u31_e, u32_e, u33_e, u34_e, u35_e, u36_e] .null ∧ Exa Z h w1_dq "java/util/ArrayDeque" ∧ Fld Z h w1_dq "java/util/ArrayDeque" "elements" "[Ljava/lang/Object;" (.ref w2_els) ∧ Fld Z h w1_dq "java/util/ArrayDeque" "head" "I" (.int (0 : Int32)) ∧ Fld Z h w1_dq "java/util/ArrayDeque" "tail" "I" (.int (1 : Int32)) ∧ Exa Z h o0 "com/example/dispatch_by_catalog/dispatchbycatalog/subscriptions/EventQueue" ∧ Fld Z h o0 "com/example/dispatch_by_catalog/dispatchbycatalog/subscriptions/EventQueue" "events" "Ljava/util/Deque;" (.ref w1_dq) ∧ Fld Z h o0 "com/example/dispatch_by_catalog/dispatchbycatalog/subscriptions/EventQueue" "bytes" "J" (.long (w0_sz + f14))
set_option maxRecDepth 65536 in
set_option maxHeartbeats 40000000 in
theorem rmqa0_0 (l : Launch) (Z : State) (a0 : Array Value) (hw : ∀ d ∈ tables_1, d.before a0 Z = true) (ws : List Jvm.Cond) (o0 : Addr) (o1 : Addr) (w1_dq : Addr) (w0_sz : Int64) (w2_els : Addr) (u20_e : Value) (u21_e : Value) (u22_e : Value) (u23_e : Value) (u24_e : Value) (u25_e : Value) (u26_e : Value) (u27_e : Value) (u28_e : Value) (u29_e : Value) (u30_e : Value) (u31_e : Value) (u32_e : Value) (u33_e : Value) (u34_e : Value) (u35_e : Value) (u36_e : Value) (kA : ClassId) (h0 : Heap) (n0 : Nat) (Z0 : n0 ≤ h0.size) (E_o0 : Exa Z h0 o0 "com/example/dispatch_by_catalog/dispatchbycatalog/subscriptions/EventQueue") (F_events_o0 : Fld Z h0 o0 "com/example/dispatch_by_catalog/dispatchbycatalog/subscriptions/EventQueue" "events" "Ljava/util/Deque;" (.ref w1_dq)) (F_bytes_o0 : Fld Z h0 o0 "com/example/dispatch_by_catalog/dispatchbycatalog/subscriptions/EventQueue" "bytes" "J" (.long w0_sz)) (E_w1_dq : Exa Z h0 w1_dq "java/util/ArrayDeque") (F_elements_w1_dq : Fld Z h0 w1_dq "java/util/ArrayDeque" "elements" "[Ljava/lang/Object;" (.ref w2_els)) (F_head_w1_dq : Fld Z h0 w1_dq "java/util/ArrayDeque" "head" "I" (.int (0 : Int32))) (F_tail_w1_dq : Fld Z h0 w1_dq "java/util/ArrayDeque" "tail" "I" (.int (0 : Int32))) (V_w2_els : Arv Z h0 w2_els kA (.object "java/lang/Object") (17 : Int32) [u20_e, u21_e, u22_e, u23_e, u24_e, u25_e, u26_e, u27_e, u28_e, u29_e, u30_e, u31_e, u32_e, u33_e, u34_e, u35_e, u36_e] .null) (ovr : Ovr Z kA "java/lang/Object") (E_o1 : Exa Z h0 o1 "com/example/dispatch_by_catalog/dispatchbycatalog/subscriptions/DroppedEvents") (g_w2_els : n0 ≤ w2_els) (ne_w1_dq_w2_els : w1_dq ≠ w2_els) (g_w1_dq : n0 ≤ w1_dq) (ne_o0_w1_dq : o0 ≠ w1_dq) (ne_o0_w2_els : o0 ≠ w2_els) (g_o0 : n0 ≤ o0) :
    MetFree l (⟨"com/example/dispatch_by_catalog/dispatchbycatalog/subscriptions/EventQueue", "add", "(Lcom/example/dispatch_by_catalog/dispatchbycatalog/subscriptions/Event;)V"⟩ : MethodName) (head1 (Jvm.Cond.code (⟨"com/example/dispatch_by_catalog/dispatchbycatalog/subscriptions/EventQueue", "add", "(Lcom/example/dispatch_by_catalog/dispatchbycatalog/subscriptions/Event;)V"⟩ : MethodName) prog_41_method_7_code 2 none :: ws) ({ frames := 2, cells := 0, slots := 0, locals := 29 } : Room)) (fun a U => a = #[(.ref o0), (.ref o1)] ∧ Z.Warmed39 U.vm ∧ U.heap = h0) (fun _ _ _ _ _ => True) (fun _ U o U' => ∃ v L, o = .returned v ∧ Qqa0_0 Z o0 o1 w1_dq w0_sz w2_els u20_e u21_e u22_e u23_e u24_e u25_e u26_e u27_e u28_e u29_e u30_e u31_e u32_e u33_e u34_e u35_e u36_e kA h0 n0 v U'.heap L ∧ FrameEnd U o U' L ({ frames := 2, cells := 0, slots := 0, locals := 29 } : Room).cells ({ frames := 2, cells := 0, slots := 0, locals := 29 } : Room).slots) := by
  refine MetFree.of_bodySF (plainFor_of_name pn_com_example_dispatch_by_catalog_dispatchbycatalog_subscriptions_EventQueue) hisR ?_
  intro p e s m args below meth c s₁ Bd hml0 hP hK
  obtain ⟨rfl, hZ, hh⟩ := hP
  have hx := Bd.exec
  have hby := Bd.bytes
  have hml : c.maxLocals = 2 := hml0
  have hown : s.vm.findClass "com/example/dispatch_by_catalog/dispatchbycatalog/subscriptions/EventQueue" = some m.cls := findClass_of_methodNamed Bd.named
  have hnm := (name_of_methodNamed Bd.named Bd.method).1
  have hlk := BodyLoose.notSynchronized Bd
  have X0 : Stand p l e ({ frames := 2, cells := 0, slots := 0, locals := 29 } : Room) s m #[(.ref o0), (.ref o1)] below meth c s₁ [] 0 0 := Stand.of_body Bd
  have e0 : s₁.heap = h0 := by rw [← hh, Bd.state]; rfl
  have N0 := Fr.nil n0
  have pre0 : ∀ t, Steps p.tables e below (s₁.setTop (mkF m 0 #[.val (.ref o0), .val (.ref o1)] [])) t → Steps p.tables e below (s₁.setTop (entryFrame m #[(.ref o0), (.ref o1)] 2)) t := fun t k => castTop (ef_qa0_0 m o0 o1) k
  obtain ⟨T1, X1, e1, st1⟩ := getF X0 hx hZ hown (host := "") (Or.inl (hw _ (List.mem_of_getElem? (i := 26) rfl))) Via.refl e0 F_events_o0 (g := (mkF m 1 #[.val (.ref o0), .val (.ref o1)] [(.ref o0)])) rfl rfl (hb hby d15_1)
  obtain ⟨cq2, kq2, q2a, q2b, q2c⟩ := isOf hZ e1 E_w1_dq
  obtain ⟨vr2, _, ⟨T2, L2, k2, n2⟩, -, X2, ⟨Lc2, hQ2, l2, y2, z2⟩, st2⟩ := X1.interfaceBack hx (xi := (⟨"java/util/Deque", "addLast", "(Ljava/lang/Object;)V"⟩ : MethodName)) (y := (⟨"java/util/ArrayDeque", "addLast", "(Ljava/lang/Object;)V"⟩ : MethodName)) hown (mvT hZ (hw _ (List.mem_of_getElem? (i := 105) rfl))) (mvT hZ (hw _ (List.mem_of_getElem? (i := 106) rfl))) (mvT hZ (hw _ (List.mem_of_getElem? (i := 107) rfl))) (mvT hZ (hw _ (List.mem_of_getElem? (i := 108) rfl))) (mvT hZ (hw _ (List.mem_of_getElem? (i := 109) rfl))) (mvT hZ (hw _ (List.mem_of_getElem? (i := 110) rfl))) (mvT hZ (hw _ (List.mem_of_getElem? (i := 111) rfl))) (mvT hZ (hw _ (List.mem_of_getElem? (i := 57) rfl))) (by decide) (backOf (W := 0) (rmal0_0 l Z a0 hw [] w1_dq o1 w2_els u20_e u21_e u22_e u23_e u24_e u25_e u26_e u27_e u28_e u29_e u30_e u31_e u32_e u33_e u34_e u35_e u36_e kA h0 n0 Z0 E_w1_dq F_elements_w1_dq F_head_w1_dq F_tail_w1_dq V_w2_els ovr E_o1 g_w2_els ne_w1_dq_w2_els g_w1_dq) hZ (hw _ (List.mem_of_getElem? (i := 112) rfl)) (hw _ (List.mem_of_getElem? (i := 11) rfl)) (by decide) (by decide)) q2a q2b q2c (g := (mkF m 5 #[.val (.ref o0), .val (.ref o1)] [(.ref o1), (.ref w1_dq)])) rfl (by rw [hml]; rfl) (Steps.refl _) (argsL := [(.ref o1)]) (rest := []) (lenOf pd__Ljava_lang_Object__V rfl) rfl (by show 2 * 0 + _ ≤ _; exact Nat.le_of_eq rfl) (hb hby d15_5) (fun _ _ => ⟨rfl, e1, (by decide : 0 + 0 ≤ _), (by decide : 0 + 0 ≤ _)⟩)
  dsimp only [Pt.U, Pt.locs, Pt.cells, Pt.slots] at X2 l2 y2 z2 st2 hQ2
  subst l2 y2 z2
  have N2q := (show _ ∧ _ from hQ2).1
  have hq2 := (show _ ∧ _ from hQ2).2
  clear hQ2
  have hv2 := hq2.1
  have K2 := hq2.2.1
  have po2_0 := hq2.2.2.1
  have po2_1 := hq2.2.2.2.1
  have po2_2 := hq2.2.2.2.2.1
  have po2_3 := hq2.2.2.2.2.2.1
  have po2_4 := hq2.2.2.2.2.2.2
  clear hq2
  subst hv2
  have z3 : n0 ≤ T2.heap.size := Nat.le_trans Z0 K2.1
  have hs4 : h0.size ≤ T2.heap.size := Nat.le_trans (Nat.le_refl h0.size) K2.1
  have N2 := Fr.app N0 N2q
  have k5 := (F_bytes_o0.keep K2 (ninS ne_o0_w2_els (ninS ne_o0_w1_dq nin0)))
  obtain ⟨T6, X6, e6, st6⟩ := getF X2 hx hZ hown (host := "") (Or.inl (hw _ (List.mem_of_getElem? (i := 88) rfl))) Via.refl rfl k5 (g := (mkF m 12 #[.val (.ref o0), .val (.ref o1)] [(.ref o0), (.ref o0)])) rfl rfl (hb hby d15_12)
  have k8 := (E_o1.keep K2)
  obtain ⟨cq7, kq7, q7a, q7b, q7c⟩ := isOf hZ e6 k8
  obtain ⟨vr7, _, ⟨T7, L7, k7, n7⟩, -, X7, ⟨Lc7, hQ7, l7, y7, z7⟩, st7⟩ := X6.interfaceBack hx (xi := (⟨"com/example/dispatch_by_catalog/dispatchbycatalog/subscriptions/Event", "size", "()J"⟩ : MethodName)) (y := (⟨"com/example/dispatch_by_catalog/dispatchbycatalog/subscriptions/DroppedEvents", "size", "()J"⟩ : MethodName)) hown (mvT hZ (hw _ (List.mem_of_getElem? (i := 90) rfl))) (mvT hZ (hw _ (List.mem_of_getElem? (i := 91) rfl))) (mvT hZ (hw _ (List.mem_of_getElem? (i := 92) rfl))) (mvT hZ (hw _ (List.mem_of_getElem? (i := 93) rfl))) (mvT hZ (hw _ (List.mem_of_getElem? (i := 94) rfl))) (mvT hZ (hw _ (List.mem_of_getElem? (i := 95) rfl))) (mvT hZ (hw _ (List.mem_of_getElem? (i := 96) rfl))) (mvT hZ (hw _ (List.mem_of_getElem? (i := 97) rfl))) (by decide) (backOf (W := 3) (rm14 l Z a0 hw [] o1 T2.heap n0 z3) hZ (hw _ (List.mem_of_getElem? (i := 98) rfl)) (hw _ (List.mem_of_getElem? (i := 30) rfl)) (by decide) (by decide)) q7a q7b q7c (g := (mkF m 16 #[.val (.ref o0), .val (.ref o1)] [(.ref o1), (.long w0_sz), (.ref o0)])) rfl (by rw [hml]; rfl) (Steps.refl _) (argsL := []) (rest := [(.long w0_sz), (.ref o0)]) (lenOf pd___J rfl) rfl (by show 2 * 0 + _ ≤ _; exact Nat.le_of_eq rfl) (hb hby d15_16) (fun _ _ => ⟨rfl, e6, (by decide : 0 + 0 ≤ _), (by decide : 0 + 0 ≤ _)⟩)
  dsimp only [Pt.U, Pt.locs, Pt.cells, Pt.slots] at X7 l7 y7 z7 st7 hQ7
  subst l7 y7 z7
  have N7q := (show _ ∧ _ ∧ _ from hQ7).1
  have hv7 := (show _ ∧ _ ∧ _ from hQ7).2.1
  have e7 := (show _ ∧ _ ∧ _ from hQ7).2.2
  clear hQ7
  subst hv7
  have N7 := Fr.app N2 N7q
  have k9 := (E_o0.keep K2)
  obtain ⟨T10, h10, X10, e10, W10, st10⟩ := putF X7 hx hZ hown (host := "") (Or.inl (hw _ (List.mem_of_getElem? (i := 88) rfl))) Via.refl e7 k5 k9 (Or.inl (hw _ (List.mem_of_getElem? (i := 89) rfl))) (hw _ (List.mem_of_getElem? (i := 1) rfl)) (ty := .long) (by decide) rfl rfl (g := (mkF m 22 #[.val (.ref o0), .val (.ref o1)] [(.long (w0_sz + f14)), (.ref o0)])) rfl rfl (hb hby d15_22)
  have Fw10 := k5.same W10
  have N10 := Fr.snoc X10 N7 g_o0
  have z11 : n0 ≤ h10.size := Nat.le_trans z3 (Keep.of_wr W10).1
  have hs12 : h0.size ≤ h10.size := Nat.le_trans hs4 (Keep.of_wr W10).1
  obtain ⟨fs, hr, hrun, hended, hW, hsame⟩ := X10.leave (v := none) (fun _ => rfl) hlk
  refine ⟨_, _, pre0 _ ?_, hrun, hended, _, _, rfl, ?_, ⟨_, rfl⟩, hW, hsame.mono (by decide) (by decide)⟩
  · skip
    show Steps p.tables e below (s₁.setTop (mkF m 0 #[.val (.ref o0), .val (.ref o1)] [])) _
    refine XS.aloadN X0.here hx rfl (hb hby d15_0) rfl rfl ?_
    show Steps p.tables e below (s₁.setTop (mkF m 1 #[.val (.ref o0), .val (.ref o1)] [(.ref o0)])) _
    refine st1 _ ?_
    show Steps p.tables e below (T1.setTop (mkF m 4 #[.val (.ref o0), .val (.ref o1)] [(.ref w1_dq)])) _
    refine XS.aloadN X1.here hx rfl (hb hby d15_4) rfl rfl ?_
    show Steps p.tables e below (T1.setTop (mkF m 5 #[.val (.ref o0), .val (.ref o1)] [(.ref o1), (.ref w1_dq)])) _
    refine st2.trans ?_
    show Steps p.tables e below (T2.setTop (mkF m 10 #[.val (.ref o0), .val (.ref o1)] [])) _
    refine XS.aloadN X2.here hx rfl (hb hby d15_10) rfl rfl ?_
    show Steps p.tables e below (T2.setTop (mkF m 11 #[.val (.ref o0), .val (.ref o1)] [(.ref o0)])) _
    refine XS.dup X2.here hx rfl (hb hby d15_11) rfl rfl ?_
    show Steps p.tables e below (T2.setTop (mkF m 12 #[.val (.ref o0), .val (.ref o1)] [(.ref o0), (.ref o0)])) _
    refine st6 _ ?_
    show Steps p.tables e below (T6.setTop (mkF m 15 #[.val (.ref o0), .val (.ref o1)] [(.long w0_sz), (.ref o0)])) _
    refine XS.aloadN X6.here hx rfl (hb hby d15_15) rfl rfl ?_
    show Steps p.tables e below (T6.setTop (mkF m 16 #[.val (.ref o0), .val (.ref o1)] [(.ref o1), (.long w0_sz), (.ref o0)])) _
    refine st7.trans ?_
    show Steps p.tables e below (T7.setTop (mkF m 21 #[.val (.ref o0), .val (.ref o1)] [(.long f14), (.long w0_sz), (.ref o0)])) _
    refine XT.ladd X7.here hx rfl (hb hby d15_21) rfl ?_
    show Steps p.tables e below (T7.setTop (mkF m 22 #[.val (.ref o0), .val (.ref o1)] [(.long (w0_sz + f14)), (.ref o0)])) _
    refine st10 _ ?_
    show Steps p.tables e below (T10.setTop (mkF m 25 #[.val (.ref o0), .val (.ref o1)] [])) _
    exact X10.returnOut hx Bd.returns (hb hby d15_25) hr
  · skip
    show Qqa0_0 Z o0 o1 w1_dq w0_sz w2_els u20_e u21_e u22_e u23_e u24_e u25_e u26_e u27_e u28_e u29_e u30_e u31_e u32_e u33_e u34_e u35_e u36_e kA h0 n0 _ T10.heap _
    rw [e10]
    have k13 := (po2_0.other W10 (Ne.symm ne_o0_w2_els))
    have k14 := (po2_1.wr W10)
    have k15 := (po2_2.other W10 (Or.inl (Ne.symm ne_o0_w1_dq)))
    have k16 := (po2_3.other W10 (Or.inl (Ne.symm ne_o0_w1_dq)))
    have k17 := (po2_4.other W10 (Or.inl (Ne.symm ne_o0_w1_dq)))
    have k18 := (k9.wr W10)
    have k19 := ((F_events_o0.keep K2 (ninS ne_o0_w2_els (ninS ne_o0_w1_dq nin0))).other W10 (Or.inr (slot_ne (Or.inr (hw _ (List.mem_of_getElem? (i := 27) rfl))) (Or.inl (hw _ (List.mem_of_getElem? (i := 89) rfl))) (by decide) (t := (.object "java/util/Deque")) (t' := .long) (by decide) (by decide))))
    exact ⟨N10, rfl, (((Keep.refl h0 [w2_els, w1_dq, o0]).trans K2 (allS (Or.inl (List.mem_of_getElem? (i := 0) rfl)) (allS (Or.inl (List.mem_of_getElem? (i := 1) rfl)) all0))).wr W10 (Or.inl (List.mem_of_getElem? (i := 2) rfl))), k13, k14, k15, k16, k17, k18, k19, Fw10⟩
theorem d11_0 : decode prog_41_method_8_code 0 = .ok (.aload_n 0, 1) := by decide +kernel
theorem d11_1 : decode prog_41_method_8_code 1 = .ok (.getfield 10, 3) := by decide +kernel
theorem d11_4 : decode prog_41_method_8_code 4 = .ok (.aload_n 1, 1) := by decide +kernel
theorem d11_5 : decode prog_41_method_8_code 5 = .ok (.invokeinterface 46 2, 5) := by decide +kernel
theorem d11_10 : decode prog_41_method_8_code 10 = .ok (.aload_n 0, 1) := by decide +kernel
theorem d11_11 : decode prog_41_method_8_code 11 = .ok (.dup, 1) := by decide +kernel
theorem d11_12 : decode prog_41_method_8_code 12 = .ok (.getfield 26, 3) := by decide +kernel
theorem d11_15 : decode prog_41_method_8_code 15 = .ok (.aload_n 1, 1) := by decide +kernel
theorem d11_16 : decode prog_41_method_8_code 16 = .ok (.invokeinterface 39 1, 5) := by decide +kernel
theorem d11_21 : decode prog_41_method_8_code 21 = .ok (.ladd, 1) := by decide +kernel
theorem d11_22 : decode prog_41_method_8_code 22 = .ok (.putfield 26, 3) := by decide +kernel
theorem d11_25 : decode prog_41_method_8_code 25 = .ok (.return_, 1) := by decide +kernel
theorem ef_qf0_0 (m : MethodId) (o0 : Addr) (o1 : Addr) : entryFrame m #[(.ref o0), (.ref o1)] 2 = mkF m 0 #[.val (.ref o0), .val (.ref o1)] [] := by first | (simp [entryFrame, mkF, argsToLocals, Value.category]; done) | rfl
def Qqf0_0 (Z : State) (o0 : Addr) (o1 : Addr) (w1_dq : Addr) (w0_sz : Int64) (w2_els : Addr) (u20_e : Value) (u21_e : Value) (u22_e : Value) (u23_e : Value) (u24_e : Value) (u25_e : Value) (u26_e : Value) (u27_e : Value) (u28_e : Value) (u29_e : Value) (u30_e : Value) (u31_e : Value) (u32_e : Value) (u33_e : Value) (u34_e : Value) (u35_e : Value) (u36_e : Value) (kA : ClassId) (h0 : Heap) (n0 : Nat) (v : Option Value) (h : Heap) (L : List Loc) : Prop := Fr n0 L ∧ v = none ∧ Keep h0 h [w1_dq, w2_els, o0] ∧ Exa Z h w1_dq "java/util/ArrayDeque" ∧ Fld Z h w1_dq "java/util/ArrayDeque" "elements" "[Ljava/lang/Object;" (.ref w2_els) ∧ Fld Z h w1_dq "java/util/ArrayDeque" "head" "I" (.int (16 : Int32)) ∧ Fld Z h w1_dq "java/util/ArrayDeque" "tail" "I" (.int (0 : Int32)) ∧ Arv Z h w2_els kA (.object "java/lang/Object") (17 : Int32) [u20_e, u21_e, u22_e, u23_e, u24_e, u25_e, u26_e, u27_e, u28_e, u29_e, u30_e, u31_e, u32_e, u33_e, u34_e, u35_e, (.ref o1)] .null ∧ Exa Z h o0 "com/example/dispatch_by_catalog/dispatchbycatalog/subscriptions/EventQueue" ∧ Fld Z h o0 "com/example/dispatch_by_catalog/dispatchbycatalog/subscriptions/EventQueue" "events" "Ljava/util/Deque;" (.ref w1_dq) ∧ Fld Z h o0 "com/example/dispatch_by_catalog/dispatchbycatalog/subscriptions/EventQueue" "bytes" "J" (.long (w0_sz + f14))
set_option maxRecDepth 65536 in
set_option maxHeartbeats 40000000 in
theorem rmqf0_0 (l : Launch) (Z : State) (a0 : Array Value) (hw : ∀ d ∈ tables_1, d.before a0 Z = true) (ws : List Jvm.Cond) (o0 : Addr) (o1 : Addr) (w1_dq : Addr) (w0_sz : Int64) (w2_els : Addr) (u20_e : Value) (u21_e : Value) (u22_e : Value) (u23_e : Value) (u24_e : Value) (u25_e : Value) (u26_e : Value) (u27_e : Value) (u28_e : Value) (u29_e : Value) (u30_e : Value) (u31_e : Value) (u32_e : Value) (u33_e : Value) (u34_e : Value) (u35_e : Value) (u36_e : Value) (kA : ClassId) (h0 : Heap) (n0 : Nat) (Z0 : n0 ≤ h0.size) (E_o0 : Exa Z h0 o0 "com/example/dispatch_by_catalog/dispatchbycatalog/subscriptions/EventQueue") (F_events_o0 : Fld Z h0 o0 "com/example/dispatch_by_catalog/dispatchbycatalog/subscriptions/EventQueue" "events" "Ljava/util/Deque;" (.ref w1_dq)) (F_bytes_o0 : Fld Z h0 o0 "com/example/dispatch_by_catalog/dispatchbycatalog/subscriptions/EventQueue" "bytes" "J" (.long w0_sz)) (E_w1_dq : Exa Z h0 w1_dq "java/util/ArrayDeque") (F_elements_w1_dq : Fld Z h0 w1_dq "java/util/ArrayDeque" "elements" "[Ljava/lang/Object;" (.ref w2_els)) (F_head_w1_dq : Fld Z h0 w1_dq "java/util/ArrayDeque" "head" "I" (.int (0 : Int32))) (F_tail_w1_dq : Fld Z h0 w1_dq "java/util/ArrayDeque" "tail" "I" (.int (0 : Int32))) (V_w2_els : Arv Z h0 w2_els kA (.object "java/lang/Object") (17 : Int32) [u20_e, u21_e, u22_e, u23_e, u24_e, u25_e, u26_e, u27_e, u28_e, u29_e, u30_e, u31_e, u32_e, u33_e, u34_e, u35_e, u36_e] .null) (ovr : Ovr Z kA "java/lang/Object") (E_o1 : Exa Z h0 o1 "com/example/dispatch_by_catalog/dispatchbycatalog/subscriptions/DroppedEvents") (g_w1_dq : n0 ≤ w1_dq) (ne_w2_els_w1_dq : w2_els ≠ w1_dq) (g_w2_els : n0 ≤ w2_els) (ne_o0_w2_els : o0 ≠ w2_els) (ne_o0_w1_dq : o0 ≠ w1_dq) (g_o0 : n0 ≤ o0) :
    MetFree l (⟨"com/example/dispatch_by_catalog/dispatchbycatalog/subscriptions/EventQueue", "addFirst", "(Lcom/example/dispatch_by_catalog/dispatchbycatalog/subscriptions/Event;)V"⟩ : MethodName) (head1 (Jvm.Cond.code (⟨"com/example/dispatch_by_catalog/dispatchbycatalog/subscriptions/EventQueue", "addFirst", "(Lcom/example/dispatch_by_catalog/dispatchbycatalog/subscriptions/Event;)V"⟩ : MethodName) prog_41_method_8_code 2 none :: ws) ({ frames := 2, cells := 0, slots := 0, locals := 29 } : Room)) (fun a U => a = #[(.ref o0), (.ref o1)] ∧ Z.Warmed39 U.vm ∧ U.heap = h0) (fun _ _ _ _ _ => True) (fun _ U o U' => ∃ v L, o = .returned v ∧ Qqf0_0 Z o0 o1 w1_dq w0_sz w2_els u20_e u21_e u22_e u23_e u24_e u25_e u26_e u27_e u28_e u29_e u30_e u31_e u32_e u33_e u34_e u35_e u36_e kA h0 n0 v U'.heap L ∧ FrameEnd U o U' L ({ frames := 2, cells := 0, slots := 0, locals := 29 } : Room).cells ({ frames := 2, cells := 0, slots := 0, locals := 29 } : Room).slots) := by
  refine MetFree.of_bodySF (plainFor_of_name pn_com_example_dispatch_by_catalog_dispatchbycatalog_subscriptions_EventQueue) hisR ?_
  intro p e s m args below meth c s₁ Bd hml0 hP hK
  obtain ⟨rfl, hZ, hh⟩ := hP
  have hx := Bd.exec
  have hby := Bd.bytes
  have hml : c.maxLocals = 2 := hml0
  have hown : s.vm.findClass "com/example/dispatch_by_catalog/dispatchbycatalog/subscriptions/EventQueue" = some m.cls := findClass_of_methodNamed Bd.named
  have hnm := (name_of_methodNamed Bd.named Bd.method).1
  have hlk := BodyLoose.notSynchronized Bd
  have X0 : Stand p l e ({ frames := 2, cells := 0, slots := 0, locals := 29 } : Room) s m #[(.ref o0), (.ref o1)] below meth c s₁ [] 0 0 := Stand.of_body Bd
  have e0 : s₁.heap = h0 := by rw [← hh, Bd.state]; rfl
  have N0 := Fr.nil n0
  have pre0 : ∀ t, Steps p.tables e below (s₁.setTop (mkF m 0 #[.val (.ref o0), .val (.ref o1)] [])) t → Steps p.tables e below (s₁.setTop (entryFrame m #[(.ref o0), (.ref o1)] 2)) t := fun t k => castTop (ef_qf0_0 m o0 o1) k
  obtain ⟨T1, X1, e1, st1⟩ := getF X0 hx hZ hown (host := "") (Or.inl (hw _ (List.mem_of_getElem? (i := 26) rfl))) Via.refl e0 F_events_o0 (g := (mkF m 1 #[.val (.ref o0), .val (.ref o1)] [(.ref o0)])) rfl rfl (hb hby d11_1)
  obtain ⟨cq2, kq2, q2a, q2b, q2c⟩ := isOf hZ e1 E_w1_dq
  obtain ⟨vr2, _, ⟨T2, L2, k2, n2⟩, -, X2, ⟨Lc2, hQ2, l2, y2, z2⟩, st2⟩ := X1.interfaceBack hx (xi := (⟨"java/util/Deque", "addFirst", "(Ljava/lang/Object;)V"⟩ : MethodName)) (y := (⟨"java/util/ArrayDeque", "addFirst", "(Ljava/lang/Object;)V"⟩ : MethodName)) hown (mvT hZ (hw _ (List.mem_of_getElem? (i := 74) rfl))) (mvT hZ (hw _ (List.mem_of_getElem? (i := 75) rfl))) (mvT hZ (hw _ (List.mem_of_getElem? (i := 76) rfl))) (mvT hZ (hw _ (List.mem_of_getElem? (i := 77) rfl))) (mvT hZ (hw _ (List.mem_of_getElem? (i := 78) rfl))) (mvT hZ (hw _ (List.mem_of_getElem? (i := 79) rfl))) (mvT hZ (hw _ (List.mem_of_getElem? (i := 80) rfl))) (mvT hZ (hw _ (List.mem_of_getElem? (i := 57) rfl))) (by decide) (backOf (W := 0) (rmaf0_0 l Z a0 hw [] w1_dq o1 w2_els u20_e u21_e u22_e u23_e u24_e u25_e u26_e u27_e u28_e u29_e u30_e u31_e u32_e u33_e u34_e u35_e u36_e kA h0 n0 Z0 E_w1_dq F_elements_w1_dq F_head_w1_dq F_tail_w1_dq V_w2_els ovr E_o1 g_w1_dq ne_w2_els_w1_dq g_w2_els) hZ (hw _ (List.mem_of_getElem? (i := 81) rfl)) (hw _ (List.mem_of_getElem? (i := 11) rfl)) (by decide) (by decide)) q2a q2b q2c (g := (mkF m 5 #[.val (.ref o0), .val (.ref o1)] [(.ref o1), (.ref w1_dq)])) rfl (by rw [hml]; rfl) (Steps.refl _) (argsL := [(.ref o1)]) (rest := []) (lenOf pd__Ljava_lang_Object__V rfl) rfl (by show 2 * 0 + _ ≤ _; exact Nat.le_of_eq rfl) (hb hby d11_5) (fun _ _ => ⟨rfl, e1, (by decide : 0 + 0 ≤ _), (by decide : 0 + 0 ≤ _)⟩)
  dsimp only [Pt.U, Pt.locs, Pt.cells, Pt.slots] at X2 l2 y2 z2 st2 hQ2
  subst l2 y2 z2
  have N2q := (show _ ∧ _ from hQ2).1
  have hq2 := (show _ ∧ _ from hQ2).2
  clear hQ2
  have hv2 := hq2.1
  have K2 := hq2.2.1
  have po2_0 := hq2.2.2.1
  have po2_1 := hq2.2.2.2.1
  have po2_2 := hq2.2.2.2.2.1
  have po2_3 := hq2.2.2.2.2.2.1
  have po2_4 := hq2.2.2.2.2.2.2
  clear hq2
  subst hv2
  have z3 : n0 ≤ T2.heap.size := Nat.le_trans Z0 K2.1
  have hs4 : h0.size ≤ T2.heap.size := Nat.le_trans (Nat.le_refl h0.size) K2.1
  have N2 := Fr.app N0 N2q
  have k5 := (F_bytes_o0.keep K2 (ninS ne_o0_w1_dq (ninS ne_o0_w2_els nin0)))
  obtain ⟨T6, X6, e6, st6⟩ := getF X2 hx hZ hown (host := "") (Or.inl (hw _ (List.mem_of_getElem? (i := 88) rfl))) Via.refl rfl k5 (g := (mkF m 12 #[.val (.ref o0), .val (.ref o1)] [(.ref o0), (.ref o0)])) rfl rfl (hb hby d11_12)
  have k8 := (E_o1.keep K2)
  obtain ⟨cq7, kq7, q7a, q7b, q7c⟩ := isOf hZ e6 k8
  obtain ⟨vr7, _, ⟨T7, L7, k7, n7⟩, -, X7, ⟨Lc7, hQ7, l7, y7, z7⟩, st7⟩ := X6.interfaceBack hx (xi := (⟨"com/example/dispatch_by_catalog/dispatchbycatalog/subscriptions/Event", "size", "()J"⟩ : MethodName)) (y := (⟨"com/example/dispatch_by_catalog/dispatchbycatalog/subscriptions/DroppedEvents", "size", "()J"⟩ : MethodName)) hown (mvT hZ (hw _ (List.mem_of_getElem? (i := 90) rfl))) (mvT hZ (hw _ (List.mem_of_getElem? (i := 91) rfl))) (mvT hZ (hw _ (List.mem_of_getElem? (i := 92) rfl))) (mvT hZ (hw _ (List.mem_of_getElem? (i := 93) rfl))) (mvT hZ (hw _ (List.mem_of_getElem? (i := 94) rfl))) (mvT hZ (hw _ (List.mem_of_getElem? (i := 95) rfl))) (mvT hZ (hw _ (List.mem_of_getElem? (i := 96) rfl))) (mvT hZ (hw _ (List.mem_of_getElem? (i := 97) rfl))) (by decide) (backOf (W := 3) (rm14 l Z a0 hw [] o1 T2.heap n0 z3) hZ (hw _ (List.mem_of_getElem? (i := 98) rfl)) (hw _ (List.mem_of_getElem? (i := 30) rfl)) (by decide) (by decide)) q7a q7b q7c (g := (mkF m 16 #[.val (.ref o0), .val (.ref o1)] [(.ref o1), (.long w0_sz), (.ref o0)])) rfl (by rw [hml]; rfl) (Steps.refl _) (argsL := []) (rest := [(.long w0_sz), (.ref o0)]) (lenOf pd___J rfl) rfl (by show 2 * 0 + _ ≤ _; exact Nat.le_of_eq rfl) (hb hby d11_16) (fun _ _ => ⟨rfl, e6, (by decide : 0 + 0 ≤ _), (by decide : 0 + 0 ≤ _)⟩)
  dsimp only [Pt.U, Pt.locs, Pt.cells, Pt.slots] at X7 l7 y7 z7 st7 hQ7
  subst l7 y7 z7
  have N7q := (show _ ∧ _ ∧ _ from hQ7).1
  have hv7 := (show _ ∧ _ ∧ _ from hQ7).2.1
  have e7 := (show _ ∧ _ ∧ _ from hQ7).2.2
  clear hQ7
  subst hv7
  have N7 := Fr.app N2 N7q
  have k9 := (E_o0.keep K2)
  obtain ⟨T10, h10, X10, e10, W10, st10⟩ := putF X7 hx hZ hown (host := "") (Or.inl (hw _ (List.mem_of_getElem? (i := 88) rfl))) Via.refl e7 k5 k9 (Or.inl (hw _ (List.mem_of_getElem? (i := 89) rfl))) (hw _ (List.mem_of_getElem? (i := 1) rfl)) (ty := .long) (by decide) rfl rfl (g := (mkF m 22 #[.val (.ref o0), .val (.ref o1)] [(.long (w0_sz + f14)), (.ref o0)])) rfl rfl (hb hby d11_22)
  have Fw10 := k5.same W10
  have N10 := Fr.snoc X10 N7 g_o0
  have z11 : n0 ≤ h10.size := Nat.le_trans z3 (Keep.of_wr W10).1
  have hs12 : h0.size ≤ h10.size := Nat.le_trans hs4 (Keep.of_wr W10).1
  obtain ⟨fs, hr, hrun, hended, hW, hsame⟩ := X10.leave (v := none) (fun _ => rfl) hlk
  refine ⟨_, _, pre0 _ ?_, hrun, hended, _, _, rfl, ?_, ⟨_, rfl⟩, hW, hsame.mono (by decide) (by decide)⟩
  · skip
    show Steps p.tables e below (s₁.setTop (mkF m 0 #[.val (.ref o0), .val (.ref o1)] [])) _
    refine XS.aloadN X0.here hx rfl (hb hby d11_0) rfl rfl ?_
    show Steps p.tables e below (s₁.setTop (mkF m 1 #[.val (.ref o0), .val (.ref o1)] [(.ref o0)])) _
    refine st1 _ ?_
    show Steps p.tables e below (T1.setTop (mkF m 4 #[.val (.ref o0), .val (.ref o1)] [(.ref w1_dq)])) _
    refine XS.aloadN X1.here hx rfl (hb hby d11_4) rfl rfl ?_
    show Steps p.tables e below (T1.setTop (mkF m 5 #[.val (.ref o0), .val (.ref o1)] [(.ref o1), (.ref w1_dq)])) _
    refine st2.trans ?_
    show Steps p.tables e below (T2.setTop (mkF m 10 #[.val (.ref o0), .val (.ref o1)] [])) _
    refine XS.aloadN X2.here hx rfl (hb hby d11_10) rfl rfl ?_
    show Steps p.tables e below (T2.setTop (mkF m 11 #[.val (.ref o0), .val (.ref o1)] [(.ref o0)])) _
    refine XS.dup X2.here hx rfl (hb hby d11_11) rfl rfl ?_
    show Steps p.tables e below (T2.setTop (mkF m 12 #[.val (.ref o0), .val (.ref o1)] [(.ref o0), (.ref o0)])) _
    refine st6 _ ?_
    show Steps p.tables e below (T6.setTop (mkF m 15 #[.val (.ref o0), .val (.ref o1)] [(.long w0_sz), (.ref o0)])) _
    refine XS.aloadN X6.here hx rfl (hb hby d11_15) rfl rfl ?_
    show Steps p.tables e below (T6.setTop (mkF m 16 #[.val (.ref o0), .val (.ref o1)] [(.ref o1), (.long w0_sz), (.ref o0)])) _
    refine st7.trans ?_
    show Steps p.tables e below (T7.setTop (mkF m 21 #[.val (.ref o0), .val (.ref o1)] [(.long f14), (.long w0_sz), (.ref o0)])) _
    refine XT.ladd X7.here hx rfl (hb hby d11_21) rfl ?_
    show Steps p.tables e below (T7.setTop (mkF m 22 #[.val (.ref o0), .val (.ref o1)] [(.long (w0_sz + f14)), (.ref o0)])) _
    refine st10 _ ?_
    show Steps p.tables e below (T10.setTop (mkF m 25 #[.val (.ref o0), .val (.ref o1)] [])) _
    exact X10.returnOut hx Bd.returns (hb hby d11_25) hr
  · skip
    show Qqf0_0 Z o0 o1 w1_dq w0_sz w2_els u20_e u21_e u22_e u23_e u24_e u25_e u26_e u27_e u28_e u29_e u30_e u31_e u32_e u33_e u34_e u35_e u36_e kA h0 n0 _ T10.heap _
    rw [e10]
    have k13 := (po2_0.wr W10)
    have k14 := (po2_1.other W10 (Or.inl (Ne.symm ne_o0_w1_dq)))
    have k15 := (po2_2.other W10 (Or.inl (Ne.symm ne_o0_w1_dq)))
    have k16 := (po2_3.other W10 (Or.inl (Ne.symm ne_o0_w1_dq)))
    have k17 := (po2_4.other W10 (Ne.symm ne_o0_w2_els))
    have k18 := (k9.wr W10)
    have k19 := ((F_events_o0.keep K2 (ninS ne_o0_w1_dq (ninS ne_o0_w2_els nin0))).other W10 (Or.inr (slot_ne (Or.inr (hw _ (List.mem_of_getElem? (i := 27) rfl))) (Or.inl (hw _ (List.mem_of_getElem? (i := 89) rfl))) (by decide) (t := (.object "java/util/Deque")) (t' := .long) (by decide) (by decide))))
    exact ⟨N10, rfl, (((Keep.refl h0 [w1_dq, w2_els, o0]).trans K2 (allS (Or.inl (List.mem_of_getElem? (i := 0) rfl)) (allS (Or.inl (List.mem_of_getElem? (i := 1) rfl)) all0))).wr W10 (Or.inl (List.mem_of_getElem? (i := 2) rfl))), k13, k14, k15, k16, k17, k18, k19, Fw10⟩
theorem ef_al0_1 (m : MethodId) (o0 : Addr) (o1 : Addr) : entryFrame m #[(.ref o0), (.ref o1)] 3 = mkF m 0 #[.val (.ref o0), .val (.ref o1), .unset] [] := by first | (simp [entryFrame, mkF, argsToLocals, Value.category]; done) | rfl
def Qal0_1 (Z : State) (o0 : Addr) (o1 : Addr) (w2_els : Addr) (u20_e : Value) (u21_e : Value) (u22_e : Value) (u23_e : Value) (u24_e : Value) (u25_e : Value) (u26_e : Value) (u27_e : Value) (u28_e : Value) (u29_e : Value) (u30_e : Value) (u31_e : Value) (u32_e : Value) (u33_e : Value) (u34_e : Value) (u35_e : Value) (u36_e : Value) (kA : ClassId) (h0 : Heap) (n0 : Nat) (v : Option Value) (h : Heap) (L : List Loc) : Prop := Fr n0 L ∧ v = none ∧ Keep h0 h [w2_els, o0] ∧ Arv Z h w2_els kA (.object "java/lang/Object") (17 : Int32) [u20_e, (.ref o1), u22_e, u23_e, u24_e, u25_e, u26_e, u27_e, u28_e, u29_e, u30_e, u31_e, u32_e, u33_e, u34_e, u35_e, u36_e] .null ∧ Exa Z h o0 "java/util/ArrayDeque" ∧ Fld Z h o0 "java/util/ArrayDeque" "elements" "[Ljava/lang/Object;" (.ref w2_els) ∧ Fld Z h o0 "java/util/ArrayDeque" "head" "I" (.int (0 : Int32)) ∧ Fld Z h o0 "java/util/ArrayDeque" "tail" "I" (.int (2 : Int32))
set_option maxRecDepth 65536 in
set_option maxHeartbeats 40000000 in
theorem rmal0_1 (l : Launch) (Z : State) (a0 : Array Value) (hw : ∀ d ∈ tables_1, d.before a0 Z = true) (ws : List Jvm.Cond) (o0 : Addr) (o1 : Addr) (w2_els : Addr) (u20_e : Value) (u21_e : Value) (u22_e : Value) (u23_e : Value) (u24_e : Value) (u25_e : Value) (u26_e : Value) (u27_e : Value) (u28_e : Value) (u29_e : Value) (u30_e : Value) (u31_e : Value) (u32_e : Value) (u33_e : Value) (u34_e : Value) (u35_e : Value) (u36_e : Value) (kA : ClassId) (h0 : Heap) (n0 : Nat) (Z0 : n0 ≤ h0.size) (E_o0 : Exa Z h0 o0 "java/util/ArrayDeque") (F_elements_o0 : Fld Z h0 o0 "java/util/ArrayDeque" "elements" "[Ljava/lang/Object;" (.ref w2_els)) (F_head_o0 : Fld Z h0 o0 "java/util/ArrayDeque" "head" "I" (.int (0 : Int32))) (F_tail_o0 : Fld Z h0 o0 "java/util/ArrayDeque" "tail" "I" (.int (1 : Int32))) (V_w2_els : Arv Z h0 w2_els kA (.object "java/lang/Object") (17 : Int32) [u20_e, u21_e, u22_e, u23_e, u24_e, u25_e, u26_e, u27_e, u28_e, u29_e, u30_e, u31_e, u32_e, u33_e, u34_e, u35_e, u36_e] .null) (ovr : Ovr Z kA "java/lang/Object") (E_o1 : Exa Z h0 o1 "com/example/dispatch_by_catalog/dispatchbycatalog/subscriptions/DroppedEvents") (g_w2_els : n0 ≤ w2_els) (ne_o0_w2_els : o0 ≠ w2_els) (g_o0 : n0 ≤ o0) :
    MetFree l (⟨"java/util/ArrayDeque", "addLast", "(Ljava/lang/Object;)V"⟩ : MethodName) (head1 (Jvm.Cond.code (⟨"java/util/ArrayDeque", "addLast", "(Ljava/lang/Object;)V"⟩ : MethodName) jdk_21_method_13_code 3 none :: ws) ({ frames := 1, cells := 0, slots := 0, locals := 15 } : Room)) (fun a U => a = #[(.ref o0), (.ref o1)] ∧ Z.Warmed39 U.vm ∧ U.heap = h0) (fun _ _ _ _ _ => True) (fun _ U o U' => ∃ v L, o = .returned v ∧ Qal0_1 Z o0 o1 w2_els u20_e u21_e u22_e u23_e u24_e u25_e u26_e u27_e u28_e u29_e u30_e u31_e u32_e u33_e u34_e u35_e u36_e kA h0 n0 v U'.heap L ∧ FrameEnd U o U' L ({ frames := 1, cells := 0, slots := 0, locals := 15 } : Room).cells ({ frames := 1, cells := 0, slots := 0, locals := 15 } : Room).slots) := by
  refine MetFree.of_bodySF (plainFor_of_name pn_java_util_ArrayDeque) hisR ?_
  intro p e s m args below meth c s₁ Bd hml0 hP hK
  obtain ⟨rfl, hZ, hh⟩ := hP
  have hx := Bd.exec
  have hby := Bd.bytes
  have hml : c.maxLocals = 3 := hml0
  have hown : s.vm.findClass "java/util/ArrayDeque" = some m.cls := findClass_of_methodNamed Bd.named
  have hnm := (name_of_methodNamed Bd.named Bd.method).1
  have hlk := BodyLoose.notSynchronized Bd
  have X0 : Stand p l e ({ frames := 1, cells := 0, slots := 0, locals := 15 } : Room) s m #[(.ref o0), (.ref o1)] below meth c s₁ [] 0 0 := Stand.of_body Bd
  have e0 : s₁.heap = h0 := by rw [← hh, Bd.state]; rfl
  have N0 := Fr.nil n0
  have pre0 : ∀ t, Steps p.tables e below (s₁.setTop (mkF m 0 #[.val (.ref o0), .val (.ref o1), .unset] [])) t → Steps p.tables e below (s₁.setTop (entryFrame m #[(.ref o0), (.ref o1)] 3)) t := fun t k => castTop (ef_al0_1 m o0 o1) k
  obtain ⟨T1, X1, e1, st1⟩ := getF X0 hx hZ hown (host := "") (Or.inl (hw _ (List.mem_of_getElem? (i := 24) rfl))) Via.refl e0 F_elements_o0 (g := (mkF m 13 #[.val (.ref o0), .val (.ref o1), .unset] [(.ref o0)])) rfl rfl (hb hby d16_13)
  obtain ⟨T2, X2, e2, st2⟩ := getF X1 hx hZ hown (host := "") (Or.inl (hw _ (List.mem_of_getElem? (i := 86) rfl))) Via.refl e1 F_tail_o0 (g := (mkF m 19 #[.val (.ref o0), .val (.ref o1), .val (.ref w2_els)] [(.ref o0), (.ref w2_els)])) rfl rfl (hb hby d16_19)
  obtain ⟨cl3, Ar3, qc3, S3, M3, Ha3, G3⟩ := id V_w2_els
  have hin4 : ¬ ((1 : Int32) < 0 ∨ cl3.slots.size ≤ ((1 : Int32)).toNatClampNeg) := inb_of S3 ⟨by decide, by decide⟩
  obtain ⟨T5, h5, X5, e5, W5, st5⟩ := stR X2 hx hZ e2 Ar3 (j := (1 : Int32)) hin4 rfl (Sto.ofV Ar3 qc3 ovr (Ins.of_exa E_o1 (hw _ (List.mem_of_getElem? (i := 85) rfl)))) (g := (mkF m 23 #[.val (.ref o0), .val (.ref o1), .val (.ref w2_els)] [(.ref o1), (.int (1 : Int32)), (.ref w2_els)])) rfl rfl (hb hby d16_23)
  have V5 : Arv Z h5 w2_els kA (.object "java/lang/Object") (17 : Int32) [u20_e, (.ref o1), u22_e, u23_e, u24_e, u25_e, u26_e, u27_e, u28_e, u29_e, u30_e, u31_e, u32_e, u33_e, u34_e, u35_e, u36_e] .null := Arv.set Ar3 qc3 S3 M3 Ha3 G3 rfl W5 1 rfl (Nat.le_of_ble_eq_true rfl)
  have N5 := Fr.snoc X5 N0 g_w2_els
  have z6 : n0 ≤ h5.size := Nat.le_trans Z0 (Keep.of_wr W5).1
  have hs7 : h0.size ≤ h5.size := Nat.le_trans (Nat.le_refl h0.size) (Keep.of_wr W5).1
  have k8 := (F_head_o0.other W5 (Or.inl ne_o0_w2_els))
  obtain ⟨T9, X9, e9, st9⟩ := getF X5 hx hZ hown (host := "") (Or.inl (hw _ (List.mem_of_getElem? (i := 64) rfl))) Via.refl e5 k8 (g := (mkF m 25 #[.val (.ref o0), .val (.ref o1), .val (.ref w2_els)] [(.ref o0)])) rfl rfl (hb hby d16_25)
  have k10 := (F_tail_o0.other W5 (Or.inl ne_o0_w2_els))
  obtain ⟨T11, X11, e11, st11⟩ := getF X9 hx hZ hown (host := "") (Or.inl (hw _ (List.mem_of_getElem? (i := 86) rfl))) Via.refl e9 k10 (g := (mkF m 30 #[.val (.ref o0), .val (.ref o1), .val (.ref w2_els)] [(.ref o0), (.ref o0), (.int (0 : Int32))])) rfl rfl (hb hby d16_30)
  obtain ⟨cl12, Ar12, qc12, S12, M12, Ha12, G12⟩ := id V5
  obtain ⟨vr13, _, ⟨T13, L13, k13, n13⟩, -, X13, ⟨Lc13, hQ13, l13, y13, z13⟩, st13⟩ := Jvm.LawKit.callS X11 hx (y := (⟨"java/util/ArrayDeque", "inc", "(II)I"⟩ : MethodName)) hown (mvT hZ (hw _ (List.mem_of_getElem? (i := 113) rfl))) (mvT hZ (hw _ (List.mem_of_getElem? (i := 114) rfl))) (mvT hZ (hw _ (List.mem_of_getElem? (i := 11) rfl))) (mvT hZ (hw _ (List.mem_of_getElem? (i := 115) rfl))) (by decide) (backOf (W := 2) (rm17 l Z a0 hw [] (1 : Int32) (17 : Int32) h5 n0 z6) hZ (hw _ (List.mem_of_getElem? (i := 115) rfl)) (hw _ (List.mem_of_getElem? (i := 11) rfl)) (by decide) (by decide)) (g := (mkF m 35 #[.val (.ref o0), .val (.ref o1), .val (.ref w2_els)] [(.int (17 : Int32)), (.int (1 : Int32)), (.ref o0), (.int (0 : Int32))])) rfl (by rw [hml]; rfl) (argsL := [(.int (1 : Int32)), (.int (17 : Int32))]) (rest := [(.ref o0), (.int (0 : Int32))]) (lenOf pd__II_I rfl) rfl (by show 2 * 0 + _ ≤ _; exact Nat.le_of_eq rfl) (hb hby d16_35) (fun _ _ => ⟨rfl, e11, (by decide : 0 + 0 ≤ _), (by decide : 0 + 0 ≤ _)⟩)
  dsimp only [Pt.U, Pt.locs, Pt.cells, Pt.slots] at X13 l13 y13 z13 st13 hQ13
  subst l13 y13 z13
  have N13q := (show _ ∧ _ ∧ _ from hQ13).1
  have hv13 := (show _ ∧ _ ∧ _ from hQ13).2.1
  have e13 := (show _ ∧ _ ∧ _ from hQ13).2.2
  clear hQ13
  subst hv13
  have N13 := Fr.app N5 N13q
  have k14 := (E_o0.wr W5)
  obtain ⟨T15, h15, X15, e15, W15, st15⟩ := putF X13 hx hZ hown (host := "") (Or.inl (hw _ (List.mem_of_getElem? (i := 86) rfl))) Via.refl e13 k10 k14 (Or.inl (hw _ (List.mem_of_getElem? (i := 87) rfl))) (hw _ (List.mem_of_getElem? (i := 10) rfl)) (ty := .int) (by decide) rfl rfl (g := (mkF m 39 #[.val (.ref o0), .val (.ref o1), .val (.ref w2_els)] [(.int (2 : Int32)), (.ref o0), (.int (2 : Int32)), (.int (0 : Int32))])) rfl rfl (hb hby d16_39)
  have Fw15 := k10.same W15
  have N15 := Fr.snoc X15 N13 g_o0
  have z16 : n0 ≤ h15.size := Nat.le_trans z6 (Keep.of_wr W15).1
  have hs17 : h0.size ≤ h15.size := Nat.le_trans hs7 (Keep.of_wr W15).1
  obtain ⟨fs, hr, hrun, hended, hW, hsame⟩ := X15.leave (v := none) (fun _ => rfl) hlk
  refine ⟨_, _, pre0 _ ?_, hrun, hended, _, _, rfl, ?_, ⟨_, rfl⟩, hW, hsame.mono (by decide) (by decide)⟩
  · skip
    show Steps p.tables e below (s₁.setTop (mkF m 0 #[.val (.ref o0), .val (.ref o1), .unset] [])) _
    refine XS.aloadN X0.here hx rfl (hb hby d16_0) rfl rfl ?_
    show Steps p.tables e below (s₁.setTop (mkF m 1 #[.val (.ref o0), .val (.ref o1), .unset] [(.ref o1)])) _
    refine XT.ifnonnullYes X0.here hx rfl (pc0 := 1) (pc' := 12) rfl (hb hby d16_1) rfl (by decide) (by decide) ?_
    show Steps p.tables e below (s₁.setTop (mkF m 12 #[.val (.ref o0), .val (.ref o1), .unset] [])) _
    refine XS.aloadN X0.here hx rfl (hb hby d16_12) rfl rfl ?_
    show Steps p.tables e below (s₁.setTop (mkF m 13 #[.val (.ref o0), .val (.ref o1), .unset] [(.ref o0)])) _
    refine st1 _ ?_
    show Steps p.tables e below (T1.setTop (mkF m 16 #[.val (.ref o0), .val (.ref o1), .unset] [(.ref w2_els)])) _
    refine XS.astoreN X1.here hx rfl (hb hby d16_16) rfl rfl (l' := #[.val (.ref o0), .val (.ref o1), .val (.ref w2_els)]) rfl ?_
    show Steps p.tables e below (T1.setTop (mkF m 17 #[.val (.ref o0), .val (.ref o1), .val (.ref w2_els)] [])) _
    refine XS.aloadN X1.here hx rfl (hb hby d16_17) rfl rfl ?_
    show Steps p.tables e below (T1.setTop (mkF m 18 #[.val (.ref o0), .val (.ref o1), .val (.ref w2_els)] [(.ref w2_els)])) _
    refine XS.aloadN X1.here hx rfl (hb hby d16_18) rfl rfl ?_
    show Steps p.tables e below (T1.setTop (mkF m 19 #[.val (.ref o0), .val (.ref o1), .val (.ref w2_els)] [(.ref o0), (.ref w2_els)])) _
    refine st2 _ ?_
    show Steps p.tables e below (T2.setTop (mkF m 22 #[.val (.ref o0), .val (.ref o1), .val (.ref w2_els)] [(.int (1 : Int32)), (.ref w2_els)])) _
    refine XS.aloadN X2.here hx rfl (hb hby d16_22) rfl rfl ?_
    show Steps p.tables e below (T2.setTop (mkF m 23 #[.val (.ref o0), .val (.ref o1), .val (.ref w2_els)] [(.ref o1), (.int (1 : Int32)), (.ref w2_els)])) _
    refine st5 _ ?_
    show Steps p.tables e below (T5.setTop (mkF m 24 #[.val (.ref o0), .val (.ref o1), .val (.ref w2_els)] [])) _
    refine XS.aloadN X5.here hx rfl (hb hby d16_24) rfl rfl ?_
    show Steps p.tables e below (T5.setTop (mkF m 25 #[.val (.ref o0), .val (.ref o1), .val (.ref w2_els)] [(.ref o0)])) _
    refine st9 _ ?_
    show Steps p.tables e below (T9.setTop (mkF m 28 #[.val (.ref o0), .val (.ref o1), .val (.ref w2_els)] [(.int (0 : Int32))])) _
    refine XS.aloadN X9.here hx rfl (hb hby d16_28) rfl rfl ?_
    show Steps p.tables e below (T9.setTop (mkF m 29 #[.val (.ref o0), .val (.ref o1), .val (.ref w2_els)] [(.ref o0), (.int (0 : Int32))])) _
    refine XS.aloadN X9.here hx rfl (hb hby d16_29) rfl rfl ?_
    show Steps p.tables e below (T9.setTop (mkF m 30 #[.val (.ref o0), .val (.ref o1), .val (.ref w2_els)] [(.ref o0), (.ref o0), (.int (0 : Int32))])) _
    refine st11 _ ?_
    show Steps p.tables e below (T11.setTop (mkF m 33 #[.val (.ref o0), .val (.ref o1), .val (.ref w2_els)] [(.int (1 : Int32)), (.ref o0), (.int (0 : Int32))])) _
    refine XS.aloadN X11.here hx rfl (hb hby d16_33) rfl rfl ?_
    show Steps p.tables e below (T11.setTop (mkF m 34 #[.val (.ref o0), .val (.ref o1), .val (.ref w2_els)] [(.ref w2_els), (.int (1 : Int32)), (.ref o0), (.int (0 : Int32))])) _
    refine X11.arraylength hx (by rw [e11]; exact Ar12.1) (State.isArrayOf_alike hZ.alike Ar12.2.1) (g := (mkF m 34 #[.val (.ref o0), .val (.ref o1), .val (.ref w2_els)] [(.ref w2_els), (.int (1 : Int32)), (.ref o0), (.int (0 : Int32))])) rfl rfl (hb hby d16_34) _ ?_
    rw [len_of S12 M12]
    show Steps p.tables e below (T11.setTop (mkF m 35 #[.val (.ref o0), .val (.ref o1), .val (.ref w2_els)] [(.int (17 : Int32)), (.int (1 : Int32)), (.ref o0), (.int (0 : Int32))])) _
    refine st13 _ ?_
    show Steps p.tables e below (T13.setTop (mkF m 38 #[.val (.ref o0), .val (.ref o1), .val (.ref w2_els)] [(.int (2 : Int32)), (.ref o0), (.int (0 : Int32))])) _
    refine XT.dupX1 X13.here hx rfl (hb hby d16_38) rfl rfl rfl ?_
    show Steps p.tables e below (T13.setTop (mkF m 39 #[.val (.ref o0), .val (.ref o1), .val (.ref w2_els)] [(.int (2 : Int32)), (.ref o0), (.int (2 : Int32)), (.int (0 : Int32))])) _
    refine st15 _ ?_
    show Steps p.tables e below (T15.setTop (mkF m 42 #[.val (.ref o0), .val (.ref o1), .val (.ref w2_els)] [(.int (2 : Int32)), (.int (0 : Int32))])) _
    refine XS.icmpYes X15.here hx rfl (pc0 := 42) (pc' := 50) rfl (hb hby d16_42) rfl (XT.ii_ne_t (by decide)) (by decide) (by decide) ?_
    show Steps p.tables e below (T15.setTop (mkF m 50 #[.val (.ref o0), .val (.ref o1), .val (.ref w2_els)] [])) _
    exact X15.returnOut hx Bd.returns (hb hby d16_50) hr
  · skip
    show Qal0_1 Z o0 o1 w2_els u20_e u21_e u22_e u23_e u24_e u25_e u26_e u27_e u28_e u29_e u30_e u31_e u32_e u33_e u34_e u35_e u36_e kA h0 n0 _ T15.heap _
    rw [e15]
    have k18 := (V5.other W15 (Ne.symm ne_o0_w2_els))
    have k19 := (k14.wr W15)
    have k20 := ((F_elements_o0.other W5 (Or.inl ne_o0_w2_els)).other W15 (Or.inr (slot_ne (Or.inl (hw _ (List.mem_of_getElem? (i := 25) rfl))) (Or.inl (hw _ (List.mem_of_getElem? (i := 87) rfl))) (by decide) (t := (.array (.object "java/lang/Object"))) (t' := .int) (by decide) (by decide))))
    have k21 := (k8.other W15 (Or.inr (slot_ne (Or.inl (hw _ (List.mem_of_getElem? (i := 65) rfl))) (Or.inl (hw _ (List.mem_of_getElem? (i := 87) rfl))) (by decide) (t := .int) (t' := .int) (by decide) (by decide))))
    exact ⟨N15, rfl, (((Keep.refl h0 [w2_els, o0]).wr W5 (Or.inl (List.mem_of_getElem? (i := 0) rfl))).wr W15 (Or.inl (List.mem_of_getElem? (i := 1) rfl))), k18, k19, k20, k21, Fw15⟩
theorem ef_af0_1 (m : MethodId) (o0 : Addr) (o1 : Addr) : entryFrame m #[(.ref o0), (.ref o1)] 3 = mkF m 0 #[.val (.ref o0), .val (.ref o1), .unset] [] := by first | (simp [entryFrame, mkF, argsToLocals, Value.category]; done) | rfl
def Qaf0_1 (Z : State) (o0 : Addr) (o1 : Addr) (w2_els : Addr) (u20_e : Value) (u21_e : Value) (u22_e : Value) (u23_e : Value) (u24_e : Value) (u25_e : Value) (u26_e : Value) (u27_e : Value) (u28_e : Value) (u29_e : Value) (u30_e : Value) (u31_e : Value) (u32_e : Value) (u33_e : Value) (u34_e : Value) (u35_e : Value) (u36_e : Value) (kA : ClassId) (h0 : Heap) (n0 : Nat) (v : Option Value) (h : Heap) (L : List Loc) : Prop := Fr n0 L ∧ v = none ∧ Keep h0 h [o0, w2_els] ∧ Exa Z h o0 "java/util/ArrayDeque" ∧ Fld Z h o0 "java/util/ArrayDeque" "elements" "[Ljava/lang/Object;" (.ref w2_els) ∧ Fld Z h o0 "java/util/ArrayDeque" "head" "I" (.int (16 : Int32)) ∧ Fld Z h o0 "java/util/ArrayDeque" "tail" "I" (.int (1 : Int32)) ∧ Arv Z h w2_els kA (.object "java/lang/Object") (17 : Int32) [u20_e, u21_e, u22_e, u23_e, u24_e, u25_e, u26_e, u27_e, u28_e, u29_e, u30_e, u31_e, u32_e, u33_e, u34_e, u35_e, (.ref o1)] .null
set_option maxRecDepth 65536 in
set_option maxHeartbeats 40000000 in
theorem rmaf0_1 (l : Launch) (Z : State) (a0 : Array Value) (hw : ∀ d ∈ tables_1, d.before a0 Z = true) (ws : List Jvm.Cond) (o0 : Addr) (o1 : Addr) (w2_els : Addr) (u20_e : Value) (u21_e : Value) (u22_e : Value) (u23_e : Value) (u24_e : Value) (u25_e : Value) (u26_e : Value) (u27_e : Value) (u28_e : Value) (u29_e : Value) (u30_e : Value) (u31_e : Value) (u32_e : Value) (u33_e : Value) (u34_e : Value) (u35_e : Value) (u36_e : Value) (kA : ClassId) (h0 : Heap) (n0 : Nat) (Z0 : n0 ≤ h0.size) (E_o0 : Exa Z h0 o0 "java/util/ArrayDeque") (F_elements_o0 : Fld Z h0 o0 "java/util/ArrayDeque" "elements" "[Ljava/lang/Object;" (.ref w2_els)) (F_head_o0 : Fld Z h0 o0 "java/util/ArrayDeque" "head" "I" (.int (0 : Int32))) (F_tail_o0 : Fld Z h0 o0 "java/util/ArrayDeque" "tail" "I" (.int (1 : Int32))) (V_w2_els : Arv Z h0 w2_els kA (.object "java/lang/Object") (17 : Int32) [u20_e, u21_e, u22_e, u23_e, u24_e, u25_e, u26_e, u27_e, u28_e, u29_e, u30_e, u31_e, u32_e, u33_e, u34_e, u35_e, u36_e] .null) (ovr : Ovr Z kA "java/lang/Object") (E_o1 : Exa Z h0 o1 "com/example/dispatch_by_catalog/dispatchbycatalog/subscriptions/DroppedEvents") (g_o0 : n0 ≤ o0) (ne_w2_els_o0 : w2_els ≠ o0) (g_w2_els : n0 ≤ w2_els) :
    MetFree l (⟨"java/util/ArrayDeque", "addFirst", "(Ljava/lang/Object;)V"⟩ : MethodName) (head1 (Jvm.Cond.code (⟨"java/util/ArrayDeque", "addFirst", "(Ljava/lang/Object;)V"⟩ : MethodName) jdk_21_method_12_code 3 none :: ws) ({ frames := 1, cells := 0, slots := 0, locals := 15 } : Room)) (fun a U => a = #[(.ref o0), (.ref o1)] ∧ Z.Warmed39 U.vm ∧ U.heap = h0) (fun _ _ _ _ _ => True) (fun _ U o U' => ∃ v L, o = .returned v ∧ Qaf0_1 Z o0 o1 w2_els u20_e u21_e u22_e u23_e u24_e u25_e u26_e u27_e u28_e u29_e u30_e u31_e u32_e u33_e u34_e u35_e u36_e kA h0 n0 v U'.heap L ∧ FrameEnd U o U' L ({ frames := 1, cells := 0, slots := 0, locals := 15 } : Room).cells ({ frames := 1, cells := 0, slots := 0, locals := 15 } : Room).slots) := by
  refine MetFree.of_bodySF (plainFor_of_name pn_java_util_ArrayDeque) hisR ?_
  intro p e s m args below meth c s₁ Bd hml0 hP hK
  obtain ⟨rfl, hZ, hh⟩ := hP
  have hx := Bd.exec
  have hby := Bd.bytes
  have hml : c.maxLocals = 3 := hml0
  have hown : s.vm.findClass "java/util/ArrayDeque" = some m.cls := findClass_of_methodNamed Bd.named
  have hnm := (name_of_methodNamed Bd.named Bd.method).1
  have hlk := BodyLoose.notSynchronized Bd
  have X0 : Stand p l e ({ frames := 1, cells := 0, slots := 0, locals := 15 } : Room) s m #[(.ref o0), (.ref o1)] below meth c s₁ [] 0 0 := Stand.of_body Bd
  have e0 : s₁.heap = h0 := by rw [← hh, Bd.state]; rfl
  have N0 := Fr.nil n0
  have pre0 : ∀ t, Steps p.tables e below (s₁.setTop (mkF m 0 #[.val (.ref o0), .val (.ref o1), .unset] [])) t → Steps p.tables e below (s₁.setTop (entryFrame m #[(.ref o0), (.ref o1)] 3)) t := fun t k => castTop (ef_af0_1 m o0 o1) k
  obtain ⟨T1, X1, e1, st1⟩ := getF X0 hx hZ hown (host := "") (Or.inl (hw _ (List.mem_of_getElem? (i := 24) rfl))) Via.refl e0 F_elements_o0 (g := (mkF m 13 #[.val (.ref o0), .val (.ref o1), .unset] [(.ref o0)])) rfl rfl (hb hby d12_13)
  obtain ⟨T2, X2, e2, st2⟩ := getF X1 hx hZ hown (host := "") (Or.inl (hw _ (List.mem_of_getElem? (i := 64) rfl))) Via.refl e1 F_head_o0 (g := (mkF m 20 #[.val (.ref o0), .val (.ref o1), .val (.ref w2_els)] [(.ref o0), (.ref o0), (.ref w2_els)])) rfl rfl (hb hby d12_20)
  obtain ⟨cl3, Ar3, qc3, S3, M3, Ha3, G3⟩ := id V_w2_els
  obtain ⟨vr4, _, ⟨T4, L4, k4, n4⟩, -, X4, ⟨Lc4, hQ4, l4, y4, z4⟩, st4⟩ := Jvm.LawKit.callS X2 hx (y := (⟨"java/util/ArrayDeque", "dec", "(II)I"⟩ : MethodName)) hown (mvT hZ (hw _ (List.mem_of_getElem? (i := 82) rfl))) (mvT hZ (hw _ (List.mem_of_getElem? (i := 83) rfl))) (mvT hZ (hw _ (List.mem_of_getElem? (i := 11) rfl))) (mvT hZ (hw _ (List.mem_of_getElem? (i := 84) rfl))) (by decide) (backOf (W := 2) (rm13 l Z a0 hw [] (0 : Int32) (17 : Int32) h0 n0 Z0) hZ (hw _ (List.mem_of_getElem? (i := 84) rfl)) (hw _ (List.mem_of_getElem? (i := 11) rfl)) (by decide) (by decide)) (g := (mkF m 25 #[.val (.ref o0), .val (.ref o1), .val (.ref w2_els)] [(.int (17 : Int32)), (.int (0 : Int32)), (.ref o0), (.ref w2_els)])) rfl (by rw [hml]; rfl) (argsL := [(.int (0 : Int32)), (.int (17 : Int32))]) (rest := [(.ref o0), (.ref w2_els)]) (lenOf pd__II_I rfl) rfl (by show 2 * 0 + _ ≤ _; exact Nat.le_of_eq rfl) (hb hby d12_25) (fun _ _ => ⟨rfl, e2, (by decide : 0 + 0 ≤ _), (by decide : 0 + 0 ≤ _)⟩)
  dsimp only [Pt.U, Pt.locs, Pt.cells, Pt.slots] at X4 l4 y4 z4 st4 hQ4
  subst l4 y4 z4
  have N4q := (show _ ∧ _ ∧ _ from hQ4).1
  have hv4 := (show _ ∧ _ ∧ _ from hQ4).2.1
  have e4 := (show _ ∧ _ ∧ _ from hQ4).2.2
  clear hQ4
  subst hv4
  have N4 := Fr.app N0 N4q
  obtain ⟨T5, h5, X5, e5, W5, st5⟩ := putF X4 hx hZ hown (host := "") (Or.inl (hw _ (List.mem_of_getElem? (i := 64) rfl))) Via.refl e4 F_head_o0 E_o0 (Or.inl (hw _ (List.mem_of_getElem? (i := 65) rfl))) (hw _ (List.mem_of_getElem? (i := 10) rfl)) (ty := .int) (by decide) rfl rfl (g := (mkF m 29 #[.val (.ref o0), .val (.ref o1), .val (.ref w2_els)] [(.int (16 : Int32)), (.ref o0), (.int (16 : Int32)), (.ref w2_els)])) rfl rfl (hb hby d12_29)
  have Fw5 := F_head_o0.same W5
  have N5 := Fr.snoc X5 N4 g_o0
  have z6 : n0 ≤ h5.size := Nat.le_trans Z0 (Keep.of_wr W5).1
  have hs7 : h0.size ≤ h5.size := Nat.le_trans (Nat.le_refl h0.size) (Keep.of_wr W5).1
  have k8 := (V_w2_els.other W5 ne_w2_els_o0)
  obtain ⟨cl9, Ar9, qc9, S9, M9, Ha9, G9⟩ := id k8
  have hin10 : ¬ ((16 : Int32) < 0 ∨ cl9.slots.size ≤ ((16 : Int32)).toNatClampNeg) := inb_of S9 ⟨by decide, by decide⟩
  have k11 := (E_o1.wr W5)
  obtain ⟨T12, h12, X12, e12, W12, st12⟩ := stR X5 hx hZ e5 Ar9 (j := (16 : Int32)) hin10 rfl (Sto.ofV Ar9 qc9 ovr (Ins.of_exa k11 (hw _ (List.mem_of_getElem? (i := 85) rfl)))) (g := (mkF m 33 #[.val (.ref o0), .val (.ref o1), .val (.ref w2_els)] [(.ref o1), (.int (16 : Int32)), (.ref w2_els)])) rfl rfl (hb hby d12_33)
  have V12 : Arv Z h12 w2_els kA (.object "java/lang/Object") (17 : Int32) [u20_e, u21_e, u22_e, u23_e, u24_e, u25_e, u26_e, u27_e, u28_e, u29_e, u30_e, u31_e, u32_e, u33_e, u34_e, u35_e, (.ref o1)] .null := Arv.set Ar9 qc9 S9 M9 Ha9 G9 rfl W12 16 rfl (Nat.le_of_ble_eq_true rfl)
  have N12 := Fr.snoc X12 N5 g_w2_els
  have z13 : n0 ≤ h12.size := Nat.le_trans z6 (Keep.of_wr W12).1
  have hs14 : h0.size ≤ h12.size := Nat.le_trans hs7 (Keep.of_wr W12).1
  have k15 := (Fw5.other W12 (Or.inl (Ne.symm ne_w2_els_o0)))
  obtain ⟨T16, X16, e16, st16⟩ := getF X12 hx hZ hown (host := "") (Or.inl (hw _ (List.mem_of_getElem? (i := 64) rfl))) Via.refl e12 k15 (g := (mkF m 35 #[.val (.ref o0), .val (.ref o1), .val (.ref w2_els)] [(.ref o0)])) rfl rfl (hb hby d12_35)
  have k17 := ((F_tail_o0.other W5 (Or.inr (slot_ne (Or.inl (hw _ (List.mem_of_getElem? (i := 87) rfl))) (Or.inl (hw _ (List.mem_of_getElem? (i := 65) rfl))) (by decide) (t := .int) (t' := .int) (by decide) (by decide)))).other W12 (Or.inl (Ne.symm ne_w2_els_o0)))
  obtain ⟨T18, X18, e18, st18⟩ := getF X16 hx hZ hown (host := "") (Or.inl (hw _ (List.mem_of_getElem? (i := 86) rfl))) Via.refl e16 k17 (g := (mkF m 39 #[.val (.ref o0), .val (.ref o1), .val (.ref w2_els)] [(.ref o0), (.int (16 : Int32))])) rfl rfl (hb hby d12_39)
  obtain ⟨fs, hr, hrun, hended, hW, hsame⟩ := X18.leave (v := none) (fun _ => rfl) hlk
  refine ⟨_, _, pre0 _ ?_, hrun, hended, _, _, rfl, ?_, ⟨_, rfl⟩, hW, hsame.mono (by decide) (by decide)⟩
  · skip
    show Steps p.tables e below (s₁.setTop (mkF m 0 #[.val (.ref o0), .val (.ref o1), .unset] [])) _
    refine XS.aloadN X0.here hx rfl (hb hby d12_0) rfl rfl ?_
    show Steps p.tables e below (s₁.setTop (mkF m 1 #[.val (.ref o0), .val (.ref o1), .unset] [(.ref o1)])) _
    refine XT.ifnonnullYes X0.here hx rfl (pc0 := 1) (pc' := 12) rfl (hb hby d12_1) rfl (by decide) (by decide) ?_
    show Steps p.tables e below (s₁.setTop (mkF m 12 #[.val (.ref o0), .val (.ref o1), .unset] [])) _
    refine XS.aloadN X0.here hx rfl (hb hby d12_12) rfl rfl ?_
    show Steps p.tables e below (s₁.setTop (mkF m 13 #[.val (.ref o0), .val (.ref o1), .unset] [(.ref o0)])) _
    refine st1 _ ?_
    show Steps p.tables e below (T1.setTop (mkF m 16 #[.val (.ref o0), .val (.ref o1), .unset] [(.ref w2_els)])) _
    refine XS.astoreN X1.here hx rfl (hb hby d12_16) rfl rfl (l' := #[.val (.ref o0), .val (.ref o1), .val (.ref w2_els)]) rfl ?_
    show Steps p.tables e below (T1.setTop (mkF m 17 #[.val (.ref o0), .val (.ref o1), .val (.ref w2_els)] [])) _
    refine XS.aloadN X1.here hx rfl (hb hby d12_17) rfl rfl ?_
    show Steps p.tables e below (T1.setTop (mkF m 18 #[.val (.ref o0), .val (.ref o1), .val (.ref w2_els)] [(.ref w2_els)])) _
    refine XS.aloadN X1.here hx rfl (hb hby d12_18) rfl rfl ?_
    show Steps p.tables e below (T1.setTop (mkF m 19 #[.val (.ref o0), .val (.ref o1), .val (.ref w2_els)] [(.ref o0), (.ref w2_els)])) _
    refine XS.aloadN X1.here hx rfl (hb hby d12_19) rfl rfl ?_
    show Steps p.tables e below (T1.setTop (mkF m 20 #[.val (.ref o0), .val (.ref o1), .val (.ref w2_els)] [(.ref o0), (.ref o0), (.ref w2_els)])) _
    refine st2 _ ?_
    show Steps p.tables e below (T2.setTop (mkF m 23 #[.val (.ref o0), .val (.ref o1), .val (.ref w2_els)] [(.int (0 : Int32)), (.ref o0), (.ref w2_els)])) _
    refine XS.aloadN X2.here hx rfl (hb hby d12_23) rfl rfl ?_
    show Steps p.tables e below (T2.setTop (mkF m 24 #[.val (.ref o0), .val (.ref o1), .val (.ref w2_els)] [(.ref w2_els), (.int (0 : Int32)), (.ref o0), (.ref w2_els)])) _
    refine X2.arraylength hx (by rw [e2]; exact Ar3.1) (State.isArrayOf_alike hZ.alike Ar3.2.1) (g := (mkF m 24 #[.val (.ref o0), .val (.ref o1), .val (.ref w2_els)] [(.ref w2_els), (.int (0 : Int32)), (.ref o0), (.ref w2_els)])) rfl rfl (hb hby d12_24) _ ?_
    rw [len_of S3 M3]
    show Steps p.tables e below (T2.setTop (mkF m 25 #[.val (.ref o0), .val (.ref o1), .val (.ref w2_els)] [(.int (17 : Int32)), (.int (0 : Int32)), (.ref o0), (.ref w2_els)])) _
    refine st4 _ ?_
    show Steps p.tables e below (T4.setTop (mkF m 28 #[.val (.ref o0), .val (.ref o1), .val (.ref w2_els)] [(.int (16 : Int32)), (.ref o0), (.ref w2_els)])) _
    refine XT.dupX1 X4.here hx rfl (hb hby d12_28) rfl rfl rfl ?_
    show Steps p.tables e below (T4.setTop (mkF m 29 #[.val (.ref o0), .val (.ref o1), .val (.ref w2_els)] [(.int (16 : Int32)), (.ref o0), (.int (16 : Int32)), (.ref w2_els)])) _
    refine st5 _ ?_
    show Steps p.tables e below (T5.setTop (mkF m 32 #[.val (.ref o0), .val (.ref o1), .val (.ref w2_els)] [(.int (16 : Int32)), (.ref w2_els)])) _
    refine XS.aloadN X5.here hx rfl (hb hby d12_32) rfl rfl ?_
    show Steps p.tables e below (T5.setTop (mkF m 33 #[.val (.ref o0), .val (.ref o1), .val (.ref w2_els)] [(.ref o1), (.int (16 : Int32)), (.ref w2_els)])) _
    refine st12 _ ?_
    show Steps p.tables e below (T12.setTop (mkF m 34 #[.val (.ref o0), .val (.ref o1), .val (.ref w2_els)] [])) _
    refine XS.aloadN X12.here hx rfl (hb hby d12_34) rfl rfl ?_
    show Steps p.tables e below (T12.setTop (mkF m 35 #[.val (.ref o0), .val (.ref o1), .val (.ref w2_els)] [(.ref o0)])) _
    refine st16 _ ?_
    show Steps p.tables e below (T16.setTop (mkF m 38 #[.val (.ref o0), .val (.ref o1), .val (.ref w2_els)] [(.int (16 : Int32))])) _
    refine XS.aloadN X16.here hx rfl (hb hby d12_38) rfl rfl ?_
    show Steps p.tables e below (T16.setTop (mkF m 39 #[.val (.ref o0), .val (.ref o1), .val (.ref w2_els)] [(.ref o0), (.int (16 : Int32))])) _
    refine st18 _ ?_
    show Steps p.tables e below (T18.setTop (mkF m 42 #[.val (.ref o0), .val (.ref o1), .val (.ref w2_els)] [(.int (1 : Int32)), (.int (16 : Int32))])) _
    refine XS.icmpYes X18.here hx rfl (pc0 := 42) (pc' := 50) rfl (hb hby d12_42) rfl (XT.ii_ne_t (by decide)) (by decide) (by decide) ?_
    show Steps p.tables e below (T18.setTop (mkF m 50 #[.val (.ref o0), .val (.ref o1), .val (.ref w2_els)] [])) _
    exact X18.returnOut hx Bd.returns (hb hby d12_50) hr
  · skip
    show Qaf0_1 Z o0 o1 w2_els u20_e u21_e u22_e u23_e u24_e u25_e u26_e u27_e u28_e u29_e u30_e u31_e u32_e u33_e u34_e u35_e u36_e kA h0 n0 _ T18.heap _
    rw [e18]
    have k19 := ((E_o0.wr W5).wr W12)
    have k20 := ((F_elements_o0.other W5 (Or.inr (slot_ne (Or.inl (hw _ (List.mem_of_getElem? (i := 25) rfl))) (Or.inl (hw _ (List.mem_of_getElem? (i := 65) rfl))) (by decide) (t := (.array (.object "java/lang/Object"))) (t' := .int) (by decide) (by decide)))).other W12 (Or.inl (Ne.symm ne_w2_els_o0)))
    exact ⟨N12, rfl, (((Keep.refl h0 [o0, w2_els]).wr W5 (Or.inl (List.mem_of_getElem? (i := 0) rfl))).wr W12 (Or.inl (List.mem_of_getElem? (i := 1) rfl))), k19, k20, k15, k17, V12⟩
theorem ef_qa0_1 (m : MethodId) (o0 : Addr) (o1 : Addr) : entryFrame m #[(.ref o0), (.ref o1)] 2 = mkF m 0 #[.val (.ref o0), .val (.ref o1)] [] := by first | (simp [entryFrame, mkF, argsToLocals, Value.category]; done) | rfl
def Qqa0_1 (Z : State) (o0 : Addr) (o1 : Addr) (w1_dq : Addr) (w0_sz : Int64) (w2_els : Addr) (u20_e : Value) (u21_e : Value) (u22_e : Value) (u23_e : Value) (u24_e : Value) (u25_e : Value) (u26_e : Value) (u27_e : Value) (u28_e : Value) (u29_e : Value) (u30_e : Value) (u31_e : Value) (u32_e : Value) (u33_e : Value) (u34_e : Value) (u35_e : Value) (u36_e : Value) (kA : ClassId) (h0 : Heap) (n0 : Nat) (v : Option Value) (h : Heap) (L : List Loc) : Prop := Fr n0 L ∧ v = none ∧ Keep h0 h [w2_els, w1_dq, o0] ∧ Arv Z h w2_els kA (.object "java/lang/Object") (17 : Int32) [u20_e, (.ref o1), u22_e, u23_e, u24_e, u25_e, u26_e, u27_e, u28_e, u29_e, u30_e, u31_e, u32_e, u33_e, u34_e, u35_e, u36_e] .null ∧ Exa Z h w1_dq "java/util/ArrayDeque" ∧ Fld Z h w1_dq "java/util/ArrayDeque" "elements" "[Ljava/lang/Object;" (.ref w2_els) ∧ Fld Z h w1_dq "java/util/ArrayDeque" "head" "I" (.int (0 : Int32)) ∧ Fld Z h w1_dq "java/util/ArrayDeque" "tail" "I" (.int (2 : Int32)) ∧ Exa Z h o0 "com/example/dispatch_by_catalog/dispatchbycatalog/subscriptions/EventQueue" ∧ Fld Z h o0 "com/example/dispatch_by_catalog/dispatchbycatalog/subscriptions/EventQueue" "events" "Ljava/util/Deque;" (.ref w1_dq) ∧ Fld Z h o0 "com/example/dispatch_by_catalog/dispatchbycatalog/subscriptions/EventQueue" "bytes" "J" (.long (w0_sz + f14))
set_option maxRecDepth 65536 in
set_option maxHeartbeats 40000000 in
theorem rmqa0_1 (l : Launch) (Z : State) (a0 : Array Value) (hw : ∀ d ∈ tables_1, d.before a0 Z = true) (ws : List Jvm.Cond) (o0 : Addr) (o1 : Addr) (w1_dq : Addr) (w0_sz : Int64) (w2_els : Addr) (u20_e : Value) (u21_e : Value) (u22_e : Value) (u23_e : Value) (u24_e : Value) (u25_e : Value) (u26_e : Value) (u27_e : Value) (u28_e : Value) (u29_e : Value) (u30_e : Value) (u31_e : Value) (u32_e : Value) (u33_e : Value) (u34_e : Value) (u35_e : Value) (u36_e : Value) (kA : ClassId) (h0 : Heap) (n0 : Nat) (Z0 : n0 ≤ h0.size) (E_o0 : Exa Z h0 o0 "com/example/dispatch_by_catalog/dispatchbycatalog/subscriptions/EventQueue") (F_events_o0 : Fld Z h0 o0 "com/example/dispatch_by_catalog/dispatchbycatalog/subscriptions/EventQueue" "events" "Ljava/util/Deque;" (.ref w1_dq)) (F_bytes_o0 : Fld Z h0 o0 "com/example/dispatch_by_catalog/dispatchbycatalog/subscriptions/EventQueue" "bytes" "J" (.long w0_sz)) (E_w1_dq : Exa Z h0 w1_dq "java/util/ArrayDeque") (F_elements_w1_dq : Fld Z h0 w1_dq "java/util/ArrayDeque" "elements" "[Ljava/lang/Object;" (.ref w2_els)) (F_head_w1_dq : Fld Z h0 w1_dq "java/util/ArrayDeque" "head" "I" (.int (0 : Int32))) (F_tail_w1_dq : Fld Z h0 w1_dq "java/util/ArrayDeque" "tail" "I" (.int (1 : Int32))) (V_w2_els : Arv Z h0 w2_els kA (.object "java/lang/Object") (17 : Int32) [u20_e, u21_e, u22_e, u23_e, u24_e, u25_e, u26_e, u27_e, u28_e, u29_e, u30_e, u31_e, u32_e, u33_e, u34_e, u35_e, u36_e] .null) (ovr : Ovr Z kA "java/lang/Object") (E_o1 : Exa Z h0 o1 "com/example/dispatch_by_catalog/dispatchbycatalog/subscriptions/DroppedEvents") (g_w2_els : n0 ≤ w2_els) (ne_w1_dq_w2_els : w1_dq ≠ w2_els) (g_w1_dq : n0 ≤ w1_dq) (ne_o0_w1_dq : o0 ≠ w1_dq) (ne_o0_w2_els : o0 ≠ w2_els) (g_o0 : n0 ≤ o0) :
    MetFree l (⟨"com/example/dispatch_by_catalog/dispatchbycatalog/subscriptions/EventQueue", "add", "(Lcom/example/dispatch_by_catalog/dispatchbycatalog/subscriptions/Event;)V"⟩ : MethodName) (head1 (Jvm.Cond.code (⟨"com/example/dispatch_by_catalog/dispatchbycatalog/subscriptions/EventQueue", "add", "(Lcom/example/dispatch_by_catalog/dispatchbycatalog/subscriptions/Event;)V"⟩ : MethodName) prog_41_method_7_code 2 none :: ws) ({ frames := 2, cells := 0, slots := 0, locals := 29 } : Room)) (fun a U => a = #[(.ref o0), (.ref o1)] ∧ Z.Warmed39 U.vm ∧ U.heap = h0) (fun _ _ _ _ _ => True) (fun _ U o U' => ∃ v L, o = .returned v ∧ Qqa0_1 Z o0 o1 w1_dq w0_sz w2_els u20_e u21_e u22_e u23_e u24_e u25_e u26_e u27_e u28_e u29_e u30_e u31_e u32_e u33_e u34_e u35_e u36_e kA h0 n0 v U'.heap L ∧ FrameEnd U o U' L ({ frames := 2, cells := 0, slots := 0, locals := 29 } : Room).cells ({ frames := 2, cells := 0, slots := 0, locals := 29 } : Room).slots) := by
  refine MetFree.of_bodySF (plainFor_of_name pn_com_example_dispatch_by_catalog_dispatchbycatalog_subscriptions_EventQueue) hisR ?_
  intro p e s m args below meth c s₁ Bd hml0 hP hK
  obtain ⟨rfl, hZ, hh⟩ := hP
  have hx := Bd.exec
  have hby := Bd.bytes
  have hml : c.maxLocals = 2 := hml0
  have hown : s.vm.findClass "com/example/dispatch_by_catalog/dispatchbycatalog/subscriptions/EventQueue" = some m.cls := findClass_of_methodNamed Bd.named
  have hnm := (name_of_methodNamed Bd.named Bd.method).1
  have hlk := BodyLoose.notSynchronized Bd
  have X0 : Stand p l e ({ frames := 2, cells := 0, slots := 0, locals := 29 } : Room) s m #[(.ref o0), (.ref o1)] below meth c s₁ [] 0 0 := Stand.of_body Bd
  have e0 : s₁.heap = h0 := by rw [← hh, Bd.state]; rfl
  have N0 := Fr.nil n0
  have pre0 : ∀ t, Steps p.tables e below (s₁.setTop (mkF m 0 #[.val (.ref o0), .val (.ref o1)] [])) t → Steps p.tables e below (s₁.setTop (entryFrame m #[(.ref o0), (.ref o1)] 2)) t := fun t k => castTop (ef_qa0_1 m o0 o1) k
  obtain ⟨T1, X1, e1, st1⟩ := getF X0 hx hZ hown (host := "") (Or.inl (hw _ (List.mem_of_getElem? (i := 26) rfl))) Via.refl e0 F_events_o0 (g := (mkF m 1 #[.val (.ref o0), .val (.ref o1)] [(.ref o0)])) rfl rfl (hb hby d15_1)
  obtain ⟨cq2, kq2, q2a, q2b, q2c⟩ := isOf hZ e1 E_w1_dq
  obtain ⟨vr2, _, ⟨T2, L2, k2, n2⟩, -, X2, ⟨Lc2, hQ2, l2, y2, z2⟩, st2⟩ := X1.interfaceBack hx (xi := (⟨"java/util/Deque", "addLast", "(Ljava/lang/Object;)V"⟩ : MethodName)) (y := (⟨"java/util/ArrayDeque", "addLast", "(Ljava/lang/Object;)V"⟩ : MethodName)) hown (mvT hZ (hw _ (List.mem_of_getElem? (i := 105) rfl))) (mvT hZ (hw _ (List.mem_of_getElem? (i := 106) rfl))) (mvT hZ (hw _ (List.mem_of_getElem? (i := 107) rfl))) (mvT hZ (hw _ (List.mem_of_getElem? (i := 108) rfl))) (mvT hZ (hw _ (List.mem_of_getElem? (i := 109) rfl))) (mvT hZ (hw _ (List.mem_of_getElem? (i := 110) rfl))) (mvT hZ (hw _ (List.mem_of_getElem? (i := 111) rfl))) (mvT hZ (hw _ (List.mem_of_getElem? (i := 57) rfl))) (by decide) (backOf (W := 0) (rmal0_1 l Z a0 hw [] w1_dq o1 w2_els u20_e u21_e u22_e u23_e u24_e u25_e u26_e u27_e u28_e u29_e u30_e u31_e u32_e u33_e u34_e u35_e u36_e kA h0 n0 Z0 E_w1_dq F_elements_w1_dq F_head_w1_dq F_tail_w1_dq V_w2_els ovr E_o1 g_w2_els ne_w1_dq_w2_els g_w1_dq) hZ (hw _ (List.mem_of_getElem? (i := 112) rfl)) (hw _ (List.mem_of_getElem? (i := 11) rfl)) (by decide) (by decide)) q2a q2b q2c (g := (mkF m 5 #[.val (.ref o0), .val (.ref o1)] [(.ref o1), (.ref w1_dq)])) rfl (by rw [hml]; rfl) (Steps.refl _) (argsL := [(.ref o1)]) (rest := []) (lenOf pd__Ljava_lang_Object__V rfl) rfl (by show 2 * 0 + _ ≤ _; exact Nat.le_of_eq rfl) (hb hby d15_5) (fun _ _ => ⟨rfl, e1, (by decide : 0 + 0 ≤ _), (by decide : 0 + 0 ≤ _)⟩)
  dsimp only [Pt.U, Pt.locs, Pt.cells, Pt.slots] at X2 l2 y2 z2 st2 hQ2
  subst l2 y2 z2
  have N2q := (show _ ∧ _ from hQ2).1
  have hq2 := (show _ ∧ _ from hQ2).2
  clear hQ2
  have hv2 := hq2.1
  have K2 := hq2.2.1
  have po2_0 := hq2.2.2.1
  have po2_1 := hq2.2.2.2.1
  have po2_2 := hq2.2.2.2.2.1
  have po2_3 := hq2.2.2.2.2.2.1
  have po2_4 := hq2.2.2.2.2.2.2
  clear hq2
  subst hv2
  have z3 : n0 ≤ T2.heap.size := Nat.le_trans Z0 K2.1
  have hs4 : h0.size ≤ T2.heap.size := Nat.le_trans (Nat.le_refl h0.size) K2.1
  have N2 := Fr.app N0 N2q
  have k5 := (F_bytes_o0.keep K2 (ninS ne_o0_w2_els (ninS ne_o0_w1_dq nin0)))
  obtain ⟨T6, X6, e6, st6⟩ := getF X2 hx hZ hown (host := "") (Or.inl (hw _ (List.mem_of_getElem? (i := 88) rfl))) Via.refl rfl k5 (g := (mkF m 12 #[.val (.ref o0), .val (.ref o1)] [(.ref o0), (.ref o0)])) rfl rfl (hb hby d15_12)
  have k8 := (E_o1.keep K2)
  obtain ⟨cq7, kq7, q7a, q7b, q7c⟩ := isOf hZ e6 k8
  obtain ⟨vr7, _, ⟨T7, L7, k7, n7⟩, -, X7, ⟨Lc7, hQ7, l7, y7, z7⟩, st7⟩ := X6.interfaceBack hx (xi := (⟨"com/example/dispatch_by_catalog/dispatchbycatalog/subscriptions/Event", "size", "()J"⟩ : MethodName)) (y := (⟨"com/example/dispatch_by_catalog/dispatchbycatalog/subscriptions/DroppedEvents", "size", "()J"⟩ : MethodName)) hown (mvT hZ (hw _ (List.mem_of_getElem? (i := 90) rfl))) (mvT hZ (hw _ (List.mem_of_getElem? (i := 91) rfl))) (mvT hZ (hw _ (List.mem_of_getElem? (i := 92) rfl))) (mvT hZ (hw _ (List.mem_of_getElem? (i := 93) rfl))) (mvT hZ (hw _ (List.mem_of_getElem? (i := 94) rfl))) (mvT hZ (hw _ (List.mem_of_getElem? (i := 95) rfl))) (mvT hZ (hw _ (List.mem_of_getElem? (i := 96) rfl))) (mvT hZ (hw _ (List.mem_of_getElem? (i := 97) rfl))) (by decide) (backOf (W := 3) (rm14 l Z a0 hw [] o1 T2.heap n0 z3) hZ (hw _ (List.mem_of_getElem? (i := 98) rfl)) (hw _ (List.mem_of_getElem? (i := 30) rfl)) (by decide) (by decide)) q7a q7b q7c (g := (mkF m 16 #[.val (.ref o0), .val (.ref o1)] [(.ref o1), (.long w0_sz), (.ref o0)])) rfl (by rw [hml]; rfl) (Steps.refl _) (argsL := []) (rest := [(.long w0_sz), (.ref o0)]) (lenOf pd___J rfl) rfl (by show 2 * 0 + _ ≤ _; exact Nat.le_of_eq rfl) (hb hby d15_16) (fun _ _ => ⟨rfl, e6, (by decide : 0 + 0 ≤ _), (by decide : 0 + 0 ≤ _)⟩)
  dsimp only [Pt.U, Pt.locs, Pt.cells, Pt.slots] at X7 l7 y7 z7 st7 hQ7
  subst l7 y7 z7
  have N7q := (show _ ∧ _ ∧ _ from hQ7).1
  have hv7 := (show _ ∧ _ ∧ _ from hQ7).2.1
  have e7 := (show _ ∧ _ ∧ _ from hQ7).2.2
  clear hQ7
  subst hv7
  have N7 := Fr.app N2 N7q
  have k9 := (E_o0.keep K2)
  obtain ⟨T10, h10, X10, e10, W10, st10⟩ := putF X7 hx hZ hown (host := "") (Or.inl (hw _ (List.mem_of_getElem? (i := 88) rfl))) Via.refl e7 k5 k9 (Or.inl (hw _ (List.mem_of_getElem? (i := 89) rfl))) (hw _ (List.mem_of_getElem? (i := 1) rfl)) (ty := .long) (by decide) rfl rfl (g := (mkF m 22 #[.val (.ref o0), .val (.ref o1)] [(.long (w0_sz + f14)), (.ref o0)])) rfl rfl (hb hby d15_22)
  have Fw10 := k5.same W10
  have N10 := Fr.snoc X10 N7 g_o0
  have z11 : n0 ≤ h10.size := Nat.le_trans z3 (Keep.of_wr W10).1
  have hs12 : h0.size ≤ h10.size := Nat.le_trans hs4 (Keep.of_wr W10).1
  obtain ⟨fs, hr, hrun, hended, hW, hsame⟩ := X10.leave (v := none) (fun _ => rfl) hlk
  refine ⟨_, _, pre0 _ ?_, hrun, hended, _, _, rfl, ?_, ⟨_, rfl⟩, hW, hsame.mono (by decide) (by decide)⟩
  · skip
    show Steps p.tables e below (s₁.setTop (mkF m 0 #[.val (.ref o0), .val (.ref o1)] [])) _
    refine XS.aloadN X0.here hx rfl (hb hby d15_0) rfl rfl ?_
    show Steps p.tables e below (s₁.setTop (mkF m 1 #[.val (.ref o0), .val (.ref o1)] [(.ref o0)])) _
    refine st1 _ ?_
    show Steps p.tables e below (T1.setTop (mkF m 4 #[.val (.ref o0), .val (.ref o1)] [(.ref w1_dq)])) _
    refine XS.aloadN X1.here hx rfl (hb hby d15_4) rfl rfl ?_
    show Steps p.tables e below (T1.setTop (mkF m 5 #[.val (.ref o0), .val (.ref o1)] [(.ref o1), (.ref w1_dq)])) _
    refine st2.trans ?_
    show Steps p.tables e below (T2.setTop (mkF m 10 #[.val (.ref o0), .val (.ref o1)] [])) _
    refine XS.aloadN X2.here hx rfl (hb hby d15_10) rfl rfl ?_
    show Steps p.tables e below (T2.setTop (mkF m 11 #[.val (.ref o0), .val (.ref o1)] [(.ref o0)])) _
    refine XS.dup X2.here hx rfl (hb hby d15_11) rfl rfl ?_
    show Steps p.tables e below (T2.setTop (mkF m 12 #[.val (.ref o0), .val (.ref o1)] [(.ref o0), (.ref o0)])) _
    refine st6 _ ?_
    show Steps p.tables e below (T6.setTop (mkF m 15 #[.val (.ref o0), .val (.ref o1)] [(.long w0_sz), (.ref o0)])) _
    refine XS.aloadN X6.here hx rfl (hb hby d15_15) rfl rfl ?_
    show Steps p.tables e below (T6.setTop (mkF m 16 #[.val (.ref o0), .val (.ref o1)] [(.ref o1), (.long w0_sz), (.ref o0)])) _
    refine st7.trans ?_
    show Steps p.tables e below (T7.setTop (mkF m 21 #[.val (.ref o0), .val (.ref o1)] [(.long f14), (.long w0_sz), (.ref o0)])) _
    refine XT.ladd X7.here hx rfl (hb hby d15_21) rfl ?_
    show Steps p.tables e below (T7.setTop (mkF m 22 #[.val (.ref o0), .val (.ref o1)] [(.long (w0_sz + f14)), (.ref o0)])) _
    refine st10 _ ?_
    show Steps p.tables e below (T10.setTop (mkF m 25 #[.val (.ref o0), .val (.ref o1)] [])) _
    exact X10.returnOut hx Bd.returns (hb hby d15_25) hr
  · skip
    show Qqa0_1 Z o0 o1 w1_dq w0_sz w2_els u20_e u21_e u22_e u23_e u24_e u25_e u26_e u27_e u28_e u29_e u30_e u31_e u32_e u33_e u34_e u35_e u36_e kA h0 n0 _ T10.heap _
    rw [e10]
    have k13 := (po2_0.other W10 (Ne.symm ne_o0_w2_els))
    have k14 := (po2_1.wr W10)
    have k15 := (po2_2.other W10 (Or.inl (Ne.symm ne_o0_w1_dq)))
    have k16 := (po2_3.other W10 (Or.inl (Ne.symm ne_o0_w1_dq)))
    have k17 := (po2_4.other W10 (Or.inl (Ne.symm ne_o0_w1_dq)))
    have k18 := (k9.wr W10)
    have k19 := ((F_events_o0.keep K2 (ninS ne_o0_w2_els (ninS ne_o0_w1_dq nin0))).other W10 (Or.inr (slot_ne (Or.inr (hw _ (List.mem_of_getElem? (i := 27) rfl))) (Or.inl (hw _ (List.mem_of_getElem? (i := 89) rfl))) (by decide) (t := (.object "java/util/Deque")) (t' := .long) (by decide) (by decide))))
    exact ⟨N10, rfl, (((Keep.refl h0 [w2_els, w1_dq, o0]).trans K2 (allS (Or.inl (List.mem_of_getElem? (i := 0) rfl)) (allS (Or.inl (List.mem_of_getElem? (i := 1) rfl)) all0))).wr W10 (Or.inl (List.mem_of_getElem? (i := 2) rfl))), k13, k14, k15, k16, k17, k18, k19, Fw10⟩
theorem ef_qf0_1 (m : MethodId) (o0 : Addr) (o1 : Addr) : entryFrame m #[(.ref o0), (.ref o1)] 2 = mkF m 0 #[.val (.ref o0), .val (.ref o1)] [] := by first | (simp [entryFrame, mkF, argsToLocals, Value.category]; done) | rfl
def Qqf0_1 (Z : State) (o0 : Addr) (o1 : Addr) (w1_dq : Addr) (w0_sz : Int64) (w2_els : Addr) (u20_e : Value) (u21_e : Value) (u22_e : Value) (u23_e : Value) (u24_e : Value) (u25_e : Value) (u26_e : Value) (u27_e : Value) (u28_e : Value) (u29_e : Value) (u30_e : Value) (u31_e : Value) (u32_e : Value) (u33_e : Value) (u34_e : Value) (u35_e : Value) (u36_e : Value) (kA : ClassId) (h0 : Heap) (n0 : Nat) (v : Option Value) (h : Heap) (L : List Loc) : Prop := Fr n0 L ∧ v = none ∧ Keep h0 h [w1_dq, w2_els, o0] ∧ Exa Z h w1_dq "java/util/ArrayDeque" ∧ Fld Z h w1_dq "java/util/ArrayDeque" "elements" "[Ljava/lang/Object;" (.ref w2_els) ∧ Fld Z h w1_dq "java/util/ArrayDeque" "head" "I" (.int (16 : Int32)) ∧ Fld Z h w1_dq "java/util/ArrayDeque" "tail" "I" (.int (1 : Int32)) ∧ Arv Z h w2_els kA (.object "java/lang/Object") (17 : Int32) [u20_e, u21_e, u22_e, u23_e, u24_e, u25_e, u26_e, u27_e, u28_e, u29_e, u30_e, u31_e, u32_e, u33_e, u34_e, u35_e, (.ref o1)] .null ∧ Exa Z h o0 "com/example/dispatch_by_catalog/dispatchbycatalog/subscriptions/EventQueue" ∧ Fld Z h o0 "com/example/dispatch_by_catalog/dispatchbycatalog/subscriptions/EventQueue" "events" "Ljava/util/Deque;" (.ref w1_dq) ∧ Fld Z h o0 "com/example/dispatch_by_catalog/dispatchbycatalog/subscriptions/EventQueue" "bytes" "J" (.long (w0_sz + f14))
set_option maxRecDepth 65536 in
set_option maxHeartbeats 40000000 in
theorem rmqf0_1 (l : Launch) (Z : State) (a0 : Array Value) (hw : ∀ d ∈ tables_1, d.before a0 Z = true) (ws : List Jvm.Cond) (o0 : Addr) (o1 : Addr) (w1_dq : Addr) (w0_sz : Int64) (w2_els : Addr) (u20_e : Value) (u21_e : Value) (u22_e : Value) (u23_e : Value) (u24_e : Value) (u25_e : Value) (u26_e : Value) (u27_e : Value) (u28_e : Value) (u29_e : Value) (u30_e : Value) (u31_e : Value) (u32_e : Value) (u33_e : Value) (u34_e : Value) (u35_e : Value) (u36_e : Value) (kA : ClassId) (h0 : Heap) (n0 : Nat) (Z0 : n0 ≤ h0.size) (E_o0 : Exa Z h0 o0 "com/example/dispatch_by_catalog/dispatchbycatalog/subscriptions/EventQueue") (F_events_o0 : Fld Z h0 o0 "com/example/dispatch_by_catalog/dispatchbycatalog/subscriptions/EventQueue" "events" "Ljava/util/Deque;" (.ref w1_dq)) (F_bytes_o0 : Fld Z h0 o0 "com/example/dispatch_by_catalog/dispatchbycatalog/subscriptions/EventQueue" "bytes" "J" (.long w0_sz)) (E_w1_dq : Exa Z h0 w1_dq "java/util/ArrayDeque") (F_elements_w1_dq : Fld Z h0 w1_dq "java/util/ArrayDeque" "elements" "[Ljava/lang/Object;" (.ref w2_els)) (F_head_w1_dq : Fld Z h0 w1_dq "java/util/ArrayDeque" "head" "I" (.int (0 : Int32))) (F_tail_w1_dq : Fld Z h0 w1_dq "java/util/ArrayDeque" "tail" "I" (.int (1 : Int32))) (V_w2_els : Arv Z h0 w2_els kA (.object "java/lang/Object") (17 : Int32) [u20_e, u21_e, u22_e, u23_e, u24_e, u25_e, u26_e, u27_e, u28_e, u29_e, u30_e, u31_e, u32_e, u33_e, u34_e, u35_e, u36_e] .null) (ovr : Ovr Z kA "java/lang/Object") (E_o1 : Exa Z h0 o1 "com/example/dispatch_by_catalog/dispatchbycatalog/subscriptions/DroppedEvents") (g_w1_dq : n0 ≤ w1_dq) (ne_w2_els_w1_dq : w2_els ≠ w1_dq) (g_w2_els : n0 ≤ w2_els) (ne_o0_w2_els : o0 ≠ w2_els) (ne_o0_w1_dq : o0 ≠ w1_dq) (g_o0 : n0 ≤ o0) :
    MetFree l (⟨"com/example/dispatch_by_catalog/dispatchbycatalog/subscriptions/EventQueue", "addFirst", "(Lcom/example/dispatch_by_catalog/dispatchbycatalog/subscriptions/Event;)V"⟩ : MethodName) (head1 (Jvm.Cond.code (⟨"com/example/dispatch_by_catalog/dispatchbycatalog/subscriptions/EventQueue", "addFirst", "(Lcom/example/dispatch_by_catalog/dispatchbycatalog/subscriptions/Event;)V"⟩ : MethodName) prog_41_method_8_code 2 none :: ws) ({ frames := 2, cells := 0, slots := 0, locals := 29 } : Room)) (fun a U => a = #[(.ref o0), (.ref o1)] ∧ Z.Warmed39 U.vm ∧ U.heap = h0) (fun _ _ _ _ _ => True) (fun _ U o U' => ∃ v L, o = .returned v ∧ Qqf0_1 Z o0 o1 w1_dq w0_sz w2_els u20_e u21_e u22_e u23_e u24_e u25_e u26_e u27_e u28_e u29_e u30_e u31_e u32_e u33_e u34_e u35_e u36_e kA h0 n0 v U'.heap L ∧ FrameEnd U o U' L ({ frames := 2, cells := 0, slots := 0, locals := 29 } : Room).cells ({ frames := 2, cells := 0, slots := 0, locals := 29 } : Room).slots) := by
  refine MetFree.of_bodySF (plainFor_of_name pn_com_example_dispatch_by_catalog_dispatchbycatalog_subscriptions_EventQueue) hisR ?_
  intro p e s m args below meth c s₁ Bd hml0 hP hK
  obtain ⟨rfl, hZ, hh⟩ := hP
  have hx := Bd.exec
  have hby := Bd.bytes
  have hml : c.maxLocals = 2 := hml0
  have hown : s.vm.findClass "com/example/dispatch_by_catalog/dispatchbycatalog/subscriptions/EventQueue" = some m.cls := findClass_of_methodNamed Bd.named
  have hnm := (name_of_methodNamed Bd.named Bd.method).1
  have hlk := BodyLoose.notSynchronized Bd
  have X0 : Stand p l e ({ frames := 2, cells := 0, slots := 0, locals := 29 } : Room) s m #[(.ref o0), (.ref o1)] below meth c s₁ [] 0 0 := Stand.of_body Bd
  have e0 : s₁.heap = h0 := by rw [← hh, Bd.state]; rfl
  have N0 := Fr.nil n0
  have pre0 : ∀ t, Steps p.tables e below (s₁.setTop (mkF m 0 #[.val (.ref o0), .val (.ref o1)] [])) t → Steps p.tables e below (s₁.setTop (entryFrame m #[(.ref o0), (.ref o1)] 2)) t := fun t k => castTop (ef_qf0_1 m o0 o1) k
  obtain ⟨T1, X1, e1, st1⟩ := getF X0 hx hZ hown (host := "") (Or.inl (hw _ (List.mem_of_getElem? (i := 26) rfl))) Via.refl e0 F_events_o0 (g := (mkF m 1 #[.val (.ref o0), .val (.ref o1)] [(.ref o0)])) rfl rfl (hb hby d11_1)
  obtain ⟨cq2, kq2, q2a, q2b, q2c⟩ := isOf hZ e1 E_w1_dq
  obtain ⟨vr2, _, ⟨T2, L2, k2, n2⟩, -, X2, ⟨Lc2, hQ2, l2, y2, z2⟩, st2⟩ := X1.interfaceBack hx (xi := (⟨"java/util/Deque", "addFirst", "(Ljava/lang/Object;)V"⟩ : MethodName)) (y := (⟨"java/util/ArrayDeque", "addFirst", "(Ljava/lang/Object;)V"⟩ : MethodName)) hown (mvT hZ (hw _ (List.mem_of_getElem? (i := 74) rfl))) (mvT hZ (hw _ (List.mem_of_getElem? (i := 75) rfl))) (mvT hZ (hw _ (List.mem_of_getElem? (i := 76) rfl))) (mvT hZ (hw _ (List.mem_of_getElem? (i := 77) rfl))) (mvT hZ (hw _ (List.mem_of_getElem? (i := 78) rfl))) (mvT hZ (hw _ (List.mem_of_getElem? (i := 79) rfl))) (mvT hZ (hw _ (List.mem_of_getElem? (i := 80) rfl))) (mvT hZ (hw _ (List.mem_of_getElem? (i := 57) rfl))) (by decide) (backOf (W := 0) (rmaf0_1 l Z a0 hw [] w1_dq o1 w2_els u20_e u21_e u22_e u23_e u24_e u25_e u26_e u27_e u28_e u29_e u30_e u31_e u32_e u33_e u34_e u35_e u36_e kA h0 n0 Z0 E_w1_dq F_elements_w1_dq F_head_w1_dq F_tail_w1_dq V_w2_els ovr E_o1 g_w1_dq ne_w2_els_w1_dq g_w2_els) hZ (hw _ (List.mem_of_getElem? (i := 81) rfl)) (hw _ (List.mem_of_getElem? (i := 11) rfl)) (by decide) (by decide)) q2a q2b q2c (g := (mkF m 5 #[.val (.ref o0), .val (.ref o1)] [(.ref o1), (.ref w1_dq)])) rfl (by rw [hml]; rfl) (Steps.refl _) (argsL := [(.ref o1)]) (rest := []) (lenOf pd__Ljava_lang_Object__V rfl) rfl (by show 2 * 0 + _ ≤ _; exact Nat.le_of_eq rfl) (hb hby d11_5) (fun _ _ => ⟨rfl, e1, (by decide : 0 + 0 ≤ _), (by decide : 0 + 0 ≤ _)⟩)
  dsimp only [Pt.U, Pt.locs, Pt.cells, Pt.slots] at X2 l2 y2 z2 st2 hQ2
  subst l2 y2 z2
  have N2q := (show _ ∧ _ from hQ2).1
  have hq2 := (show _ ∧ _ from hQ2).2
  clear hQ2
  have hv2 := hq2.1
  have K2 := hq2.2.1
  have po2_0 := hq2.2.2.1
  have po2_1 := hq2.2.2.2.1
  have po2_2 := hq2.2.2.2.2.1
  have po2_3 := hq2.2.2.2.2.2.1
  have po2_4 := hq2.2.2.2.2.2.2
  clear hq2
  subst hv2
  have z3 : n0 ≤ T2.heap.size := Nat.le_trans Z0 K2.1
  have hs4 : h0.size ≤ T2.heap.size := Nat.le_trans (Nat.le_refl h0.size) K2.1
  have N2 := Fr.app N0 N2q
  have k5 := (F_bytes_o0.keep K2 (ninS ne_o0_w1_dq (ninS ne_o0_w2_els nin0)))
  obtain ⟨T6, X6, e6, st6⟩ := getF X2 hx hZ hown (host := "") (Or.inl (hw _ (List.mem_of_getElem? (i := 88) rfl))) Via.refl rfl k5 (g := (mkF m 12 #[.val (.ref o0), .val (.ref o1)] [(.ref o0), (.ref o0)])) rfl rfl (hb hby d11_12)
  have k8 := (E_o1.keep K2)
  obtain ⟨cq7, kq7, q7a, q7b, q7c⟩ := isOf hZ e6 k8
  obtain ⟨vr7, _, ⟨T7, L7, k7, n7⟩, -, X7, ⟨Lc7, hQ7, l7, y7, z7⟩, st7⟩ := X6.interfaceBack hx (xi := (⟨"com/example/dispatch_by_catalog/dispatchbycatalog/subscriptions/Event", "size", "()J"⟩ : MethodName)) (y := (⟨"com/example/dispatch_by_catalog/dispatchbycatalog/subscriptions/DroppedEvents", "size", "()J"⟩ : MethodName)) hown (mvT hZ (hw _ (List.mem_of_getElem? (i := 90) rfl))) (mvT hZ (hw _ (List.mem_of_getElem? (i := 91) rfl))) (mvT hZ (hw _ (List.mem_of_getElem? (i := 92) rfl))) (mvT hZ (hw _ (List.mem_of_getElem? (i := 93) rfl))) (mvT hZ (hw _ (List.mem_of_getElem? (i := 94) rfl))) (mvT hZ (hw _ (List.mem_of_getElem? (i := 95) rfl))) (mvT hZ (hw _ (List.mem_of_getElem? (i := 96) rfl))) (mvT hZ (hw _ (List.mem_of_getElem? (i := 97) rfl))) (by decide) (backOf (W := 3) (rm14 l Z a0 hw [] o1 T2.heap n0 z3) hZ (hw _ (List.mem_of_getElem? (i := 98) rfl)) (hw _ (List.mem_of_getElem? (i := 30) rfl)) (by decide) (by decide)) q7a q7b q7c (g := (mkF m 16 #[.val (.ref o0), .val (.ref o1)] [(.ref o1), (.long w0_sz), (.ref o0)])) rfl (by rw [hml]; rfl) (Steps.refl _) (argsL := []) (rest := [(.long w0_sz), (.ref o0)]) (lenOf pd___J rfl) rfl (by show 2 * 0 + _ ≤ _; exact Nat.le_of_eq rfl) (hb hby d11_16) (fun _ _ => ⟨rfl, e6, (by decide : 0 + 0 ≤ _), (by decide : 0 + 0 ≤ _)⟩)
  dsimp only [Pt.U, Pt.locs, Pt.cells, Pt.slots] at X7 l7 y7 z7 st7 hQ7
  subst l7 y7 z7
  have N7q := (show _ ∧ _ ∧ _ from hQ7).1
  have hv7 := (show _ ∧ _ ∧ _ from hQ7).2.1
  have e7 := (show _ ∧ _ ∧ _ from hQ7).2.2
  clear hQ7
  subst hv7
  have N7 := Fr.app N2 N7q
  have k9 := (E_o0.keep K2)
  obtain ⟨T10, h10, X10, e10, W10, st10⟩ := putF X7 hx hZ hown (host := "") (Or.inl (hw _ (List.mem_of_getElem? (i := 88) rfl))) Via.refl e7 k5 k9 (Or.inl (hw _ (List.mem_of_getElem? (i := 89) rfl))) (hw _ (List.mem_of_getElem? (i := 1) rfl)) (ty := .long) (by decide) rfl rfl (g := (mkF m 22 #[.val (.ref o0), .val (.ref o1)] [(.long (w0_sz + f14)), (.ref o0)])) rfl rfl (hb hby d11_22)
  have Fw10 := k5.same W10
  have N10 := Fr.snoc X10 N7 g_o0
  have z11 : n0 ≤ h10.size := Nat.le_trans z3 (Keep.of_wr W10).1
  have hs12 : h0.size ≤ h10.size := Nat.le_trans hs4 (Keep.of_wr W10).1
  obtain ⟨fs, hr, hrun, hended, hW, hsame⟩ := X10.leave (v := none) (fun _ => rfl) hlk
  refine ⟨_, _, pre0 _ ?_, hrun, hended, _, _, rfl, ?_, ⟨_, rfl⟩, hW, hsame.mono (by decide) (by decide)⟩
  · skip
    show Steps p.tables e below (s₁.setTop (mkF m 0 #[.val (.ref o0), .val (.ref o1)] [])) _
    refine XS.aloadN X0.here hx rfl (hb hby d11_0) rfl rfl ?_
    show Steps p.tables e below (s₁.setTop (mkF m 1 #[.val (.ref o0), .val (.ref o1)] [(.ref o0)])) _
    refine st1 _ ?_
    show Steps p.tables e below (T1.setTop (mkF m 4 #[.val (.ref o0), .val (.ref o1)] [(.ref w1_dq)])) _
    refine XS.aloadN X1.here hx rfl (hb hby d11_4) rfl rfl ?_
    show Steps p.tables e below (T1.setTop (mkF m 5 #[.val (.ref o0), .val (.ref o1)] [(.ref o1), (.ref w1_dq)])) _
    refine st2.trans ?_
    show Steps p.tables e below (T2.setTop (mkF m 10 #[.val (.ref o0), .val (.ref o1)] [])) _
    refine XS.aloadN X2.here hx rfl (hb hby d11_10) rfl rfl ?_
    show Steps p.tables e below (T2.setTop (mkF m 11 #[.val (.ref o0), .val (.ref o1)] [(.ref o0)])) _
    refine XS.dup X2.here hx rfl (hb hby d11_11) rfl rfl ?_
    show Steps p.tables e below (T2.setTop (mkF m 12 #[.val (.ref o0), .val (.ref o1)] [(.ref o0), (.ref o0)])) _
    refine st6 _ ?_
    show Steps p.tables e below (T6.setTop (mkF m 15 #[.val (.ref o0), .val (.ref o1)] [(.long w0_sz), (.ref o0)])) _
    refine XS.aloadN X6.here hx rfl (hb hby d11_15) rfl rfl ?_
    show Steps p.tables e below (T6.setTop (mkF m 16 #[.val (.ref o0), .val (.ref o1)] [(.ref o1), (.long w0_sz), (.ref o0)])) _
    refine st7.trans ?_
    show Steps p.tables e below (T7.setTop (mkF m 21 #[.val (.ref o0), .val (.ref o1)] [(.long f14), (.long w0_sz), (.ref o0)])) _
    refine XT.ladd X7.here hx rfl (hb hby d11_21) rfl ?_
    show Steps p.tables e below (T7.setTop (mkF m 22 #[.val (.ref o0), .val (.ref o1)] [(.long (w0_sz + f14)), (.ref o0)])) _
    refine st10 _ ?_
    show Steps p.tables e below (T10.setTop (mkF m 25 #[.val (.ref o0), .val (.ref o1)] [])) _
    exact X10.returnOut hx Bd.returns (hb hby d11_25) hr
  · skip
    show Qqf0_1 Z o0 o1 w1_dq w0_sz w2_els u20_e u21_e u22_e u23_e u24_e u25_e u26_e u27_e u28_e u29_e u30_e u31_e u32_e u33_e u34_e u35_e u36_e kA h0 n0 _ T10.heap _
    rw [e10]
    have k13 := (po2_0.wr W10)
    have k14 := (po2_1.other W10 (Or.inl (Ne.symm ne_o0_w1_dq)))
    have k15 := (po2_2.other W10 (Or.inl (Ne.symm ne_o0_w1_dq)))
    have k16 := (po2_3.other W10 (Or.inl (Ne.symm ne_o0_w1_dq)))
    have k17 := (po2_4.other W10 (Ne.symm ne_o0_w2_els))
    have k18 := (k9.wr W10)
    have k19 := ((F_events_o0.keep K2 (ninS ne_o0_w1_dq (ninS ne_o0_w2_els nin0))).other W10 (Or.inr (slot_ne (Or.inr (hw _ (List.mem_of_getElem? (i := 27) rfl))) (Or.inl (hw _ (List.mem_of_getElem? (i := 89) rfl))) (by decide) (t := (.object "java/util/Deque")) (t' := .long) (by decide) (by decide))))
    exact ⟨N10, rfl, (((Keep.refl h0 [w1_dq, w2_els, o0]).trans K2 (allS (Or.inl (List.mem_of_getElem? (i := 0) rfl)) (allS (Or.inl (List.mem_of_getElem? (i := 1) rfl)) all0))).wr W10 (Or.inl (List.mem_of_getElem? (i := 2) rfl))), k13, k14, k15, k16, k17, k18, k19, Fw10⟩
theorem ef_al16_0 (m : MethodId) (o0 : Addr) (o1 : Addr) : entryFrame m #[(.ref o0), (.ref o1)] 3 = mkF m 0 #[.val (.ref o0), .val (.ref o1), .unset] [] := by first | (simp [entryFrame, mkF, argsToLocals, Value.category]; done) | rfl
def Qal16_0 (Z : State) (o0 : Addr) (o1 : Addr) (w2_els : Addr) (u20_e : Value) (u21_e : Value) (u22_e : Value) (u23_e : Value) (u24_e : Value) (u25_e : Value) (u26_e : Value) (u27_e : Value) (u28_e : Value) (u29_e : Value) (u30_e : Value) (u31_e : Value) (u32_e : Value) (u33_e : Value) (u34_e : Value) (u35_e : Value) (u36_e : Value) (kA : ClassId) (h0 : Heap) (n0 : Nat) (v : Option Value) (h : Heap) (L : List Loc) : Prop := Fr n0 L ∧ v = none ∧ Keep h0 h [w2_els, o0] ∧ Arv Z h w2_els kA (.object "java/lang/Object") (17 : Int32) [(.ref o1), u21_e, u22_e, u23_e, u24_e, u25_e, u26_e, u27_e, u28_e, u29_e, u30_e, u31_e, u32_e, u33_e, u34_e, u35_e, u36_e] .null ∧ Exa Z h o0 "java/util/ArrayDeque" ∧ Fld Z h o0 "java/util/ArrayDeque" "elements" "[Ljava/lang/Object;" (.ref w2_els) ∧ Fld Z h o0 "java/util/ArrayDeque" "head" "I" (.int (16 : Int32)) ∧ Fld Z h o0 "java/util/ArrayDeque" "tail" "I" (.int (1 : Int32))
set_option maxRecDepth 65536 in
set_option maxHeartbeats 40000000 in
theorem rmal16_0 (l : Launch) (Z : State) (a0 : Array Value) (hw : ∀ d ∈ tables_1, d.before a0 Z = true) (ws : List Jvm.Cond) (o0 : Addr) (o1 : Addr) (w2_els : Addr) (u20_e : Value) (u21_e : Value) (u22_e : Value) (u23_e : Value) (u24_e : Value) (u25_e : Value) (u26_e : Value) (u27_e : Value) (u28_e : Value) (u29_e : Value) (u30_e : Value) (u31_e : Value) (u32_e : Value) (u33_e : Value) (u34_e : Value) (u35_e : Value) (u36_e : Value) (kA : ClassId) (h0 : Heap) (n0 : Nat) (Z0 : n0 ≤ h0.size) (E_o0 : Exa Z h0 o0 "java/util/ArrayDeque") (F_elements_o0 : Fld Z h0 o0 "java/util/ArrayDeque" "elements" "[Ljava/lang/Object;" (.ref w2_els)) (F_head_o0 : Fld Z h0 o0 "java/util/ArrayDeque" "head" "I" (.int (16 : Int32))) (F_tail_o0 : Fld Z h0 o0 "java/util/ArrayDeque" "tail" "I" (.int (0 : Int32))) (V_w2_els : Arv Z h0 w2_els kA (.object "java/lang/Object") (17 : Int32) [u20_e, u21_e, u22_e, u23_e, u24_e, u25_e, u26_e, u27_e, u28_e, u29_e, u30_e, u31_e, u32_e, u33_e, u34_e, u35_e, u36_e] .null) (ovr : Ovr Z kA "java/lang/Object") (E_o1 : Exa Z h0 o1 "com/example/dispatch_by_catalog/dispatchbycatalog/subscriptions/DroppedEvents") (g_w2_els : n0 ≤ w2_els) (ne_o0_w2_els : o0 ≠ w2_els) (g_o0 : n0 ≤ o0) :
    MetFree l (⟨"java/util/ArrayDeque", "addLast", "(Ljava/lang/Object;)V"⟩ : MethodName) (head1 (Jvm.Cond.code (⟨"java/util/ArrayDeque", "addLast", "(Ljava/lang/Object;)V"⟩ : MethodName) jdk_21_method_13_code 3 none :: ws) ({ frames := 1, cells := 0, slots := 0, locals := 15 } : Room)) (fun a U => a = #[(.ref o0), (.ref o1)] ∧ Z.Warmed39 U.vm ∧ U.heap = h0) (fun _ _ _ _ _ => True) (fun _ U o U' => ∃ v L, o = .returned v ∧ Qal16_0 Z o0 o1 w2_els u20_e u21_e u22_e u23_e u24_e u25_e u26_e u27_e u28_e u29_e u30_e u31_e u32_e u33_e u34_e u35_e u36_e kA h0 n0 v U'.heap L ∧ FrameEnd U o U' L ({ frames := 1, cells := 0, slots := 0, locals := 15 } : Room).cells ({ frames := 1, cells := 0, slots := 0, locals := 15 } : Room).slots) := by
  refine MetFree.of_bodySF (plainFor_of_name pn_java_util_ArrayDeque) hisR ?_
  intro p e s m args below meth c s₁ Bd hml0 hP hK
  obtain ⟨rfl, hZ, hh⟩ := hP
  have hx := Bd.exec
  have hby := Bd.bytes
  have hml : c.maxLocals = 3 := hml0
  have hown : s.vm.findClass "java/util/ArrayDeque" = some m.cls := findClass_of_methodNamed Bd.named
  have hnm := (name_of_methodNamed Bd.named Bd.method).1
  have hlk := BodyLoose.notSynchronized Bd
  have X0 : Stand p l e ({ frames := 1, cells := 0, slots := 0, locals := 15 } : Room) s m #[(.ref o0), (.ref o1)] below meth c s₁ [] 0 0 := Stand.of_body Bd
  have e0 : s₁.heap = h0 := by rw [← hh, Bd.state]; rfl
  have N0 := Fr.nil n0
  have pre0 : ∀ t, Steps p.tables e below (s₁.setTop (mkF m 0 #[.val (.ref o0), .val (.ref o1), .unset] [])) t → Steps p.tables e below (s₁.setTop (entryFrame m #[(.ref o0), (.ref o1)] 3)) t := fun t k => castTop (ef_al16_0 m o0 o1) k
  obtain ⟨T1, X1, e1, st1⟩ := getF X0 hx hZ hown (host := "") (Or.inl (hw _ (List.mem_of_getElem? (i := 24) rfl))) Via.refl e0 F_elements_o0 (g := (mkF m 13 #[.val (.ref o0), .val (.ref o1), .unset] [(.ref o0)])) rfl rfl (hb hby d16_13)
  obtain ⟨T2, X2, e2, st2⟩ := getF X1 hx hZ hown (host := "") (Or.inl (hw _ (List.mem_of_getElem? (i := 86) rfl))) Via.refl e1 F_tail_o0 (g := (mkF m 19 #[.val (.ref o0), .val (.ref o1), .val (.ref w2_els)] [(.ref o0), (.ref w2_els)])) rfl rfl (hb hby d16_19)
  obtain ⟨cl3, Ar3, qc3, S3, M3, Ha3, G3⟩ := id V_w2_els
  have hin4 : ¬ ((0 : Int32) < 0 ∨ cl3.slots.size ≤ ((0 : Int32)).toNatClampNeg) := inb_of S3 ⟨by decide, by decide⟩
  obtain ⟨T5, h5, X5, e5, W5, st5⟩ := stR X2 hx hZ e2 Ar3 (j := (0 : Int32)) hin4 rfl (Sto.ofV Ar3 qc3 ovr (Ins.of_exa E_o1 (hw _ (List.mem_of_getElem? (i := 85) rfl)))) (g := (mkF m 23 #[.val (.ref o0), .val (.ref o1), .val (.ref w2_els)] [(.ref o1), (.int (0 : Int32)), (.ref w2_els)])) rfl rfl (hb hby d16_23)
  have V5 : Arv Z h5 w2_els kA (.object "java/lang/Object") (17 : Int32) [(.ref o1), u21_e, u22_e, u23_e, u24_e, u25_e, u26_e, u27_e, u28_e, u29_e, u30_e, u31_e, u32_e, u33_e, u34_e, u35_e, u36_e] .null := Arv.set Ar3 qc3 S3 M3 Ha3 G3 rfl W5 0 rfl (Nat.le_of_ble_eq_true rfl)
  have N5 := Fr.snoc X5 N0 g_w2_els
  have z6 : n0 ≤ h5.size := Nat.le_trans Z0 (Keep.of_wr W5).1
  have hs7 : h0.size ≤ h5.size := Nat.le_trans (Nat.le_refl h0.size) (Keep.of_wr W5).1
  have k8 := (F_head_o0.other W5 (Or.inl ne_o0_w2_els))
  obtain ⟨T9, X9, e9, st9⟩ := getF X5 hx hZ hown (host := "") (Or.inl (hw _ (List.mem_of_getElem? (i := 64) rfl))) Via.refl e5 k8 (g := (mkF m 25 #[.val (.ref o0), .val (.ref o1), .val (.ref w2_els)] [(.ref o0)])) rfl rfl (hb hby d16_25)
  have k10 := (F_tail_o0.other W5 (Or.inl ne_o0_w2_els))
  obtain ⟨T11, X11, e11, st11⟩ := getF X9 hx hZ hown (host := "") (Or.inl (hw _ (List.mem_of_getElem? (i := 86) rfl))) Via.refl e9 k10 (g := (mkF m 30 #[.val (.ref o0), .val (.ref o1), .val (.ref w2_els)] [(.ref o0), (.ref o0), (.int (16 : Int32))])) rfl rfl (hb hby d16_30)
  obtain ⟨cl12, Ar12, qc12, S12, M12, Ha12, G12⟩ := id V5
  obtain ⟨vr13, _, ⟨T13, L13, k13, n13⟩, -, X13, ⟨Lc13, hQ13, l13, y13, z13⟩, st13⟩ := Jvm.LawKit.callS X11 hx (y := (⟨"java/util/ArrayDeque", "inc", "(II)I"⟩ : MethodName)) hown (mvT hZ (hw _ (List.mem_of_getElem? (i := 113) rfl))) (mvT hZ (hw _ (List.mem_of_getElem? (i := 114) rfl))) (mvT hZ (hw _ (List.mem_of_getElem? (i := 11) rfl))) (mvT hZ (hw _ (List.mem_of_getElem? (i := 115) rfl))) (by decide) (backOf (W := 2) (rm17 l Z a0 hw [] (0 : Int32) (17 : Int32) h5 n0 z6) hZ (hw _ (List.mem_of_getElem? (i := 115) rfl)) (hw _ (List.mem_of_getElem? (i := 11) rfl)) (by decide) (by decide)) (g := (mkF m 35 #[.val (.ref o0), .val (.ref o1), .val (.ref w2_els)] [(.int (17 : Int32)), (.int (0 : Int32)), (.ref o0), (.int (16 : Int32))])) rfl (by rw [hml]; rfl) (argsL := [(.int (0 : Int32)), (.int (17 : Int32))]) (rest := [(.ref o0), (.int (16 : Int32))]) (lenOf pd__II_I rfl) rfl (by show 2 * 0 + _ ≤ _; exact Nat.le_of_eq rfl) (hb hby d16_35) (fun _ _ => ⟨rfl, e11, (by decide : 0 + 0 ≤ _), (by decide : 0 + 0 ≤ _)⟩)
  dsimp only [Pt.U, Pt.locs, Pt.cells, Pt.slots] at X13 l13 y13 z13 st13 hQ13
  subst l13 y13 z13
  have N13q := (show _ ∧ _ ∧ _ from hQ13).1
  have hv13 := (show _ ∧ _ ∧ _ from hQ13).2.1
  have e13 := (show _ ∧ _ ∧ _ from hQ13).2.2
  clear hQ13
  subst hv13
  have N13 := Fr.app N5 N13q
  have k14 := (E_o0.wr W5)
  obtain ⟨T15, h15, X15, e15, W15, st15⟩ := putF X13 hx hZ hown (host := "") (Or.inl (hw _ (List.mem_of_getElem? (i := 86) rfl))) Via.refl e13 k10 k14 (Or.inl (hw _ (List.mem_of_getElem? (i := 87) rfl))) (hw _ (List.mem_of_getElem? (i := 10) rfl)) (ty := .int) (by decide) rfl rfl (g := (mkF m 39 #[.val (.ref o0), .val (.ref o1), .val (.ref w2_els)] [(.int (1 : Int32)), (.ref o0), (.int (1 : Int32)), (.int (16 : Int32))])) rfl rfl (hb hby d16_39)
  have Fw15 := k10.same W15
  have N15 := Fr.snoc X15 N13 g_o0
  have z16 : n0 ≤ h15.size := Nat.le_trans z6 (Keep.of_wr W15).1
  have hs17 : h0.size ≤ h15.size := Nat.le_trans hs7 (Keep.of_wr W15).1
  obtain ⟨fs, hr, hrun, hended, hW, hsame⟩ := X15.leave (v := none) (fun _ => rfl) hlk
  refine ⟨_, _, pre0 _ ?_, hrun, hended, _, _, rfl, ?_, ⟨_, rfl⟩, hW, hsame.mono (by decide) (by decide)⟩
  · skip
    show Steps p.tables e below (s₁.setTop (mkF m 0 #[.val (.ref o0), .val (.ref o1), .unset] [])) _
    refine XS.aloadN X0.here hx rfl (hb hby d16_0) rfl rfl ?_
    show Steps p.tables e below (s₁.setTop (mkF m 1 #[.val (.ref o0), .val (.ref o1), .unset] [(.ref o1)])) _
    refine XT.ifnonnullYes X0.here hx rfl (pc0 := 1) (pc' := 12) rfl (hb hby d16_1) rfl (by decide) (by decide) ?_
    show Steps p.tables e below (s₁.setTop (mkF m 12 #[.val (.ref o0), .val (.ref o1), .unset] [])) _
    refine XS.aloadN X0.here hx rfl (hb hby d16_12) rfl rfl ?_
    show Steps p.tables e below (s₁.setTop (mkF m 13 #[.val (.ref o0), .val (.ref o1), .unset] [(.ref o0)])) _
    refine st1 _ ?_
    show Steps p.tables e below (T1.setTop (mkF m 16 #[.val (.ref o0), .val (.ref o1), .unset] [(.ref w2_els)])) _
    refine XS.astoreN X1.here hx rfl (hb hby d16_16) rfl rfl (l' := #[.val (.ref o0), .val (.ref o1), .val (.ref w2_els)]) rfl ?_
    show Steps p.tables e below (T1.setTop (mkF m 17 #[.val (.ref o0), .val (.ref o1), .val (.ref w2_els)] [])) _
    refine XS.aloadN X1.here hx rfl (hb hby d16_17) rfl rfl ?_
    show Steps p.tables e below (T1.setTop (mkF m 18 #[.val (.ref o0), .val (.ref o1), .val (.ref w2_els)] [(.ref w2_els)])) _
    refine XS.aloadN X1.here hx rfl (hb hby d16_18) rfl rfl ?_
    show Steps p.tables e below (T1.setTop (mkF m 19 #[.val (.ref o0), .val (.ref o1), .val (.ref w2_els)] [(.ref o0), (.ref w2_els)])) _
    refine st2 _ ?_
    show Steps p.tables e below (T2.setTop (mkF m 22 #[.val (.ref o0), .val (.ref o1), .val (.ref w2_els)] [(.int (0 : Int32)), (.ref w2_els)])) _
    refine XS.aloadN X2.here hx rfl (hb hby d16_22) rfl rfl ?_
    show Steps p.tables e below (T2.setTop (mkF m 23 #[.val (.ref o0), .val (.ref o1), .val (.ref w2_els)] [(.ref o1), (.int (0 : Int32)), (.ref w2_els)])) _
    refine st5 _ ?_
    show Steps p.tables e below (T5.setTop (mkF m 24 #[.val (.ref o0), .val (.ref o1), .val (.ref w2_els)] [])) _
    refine XS.aloadN X5.here hx rfl (hb hby d16_24) rfl rfl ?_
    show Steps p.tables e below (T5.setTop (mkF m 25 #[.val (.ref o0), .val (.ref o1), .val (.ref w2_els)] [(.ref o0)])) _
    refine st9 _ ?_
    show Steps p.tables e below (T9.setTop (mkF m 28 #[.val (.ref o0), .val (.ref o1), .val (.ref w2_els)] [(.int (16 : Int32))])) _
    refine XS.aloadN X9.here hx rfl (hb hby d16_28) rfl rfl ?_
    show Steps p.tables e below (T9.setTop (mkF m 29 #[.val (.ref o0), .val (.ref o1), .val (.ref w2_els)] [(.ref o0), (.int (16 : Int32))])) _
    refine XS.aloadN X9.here hx rfl (hb hby d16_29) rfl rfl ?_
    show Steps p.tables e below (T9.setTop (mkF m 30 #[.val (.ref o0), .val (.ref o1), .val (.ref w2_els)] [(.ref o0), (.ref o0), (.int (16 : Int32))])) _
    refine st11 _ ?_
    show Steps p.tables e below (T11.setTop (mkF m 33 #[.val (.ref o0), .val (.ref o1), .val (.ref w2_els)] [(.int (0 : Int32)), (.ref o0), (.int (16 : Int32))])) _
    refine XS.aloadN X11.here hx rfl (hb hby d16_33) rfl rfl ?_
    show Steps p.tables e below (T11.setTop (mkF m 34 #[.val (.ref o0), .val (.ref o1), .val (.ref w2_els)] [(.ref w2_els), (.int (0 : Int32)), (.ref o0), (.int (16 : Int32))])) _
    refine X11.arraylength hx (by rw [e11]; exact Ar12.1) (State.isArrayOf_alike hZ.alike Ar12.2.1) (g := (mkF m 34 #[.val (.ref o0), .val (.ref o1), .val (.ref w2_els)] [(.ref w2_els), (.int (0 : Int32)), (.ref o0), (.int (16 : Int32))])) rfl rfl (hb hby d16_34) _ ?_
    rw [len_of S12 M12]
    show Steps p.tables e below (T11.setTop (mkF m 35 #[.val (.ref o0), .val (.ref o1), .val (.ref w2_els)] [(.int (17 : Int32)), (.int (0 : Int32)), (.ref o0), (.int (16 : Int32))])) _
    refine st13 _ ?_
    show Steps p.tables e below (T13.setTop (mkF m 38 #[.val (.ref o0), .val (.ref o1), .val (.ref w2_els)] [(.int (1 : Int32)), (.ref o0), (.int (16 : Int32))])) _
    refine XT.dupX1 X13.here hx rfl (hb hby d16_38) rfl rfl rfl ?_
    show Steps p.tables e below (T13.setTop (mkF m 39 #[.val (.ref o0), .val (.ref o1), .val (.ref w2_els)] [(.int (1 : Int32)), (.ref o0), (.int (1 : Int32)), (.int (16 : Int32))])) _
    refine st15 _ ?_
    show Steps p.tables e below (T15.setTop (mkF m 42 #[.val (.ref o0), .val (.ref o1), .val (.ref w2_els)] [(.int (1 : Int32)), (.int (16 : Int32))])) _
    refine XS.icmpYes X15.here hx rfl (pc0 := 42) (pc' := 50) rfl (hb hby d16_42) rfl (XT.ii_ne_t (by decide)) (by decide) (by decide) ?_
    show Steps p.tables e below (T15.setTop (mkF m 50 #[.val (.ref o0), .val (.ref o1), .val (.ref w2_els)] [])) _
    exact X15.returnOut hx Bd.returns (hb hby d16_50) hr
  · skip
    show Qal16_0 Z o0 o1 w2_els u20_e u21_e u22_e u23_e u24_e u25_e u26_e u27_e u28_e u29_e u30_e u31_e u32_e u33_e u34_e u35_e u36_e kA h0 n0 _ T15.heap _
    rw [e15]
    have k18 := (V5.other W15 (Ne.symm ne_o0_w2_els))
    have k19 := (k14.wr W15)
    have k20 := ((F_elements_o0.other W5 (Or.inl ne_o0_w2_els)).other W15 (Or.inr (slot_ne (Or.inl (hw _ (List.mem_of_getElem? (i := 25) rfl))) (Or.inl (hw _ (List.mem_of_getElem? (i := 87) rfl))) (by decide) (t := (.array (.object "java/lang/Object"))) (t' := .int) (by decide) (by decide))))
    have k21 := (k8.other W15 (Or.inr (slot_ne (Or.inl (hw _ (List.mem_of_getElem? (i := 65) rfl))) (Or.inl (hw _ (List.mem_of_getElem? (i := 87) rfl))) (by decide) (t := .int) (t' := .int) (by decide) (by decide))))
    exact ⟨N15, rfl, (((Keep.refl h0 [w2_els, o0]).wr W5 (Or.inl (List.mem_of_getElem? (i := 0) rfl))).wr W15 (Or.inl (List.mem_of_getElem? (i := 1) rfl))), k18, k19, k20, k21, Fw15⟩
theorem ef_af16_0 (m : MethodId) (o0 : Addr) (o1 : Addr) : entryFrame m #[(.ref o0), (.ref o1)] 3 = mkF m 0 #[.val (.ref o0), .val (.ref o1), .unset] [] := by first | (simp [entryFrame, mkF, argsToLocals, Value.category]; done) | rfl
def Qaf16_0 (Z : State) (o0 : Addr) (o1 : Addr) (w2_els : Addr) (u20_e : Value) (u21_e : Value) (u22_e : Value) (u23_e : Value) (u24_e : Value) (u25_e : Value) (u26_e : Value) (u27_e : Value) (u28_e : Value) (u29_e : Value) (u30_e : Value) (u31_e : Value) (u32_e : Value) (u33_e : Value) (u34_e : Value) (u35_e : Value) (u36_e : Value) (kA : ClassId) (h0 : Heap) (n0 : Nat) (v : Option Value) (h : Heap) (L : List Loc) : Prop := Fr n0 L ∧ v = none ∧ Keep h0 h [o0, w2_els] ∧ Exa Z h o0 "java/util/ArrayDeque" ∧ Fld Z h o0 "java/util/ArrayDeque" "elements" "[Ljava/lang/Object;" (.ref w2_els) ∧ Fld Z h o0 "java/util/ArrayDeque" "head" "I" (.int (15 : Int32)) ∧ Fld Z h o0 "java/util/ArrayDeque" "tail" "I" (.int (0 : Int32)) ∧ Arv Z h w2_els kA (.object "java/lang/Object") (17 : Int32) [u20_e, u21_e, u22_e, u23_e, u24_e, u25_e, u26_e, u27_e, u28_e, u29_e, u30_e, u31_e, u32_e, u33_e, u34_e, (.ref o1), u36_e] .null
set_option maxRecDepth 65536 in
set_option maxHeartbeats 40000000 in
theorem rmaf16_0 (l : Launch) (Z : State) (a0 : Array Value) (hw : ∀ d ∈ tables_1, d.before a0 Z = true) (ws : List Jvm.Cond) (o0 : Addr) (o1 : Addr) (w2_els : Addr) (u20_e : Value) (u21_e : Value) (u22_e : Value) (u23_e : Value) (u24_e : Value) (u25_e : Value) (u26_e : Value) (u27_e : Value) (u28_e : Value) (u29_e : Value) (u30_e : Value) (u31_e : Value) (u32_e : Value) (u33_e : Value) (u34_e : Value) (u35_e : Value) (u36_e : Value) (kA : ClassId) (h0 : Heap) (n0 : Nat) (Z0 : n0 ≤ h0.size) (E_o0 : Exa Z h0 o0 "java/util/ArrayDeque") (F_elements_o0 : Fld Z h0 o0 "java/util/ArrayDeque" "elements" "[Ljava/lang/Object;" (.ref w2_els)) (F_head_o0 : Fld Z h0 o0 "java/util/ArrayDeque" "head" "I" (.int (16 : Int32))) (F_tail_o0 : Fld Z h0 o0 "java/util/ArrayDeque" "tail" "I" (.int (0 : Int32))) (V_w2_els : Arv Z h0 w2_els kA (.object "java/lang/Object") (17 : Int32) [u20_e, u21_e, u22_e, u23_e, u24_e, u25_e, u26_e, u27_e, u28_e, u29_e, u30_e, u31_e, u32_e, u33_e, u34_e, u35_e, u36_e] .null) (ovr : Ovr Z kA "java/lang/Object") (E_o1 : Exa Z h0 o1 "com/example/dispatch_by_catalog/dispatchbycatalog/subscriptions/DroppedEvents") (g_o0 : n0 ≤ o0) (ne_w2_els_o0 : w2_els ≠ o0) (g_w2_els : n0 ≤ w2_els) :
    MetFree l (⟨"java/util/ArrayDeque", "addFirst", "(Ljava/lang/Object;)V"⟩ : MethodName) (head1 (Jvm.Cond.code (⟨"java/util/ArrayDeque", "addFirst", "(Ljava/lang/Object;)V"⟩ : MethodName) jdk_21_method_12_code 3 none :: ws) ({ frames := 1, cells := 0, slots := 0, locals := 15 } : Room)) (fun a U => a = #[(.ref o0), (.ref o1)] ∧ Z.Warmed39 U.vm ∧ U.heap = h0) (fun _ _ _ _ _ => True) (fun _ U o U' => ∃ v L, o = .returned v ∧ Qaf16_0 Z o0 o1 w2_els u20_e u21_e u22_e u23_e u24_e u25_e u26_e u27_e u28_e u29_e u30_e u31_e u32_e u33_e u34_e u35_e u36_e kA h0 n0 v U'.heap L ∧ FrameEnd U o U' L ({ frames := 1, cells := 0, slots := 0, locals := 15 } : Room).cells ({ frames := 1, cells := 0, slots := 0, locals := 15 } : Room).slots) := by
  refine MetFree.of_bodySF (plainFor_of_name pn_java_util_ArrayDeque) hisR ?_
  intro p e s m args below meth c s₁ Bd hml0 hP hK
  obtain ⟨rfl, hZ, hh⟩ := hP
  have hx := Bd.exec
  have hby := Bd.bytes
  have hml : c.maxLocals = 3 := hml0
  have hown : s.vm.findClass "java/util/ArrayDeque" = some m.cls := findClass_of_methodNamed Bd.named
  have hnm := (name_of_methodNamed Bd.named Bd.method).1
  have hlk := BodyLoose.notSynchronized Bd
  have X0 : Stand p l e ({ frames := 1, cells := 0, slots := 0, locals := 15 } : Room) s m #[(.ref o0), (.ref o1)] below meth c s₁ [] 0 0 := Stand.of_body Bd
  have e0 : s₁.heap = h0 := by rw [← hh, Bd.state]; rfl
  have N0 := Fr.nil n0
  have pre0 : ∀ t, Steps p.tables e below (s₁.setTop (mkF m 0 #[.val (.ref o0), .val (.ref o1), .unset] [])) t → Steps p.tables e below (s₁.setTop (entryFrame m #[(.ref o0), (.ref o1)] 3)) t := fun t k => castTop (ef_af16_0 m o0 o1) k
  obtain ⟨T1, X1, e1, st1⟩ := getF X0 hx hZ hown (host := "") (Or.inl (hw _ (List.mem_of_getElem? (i := 24) rfl))) Via.refl e0 F_elements_o0 (g := (mkF m 13 #[.val (.ref o0), .val (.ref o1), .unset] [(.ref o0)])) rfl rfl (hb hby d12_13)
  obtain ⟨T2, X2, e2, st2⟩ := getF X1 hx hZ hown (host := "") (Or.inl (hw _ (List.mem_of_getElem? (i := 64) rfl))) Via.refl e1 F_head_o0 (g := (mkF m 20 #[.val (.ref o0), .val (.ref o1), .val (.ref w2_els)] [(.ref o0), (.ref o0), (.ref w2_els)])) rfl rfl (hb hby d12_20)
  obtain ⟨cl3, Ar3, qc3, S3, M3, Ha3, G3⟩ := id V_w2_els
  obtain ⟨vr4, _, ⟨T4, L4, k4, n4⟩, -, X4, ⟨Lc4, hQ4, l4, y4, z4⟩, st4⟩ := Jvm.LawKit.callS X2 hx (y := (⟨"java/util/ArrayDeque", "dec", "(II)I"⟩ : MethodName)) hown (mvT hZ (hw _ (List.mem_of_getElem? (i := 82) rfl))) (mvT hZ (hw _ (List.mem_of_getElem? (i := 83) rfl))) (mvT hZ (hw _ (List.mem_of_getElem? (i := 11) rfl))) (mvT hZ (hw _ (List.mem_of_getElem? (i := 84) rfl))) (by decide) (backOf (W := 2) (rm13 l Z a0 hw [] (16 : Int32) (17 : Int32) h0 n0 Z0) hZ (hw _ (List.mem_of_getElem? (i := 84) rfl)) (hw _ (List.mem_of_getElem? (i := 11) rfl)) (by decide) (by decide)) (g := (mkF m 25 #[.val (.ref o0), .val (.ref o1), .val (.ref w2_els)] [(.int (17 : Int32)), (.int (16 : Int32)), (.ref o0), (.ref w2_els)])) rfl (by rw [hml]; rfl) (argsL := [(.int (16 : Int32)), (.int (17 : Int32))]) (rest := [(.ref o0), (.ref w2_els)]) (lenOf pd__II_I rfl) rfl (by show 2 * 0 + _ ≤ _; exact Nat.le_of_eq rfl) (hb hby d12_25) (fun _ _ => ⟨rfl, e2, (by decide : 0 + 0 ≤ _), (by decide : 0 + 0 ≤ _)⟩)
  dsimp only [Pt.U, Pt.locs, Pt.cells, Pt.slots] at X4 l4 y4 z4 st4 hQ4
  subst l4 y4 z4
  have N4q := (show _ ∧ _ ∧ _ from hQ4).1
  have hv4 := (show _ ∧ _ ∧ _ from hQ4).2.1
  have e4 := (show _ ∧ _ ∧ _ from hQ4).2.2
  clear hQ4
  subst hv4
  have N4 := Fr.app N0 N4q
  obtain ⟨T5, h5, X5, e5, W5, st5⟩ := putF X4 hx hZ hown (host := "") (Or.inl (hw _ (List.mem_of_getElem? (i := 64) rfl))) Via.refl e4 F_head_o0 E_o0 (Or.inl (hw _ (List.mem_of_getElem? (i := 65) rfl))) (hw _ (List.mem_of_getElem? (i := 10) rfl)) (ty := .int) (by decide) rfl rfl (g := (mkF m 29 #[.val (.ref o0), .val (.ref o1), .val (.ref w2_els)] [(.int (15 : Int32)), (.ref o0), (.int (15 : Int32)), (.ref w2_els)])) rfl rfl (hb hby d12_29)
  have Fw5 := F_head_o0.same W5
  have N5 := Fr.snoc X5 N4 g_o0
  have z6 : n0 ≤ h5.size := Nat.le_trans Z0 (Keep.of_wr W5).1
  have hs7 : h0.size ≤ h5.size := Nat.le_trans (Nat.le_refl h0.size) (Keep.of_wr W5).1
  have k8 := (V_w2_els.other W5 ne_w2_els_o0)
  obtain ⟨cl9, Ar9, qc9, S9, M9, Ha9, G9⟩ := id k8
  have hin10 : ¬ ((15 : Int32) < 0 ∨ cl9.slots.size ≤ ((15 : Int32)).toNatClampNeg) := inb_of S9 ⟨by decide, by decide⟩
  have k11 := (E_o1.wr W5)
  obtain ⟨T12, h12, X12, e12, W12, st12⟩ := stR X5 hx hZ e5 Ar9 (j := (15 : Int32)) hin10 rfl (Sto.ofV Ar9 qc9 ovr (Ins.of_exa k11 (hw _ (List.mem_of_getElem? (i := 85) rfl)))) (g := (mkF m 33 #[.val (.ref o0), .val (.ref o1), .val (.ref w2_els)] [(.ref o1), (.int (15 : Int32)), (.ref w2_els)])) rfl rfl (hb hby d12_33)
  have V12 : Arv Z h12 w2_els kA (.object "java/lang/Object") (17 : Int32) [u20_e, u21_e, u22_e, u23_e, u24_e, u25_e, u26_e, u27_e, u28_e, u29_e, u30_e, u31_e, u32_e, u33_e, u34_e, (.ref o1), u36_e] .null := Arv.set Ar9 qc9 S9 M9 Ha9 G9 rfl W12 15 rfl (Nat.le_of_ble_eq_true rfl)
  have N12 := Fr.snoc X12 N5 g_w2_els
  have z13 : n0 ≤ h12.size := Nat.le_trans z6 (Keep.of_wr W12).1
  have hs14 : h0.size ≤ h12.size := Nat.le_trans hs7 (Keep.of_wr W12).1
  have k15 := (Fw5.other W12 (Or.inl (Ne.symm ne_w2_els_o0)))
  obtain ⟨T16, X16, e16, st16⟩ := getF X12 hx hZ hown (host := "") (Or.inl (hw _ (List.mem_of_getElem? (i := 64) rfl))) Via.refl e12 k15 (g := (mkF m 35 #[.val (.ref o0), .val (.ref o1), .val (.ref w2_els)] [(.ref o0)])) rfl rfl (hb hby d12_35)
  have k17 := ((F_tail_o0.other W5 (Or.inr (slot_ne (Or.inl (hw _ (List.mem_of_getElem? (i := 87) rfl))) (Or.inl (hw _ (List.mem_of_getElem? (i := 65) rfl))) (by decide) (t := .int) (t' := .int) (by decide) (by decide)))).other W12 (Or.inl (Ne.symm ne_w2_els_o0)))
  obtain ⟨T18, X18, e18, st18⟩ := getF X16 hx hZ hown (host := "") (Or.inl (hw _ (List.mem_of_getElem? (i := 86) rfl))) Via.refl e16 k17 (g := (mkF m 39 #[.val (.ref o0), .val (.ref o1), .val (.ref w2_els)] [(.ref o0), (.int (15 : Int32))])) rfl rfl (hb hby d12_39)
  obtain ⟨fs, hr, hrun, hended, hW, hsame⟩ := X18.leave (v := none) (fun _ => rfl) hlk
  refine ⟨_, _, pre0 _ ?_, hrun, hended, _, _, rfl, ?_, ⟨_, rfl⟩, hW, hsame.mono (by decide) (by decide)⟩
  · skip
    show Steps p.tables e below (s₁.setTop (mkF m 0 #[.val (.ref o0), .val (.ref o1), .unset] [])) _
    refine XS.aloadN X0.here hx rfl (hb hby d12_0) rfl rfl ?_
    show Steps p.tables e below (s₁.setTop (mkF m 1 #[.val (.ref o0), .val (.ref o1), .unset] [(.ref o1)])) _
    refine XT.ifnonnullYes X0.here hx rfl (pc0 := 1) (pc' := 12) rfl (hb hby d12_1) rfl (by decide) (by decide) ?_
    show Steps p.tables e below (s₁.setTop (mkF m 12 #[.val (.ref o0), .val (.ref o1), .unset] [])) _
    refine XS.aloadN X0.here hx rfl (hb hby d12_12) rfl rfl ?_
    show Steps p.tables e below (s₁.setTop (mkF m 13 #[.val (.ref o0), .val (.ref o1), .unset] [(.ref o0)])) _
    refine st1 _ ?_
    show Steps p.tables e below (T1.setTop (mkF m 16 #[.val (.ref o0), .val (.ref o1), .unset] [(.ref w2_els)])) _
    refine XS.astoreN X1.here hx rfl (hb hby d12_16) rfl rfl (l' := #[.val (.ref o0), .val (.ref o1), .val (.ref w2_els)]) rfl ?_
    show Steps p.tables e below (T1.setTop (mkF m 17 #[.val (.ref o0), .val (.ref o1), .val (.ref w2_els)] [])) _
    refine XS.aloadN X1.here hx rfl (hb hby d12_17) rfl rfl ?_
    show Steps p.tables e below (T1.setTop (mkF m 18 #[.val (.ref o0), .val (.ref o1), .val (.ref w2_els)] [(.ref w2_els)])) _
    refine XS.aloadN X1.here hx rfl (hb hby d12_18) rfl rfl ?_
    show Steps p.tables e below (T1.setTop (mkF m 19 #[.val (.ref o0), .val (.ref o1), .val (.ref w2_els)] [(.ref o0), (.ref w2_els)])) _
    refine XS.aloadN X1.here hx rfl (hb hby d12_19) rfl rfl ?_
    show Steps p.tables e below (T1.setTop (mkF m 20 #[.val (.ref o0), .val (.ref o1), .val (.ref w2_els)] [(.ref o0), (.ref o0), (.ref w2_els)])) _
    refine st2 _ ?_
    show Steps p.tables e below (T2.setTop (mkF m 23 #[.val (.ref o0), .val (.ref o1), .val (.ref w2_els)] [(.int (16 : Int32)), (.ref o0), (.ref w2_els)])) _
    refine XS.aloadN X2.here hx rfl (hb hby d12_23) rfl rfl ?_
    show Steps p.tables e below (T2.setTop (mkF m 24 #[.val (.ref o0), .val (.ref o1), .val (.ref w2_els)] [(.ref w2_els), (.int (16 : Int32)), (.ref o0), (.ref w2_els)])) _
    refine X2.arraylength hx (by rw [e2]; exact Ar3.1) (State.isArrayOf_alike hZ.alike Ar3.2.1) (g := (mkF m 24 #[.val (.ref o0), .val (.ref o1), .val (.ref w2_els)] [(.ref w2_els), (.int (16 : Int32)), (.ref o0), (.ref w2_els)])) rfl rfl (hb hby d12_24) _ ?_
    rw [len_of S3 M3]
    show Steps p.tables e below (T2.setTop (mkF m 25 #[.val (.ref o0), .val (.ref o1), .val (.ref w2_els)] [(.int (17 : Int32)), (.int (16 : Int32)), (.ref o0), (.ref w2_els)])) _
    refine st4 _ ?_
    show Steps p.tables e below (T4.setTop (mkF m 28 #[.val (.ref o0), .val (.ref o1), .val (.ref w2_els)] [(.int (15 : Int32)), (.ref o0), (.ref w2_els)])) _
    refine XT.dupX1 X4.here hx rfl (hb hby d12_28) rfl rfl rfl ?_
    show Steps p.tables e below (T4.setTop (mkF m 29 #[.val (.ref o0), .val (.ref o1), .val (.ref w2_els)] [(.int (15 : Int32)), (.ref o0), (.int (15 : Int32)), (.ref w2_els)])) _
    refine st5 _ ?_
    show Steps p.tables e below (T5.setTop (mkF m 32 #[.val (.ref o0), .val (.ref o1), .val (.ref w2_els)] [(.int (15 : Int32)), (.ref w2_els)])) _
    refine XS.aloadN X5.here hx rfl (hb hby d12_32) rfl rfl ?_
    show Steps p.tables e below (T5.setTop (mkF m 33 #[.val (.ref o0), .val (.ref o1), .val (.ref w2_els)] [(.ref o1), (.int (15 : Int32)), (.ref w2_els)])) _
    refine st12 _ ?_
    show Steps p.tables e below (T12.setTop (mkF m 34 #[.val (.ref o0), .val (.ref o1), .val (.ref w2_els)] [])) _
    refine XS.aloadN X12.here hx rfl (hb hby d12_34) rfl rfl ?_
    show Steps p.tables e below (T12.setTop (mkF m 35 #[.val (.ref o0), .val (.ref o1), .val (.ref w2_els)] [(.ref o0)])) _
    refine st16 _ ?_
    show Steps p.tables e below (T16.setTop (mkF m 38 #[.val (.ref o0), .val (.ref o1), .val (.ref w2_els)] [(.int (15 : Int32))])) _
    refine XS.aloadN X16.here hx rfl (hb hby d12_38) rfl rfl ?_
    show Steps p.tables e below (T16.setTop (mkF m 39 #[.val (.ref o0), .val (.ref o1), .val (.ref w2_els)] [(.ref o0), (.int (15 : Int32))])) _
    refine st18 _ ?_
    show Steps p.tables e below (T18.setTop (mkF m 42 #[.val (.ref o0), .val (.ref o1), .val (.ref w2_els)] [(.int (0 : Int32)), (.int (15 : Int32))])) _
    refine XS.icmpYes X18.here hx rfl (pc0 := 42) (pc' := 50) rfl (hb hby d12_42) rfl (XT.ii_ne_t (by decide)) (by decide) (by decide) ?_
    show Steps p.tables e below (T18.setTop (mkF m 50 #[.val (.ref o0), .val (.ref o1), .val (.ref w2_els)] [])) _
    exact X18.returnOut hx Bd.returns (hb hby d12_50) hr
  · skip
    show Qaf16_0 Z o0 o1 w2_els u20_e u21_e u22_e u23_e u24_e u25_e u26_e u27_e u28_e u29_e u30_e u31_e u32_e u33_e u34_e u35_e u36_e kA h0 n0 _ T18.heap _
    rw [e18]
    have k19 := ((E_o0.wr W5).wr W12)
    have k20 := ((F_elements_o0.other W5 (Or.inr (slot_ne (Or.inl (hw _ (List.mem_of_getElem? (i := 25) rfl))) (Or.inl (hw _ (List.mem_of_getElem? (i := 65) rfl))) (by decide) (t := (.array (.object "java/lang/Object"))) (t' := .int) (by decide) (by decide)))).other W12 (Or.inl (Ne.symm ne_w2_els_o0)))
    exact ⟨N12, rfl, (((Keep.refl h0 [o0, w2_els]).wr W5 (Or.inl (List.mem_of_getElem? (i := 0) rfl))).wr W12 (Or.inl (List.mem_of_getElem? (i := 1) rfl))), k19, k20, k15, k17, V12⟩
theorem ef_qa16_0 (m : MethodId) (o0 : Addr) (o1 : Addr) : entryFrame m #[(.ref o0), (.ref o1)] 2 = mkF m 0 #[.val (.ref o0), .val (.ref o1)] [] := by first | (simp [entryFrame, mkF, argsToLocals, Value.category]; done) | rfl
def Qqa16_0 (Z : State) (o0 : Addr) (o1 : Addr) (w1_dq : Addr) (w0_sz : Int64) (w2_els : Addr) (u20_e : Value) (u21_e : Value) (u22_e : Value) (u23_e : Value) (u24_e : Value) (u25_e : Value) (u26_e : Value) (u27_e : Value) (u28_e : Value) (u29_e : Value) (u30_e : Value) (u31_e : Value) (u32_e : Value) (u33_e : Value) (u34_e : Value) (u35_e : Value) (u36_e : Value) (kA : ClassId) (h0 : Heap) (n0 : Nat) (v : Option Value) (h : Heap) (L : List Loc) : Prop := Fr n0 L ∧ v = none ∧ Keep h0 h [w2_els, w1_dq, o0] ∧ Arv Z h w2_els kA (.object "java/lang/Object") (17 : Int32) [(.ref o1), u21_e, u22_e, u23_e, u24_e, u25_e, u26_e, u27_e, u28_e, u29_e, u30_e, u31_e, u32_e, u33_e, u34_e, u35_e, u36_e] .null ∧ Exa Z h w1_dq "java/util/ArrayDeque" ∧ Fld Z h w1_dq "java/util/ArrayDeque" "elements" "[Ljava/lang/Object;" (.ref w2_els) ∧ Fld Z h w1_dq "java/util/ArrayDeque" "head" "I" (.int (16 : Int32)) ∧ Fld Z h w1_dq "java/util/ArrayDeque" "tail" "I" (.int (1 : Int32)) ∧ Exa Z h o0 "com/example/dispatch_by_catalog/dispatchbycatalog/subscriptions/EventQueue" ∧ Fld Z h o0 "com/example/dispatch_by_catalog/dispatchbycatalog/subscriptions/EventQueue" "events" "Ljava/util/Deque;" (.ref w1_dq) ∧ Fld Z h o0 "com/example/dispatch_by_catalog/dispatchbycatalog/subscriptions/EventQueue" "bytes" "J" (.long (w0_sz + f14))
set_option maxRecDepth 65536 in
set_option maxHeartbeats 40000000 in
theorem rmqa16_0 (l : Launch) (Z : State) (a0 : Array Value) (hw : ∀ d ∈ tables_1, d.before a0 Z = true) (ws : List Jvm.Cond) (o0 : Addr) (o1 : Addr) (w1_dq : Addr) (w0_sz : Int64) (w2_els : Addr) (u20_e : Value) (u21_e : Value) (u22_e : Value) (u23_e : Value) (u24_e : Value) (u25_e : Value) (u26_e : Value) (u27_e : Value) (u28_e : Value) (u29_e : Value) (u30_e : Value) (u31_e : Value) (u32_e : Value) (u33_e : Value) (u34_e : Value) (u35_e : Value) (u36_e : Value) (kA : ClassId) (h0 : Heap) (n0 : Nat) (Z0 : n0 ≤ h0.size) (E_o0 : Exa Z h0 o0 "com/example/dispatch_by_catalog/dispatchbycatalog/subscriptions/EventQueue") (F_events_o0 : Fld Z h0 o0 "com/example/dispatch_by_catalog/dispatchbycatalog/subscriptions/EventQueue" "events" "Ljava/util/Deque;" (.ref w1_dq)) (F_bytes_o0 : Fld Z h0 o0 "com/example/dispatch_by_catalog/dispatchbycatalog/subscriptions/EventQueue" "bytes" "J" (.long w0_sz)) (E_w1_dq : Exa Z h0 w1_dq "java/util/ArrayDeque") (F_elements_w1_dq : Fld Z h0 w1_dq "java/util/ArrayDeque" "elements" "[Ljava/lang/Object;" (.ref w2_els)) (F_head_w1_dq : Fld Z h0 w1_dq "java/util/ArrayDeque" "head" "I" (.int (16 : Int32))) (F_tail_w1_dq : Fld Z h0 w1_dq "java/util/ArrayDeque" "tail" "I" (.int (0 : Int32))) (V_w2_els : Arv Z h0 w2_els kA (.object "java/lang/Object") (17 : Int32) [u20_e, u21_e, u22_e, u23_e, u24_e, u25_e, u26_e, u27_e, u28_e, u29_e, u30_e, u31_e, u32_e, u33_e, u34_e, u35_e, u36_e] .null) (ovr : Ovr Z kA "java/lang/Object") (E_o1 : Exa Z h0 o1 "com/example/dispatch_by_catalog/dispatchbycatalog/subscriptions/DroppedEvents") (g_w2_els : n0 ≤ w2_els) (ne_w1_dq_w2_els : w1_dq ≠ w2_els) (g_w1_dq : n0 ≤ w1_dq) (ne_o0_w1_dq : o0 ≠ w1_dq) (ne_o0_w2_els : o0 ≠ w2_els) (g_o0 : n0 ≤ o0) :
    MetFree l (⟨"com/example/dispatch_by_catalog/dispatchbycatalog/subscriptions/EventQueue", "add", "(Lcom/example/dispatch_by_catalog/dispatchbycatalog/subscriptions/Event;)V"⟩ : MethodName) (head1 (Jvm.Cond.code (⟨"com/example/dispatch_by_catalog/dispatchbycatalog/subscriptions/EventQueue", "add", "(Lcom/example/dispatch_by_catalog/dispatchbycatalog/subscriptions/Event;)V"⟩ : MethodName) prog_41_method_7_code 2 none :: ws) ({ frames := 2, cells := 0, slots := 0, locals := 29 } : Room)) (fun a U => a = #[(.ref o0), (.ref o1)] ∧ Z.Warmed39 U.vm ∧ U.heap = h0) (fun _ _ _ _ _ => True) (fun _ U o U' => ∃ v L, o = .returned v ∧ Qqa16_0 Z o0 o1 w1_dq w0_sz w2_els u20_e u21_e u22_e u23_e u24_e u25_e u26_e u27_e u28_e u29_e u30_e u31_e u32_e u33_e u34_e u35_e u36_e kA h0 n0 v U'.heap L ∧ FrameEnd U o U' L ({ frames := 2, cells := 0, slots := 0, locals := 29 } : Room).cells ({ frames := 2, cells := 0, slots := 0, locals := 29 } : Room).slots) := by
  refine MetFree.of_bodySF (plainFor_of_name pn_com_example_dispatch_by_catalog_dispatchbycatalog_subscriptions_EventQueue) hisR ?_
  intro p e s m args below meth c s₁ Bd hml0 hP hK
  obtain ⟨rfl, hZ, hh⟩ := hP
  have hx := Bd.exec
  have hby := Bd.bytes
  have hml : c.maxLocals = 2 := hml0
  have hown : s.vm.findClass "com/example/dispatch_by_catalog/dispatchbycatalog/subscriptions/EventQueue" = some m.cls := findClass_of_methodNamed Bd.named
  have hnm := (name_of_methodNamed Bd.named Bd.method).1
  have hlk := BodyLoose.notSynchronized Bd
  have X0 : Stand p l e ({ frames := 2, cells := 0, slots := 0, locals := 29 } : Room) s m #[(.ref o0), (.ref o1)] below meth c s₁ [] 0 0 := Stand.of_body Bd
  have e0 : s₁.heap = h0 := by rw [← hh, Bd.state]; rfl
  have N0 := Fr.nil n0
  have pre0 : ∀ t, Steps p.tables e below (s₁.setTop (mkF m 0 #[.val (.ref o0), .val (.ref o1)] [])) t → Steps p.tables e below (s₁.setTop (entryFrame m #[(.ref o0), (.ref o1)] 2)) t := fun t k => castTop (ef_qa16_0 m o0 o1) k
  obtain ⟨T1, X1, e1, st1⟩ := getF X0 hx hZ hown (host := "") (Or.inl (hw _ (List.mem_of_getElem? (i := 26) rfl))) Via.refl e0 F_events_o0 (g := (mkF m 1 #[.val (.ref o0), .val (.ref o1)] [(.ref o0)])) rfl rfl (hb hby d15_1)
  obtain ⟨cq2, kq2, q2a, q2b, q2c⟩ := isOf hZ e1 E_w1_dq
  obtain ⟨vr2, _, ⟨T2, L2, k2, n2⟩, -, X2, ⟨Lc2, hQ2, l2, y2, z2⟩, st2⟩ := X1.interfaceBack hx (xi := (⟨"java/util/Deque", "addLast", "(Ljava/lang/Object;)V"⟩ : MethodName)) (y := (⟨"java/util/ArrayDeque", "addLast", "(Ljava/lang/Object;)V"⟩ : MethodName)) hown (mvT hZ (hw _ (List.mem_of_getElem? (i := 105) rfl))) (mvT hZ (hw _ (List.mem_of_getElem? (i := 106) rfl))) (mvT hZ (hw _ (List.mem_of_getElem? (i := 107) rfl))) (mvT hZ (hw _ (List.mem_of_getElem? (i := 108) rfl))) (mvT hZ (hw _ (List.mem_of_getElem? (i := 109) rfl))) (mvT hZ (hw _ (List.mem_of_getElem? (i := 110) rfl))) (mvT hZ (hw _ (List.mem_of_getElem? (i := 111) rfl))) (mvT hZ (hw _ (List.mem_of_getElem? (i := 57) rfl))) (by decide) (backOf (W := 0) (rmal16_0 l Z a0 hw [] w1_dq o1 w2_els u20_e u21_e u22_e u23_e u24_e u25_e u26_e u27_e u28_e u29_e u30_e u31_e u32_e u33_e u34_e u35_e u36_e kA h0 n0 Z0 E_w1_dq F_elements_w1_dq F_head_w1_dq F_tail_w1_dq V_w2_els ovr E_o1 g_w2_els ne_w1_dq_w2_els g_w1_dq) hZ (hw _ (List.mem_of_getElem? (i := 112) rfl)) (hw _ (List.mem_of_getElem? (i := 11) rfl)) (by decide) (by decide)) q2a q2b q2c (g := (mkF m 5 #[.val (.ref o0), .val (.ref o1)] [(.ref o1), (.ref w1_dq)])) rfl (by rw [hml]; rfl) (Steps.refl _) (argsL := [(.ref o1)]) (rest := []) (lenOf pd__Ljava_lang_Object__V rfl) rfl (by show 2 * 0 + _ ≤ _; exact Nat.le_of_eq rfl) (hb hby d15_5) (fun _ _ => ⟨rfl, e1, (by decide : 0 + 0 ≤ _), (by decide : 0 + 0 ≤ _)⟩)
  dsimp only [Pt.U, Pt.locs, Pt.cells, Pt.slots] at X2 l2 y2 z2 st2 hQ2
  subst l2 y2 z2
  have N2q := (show _ ∧ _ from hQ2).1
  have hq2 := (show _ ∧ _ from hQ2).2
  clear hQ2
  have hv2 := hq2.1
  have K2 := hq2.2.1
  have po2_0 := hq2.2.2.1
  have po2_1 := hq2.2.2.2.1
  have po2_2 := hq2.2.2.2.2.1
  have po2_3 := hq2.2.2.2.2.2.1
  have po2_4 := hq2.2.2.2.2.2.2
  clear hq2
  subst hv2
  have z3 : n0 ≤ T2.heap.size := Nat.le_trans Z0 K2.1
  have hs4 : h0.size ≤ T2.heap.size := Nat.le_trans (Nat.le_refl h0.size) K2.1
  have N2 := Fr.app N0 N2q
  have k5 := (F_bytes_o0.keep K2 (ninS ne_o0_w2_els (ninS ne_o0_w1_dq nin0)))
  obtain ⟨T6, X6, e6, st6⟩ := getF X2 hx hZ hown (host := "") (Or.inl (hw _ (List.mem_of_getElem? (i := 88) rfl))) Via.refl rfl k5 (g := (mkF m 12 #[.val (.ref o0), .val (.ref o1)] [(.ref o0), (.ref o0)])) rfl rfl (hb hby d15_12)
  have k8 := (E_o1.keep K2)
  obtain ⟨cq7, kq7, q7a, q7b, q7c⟩ := isOf hZ e6 k8
  obtain ⟨vr7, _, ⟨T7, L7, k7, n7⟩, -, X7, ⟨Lc7, hQ7, l7, y7, z7⟩, st7⟩ := X6.interfaceBack hx (xi := (⟨"com/example/dispatch_by_catalog/dispatchbycatalog/subscriptions/Event", "size", "()J"⟩ : MethodName)) (y := (⟨"com/example/dispatch_by_catalog/dispatchbycatalog/subscriptions/DroppedEvents", "size", "()J"⟩ : MethodName)) hown (mvT hZ (hw _ (List.mem_of_getElem? (i := 90) rfl))) (mvT hZ (hw _ (List.mem_of_getElem? (i := 91) rfl))) (mvT hZ (hw _ (List.mem_of_getElem? (i := 92) rfl))) (mvT hZ (hw _ (List.mem_of_getElem? (i := 93) rfl))) (mvT hZ (hw _ (List.mem_of_getElem? (i := 94) rfl))) (mvT hZ (hw _ (List.mem_of_getElem? (i := 95) rfl))) (mvT hZ (hw _ (List.mem_of_getElem? (i := 96) rfl))) (mvT hZ (hw _ (List.mem_of_getElem? (i := 97) rfl))) (by decide) (backOf (W := 3) (rm14 l Z a0 hw [] o1 T2.heap n0 z3) hZ (hw _ (List.mem_of_getElem? (i := 98) rfl)) (hw _ (List.mem_of_getElem? (i := 30) rfl)) (by decide) (by decide)) q7a q7b q7c (g := (mkF m 16 #[.val (.ref o0), .val (.ref o1)] [(.ref o1), (.long w0_sz), (.ref o0)])) rfl (by rw [hml]; rfl) (Steps.refl _) (argsL := []) (rest := [(.long w0_sz), (.ref o0)]) (lenOf pd___J rfl) rfl (by show 2 * 0 + _ ≤ _; exact Nat.le_of_eq rfl) (hb hby d15_16) (fun _ _ => ⟨rfl, e6, (by decide : 0 + 0 ≤ _), (by decide : 0 + 0 ≤ _)⟩)
  dsimp only [Pt.U, Pt.locs, Pt.cells, Pt.slots] at X7 l7 y7 z7 st7 hQ7
  subst l7 y7 z7
  have N7q := (show _ ∧ _ ∧ _ from hQ7).1
  have hv7 := (show _ ∧ _ ∧ _ from hQ7).2.1
  have e7 := (show _ ∧ _ ∧ _ from hQ7).2.2
  clear hQ7
  subst hv7
  have N7 := Fr.app N2 N7q
  have k9 := (E_o0.keep K2)
  obtain ⟨T10, h10, X10, e10, W10, st10⟩ := putF X7 hx hZ hown (host := "") (Or.inl (hw _ (List.mem_of_getElem? (i := 88) rfl))) Via.refl e7 k5 k9 (Or.inl (hw _ (List.mem_of_getElem? (i := 89) rfl))) (hw _ (List.mem_of_getElem? (i := 1) rfl)) (ty := .long) (by decide) rfl rfl (g := (mkF m 22 #[.val (.ref o0), .val (.ref o1)] [(.long (w0_sz + f14)), (.ref o0)])) rfl rfl (hb hby d15_22)
  have Fw10 := k5.same W10
  have N10 := Fr.snoc X10 N7 g_o0
  have z11 : n0 ≤ h10.size := Nat.le_trans z3 (Keep.of_wr W10).1
  have hs12 : h0.size ≤ h10.size := Nat.le_trans hs4 (Keep.of_wr W10).1
  obtain ⟨fs, hr, hrun, hended, hW, hsame⟩ := X10.leave (v := none) (fun _ => rfl) hlk
  refine ⟨_, _, pre0 _ ?_, hrun, hended, _, _, rfl, ?_, ⟨_, rfl⟩, hW, hsame.mono (by decide) (by decide)⟩
  · skip
    show Steps p.tables e below (s₁.setTop (mkF m 0 #[.val (.ref o0), .val (.ref o1)] [])) _
    refine XS.aloadN X0.here hx rfl (hb hby d15_0) rfl rfl ?_
    show Steps p.tables e below (s₁.setTop (mkF m 1 #[.val (.ref o0), .val (.ref o1)] [(.ref o0)])) _
    refine st1 _ ?_
    show Steps p.tables e below (T1.setTop (mkF m 4 #[.val (.ref o0), .val (.ref o1)] [(.ref w1_dq)])) _
    refine XS.aloadN X1.here hx rfl (hb hby d15_4) rfl rfl ?_
    show Steps p.tables e below (T1.setTop (mkF m 5 #[.val (.ref o0), .val (.ref o1)] [(.ref o1), (.ref w1_dq)])) _
    refine st2.trans ?_
    show Steps p.tables e below (T2.setTop (mkF m 10 #[.val (.ref o0), .val (.ref o1)] [])) _
    refine XS.aloadN X2.here hx rfl (hb hby d15_10) rfl rfl ?_
    show Steps p.tables e below (T2.setTop (mkF m 11 #[.val (.ref o0), .val (.ref o1)] [(.ref o0)])) _
    refine XS.dup X2.here hx rfl (hb hby d15_11) rfl rfl ?_
    show Steps p.tables e below (T2.setTop (mkF m 12 #[.val (.ref o0), .val (.ref o1)] [(.ref o0), (.ref o0)])) _
    refine st6 _ ?_
    show Steps p.tables e below (T6.setTop (mkF m 15 #[.val (.ref o0), .val (.ref o1)] [(.long w0_sz), (.ref o0)])) _
    refine XS.aloadN X6.here hx rfl (hb hby d15_15) rfl rfl ?_
    show Steps p.tables e below (T6.setTop (mkF m 16 #[.val (.ref o0), .val (.ref o1)] [(.ref o1), (.long w0_sz), (.ref o0)])) _
    refine st7.trans ?_
    show Steps p.tables e below (T7.setTop (mkF m 21 #[.val (.ref o0), .val (.ref o1)] [(.long f14), (.long w0_sz), (.ref o0)])) _
    refine XT.ladd X7.here hx rfl (hb hby d15_21) rfl ?_
    show Steps p.tables e below (T7.setTop (mkF m 22 #[.val (.ref o0), .val (.ref o1)] [(.long (w0_sz + f14)), (.ref o0)])) _
    refine st10 _ ?_
    show Steps p.tables e below (T10.setTop (mkF m 25 #[.val (.ref o0), .val (.ref o1)] [])) _
    exact X10.returnOut hx Bd.returns (hb hby d15_25) hr
  · skip
    show Qqa16_0 Z o0 o1 w1_dq w0_sz w2_els u20_e u21_e u22_e u23_e u24_e u25_e u26_e u27_e u28_e u29_e u30_e u31_e u32_e u33_e u34_e u35_e u36_e kA h0 n0 _ T10.heap _
    rw [e10]
    have k13 := (po2_0.other W10 (Ne.symm ne_o0_w2_els))
    have k14 := (po2_1.wr W10)
    have k15 := (po2_2.other W10 (Or.inl (Ne.symm ne_o0_w1_dq)))
    have k16 := (po2_3.other W10 (Or.inl (Ne.symm ne_o0_w1_dq)))
    have k17 := (po2_4.other W10 (Or.inl (Ne.symm ne_o0_w1_dq)))
    have k18 := (k9.wr W10)
    have k19 := ((F_events_o0.keep K2 (ninS ne_o0_w2_els (ninS ne_o0_w1_dq nin0))).other W10 (Or.inr (slot_ne (Or.inr (hw _ (List.mem_of_getElem? (i := 27) rfl))) (Or.inl (hw _ (List.mem_of_getElem? (i := 89) rfl))) (by decide) (t := (.object "java/util/Deque")) (t' := .long) (by decide) (by decide))))
    exact ⟨N10, rfl, (((Keep.refl h0 [w2_els, w1_dq, o0]).trans K2 (allS (Or.inl (List.mem_of_getElem? (i := 0) rfl)) (allS (Or.inl (List.mem_of_getElem? (i := 1) rfl)) all0))).wr W10 (Or.inl (List.mem_of_getElem? (i := 2) rfl))), k13, k14, k15, k16, k17, k18, k19, Fw10⟩
theorem ef_qf16_0 (m : MethodId) (o0 : Addr) (o1 : Addr) : entryFrame m #[(.ref o0), (.ref o1)] 2 = mkF m 0 #[.val (.ref o0), .val (.ref o1)] [] := by first | (simp [entryFrame, mkF, argsToLocals, Value.category]; done) | rfl
def Qqf16_0 (Z : State) (o0 : Addr) (o1 : Addr) (w1_dq : Addr) (w0_sz : Int64) (w2_els : Addr) (u20_e : Value) (u21_e : Value) (u22_e : Value) (u23_e : Value) (u24_e : Value) (u25_e : Value) (u26_e : Value) (u27_e : Value) (u28_e : Value) (u29_e : Value) (u30_e : Value) (u31_e : Value) (u32_e : Value) (u33_e : Value) (u34_e : Value) (u35_e : Value) (u36_e : Value) (kA : ClassId) (h0 : Heap) (n0 : Nat) (v : Option Value) (h : Heap) (L : List Loc) : Prop := Fr n0 L ∧ v = none ∧ Keep h0 h [w1_dq, w2_els, o0] ∧ Exa Z h w1_dq "java/util/ArrayDeque" ∧ Fld Z h w1_dq "java/util/ArrayDeque" "elements" "[Ljava/lang/Object;" (.ref w2_els) ∧ Fld Z h w1_dq "java/util/ArrayDeque" "head" "I" (.int (15 : Int32)) ∧ Fld Z h w1_dq "java/util/ArrayDeque" "tail" "I" (.int (0 : Int32)) ∧ Arv Z h w2_els kA (.object "java/lang/Object") (17 : Int32) [u20_e, u21_e, u22_e, u23_e, u24_e, u25_e, u26_e, u27_e, u28_e, u29_e, u30_e, u31_e, u32_e, u33_e, u34_e, (.ref o1), u36_e] .null ∧ Exa Z h o0 "com/example/dispatch_by_catalog/dispatchbycatalog/subscriptions/EventQueue" ∧ Fld Z h o0 "com/example/dispatch_by_catalog/dispatchbycatalog/subscriptions/EventQueue" "events" "Ljava/util/Deque;" (.ref w1_dq) ∧ Fld Z h o0 "com/example/dispatch_by_catalog/dispatchbycatalog/subscriptions/EventQueue" "bytes" "J" (.long (w0_sz + f14))
set_option maxRecDepth 65536 in
set_option maxHeartbeats 40000000 in
theorem rmqf16_0 (l : Launch) (Z : State) (a0 : Array Value) (hw : ∀ d ∈ tables_1, d.before a0 Z = true) (ws : List Jvm.Cond) (o0 : Addr) (o1 : Addr) (w1_dq : Addr) (w0_sz : Int64) (w2_els : Addr) (u20_e : Value) (u21_e : Value) (u22_e : Value) (u23_e : Value) (u24_e : Value) (u25_e : Value) (u26_e : Value) (u27_e : Value) (u28_e : Value) (u29_e : Value) (u30_e : Value) (u31_e : Value) (u32_e : Value) (u33_e : Value) (u34_e : Value) (u35_e : Value) (u36_e : Value) (kA : ClassId) (h0 : Heap) (n0 : Nat) (Z0 : n0 ≤ h0.size) (E_o0 : Exa Z h0 o0 "com/example/dispatch_by_catalog/dispatchbycatalog/subscriptions/EventQueue") (F_events_o0 : Fld Z h0 o0 "com/example/dispatch_by_catalog/dispatchbycatalog/subscriptions/EventQueue" "events" "Ljava/util/Deque;" (.ref w1_dq)) (F_bytes_o0 : Fld Z h0 o0 "com/example/dispatch_by_catalog/dispatchbycatalog/subscriptions/EventQueue" "bytes" "J" (.long w0_sz)) (E_w1_dq : Exa Z h0 w1_dq "java/util/ArrayDeque") (F_elements_w1_dq : Fld Z h0 w1_dq "java/util/ArrayDeque" "elements" "[Ljava/lang/Object;" (.ref w2_els)) (F_head_w1_dq : Fld Z h0 w1_dq "java/util/ArrayDeque" "head" "I" (.int (16 : Int32))) (F_tail_w1_dq : Fld Z h0 w1_dq "java/util/ArrayDeque" "tail" "I" (.int (0 : Int32))) (V_w2_els : Arv Z h0 w2_els kA (.object "java/lang/Object") (17 : Int32) [u20_e, u21_e, u22_e, u23_e, u24_e, u25_e, u26_e, u27_e, u28_e, u29_e, u30_e, u31_e, u32_e, u33_e, u34_e, u35_e, u36_e] .null) (ovr : Ovr Z kA "java/lang/Object") (E_o1 : Exa Z h0 o1 "com/example/dispatch_by_catalog/dispatchbycatalog/subscriptions/DroppedEvents") (g_w1_dq : n0 ≤ w1_dq) (ne_w2_els_w1_dq : w2_els ≠ w1_dq) (g_w2_els : n0 ≤ w2_els) (ne_o0_w2_els : o0 ≠ w2_els) (ne_o0_w1_dq : o0 ≠ w1_dq) (g_o0 : n0 ≤ o0) :
    MetFree l (⟨"com/example/dispatch_by_catalog/dispatchbycatalog/subscriptions/EventQueue", "addFirst", "(Lcom/example/dispatch_by_catalog/dispatchbycatalog/subscriptions/Event;)V"⟩ : MethodName) (head1 (Jvm.Cond.code (⟨"com/example/dispatch_by_catalog/dispatchbycatalog/subscriptions/EventQueue", "addFirst", "(Lcom/example/dispatch_by_catalog/dispatchbycatalog/subscriptions/Event;)V"⟩ : MethodName) prog_41_method_8_code 2 none :: ws) ({ frames := 2, cells := 0, slots := 0, locals := 29 } : Room)) (fun a U => a = #[(.ref o0), (.ref o1)] ∧ Z.Warmed39 U.vm ∧ U.heap = h0) (fun _ _ _ _ _ => True) (fun _ U o U' => ∃ v L, o = .returned v ∧ Qqf16_0 Z o0 o1 w1_dq w0_sz w2_els u20_e u21_e u22_e u23_e u24_e u25_e u26_e u27_e u28_e u29_e u30_e u31_e u32_e u33_e u34_e u35_e u36_e kA h0 n0 v U'.heap L ∧ FrameEnd U o U' L ({ frames := 2, cells := 0, slots := 0, locals := 29 } : Room).cells ({ frames := 2, cells := 0, slots := 0, locals := 29 } : Room).slots) := by
  refine MetFree.of_bodySF (plainFor_of_name pn_com_example_dispatch_by_catalog_dispatchbycatalog_subscriptions_EventQueue) hisR ?_
  intro p e s m args below meth c s₁ Bd hml0 hP hK
  obtain ⟨rfl, hZ, hh⟩ := hP
  have hx := Bd.exec
  have hby := Bd.bytes
  have hml : c.maxLocals = 2 := hml0
  have hown : s.vm.findClass "com/example/dispatch_by_catalog/dispatchbycatalog/subscriptions/EventQueue" = some m.cls := findClass_of_methodNamed Bd.named
  have hnm := (name_of_methodNamed Bd.named Bd.method).1
  have hlk := BodyLoose.notSynchronized Bd
  have X0 : Stand p l e ({ frames := 2, cells := 0, slots := 0, locals := 29 } : Room) s m #[(.ref o0), (.ref o1)] below meth c s₁ [] 0 0 := Stand.of_body Bd
  have e0 : s₁.heap = h0 := by rw [← hh, Bd.state]; rfl
  have N0 := Fr.nil n0
  have pre0 : ∀ t, Steps p.tables e below (s₁.setTop (mkF m 0 #[.val (.ref o0), .val (.ref o1)] [])) t → Steps p.tables e below (s₁.setTop (entryFrame m #[(.ref o0), (.ref o1)] 2)) t := fun t k => castTop (ef_qf16_0 m o0 o1) k
  obtain ⟨T1, X1, e1, st1⟩ := getF X0 hx hZ hown (host := "") (Or.inl (hw _ (List.mem_of_getElem? (i := 26) rfl))) Via.refl e0 F_events_o0 (g := (mkF m 1 #[.val (.ref o0), .val (.ref o1)] [(.ref o0)])) rfl rfl (hb hby d11_1)
  obtain ⟨cq2, kq2, q2a, q2b, q2c⟩ := isOf hZ e1 E_w1_dq
  obtain ⟨vr2, _, ⟨T2, L2, k2, n2⟩, -, X2, ⟨Lc2, hQ2, l2, y2, z2⟩, st2⟩ := X1.interfaceBack hx (xi := (⟨"java/util/Deque", "addFirst", "(Ljava/lang/Object;)V"⟩ : MethodName)) (y := (⟨"java/util/ArrayDeque", "addFirst", "(Ljava/lang/Object;)V"⟩ : MethodName)) hown (mvT hZ (hw _ (List.mem_of_getElem? (i := 74) rfl))) (mvT hZ (hw _ (List.mem_of_getElem? (i := 75) rfl))) (mvT hZ (hw _ (List.mem_of_getElem? (i := 76) rfl))) (mvT hZ (hw _ (List.mem_of_getElem? (i := 77) rfl))) (mvT hZ (hw _ (List.mem_of_getElem? (i := 78) rfl))) (mvT hZ (hw _ (List.mem_of_getElem? (i := 79) rfl))) (mvT hZ (hw _ (List.mem_of_getElem? (i := 80) rfl))) (mvT hZ (hw _ (List.mem_of_getElem? (i := 57) rfl))) (by decide) (backOf (W := 0) (rmaf16_0 l Z a0 hw [] w1_dq o1 w2_els u20_e u21_e u22_e u23_e u24_e u25_e u26_e u27_e u28_e u29_e u30_e u31_e u32_e u33_e u34_e u35_e u36_e kA h0 n0 Z0 E_w1_dq F_elements_w1_dq F_head_w1_dq F_tail_w1_dq V_w2_els ovr E_o1 g_w1_dq ne_w2_els_w1_dq g_w2_els) hZ (hw _ (List.mem_of_getElem? (i := 81) rfl)) (hw _ (List.mem_of_getElem? (i := 11) rfl)) (by decide) (by decide)) q2a q2b q2c (g := (mkF m 5 #[.val (.ref o0), .val (.ref o1)] [(.ref o1), (.ref w1_dq)])) rfl (by rw [hml]; rfl) (Steps.refl _) (argsL := [(.ref o1)]) (rest := []) (lenOf pd__Ljava_lang_Object__V rfl) rfl (by show 2 * 0 + _ ≤ _; exact Nat.le_of_eq rfl) (hb hby d11_5) (fun _ _ => ⟨rfl, e1, (by decide : 0 + 0 ≤ _), (by decide : 0 + 0 ≤ _)⟩)
  dsimp only [Pt.U, Pt.locs, Pt.cells, Pt.slots] at X2 l2 y2 z2 st2 hQ2
  subst l2 y2 z2
  have N2q := (show _ ∧ _ from hQ2).1
  have hq2 := (show _ ∧ _ from hQ2).2
  clear hQ2
  have hv2 := hq2.1
  have K2 := hq2.2.1
  have po2_0 := hq2.2.2.1
  have po2_1 := hq2.2.2.2.1
  have po2_2 := hq2.2.2.2.2.1
  have po2_3 := hq2.2.2.2.2.2.1
  have po2_4 := hq2.2.2.2.2.2.2
  clear hq2
  subst hv2
  have z3 : n0 ≤ T2.heap.size := Nat.le_trans Z0 K2.1
  have hs4 : h0.size ≤ T2.heap.size := Nat.le_trans (Nat.le_refl h0.size) K2.1
  have N2 := Fr.app N0 N2q
  have k5 := (F_bytes_o0.keep K2 (ninS ne_o0_w1_dq (ninS ne_o0_w2_els nin0)))
  obtain ⟨T6, X6, e6, st6⟩ := getF X2 hx hZ hown (host := "") (Or.inl (hw _ (List.mem_of_getElem? (i := 88) rfl))) Via.refl rfl k5 (g := (mkF m 12 #[.val (.ref o0), .val (.ref o1)] [(.ref o0), (.ref o0)])) rfl rfl (hb hby d11_12)
  have k8 := (E_o1.keep K2)
  obtain ⟨cq7, kq7, q7a, q7b, q7c⟩ := isOf hZ e6 k8
  obtain ⟨vr7, _, ⟨T7, L7, k7, n7⟩, -, X7, ⟨Lc7, hQ7, l7, y7, z7⟩, st7⟩ := X6.interfaceBack hx (xi := (⟨"com/example/dispatch_by_catalog/dispatchbycatalog/subscriptions/Event", "size", "()J"⟩ : MethodName)) (y := (⟨"com/example/dispatch_by_catalog/dispatchbycatalog/subscriptions/DroppedEvents", "size", "()J"⟩ : MethodName)) hown (mvT hZ (hw _ (List.mem_of_getElem? (i := 90) rfl))) (mvT hZ (hw _ (List.mem_of_getElem? (i := 91) rfl))) (mvT hZ (hw _ (List.mem_of_getElem? (i := 92) rfl))) (mvT hZ (hw _ (List.mem_of_getElem? (i := 93) rfl))) (mvT hZ (hw _ (List.mem_of_getElem? (i := 94) rfl))) (mvT hZ (hw _ (List.mem_of_getElem? (i := 95) rfl))) (mvT hZ (hw _ (List.mem_of_getElem? (i := 96) rfl))) (mvT hZ (hw _ (List.mem_of_getElem? (i := 97) rfl))) (by decide) (backOf (W := 3) (rm14 l Z a0 hw [] o1 T2.heap n0 z3) hZ (hw _ (List.mem_of_getElem? (i := 98) rfl)) (hw _ (List.mem_of_getElem? (i := 30) rfl)) (by decide) (by decide)) q7a q7b q7c (g := (mkF m 16 #[.val (.ref o0), .val (.ref o1)] [(.ref o1), (.long w0_sz), (.ref o0)])) rfl (by rw [hml]; rfl) (Steps.refl _) (argsL := []) (rest := [(.long w0_sz), (.ref o0)]) (lenOf pd___J rfl) rfl (by show 2 * 0 + _ ≤ _; exact Nat.le_of_eq rfl) (hb hby d11_16) (fun _ _ => ⟨rfl, e6, (by decide : 0 + 0 ≤ _), (by decide : 0 + 0 ≤ _)⟩)
  dsimp only [Pt.U, Pt.locs, Pt.cells, Pt.slots] at X7 l7 y7 z7 st7 hQ7
  subst l7 y7 z7
  have N7q := (show _ ∧ _ ∧ _ from hQ7).1
  have hv7 := (show _ ∧ _ ∧ _ from hQ7).2.1
  have e7 := (show _ ∧ _ ∧ _ from hQ7).2.2
  clear hQ7
  subst hv7
  have N7 := Fr.app N2 N7q
  have k9 := (E_o0.keep K2)
  obtain ⟨T10, h10, X10, e10, W10, st10⟩ := putF X7 hx hZ hown (host := "") (Or.inl (hw _ (List.mem_of_getElem? (i := 88) rfl))) Via.refl e7 k5 k9 (Or.inl (hw _ (List.mem_of_getElem? (i := 89) rfl))) (hw _ (List.mem_of_getElem? (i := 1) rfl)) (ty := .long) (by decide) rfl rfl (g := (mkF m 22 #[.val (.ref o0), .val (.ref o1)] [(.long (w0_sz + f14)), (.ref o0)])) rfl rfl (hb hby d11_22)
  have Fw10 := k5.same W10
  have N10 := Fr.snoc X10 N7 g_o0
  have z11 : n0 ≤ h10.size := Nat.le_trans z3 (Keep.of_wr W10).1
  have hs12 : h0.size ≤ h10.size := Nat.le_trans hs4 (Keep.of_wr W10).1
  obtain ⟨fs, hr, hrun, hended, hW, hsame⟩ := X10.leave (v := none) (fun _ => rfl) hlk
  refine ⟨_, _, pre0 _ ?_, hrun, hended, _, _, rfl, ?_, ⟨_, rfl⟩, hW, hsame.mono (by decide) (by decide)⟩
  · skip
    show Steps p.tables e below (s₁.setTop (mkF m 0 #[.val (.ref o0), .val (.ref o1)] [])) _
    refine XS.aloadN X0.here hx rfl (hb hby d11_0) rfl rfl ?_
    show Steps p.tables e below (s₁.setTop (mkF m 1 #[.val (.ref o0), .val (.ref o1)] [(.ref o0)])) _
    refine st1 _ ?_
    show Steps p.tables e below (T1.setTop (mkF m 4 #[.val (.ref o0), .val (.ref o1)] [(.ref w1_dq)])) _
    refine XS.aloadN X1.here hx rfl (hb hby d11_4) rfl rfl ?_
    show Steps p.tables e below (T1.setTop (mkF m 5 #[.val (.ref o0), .val (.ref o1)] [(.ref o1), (.ref w1_dq)])) _
    refine st2.trans ?_
    show Steps p.tables e below (T2.setTop (mkF m 10 #[.val (.ref o0), .val (.ref o1)] [])) _
    refine XS.aloadN X2.here hx rfl (hb hby d11_10) rfl rfl ?_
    show Steps p.tables e below (T2.setTop (mkF m 11 #[.val (.ref o0), .val (.ref o1)] [(.ref o0)])) _
    refine XS.dup X2.here hx rfl (hb hby d11_11) rfl rfl ?_
    show Steps p.tables e below (T2.setTop (mkF m 12 #[.val (.ref o0), .val (.ref o1)] [(.ref o0), (.ref o0)])) _
    refine st6 _ ?_
    show Steps p.tables e below (T6.setTop (mkF m 15 #[.val (.ref o0), .val (.ref o1)] [(.long w0_sz), (.ref o0)])) _
    refine XS.aloadN X6.here hx rfl (hb hby d11_15) rfl rfl ?_
    show Steps p.tables e below (T6.setTop (mkF m 16 #[.val (.ref o0), .val (.ref o1)] [(.ref o1), (.long w0_sz), (.ref o0)])) _
    refine st7.trans ?_
    show Steps p.tables e below (T7.setTop (mkF m 21 #[.val (.ref o0), .val (.ref o1)] [(.long f14), (.long w0_sz), (.ref o0)])) _
    refine XT.ladd X7.here hx rfl (hb hby d11_21) rfl ?_
    show Steps p.tables e below (T7.setTop (mkF m 22 #[.val (.ref o0), .val (.ref o1)] [(.long (w0_sz + f14)), (.ref o0)])) _
    refine st10 _ ?_
    show Steps p.tables e below (T10.setTop (mkF m 25 #[.val (.ref o0), .val (.ref o1)] [])) _
    exact X10.returnOut hx Bd.returns (hb hby d11_25) hr
  · skip
    show Qqf16_0 Z o0 o1 w1_dq w0_sz w2_els u20_e u21_e u22_e u23_e u24_e u25_e u26_e u27_e u28_e u29_e u30_e u31_e u32_e u33_e u34_e u35_e u36_e kA h0 n0 _ T10.heap _
    rw [e10]
    have k13 := (po2_0.wr W10)
    have k14 := (po2_1.other W10 (Or.inl (Ne.symm ne_o0_w1_dq)))
    have k15 := (po2_2.other W10 (Or.inl (Ne.symm ne_o0_w1_dq)))
    have k16 := (po2_3.other W10 (Or.inl (Ne.symm ne_o0_w1_dq)))
    have k17 := (po2_4.other W10 (Ne.symm ne_o0_w2_els))
    have k18 := (k9.wr W10)
    have k19 := ((F_events_o0.keep K2 (ninS ne_o0_w1_dq (ninS ne_o0_w2_els nin0))).other W10 (Or.inr (slot_ne (Or.inr (hw _ (List.mem_of_getElem? (i := 27) rfl))) (Or.inl (hw _ (List.mem_of_getElem? (i := 89) rfl))) (by decide) (t := (.object "java/util/Deque")) (t' := .long) (by decide) (by decide))))
    exact ⟨N10, rfl, (((Keep.refl h0 [w1_dq, w2_els, o0]).trans K2 (allS (Or.inl (List.mem_of_getElem? (i := 0) rfl)) (allS (Or.inl (List.mem_of_getElem? (i := 1) rfl)) all0))).wr W10 (Or.inl (List.mem_of_getElem? (i := 2) rfl))), k13, k14, k15, k16, k17, k18, k19, Fw10⟩
theorem d20_0 : decode jdk_21_method_20_code 0 = .ok (.aload_n 0, 1) := by decide +kernel
theorem d20_1 : decode jdk_21_method_20_code 1 = .ok (.getfield 3, 3) := by decide +kernel
theorem d20_4 : decode jdk_21_method_20_code 4 = .ok (.dup, 1) := by decide +kernel
theorem d20_5 : decode jdk_21_method_20_code 5 = .ok (.astore_n 1, 1) := by decide +kernel
theorem d20_6 : decode jdk_21_method_20_code 6 = .ok (.aload_n 0, 1) := by decide +kernel
theorem d20_7 : decode jdk_21_method_20_code 7 = .ok (.getfield 24, 3) := by decide +kernel
theorem d20_10 : decode jdk_21_method_20_code 10 = .ok (.dup, 1) := by decide +kernel
theorem d20_11 : decode jdk_21_method_20_code 11 = .ok (.istore_n 2, 1) := by decide +kernel
theorem d20_12 : decode jdk_21_method_20_code 12 = .ok (.invokestatic 103, 3) := by decide +kernel
theorem d20_15 : decode jdk_21_method_20_code 15 = .ok (.astore_n 3, 1) := by decide +kernel
theorem d20_16 : decode jdk_21_method_20_code 16 = .ok (.aload_n 3, 1) := by decide +kernel
theorem d20_17 : decode jdk_21_method_20_code 17 = .ok (.ifnull 17, 3) := by decide +kernel
theorem d20_20 : decode jdk_21_method_20_code 20 = .ok (.aload_n 1, 1) := by decide +kernel
theorem d20_21 : decode jdk_21_method_20_code 21 = .ok (.iload_n 2, 1) := by decide +kernel
theorem d20_22 : decode jdk_21_method_20_code 22 = .ok (.aconst_null, 1) := by decide +kernel
theorem d20_23 : decode jdk_21_method_20_code 23 = .ok (.aastore, 1) := by decide +kernel
theorem d20_24 : decode jdk_21_method_20_code 24 = .ok (.aload_n 0, 1) := by decide +kernel
theorem d20_25 : decode jdk_21_method_20_code 25 = .ok (.iload_n 2, 1) := by decide +kernel
theorem d20_26 : decode jdk_21_method_20_code 26 = .ok (.aload_n 1, 1) := by decide +kernel
theorem d20_27 : decode jdk_21_method_20_code 27 = .ok (.arraylength, 1) := by decide +kernel
theorem d20_28 : decode jdk_21_method_20_code 28 = .ok (.invokestatic 74, 3) := by decide +kernel
theorem d20_31 : decode jdk_21_method_20_code 31 = .ok (.putfield 24, 3) := by decide +kernel
theorem d20_34 : decode jdk_21_method_20_code 34 = .ok (.aload_n 3, 1) := by decide +kernel
theorem d20_35 : decode jdk_21_method_20_code 35 = .ok (.areturn, 1) := by decide +kernel
theorem ef_po0_2 (m : MethodId) (o0 : Addr) : entryFrame m #[(.ref o0)] 4 = mkF m 0 #[.val (.ref o0), .unset, .unset, .unset] [] := by first | (simp [entryFrame, mkF, argsToLocals, Value.category]; done) | rfl
def Qpo0_2 (Z : State) (o0 : Addr) (w2_els : Addr) (w9_hd : Addr) (u21_e : Value) (u22_e : Value) (u23_e : Value) (u24_e : Value) (u25_e : Value) (u26_e : Value) (u27_e : Value) (u28_e : Value) (u29_e : Value) (u30_e : Value) (u31_e : Value) (u32_e : Value) (u33_e : Value) (u34_e : Value) (u35_e : Value) (u36_e : Value) (kA : ClassId) (h0 : Heap) (n0 : Nat) (v : Option Value) (h : Heap) (L : List Loc) : Prop := Fr n0 L ∧ v = some (.ref w9_hd) ∧ Keep h0 h [w2_els, o0] ∧ Arv Z h w2_els kA (.object "java/lang/Object") (17 : Int32) [.null, u21_e, u22_e, u23_e, u24_e, u25_e, u26_e, u27_e, u28_e, u29_e, u30_e, u31_e, u32_e, u33_e, u34_e, u35_e, u36_e] .null ∧ Exa Z h o0 "java/util/ArrayDeque" ∧ Fld Z h o0 "java/util/ArrayDeque" "elements" "[Ljava/lang/Object;" (.ref w2_els) ∧ Fld Z h o0 "java/util/ArrayDeque" "head" "I" (.int (1 : Int32)) ∧ Fld Z h o0 "java/util/ArrayDeque" "tail" "I" (.int (2 : Int32))
set_option maxRecDepth 65536 in
set_option maxHeartbeats 40000000 in
theorem rmpo0_2 (l : Launch) (Z : State) (a0 : Array Value) (hw : ∀ d ∈ tables_1, d.before a0 Z = true) (ws : List Jvm.Cond) (o0 : Addr) (w2_els : Addr) (w9_hd : Addr) (u21_e : Value) (u22_e : Value) (u23_e : Value) (u24_e : Value) (u25_e : Value) (u26_e : Value) (u27_e : Value) (u28_e : Value) (u29_e : Value) (u30_e : Value) (u31_e : Value) (u32_e : Value) (u33_e : Value) (u34_e : Value) (u35_e : Value) (u36_e : Value) (kA : ClassId) (h0 : Heap) (n0 : Nat) (Z0 : n0 ≤ h0.size) (E_o0 : Exa Z h0 o0 "java/util/ArrayDeque") (F_elements_o0 : Fld Z h0 o0 "java/util/ArrayDeque" "elements" "[Ljava/lang/Object;" (.ref w2_els)) (F_head_o0 : Fld Z h0 o0 "java/util/ArrayDeque" "head" "I" (.int (0 : Int32))) (F_tail_o0 : Fld Z h0 o0 "java/util/ArrayDeque" "tail" "I" (.int (2 : Int32))) (V_w2_els : Arv Z h0 w2_els kA (.object "java/lang/Object") (17 : Int32) [(.ref w9_hd), u21_e, u22_e, u23_e, u24_e, u25_e, u26_e, u27_e, u28_e, u29_e, u30_e, u31_e, u32_e, u33_e, u34_e, u35_e, u36_e] .null) (g_w2_els : n0 ≤ w2_els) (ne_o0_w2_els : o0 ≠ w2_els) (g_o0 : n0 ≤ o0) :
    MetFree l (⟨"java/util/ArrayDeque", "pollFirst", "()Ljava/lang/Object;"⟩ : MethodName) (head1 (Jvm.Cond.code (⟨"java/util/ArrayDeque", "pollFirst", "()Ljava/lang/Object;"⟩ : MethodName) jdk_21_method_20_code 4 (some (.object "java/lang/Object")) :: ws) ({ frames := 1, cells := 0, slots := 0, locals := 14 } : Room)) (fun a U => a = #[(.ref o0)] ∧ Z.Warmed39 U.vm ∧ U.heap = h0) (fun _ _ _ _ _ => True) (fun _ U o U' => ∃ v L, o = .returned v ∧ Qpo0_2 Z o0 w2_els w9_hd u21_e u22_e u23_e u24_e u25_e u26_e u27_e u28_e u29_e u30_e u31_e u32_e u33_e u34_e u35_e u36_e kA h0 n0 v U'.heap L ∧ FrameEnd U o U' L ({ frames := 1, cells := 0, slots := 0, locals := 14 } : Room).cells ({ frames := 1, cells := 0, slots := 0, locals := 14 } : Room).slots) := by
  refine MetFree.of_bodySF (plainFor_of_name pn_java_util_ArrayDeque) hisR ?_
  intro p e s m args below meth c s₁ Bd hml0 hP hK
  obtain ⟨rfl, hZ, hh⟩ := hP
  have hx := Bd.exec
  have hby := Bd.bytes
  have hml : c.maxLocals = 4 := hml0
  have hown : s.vm.findClass "java/util/ArrayDeque" = some m.cls := findClass_of_methodNamed Bd.named
  have hnm := (name_of_methodNamed Bd.named Bd.method).1
  have hlk := BodyLoose.notSynchronized Bd
  have X0 : Stand p l e ({ frames := 1, cells := 0, slots := 0, locals := 14 } : Room) s m #[(.ref o0)] below meth c s₁ [] 0 0 := Stand.of_body Bd
  have e0 : s₁.heap = h0 := by rw [← hh, Bd.state]; rfl
  have N0 := Fr.nil n0
  have pre0 : ∀ t, Steps p.tables e below (s₁.setTop (mkF m 0 #[.val (.ref o0), .unset, .unset, .unset] [])) t → Steps p.tables e below (s₁.setTop (entryFrame m #[(.ref o0)] 4)) t := fun t k => castTop (ef_po0_2 m o0) k
  obtain ⟨T1, X1, e1, st1⟩ := getF X0 hx hZ hown (host := "") (Or.inl (hw _ (List.mem_of_getElem? (i := 24) rfl))) Via.refl e0 F_elements_o0 (g := (mkF m 1 #[.val (.ref o0), .unset, .unset, .unset] [(.ref o0)])) rfl rfl (hb hby d20_1)
  obtain ⟨T2, X2, e2, st2⟩ := getF X1 hx hZ hown (host := "") (Or.inl (hw _ (List.mem_of_getElem? (i := 64) rfl))) Via.refl e1 F_head_o0 (g := (mkF m 7 #[.val (.ref o0), .val (.ref w2_els), .unset, .unset] [(.ref o0), (.ref w2_els)])) rfl rfl (hb hby d20_7)
  obtain ⟨vr3, _, ⟨T3, L3, k3, n3⟩, -, X3, ⟨Lc3, hQ3, l3, y3, z3⟩, st3⟩ := Jvm.LawKit.callS X2 hx (y := (⟨"java/util/ArrayDeque", "elementAt", "([Ljava/lang/Object;I)Ljava/lang/Object;"⟩ : MethodName)) hown (mvT hZ (hw _ (List.mem_of_getElem? (i := 66) rfl))) (mvT hZ (hw _ (List.mem_of_getElem? (i := 67) rfl))) (mvT hZ (hw _ (List.mem_of_getElem? (i := 11) rfl))) (mvT hZ (hw _ (List.mem_of_getElem? (i := 68) rfl))) (by decide) (backOf (W := 0) (rmea0 l Z a0 hw [] w2_els w9_hd u21_e u22_e u23_e u24_e u25_e u26_e u27_e u28_e u29_e u30_e u31_e u32_e u33_e u34_e u35_e u36_e kA h0 n0 Z0 V_w2_els) hZ (hw _ (List.mem_of_getElem? (i := 68) rfl)) (hw _ (List.mem_of_getElem? (i := 11) rfl)) (by decide) (by decide)) (g := (mkF m 12 #[.val (.ref o0), .val (.ref w2_els), .val (.int (0 : Int32)), .unset] [(.int (0 : Int32)), (.ref w2_els)])) rfl (by rw [hml]; rfl) (argsL := [(.ref w2_els), (.int (0 : Int32))]) (rest := []) (lenOf pd___Ljava_lang_Object_I_Ljava_lang_Object_ rfl) rfl (by show 2 * 0 + _ ≤ _; exact Nat.le_of_eq rfl) (hb hby d20_12) (fun _ _ => ⟨rfl, e2, (by decide : 0 + 0 ≤ _), (by decide : 0 + 0 ≤ _)⟩)
  dsimp only [Pt.U, Pt.locs, Pt.cells, Pt.slots] at X3 l3 y3 z3 st3 hQ3
  subst l3 y3 z3
  have N3q := (show _ ∧ _ ∧ _ from hQ3).1
  have hv3 := (show _ ∧ _ ∧ _ from hQ3).2.1
  have e3 := (show _ ∧ _ ∧ _ from hQ3).2.2
  clear hQ3
  subst hv3
  have N3 := Fr.app N0 N3q
  obtain ⟨cl4, Ar4, qc4, S4, M4, Ha4, G4⟩ := id V_w2_els
  have hin5 : ¬ ((0 : Int32) < 0 ∨ cl4.slots.size ≤ ((0 : Int32)).toNatClampNeg) := inb_of S4 ⟨by decide, by decide⟩
  obtain ⟨T6, h6, X6, e6, W6, st6⟩ := stR X3 hx hZ e3 Ar4 (j := (0 : Int32)) hin5 rfl (Or.inl rfl) (g := (mkF m 23 #[.val (.ref o0), .val (.ref w2_els), .val (.int (0 : Int32)), .val (.ref w9_hd)] [.null, (.int (0 : Int32)), (.ref w2_els)])) rfl rfl (hb hby d20_23)
  have V6 : Arv Z h6 w2_els kA (.object "java/lang/Object") (17 : Int32) [.null, u21_e, u22_e, u23_e, u24_e, u25_e, u26_e, u27_e, u28_e, u29_e, u30_e, u31_e, u32_e, u33_e, u34_e, u35_e, u36_e] .null := Arv.set Ar4 qc4 S4 M4 Ha4 G4 rfl W6 0 rfl (Nat.le_of_ble_eq_true rfl)
  have N6 := Fr.snoc X6 N3 g_w2_els
  have z7 : n0 ≤ h6.size := Nat.le_trans Z0 (Keep.of_wr W6).1
  have hs8 : h0.size ≤ h6.size := Nat.le_trans (Nat.le_refl h0.size) (Keep.of_wr W6).1
  obtain ⟨cl9, Ar9, qc9, S9, M9, Ha9, G9⟩ := id V6
  obtain ⟨vr10, _, ⟨T10, L10, k10, n10⟩, -, X10, ⟨Lc10, hQ10, l10, y10, z10⟩, st10⟩ := Jvm.LawKit.callS X6 hx (y := (⟨"java/util/ArrayDeque", "inc", "(II)I"⟩ : MethodName)) hown (mvT hZ (hw _ (List.mem_of_getElem? (i := 113) rfl))) (mvT hZ (hw _ (List.mem_of_getElem? (i := 114) rfl))) (mvT hZ (hw _ (List.mem_of_getElem? (i := 11) rfl))) (mvT hZ (hw _ (List.mem_of_getElem? (i := 115) rfl))) (by decide) (backOf (W := 1) (rm17 l Z a0 hw [] (0 : Int32) (17 : Int32) h6 n0 z7) hZ (hw _ (List.mem_of_getElem? (i := 115) rfl)) (hw _ (List.mem_of_getElem? (i := 11) rfl)) (by decide) (by decide)) (g := (mkF m 28 #[.val (.ref o0), .val (.ref w2_els), .val (.int (0 : Int32)), .val (.ref w9_hd)] [(.int (17 : Int32)), (.int (0 : Int32)), (.ref o0)])) rfl (by rw [hml]; rfl) (argsL := [(.int (0 : Int32)), (.int (17 : Int32))]) (rest := [(.ref o0)]) (lenOf pd__II_I rfl) rfl (by show 2 * 0 + _ ≤ _; exact Nat.le_of_eq rfl) (hb hby d20_28) (fun _ _ => ⟨rfl, e6, (by decide : 0 + 0 ≤ _), (by decide : 0 + 0 ≤ _)⟩)
  dsimp only [Pt.U, Pt.locs, Pt.cells, Pt.slots] at X10 l10 y10 z10 st10 hQ10
  subst l10 y10 z10
  have N10q := (show _ ∧ _ ∧ _ from hQ10).1
  have hv10 := (show _ ∧ _ ∧ _ from hQ10).2.1
  have e10 := (show _ ∧ _ ∧ _ from hQ10).2.2
  clear hQ10
  subst hv10
  have N10 := Fr.app N6 N10q
  have k11 := (F_head_o0.other W6 (Or.inl ne_o0_w2_els))
  have k12 := (E_o0.wr W6)
  obtain ⟨T13, h13, X13, e13, W13, st13⟩ := putF X10 hx hZ hown (host := "") (Or.inl (hw _ (List.mem_of_getElem? (i := 64) rfl))) Via.refl e10 k11 k12 (Or.inl (hw _ (List.mem_of_getElem? (i := 65) rfl))) (hw _ (List.mem_of_getElem? (i := 10) rfl)) (ty := .int) (by decide) rfl rfl (g := (mkF m 31 #[.val (.ref o0), .val (.ref w2_els), .val (.int (0 : Int32)), .val (.ref w9_hd)] [(.int (1 : Int32)), (.ref o0)])) rfl rfl (hb hby d20_31)
  have Fw13 := k11.same W13
  have N13 := Fr.snoc X13 N10 g_o0
  have z14 : n0 ≤ h13.size := Nat.le_trans z7 (Keep.of_wr W13).1
  have hs15 : h0.size ≤ h13.size := Nat.le_trans hs8 (Keep.of_wr W13).1
  obtain ⟨fs, hr, hrun, hended, hW, hsame⟩ := X13.leave (v := some (.ref w9_hd)) (fun h => by rw [Bd.returns] at h; cases h) hlk
  refine ⟨_, _, pre0 _ ?_, hrun, hended, _, _, rfl, ?_, ⟨_, rfl⟩, hW, hsame.mono (by decide) (by decide)⟩
  · skip
    show Steps p.tables e below (s₁.setTop (mkF m 0 #[.val (.ref o0), .unset, .unset, .unset] [])) _
    refine XS.aloadN X0.here hx rfl (hb hby d20_0) rfl rfl ?_
    show Steps p.tables e below (s₁.setTop (mkF m 1 #[.val (.ref o0), .unset, .unset, .unset] [(.ref o0)])) _
    refine st1 _ ?_
    show Steps p.tables e below (T1.setTop (mkF m 4 #[.val (.ref o0), .unset, .unset, .unset] [(.ref w2_els)])) _
    refine XS.dup X1.here hx rfl (hb hby d20_4) rfl rfl ?_
    show Steps p.tables e below (T1.setTop (mkF m 5 #[.val (.ref o0), .unset, .unset, .unset] [(.ref w2_els), (.ref w2_els)])) _
    refine XS.astoreN X1.here hx rfl (hb hby d20_5) rfl rfl (l' := #[.val (.ref o0), .val (.ref w2_els), .unset, .unset]) rfl ?_
    show Steps p.tables e below (T1.setTop (mkF m 6 #[.val (.ref o0), .val (.ref w2_els), .unset, .unset] [(.ref w2_els)])) _
    refine XS.aloadN X1.here hx rfl (hb hby d20_6) rfl rfl ?_
    show Steps p.tables e below (T1.setTop (mkF m 7 #[.val (.ref o0), .val (.ref w2_els), .unset, .unset] [(.ref o0), (.ref w2_els)])) _
    refine st2 _ ?_
    show Steps p.tables e below (T2.setTop (mkF m 10 #[.val (.ref o0), .val (.ref w2_els), .unset, .unset] [(.int (0 : Int32)), (.ref w2_els)])) _
    refine XS.dup X2.here hx rfl (hb hby d20_10) rfl rfl ?_
    show Steps p.tables e below (T2.setTop (mkF m 11 #[.val (.ref o0), .val (.ref w2_els), .unset, .unset] [(.int (0 : Int32)), (.int (0 : Int32)), (.ref w2_els)])) _
    refine XS.istoreN X2.here hx rfl (hb hby d20_11) rfl (l' := #[.val (.ref o0), .val (.ref w2_els), .val (.int (0 : Int32)), .unset]) rfl ?_
    show Steps p.tables e below (T2.setTop (mkF m 12 #[.val (.ref o0), .val (.ref w2_els), .val (.int (0 : Int32)), .unset] [(.int (0 : Int32)), (.ref w2_els)])) _
    refine st3 _ ?_
    show Steps p.tables e below (T3.setTop (mkF m 15 #[.val (.ref o0), .val (.ref w2_els), .val (.int (0 : Int32)), .unset] [(.ref w9_hd)])) _
    refine XS.astoreN X3.here hx rfl (hb hby d20_15) rfl rfl (l' := #[.val (.ref o0), .val (.ref w2_els), .val (.int (0 : Int32)), .val (.ref w9_hd)]) rfl ?_
    show Steps p.tables e below (T3.setTop (mkF m 16 #[.val (.ref o0), .val (.ref w2_els), .val (.int (0 : Int32)), .val (.ref w9_hd)] [])) _
    refine XS.aloadN X3.here hx rfl (hb hby d20_16) rfl rfl ?_
    show Steps p.tables e below (T3.setTop (mkF m 17 #[.val (.ref o0), .val (.ref w2_els), .val (.int (0 : Int32)), .val (.ref w9_hd)] [(.ref w9_hd)])) _
    refine XS.ifnullNo X3.here hx rfl (hb hby d20_17) rfl ?_
    show Steps p.tables e below (T3.setTop (mkF m 20 #[.val (.ref o0), .val (.ref w2_els), .val (.int (0 : Int32)), .val (.ref w9_hd)] [])) _
    refine XS.aloadN X3.here hx rfl (hb hby d20_20) rfl rfl ?_
    show Steps p.tables e below (T3.setTop (mkF m 21 #[.val (.ref o0), .val (.ref w2_els), .val (.int (0 : Int32)), .val (.ref w9_hd)] [(.ref w2_els)])) _
    refine XS.iloadN X3.here hx rfl (hb hby d20_21) rfl ?_
    show Steps p.tables e below (T3.setTop (mkF m 22 #[.val (.ref o0), .val (.ref w2_els), .val (.int (0 : Int32)), .val (.ref w9_hd)] [(.int (0 : Int32)), (.ref w2_els)])) _
    refine XS.aconstNull X3.here hx rfl (hb hby d20_22) ?_
    show Steps p.tables e below (T3.setTop (mkF m 23 #[.val (.ref o0), .val (.ref w2_els), .val (.int (0 : Int32)), .val (.ref w9_hd)] [.null, (.int (0 : Int32)), (.ref w2_els)])) _
    refine st6 _ ?_
    show Steps p.tables e below (T6.setTop (mkF m 24 #[.val (.ref o0), .val (.ref w2_els), .val (.int (0 : Int32)), .val (.ref w9_hd)] [])) _
    refine XS.aloadN X6.here hx rfl (hb hby d20_24) rfl rfl ?_
    show Steps p.tables e below (T6.setTop (mkF m 25 #[.val (.ref o0), .val (.ref w2_els), .val (.int (0 : Int32)), .val (.ref w9_hd)] [(.ref o0)])) _
    refine XS.iloadN X6.here hx rfl (hb hby d20_25) rfl ?_
    show Steps p.tables e below (T6.setTop (mkF m 26 #[.val (.ref o0), .val (.ref w2_els), .val (.int (0 : Int32)), .val (.ref w9_hd)] [(.int (0 : Int32)), (.ref o0)])) _
    refine XS.aloadN X6.here hx rfl (hb hby d20_26) rfl rfl ?_
    show Steps p.tables e below (T6.setTop (mkF m 27 #[.val (.ref o0), .val (.ref w2_els), .val (.int (0 : Int32)), .val (.ref w9_hd)] [(.ref w2_els), (.int (0 : Int32)), (.ref o0)])) _
    refine X6.arraylength hx (by rw [e6]; exact Ar9.1) (State.isArrayOf_alike hZ.alike Ar9.2.1) (g := (mkF m 27 #[.val (.ref o0), .val (.ref w2_els), .val (.int (0 : Int32)), .val (.ref w9_hd)] [(.ref w2_els), (.int (0 : Int32)), (.ref o0)])) rfl rfl (hb hby d20_27) _ ?_
    rw [len_of S9 M9]
    show Steps p.tables e below (T6.setTop (mkF m 28 #[.val (.ref o0), .val (.ref w2_els), .val (.int (0 : Int32)), .val (.ref w9_hd)] [(.int (17 : Int32)), (.int (0 : Int32)), (.ref o0)])) _
    refine st10 _ ?_
    show Steps p.tables e below (T10.setTop (mkF m 31 #[.val (.ref o0), .val (.ref w2_els), .val (.int (0 : Int32)), .val (.ref w9_hd)] [(.int (1 : Int32)), (.ref o0)])) _
    refine st13 _ ?_
    show Steps p.tables e below (T13.setTop (mkF m 34 #[.val (.ref o0), .val (.ref w2_els), .val (.int (0 : Int32)), .val (.ref w9_hd)] [])) _
    refine XS.aloadN X13.here hx rfl (hb hby d20_34) rfl rfl ?_
    show Steps p.tables e below (T13.setTop (mkF m 35 #[.val (.ref o0), .val (.ref w2_els), .val (.int (0 : Int32)), .val (.ref w9_hd)] [(.ref w9_hd)])) _
    exact X13.areturnOut hx rfl Bd.returns rfl (hb hby d20_35) hr
  · skip
    show Qpo0_2 Z o0 w2_els w9_hd u21_e u22_e u23_e u24_e u25_e u26_e u27_e u28_e u29_e u30_e u31_e u32_e u33_e u34_e u35_e u36_e kA h0 n0 _ T13.heap _
    rw [e13]
    have k16 := (V6.other W13 (Ne.symm ne_o0_w2_els))
    have k17 := (k12.wr W13)
    have k18 := ((F_elements_o0.other W6 (Or.inl ne_o0_w2_els)).other W13 (Or.inr (slot_ne (Or.inl (hw _ (List.mem_of_getElem? (i := 25) rfl))) (Or.inl (hw _ (List.mem_of_getElem? (i := 65) rfl))) (by decide) (t := (.array (.object "java/lang/Object"))) (t' := .int) (by decide) (by decide))))
    have k19 := ((F_tail_o0.other W6 (Or.inl ne_o0_w2_els)).other W13 (Or.inr (slot_ne (Or.inl (hw _ (List.mem_of_getElem? (i := 87) rfl))) (Or.inl (hw _ (List.mem_of_getElem? (i := 65) rfl))) (by decide) (t := .int) (t' := .int) (by decide) (by decide))))
    exact ⟨N13, rfl, (((Keep.refl h0 [w2_els, o0]).wr W6 (Or.inl (List.mem_of_getElem? (i := 0) rfl))).wr W13 (Or.inl (List.mem_of_getElem? (i := 1) rfl))), k16, k17, k18, Fw13, k19⟩
theorem d19_0 : decode jdk_21_method_31_code 0 = .ok (.aload_n 0, 1) := by decide +kernel
theorem d19_1 : decode jdk_21_method_31_code 1 = .ok (.invokevirtual 93, 3) := by decide +kernel
theorem d19_4 : decode jdk_21_method_31_code 4 = .ok (.areturn, 1) := by decide +kernel
theorem ef_pl0_2 (m : MethodId) (o0 : Addr) : entryFrame m #[(.ref o0)] 1 = mkF m 0 #[.val (.ref o0)] [] := by first | (simp [entryFrame, mkF, argsToLocals, Value.category]; done) | rfl
def Qpl0_2 (Z : State) (o0 : Addr) (w2_els : Addr) (w9_hd : Addr) (u21_e : Value) (u22_e : Value) (u23_e : Value) (u24_e : Value) (u25_e : Value) (u26_e : Value) (u27_e : Value) (u28_e : Value) (u29_e : Value) (u30_e : Value) (u31_e : Value) (u32_e : Value) (u33_e : Value) (u34_e : Value) (u35_e : Value) (u36_e : Value) (kA : ClassId) (h0 : Heap) (n0 : Nat) (v : Option Value) (h : Heap) (L : List Loc) : Prop := Fr n0 L ∧ v = some (.ref w9_hd) ∧ Keep h0 h [w2_els, o0] ∧ Arv Z h w2_els kA (.object "java/lang/Object") (17 : Int32) [.null, u21_e, u22_e, u23_e, u24_e, u25_e, u26_e, u27_e, u28_e, u29_e, u30_e, u31_e, u32_e, u33_e, u34_e, u35_e, u36_e] .null ∧ Exa Z h o0 "java/util/ArrayDeque" ∧ Fld Z h o0 "java/util/ArrayDeque" "elements" "[Ljava/lang/Object;" (.ref w2_els) ∧ Fld Z h o0 "java/util/ArrayDeque" "head" "I" (.int (1 : Int32)) ∧ Fld Z h o0 "java/util/ArrayDeque" "tail" "I" (.int (2 : Int32))
set_option maxRecDepth 65536 in
set_option maxHeartbeats 40000000 in
theorem rmpl0_2 (l : Launch) (Z : State) (a0 : Array Value) (hw : ∀ d ∈ tables_1, d.before a0 Z = true) (ws : List Jvm.Cond) (o0 : Addr) (w2_els : Addr) (w9_hd : Addr) (u21_e : Value) (u22_e : Value) (u23_e : Value) (u24_e : Value) (u25_e : Value) (u26_e : Value) (u27_e : Value) (u28_e : Value) (u29_e : Value) (u30_e : Value) (u31_e : Value) (u32_e : Value) (u33_e : Value) (u34_e : Value) (u35_e : Value) (u36_e : Value) (kA : ClassId) (h0 : Heap) (n0 : Nat) (Z0 : n0 ≤ h0.size) (E_o0 : Exa Z h0 o0 "java/util/ArrayDeque") (F_elements_o0 : Fld Z h0 o0 "java/util/ArrayDeque" "elements" "[Ljava/lang/Object;" (.ref w2_els)) (F_head_o0 : Fld Z h0 o0 "java/util/ArrayDeque" "head" "I" (.int (0 : Int32))) (F_tail_o0 : Fld Z h0 o0 "java/util/ArrayDeque" "tail" "I" (.int (2 : Int32))) (V_w2_els : Arv Z h0 w2_els kA (.object "java/lang/Object") (17 : Int32) [(.ref w9_hd), u21_e, u22_e, u23_e, u24_e, u25_e, u26_e, u27_e, u28_e, u29_e, u30_e, u31_e, u32_e, u33_e, u34_e, u35_e, u36_e] .null) (g_w2_els : n0 ≤ w2_els) (ne_o0_w2_els : o0 ≠ w2_els) (g_o0 : n0 ≤ o0) :
    MetFree l (⟨"java/util/ArrayDeque", "poll", "()Ljava/lang/Object;"⟩ : MethodName) (head1 (Jvm.Cond.code (⟨"java/util/ArrayDeque", "poll", "()Ljava/lang/Object;"⟩ : MethodName) jdk_21_method_31_code 1 (some (.object "java/lang/Object")) :: ws) ({ frames := 2, cells := 0, slots := 0, locals := 29 } : Room)) (fun a U => a = #[(.ref o0)] ∧ Z.Warmed39 U.vm ∧ U.heap = h0) (fun _ _ _ _ _ => True) (fun _ U o U' => ∃ v L, o = .returned v ∧ Qpl0_2 Z o0 w2_els w9_hd u21_e u22_e u23_e u24_e u25_e u26_e u27_e u28_e u29_e u30_e u31_e u32_e u33_e u34_e u35_e u36_e kA h0 n0 v U'.heap L ∧ FrameEnd U o U' L ({ frames := 2, cells := 0, slots := 0, locals := 29 } : Room).cells ({ frames := 2, cells := 0, slots := 0, locals := 29 } : Room).slots) := by
  refine MetFree.of_bodySF (plainFor_of_name pn_java_util_ArrayDeque) hisR ?_
  intro p e s m args below meth c s₁ Bd hml0 hP hK
  obtain ⟨rfl, hZ, hh⟩ := hP
  have hx := Bd.exec
  have hby := Bd.bytes
  have hml : c.maxLocals = 1 := hml0
  have hown : s.vm.findClass "java/util/ArrayDeque" = some m.cls := findClass_of_methodNamed Bd.named
  have hnm := (name_of_methodNamed Bd.named Bd.method).1
  have hlk := BodyLoose.notSynchronized Bd
  have X0 : Stand p l e ({ frames := 2, cells := 0, slots := 0, locals := 29 } : Room) s m #[(.ref o0)] below meth c s₁ [] 0 0 := Stand.of_body Bd
  have e0 : s₁.heap = h0 := by rw [← hh, Bd.state]; rfl
  have N0 := Fr.nil n0
  have pre0 : ∀ t, Steps p.tables e below (s₁.setTop (mkF m 0 #[.val (.ref o0)] [])) t → Steps p.tables e below (s₁.setTop (entryFrame m #[(.ref o0)] 1)) t := fun t k => castTop (ef_pl0_2 m o0) k
  obtain ⟨cq1, kq1, q1a, q1b, q1c⟩ := isOf hZ e0 E_o0
  obtain ⟨vr1, _, ⟨T1, L1, k1, n1⟩, -, X1, ⟨Lc1, hQ1, l1, y1, z1⟩, st1⟩ := X0.virtualBack hx (y := (⟨"java/util/ArrayDeque", "pollFirst", "()Ljava/lang/Object;"⟩ : MethodName)) (z := (⟨"java/util/ArrayDeque", "pollFirst", "()Ljava/lang/Object;"⟩ : MethodName)) hown (mvT hZ (hw _ (List.mem_of_getElem? (i := 129) rfl))) (mvT hZ (hw _ (List.mem_of_getElem? (i := 130) rfl))) (notFace_of_selects (args := #[]) (mvT hZ (hw _ (List.mem_of_getElem? (i := 132) rfl)))) (mvT hZ (hw _ (List.mem_of_getElem? (i := 132) rfl))) (mvT hZ (hw _ (List.mem_of_getElem? (i := 131) rfl))) (by decide) (backOf (W := 0) (rmpo0_2 l Z a0 hw [] o0 w2_els w9_hd u21_e u22_e u23_e u24_e u25_e u26_e u27_e u28_e u29_e u30_e u31_e u32_e u33_e u34_e u35_e u36_e kA h0 n0 Z0 E_o0 F_elements_o0 F_head_o0 F_tail_o0 V_w2_els g_w2_els ne_o0_w2_els g_o0) hZ (hw _ (List.mem_of_getElem? (i := 133) rfl)) (hw _ (List.mem_of_getElem? (i := 11) rfl)) (by decide) (by decide)) q1a q1c (g := (mkF m 1 #[.val (.ref o0)] [(.ref o0)])) rfl (by rw [hml]; rfl) (Steps.refl _) (argsL := []) (rest := []) (lenOf pd___Ljava_lang_Object_ rfl) rfl (by show 2 * 0 + _ ≤ _; exact Nat.le_of_eq rfl) (hb hby d19_1) (fun _ _ => ⟨rfl, e0, (by decide : 0 + 0 ≤ _), (by decide : 0 + 0 ≤ _)⟩)
  dsimp only [Pt.U, Pt.locs, Pt.cells, Pt.slots] at X1 l1 y1 z1 st1 hQ1
  subst l1 y1 z1
  have N1q := (show _ ∧ _ from hQ1).1
  have hq1 := (show _ ∧ _ from hQ1).2
  clear hQ1
  have hv1 := hq1.1
  have K1 := hq1.2.1
  have po1_0 := hq1.2.2.1
  have po1_1 := hq1.2.2.2.1
  have po1_2 := hq1.2.2.2.2.1
  have po1_3 := hq1.2.2.2.2.2.1
  have po1_4 := hq1.2.2.2.2.2.2
  clear hq1
  subst hv1
  have z2 : n0 ≤ T1.heap.size := Nat.le_trans Z0 K1.1
  have hs3 : h0.size ≤ T1.heap.size := Nat.le_trans (Nat.le_refl h0.size) K1.1
  have N1 := Fr.app N0 N1q
  obtain ⟨fs, hr, hrun, hended, hW, hsame⟩ := X1.leave (v := some (.ref w9_hd)) (fun h => by rw [Bd.returns] at h; cases h) hlk
  refine ⟨_, _, pre0 _ ?_, hrun, hended, _, _, rfl, ?_, ⟨_, rfl⟩, hW, hsame.mono (by decide) (by decide)⟩
  · skip
    show Steps p.tables e below (s₁.setTop (mkF m 0 #[.val (.ref o0)] [])) _
    refine XS.aloadN X0.here hx rfl (hb hby d19_0) rfl rfl ?_
    show Steps p.tables e below (s₁.setTop (mkF m 1 #[.val (.ref o0)] [(.ref o0)])) _
    refine st1.trans ?_
    show Steps p.tables e below (T1.setTop (mkF m 4 #[.val (.ref o0)] [(.ref w9_hd)])) _
    exact X1.areturnOut hx rfl Bd.returns rfl (hb hby d19_4) hr
  · skip
    show Qpl0_2 Z o0 w2_els w9_hd u21_e u22_e u23_e u24_e u25_e u26_e u27_e u28_e u29_e u30_e u31_e u32_e u33_e u34_e u35_e u36_e kA h0 n0 _ T1.heap _
    exact ⟨N1, rfl, ((Keep.refl h0 [w2_els, o0]).trans K1 (allS (Or.inl (List.mem_of_getElem? (i := 0) rfl)) (allS (Or.inl (List.mem_of_getElem? (i := 1) rfl)) all0))), po1_0, po1_1, po1_2, po1_3, po1_4⟩
theorem d18_0 : decode prog_41_method_6_code 0 = .ok (.aload_n 0, 1) := by decide +kernel
theorem d18_1 : decode prog_41_method_6_code 1 = .ok (.getfield 10, 3) := by decide +kernel
theorem d18_4 : decode prog_41_method_6_code 4 = .ok (.invokeinterface 36 1, 5) := by decide +kernel
theorem d18_9 : decode prog_41_method_6_code 9 = .ok (.checkcast 34, 3) := by decide +kernel
theorem d18_12 : decode prog_41_method_6_code 12 = .ok (.astore_n 1, 1) := by decide +kernel
theorem d18_13 : decode prog_41_method_6_code 13 = .ok (.aload_n 1, 1) := by decide +kernel
theorem d18_14 : decode prog_41_method_6_code 14 = .ok (.ifnull 18, 3) := by decide +kernel
theorem d18_17 : decode prog_41_method_6_code 17 = .ok (.aload_n 0, 1) := by decide +kernel
theorem d18_18 : decode prog_41_method_6_code 18 = .ok (.dup, 1) := by decide +kernel
theorem d18_19 : decode prog_41_method_6_code 19 = .ok (.getfield 26, 3) := by decide +kernel
theorem d18_22 : decode prog_41_method_6_code 22 = .ok (.aload_n 1, 1) := by decide +kernel
theorem d18_23 : decode prog_41_method_6_code 23 = .ok (.invokeinterface 39 1, 5) := by decide +kernel
theorem d18_28 : decode prog_41_method_6_code 28 = .ok (.lsub, 1) := by decide +kernel
theorem d18_29 : decode prog_41_method_6_code 29 = .ok (.putfield 26, 3) := by decide +kernel
theorem d18_32 : decode prog_41_method_6_code 32 = .ok (.aload_n 1, 1) := by decide +kernel
theorem d18_33 : decode prog_41_method_6_code 33 = .ok (.areturn, 1) := by decide +kernel
theorem ef_ql0_2 (m : MethodId) (o0 : Addr) : entryFrame m #[(.ref o0)] 2 = mkF m 0 #[.val (.ref o0), .unset] [] := by first | (simp [entryFrame, mkF, argsToLocals, Value.category]; done) | rfl
def Qql0_2 (Z : State) (o0 : Addr) (w1_dq : Addr) (w0_sz : Int64) (w2_els : Addr) (w9_hd : Addr) (u21_e : Value) (u22_e : Value) (u23_e : Value) (u24_e : Value) (u25_e : Value) (u26_e : Value) (u27_e : Value) (u28_e : Value) (u29_e : Value) (u30_e : Value) (u31_e : Value) (u32_e : Value) (u33_e : Value) (u34_e : Value) (u35_e : Value) (u36_e : Value) (kA : ClassId) (h0 : Heap) (n0 : Nat) (v : Option Value) (h : Heap) (L : List Loc) : Prop := Fr n0 L ∧ v = some (.ref w9_hd) ∧ Keep h0 h [w2_els, w1_dq, o0] ∧ Arv Z h w2_els kA (.object "java/lang/Object") (17 : Int32) [.null, u21_e, u22_e, u23_e, u24_e, u25_e, u26_e, u27_e, u28_e, u29_e, u30_e, u31_e, u32_e, u33_e, u34_e, u35_e, u36_e] .null ∧ Exa Z h w1_dq "java/util/ArrayDeque" ∧ Fld Z h w1_dq "java/util/ArrayDeque" "elements" "[Ljava/lang/Object;" (.ref w2_els) ∧ Fld Z h w1_dq "java/util/ArrayDeque" "head" "I" (.int (1 : Int32)) ∧ Fld Z h w1_dq "java/util/ArrayDeque" "tail" "I" (.int (2 : Int32)) ∧ Exa Z h o0 "com/example/dispatch_by_catalog/dispatchbycatalog/subscriptions/EventQueue" ∧ Fld Z h o0 "com/example/dispatch_by_catalog/dispatchbycatalog/subscriptions/EventQueue" "events" "Ljava/util/Deque;" (.ref w1_dq) ∧ Fld Z h o0 "com/example/dispatch_by_catalog/dispatchbycatalog/subscriptions/EventQueue" "bytes" "J" (.long (w0_sz - f14))
set_option maxRecDepth 65536 in
set_option maxHeartbeats 40000000 in
theorem rmql0_2 (l : Launch) (Z : State) (a0 : Array Value) (hw : ∀ d ∈ tables_1, d.before a0 Z = true) (ws : List Jvm.Cond) (o0 : Addr) (w1_dq : Addr) (w0_sz : Int64) (w2_els : Addr) (w9_hd : Addr) (u21_e : Value) (u22_e : Value) (u23_e : Value) (u24_e : Value) (u25_e : Value) (u26_e : Value) (u27_e : Value) (u28_e : Value) (u29_e : Value) (u30_e : Value) (u31_e : Value) (u32_e : Value) (u33_e : Value) (u34_e : Value) (u35_e : Value) (u36_e : Value) (kA : ClassId) (h0 : Heap) (n0 : Nat) (Z0 : n0 ≤ h0.size) (E_o0 : Exa Z h0 o0 "com/example/dispatch_by_catalog/dispatchbycatalog/subscriptions/EventQueue") (F_events_o0 : Fld Z h0 o0 "com/example/dispatch_by_catalog/dispatchbycatalog/subscriptions/EventQueue" "events" "Ljava/util/Deque;" (.ref w1_dq)) (F_bytes_o0 : Fld Z h0 o0 "com/example/dispatch_by_catalog/dispatchbycatalog/subscriptions/EventQueue" "bytes" "J" (.long w0_sz)) (E_w1_dq : Exa Z h0 w1_dq "java/util/ArrayDeque") (F_elements_w1_dq : Fld Z h0 w1_dq "java/util/ArrayDeque" "elements" "[Ljava/lang/Object;" (.ref w2_els)) (F_head_w1_dq : Fld Z h0 w1_dq "java/util/ArrayDeque" "head" "I" (.int (0 : Int32))) (F_tail_w1_dq : Fld Z h0 w1_dq "java/util/ArrayDeque" "tail" "I" (.int (2 : Int32))) (V_w2_els : Arv Z h0 w2_els kA (.object "java/lang/Object") (17 : Int32) [(.ref w9_hd), u21_e, u22_e, u23_e, u24_e, u25_e, u26_e, u27_e, u28_e, u29_e, u30_e, u31_e, u32_e, u33_e, u34_e, u35_e, u36_e] .null) (E_w9_hd : Exa Z h0 w9_hd "com/example/dispatch_by_catalog/dispatchbycatalog/subscriptions/DroppedEvents") (g_w2_els : n0 ≤ w2_els) (ne_w1_dq_w2_els : w1_dq ≠ w2_els) (g_w1_dq : n0 ≤ w1_dq) (ne_o0_w1_dq : o0 ≠ w1_dq) (ne_o0_w2_els : o0 ≠ w2_els) (g_o0 : n0 ≤ o0) :
    MetFree l (⟨"com/example/dispatch_by_catalog/dispatchbycatalog/subscriptions/EventQueue", "poll", "()Lcom/example/dispatch_by_catalog/dispatchbycatalog/subscriptions/Event;"⟩ : MethodName) (head1 (Jvm.Cond.code (⟨"com/example/dispatch_by_catalog/dispatchbycatalog/subscriptions/EventQueue", "poll", "()Lcom/example/dispatch_by_catalog/dispatchbycatalog/subscriptions/Event;"⟩ : MethodName) prog_41_method_6_code 2 (some (.object "com/example/dispatch_by_catalog/dispatchbycatalog/subscriptions/Event")) :: ws) ({ frames := 3, cells := 0, slots := 0, locals := 41 } : Room)) (fun a U => a = #[(.ref o0)] ∧ Z.Warmed39 U.vm ∧ U.heap = h0) (fun _ _ _ _ _ => True) (fun _ U o U' => ∃ v L, o = .returned v ∧ Qql0_2 Z o0 w1_dq w0_sz w2_els w9_hd u21_e u22_e u23_e u24_e u25_e u26_e u27_e u28_e u29_e u30_e u31_e u32_e u33_e u34_e u35_e u36_e kA h0 n0 v U'.heap L ∧ FrameEnd U o U' L ({ frames := 3, cells := 0, slots := 0, locals := 41 } : Room).cells ({ frames := 3, cells := 0, slots := 0, locals := 41 } : Room).slots) := by
  refine MetFree.of_bodySF (plainFor_of_name pn_com_example_dispatch_by_catalog_dispatchbycatalog_subscriptions_EventQueue) hisR ?_
  intro p e s m args below meth c s₁ Bd hml0 hP hK
  obtain ⟨rfl, hZ, hh⟩ := hP
  have hx := Bd.exec
  have hby := Bd.bytes
  have hml : c.maxLocals = 2 := hml0
  have hown : s.vm.findClass "com/example/dispatch_by_catalog/dispatchbycatalog/subscriptions/EventQueue" = some m.cls := findClass_of_methodNamed Bd.named
  have hnm := (name_of_methodNamed Bd.named Bd.method).1
  have hlk := BodyLoose.notSynchronized Bd
  have X0 : Stand p l e ({ frames := 3, cells := 0, slots := 0, locals := 41 } : Room) s m #[(.ref o0)] below meth c s₁ [] 0 0 := Stand.of_body Bd
  have e0 : s₁.heap = h0 := by rw [← hh, Bd.state]; rfl
  have N0 := Fr.nil n0
  have pre0 : ∀ t, Steps p.tables e below (s₁.setTop (mkF m 0 #[.val (.ref o0), .unset] [])) t → Steps p.tables e below (s₁.setTop (entryFrame m #[(.ref o0)] 2)) t := fun t k => castTop (ef_ql0_2 m o0) k
  obtain ⟨T1, X1, e1, st1⟩ := getF X0 hx hZ hown (host := "") (Or.inl (hw _ (List.mem_of_getElem? (i := 26) rfl))) Via.refl e0 F_events_o0 (g := (mkF m 1 #[.val (.ref o0), .unset] [(.ref o0)])) rfl rfl (hb hby d18_1)
  obtain ⟨cq2, kq2, q2a, q2b, q2c⟩ := isOf hZ e1 E_w1_dq
  obtain ⟨vr2, _, ⟨T2, L2, k2, n2⟩, -, X2, ⟨Lc2, hQ2, l2, y2, z2⟩, st2⟩ := X1.interfaceBack hx (xi := (⟨"java/util/Deque", "poll", "()Ljava/lang/Object;"⟩ : MethodName)) (y := (⟨"java/util/ArrayDeque", "poll", "()Ljava/lang/Object;"⟩ : MethodName)) hown (mvT hZ (hw _ (List.mem_of_getElem? (i := 121) rfl))) (mvT hZ (hw _ (List.mem_of_getElem? (i := 122) rfl))) (mvT hZ (hw _ (List.mem_of_getElem? (i := 123) rfl))) (mvT hZ (hw _ (List.mem_of_getElem? (i := 124) rfl))) (mvT hZ (hw _ (List.mem_of_getElem? (i := 125) rfl))) (mvT hZ (hw _ (List.mem_of_getElem? (i := 126) rfl))) (mvT hZ (hw _ (List.mem_of_getElem? (i := 127) rfl))) (mvT hZ (hw _ (List.mem_of_getElem? (i := 57) rfl))) (by decide) (backOf (W := 0) (rmpl0_2 l Z a0 hw [] w1_dq w2_els w9_hd u21_e u22_e u23_e u24_e u25_e u26_e u27_e u28_e u29_e u30_e u31_e u32_e u33_e u34_e u35_e u36_e kA h0 n0 Z0 E_w1_dq F_elements_w1_dq F_head_w1_dq F_tail_w1_dq V_w2_els g_w2_els ne_w1_dq_w2_els g_w1_dq) hZ (hw _ (List.mem_of_getElem? (i := 128) rfl)) (hw _ (List.mem_of_getElem? (i := 11) rfl)) (by decide) (by decide)) q2a q2b q2c (g := (mkF m 4 #[.val (.ref o0), .unset] [(.ref w1_dq)])) rfl (by rw [hml]; rfl) (Steps.refl _) (argsL := []) (rest := []) (lenOf pd___Ljava_lang_Object_ rfl) rfl (by show 2 * 0 + _ ≤ _; exact Nat.le_of_eq rfl) (hb hby d18_4) (fun _ _ => ⟨rfl, e1, (by decide : 0 + 0 ≤ _), (by decide : 0 + 0 ≤ _)⟩)
  dsimp only [Pt.U, Pt.locs, Pt.cells, Pt.slots] at X2 l2 y2 z2 st2 hQ2
  subst l2 y2 z2
  have N2q := (show _ ∧ _ from hQ2).1
  have hq2 := (show _ ∧ _ from hQ2).2
  clear hQ2
  have hv2 := hq2.1
  have K2 := hq2.2.1
  have po2_0 := hq2.2.2.1
  have po2_1 := hq2.2.2.2.1
  have po2_2 := hq2.2.2.2.2.1
  have po2_3 := hq2.2.2.2.2.2.1
  have po2_4 := hq2.2.2.2.2.2.2
  clear hq2
  subst hv2
  have z3 : n0 ≤ T2.heap.size := Nat.le_trans Z0 K2.1
  have hs4 : h0.size ≤ T2.heap.size := Nat.le_trans (Nat.le_refl h0.size) K2.1
  have N2 := Fr.app N0 N2q
  have k5 := (E_w9_hd.keep K2)
  obtain ⟨T6, X6, e6, st6⟩ := castY X2 hx hZ hown (hw _ (List.mem_of_getElem? (i := 99) rfl)) rfl (Ins.of_exa k5 (hw _ (List.mem_of_getElem? (i := 97) rfl))) (g := (mkF m 9 #[.val (.ref o0), .unset] [(.ref w9_hd)])) rfl rfl (hb hby d18_9)
  have k7 := (F_bytes_o0.keep K2 (ninS ne_o0_w2_els (ninS ne_o0_w1_dq nin0)))
  obtain ⟨T8, X8, e8, st8⟩ := getF X6 hx hZ hown (host := "") (Or.inl (hw _ (List.mem_of_getElem? (i := 88) rfl))) Via.refl e6 k7 (g := (mkF m 19 #[.val (.ref o0), .val (.ref w9_hd)] [(.ref o0), (.ref o0)])) rfl rfl (hb hby d18_19)
  obtain ⟨cq9, kq9, q9a, q9b, q9c⟩ := isOf hZ e8 k5
  obtain ⟨vr9, _, ⟨T9, L9, k9, n9⟩, -, X9, ⟨Lc9, hQ9, l9, y9, z9⟩, st9⟩ := X8.interfaceBack hx (xi := (⟨"com/example/dispatch_by_catalog/dispatchbycatalog/subscriptions/Event", "size", "()J"⟩ : MethodName)) (y := (⟨"com/example/dispatch_by_catalog/dispatchbycatalog/subscriptions/DroppedEvents", "size", "()J"⟩ : MethodName)) hown (mvT hZ (hw _ (List.mem_of_getElem? (i := 90) rfl))) (mvT hZ (hw _ (List.mem_of_getElem? (i := 91) rfl))) (mvT hZ (hw _ (List.mem_of_getElem? (i := 92) rfl))) (mvT hZ (hw _ (List.mem_of_getElem? (i := 93) rfl))) (mvT hZ (hw _ (List.mem_of_getElem? (i := 94) rfl))) (mvT hZ (hw _ (List.mem_of_getElem? (i := 95) rfl))) (mvT hZ (hw _ (List.mem_of_getElem? (i := 96) rfl))) (mvT hZ (hw _ (List.mem_of_getElem? (i := 97) rfl))) (by decide) (backOf (W := 3) (rm14 l Z a0 hw [] w9_hd T2.heap n0 z3) hZ (hw _ (List.mem_of_getElem? (i := 98) rfl)) (hw _ (List.mem_of_getElem? (i := 30) rfl)) (by decide) (by decide)) q9a q9b q9c (g := (mkF m 23 #[.val (.ref o0), .val (.ref w9_hd)] [(.ref w9_hd), (.long w0_sz), (.ref o0)])) rfl (by rw [hml]; rfl) (Steps.refl _) (argsL := []) (rest := [(.long w0_sz), (.ref o0)]) (lenOf pd___J rfl) rfl (by show 2 * 0 + _ ≤ _; exact Nat.le_of_eq rfl) (hb hby d18_23) (fun _ _ => ⟨rfl, e8, (by decide : 0 + 0 ≤ _), (by decide : 0 + 0 ≤ _)⟩)
  dsimp only [Pt.U, Pt.locs, Pt.cells, Pt.slots] at X9 l9 y9 z9 st9 hQ9
  subst l9 y9 z9
  have N9q := (show _ ∧ _ ∧ _ from hQ9).1
  have hv9 := (show _ ∧ _ ∧ _ from hQ9).2.1
  have e9 := (show _ ∧ _ ∧ _ from hQ9).2.2
  clear hQ9
  subst hv9
  have N9 := Fr.app N2 N9q
  have k10 := (E_o0.keep K2)
  obtain ⟨T11, h11, X11, e11, W11, st11⟩ := putF X9 hx hZ hown (host := "") (Or.inl (hw _ (List.mem_of_getElem? (i := 88) rfl))) Via.refl e9 k7 k10 (Or.inl (hw _ (List.mem_of_getElem? (i := 89) rfl))) (hw _ (List.mem_of_getElem? (i := 1) rfl)) (ty := .long) (by decide) rfl rfl (g := (mkF m 29 #[.val (.ref o0), .val (.ref w9_hd)] [(.long (w0_sz - f14)), (.ref o0)])) rfl rfl (hb hby d18_29)
  have Fw11 := k7.same W11
  have N11 := Fr.snoc X11 N9 g_o0
  have z12 : n0 ≤ h11.size := Nat.le_trans z3 (Keep.of_wr W11).1
  have hs13 : h0.size ≤ h11.size := Nat.le_trans hs4 (Keep.of_wr W11).1
  obtain ⟨fs, hr, hrun, hended, hW, hsame⟩ := X11.leave (v := some (.ref w9_hd)) (fun h => by rw [Bd.returns] at h; cases h) hlk
  refine ⟨_, _, pre0 _ ?_, hrun, hended, _, _, rfl, ?_, ⟨_, rfl⟩, hW, hsame.mono (by decide) (by decide)⟩
  · skip
    show Steps p.tables e below (s₁.setTop (mkF m 0 #[.val (.ref o0), .unset] [])) _
    refine XS.aloadN X0.here hx rfl (hb hby d18_0) rfl rfl ?_
    show Steps p.tables e below (s₁.setTop (mkF m 1 #[.val (.ref o0), .unset] [(.ref o0)])) _
    refine st1 _ ?_
    show Steps p.tables e below (T1.setTop (mkF m 4 #[.val (.ref o0), .unset] [(.ref w1_dq)])) _
    refine st2.trans ?_
    show Steps p.tables e below (T2.setTop (mkF m 9 #[.val (.ref o0), .unset] [(.ref w9_hd)])) _
    refine st6 _ ?_
    show Steps p.tables e below (T6.setTop (mkF m 12 #[.val (.ref o0), .unset] [(.ref w9_hd)])) _
    refine XS.astoreN X6.here hx rfl (hb hby d18_12) rfl rfl (l' := #[.val (.ref o0), .val (.ref w9_hd)]) rfl ?_
    show Steps p.tables e below (T6.setTop (mkF m 13 #[.val (.ref o0), .val (.ref w9_hd)] [])) _
    refine XS.aloadN X6.here hx rfl (hb hby d18_13) rfl rfl ?_
    show Steps p.tables e below (T6.setTop (mkF m 14 #[.val (.ref o0), .val (.ref w9_hd)] [(.ref w9_hd)])) _
    refine XS.ifnullNo X6.here hx rfl (hb hby d18_14) rfl ?_
    show Steps p.tables e below (T6.setTop (mkF m 17 #[.val (.ref o0), .val (.ref w9_hd)] [])) _
    refine XS.aloadN X6.here hx rfl (hb hby d18_17) rfl rfl ?_
    show Steps p.tables e below (T6.setTop (mkF m 18 #[.val (.ref o0), .val (.ref w9_hd)] [(.ref o0)])) _
    refine XS.dup X6.here hx rfl (hb hby d18_18) rfl rfl ?_
    show Steps p.tables e below (T6.setTop (mkF m 19 #[.val (.ref o0), .val (.ref w9_hd)] [(.ref o0), (.ref o0)])) _
    refine st8 _ ?_
    show Steps p.tables e below (T8.setTop (mkF m 22 #[.val (.ref o0), .val (.ref w9_hd)] [(.long w0_sz), (.ref o0)])) _
    refine XS.aloadN X8.here hx rfl (hb hby d18_22) rfl rfl ?_
    show Steps p.tables e below (T8.setTop (mkF m 23 #[.val (.ref o0), .val (.ref w9_hd)] [(.ref w9_hd), (.long w0_sz), (.ref o0)])) _
    refine st9.trans ?_
    show Steps p.tables e below (T9.setTop (mkF m 28 #[.val (.ref o0), .val (.ref w9_hd)] [(.long f14), (.long w0_sz), (.ref o0)])) _
    refine XT.lsub X9.here hx rfl (hb hby d18_28) rfl ?_
    show Steps p.tables e below (T9.setTop (mkF m 29 #[.val (.ref o0), .val (.ref w9_hd)] [(.long (w0_sz - f14)), (.ref o0)])) _
    refine st11 _ ?_
    show Steps p.tables e below (T11.setTop (mkF m 32 #[.val (.ref o0), .val (.ref w9_hd)] [])) _
    refine XS.aloadN X11.here hx rfl (hb hby d18_32) rfl rfl ?_
    show Steps p.tables e below (T11.setTop (mkF m 33 #[.val (.ref o0), .val (.ref w9_hd)] [(.ref w9_hd)])) _
    exact X11.areturnOut hx rfl Bd.returns rfl (hb hby d18_33) hr
  · skip
    show Qql0_2 Z o0 w1_dq w0_sz w2_els w9_hd u21_e u22_e u23_e u24_e u25_e u26_e u27_e u28_e u29_e u30_e u31_e u32_e u33_e u34_e u35_e u36_e kA h0 n0 _ T11.heap _
    rw [e11]
    have k14 := (po2_0.other W11 (Ne.symm ne_o0_w2_els))
    have k15 := (po2_1.wr W11)
    have k16 := (po2_2.other W11 (Or.inl (Ne.symm ne_o0_w1_dq)))
    have k17 := (po2_3.other W11 (Or.inl (Ne.symm ne_o0_w1_dq)))
    have k18 := (po2_4.other W11 (Or.inl (Ne.symm ne_o0_w1_dq)))
    have k19 := (k10.wr W11)
    have k20 := ((F_events_o0.keep K2 (ninS ne_o0_w2_els (ninS ne_o0_w1_dq nin0))).other W11 (Or.inr (slot_ne (Or.inr (hw _ (List.mem_of_getElem? (i := 27) rfl))) (Or.inl (hw _ (List.mem_of_getElem? (i := 89) rfl))) (by decide) (t := (.object "java/util/Deque")) (t' := .long) (by decide) (by decide))))
    exact ⟨N11, rfl, (((Keep.refl h0 [w2_els, w1_dq, o0]).trans K2 (allS (Or.inl (List.mem_of_getElem? (i := 0) rfl)) (allS (Or.inl (List.mem_of_getElem? (i := 1) rfl)) all0))).wr W11 (Or.inl (List.mem_of_getElem? (i := 2) rfl))), k14, k15, k16, k17, k18, k19, k20, Fw11⟩
theorem ef_po16_1 (m : MethodId) (o0 : Addr) : entryFrame m #[(.ref o0)] 4 = mkF m 0 #[.val (.ref o0), .unset, .unset, .unset] [] := by first | (simp [entryFrame, mkF, argsToLocals, Value.category]; done) | rfl
def Qpo16_1 (Z : State) (o0 : Addr) (w2_els : Addr) (u20_e : Value) (u21_e : Value) (u22_e : Value) (u23_e : Value) (u24_e : Value) (u25_e : Value) (u26_e : Value) (u27_e : Value) (u28_e : Value) (u29_e : Value) (u30_e : Value) (u31_e : Value) (u32_e : Value) (u33_e : Value) (u34_e : Value) (u35_e : Value) (w9_hd : Addr) (kA : ClassId) (h0 : Heap) (n0 : Nat) (v : Option Value) (h : Heap) (L : List Loc) : Prop := Fr n0 L ∧ v = some (.ref w9_hd) ∧ Keep h0 h [w2_els, o0] ∧ Arv Z h w2_els kA (.object "java/lang/Object") (17 : Int32) [u20_e, u21_e, u22_e, u23_e, u24_e, u25_e, u26_e, u27_e, u28_e, u29_e, u30_e, u31_e, u32_e, u33_e, u34_e, u35_e, .null] .null ∧ Exa Z h o0 "java/util/ArrayDeque" ∧ Fld Z h o0 "java/util/ArrayDeque" "elements" "[Ljava/lang/Object;" (.ref w2_els) ∧ Fld Z h o0 "java/util/ArrayDeque" "head" "I" (.int (0 : Int32)) ∧ Fld Z h o0 "java/util/ArrayDeque" "tail" "I" (.int (1 : Int32))
set_option maxRecDepth 65536 in
set_option maxHeartbeats 40000000 in
theorem rmpo16_1 (l : Launch) (Z : State) (a0 : Array Value) (hw : ∀ d ∈ tables_1, d.before a0 Z = true) (ws : List Jvm.Cond) (o0 : Addr) (w2_els : Addr) (u20_e : Value) (u21_e : Value) (u22_e : Value) (u23_e : Value) (u24_e : Value) (u25_e : Value) (u26_e : Value) (u27_e : Value) (u28_e : Value) (u29_e : Value) (u30_e : Value) (u31_e : Value) (u32_e : Value) (u33_e : Value) (u34_e : Value) (u35_e : Value) (w9_hd : Addr) (kA : ClassId) (h0 : Heap) (n0 : Nat) (Z0 : n0 ≤ h0.size) (E_o0 : Exa Z h0 o0 "java/util/ArrayDeque") (F_elements_o0 : Fld Z h0 o0 "java/util/ArrayDeque" "elements" "[Ljava/lang/Object;" (.ref w2_els)) (F_head_o0 : Fld Z h0 o0 "java/util/ArrayDeque" "head" "I" (.int (16 : Int32))) (F_tail_o0 : Fld Z h0 o0 "java/util/ArrayDeque" "tail" "I" (.int (1 : Int32))) (V_w2_els : Arv Z h0 w2_els kA (.object "java/lang/Object") (17 : Int32) [u20_e, u21_e, u22_e, u23_e, u24_e, u25_e, u26_e, u27_e, u28_e, u29_e, u30_e, u31_e, u32_e, u33_e, u34_e, u35_e, (.ref w9_hd)] .null) (g_w2_els : n0 ≤ w2_els) (ne_o0_w2_els : o0 ≠ w2_els) (g_o0 : n0 ≤ o0) :
    MetFree l (⟨"java/util/ArrayDeque", "pollFirst", "()Ljava/lang/Object;"⟩ : MethodName) (head1 (Jvm.Cond.code (⟨"java/util/ArrayDeque", "pollFirst", "()Ljava/lang/Object;"⟩ : MethodName) jdk_21_method_20_code 4 (some (.object "java/lang/Object")) :: ws) ({ frames := 1, cells := 0, slots := 0, locals := 14 } : Room)) (fun a U => a = #[(.ref o0)] ∧ Z.Warmed39 U.vm ∧ U.heap = h0) (fun _ _ _ _ _ => True) (fun _ U o U' => ∃ v L, o = .returned v ∧ Qpo16_1 Z o0 w2_els u20_e u21_e u22_e u23_e u24_e u25_e u26_e u27_e u28_e u29_e u30_e u31_e u32_e u33_e u34_e u35_e w9_hd kA h0 n0 v U'.heap L ∧ FrameEnd U o U' L ({ frames := 1, cells := 0, slots := 0, locals := 14 } : Room).cells ({ frames := 1, cells := 0, slots := 0, locals := 14 } : Room).slots) := by
  refine MetFree.of_bodySF (plainFor_of_name pn_java_util_ArrayDeque) hisR ?_
  intro p e s m args below meth c s₁ Bd hml0 hP hK
  obtain ⟨rfl, hZ, hh⟩ := hP
  have hx := Bd.exec
  have hby := Bd.bytes
  have hml : c.maxLocals = 4 := hml0
  have hown : s.vm.findClass "java/util/ArrayDeque" = some m.cls := findClass_of_methodNamed Bd.named
  have hnm := (name_of_methodNamed Bd.named Bd.method).1
  have hlk := BodyLoose.notSynchronized Bd
  have X0 : Stand p l e ({ frames := 1, cells := 0, slots := 0, locals := 14 } : Room) s m #[(.ref o0)] below meth c s₁ [] 0 0 := Stand.of_body Bd
  have e0 : s₁.heap = h0 := by rw [← hh, Bd.state]; rfl
  have N0 := Fr.nil n0
  have pre0 : ∀ t, Steps p.tables e below (s₁.setTop (mkF m 0 #[.val (.ref o0), .unset, .unset, .unset] [])) t → Steps p.tables e below (s₁.setTop (entryFrame m #[(.ref o0)] 4)) t := fun t k => castTop (ef_po16_1 m o0) k
  obtain ⟨T1, X1, e1, st1⟩ := getF X0 hx hZ hown (host := "") (Or.inl (hw _ (List.mem_of_getElem? (i := 24) rfl))) Via.refl e0 F_elements_o0 (g := (mkF m 1 #[.val (.ref o0), .unset, .unset, .unset] [(.ref o0)])) rfl rfl (hb hby d20_1)
  obtain ⟨T2, X2, e2, st2⟩ := getF X1 hx hZ hown (host := "") (Or.inl (hw _ (List.mem_of_getElem? (i := 64) rfl))) Via.refl e1 F_head_o0 (g := (mkF m 7 #[.val (.ref o0), .val (.ref w2_els), .unset, .unset] [(.ref o0), (.ref w2_els)])) rfl rfl (hb hby d20_7)
  obtain ⟨vr3, _, ⟨T3, L3, k3, n3⟩, -, X3, ⟨Lc3, hQ3, l3, y3, z3⟩, st3⟩ := Jvm.LawKit.callS X2 hx (y := (⟨"java/util/ArrayDeque", "elementAt", "([Ljava/lang/Object;I)Ljava/lang/Object;"⟩ : MethodName)) hown (mvT hZ (hw _ (List.mem_of_getElem? (i := 66) rfl))) (mvT hZ (hw _ (List.mem_of_getElem? (i := 67) rfl))) (mvT hZ (hw _ (List.mem_of_getElem? (i := 11) rfl))) (mvT hZ (hw _ (List.mem_of_getElem? (i := 68) rfl))) (by decide) (backOf (W := 0) (rmea16 l Z a0 hw [] w2_els u20_e u21_e u22_e u23_e u24_e u25_e u26_e u27_e u28_e u29_e u30_e u31_e u32_e u33_e u34_e u35_e w9_hd kA h0 n0 Z0 V_w2_els) hZ (hw _ (List.mem_of_getElem? (i := 68) rfl)) (hw _ (List.mem_of_getElem? (i := 11) rfl)) (by decide) (by decide)) (g := (mkF m 12 #[.val (.ref o0), .val (.ref w2_els), .val (.int (16 : Int32)), .unset] [(.int (16 : Int32)), (.ref w2_els)])) rfl (by rw [hml]; rfl) (argsL := [(.ref w2_els), (.int (16 : Int32))]) (rest := []) (lenOf pd___Ljava_lang_Object_I_Ljava_lang_Object_ rfl) rfl (by show 2 * 0 + _ ≤ _; exact Nat.le_of_eq rfl) (hb hby d20_12) (fun _ _ => ⟨rfl, e2, (by decide : 0 + 0 ≤ _), (by decide : 0 + 0 ≤ _)⟩)
  dsimp only [Pt.U, Pt.locs, Pt.cells, Pt.slots] at X3 l3 y3 z3 st3 hQ3
  subst l3 y3 z3
  have N3q := (show _ ∧ _ ∧ _ from hQ3).1
  have hv3 := (show _ ∧ _ ∧ _ from hQ3).2.1
  have e3 := (show _ ∧ _ ∧ _ from hQ3).2.2
  clear hQ3
  subst hv3
  have N3 := Fr.app N0 N3q
  obtain ⟨cl4, Ar4, qc4, S4, M4, Ha4, G4⟩ := id V_w2_els
  have hin5 : ¬ ((16 : Int32) < 0 ∨ cl4.slots.size ≤ ((16 : Int32)).toNatClampNeg) := inb_of S4 ⟨by decide, by decide⟩
  obtain ⟨T6, h6, X6, e6, W6, st6⟩ := stR X3 hx hZ e3 Ar4 (j := (16 : Int32)) hin5 rfl (Or.inl rfl) (g := (mkF m 23 #[.val (.ref o0), .val (.ref w2_els), .val (.int (16 : Int32)), .val (.ref w9_hd)] [.null, (.int (16 : Int32)), (.ref w2_els)])) rfl rfl (hb hby d20_23)
  have V6 : Arv Z h6 w2_els kA (.object "java/lang/Object") (17 : Int32) [u20_e, u21_e, u22_e, u23_e, u24_e, u25_e, u26_e, u27_e, u28_e, u29_e, u30_e, u31_e, u32_e, u33_e, u34_e, u35_e, .null] .null := Arv.set Ar4 qc4 S4 M4 Ha4 G4 rfl W6 16 rfl (Nat.le_of_ble_eq_true rfl)
  have N6 := Fr.snoc X6 N3 g_w2_els
  have z7 : n0 ≤ h6.size := Nat.le_trans Z0 (Keep.of_wr W6).1
  have hs8 : h0.size ≤ h6.size := Nat.le_trans (Nat.le_refl h0.size) (Keep.of_wr W6).1
  obtain ⟨cl9, Ar9, qc9, S9, M9, Ha9, G9⟩ := id V6
  obtain ⟨vr10, _, ⟨T10, L10, k10, n10⟩, -, X10, ⟨Lc10, hQ10, l10, y10, z10⟩, st10⟩ := Jvm.LawKit.callS X6 hx (y := (⟨"java/util/ArrayDeque", "inc", "(II)I"⟩ : MethodName)) hown (mvT hZ (hw _ (List.mem_of_getElem? (i := 113) rfl))) (mvT hZ (hw _ (List.mem_of_getElem? (i := 114) rfl))) (mvT hZ (hw _ (List.mem_of_getElem? (i := 11) rfl))) (mvT hZ (hw _ (List.mem_of_getElem? (i := 115) rfl))) (by decide) (backOf (W := 1) (rm17 l Z a0 hw [] (16 : Int32) (17 : Int32) h6 n0 z7) hZ (hw _ (List.mem_of_getElem? (i := 115) rfl)) (hw _ (List.mem_of_getElem? (i := 11) rfl)) (by decide) (by decide)) (g := (mkF m 28 #[.val (.ref o0), .val (.ref w2_els), .val (.int (16 : Int32)), .val (.ref w9_hd)] [(.int (17 : Int32)), (.int (16 : Int32)), (.ref o0)])) rfl (by rw [hml]; rfl) (argsL := [(.int (16 : Int32)), (.int (17 : Int32))]) (rest := [(.ref o0)]) (lenOf pd__II_I rfl) rfl (by show 2 * 0 + _ ≤ _; exact Nat.le_of_eq rfl) (hb hby d20_28) (fun _ _ => ⟨rfl, e6, (by decide : 0 + 0 ≤ _), (by decide : 0 + 0 ≤ _)⟩)
  dsimp only [Pt.U, Pt.locs, Pt.cells, Pt.slots] at X10 l10 y10 z10 st10 hQ10
  subst l10 y10 z10
  have N10q := (show _ ∧ _ ∧ _ from hQ10).1
  have hv10 := (show _ ∧ _ ∧ _ from hQ10).2.1
  have e10 := (show _ ∧ _ ∧ _ from hQ10).2.2
  clear hQ10
  subst hv10
  have N10 := Fr.app N6 N10q
  have k11 := (F_head_o0.other W6 (Or.inl ne_o0_w2_els))
  have k12 := (E_o0.wr W6)
  obtain ⟨T13, h13, X13, e13, W13, st13⟩ := putF X10 hx hZ hown (host := "") (Or.inl (hw _ (List.mem_of_getElem? (i := 64) rfl))) Via.refl e10 k11 k12 (Or.inl (hw _ (List.mem_of_getElem? (i := 65) rfl))) (hw _ (List.mem_of_getElem? (i := 10) rfl)) (ty := .int) (by decide) rfl rfl (g := (mkF m 31 #[.val (.ref o0), .val (.ref w2_els), .val (.int (16 : Int32)), .val (.ref w9_hd)] [(.int (0 : Int32)), (.ref o0)])) rfl rfl (hb hby d20_31)
  have Fw13 := k11.same W13
  have N13 := Fr.snoc X13 N10 g_o0
  have z14 : n0 ≤ h13.size := Nat.le_trans z7 (Keep.of_wr W13).1
  have hs15 : h0.size ≤ h13.size := Nat.le_trans hs8 (Keep.of_wr W13).1
  obtain ⟨fs, hr, hrun, hended, hW, hsame⟩ := X13.leave (v := some (.ref w9_hd)) (fun h => by rw [Bd.returns] at h; cases h) hlk
  refine ⟨_, _, pre0 _ ?_, hrun, hended, _, _, rfl, ?_, ⟨_, rfl⟩, hW, hsame.mono (by decide) (by decide)⟩
  · skip
    show Steps p.tables e below (s₁.setTop (mkF m 0 #[.val (.ref o0), .unset, .unset, .unset] [])) _
    refine XS.aloadN X0.here hx rfl (hb hby d20_0) rfl rfl ?_
    show Steps p.tables e below (s₁.setTop (mkF m 1 #[.val (.ref o0), .unset, .unset, .unset] [(.ref o0)])) _
    refine st1 _ ?_
    show Steps p.tables e below (T1.setTop (mkF m 4 #[.val (.ref o0), .unset, .unset, .unset] [(.ref w2_els)])) _
    refine XS.dup X1.here hx rfl (hb hby d20_4) rfl rfl ?_
    show Steps p.tables e below (T1.setTop (mkF m 5 #[.val (.ref o0), .unset, .unset, .unset] [(.ref w2_els), (.ref w2_els)])) _
    refine XS.astoreN X1.here hx rfl (hb hby d20_5) rfl rfl (l' := #[.val (.ref o0), .val (.ref w2_els), .unset, .unset]) rfl ?_
    show Steps p.tables e below (T1.setTop (mkF m 6 #[.val (.ref o0), .val (.ref w2_els), .unset, .unset] [(.ref w2_els)])) _
    refine XS.aloadN X1.here hx rfl (hb hby d20_6) rfl rfl ?_
    show Steps p.tables e below (T1.setTop (mkF m 7 #[.val (.ref o0), .val (.ref w2_els), .unset, .unset] [(.ref o0), (.ref w2_els)])) _
    refine st2 _ ?_
    show Steps p.tables e below (T2.setTop (mkF m 10 #[.val (.ref o0), .val (.ref w2_els), .unset, .unset] [(.int (16 : Int32)), (.ref w2_els)])) _
    refine XS.dup X2.here hx rfl (hb hby d20_10) rfl rfl ?_
    show Steps p.tables e below (T2.setTop (mkF m 11 #[.val (.ref o0), .val (.ref w2_els), .unset, .unset] [(.int (16 : Int32)), (.int (16 : Int32)), (.ref w2_els)])) _
    refine XS.istoreN X2.here hx rfl (hb hby d20_11) rfl (l' := #[.val (.ref o0), .val (.ref w2_els), .val (.int (16 : Int32)), .unset]) rfl ?_
    show Steps p.tables e below (T2.setTop (mkF m 12 #[.val (.ref o0), .val (.ref w2_els), .val (.int (16 : Int32)), .unset] [(.int (16 : Int32)), (.ref w2_els)])) _
    refine st3 _ ?_
    show Steps p.tables e below (T3.setTop (mkF m 15 #[.val (.ref o0), .val (.ref w2_els), .val (.int (16 : Int32)), .unset] [(.ref w9_hd)])) _
    refine XS.astoreN X3.here hx rfl (hb hby d20_15) rfl rfl (l' := #[.val (.ref o0), .val (.ref w2_els), .val (.int (16 : Int32)), .val (.ref w9_hd)]) rfl ?_
    show Steps p.tables e below (T3.setTop (mkF m 16 #[.val (.ref o0), .val (.ref w2_els), .val (.int (16 : Int32)), .val (.ref w9_hd)] [])) _
    refine XS.aloadN X3.here hx rfl (hb hby d20_16) rfl rfl ?_
    show Steps p.tables e below (T3.setTop (mkF m 17 #[.val (.ref o0), .val (.ref w2_els), .val (.int (16 : Int32)), .val (.ref w9_hd)] [(.ref w9_hd)])) _
    refine XS.ifnullNo X3.here hx rfl (hb hby d20_17) rfl ?_
    show Steps p.tables e below (T3.setTop (mkF m 20 #[.val (.ref o0), .val (.ref w2_els), .val (.int (16 : Int32)), .val (.ref w9_hd)] [])) _
    refine XS.aloadN X3.here hx rfl (hb hby d20_20) rfl rfl ?_
    show Steps p.tables e below (T3.setTop (mkF m 21 #[.val (.ref o0), .val (.ref w2_els), .val (.int (16 : Int32)), .val (.ref w9_hd)] [(.ref w2_els)])) _
    refine XS.iloadN X3.here hx rfl (hb hby d20_21) rfl ?_
    show Steps p.tables e below (T3.setTop (mkF m 22 #[.val (.ref o0), .val (.ref w2_els), .val (.int (16 : Int32)), .val (.ref w9_hd)] [(.int (16 : Int32)), (.ref w2_els)])) _
    refine XS.aconstNull X3.here hx rfl (hb hby d20_22) ?_
    show Steps p.tables e below (T3.setTop (mkF m 23 #[.val (.ref o0), .val (.ref w2_els), .val (.int (16 : Int32)), .val (.ref w9_hd)] [.null, (.int (16 : Int32)), (.ref w2_els)])) _
    refine st6 _ ?_
    show Steps p.tables e below (T6.setTop (mkF m 24 #[.val (.ref o0), .val (.ref w2_els), .val (.int (16 : Int32)), .val (.ref w9_hd)] [])) _
    refine XS.aloadN X6.here hx rfl (hb hby d20_24) rfl rfl ?_
    show Steps p.tables e below (T6.setTop (mkF m 25 #[.val (.ref o0), .val (.ref w2_els), .val (.int (16 : Int32)), .val (.ref w9_hd)] [(.ref o0)])) _
    refine XS.iloadN X6.here hx rfl (hb hby d20_25) rfl ?_
    show Steps p.tables e below (T6.setTop (mkF m 26 #[.val (.ref o0), .val (.ref w2_els), .val (.int (16 : Int32)), .val (.ref w9_hd)] [(.int (16 : Int32)), (.ref o0)])) _
    refine XS.aloadN X6.here hx rfl (hb hby d20_26) rfl rfl ?_
    show Steps p.tables e below (T6.setTop (mkF m 27 #[.val (.ref o0), .val (.ref w2_els), .val (.int (16 : Int32)), .val (.ref w9_hd)] [(.ref w2_els), (.int (16 : Int32)), (.ref o0)])) _
    refine X6.arraylength hx (by rw [e6]; exact Ar9.1) (State.isArrayOf_alike hZ.alike Ar9.2.1) (g := (mkF m 27 #[.val (.ref o0), .val (.ref w2_els), .val (.int (16 : Int32)), .val (.ref w9_hd)] [(.ref w2_els), (.int (16 : Int32)), (.ref o0)])) rfl rfl (hb hby d20_27) _ ?_
    rw [len_of S9 M9]
    show Steps p.tables e below (T6.setTop (mkF m 28 #[.val (.ref o0), .val (.ref w2_els), .val (.int (16 : Int32)), .val (.ref w9_hd)] [(.int (17 : Int32)), (.int (16 : Int32)), (.ref o0)])) _
    refine st10 _ ?_
    show Steps p.tables e below (T10.setTop (mkF m 31 #[.val (.ref o0), .val (.ref w2_els), .val (.int (16 : Int32)), .val (.ref w9_hd)] [(.int (0 : Int32)), (.ref o0)])) _
    refine st13 _ ?_
    show Steps p.tables e below (T13.setTop (mkF m 34 #[.val (.ref o0), .val (.ref w2_els), .val (.int (16 : Int32)), .val (.ref w9_hd)] [])) _
    refine XS.aloadN X13.here hx rfl (hb hby d20_34) rfl rfl ?_
    show Steps p.tables e below (T13.setTop (mkF m 35 #[.val (.ref o0), .val (.ref w2_els), .val (.int (16 : Int32)), .val (.ref w9_hd)] [(.ref w9_hd)])) _
    exact X13.areturnOut hx rfl Bd.returns rfl (hb hby d20_35) hr
  · skip
    show Qpo16_1 Z o0 w2_els u20_e u21_e u22_e u23_e u24_e u25_e u26_e u27_e u28_e u29_e u30_e u31_e u32_e u33_e u34_e u35_e w9_hd kA h0 n0 _ T13.heap _
    rw [e13]
    have k16 := (V6.other W13 (Ne.symm ne_o0_w2_els))
    have k17 := (k12.wr W13)
    have k18 := ((F_elements_o0.other W6 (Or.inl ne_o0_w2_els)).other W13 (Or.inr (slot_ne (Or.inl (hw _ (List.mem_of_getElem? (i := 25) rfl))) (Or.inl (hw _ (List.mem_of_getElem? (i := 65) rfl))) (by decide) (t := (.array (.object "java/lang/Object"))) (t' := .int) (by decide) (by decide))))
    have k19 := ((F_tail_o0.other W6 (Or.inl ne_o0_w2_els)).other W13 (Or.inr (slot_ne (Or.inl (hw _ (List.mem_of_getElem? (i := 87) rfl))) (Or.inl (hw _ (List.mem_of_getElem? (i := 65) rfl))) (by decide) (t := .int) (t' := .int) (by decide) (by decide))))
    exact ⟨N13, rfl, (((Keep.refl h0 [w2_els, o0]).wr W6 (Or.inl (List.mem_of_getElem? (i := 0) rfl))).wr W13 (Or.inl (List.mem_of_getElem? (i := 1) rfl))), k16, k17, k18, Fw13, k19⟩
theorem ef_pl16_1 (m : MethodId) (o0 : Addr) : entryFrame m #[(.ref o0)] 1 = mkF m 0 #[.val (.ref o0)] [] := by first | (simp [entryFrame, mkF, argsToLocals, Value.category]; done) | rfl
def Qpl16_1 (Z : State) (o0 : Addr) (w2_els : Addr) (u20_e : Value) (u21_e : Value) (u22_e : Value) (u23_e : Value) (u24_e : Value) (u25_e : Value) (u26_e : Value) (u27_e : Value) (u28_e : Value) (u29_e : Value) (u30_e : Value) (u31_e : Value) (u32_e : Value) (u33_e : Value) (u34_e : Value) (u35_e : Value) (w9_hd : Addr) (kA : ClassId) (h0 : Heap) (n0 : Nat) (v : Option Value) (h : Heap) (L : List Loc) : Prop := Fr n0 L ∧ v = some (.ref w9_hd) ∧ Keep h0 h [w2_els, o0] ∧ Arv Z h w2_els kA (.object "java/lang/Object") (17 : Int32) [u20_e, u21_e, u22_e, u23_e, u24_e, u25_e, u26_e, u27_e, u28_e, u29_e, u30_e, u31_e, u32_e, u33_e, u34_e, u35_e, .null] .null ∧ Exa Z h o0 "java/util/ArrayDeque" ∧ Fld Z h o0 "java/util/ArrayDeque" "elements" "[Ljava/lang/Object;" (.ref w2_els) ∧ Fld Z h o0 "java/util/ArrayDeque" "head" "I" (.int (0 : Int32)) ∧ Fld Z h o0 "java/util/ArrayDeque" "tail" "I" (.int (1 : Int32))
set_option maxRecDepth 65536 in
set_option maxHeartbeats 40000000 in
theorem rmpl16_1 (l : Launch) (Z : State) (a0 : Array Value) (hw : ∀ d ∈ tables_1, d.before a0 Z = true) (ws : List Jvm.Cond) (o0 : Addr) (w2_els : Addr) (u20_e : Value) (u21_e : Value) (u22_e : Value) (u23_e : Value) (u24_e : Value) (u25_e : Value) (u26_e : Value) (u27_e : Value) (u28_e : Value) (u29_e : Value) (u30_e : Value) (u31_e : Value) (u32_e : Value) (u33_e : Value) (u34_e : Value) (u35_e : Value) (w9_hd : Addr) (kA : ClassId) (h0 : Heap) (n0 : Nat) (Z0 : n0 ≤ h0.size) (E_o0 : Exa Z h0 o0 "java/util/ArrayDeque") (F_elements_o0 : Fld Z h0 o0 "java/util/ArrayDeque" "elements" "[Ljava/lang/Object;" (.ref w2_els)) (F_head_o0 : Fld Z h0 o0 "java/util/ArrayDeque" "head" "I" (.int (16 : Int32))) (F_tail_o0 : Fld Z h0 o0 "java/util/ArrayDeque" "tail" "I" (.int (1 : Int32))) (V_w2_els : Arv Z h0 w2_els kA (.object "java/lang/Object") (17 : Int32) [u20_e, u21_e, u22_e, u23_e, u24_e, u25_e, u26_e, u27_e, u28_e, u29_e, u30_e, u31_e, u32_e, u33_e, u34_e, u35_e, (.ref w9_hd)] .null) (g_w2_els : n0 ≤ w2_els) (ne_o0_w2_els : o0 ≠ w2_els) (g_o0 : n0 ≤ o0) :
    MetFree l (⟨"java/util/ArrayDeque", "poll", "()Ljava/lang/Object;"⟩ : MethodName) (head1 (Jvm.Cond.code (⟨"java/util/ArrayDeque", "poll", "()Ljava/lang/Object;"⟩ : MethodName) jdk_21_method_31_code 1 (some (.object "java/lang/Object")) :: ws) ({ frames := 2, cells := 0, slots := 0, locals := 29 } : Room)) (fun a U => a = #[(.ref o0)] ∧ Z.Warmed39 U.vm ∧ U.heap = h0) (fun _ _ _ _ _ => True) (fun _ U o U' => ∃ v L, o = .returned v ∧ Qpl16_1 Z o0 w2_els u20_e u21_e u22_e u23_e u24_e u25_e u26_e u27_e u28_e u29_e u30_e u31_e u32_e u33_e u34_e u35_e w9_hd kA h0 n0 v U'.heap L ∧ FrameEnd U o U' L ({ frames := 2, cells := 0, slots := 0, locals := 29 } : Room).cells ({ frames := 2, cells := 0, slots := 0, locals := 29 } : Room).slots) := by
  refine MetFree.of_bodySF (plainFor_of_name pn_java_util_ArrayDeque) hisR ?_
  intro p e s m args below meth c s₁ Bd hml0 hP hK
  obtain ⟨rfl, hZ, hh⟩ := hP
  have hx := Bd.exec
  have hby := Bd.bytes
  have hml : c.maxLocals = 1 := hml0
  have hown : s.vm.findClass "java/util/ArrayDeque" = some m.cls := findClass_of_methodNamed Bd.named
  have hnm := (name_of_methodNamed Bd.named Bd.method).1
  have hlk := BodyLoose.notSynchronized Bd
  have X0 : Stand p l e ({ frames := 2, cells := 0, slots := 0, locals := 29 } : Room) s m #[(.ref o0)] below meth c s₁ [] 0 0 := Stand.of_body Bd
  have e0 : s₁.heap = h0 := by rw [← hh, Bd.state]; rfl
  have N0 := Fr.nil n0
  have pre0 : ∀ t, Steps p.tables e below (s₁.setTop (mkF m 0 #[.val (.ref o0)] [])) t → Steps p.tables e below (s₁.setTop (entryFrame m #[(.ref o0)] 1)) t := fun t k => castTop (ef_pl16_1 m o0) k
  obtain ⟨cq1, kq1, q1a, q1b, q1c⟩ := isOf hZ e0 E_o0
  obtain ⟨vr1, _, ⟨T1, L1, k1, n1⟩, -, X1, ⟨Lc1, hQ1, l1, y1, z1⟩, st1⟩ := X0.virtualBack hx (y := (⟨"java/util/ArrayDeque", "pollFirst", "()Ljava/lang/Object;"⟩ : MethodName)) (z := (⟨"java/util/ArrayDeque", "pollFirst", "()Ljava/lang/Object;"⟩ : MethodName)) hown (mvT hZ (hw _ (List.mem_of_getElem? (i := 129) rfl))) (mvT hZ (hw _ (List.mem_of_getElem? (i := 130) rfl))) (notFace_of_selects (args := #[]) (mvT hZ (hw _ (List.mem_of_getElem? (i := 132) rfl)))) (mvT hZ (hw _ (List.mem_of_getElem? (i := 132) rfl))) (mvT hZ (hw _ (List.mem_of_getElem? (i := 131) rfl))) (by decide) (backOf (W := 0) (rmpo16_1 l Z a0 hw [] o0 w2_els u20_e u21_e u22_e u23_e u24_e u25_e u26_e u27_e u28_e u29_e u30_e u31_e u32_e u33_e u34_e u35_e w9_hd kA h0 n0 Z0 E_o0 F_elements_o0 F_head_o0 F_tail_o0 V_w2_els g_w2_els ne_o0_w2_els g_o0) hZ (hw _ (List.mem_of_getElem? (i := 133) rfl)) (hw _ (List.mem_of_getElem? (i := 11) rfl)) (by decide) (by decide)) q1a q1c (g := (mkF m 1 #[.val (.ref o0)] [(.ref o0)])) rfl (by rw [hml]; rfl) (Steps.refl _) (argsL := []) (rest := []) (lenOf pd___Ljava_lang_Object_ rfl) rfl (by show 2 * 0 + _ ≤ _; exact Nat.le_of_eq rfl) (hb hby d19_1) (fun _ _ => ⟨rfl, e0, (by decide : 0 + 0 ≤ _), (by decide : 0 + 0 ≤ _)⟩)
  dsimp only [Pt.U, Pt.locs, Pt.cells, Pt.slots] at X1 l1 y1 z1 st1 hQ1
  subst l1 y1 z1
  have N1q := (show _ ∧ _ from hQ1).1
  have hq1 := (show _ ∧ _ from hQ1).2
  clear hQ1
  have hv1 := hq1.1
  have K1 := hq1.2.1
  have po1_0 := hq1.2.2.1
  have po1_1 := hq1.2.2.2.1
  have po1_2 := hq1.2.2.2.2.1
  have po1_3 := hq1.2.2.2.2.2.1
  have po1_4 := hq1.2.2.2.2.2.2
  clear hq1
  subst hv1
  have z2 : n0 ≤ T1.heap.size := Nat.le_trans Z0 K1.1
  have hs3 : h0.size ≤ T1.heap.size := Nat.le_trans (Nat.le_refl h0.size) K1.1
  have N1 := Fr.app N0 N1q
  obtain ⟨fs, hr, hrun, hended, hW, hsame⟩ := X1.leave (v := some (.ref w9_hd)) (fun h => by rw [Bd.returns] at h; cases h) hlk
  refine ⟨_, _, pre0 _ ?_, hrun, hended, _, _, rfl, ?_, ⟨_, rfl⟩, hW, hsame.mono (by decide) (by decide)⟩
  · skip
    show Steps p.tables e below (s₁.setTop (mkF m 0 #[.val (.ref o0)] [])) _
    refine XS.aloadN X0.here hx rfl (hb hby d19_0) rfl rfl ?_
    show Steps p.tables e below (s₁.setTop (mkF m 1 #[.val (.ref o0)] [(.ref o0)])) _
    refine st1.trans ?_
    show Steps p.tables e below (T1.setTop (mkF m 4 #[.val (.ref o0)] [(.ref w9_hd)])) _
    exact X1.areturnOut hx rfl Bd.returns rfl (hb hby d19_4) hr
  · skip
    show Qpl16_1 Z o0 w2_els u20_e u21_e u22_e u23_e u24_e u25_e u26_e u27_e u28_e u29_e u30_e u31_e u32_e u33_e u34_e u35_e w9_hd kA h0 n0 _ T1.heap _
    exact ⟨N1, rfl, ((Keep.refl h0 [w2_els, o0]).trans K1 (allS (Or.inl (List.mem_of_getElem? (i := 0) rfl)) (allS (Or.inl (List.mem_of_getElem? (i := 1) rfl)) all0))), po1_0, po1_1, po1_2, po1_3, po1_4⟩
theorem ef_ql16_1 (m : MethodId) (o0 : Addr) : entryFrame m #[(.ref o0)] 2 = mkF m 0 #[.val (.ref o0), .unset] [] := by first | (simp [entryFrame, mkF, argsToLocals, Value.category]; done) | rfl
def Qql16_1 (Z : State) (o0 : Addr) (w1_dq : Addr) (w0_sz : Int64) (w2_els : Addr) (u20_e : Value) (u21_e : Value) (u22_e : Value) (u23_e : Value) (u24_e : Value) (u25_e : Value) (u26_e : Value) (u27_e : Value) (u28_e : Value) (u29_e : Value) (u30_e : Value) (u31_e : Value) (u32_e : Value) (u33_e : Value) (u34_e : Value) (u35_e : Value) (w9_hd : Addr) (kA : ClassId) (h0 : Heap) (n0 : Nat) (v : Option Value) (h : Heap) (L : List Loc) : Prop := Fr n0 L ∧ v = some (.ref w9_hd) ∧ Keep h0 h [w2_els, w1_dq, o0] ∧ Arv Z h w2_els kA (.object "java/lang/Object") (17 : Int32) [u20_e, u21_e, u22_e, u23_e, u24_e, u25_e, u26_e, u27_e, u28_e, u29_e, u30_e, u31_e, u32_e, u33_e, u34_e, u35_e, .null] .null ∧ Exa Z h w1_dq "java/util/ArrayDeque" ∧ Fld Z h w1_dq "java/util/ArrayDeque" "elements" "[Ljava/lang/Object;" (.ref w2_els) ∧ Fld Z h w1_dq "java/util/ArrayDeque" "head" "I" (.int (0 : Int32)) ∧ Fld Z h w1_dq "java/util/ArrayDeque" "tail" "I" (.int (1 : Int32)) ∧ Exa Z h o0 "com/example/dispatch_by_catalog/dispatchbycatalog/subscriptions/EventQueue" ∧ Fld Z h o0 "com/example/dispatch_by_catalog/dispatchbycatalog/subscriptions/EventQueue" "events" "Ljava/util/Deque;" (.ref w1_dq) ∧ Fld Z h o0 "com/example/dispatch_by_catalog/dispatchbycatalog/subscriptions/EventQueue" "bytes" "J" (.long (w0_sz - f14))
set_option maxRecDepth 65536 in
set_option maxHeartbeats 40000000 in
theorem rmql16_1 (l : Launch) (Z : State) (a0 : Array Value) (hw : ∀ d ∈ tables_1, d.before a0 Z = true) (ws : List Jvm.Cond) (o0 : Addr) (w1_dq : Addr) (w0_sz : Int64) (w2_els : Addr) (u20_e : Value) (u21_e : Value) (u22_e : Value) (u23_e : Value) (u24_e : Value) (u25_e : Value) (u26_e : Value) (u27_e : Value) (u28_e : Value) (u29_e : Value) (u30_e : Value) (u31_e : Value) (u32_e : Value) (u33_e : Value) (u34_e : Value) (u35_e : Value) (w9_hd : Addr) (kA : ClassId) (h0 : Heap) (n0 : Nat) (Z0 : n0 ≤ h0.size) (E_o0 : Exa Z h0 o0 "com/example/dispatch_by_catalog/dispatchbycatalog/subscriptions/EventQueue") (F_events_o0 : Fld Z h0 o0 "com/example/dispatch_by_catalog/dispatchbycatalog/subscriptions/EventQueue" "events" "Ljava/util/Deque;" (.ref w1_dq)) (F_bytes_o0 : Fld Z h0 o0 "com/example/dispatch_by_catalog/dispatchbycatalog/subscriptions/EventQueue" "bytes" "J" (.long w0_sz)) (E_w1_dq : Exa Z h0 w1_dq "java/util/ArrayDeque") (F_elements_w1_dq : Fld Z h0 w1_dq "java/util/ArrayDeque" "elements" "[Ljava/lang/Object;" (.ref w2_els)) (F_head_w1_dq : Fld Z h0 w1_dq "java/util/ArrayDeque" "head" "I" (.int (16 : Int32))) (F_tail_w1_dq : Fld Z h0 w1_dq "java/util/ArrayDeque" "tail" "I" (.int (1 : Int32))) (V_w2_els : Arv Z h0 w2_els kA (.object "java/lang/Object") (17 : Int32) [u20_e, u21_e, u22_e, u23_e, u24_e, u25_e, u26_e, u27_e, u28_e, u29_e, u30_e, u31_e, u32_e, u33_e, u34_e, u35_e, (.ref w9_hd)] .null) (E_w9_hd : Exa Z h0 w9_hd "com/example/dispatch_by_catalog/dispatchbycatalog/subscriptions/DroppedEvents") (g_w2_els : n0 ≤ w2_els) (ne_w1_dq_w2_els : w1_dq ≠ w2_els) (g_w1_dq : n0 ≤ w1_dq) (ne_o0_w1_dq : o0 ≠ w1_dq) (ne_o0_w2_els : o0 ≠ w2_els) (g_o0 : n0 ≤ o0) :
    MetFree l (⟨"com/example/dispatch_by_catalog/dispatchbycatalog/subscriptions/EventQueue", "poll", "()Lcom/example/dispatch_by_catalog/dispatchbycatalog/subscriptions/Event;"⟩ : MethodName) (head1 (Jvm.Cond.code (⟨"com/example/dispatch_by_catalog/dispatchbycatalog/subscriptions/EventQueue", "poll", "()Lcom/example/dispatch_by_catalog/dispatchbycatalog/subscriptions/Event;"⟩ : MethodName) prog_41_method_6_code 2 (some (.object "com/example/dispatch_by_catalog/dispatchbycatalog/subscriptions/Event")) :: ws) ({ frames := 3, cells := 0, slots := 0, locals := 41 } : Room)) (fun a U => a = #[(.ref o0)] ∧ Z.Warmed39 U.vm ∧ U.heap = h0) (fun _ _ _ _ _ => True) (fun _ U o U' => ∃ v L, o = .returned v ∧ Qql16_1 Z o0 w1_dq w0_sz w2_els u20_e u21_e u22_e u23_e u24_e u25_e u26_e u27_e u28_e u29_e u30_e u31_e u32_e u33_e u34_e u35_e w9_hd kA h0 n0 v U'.heap L ∧ FrameEnd U o U' L ({ frames := 3, cells := 0, slots := 0, locals := 41 } : Room).cells ({ frames := 3, cells := 0, slots := 0, locals := 41 } : Room).slots) := by
  refine MetFree.of_bodySF (plainFor_of_name pn_com_example_dispatch_by_catalog_dispatchbycatalog_subscriptions_EventQueue) hisR ?_
  intro p e s m args below meth c s₁ Bd hml0 hP hK
  obtain ⟨rfl, hZ, hh⟩ := hP
  have hx := Bd.exec
  have hby := Bd.bytes
  have hml : c.maxLocals = 2 := hml0
  have hown : s.vm.findClass "com/example/dispatch_by_catalog/dispatchbycatalog/subscriptions/EventQueue" = some m.cls := findClass_of_methodNamed Bd.named
  have hnm := (name_of_methodNamed Bd.named Bd.method).1
  have hlk := BodyLoose.notSynchronized Bd
  have X0 : Stand p l e ({ frames := 3, cells := 0, slots := 0, locals := 41 } : Room) s m #[(.ref o0)] below meth c s₁ [] 0 0 := Stand.of_body Bd
  have e0 : s₁.heap = h0 := by rw [← hh, Bd.state]; rfl
  have N0 := Fr.nil n0
  have pre0 : ∀ t, Steps p.tables e below (s₁.setTop (mkF m 0 #[.val (.ref o0), .unset] [])) t → Steps p.tables e below (s₁.setTop (entryFrame m #[(.ref o0)] 2)) t := fun t k => castTop (ef_ql16_1 m o0) k
  obtain ⟨T1, X1, e1, st1⟩ := getF X0 hx hZ hown (host := "") (Or.inl (hw _ (List.mem_of_getElem? (i := 26) rfl))) Via.refl e0 F_events_o0 (g := (mkF m 1 #[.val (.ref o0), .unset] [(.ref o0)])) rfl rfl (hb hby d18_1)
  obtain ⟨cq2, kq2, q2a, q2b, q2c⟩ := isOf hZ e1 E_w1_dq
  obtain ⟨vr2, _, ⟨T2, L2, k2, n2⟩, -, X2, ⟨Lc2, hQ2, l2, y2, z2⟩, st2⟩ := X1.interfaceBack hx (xi := (⟨"java/util/Deque", "poll", "()Ljava/lang/Object;"⟩ : MethodName)) (y := (⟨"java/util/ArrayDeque", "poll", "()Ljava/lang/Object;"⟩ : MethodName)) hown (mvT hZ (hw _ (List.mem_of_getElem? (i := 121) rfl))) (mvT hZ (hw _ (List.mem_of_getElem? (i := 122) rfl))) (mvT hZ (hw _ (List.mem_of_getElem? (i := 123) rfl))) (mvT hZ (hw _ (List.mem_of_getElem? (i := 124) rfl))) (mvT hZ (hw _ (List.mem_of_getElem? (i := 125) rfl))) (mvT hZ (hw _ (List.mem_of_getElem? (i := 126) rfl))) (mvT hZ (hw _ (List.mem_of_getElem? (i := 127) rfl))) (mvT hZ (hw _ (List.mem_of_getElem? (i := 57) rfl))) (by decide) (backOf (W := 0) (rmpl16_1 l Z a0 hw [] w1_dq w2_els u20_e u21_e u22_e u23_e u24_e u25_e u26_e u27_e u28_e u29_e u30_e u31_e u32_e u33_e u34_e u35_e w9_hd kA h0 n0 Z0 E_w1_dq F_elements_w1_dq F_head_w1_dq F_tail_w1_dq V_w2_els g_w2_els ne_w1_dq_w2_els g_w1_dq) hZ (hw _ (List.mem_of_getElem? (i := 128) rfl)) (hw _ (List.mem_of_getElem? (i := 11) rfl)) (by decide) (by decide)) q2a q2b q2c (g := (mkF m 4 #[.val (.ref o0), .unset] [(.ref w1_dq)])) rfl (by rw [hml]; rfl) (Steps.refl _) (argsL := []) (rest := []) (lenOf pd___Ljava_lang_Object_ rfl) rfl (by show 2 * 0 + _ ≤ _; exact Nat.le_of_eq rfl) (hb hby d18_4) (fun _ _ => ⟨rfl, e1, (by decide : 0 + 0 ≤ _), (by decide : 0 + 0 ≤ _)⟩)
  dsimp only [Pt.U, Pt.locs, Pt.cells, Pt.slots] at X2 l2 y2 z2 st2 hQ2
  subst l2 y2 z2
  have N2q := (show _ ∧ _ from hQ2).1
  have hq2 := (show _ ∧ _ from hQ2).2
  clear hQ2
  have hv2 := hq2.1
  have K2 := hq2.2.1
  have po2_0 := hq2.2.2.1
  have po2_1 := hq2.2.2.2.1
  have po2_2 := hq2.2.2.2.2.1
  have po2_3 := hq2.2.2.2.2.2.1
  have po2_4 := hq2.2.2.2.2.2.2
  clear hq2
  subst hv2
  have z3 : n0 ≤ T2.heap.size := Nat.le_trans Z0 K2.1
  have hs4 : h0.size ≤ T2.heap.size := Nat.le_trans (Nat.le_refl h0.size) K2.1
  have N2 := Fr.app N0 N2q
  have k5 := (E_w9_hd.keep K2)
  obtain ⟨T6, X6, e6, st6⟩ := castY X2 hx hZ hown (hw _ (List.mem_of_getElem? (i := 99) rfl)) rfl (Ins.of_exa k5 (hw _ (List.mem_of_getElem? (i := 97) rfl))) (g := (mkF m 9 #[.val (.ref o0), .unset] [(.ref w9_hd)])) rfl rfl (hb hby d18_9)
  have k7 := (F_bytes_o0.keep K2 (ninS ne_o0_w2_els (ninS ne_o0_w1_dq nin0)))
  obtain ⟨T8, X8, e8, st8⟩ := getF X6 hx hZ hown (host := "") (Or.inl (hw _ (List.mem_of_getElem? (i := 88) rfl))) Via.refl e6 k7 (g := (mkF m 19 #[.val (.ref o0), .val (.ref w9_hd)] [(.ref o0), (.ref o0)])) rfl rfl (hb hby d18_19)
  obtain ⟨cq9, kq9, q9a, q9b, q9c⟩ := isOf hZ e8 k5
  obtain ⟨vr9, _, ⟨T9, L9, k9, n9⟩, -, X9, ⟨Lc9, hQ9, l9, y9, z9⟩, st9⟩ := X8.interfaceBack hx (xi := (⟨"com/example/dispatch_by_catalog/dispatchbycatalog/subscriptions/Event", "size", "()J"⟩ : MethodName)) (y := (⟨"com/example/dispatch_by_catalog/dispatchbycatalog/subscriptions/DroppedEvents", "size", "()J"⟩ : MethodName)) hown (mvT hZ (hw _ (List.mem_of_getElem? (i := 90) rfl))) (mvT hZ (hw _ (List.mem_of_getElem? (i := 91) rfl))) (mvT hZ (hw _ (List.mem_of_getElem? (i := 92) rfl))) (mvT hZ (hw _ (List.mem_of_getElem? (i := 93) rfl))) (mvT hZ (hw _ (List.mem_of_getElem? (i := 94) rfl))) (mvT hZ (hw _ (List.mem_of_getElem? (i := 95) rfl))) (mvT hZ (hw _ (List.mem_of_getElem? (i := 96) rfl))) (mvT hZ (hw _ (List.mem_of_getElem? (i := 97) rfl))) (by decide) (backOf (W := 3) (rm14 l Z a0 hw [] w9_hd T2.heap n0 z3) hZ (hw _ (List.mem_of_getElem? (i := 98) rfl)) (hw _ (List.mem_of_getElem? (i := 30) rfl)) (by decide) (by decide)) q9a q9b q9c (g := (mkF m 23 #[.val (.ref o0), .val (.ref w9_hd)] [(.ref w9_hd), (.long w0_sz), (.ref o0)])) rfl (by rw [hml]; rfl) (Steps.refl _) (argsL := []) (rest := [(.long w0_sz), (.ref o0)]) (lenOf pd___J rfl) rfl (by show 2 * 0 + _ ≤ _; exact Nat.le_of_eq rfl) (hb hby d18_23) (fun _ _ => ⟨rfl, e8, (by decide : 0 + 0 ≤ _), (by decide : 0 + 0 ≤ _)⟩)
  dsimp only [Pt.U, Pt.locs, Pt.cells, Pt.slots] at X9 l9 y9 z9 st9 hQ9
  subst l9 y9 z9
  have N9q := (show _ ∧ _ ∧ _ from hQ9).1
  have hv9 := (show _ ∧ _ ∧ _ from hQ9).2.1
  have e9 := (show _ ∧ _ ∧ _ from hQ9).2.2
  clear hQ9
  subst hv9
  have N9 := Fr.app N2 N9q
  have k10 := (E_o0.keep K2)
  obtain ⟨T11, h11, X11, e11, W11, st11⟩ := putF X9 hx hZ hown (host := "") (Or.inl (hw _ (List.mem_of_getElem? (i := 88) rfl))) Via.refl e9 k7 k10 (Or.inl (hw _ (List.mem_of_getElem? (i := 89) rfl))) (hw _ (List.mem_of_getElem? (i := 1) rfl)) (ty := .long) (by decide) rfl rfl (g := (mkF m 29 #[.val (.ref o0), .val (.ref w9_hd)] [(.long (w0_sz - f14)), (.ref o0)])) rfl rfl (hb hby d18_29)
  have Fw11 := k7.same W11
  have N11 := Fr.snoc X11 N9 g_o0
  have z12 : n0 ≤ h11.size := Nat.le_trans z3 (Keep.of_wr W11).1
  have hs13 : h0.size ≤ h11.size := Nat.le_trans hs4 (Keep.of_wr W11).1
  obtain ⟨fs, hr, hrun, hended, hW, hsame⟩ := X11.leave (v := some (.ref w9_hd)) (fun h => by rw [Bd.returns] at h; cases h) hlk
  refine ⟨_, _, pre0 _ ?_, hrun, hended, _, _, rfl, ?_, ⟨_, rfl⟩, hW, hsame.mono (by decide) (by decide)⟩
  · skip
    show Steps p.tables e below (s₁.setTop (mkF m 0 #[.val (.ref o0), .unset] [])) _
    refine XS.aloadN X0.here hx rfl (hb hby d18_0) rfl rfl ?_
    show Steps p.tables e below (s₁.setTop (mkF m 1 #[.val (.ref o0), .unset] [(.ref o0)])) _
    refine st1 _ ?_
    show Steps p.tables e below (T1.setTop (mkF m 4 #[.val (.ref o0), .unset] [(.ref w1_dq)])) _
    refine st2.trans ?_
    show Steps p.tables e below (T2.setTop (mkF m 9 #[.val (.ref o0), .unset] [(.ref w9_hd)])) _
    refine st6 _ ?_
    show Steps p.tables e below (T6.setTop (mkF m 12 #[.val (.ref o0), .unset] [(.ref w9_hd)])) _
    refine XS.astoreN X6.here hx rfl (hb hby d18_12) rfl rfl (l' := #[.val (.ref o0), .val (.ref w9_hd)]) rfl ?_
    show Steps p.tables e below (T6.setTop (mkF m 13 #[.val (.ref o0), .val (.ref w9_hd)] [])) _
    refine XS.aloadN X6.here hx rfl (hb hby d18_13) rfl rfl ?_
    show Steps p.tables e below (T6.setTop (mkF m 14 #[.val (.ref o0), .val (.ref w9_hd)] [(.ref w9_hd)])) _
    refine XS.ifnullNo X6.here hx rfl (hb hby d18_14) rfl ?_
    show Steps p.tables e below (T6.setTop (mkF m 17 #[.val (.ref o0), .val (.ref w9_hd)] [])) _
    refine XS.aloadN X6.here hx rfl (hb hby d18_17) rfl rfl ?_
    show Steps p.tables e below (T6.setTop (mkF m 18 #[.val (.ref o0), .val (.ref w9_hd)] [(.ref o0)])) _
    refine XS.dup X6.here hx rfl (hb hby d18_18) rfl rfl ?_
    show Steps p.tables e below (T6.setTop (mkF m 19 #[.val (.ref o0), .val (.ref w9_hd)] [(.ref o0), (.ref o0)])) _
    refine st8 _ ?_
    show Steps p.tables e below (T8.setTop (mkF m 22 #[.val (.ref o0), .val (.ref w9_hd)] [(.long w0_sz), (.ref o0)])) _
    refine XS.aloadN X8.here hx rfl (hb hby d18_22) rfl rfl ?_
    show Steps p.tables e below (T8.setTop (mkF m 23 #[.val (.ref o0), .val (.ref w9_hd)] [(.ref w9_hd), (.long w0_sz), (.ref o0)])) _
    refine st9.trans ?_
    show Steps p.tables e below (T9.setTop (mkF m 28 #[.val (.ref o0), .val (.ref w9_hd)] [(.long f14), (.long w0_sz), (.ref o0)])) _
    refine XT.lsub X9.here hx rfl (hb hby d18_28) rfl ?_
    show Steps p.tables e below (T9.setTop (mkF m 29 #[.val (.ref o0), .val (.ref w9_hd)] [(.long (w0_sz - f14)), (.ref o0)])) _
    refine st11 _ ?_
    show Steps p.tables e below (T11.setTop (mkF m 32 #[.val (.ref o0), .val (.ref w9_hd)] [])) _
    refine XS.aloadN X11.here hx rfl (hb hby d18_32) rfl rfl ?_
    show Steps p.tables e below (T11.setTop (mkF m 33 #[.val (.ref o0), .val (.ref w9_hd)] [(.ref w9_hd)])) _
    exact X11.areturnOut hx rfl Bd.returns rfl (hb hby d18_33) hr
  · skip
    show Qql16_1 Z o0 w1_dq w0_sz w2_els u20_e u21_e u22_e u23_e u24_e u25_e u26_e u27_e u28_e u29_e u30_e u31_e u32_e u33_e u34_e u35_e w9_hd kA h0 n0 _ T11.heap _
    rw [e11]
    have k14 := (po2_0.other W11 (Ne.symm ne_o0_w2_els))
    have k15 := (po2_1.wr W11)
    have k16 := (po2_2.other W11 (Or.inl (Ne.symm ne_o0_w1_dq)))
    have k17 := (po2_3.other W11 (Or.inl (Ne.symm ne_o0_w1_dq)))
    have k18 := (po2_4.other W11 (Or.inl (Ne.symm ne_o0_w1_dq)))
    have k19 := (k10.wr W11)
    have k20 := ((F_events_o0.keep K2 (ninS ne_o0_w2_els (ninS ne_o0_w1_dq nin0))).other W11 (Or.inr (slot_ne (Or.inr (hw _ (List.mem_of_getElem? (i := 27) rfl))) (Or.inl (hw _ (List.mem_of_getElem? (i := 89) rfl))) (by decide) (t := (.object "java/util/Deque")) (t' := .long) (by decide) (by decide))))
    exact ⟨N11, rfl, (((Keep.refl h0 [w2_els, w1_dq, o0]).trans K2 (allS (Or.inl (List.mem_of_getElem? (i := 0) rfl)) (allS (Or.inl (List.mem_of_getElem? (i := 1) rfl)) all0))).wr W11 (Or.inl (List.mem_of_getElem? (i := 2) rfl))), k14, k15, k16, k17, k18, k19, k20, Fw11⟩
theorem ef_po15_0 (m : MethodId) (o0 : Addr) : entryFrame m #[(.ref o0)] 4 = mkF m 0 #[.val (.ref o0), .unset, .unset, .unset] [] := by first | (simp [entryFrame, mkF, argsToLocals, Value.category]; done) | rfl
def Qpo15_0 (Z : State) (o0 : Addr) (w2_els : Addr) (u20_e : Value) (u21_e : Value) (u22_e : Value) (u23_e : Value) (u24_e : Value) (u25_e : Value) (u26_e : Value) (u27_e : Value) (u28_e : Value) (u29_e : Value) (u30_e : Value) (u31_e : Value) (u32_e : Value) (u33_e : Value) (u34_e : Value) (w9_hd : Addr) (u36_e : Value) (kA : ClassId) (h0 : Heap) (n0 : Nat) (v : Option Value) (h : Heap) (L : List Loc) : Prop := Fr n0 L ∧ v = some (.ref w9_hd) ∧ Keep h0 h [w2_els, o0] ∧ Arv Z h w2_els kA (.object "java/lang/Object") (17 : Int32) [u20_e, u21_e, u22_e, u23_e, u24_e, u25_e, u26_e, u27_e, u28_e, u29_e, u30_e, u31_e, u32_e, u33_e, u34_e, .null, u36_e] .null ∧ Exa Z h o0 "java/util/ArrayDeque" ∧ Fld Z h o0 "java/util/ArrayDeque" "elements" "[Ljava/lang/Object;" (.ref w2_els) ∧ Fld Z h o0 "java/util/ArrayDeque" "head" "I" (.int (16 : Int32)) ∧ Fld Z h o0 "java/util/ArrayDeque" "tail" "I" (.int (0 : Int32))
set_option maxRecDepth 65536 in
set_option maxHeartbeats 40000000 in
theorem rmpo15_0 (l : Launch) (Z : State) (a0 : Array Value) (hw : ∀ d ∈ tables_1, d.before a0 Z = true) (ws : List Jvm.Cond) (o0 : Addr) (w2_els : Addr) (u20_e : Value) (u21_e : Value) (u22_e : Value) (u23_e : Value) (u24_e : Value) (u25_e : Value) (u26_e : Value) (u27_e : Value) (u28_e : Value) (u29_e : Value) (u30_e : Value) (u31_e : Value) (u32_e : Value) (u33_e : Value) (u34_e : Value) (w9_hd : Addr) (u36_e : Value) (kA : ClassId) (h0 : Heap) (n0 : Nat) (Z0 : n0 ≤ h0.size) (E_o0 : Exa Z h0 o0 "java/util/ArrayDeque") (F_elements_o0 : Fld Z h0 o0 "java/util/ArrayDeque" "elements" "[Ljava/lang/Object;" (.ref w2_els)) (F_head_o0 : Fld Z h0 o0 "java/util/ArrayDeque" "head" "I" (.int (15 : Int32))) (F_tail_o0 : Fld Z h0 o0 "java/util/ArrayDeque" "tail" "I" (.int (0 : Int32))) (V_w2_els : Arv Z h0 w2_els kA (.object "java/lang/Object") (17 : Int32) [u20_e, u21_e, u22_e, u23_e, u24_e, u25_e, u26_e, u27_e, u28_e, u29_e, u30_e, u31_e, u32_e, u33_e, u34_e, (.ref w9_hd), u36_e] .null) (g_w2_els : n0 ≤ w2_els) (ne_o0_w2_els : o0 ≠ w2_els) (g_o0 : n0 ≤ o0) :
    MetFree l (⟨"java/util/ArrayDeque", "pollFirst", "()Ljava/lang/Object;"⟩ : MethodName) (head1 (Jvm.Cond.code (⟨"java/util/ArrayDeque", "pollFirst", "()Ljava/lang/Object;"⟩ : MethodName) jdk_21_method_20_code 4 (some (.object "java/lang/Object")) :: ws) ({ frames := 1, cells := 0, slots := 0, locals := 14 } : Room)) (fun a U => a = #[(.ref o0)] ∧ Z.Warmed39 U.vm ∧ U.heap = h0) (fun _ _ _ _ _ => True) (fun _ U o U' => ∃ v L, o = .returned v ∧ Qpo15_0 Z o0 w2_els u20_e u21_e u22_e u23_e u24_e u25_e u26_e u27_e u28_e u29_e u30_e u31_e u32_e u33_e u34_e w9_hd u36_e kA h0 n0 v U'.heap L ∧ FrameEnd U o U' L ({ frames := 1, cells := 0, slots := 0, locals := 14 } : Room).cells ({ frames := 1, cells := 0, slots := 0, locals := 14 } : Room).slots) := by
  refine MetFree.of_bodySF (plainFor_of_name pn_java_util_ArrayDeque) hisR ?_
  intro p e s m args below meth c s₁ Bd hml0 hP hK
  obtain ⟨rfl, hZ, hh⟩ := hP
  have hx := Bd.exec
  have hby := Bd.bytes
  have hml : c.maxLocals = 4 := hml0
  have hown : s.vm.findClass "java/util/ArrayDeque" = some m.cls := findClass_of_methodNamed Bd.named
  have hnm := (name_of_methodNamed Bd.named Bd.method).1
  have hlk := BodyLoose.notSynchronized Bd
  have X0 : Stand p l e ({ frames := 1, cells := 0, slots := 0, locals := 14 } : Room) s m #[(.ref o0)] below meth c s₁ [] 0 0 := Stand.of_body Bd
  have e0 : s₁.heap = h0 := by rw [← hh, Bd.state]; rfl
  have N0 := Fr.nil n0
  have pre0 : ∀ t, Steps p.tables e below (s₁.setTop (mkF m 0 #[.val (.ref o0), .unset, .unset, .unset] [])) t → Steps p.tables e below (s₁.setTop (entryFrame m #[(.ref o0)] 4)) t := fun t k => castTop (ef_po15_0 m o0) k
  obtain ⟨T1, X1, e1, st1⟩ := getF X0 hx hZ hown (host := "") (Or.inl (hw _ (List.mem_of_getElem? (i := 24) rfl))) Via.refl e0 F_elements_o0 (g := (mkF m 1 #[.val (.ref o0), .unset, .unset, .unset] [(.ref o0)])) rfl rfl (hb hby d20_1)
  obtain ⟨T2, X2, e2, st2⟩ := getF X1 hx hZ hown (host := "") (Or.inl (hw _ (List.mem_of_getElem? (i := 64) rfl))) Via.refl e1 F_head_o0 (g := (mkF m 7 #[.val (.ref o0), .val (.ref w2_els), .unset, .unset] [(.ref o0), (.ref w2_els)])) rfl rfl (hb hby d20_7)
  obtain ⟨vr3, _, ⟨T3, L3, k3, n3⟩, -, X3, ⟨Lc3, hQ3, l3, y3, z3⟩, st3⟩ := Jvm.LawKit.callS X2 hx (y := (⟨"java/util/ArrayDeque", "elementAt", "([Ljava/lang/Object;I)Ljava/lang/Object;"⟩ : MethodName)) hown (mvT hZ (hw _ (List.mem_of_getElem? (i := 66) rfl))) (mvT hZ (hw _ (List.mem_of_getElem? (i := 67) rfl))) (mvT hZ (hw _ (List.mem_of_getElem? (i := 11) rfl))) (mvT hZ (hw _ (List.mem_of_getElem? (i := 68) rfl))) (by decide) (backOf (W := 0) (rmea15 l Z a0 hw [] w2_els u20_e u21_e u22_e u23_e u24_e u25_e u26_e u27_e u28_e u29_e u30_e u31_e u32_e u33_e u34_e w9_hd u36_e kA h0 n0 Z0 V_w2_els) hZ (hw _ (List.mem_of_getElem? (i := 68) rfl)) (hw _ (List.mem_of_getElem? (i := 11) rfl)) (by decide) (by decide)) (g := (mkF m 12 #[.val (.ref o0), .val (.ref w2_els), .val (.int (15 : Int32)), .unset] [(.int (15 : Int32)), (.ref w2_els)])) rfl (by rw [hml]; rfl) (argsL := [(.ref w2_els), (.int (15 : Int32))]) (rest := []) (lenOf pd___Ljava_lang_Object_I_Ljava_lang_Object_ rfl) rfl (by show 2 * 0 + _ ≤ _; exact Nat.le_of_eq rfl) (hb hby d20_12) (fun _ _ => ⟨rfl, e2, (by decide : 0 + 0 ≤ _), (by decide : 0 + 0 ≤ _)⟩)
  dsimp only [Pt.U, Pt.locs, Pt.cells, Pt.slots] at X3 l3 y3 z3 st3 hQ3
  subst l3 y3 z3
  have N3q := (show _ ∧ _ ∧ _ from hQ3).1
  have hv3 := (show _ ∧ _ ∧ _ from hQ3).2.1
  have e3 := (show _ ∧ _ ∧ _ from hQ3).2.2
  clear hQ3
  subst hv3
  have N3 := Fr.app N0 N3q
  obtain ⟨cl4, Ar4, qc4, S4, M4, Ha4, G4⟩ := id V_w2_els
  have hin5 : ¬ ((15 : Int32) < 0 ∨ cl4.slots.size ≤ ((15 : Int32)).toNatClampNeg) := inb_of S4 ⟨by decide, by decide⟩
  obtain ⟨T6, h6, X6, e6, W6, st6⟩ := stR X3 hx hZ e3 Ar4 (j := (15 : Int32)) hin5 rfl (Or.inl rfl) (g := (mkF m 23 #[.val (.ref o0), .val (.ref w2_els), .val (.int (15 : Int32)), .val (.ref w9_hd)] [.null, (.int (15 : Int32)), (.ref w2_els)])) rfl rfl (hb hby d20_23)
  have V6 : Arv Z h6 w2_els kA (.object "java/lang/Object") (17 : Int32) [u20_e, u21_e, u22_e, u23_e, u24_e, u25_e, u26_e, u27_e, u28_e, u29_e, u30_e, u31_e, u32_e, u33_e, u34_e, .null, u36_e] .null := Arv.set Ar4 qc4 S4 M4 Ha4 G4 rfl W6 15 rfl (Nat.le_of_ble_eq_true rfl)
  have N6 := Fr.snoc X6 N3 g_w2_els
  have z7 : n0 ≤ h6.size := Nat.le_trans Z0 (Keep.of_wr W6).1
  have hs8 : h0.size ≤ h6.size := Nat.le_trans (Nat.le_refl h0.size) (Keep.of_wr W6).1
  obtain ⟨cl9, Ar9, qc9, S9, M9, Ha9, G9⟩ := id V6
  obtain ⟨vr10, _, ⟨T10, L10, k10, n10⟩, -, X10, ⟨Lc10, hQ10, l10, y10, z10⟩, st10⟩ := Jvm.LawKit.callS X6 hx (y := (⟨"java/util/ArrayDeque", "inc", "(II)I"⟩ : MethodName)) hown (mvT hZ (hw _ (List.mem_of_getElem? (i := 113) rfl))) (mvT hZ (hw _ (List.mem_of_getElem? (i := 114) rfl))) (mvT hZ (hw _ (List.mem_of_getElem? (i := 11) rfl))) (mvT hZ (hw _ (List.mem_of_getElem? (i := 115) rfl))) (by decide) (backOf (W := 1) (rm17 l Z a0 hw [] (15 : Int32) (17 : Int32) h6 n0 z7) hZ (hw _ (List.mem_of_getElem? (i := 115) rfl)) (hw _ (List.mem_of_getElem? (i := 11) rfl)) (by decide) (by decide)) (g := (mkF m 28 #[.val (.ref o0), .val (.ref w2_els), .val (.int (15 : Int32)), .val (.ref w9_hd)] [(.int (17 : Int32)), (.int (15 : Int32)), (.ref o0)])) rfl (by rw [hml]; rfl) (argsL := [(.int (15 : Int32)), (.int (17 : Int32))]) (rest := [(.ref o0)]) (lenOf pd__II_I rfl) rfl (by show 2 * 0 + _ ≤ _; exact Nat.le_of_eq rfl) (hb hby d20_28) (fun _ _ => ⟨rfl, e6, (by decide : 0 + 0 ≤ _), (by decide : 0 + 0 ≤ _)⟩)
  dsimp only [Pt.U, Pt.locs, Pt.cells, Pt.slots] at X10 l10 y10 z10 st10 hQ10
  subst l10 y10 z10
  have N10q := (show _ ∧ _ ∧ _ from hQ10).1
  have hv10 := (show _ ∧ _ ∧ _ from hQ10).2.1
  have e10 := (show _ ∧ _ ∧ _ from hQ10).2.2
  clear hQ10
  subst hv10
  have N10 := Fr.app N6 N10q
  have k11 := (F_head_o0.other W6 (Or.inl ne_o0_w2_els))
  have k12 := (E_o0.wr W6)
  obtain ⟨T13, h13, X13, e13, W13, st13⟩ := putF X10 hx hZ hown (host := "") (Or.inl (hw _ (List.mem_of_getElem? (i := 64) rfl))) Via.refl e10 k11 k12 (Or.inl (hw _ (List.mem_of_getElem? (i := 65) rfl))) (hw _ (List.mem_of_getElem? (i := 10) rfl)) (ty := .int) (by decide) rfl rfl (g := (mkF m 31 #[.val (.ref o0), .val (.ref w2_els), .val (.int (15 : Int32)), .val (.ref w9_hd)] [(.int (16 : Int32)), (.ref o0)])) rfl rfl (hb hby d20_31)
  have Fw13 := k11.same W13
  have N13 := Fr.snoc X13 N10 g_o0
  have z14 : n0 ≤ h13.size := Nat.le_trans z7 (Keep.of_wr W13).1
  have hs15 : h0.size ≤ h13.size := Nat.le_trans hs8 (Keep.of_wr W13).1
  obtain ⟨fs, hr, hrun, hended, hW, hsame⟩ := X13.leave (v := some (.ref w9_hd)) (fun h => by rw [Bd.returns] at h; cases h) hlk
  refine ⟨_, _, pre0 _ ?_, hrun, hended, _, _, rfl, ?_, ⟨_, rfl⟩, hW, hsame.mono (by decide) (by decide)⟩
  · skip
    show Steps p.tables e below (s₁.setTop (mkF m 0 #[.val (.ref o0), .unset, .unset, .unset] [])) _
    refine XS.aloadN X0.here hx rfl (hb hby d20_0) rfl rfl ?_
    show Steps p.tables e below (s₁.setTop (mkF m 1 #[.val (.ref o0), .unset, .unset, .unset] [(.ref o0)])) _
    refine st1 _ ?_
    show Steps p.tables e below (T1.setTop (mkF m 4 #[.val (.ref o0), .unset, .unset, .unset] [(.ref w2_els)])) _
    refine XS.dup X1.here hx rfl (hb hby d20_4) rfl rfl ?_
    show Steps p.tables e below (T1.setTop (mkF m 5 #[.val (.ref o0), .unset, .unset, .unset] [(.ref w2_els), (.ref w2_els)])) _
    refine XS.astoreN X1.here hx rfl (hb hby d20_5) rfl rfl (l' := #[.val (.ref o0), .val (.ref w2_els), .unset, .unset]) rfl ?_
    show Steps p.tables e below (T1.setTop (mkF m 6 #[.val (.ref o0), .val (.ref w2_els), .unset, .unset] [(.ref w2_els)])) _
    refine XS.aloadN X1.here hx rfl (hb hby d20_6) rfl rfl ?_
    show Steps p.tables e below (T1.setTop (mkF m 7 #[.val (.ref o0), .val (.ref w2_els), .unset, .unset] [(.ref o0), (.ref w2_els)])) _
    refine st2 _ ?_
    show Steps p.tables e below (T2.setTop (mkF m 10 #[.val (.ref o0), .val (.ref w2_els), .unset, .unset] [(.int (15 : Int32)), (.ref w2_els)])) _
    refine XS.dup X2.here hx rfl (hb hby d20_10) rfl rfl ?_
    show Steps p.tables e below (T2.setTop (mkF m 11 #[.val (.ref o0), .val (.ref w2_els), .unset, .unset] [(.int (15 : Int32)), (.int (15 : Int32)), (.ref w2_els)])) _
    refine XS.istoreN X2.here hx rfl (hb hby d20_11) rfl (l' := #[.val (.ref o0), .val (.ref w2_els), .val (.int (15 : Int32)), .unset]) rfl ?_
    show Steps p.tables e below (T2.setTop (mkF m 12 #[.val (.ref o0), .val (.ref w2_els), .val (.int (15 : Int32)), .unset] [(.int (15 : Int32)), (.ref w2_els)])) _
    refine st3 _ ?_
    show Steps p.tables e below (T3.setTop (mkF m 15 #[.val (.ref o0), .val (.ref w2_els), .val (.int (15 : Int32)), .unset] [(.ref w9_hd)])) _
    refine XS.astoreN X3.here hx rfl (hb hby d20_15) rfl rfl (l' := #[.val (.ref o0), .val (.ref w2_els), .val (.int (15 : Int32)), .val (.ref w9_hd)]) rfl ?_
    show Steps p.tables e below (T3.setTop (mkF m 16 #[.val (.ref o0), .val (.ref w2_els), .val (.int (15 : Int32)), .val (.ref w9_hd)] [])) _
    refine XS.aloadN X3.here hx rfl (hb hby d20_16) rfl rfl ?_
    show Steps p.tables e below (T3.setTop (mkF m 17 #[.val (.ref o0), .val (.ref w2_els), .val (.int (15 : Int32)), .val (.ref w9_hd)] [(.ref w9_hd)])) _
    refine XS.ifnullNo X3.here hx rfl (hb hby d20_17) rfl ?_
    show Steps p.tables e below (T3.setTop (mkF m 20 #[.val (.ref o0), .val (.ref w2_els), .val (.int (15 : Int32)), .val (.ref w9_hd)] [])) _
    refine XS.aloadN X3.here hx rfl (hb hby d20_20) rfl rfl ?_
    show Steps p.tables e below (T3.setTop (mkF m 21 #[.val (.ref o0), .val (.ref w2_els), .val (.int (15 : Int32)), .val (.ref w9_hd)] [(.ref w2_els)])) _
    refine XS.iloadN X3.here hx rfl (hb hby d20_21) rfl ?_
    show Steps p.tables e below (T3.setTop (mkF m 22 #[.val (.ref o0), .val (.ref w2_els), .val (.int (15 : Int32)), .val (.ref w9_hd)] [(.int (15 : Int32)), (.ref w2_els)])) _
    refine XS.aconstNull X3.here hx rfl (hb hby d20_22) ?_
    show Steps p.tables e below (T3.setTop (mkF m 23 #[.val (.ref o0), .val (.ref w2_els), .val (.int (15 : Int32)), .val (.ref w9_hd)] [.null, (.int (15 : Int32)), (.ref w2_els)])) _
    refine st6 _ ?_
    show Steps p.tables e below (T6.setTop (mkF m 24 #[.val (.ref o0), .val (.ref w2_els), .val (.int (15 : Int32)), .val (.ref w9_hd)] [])) _
    refine XS.aloadN X6.here hx rfl (hb hby d20_24) rfl rfl ?_
    show Steps p.tables e below (T6.setTop (mkF m 25 #[.val (.ref o0), .val (.ref w2_els), .val (.int (15 : Int32)), .val (.ref w9_hd)] [(.ref o0)])) _
    refine XS.iloadN X6.here hx rfl (hb hby d20_25) rfl ?_
    show Steps p.tables e below (T6.setTop (mkF m 26 #[.val (.ref o0), .val (.ref w2_els), .val (.int (15 : Int32)), .val (.ref w9_hd)] [(.int (15 : Int32)), (.ref o0)])) _
    refine XS.aloadN X6.here hx rfl (hb hby d20_26) rfl rfl ?_
    show Steps p.tables e below (T6.setTop (mkF m 27 #[.val (.ref o0), .val (.ref w2_els), .val (.int (15 : Int32)), .val (.ref w9_hd)] [(.ref w2_els), (.int (15 : Int32)), (.ref o0)])) _
    refine X6.arraylength hx (by rw [e6]; exact Ar9.1) (State.isArrayOf_alike hZ.alike Ar9.2.1) (g := (mkF m 27 #[.val (.ref o0), .val (.ref w2_els), .val (.int (15 : Int32)), .val (.ref w9_hd)] [(.ref w2_els), (.int (15 : Int32)), (.ref o0)])) rfl rfl (hb hby d20_27) _ ?_
    rw [len_of S9 M9]
    show Steps p.tables e below (T6.setTop (mkF m 28 #[.val (.ref o0), .val (.ref w2_els), .val (.int (15 : Int32)), .val (.ref w9_hd)] [(.int (17 : Int32)), (.int (15 : Int32)), (.ref o0)])) _
    refine st10 _ ?_
    show Steps p.tables e below (T10.setTop (mkF m 31 #[.val (.ref o0), .val (.ref w2_els), .val (.int (15 : Int32)), .val (.ref w9_hd)] [(.int (16 : Int32)), (.ref o0)])) _
    refine st13 _ ?_
    show Steps p.tables e below (T13.setTop (mkF m 34 #[.val (.ref o0), .val (.ref w2_els), .val (.int (15 : Int32)), .val (.ref w9_hd)] [])) _
    refine XS.aloadN X13.here hx rfl (hb hby d20_34) rfl rfl ?_
    show Steps p.tables e below (T13.setTop (mkF m 35 #[.val (.ref o0), .val (.ref w2_els), .val (.int (15 : Int32)), .val (.ref w9_hd)] [(.ref w9_hd)])) _
    exact X13.areturnOut hx rfl Bd.returns rfl (hb hby d20_35) hr
  · skip
    show Qpo15_0 Z o0 w2_els u20_e u21_e u22_e u23_e u24_e u25_e u26_e u27_e u28_e u29_e u30_e u31_e u32_e u33_e u34_e w9_hd u36_e kA h0 n0 _ T13.heap _
    rw [e13]
    have k16 := (V6.other W13 (Ne.symm ne_o0_w2_els))
    have k17 := (k12.wr W13)
    have k18 := ((F_elements_o0.other W6 (Or.inl ne_o0_w2_els)).other W13 (Or.inr (slot_ne (Or.inl (hw _ (List.mem_of_getElem? (i := 25) rfl))) (Or.inl (hw _ (List.mem_of_getElem? (i := 65) rfl))) (by decide) (t := (.array (.object "java/lang/Object"))) (t' := .int) (by decide) (by decide))))
    have k19 := ((F_tail_o0.other W6 (Or.inl ne_o0_w2_els)).other W13 (Or.inr (slot_ne (Or.inl (hw _ (List.mem_of_getElem? (i := 87) rfl))) (Or.inl (hw _ (List.mem_of_getElem? (i := 65) rfl))) (by decide) (t := .int) (t' := .int) (by decide) (by decide))))
    exact ⟨N13, rfl, (((Keep.refl h0 [w2_els, o0]).wr W6 (Or.inl (List.mem_of_getElem? (i := 0) rfl))).wr W13 (Or.inl (List.mem_of_getElem? (i := 1) rfl))), k16, k17, k18, Fw13, k19⟩
theorem ef_pl15_0 (m : MethodId) (o0 : Addr) : entryFrame m #[(.ref o0)] 1 = mkF m 0 #[.val (.ref o0)] [] := by first | (simp [entryFrame, mkF, argsToLocals, Value.category]; done) | rfl
def Qpl15_0 (Z : State) (o0 : Addr) (w2_els : Addr) (u20_e : Value) (u21_e : Value) (u22_e : Value) (u23_e : Value) (u24_e : Value) (u25_e : Value) (u26_e : Value) (u27_e : Value) (u28_e : Value) (u29_e : Value) (u30_e : Value) (u31_e : Value) (u32_e : Value) (u33_e : Value) (u34_e : Value) (w9_hd : Addr) (u36_e : Value) (kA : ClassId) (h0 : Heap) (n0 : Nat) (v : Option Value) (h : Heap) (L : List Loc) : Prop := Fr n0 L ∧ v = some (.ref w9_hd) ∧ Keep h0 h [w2_els, o0] ∧ Arv Z h w2_els kA (.object "java/lang/Object") (17 : Int32) [u20_e, u21_e, u22_e, u23_e, u24_e, u25_e, u26_e, u27_e, u28_e, u29_e, u30_e, u31_e, u32_e, u33_e, u34_e, .null, u36_e] .null ∧ Exa Z h o0 "java/util/ArrayDeque" ∧ Fld Z h o0 "java/util/ArrayDeque" "elements" "[Ljava/lang/Object;" (.ref w2_els) ∧ Fld Z h o0 "java/util/ArrayDeque" "head" "I" (.int (16 : Int32)) ∧ Fld Z h o0 "java/util/ArrayDeque" "tail" "I" (.int (0 : Int32))
set_option maxRecDepth 65536 in
set_option maxHeartbeats 40000000 in
theorem rmpl15_0 (l : Launch) (Z : State) (a0 : Array Value) (hw : ∀ d ∈ tables_1, d.before a0 Z = true) (ws : List Jvm.Cond) (o0 : Addr) (w2_els : Addr) (u20_e : Value) (u21_e : Value) (u22_e : Value) (u23_e : Value) (u24_e : Value) (u25_e : Value) (u26_e : Value) (u27_e : Value) (u28_e : Value) (u29_e : Value) (u30_e : Value) (u31_e : Value) (u32_e : Value) (u33_e : Value) (u34_e : Value) (w9_hd : Addr) (u36_e : Value) (kA : ClassId) (h0 : Heap) (n0 : Nat) (Z0 : n0 ≤ h0.size) (E_o0 : Exa Z h0 o0 "java/util/ArrayDeque") (F_elements_o0 : Fld Z h0 o0 "java/util/ArrayDeque" "elements" "[Ljava/lang/Object;" (.ref w2_els)) (F_head_o0 : Fld Z h0 o0 "java/util/ArrayDeque" "head" "I" (.int (15 : Int32))) (F_tail_o0 : Fld Z h0 o0 "java/util/ArrayDeque" "tail" "I" (.int (0 : Int32))) (V_w2_els : Arv Z h0 w2_els kA (.object "java/lang/Object") (17 : Int32) [u20_e, u21_e, u22_e, u23_e, u24_e, u25_e, u26_e, u27_e, u28_e, u29_e, u30_e, u31_e, u32_e, u33_e, u34_e, (.ref w9_hd), u36_e] .null) (g_w2_els : n0 ≤ w2_els) (ne_o0_w2_els : o0 ≠ w2_els) (g_o0 : n0 ≤ o0) :
    MetFree l (⟨"java/util/ArrayDeque", "poll", "()Ljava/lang/Object;"⟩ : MethodName) (head1 (Jvm.Cond.code (⟨"java/util/ArrayDeque", "poll", "()Ljava/lang/Object;"⟩ : MethodName) jdk_21_method_31_code 1 (some (.object "java/lang/Object")) :: ws) ({ frames := 2, cells := 0, slots := 0, locals := 29 } : Room)) (fun a U => a = #[(.ref o0)] ∧ Z.Warmed39 U.vm ∧ U.heap = h0) (fun _ _ _ _ _ => True) (fun _ U o U' => ∃ v L, o = .returned v ∧ Qpl15_0 Z o0 w2_els u20_e u21_e u22_e u23_e u24_e u25_e u26_e u27_e u28_e u29_e u30_e u31_e u32_e u33_e u34_e w9_hd u36_e kA h0 n0 v U'.heap L ∧ FrameEnd U o U' L ({ frames := 2, cells := 0, slots := 0, locals := 29 } : Room).cells ({ frames := 2, cells := 0, slots := 0, locals := 29 } : Room).slots) := by
  refine MetFree.of_bodySF (plainFor_of_name pn_java_util_ArrayDeque) hisR ?_
  intro p e s m args below meth c s₁ Bd hml0 hP hK
  obtain ⟨rfl, hZ, hh⟩ := hP
  have hx := Bd.exec
  have hby := Bd.bytes
  have hml : c.maxLocals = 1 := hml0
  have hown : s.vm.findClass "java/util/ArrayDeque" = some m.cls := findClass_of_methodNamed Bd.named
  have hnm := (name_of_methodNamed Bd.named Bd.method).1
  have hlk := BodyLoose.notSynchronized Bd
  have X0 : Stand p l e ({ frames := 2, cells := 0, slots := 0, locals := 29 } : Room) s m #[(.ref o0)] below meth c s₁ [] 0 0 := Stand.of_body Bd
  have e0 : s₁.heap = h0 := by rw [← hh, Bd.state]; rfl
  have N0 := Fr.nil n0
  have pre0 : ∀ t, Steps p.tables e below (s₁.setTop (mkF m 0 #[.val (.ref o0)] [])) t → Steps p.tables e below (s₁.setTop (entryFrame m #[(.ref o0)] 1)) t := fun t k => castTop (ef_pl15_0 m o0) k
  obtain ⟨cq1, kq1, q1a, q1b, q1c⟩ := isOf hZ e0 E_o0
  obtain ⟨vr1, _, ⟨T1, L1, k1, n1⟩, -, X1, ⟨Lc1, hQ1, l1, y1, z1⟩, st1⟩ := X0.virtualBack hx (y := (⟨"java/util/ArrayDeque", "pollFirst", "()Ljava/lang/Object;"⟩ : MethodName)) (z := (⟨"java/util/ArrayDeque", "pollFirst", "()Ljava/lang/Object;"⟩ : MethodName)) hown (mvT hZ (hw _ (List.mem_of_getElem? (i := 129) rfl))) (mvT hZ (hw _ (List.mem_of_getElem? (i := 130) rfl))) (notFace_of_selects (args := #[]) (mvT hZ (hw _ (List.mem_of_getElem? (i := 132) rfl)))) (mvT hZ (hw _ (List.mem_of_getElem? (i := 132) rfl))) (mvT hZ (hw _ (List.mem_of_getElem? (i := 131) rfl))) (by decide) (backOf (W := 0) (rmpo15_0 l Z a0 hw [] o0 w2_els u20_e u21_e u22_e u23_e u24_e u25_e u26_e u27_e u28_e u29_e u30_e u31_e u32_e u33_e u34_e w9_hd u36_e kA h0 n0 Z0 E_o0 F_elements_o0 F_head_o0 F_tail_o0 V_w2_els g_w2_els ne_o0_w2_els g_o0) hZ (hw _ (List.mem_of_getElem? (i := 133) rfl)) (hw _ (List.mem_of_getElem? (i := 11) rfl)) (by decide) (by decide)) q1a q1c (g := (mkF m 1 #[.val (.ref o0)] [(.ref o0)])) rfl (by rw [hml]; rfl) (Steps.refl _) (argsL := []) (rest := []) (lenOf pd___Ljava_lang_Object_ rfl) rfl (by show 2 * 0 + _ ≤ _; exact Nat.le_of_eq rfl) (hb hby d19_1) (fun _ _ => ⟨rfl, e0, (by decide : 0 + 0 ≤ _), (by decide : 0 + 0 ≤ _)⟩)
  dsimp only [Pt.U, Pt.locs, Pt.cells, Pt.slots] at X1 l1 y1 z1 st1 hQ1
  subst l1 y1 z1
  have N1q := (show _ ∧ _ from hQ1).1
  have hq1 := (show _ ∧ _ from hQ1).2
  clear hQ1
  have hv1 := hq1.1
  have K1 := hq1.2.1
  have po1_0 := hq1.2.2.1
  have po1_1 := hq1.2.2.2.1
  have po1_2 := hq1.2.2.2.2.1
  have po1_3 := hq1.2.2.2.2.2.1
  have po1_4 := hq1.2.2.2.2.2.2
  clear hq1
  subst hv1
  have z2 : n0 ≤ T1.heap.size := Nat.le_trans Z0 K1.1
  have hs3 : h0.size ≤ T1.heap.size := Nat.le_trans (Nat.le_refl h0.size) K1.1
  have N1 := Fr.app N0 N1q
  obtain ⟨fs, hr, hrun, hended, hW, hsame⟩ := X1.leave (v := some (.ref w9_hd)) (fun h => by rw [Bd.returns] at h; cases h) hlk
  refine ⟨_, _, pre0 _ ?_, hrun, hended, _, _, rfl, ?_, ⟨_, rfl⟩, hW, hsame.mono (by decide) (by decide)⟩
  · skip
    show Steps p.tables e below (s₁.setTop (mkF m 0 #[.val (.ref o0)] [])) _
    refine XS.aloadN X0.here hx rfl (hb hby d19_0) rfl rfl ?_
    show Steps p.tables e below (s₁.setTop (mkF m 1 #[.val (.ref o0)] [(.ref o0)])) _
    refine st1.trans ?_
    show Steps p.tables e below (T1.setTop (mkF m 4 #[.val (.ref o0)] [(.ref w9_hd)])) _
    exact X1.areturnOut hx rfl Bd.returns rfl (hb hby d19_4) hr
  · skip
    show Qpl15_0 Z o0 w2_els u20_e u21_e u22_e u23_e u24_e u25_e u26_e u27_e u28_e u29_e u30_e u31_e u32_e u33_e u34_e w9_hd u36_e kA h0 n0 _ T1.heap _
    exact ⟨N1, rfl, ((Keep.refl h0 [w2_els, o0]).trans K1 (allS (Or.inl (List.mem_of_getElem? (i := 0) rfl)) (allS (Or.inl (List.mem_of_getElem? (i := 1) rfl)) all0))), po1_0, po1_1, po1_2, po1_3, po1_4⟩
theorem ef_ql15_0 (m : MethodId) (o0 : Addr) : entryFrame m #[(.ref o0)] 2 = mkF m 0 #[.val (.ref o0), .unset] [] := by first | (simp [entryFrame, mkF, argsToLocals, Value.category]; done) | rfl
def Qql15_0 (Z : State) (o0 : Addr) (w1_dq : Addr) (w0_sz : Int64) (w2_els : Addr) (u20_e : Value) (u21_e : Value) (u22_e : Value) (u23_e : Value) (u24_e : Value) (u25_e : Value) (u26_e : Value) (u27_e : Value) (u28_e : Value) (u29_e : Value) (u30_e : Value) (u31_e : Value) (u32_e : Value) (u33_e : Value) (u34_e : Value) (w9_hd : Addr) (u36_e : Value) (kA : ClassId) (h0 : Heap) (n0 : Nat) (v : Option Value) (h : Heap) (L : List Loc) : Prop := Fr n0 L ∧ v = some (.ref w9_hd) ∧ Keep h0 h [w2_els, w1_dq, o0] ∧ Arv Z h w2_els kA (.object "java/lang/Object") (17 : Int32) [u20_e, u21_e, u22_e, u23_e, u24_e, u25_e, u26_e, u27_e, u28_e, u29_e, u30_e, u31_e, u32_e, u33_e, u34_e, .null, u36_e] .null ∧ Exa Z h w1_dq "java/util/ArrayDeque" ∧ Fld Z h w1_dq "java/util/ArrayDeque" "elements" "[Ljava/lang/Object;" (.ref w2_els) ∧ Fld Z h w1_dq "java/util/ArrayDeque" "head" "I" (.int (16 : Int32)) ∧ Fld Z h w1_dq "java/util/ArrayDeque" "tail" "I" (.int (0 : Int32)) ∧ Exa Z h o0 "com/example/dispatch_by_catalog/dispatchbycatalog/subscriptions/EventQueue" ∧ Fld Z h o0 "com/example/dispatch_by_catalog/dispatchbycatalog/subscriptions/EventQueue" "events" "Ljava/util/Deque;" (.ref w1_dq) ∧ Fld Z h o0 "com/example/dispatch_by_catalog/dispatchbycatalog/subscriptions/EventQueue" "bytes" "J" (.long (w0_sz - f14))
set_option maxRecDepth 65536 in
set_option maxHeartbeats 40000000 in
theorem rmql15_0 (l : Launch) (Z : State) (a0 : Array Value) (hw : ∀ d ∈ tables_1, d.before a0 Z = true) (ws : List Jvm.Cond) (o0 : Addr) (w1_dq : Addr) (w0_sz : Int64) (w2_els : Addr) (u20_e : Value) (u21_e : Value) (u22_e : Value) (u23_e : Value) (u24_e : Value) (u25_e : Value) (u26_e : Value) (u27_e : Value) (u28_e : Value) (u29_e : Value) (u30_e : Value) (u31_e : Value) (u32_e : Value) (u33_e : Value) (u34_e : Value) (w9_hd : Addr) (u36_e : Value) (kA : ClassId) (h0 : Heap) (n0 : Nat) (Z0 : n0 ≤ h0.size) (E_o0 : Exa Z h0 o0 "com/example/dispatch_by_catalog/dispatchbycatalog/subscriptions/EventQueue") (F_events_o0 : Fld Z h0 o0 "com/example/dispatch_by_catalog/dispatchbycatalog/subscriptions/EventQueue" "events" "Ljava/util/Deque;" (.ref w1_dq)) (F_bytes_o0 : Fld Z h0 o0 "com/example/dispatch_by_catalog/dispatchbycatalog/subscriptions/EventQueue" "bytes" "J" (.long w0_sz)) (E_w1_dq : Exa Z h0 w1_dq "java/util/ArrayDeque") (F_elements_w1_dq : Fld Z h0 w1_dq "java/util/ArrayDeque" "elements" "[Ljava/lang/Object;" (.ref w2_els)) (F_head_w1_dq : Fld Z h0 w1_dq "java/util/ArrayDeque" "head" "I" (.int (15 : Int32))) (F_tail_w1_dq : Fld Z h0 w1_dq "java/util/ArrayDeque" "tail" "I" (.int (0 : Int32))) (V_w2_els : Arv Z h0 w2_els kA (.object "java/lang/Object") (17 : Int32) [u20_e, u21_e, u22_e, u23_e, u24_e, u25_e, u26_e, u27_e, u28_e, u29_e, u30_e, u31_e, u32_e, u33_e, u34_e, (.ref w9_hd), u36_e] .null) (E_w9_hd : Exa Z h0 w9_hd "com/example/dispatch_by_catalog/dispatchbycatalog/subscriptions/DroppedEvents") (g_w2_els : n0 ≤ w2_els) (ne_w1_dq_w2_els : w1_dq ≠ w2_els) (g_w1_dq : n0 ≤ w1_dq) (ne_o0_w1_dq : o0 ≠ w1_dq) (ne_o0_w2_els : o0 ≠ w2_els) (g_o0 : n0 ≤ o0) :
    MetFree l (⟨"com/example/dispatch_by_catalog/dispatchbycatalog/subscriptions/EventQueue", "poll", "()Lcom/example/dispatch_by_catalog/dispatchbycatalog/subscriptions/Event;"⟩ : MethodName) (head1 (Jvm.Cond.code (⟨"com/example/dispatch_by_catalog/dispatchbycatalog/subscriptions/EventQueue", "poll", "()Lcom/example/dispatch_by_catalog/dispatchbycatalog/subscriptions/Event;"⟩ : MethodName) prog_41_method_6_code 2 (some (.object "com/example/dispatch_by_catalog/dispatchbycatalog/subscriptions/Event")) :: ws) ({ frames := 3, cells := 0, slots := 0, locals := 41 } : Room)) (fun a U => a = #[(.ref o0)] ∧ Z.Warmed39 U.vm ∧ U.heap = h0) (fun _ _ _ _ _ => True) (fun _ U o U' => ∃ v L, o = .returned v ∧ Qql15_0 Z o0 w1_dq w0_sz w2_els u20_e u21_e u22_e u23_e u24_e u25_e u26_e u27_e u28_e u29_e u30_e u31_e u32_e u33_e u34_e w9_hd u36_e kA h0 n0 v U'.heap L ∧ FrameEnd U o U' L ({ frames := 3, cells := 0, slots := 0, locals := 41 } : Room).cells ({ frames := 3, cells := 0, slots := 0, locals := 41 } : Room).slots) := by
  refine MetFree.of_bodySF (plainFor_of_name pn_com_example_dispatch_by_catalog_dispatchbycatalog_subscriptions_EventQueue) hisR ?_
  intro p e s m args below meth c s₁ Bd hml0 hP hK
  obtain ⟨rfl, hZ, hh⟩ := hP
  have hx := Bd.exec
  have hby := Bd.bytes
  have hml : c.maxLocals = 2 := hml0
  have hown : s.vm.findClass "com/example/dispatch_by_catalog/dispatchbycatalog/subscriptions/EventQueue" = some m.cls := findClass_of_methodNamed Bd.named
  have hnm := (name_of_methodNamed Bd.named Bd.method).1
  have hlk := BodyLoose.notSynchronized Bd
  have X0 : Stand p l e ({ frames := 3, cells := 0, slots := 0, locals := 41 } : Room) s m #[(.ref o0)] below meth c s₁ [] 0 0 := Stand.of_body Bd
  have e0 : s₁.heap = h0 := by rw [← hh, Bd.state]; rfl
  have N0 := Fr.nil n0
  have pre0 : ∀ t, Steps p.tables e below (s₁.setTop (mkF m 0 #[.val (.ref o0), .unset] [])) t → Steps p.tables e below (s₁.setTop (entryFrame m #[(.ref o0)] 2)) t := fun t k => castTop (ef_ql15_0 m o0) k
  obtain ⟨T1, X1, e1, st1⟩ := getF X0 hx hZ hown (host := "") (Or.inl (hw _ (List.mem_of_getElem? (i := 26) rfl))) Via.refl e0 F_events_o0 (g := (mkF m 1 #[.val (.ref o0), .unset] [(.ref o0)])) rfl rfl (hb hby d18_1)
  obtain ⟨cq2, kq2, q2a, q2b, q2c⟩ := isOf hZ e1 E_w1_dq
  obtain ⟨vr2, _, ⟨T2, L2, k2, n2⟩, -, X2, ⟨Lc2, hQ2, l2, y2, z2⟩, st2⟩ := X1.interfaceBack hx (xi := (⟨"java/util/Deque", "poll", "()Ljava/lang/Object;"⟩ : MethodName)) (y := (⟨"java/util/ArrayDeque", "poll", "()Ljava/lang/Object;"⟩ : MethodName)) hown (mvT hZ (hw _ (List.mem_of_getElem? (i := 121) rfl))) (mvT hZ (hw _ (List.mem_of_getElem? (i := 122) rfl))) (mvT hZ (hw _ (List.mem_of_getElem? (i := 123) rfl))) (mvT hZ (hw _ (List.mem_of_getElem? (i := 124) rfl))) (mvT hZ (hw _ (List.mem_of_getElem? (i := 125) rfl))) (mvT hZ (hw _ (List.mem_of_getElem? (i := 126) rfl))) (mvT hZ (hw _ (List.mem_of_getElem? (i := 127) rfl))) (mvT hZ (hw _ (List.mem_of_getElem? (i := 57) rfl))) (by decide) (backOf (W := 0) (rmpl15_0 l Z a0 hw [] w1_dq w2_els u20_e u21_e u22_e u23_e u24_e u25_e u26_e u27_e u28_e u29_e u30_e u31_e u32_e u33_e u34_e w9_hd u36_e kA h0 n0 Z0 E_w1_dq F_elements_w1_dq F_head_w1_dq F_tail_w1_dq V_w2_els g_w2_els ne_w1_dq_w2_els g_w1_dq) hZ (hw _ (List.mem_of_getElem? (i := 128) rfl)) (hw _ (List.mem_of_getElem? (i := 11) rfl)) (by decide) (by decide)) q2a q2b q2c (g := (mkF m 4 #[.val (.ref o0), .unset] [(.ref w1_dq)])) rfl (by rw [hml]; rfl) (Steps.refl _) (argsL := []) (rest := []) (lenOf pd___Ljava_lang_Object_ rfl) rfl (by show 2 * 0 + _ ≤ _; exact Nat.le_of_eq rfl) (hb hby d18_4) (fun _ _ => ⟨rfl, e1, (by decide : 0 + 0 ≤ _), (by decide : 0 + 0 ≤ _)⟩)
  dsimp only [Pt.U, Pt.locs, Pt.cells, Pt.slots] at X2 l2 y2 z2 st2 hQ2
  subst l2 y2 z2
  have N2q := (show _ ∧ _ from hQ2).1
  have hq2 := (show _ ∧ _ from hQ2).2
  clear hQ2
  have hv2 := hq2.1
  have K2 := hq2.2.1
  have po2_0 := hq2.2.2.1
  have po2_1 := hq2.2.2.2.1
  have po2_2 := hq2.2.2.2.2.1
  have po2_3 := hq2.2.2.2.2.2.1
  have po2_4 := hq2.2.2.2.2.2.2
  clear hq2
  subst hv2
  have z3 : n0 ≤ T2.heap.size := Nat.le_trans Z0 K2.1
  have hs4 : h0.size ≤ T2.heap.size := Nat.le_trans (Nat.le_refl h0.size) K2.1
  have N2 := Fr.app N0 N2q
  have k5 := (E_w9_hd.keep K2)
  obtain ⟨T6, X6, e6, st6⟩ := castY X2 hx hZ hown (hw _ (List.mem_of_getElem? (i := 99) rfl)) rfl (Ins.of_exa k5 (hw _ (List.mem_of_getElem? (i := 97) rfl))) (g := (mkF m 9 #[.val (.ref o0), .unset] [(.ref w9_hd)])) rfl rfl (hb hby d18_9)
  have k7 := (F_bytes_o0.keep K2 (ninS ne_o0_w2_els (ninS ne_o0_w1_dq nin0)))
  obtain ⟨T8, X8, e8, st8⟩ := getF X6 hx hZ hown (host := "") (Or.inl (hw _ (List.mem_of_getElem? (i := 88) rfl))) Via.refl e6 k7 (g := (mkF m 19 #[.val (.ref o0), .val (.ref w9_hd)] [(.ref o0), (.ref o0)])) rfl rfl (hb hby d18_19)
  obtain ⟨cq9, kq9, q9a, q9b, q9c⟩ := isOf hZ e8 k5
  obtain ⟨vr9, _, ⟨T9, L9, k9, n9⟩, -, X9, ⟨Lc9, hQ9, l9, y9, z9⟩, st9⟩ := X8.interfaceBack hx (xi := (⟨"com/example/dispatch_by_catalog/dispatchbycatalog/subscriptions/Event", "size", "()J"⟩ : MethodName)) (y := (⟨"com/example/dispatch_by_catalog/dispatchbycatalog/subscriptions/DroppedEvents", "size", "()J"⟩ : MethodName)) hown (mvT hZ (hw _ (List.mem_of_getElem? (i := 90) rfl))) (mvT hZ (hw _ (List.mem_of_getElem? (i := 91) rfl))) (mvT hZ (hw _ (List.mem_of_getElem? (i := 92) rfl))) (mvT hZ (hw _ (List.mem_of_getElem? (i := 93) rfl))) (mvT hZ (hw _ (List.mem_of_getElem? (i := 94) rfl))) (mvT hZ (hw _ (List.mem_of_getElem? (i := 95) rfl))) (mvT hZ (hw _ (List.mem_of_getElem? (i := 96) rfl))) (mvT hZ (hw _ (List.mem_of_getElem? (i := 97) rfl))) (by decide) (backOf (W := 3) (rm14 l Z a0 hw [] w9_hd T2.heap n0 z3) hZ (hw _ (List.mem_of_getElem? (i := 98) rfl)) (hw _ (List.mem_of_getElem? (i := 30) rfl)) (by decide) (by decide)) q9a q9b q9c (g := (mkF m 23 #[.val (.ref o0), .val (.ref w9_hd)] [(.ref w9_hd), (.long w0_sz), (.ref o0)])) rfl (by rw [hml]; rfl) (Steps.refl _) (argsL := []) (rest := [(.long w0_sz), (.ref o0)]) (lenOf pd___J rfl) rfl (by show 2 * 0 + _ ≤ _; exact Nat.le_of_eq rfl) (hb hby d18_23) (fun _ _ => ⟨rfl, e8, (by decide : 0 + 0 ≤ _), (by decide : 0 + 0 ≤ _)⟩)
  dsimp only [Pt.U, Pt.locs, Pt.cells, Pt.slots] at X9 l9 y9 z9 st9 hQ9
  subst l9 y9 z9
  have N9q := (show _ ∧ _ ∧ _ from hQ9).1
  have hv9 := (show _ ∧ _ ∧ _ from hQ9).2.1
  have e9 := (show _ ∧ _ ∧ _ from hQ9).2.2
  clear hQ9
  subst hv9
  have N9 := Fr.app N2 N9q
  have k10 := (E_o0.keep K2)
  obtain ⟨T11, h11, X11, e11, W11, st11⟩ := putF X9 hx hZ hown (host := "") (Or.inl (hw _ (List.mem_of_getElem? (i := 88) rfl))) Via.refl e9 k7 k10 (Or.inl (hw _ (List.mem_of_getElem? (i := 89) rfl))) (hw _ (List.mem_of_getElem? (i := 1) rfl)) (ty := .long) (by decide) rfl rfl (g := (mkF m 29 #[.val (.ref o0), .val (.ref w9_hd)] [(.long (w0_sz - f14)), (.ref o0)])) rfl rfl (hb hby d18_29)
  have Fw11 := k7.same W11
  have N11 := Fr.snoc X11 N9 g_o0
  have z12 : n0 ≤ h11.size := Nat.le_trans z3 (Keep.of_wr W11).1
  have hs13 : h0.size ≤ h11.size := Nat.le_trans hs4 (Keep.of_wr W11).1
  obtain ⟨fs, hr, hrun, hended, hW, hsame⟩ := X11.leave (v := some (.ref w9_hd)) (fun h => by rw [Bd.returns] at h; cases h) hlk
  refine ⟨_, _, pre0 _ ?_, hrun, hended, _, _, rfl, ?_, ⟨_, rfl⟩, hW, hsame.mono (by decide) (by decide)⟩
  · skip
    show Steps p.tables e below (s₁.setTop (mkF m 0 #[.val (.ref o0), .unset] [])) _
    refine XS.aloadN X0.here hx rfl (hb hby d18_0) rfl rfl ?_
    show Steps p.tables e below (s₁.setTop (mkF m 1 #[.val (.ref o0), .unset] [(.ref o0)])) _
    refine st1 _ ?_
    show Steps p.tables e below (T1.setTop (mkF m 4 #[.val (.ref o0), .unset] [(.ref w1_dq)])) _
    refine st2.trans ?_
    show Steps p.tables e below (T2.setTop (mkF m 9 #[.val (.ref o0), .unset] [(.ref w9_hd)])) _
    refine st6 _ ?_
    show Steps p.tables e below (T6.setTop (mkF m 12 #[.val (.ref o0), .unset] [(.ref w9_hd)])) _
    refine XS.astoreN X6.here hx rfl (hb hby d18_12) rfl rfl (l' := #[.val (.ref o0), .val (.ref w9_hd)]) rfl ?_
    show Steps p.tables e below (T6.setTop (mkF m 13 #[.val (.ref o0), .val (.ref w9_hd)] [])) _
    refine XS.aloadN X6.here hx rfl (hb hby d18_13) rfl rfl ?_
    show Steps p.tables e below (T6.setTop (mkF m 14 #[.val (.ref o0), .val (.ref w9_hd)] [(.ref w9_hd)])) _
    refine XS.ifnullNo X6.here hx rfl (hb hby d18_14) rfl ?_
    show Steps p.tables e below (T6.setTop (mkF m 17 #[.val (.ref o0), .val (.ref w9_hd)] [])) _
    refine XS.aloadN X6.here hx rfl (hb hby d18_17) rfl rfl ?_
    show Steps p.tables e below (T6.setTop (mkF m 18 #[.val (.ref o0), .val (.ref w9_hd)] [(.ref o0)])) _
    refine XS.dup X6.here hx rfl (hb hby d18_18) rfl rfl ?_
    show Steps p.tables e below (T6.setTop (mkF m 19 #[.val (.ref o0), .val (.ref w9_hd)] [(.ref o0), (.ref o0)])) _
    refine st8 _ ?_
    show Steps p.tables e below (T8.setTop (mkF m 22 #[.val (.ref o0), .val (.ref w9_hd)] [(.long w0_sz), (.ref o0)])) _
    refine XS.aloadN X8.here hx rfl (hb hby d18_22) rfl rfl ?_
    show Steps p.tables e below (T8.setTop (mkF m 23 #[.val (.ref o0), .val (.ref w9_hd)] [(.ref w9_hd), (.long w0_sz), (.ref o0)])) _
    refine st9.trans ?_
    show Steps p.tables e below (T9.setTop (mkF m 28 #[.val (.ref o0), .val (.ref w9_hd)] [(.long f14), (.long w0_sz), (.ref o0)])) _
    refine XT.lsub X9.here hx rfl (hb hby d18_28) rfl ?_
    show Steps p.tables e below (T9.setTop (mkF m 29 #[.val (.ref o0), .val (.ref w9_hd)] [(.long (w0_sz - f14)), (.ref o0)])) _
    refine st11 _ ?_
    show Steps p.tables e below (T11.setTop (mkF m 32 #[.val (.ref o0), .val (.ref w9_hd)] [])) _
    refine XS.aloadN X11.here hx rfl (hb hby d18_32) rfl rfl ?_
    show Steps p.tables e below (T11.setTop (mkF m 33 #[.val (.ref o0), .val (.ref w9_hd)] [(.ref w9_hd)])) _
    exact X11.areturnOut hx rfl Bd.returns rfl (hb hby d18_33) hr
  · skip
    show Qql15_0 Z o0 w1_dq w0_sz w2_els u20_e u21_e u22_e u23_e u24_e u25_e u26_e u27_e u28_e u29_e u30_e u31_e u32_e u33_e u34_e w9_hd u36_e kA h0 n0 _ T11.heap _
    rw [e11]
    have k14 := (po2_0.other W11 (Ne.symm ne_o0_w2_els))
    have k15 := (po2_1.wr W11)
    have k16 := (po2_2.other W11 (Or.inl (Ne.symm ne_o0_w1_dq)))
    have k17 := (po2_3.other W11 (Or.inl (Ne.symm ne_o0_w1_dq)))
    have k18 := (po2_4.other W11 (Or.inl (Ne.symm ne_o0_w1_dq)))
    have k19 := (k10.wr W11)
    have k20 := ((F_events_o0.keep K2 (ninS ne_o0_w2_els (ninS ne_o0_w1_dq nin0))).other W11 (Or.inr (slot_ne (Or.inr (hw _ (List.mem_of_getElem? (i := 27) rfl))) (Or.inl (hw _ (List.mem_of_getElem? (i := 89) rfl))) (by decide) (t := (.object "java/util/Deque")) (t' := .long) (by decide) (by decide))))
    exact ⟨N11, rfl, (((Keep.refl h0 [w2_els, w1_dq, o0]).trans K2 (allS (Or.inl (List.mem_of_getElem? (i := 0) rfl)) (allS (Or.inl (List.mem_of_getElem? (i := 1) rfl)) all0))).wr W11 (Or.inl (List.mem_of_getElem? (i := 2) rfl))), k14, k15, k16, k17, k18, k19, k20, Fw11⟩
theorem pd__JJ_V : parseMethodDescriptor "(JJ)V" = some ⟨[.long, .long], none⟩ := by decide +kernel
theorem pd_h748047 : parseMethodDescriptor "()Lcom/example/dispatch_by_catalog/dispatchbycatalog/subscriptions/Event;" = some ⟨[], some (.object "com/example/dispatch_by_catalog/dispatchbycatalog/subscriptions/Event")⟩ := by decide +kernel
theorem pd_h171885 : parseMethodDescriptor "(Lcom/example/dispatch_by_catalog/dispatchbycatalog/subscriptions/Event;)V" = some ⟨[(.object "com/example/dispatch_by_catalog/dispatchbycatalog/subscriptions/Event")], none⟩ := by decide +kernel
theorem pn_com_example_dispatch_by_catalog_dispatchbycatalog_subscriptions_EventQueuePeekPinLaw : plainName "com/example/dispatch_by_catalog/dispatchbycatalog/subscriptions/EventQueuePeekPinLaw" = true := by first | (simp [plainName, overriddenIn]; done) | decide +kernel
theorem ef_0 (m : MethodId) (q0 : Int64) (q1 : Int64) (p2 : Int32) : entryFrame m #[(.long q0), (.long q1), (.int p2)] maxLocals = mkF m 0 #[.val (.long q0), .second, .val (.long q1), .second, .val (.int p2), .unset, .unset, .unset, .unset, .unset, .unset, .unset, .unset, .unset, .unset] [] := by first | (simp [entryFrame, mkF, argsToLocals, Value.category, maxLocals]; done) | rfl
def v0_1 (q0 : Int64) (q1 : Int64) (p2 : Int32) : Int32 := (p2 &&& (1 : Int32))
def v0_2 (q0 : Int64) (q1 : Int64) (p2 : Int32) : Int32 := (p2 &&& (2 : Int32))
def v0_3 (q0 : Int64) (q1 : Int64) (p2 : Int32) : Int32 := (p2 &&& (4 : Int32))
def v0_4 (q0 : Int64) (q1 : Int64) (p2 : Int32) : Int32 := (p2 &&& (4 : Int32))
def v0_5 (q0 : Int64) (q1 : Int64) (p2 : Int32) : Int32 := (p2 &&& (2 : Int32))
def v0_6 (q0 : Int64) (q1 : Int64) (p2 : Int32) : Int32 := (p2 &&& (4 : Int32))
def v0_7 (q0 : Int64) (q1 : Int64) (p2 : Int32) : Int32 := (p2 &&& (4 : Int32))
def Q0 (Z : State) (q0 : Int64) (q1 : Int64) (p2 : Int32) (h0 : Heap) (n0 : Nat) (v : Option Value) (h : Heap) (L : List Loc) : Prop := v = some (.int (1 : Int32)) ∧ Fr n0 L
set_option maxRecDepth 65536 in
set_option maxHeartbeats 40000000 in
theorem rm0 (l : Launch) (Z : State) (a0 : Array Value) (hw : ∀ d ∈ tables_1, d.before a0 Z = true) (ws : List Jvm.Cond) (q0 : Int64) (q1 : Int64) (p2 : Int32) (h0 : Heap) (n0 : Nat) (Z0 : n0 ≤ h0.size) :
    MetFree l x (head1 (Jvm.Cond.code x code maxLocals ret :: ws) room_1) (fun a U => a = #[(.long q0), (.long q1), (.int p2)] ∧ Z.Warmed39 U.vm ∧ U.heap = h0) (fun _ _ _ _ _ => True) (fun _ U o U' => ∃ v L, o = .returned v ∧ Q0 Z q0 q1 p2 h0 n0 v U'.heap L ∧ FrameEnd U o U' L room_1.cells room_1.slots) := by
  refine MetFree.of_bodySF (plainFor_of_name pn_com_example_dispatch_by_catalog_dispatchbycatalog_subscriptions_EventQueuePeekPinLaw) hisR ?_
  intro p e s m args below meth c s₁ Bd hml0 hP hK
  obtain ⟨rfl, hZ, hh⟩ := hP
  have hx := Bd.exec
  have hby := Bd.bytes
  have hml : c.maxLocals = 15 := hml0
  have hown : s.vm.findClass "com/example/dispatch_by_catalog/dispatchbycatalog/subscriptions/EventQueuePeekPinLaw" = some m.cls := findClass_of_methodNamed Bd.named
  have hnm := (name_of_methodNamed Bd.named Bd.method).1
  have hlk := BodyLoose.notSynchronized Bd
  have X0 : Stand p l e room_1 s m #[(.long q0), (.long q1), (.int p2)] below meth c s₁ [] 0 0 := Stand.of_body Bd
  have e0 : s₁.heap = h0 := by rw [← hh, Bd.state]; rfl
  have N0 := Fr.nil n0
  have pre0 : ∀ t, Steps p.tables e below (s₁.setTop (mkF m 0 #[.val (.long q0), .second, .val (.long q1), .second, .val (.int p2), .unset, .unset, .unset, .unset, .unset, .unset, .unset, .unset, .unset, .unset] [])) t → Steps p.tables e below (s₁.setTop (entryFrame m #[(.long q0), (.long q1), (.int p2)] maxLocals)) t := fun t k => castTop (ef_0 m q0 q1 p2) k
  obtain ⟨T1, h1, X1, e1, E1, A1, D1, -, st1⟩ := newO X0 hx hZ hown (hw _ (List.mem_of_getElem? (i := 0) rfl)) (hw _ (List.mem_of_getElem? (i := 1) rfl)) (hw _ (List.mem_of_getElem? (i := 2) rfl)) e0 (g := (mkF m 0 #[.val (.long q0), .second, .val (.long q1), .second, .val (.int p2), .unset, .unset, .unset, .unset, .unset, .unset, .unset, .unset, .unset, .unset] [])) rfl (hb hby at_0) (by decide) (by decide)
  obtain ⟨b1, gz1⟩ : ∃ z, z = h0.size := ⟨_, rfl⟩
  rw [← gz1] at A1 D1 st1
  have g2 : n0 ≤ b1 := Nat.le_trans Z0 (Nat.le_of_eq gz1.symm)
  have sz3 : h0.size ≤ b1 := Nat.le_trans (Nat.le_refl h0.size) (Nat.le_of_eq gz1.symm)
  have z4 : n0 ≤ h1.size := Nat.le_trans Z0 E1.1
  have hs5 : h0.size ≤ h1.size := Nat.le_trans (Nat.le_refl h0.size) E1.1
  have F1_events : Fld Z h1 b1 "com/example/dispatch_by_catalog/dispatchbycatalog/subscriptions/EventQueue" "events" "Ljava/util/Deque;" .null := D1 (Or.inr (hw _ (List.mem_of_getElem? (i := 27) rfl))) (ty := (.object "java/util/Deque")) (by decide)
  have F1_bytes : Fld Z h1 b1 "com/example/dispatch_by_catalog/dispatchbycatalog/subscriptions/EventQueue" "bytes" "J" (.long (0 : Int64)) := D1 (Or.inl (hw _ (List.mem_of_getElem? (i := 89) rfl))) (ty := .long) (by decide)
  obtain ⟨vr6, _, ⟨T6, L6, k6, n6⟩, -, X6, ⟨Lc6, hQ6, l6, y6, z6⟩, st6⟩ := X1.specialBack hx (y := (⟨"com/example/dispatch_by_catalog/dispatchbycatalog/subscriptions/EventQueue", "<init>", "()V"⟩ : MethodName)) rfl hown (mvT hZ (hw _ (List.mem_of_getElem? (i := 3) rfl))) (mvT hZ (hw _ (List.mem_of_getElem? (i := 4) rfl))) (mvT hZ (hw _ (List.mem_of_getElem? (i := 5) rfl))) (by decide) (backOf (W := 1) (rm1 l Z a0 hw [] b1 (0 : Int64) .null h1 n0 z4 A1 F1_bytes F1_events g2) hZ (hw _ (List.mem_of_getElem? (i := 5) rfl)) (hw _ (List.mem_of_getElem? (i := 2) rfl)) (by decide) (by decide)) (g := (mkF m 4 #[.val (.long q0), .second, .val (.long q1), .second, .val (.int p2), .unset, .unset, .unset, .unset, .unset, .unset, .unset, .unset, .unset, .unset] [(.ref b1), (.ref b1)])) rfl (by rw [hml]; rfl) (Steps.refl _) (a := b1) (argsL := []) (rest := [(.ref b1)]) (lenOf pd___V rfl) rfl (by show 2 * 0 + _ ≤ _; exact Nat.le_of_eq rfl) (hb hby at_4) (fun _ _ => ⟨rfl, e1, (by decide : 1 + 2 ≤ _), (by decide : 2 + 20 ≤ _)⟩)
  dsimp only [Pt.U, Pt.locs, Pt.cells, Pt.slots] at X6 l6 y6 z6 st6 hQ6
  subst l6 y6 z6
  have N6q := (show _ ∧ _ from hQ6).1
  have hq6 := (show _ ∧ _ from hQ6).2
  clear hQ6
  obtain ⟨x1_0_6, x1_1_6, k1_2_6, hq6x⟩ := hq6
  have hv6 := hq6x.1
  have szx1_0_6 := hq6x.2.1
  have szx1_1_6 := hq6x.2.2.1
  have nex1_0_x1_1_6 := hq6x.2.2.2.1
  have K6 := hq6x.2.2.2.2.1
  have po6_0 := hq6x.2.2.2.2.2.1
  have po6_1 := hq6x.2.2.2.2.2.2.1
  have po6_2 := hq6x.2.2.2.2.2.2.2.1
  have po6_3 := hq6x.2.2.2.2.2.2.2.2.1
  have po6_4 := hq6x.2.2.2.2.2.2.2.2.2.1
  have po6_5 := hq6x.2.2.2.2.2.2.2.2.2.2.1
  have po6_6 := hq6x.2.2.2.2.2.2.2.2.2.2.2.1
  have po6_7 := hq6x.2.2.2.2.2.2.2.2.2.2.2.2.1
  have po6_8 := hq6x.2.2.2.2.2.2.2.2.2.2.2.2.2.1
  have po6_9 := hq6x.2.2.2.2.2.2.2.2.2.2.2.2.2.2
  clear hq6x
  subst hv6
  have ne7 : b1 ≠ x1_0_6 := Nat.ne_of_lt (Nat.lt_of_lt_of_le A1.lt szx1_0_6)
  have g8 : n0 ≤ x1_0_6 := Nat.le_trans z4 szx1_0_6
  have sz9 : h0.size ≤ x1_0_6 := Nat.le_trans hs5 szx1_0_6
  have ne10 : b1 ≠ x1_1_6 := Nat.ne_of_lt (Nat.lt_of_lt_of_le A1.lt szx1_1_6)
  have g11 : n0 ≤ x1_1_6 := Nat.le_trans z4 szx1_1_6
  have sz12 : h0.size ≤ x1_1_6 := Nat.le_trans hs5 szx1_1_6
  have z13 : n0 ≤ T6.heap.size := Nat.le_trans z4 K6.1
  have hs14 : h0.size ≤ T6.heap.size := Nat.le_trans hs5 K6.1
  have N6 := Fr.app N0 N6q
  obtain ⟨T15, h15, X15, e15, E15, A15, D15, -, st15⟩ := newO X6 hx hZ hown (hw _ (List.mem_of_getElem? (i := 28) rfl)) (hw _ (List.mem_of_getElem? (i := 29) rfl)) (hw _ (List.mem_of_getElem? (i := 30) rfl)) rfl (g := (mkF m 9 #[.val (.long q0), .second, .val (.long q1), .second, .val (.int p2), .val (.ref b1), .unset, .unset, .unset, .unset, .unset, .unset, .unset, .unset, .unset] [])) rfl (hb hby at_9) (by decide) (by decide)
  obtain ⟨b15, gz15⟩ : ∃ z, z = T6.heap.size := ⟨_, rfl⟩
  rw [← gz15] at A15 D15 st15
  have ne16 : b1 ≠ b15 := Nat.ne_of_lt (Nat.lt_of_lt_of_le po6_0.lt (Nat.le_of_eq gz15.symm))
  have ne17 : x1_0_6 ≠ b15 := Nat.ne_of_lt (Nat.lt_of_lt_of_le po6_3.lt (Nat.le_of_eq gz15.symm))
  have ne18 : x1_1_6 ≠ b15 := Nat.ne_of_lt (Nat.lt_of_lt_of_le po6_7.lt (Nat.le_of_eq gz15.symm))
  have g19 : n0 ≤ b15 := Nat.le_trans z13 (Nat.le_of_eq gz15.symm)
  have sz20 : h0.size ≤ b15 := Nat.le_trans hs14 (Nat.le_of_eq gz15.symm)
  have z21 : n0 ≤ h15.size := Nat.le_trans z13 E15.1
  have hs22 : h0.size ≤ h15.size := Nat.le_trans hs14 E15.1
  have F15_number : Fld Z h15 b15 "com/example/dispatch_by_catalog/dispatchbycatalog/subscriptions/DroppedEvents" "number" "J" (.long (0 : Int64)) := D15 (Or.inr (hw _ (List.mem_of_getElem? (i := 41) rfl))) (ty := .long) (by decide)
  have F15_count : Fld Z h15 b15 "com/example/dispatch_by_catalog/dispatchbycatalog/subscriptions/DroppedEvents" "count" "J" (.long (0 : Int64)) := D15 (Or.inr (hw _ (List.mem_of_getElem? (i := 43) rfl))) (ty := .long) (by decide)
  obtain ⟨vr23, _, ⟨T23, L23, k23, n23⟩, -, X23, ⟨Lc23, hQ23, l23, y23, z23⟩, st23⟩ := X15.specialBack hx (y := (⟨"com/example/dispatch_by_catalog/dispatchbycatalog/subscriptions/DroppedEvents", "<init>", "(JJ)V"⟩ : MethodName)) rfl hown (mvT hZ (hw _ (List.mem_of_getElem? (i := 31) rfl))) (mvT hZ (hw _ (List.mem_of_getElem? (i := 32) rfl))) (mvT hZ (hw _ (List.mem_of_getElem? (i := 33) rfl))) (by decide) (backOf (W := 1) (rm5 l Z a0 hw [] b15 q0 (1 : Int64) (.long (0 : Int64)) (.long (0 : Int64)) h15 n0 z21 (by decide) A15 F15_number g19 F15_count) hZ (hw _ (List.mem_of_getElem? (i := 33) rfl)) (hw _ (List.mem_of_getElem? (i := 30) rfl)) (by decide) (by decide)) (g := (mkF m 15 #[.val (.long q0), .second, .val (.long q1), .second, .val (.int p2), .val (.ref b1), .unset, .unset, .unset, .unset, .unset, .unset, .unset, .unset, .unset] [(.long (1 : Int64)), (.long q0), (.ref b15), (.ref b15)])) rfl (by rw [hml]; rfl) (Steps.refl _) (a := b15) (argsL := [(.long q0), (.long (1 : Int64))]) (rest := [(.ref b15)]) (lenOf pd__JJ_V rfl) rfl (by show 2 * 0 + _ ≤ _; exact Nat.le_of_eq rfl) (hb hby at_15) (fun _ _ => ⟨rfl, e15, (by decide : 4 + 0 ≤ _), (by decide : 24 + 0 ≤ _)⟩)
  dsimp only [Pt.U, Pt.locs, Pt.cells, Pt.slots] at X23 l23 y23 z23 st23 hQ23
  subst l23 y23 z23
  have N23q := (show _ ∧ _ from hQ23).1
  have hq23 := (show _ ∧ _ from hQ23).2
  clear hQ23
  have hv23 := hq23.1
  have K23 := hq23.2.1
  have po23_0 := hq23.2.2.1
  have po23_1 := hq23.2.2.2.1
  have po23_2 := hq23.2.2.2.2
  clear hq23
  subst hv23
  have z24 : n0 ≤ T23.heap.size := Nat.le_trans z21 K23.1
  have hs25 : h0.size ≤ T23.heap.size := Nat.le_trans hs22 K23.1
  have N23 := Fr.app N6 N23q
  obtain ⟨T26, h26, X26, e26, E26, A26, D26, -, st26⟩ := newO X23 hx hZ hown (hw _ (List.mem_of_getElem? (i := 28) rfl)) (hw _ (List.mem_of_getElem? (i := 29) rfl)) (hw _ (List.mem_of_getElem? (i := 30) rfl)) rfl (g := (mkF m 20 #[.val (.long q0), .second, .val (.long q1), .second, .val (.int p2), .val (.ref b1), .val (.ref b15), .unset, .unset, .unset, .unset, .unset, .unset, .unset, .unset] [])) rfl (hb hby at_20) (by decide) (by decide)
  obtain ⟨b26, gz26⟩ : ∃ z, z = T23.heap.size := ⟨_, rfl⟩
  rw [← gz26] at A26 D26 st26
  have k27 := ((po6_0.ext E15).keep K23)
  have ne28 : b1 ≠ b26 := Nat.ne_of_lt (Nat.lt_of_lt_of_le k27.lt (Nat.le_of_eq gz26.symm))
  have k29 := ((po6_3.ext E15).keep K23)
  have ne30 : x1_0_6 ≠ b26 := Nat.ne_of_lt (Nat.lt_of_lt_of_le k29.lt (Nat.le_of_eq gz26.symm))
  have k31 := ((po6_7.ext E15).keep K23)
  have ne32 : x1_1_6 ≠ b26 := Nat.ne_of_lt (Nat.lt_of_lt_of_le k31.lt (Nat.le_of_eq gz26.symm))
  have ne33 : b15 ≠ b26 := Nat.ne_of_lt (Nat.lt_of_lt_of_le po23_0.lt (Nat.le_of_eq gz26.symm))
  have g34 : n0 ≤ b26 := Nat.le_trans z24 (Nat.le_of_eq gz26.symm)
  have sz35 : h0.size ≤ b26 := Nat.le_trans hs25 (Nat.le_of_eq gz26.symm)
  have z36 : n0 ≤ h26.size := Nat.le_trans z24 E26.1
  have hs37 : h0.size ≤ h26.size := Nat.le_trans hs25 E26.1
  have F26_number : Fld Z h26 b26 "com/example/dispatch_by_catalog/dispatchbycatalog/subscriptions/DroppedEvents" "number" "J" (.long (0 : Int64)) := D26 (Or.inr (hw _ (List.mem_of_getElem? (i := 41) rfl))) (ty := .long) (by decide)
  have F26_count : Fld Z h26 b26 "com/example/dispatch_by_catalog/dispatchbycatalog/subscriptions/DroppedEvents" "count" "J" (.long (0 : Int64)) := D26 (Or.inr (hw _ (List.mem_of_getElem? (i := 43) rfl))) (ty := .long) (by decide)
  obtain ⟨vr38, _, ⟨T38, L38, k38, n38⟩, -, X38, ⟨Lc38, hQ38, l38, y38, z38⟩, st38⟩ := X26.specialBack hx (y := (⟨"com/example/dispatch_by_catalog/dispatchbycatalog/subscriptions/DroppedEvents", "<init>", "(JJ)V"⟩ : MethodName)) rfl hown (mvT hZ (hw _ (List.mem_of_getElem? (i := 31) rfl))) (mvT hZ (hw _ (List.mem_of_getElem? (i := 32) rfl))) (mvT hZ (hw _ (List.mem_of_getElem? (i := 33) rfl))) (by decide) (backOf (W := 1) (rm5 l Z a0 hw [] b26 q1 (2 : Int64) (.long (0 : Int64)) (.long (0 : Int64)) h26 n0 z36 (by decide) A26 F26_number g34 F26_count) hZ (hw _ (List.mem_of_getElem? (i := 33) rfl)) (hw _ (List.mem_of_getElem? (i := 30) rfl)) (by decide) (by decide)) (g := (mkF m 28 #[.val (.long q0), .second, .val (.long q1), .second, .val (.int p2), .val (.ref b1), .val (.ref b15), .unset, .unset, .unset, .unset, .unset, .unset, .unset, .unset] [(.long (2 : Int64)), (.long q1), (.ref b26), (.ref b26)])) rfl (by rw [hml]; rfl) (Steps.refl _) (a := b26) (argsL := [(.long q1), (.long (2 : Int64))]) (rest := [(.ref b26)]) (lenOf pd__JJ_V rfl) rfl (by show 2 * 0 + _ ≤ _; exact Nat.le_of_eq rfl) (hb hby at_28) (fun _ _ => ⟨rfl, e26, (by decide : 5 + 0 ≤ _), (by decide : 26 + 0 ≤ _)⟩)
  dsimp only [Pt.U, Pt.locs, Pt.cells, Pt.slots] at X38 l38 y38 z38 st38 hQ38
  subst l38 y38 z38
  have N38q := (show _ ∧ _ from hQ38).1
  have hq38 := (show _ ∧ _ from hQ38).2
  clear hQ38
  have hv38 := hq38.1
  have K38 := hq38.2.1
  have po38_0 := hq38.2.2.1
  have po38_1 := hq38.2.2.2.1
  have po38_2 := hq38.2.2.2.2
  clear hq38
  subst hv38
  have z39 : n0 ≤ T38.heap.size := Nat.le_trans z36 K38.1
  have hs40 : h0.size ≤ T38.heap.size := Nat.le_trans hs37 K38.1
  have N38 := Fr.app N23 N38q
  have k42 := ((((po6_2.ext E15).keep K23 (ninS ne16 nin0)).ext E26).keep K38 (ninS ne28 nin0))
  have k43 := ((k29.ext E26).keep K38)
  have k44 := ((((po6_6.ext E15).keep K23 (ninS ne17 nin0)).ext E26).keep K38 (ninS ne30 nin0))
  have k45 := ((((po6_4.ext E15).keep K23 (ninS ne17 nin0)).ext E26).keep K38 (ninS ne30 nin0))
  have k46 := ((((po6_8.ext E15).keep K23 (ninS ne18 nin0)).ext E26).keep K38 (ninS ne32 nin0))
  have k47 := ((k27.ext E26).keep K38)
  obtain ⟨cq41, kq41, q41a, q41b, q41c⟩ := isOf hZ rfl k47
  obtain ⟨vr41, _, ⟨T41, L41, k41, n41⟩, -, X41, ⟨Lc41, hQ41, l41, y41, z41⟩, st41⟩ := X38.virtualBack hx (y := (⟨"com/example/dispatch_by_catalog/dispatchbycatalog/subscriptions/EventQueue", "peek", "()Lcom/example/dispatch_by_catalog/dispatchbycatalog/subscriptions/Event;"⟩ : MethodName)) (z := (⟨"com/example/dispatch_by_catalog/dispatchbycatalog/subscriptions/EventQueue", "peek", "()Lcom/example/dispatch_by_catalog/dispatchbycatalog/subscriptions/Event;"⟩ : MethodName)) hown (mvT hZ (hw _ (List.mem_of_getElem? (i := 45) rfl))) (mvT hZ (hw _ (List.mem_of_getElem? (i := 46) rfl))) (notFace_of_selects (args := #[]) (mvT hZ (hw _ (List.mem_of_getElem? (i := 48) rfl)))) (mvT hZ (hw _ (List.mem_of_getElem? (i := 48) rfl))) (mvT hZ (hw _ (List.mem_of_getElem? (i := 47) rfl))) (by decide) (backOf (W := 0) (rmqpN l Z a0 hw [] b1 x1_0_6 x1_1_6 .null .null .null .null .null .null .null .null .null .null .null .null .null .null .null .null k1_2_6 T38.heap n0 z39 k42 k43 k44 k45 k46) hZ (hw _ (List.mem_of_getElem? (i := 49) rfl)) (hw _ (List.mem_of_getElem? (i := 2) rfl)) (by decide) (by decide)) q41a q41c (g := (mkF m 35 #[.val (.long q0), .second, .val (.long q1), .second, .val (.int p2), .val (.ref b1), .val (.ref b15), .val (.ref b26), .unset, .unset, .unset, .unset, .unset, .unset, .unset] [(.ref b1)])) rfl (by rw [hml]; rfl) (Steps.refl _) (argsL := []) (rest := []) (lenOf pd_h748047 rfl) rfl (by show 2 * 0 + _ ≤ _; exact Nat.le_of_eq rfl) (hb hby at_35) (fun _ _ => ⟨rfl, rfl, (by decide : 5 + 0 ≤ _), (by decide : 26 + 0 ≤ _)⟩)
  dsimp only [Pt.U, Pt.locs, Pt.cells, Pt.slots] at X41 l41 y41 z41 st41 hQ41
  subst l41 y41 z41
  have N41q := (show _ ∧ _ ∧ _ from hQ41).1
  have hv41 := (show _ ∧ _ ∧ _ from hQ41).2.1
  have e41 := (show _ ∧ _ ∧ _ from hQ41).2.2
  clear hQ41
  subst hv41
  have N41 := Fr.app N38 N41q
  have pre48 : ∀ t, Steps p.tables e below (T41.setTop (mkF m 52 #[.val (.long q0), .second, .val (.long q1), .second, .val (.int p2), .val (.ref b1), .val (.ref b15), .val (.ref b26), .val (.int (1 : Int32)), .unset, .unset, .unset, .unset, .unset, .unset] [(.int (p2 &&& (1 : Int32)))])) t → Steps p.tables e below (s₁.setTop (entryFrame m #[(.long q0), (.long q1), (.int p2)] maxLocals)) t := by
    intro t k
    refine pre0 t ?_
    show Steps p.tables e below (s₁.setTop (mkF m 0 #[.val (.long q0), .second, .val (.long q1), .second, .val (.int p2), .unset, .unset, .unset, .unset, .unset, .unset, .unset, .unset, .unset, .unset] [])) _
    refine st1 _ ?_
    show Steps p.tables e below (T1.setTop (mkF m 3 #[.val (.long q0), .second, .val (.long q1), .second, .val (.int p2), .unset, .unset, .unset, .unset, .unset, .unset, .unset, .unset, .unset, .unset] [(.ref b1)])) _
    refine XS.dup X1.here hx rfl (hb hby at_3) rfl rfl ?_
    show Steps p.tables e below (T1.setTop (mkF m 4 #[.val (.long q0), .second, .val (.long q1), .second, .val (.int p2), .unset, .unset, .unset, .unset, .unset, .unset, .unset, .unset, .unset, .unset] [(.ref b1), (.ref b1)])) _
    refine st6.trans ?_
    show Steps p.tables e below (T6.setTop (mkF m 7 #[.val (.long q0), .second, .val (.long q1), .second, .val (.int p2), .unset, .unset, .unset, .unset, .unset, .unset, .unset, .unset, .unset, .unset] [(.ref b1)])) _
    refine XS.astore X6.here hx rfl (hb hby at_7) rfl rfl (l' := #[.val (.long q0), .second, .val (.long q1), .second, .val (.int p2), .val (.ref b1), .unset, .unset, .unset, .unset, .unset, .unset, .unset, .unset, .unset]) rfl ?_
    show Steps p.tables e below (T6.setTop (mkF m 9 #[.val (.long q0), .second, .val (.long q1), .second, .val (.int p2), .val (.ref b1), .unset, .unset, .unset, .unset, .unset, .unset, .unset, .unset, .unset] [])) _
    refine st15 _ ?_
    show Steps p.tables e below (T15.setTop (mkF m 12 #[.val (.long q0), .second, .val (.long q1), .second, .val (.int p2), .val (.ref b1), .unset, .unset, .unset, .unset, .unset, .unset, .unset, .unset, .unset] [(.ref b15)])) _
    refine XS.dup X15.here hx rfl (hb hby at_12) rfl rfl ?_
    show Steps p.tables e below (T15.setTop (mkF m 13 #[.val (.long q0), .second, .val (.long q1), .second, .val (.int p2), .val (.ref b1), .unset, .unset, .unset, .unset, .unset, .unset, .unset, .unset, .unset] [(.ref b15), (.ref b15)])) _
    refine XT.lloadN X15.here hx rfl (hb hby at_13) rfl ?_
    show Steps p.tables e below (T15.setTop (mkF m 14 #[.val (.long q0), .second, .val (.long q1), .second, .val (.int p2), .val (.ref b1), .unset, .unset, .unset, .unset, .unset, .unset, .unset, .unset, .unset] [(.long q0), (.ref b15), (.ref b15)])) _
    refine XT.lconstV X15.here hx rfl (1 : Int64) (hb hby at_14) (by decide) ?_
    show Steps p.tables e below (T15.setTop (mkF m 15 #[.val (.long q0), .second, .val (.long q1), .second, .val (.int p2), .val (.ref b1), .unset, .unset, .unset, .unset, .unset, .unset, .unset, .unset, .unset] [(.long (1 : Int64)), (.long q0), (.ref b15), (.ref b15)])) _
    refine st23.trans ?_
    show Steps p.tables e below (T23.setTop (mkF m 18 #[.val (.long q0), .second, .val (.long q1), .second, .val (.int p2), .val (.ref b1), .unset, .unset, .unset, .unset, .unset, .unset, .unset, .unset, .unset] [(.ref b15)])) _
    refine XS.astore X23.here hx rfl (hb hby at_18) rfl rfl (l' := #[.val (.long q0), .second, .val (.long q1), .second, .val (.int p2), .val (.ref b1), .val (.ref b15), .unset, .unset, .unset, .unset, .unset, .unset, .unset, .unset]) rfl ?_
    show Steps p.tables e below (T23.setTop (mkF m 20 #[.val (.long q0), .second, .val (.long q1), .second, .val (.int p2), .val (.ref b1), .val (.ref b15), .unset, .unset, .unset, .unset, .unset, .unset, .unset, .unset] [])) _
    refine st26 _ ?_
    show Steps p.tables e below (T26.setTop (mkF m 23 #[.val (.long q0), .second, .val (.long q1), .second, .val (.int p2), .val (.ref b1), .val (.ref b15), .unset, .unset, .unset, .unset, .unset, .unset, .unset, .unset] [(.ref b26)])) _
    refine XS.dup X26.here hx rfl (hb hby at_23) rfl rfl ?_
    show Steps p.tables e below (T26.setTop (mkF m 24 #[.val (.long q0), .second, .val (.long q1), .second, .val (.int p2), .val (.ref b1), .val (.ref b15), .unset, .unset, .unset, .unset, .unset, .unset, .unset, .unset] [(.ref b26), (.ref b26)])) _
    refine XT.lloadN X26.here hx rfl (hb hby at_24) rfl ?_
    show Steps p.tables e below (T26.setTop (mkF m 25 #[.val (.long q0), .second, .val (.long q1), .second, .val (.int p2), .val (.ref b1), .val (.ref b15), .unset, .unset, .unset, .unset, .unset, .unset, .unset, .unset] [(.long q1), (.ref b26), (.ref b26)])) _
    refine X26.ldc2J hx hown (mvT hZ (hw _ (List.mem_of_getElem? (i := 44) rfl))) rfl (hb hby at_25) ?_
    show Steps p.tables e below (T26.setTop (mkF m 28 #[.val (.long q0), .second, .val (.long q1), .second, .val (.int p2), .val (.ref b1), .val (.ref b15), .unset, .unset, .unset, .unset, .unset, .unset, .unset, .unset] [(.long (2 : Int64)), (.long q1), (.ref b26), (.ref b26)])) _
    refine st38.trans ?_
    show Steps p.tables e below (T38.setTop (mkF m 31 #[.val (.long q0), .second, .val (.long q1), .second, .val (.int p2), .val (.ref b1), .val (.ref b15), .unset, .unset, .unset, .unset, .unset, .unset, .unset, .unset] [(.ref b26)])) _
    refine XS.astore X38.here hx rfl (hb hby at_31) rfl rfl (l' := #[.val (.long q0), .second, .val (.long q1), .second, .val (.int p2), .val (.ref b1), .val (.ref b15), .val (.ref b26), .unset, .unset, .unset, .unset, .unset, .unset, .unset]) rfl ?_
    show Steps p.tables e below (T38.setTop (mkF m 33 #[.val (.long q0), .second, .val (.long q1), .second, .val (.int p2), .val (.ref b1), .val (.ref b15), .val (.ref b26), .unset, .unset, .unset, .unset, .unset, .unset, .unset] [])) _
    refine XS.aload X38.here hx rfl (hb hby at_33) rfl rfl ?_
    show Steps p.tables e below (T38.setTop (mkF m 35 #[.val (.long q0), .second, .val (.long q1), .second, .val (.int p2), .val (.ref b1), .val (.ref b15), .val (.ref b26), .unset, .unset, .unset, .unset, .unset, .unset, .unset] [(.ref b1)])) _
    refine st41.trans ?_
    show Steps p.tables e below (T41.setTop (mkF m 38 #[.val (.long q0), .second, .val (.long q1), .second, .val (.int p2), .val (.ref b1), .val (.ref b15), .val (.ref b26), .unset, .unset, .unset, .unset, .unset, .unset, .unset] [.null])) _
    refine XT.ifnonnullNo X41.here hx rfl (hb hby at_38) rfl ?_
    show Steps p.tables e below (T41.setTop (mkF m 41 #[.val (.long q0), .second, .val (.long q1), .second, .val (.int p2), .val (.ref b1), .val (.ref b15), .val (.ref b26), .unset, .unset, .unset, .unset, .unset, .unset, .unset] [])) _
    refine XT.iconstV X41.here hx rfl (1 : Int32) (hb hby at_41) (by decide) ?_
    show Steps p.tables e below (T41.setTop (mkF m 42 #[.val (.long q0), .second, .val (.long q1), .second, .val (.int p2), .val (.ref b1), .val (.ref b15), .val (.ref b26), .unset, .unset, .unset, .unset, .unset, .unset, .unset] [(.int (1 : Int32))])) _
    refine XS.goto X41.here hx rfl (pc0 := 42) (pc' := 46) rfl (hb hby at_42) (by decide) (by decide) ?_
    show Steps p.tables e below (T41.setTop (mkF m 46 #[.val (.long q0), .second, .val (.long q1), .second, .val (.int p2), .val (.ref b1), .val (.ref b15), .val (.ref b26), .unset, .unset, .unset, .unset, .unset, .unset, .unset] [(.int (1 : Int32))])) _
    refine XS.istore X41.here hx rfl (hb hby at_46) rfl (l' := #[.val (.long q0), .second, .val (.long q1), .second, .val (.int p2), .val (.ref b1), .val (.ref b15), .val (.ref b26), .val (.int (1 : Int32)), .unset, .unset, .unset, .unset, .unset, .unset]) rfl ?_
    show Steps p.tables e below (T41.setTop (mkF m 48 #[.val (.long q0), .second, .val (.long q1), .second, .val (.int p2), .val (.ref b1), .val (.ref b15), .val (.ref b26), .val (.int (1 : Int32)), .unset, .unset, .unset, .unset, .unset, .unset] [])) _
    refine XS.iload X41.here hx rfl (hb hby at_48) rfl ?_
    show Steps p.tables e below (T41.setTop (mkF m 50 #[.val (.long q0), .second, .val (.long q1), .second, .val (.int p2), .val (.ref b1), .val (.ref b15), .val (.ref b26), .val (.int (1 : Int32)), .unset, .unset, .unset, .unset, .unset, .unset] [(.int p2)])) _
    refine XT.iconstV X41.here hx rfl (1 : Int32) (hb hby at_50) (by decide) ?_
    show Steps p.tables e below (T41.setTop (mkF m 51 #[.val (.long q0), .second, .val (.long q1), .second, .val (.int p2), .val (.ref b1), .val (.ref b15), .val (.ref b26), .val (.int (1 : Int32)), .unset, .unset, .unset, .unset, .unset, .unset] [(.int (1 : Int32)), (.int p2)])) _
    refine XS.iand X41.here hx rfl (hb hby at_51) rfl ?_
    exact k
  clear pre0 st1 st6 st15 st23 st26 st38 st41
  by_cases c49 : (v0_1 q0 q1 p2) = (0 : Int32)
  · skip
    have k51 := ((((po6_1.ext E15).keep K23 (ninS ne16 nin0)).ext E26).keep K38 (ninS ne28 nin0))
    have k52 := ((((po6_5.ext E15).keep K23 (ninS ne17 nin0)).ext E26).keep K38 (ninS ne30 nin0))
    have k53 := ((po23_0.ext E26).keep K38)
    obtain ⟨cq50, kq50, q50a, q50b, q50c⟩ := isOf hZ e41 k47
    obtain ⟨vr50, _, ⟨T50, L50, k50, n50⟩, -, X50, ⟨Lc50, hQ50, l50, y50, z50⟩, st50⟩ := X41.virtualBack hx (y := (⟨"com/example/dispatch_by_catalog/dispatchbycatalog/subscriptions/EventQueue", "addFirst", "(Lcom/example/dispatch_by_catalog/dispatchbycatalog/subscriptions/Event;)V"⟩ : MethodName)) (z := (⟨"com/example/dispatch_by_catalog/dispatchbycatalog/subscriptions/EventQueue", "addFirst", "(Lcom/example/dispatch_by_catalog/dispatchbycatalog/subscriptions/Event;)V"⟩ : MethodName)) hown (mvT hZ (hw _ (List.mem_of_getElem? (i := 69) rfl))) (mvT hZ (hw _ (List.mem_of_getElem? (i := 70) rfl))) (notFace_of_selects (args := #[]) (mvT hZ (hw _ (List.mem_of_getElem? (i := 72) rfl)))) (mvT hZ (hw _ (List.mem_of_getElem? (i := 72) rfl))) (mvT hZ (hw _ (List.mem_of_getElem? (i := 71) rfl))) (by decide) (backOf (W := 0) (rmqf0_0 l Z a0 hw [] b1 b15 x1_0_6 (0 : Int64) x1_1_6 .null .null .null .null .null .null .null .null .null .null .null .null .null .null .null .null .null k1_2_6 T38.heap n0 z39 k47 k42 k51 k43 k44 k45 k52 k46 po6_9 k53 g8 (Ne.symm nex1_0_x1_1_6) g11 ne10 ne7 g2) hZ (hw _ (List.mem_of_getElem? (i := 73) rfl)) (hw _ (List.mem_of_getElem? (i := 2) rfl)) (by decide) (by decide)) q50a q50c (g := (mkF m 69 #[.val (.long q0), .second, .val (.long q1), .second, .val (.int p2), .val (.ref b1), .val (.ref b15), .val (.ref b26), .val (.int (1 : Int32)), .unset, .unset, .unset, .unset, .unset, .unset] [(.ref b15), (.ref b1)])) rfl (by rw [hml]; rfl) (Steps.refl _) (argsL := [(.ref b15)]) (rest := []) (lenOf pd_h171885 rfl) rfl (by show 2 * 0 + _ ≤ _; exact Nat.le_of_eq rfl) (hb hby at_69) (fun _ _ => ⟨rfl, e41, (by decide : 5 + 0 ≤ _), (by decide : 26 + 0 ≤ _)⟩)
    dsimp only [Pt.U, Pt.locs, Pt.cells, Pt.slots] at X50 l50 y50 z50 st50 hQ50
    subst l50 y50 z50
    have N50q := (show _ ∧ _ from hQ50).1
    have hq50 := (show _ ∧ _ from hQ50).2
    clear hQ50
    have hv50 := hq50.1
    have K50 := hq50.2.1
    have po50_0 := hq50.2.2.1
    have po50_1 := hq50.2.2.2.1
    have po50_2 := hq50.2.2.2.2.1
    have po50_3 := hq50.2.2.2.2.2.1
    have po50_4 := hq50.2.2.2.2.2.2.1
    have po50_5 := hq50.2.2.2.2.2.2.2.1
    have po50_6 := hq50.2.2.2.2.2.2.2.2.1
    have po50_7 := hq50.2.2.2.2.2.2.2.2.2
    clear hq50
    subst hv50
    have z54 : n0 ≤ T50.heap.size := Nat.le_trans z39 K50.1
    have hs55 : h0.size ≤ T50.heap.size := Nat.le_trans hs40 K50.1
    have N50 := Fr.app N41 N50q
    have k57 := (k53.keep K50)
    obtain ⟨cq56, kq56, q56a, q56b, q56c⟩ := isOf hZ rfl po50_5
    obtain ⟨vr56, _, ⟨T56, L56, k56, n56⟩, -, X56, ⟨Lc56, hQ56, l56, y56, z56⟩, st56⟩ := X50.virtualBack hx (y := (⟨"com/example/dispatch_by_catalog/dispatchbycatalog/subscriptions/EventQueue", "peek", "()Lcom/example/dispatch_by_catalog/dispatchbycatalog/subscriptions/Event;"⟩ : MethodName)) (z := (⟨"com/example/dispatch_by_catalog/dispatchbycatalog/subscriptions/EventQueue", "peek", "()Lcom/example/dispatch_by_catalog/dispatchbycatalog/subscriptions/Event;"⟩ : MethodName)) hown (mvT hZ (hw _ (List.mem_of_getElem? (i := 45) rfl))) (mvT hZ (hw _ (List.mem_of_getElem? (i := 46) rfl))) (notFace_of_selects (args := #[]) (mvT hZ (hw _ (List.mem_of_getElem? (i := 48) rfl)))) (mvT hZ (hw _ (List.mem_of_getElem? (i := 48) rfl))) (mvT hZ (hw _ (List.mem_of_getElem? (i := 47) rfl))) (by decide) (backOf (W := 0) (rmqp16 l Z a0 hw [] b1 x1_0_6 x1_1_6 .null .null .null .null .null .null .null .null .null .null .null .null .null .null .null .null b15 k1_2_6 T50.heap n0 z54 po50_6 po50_0 po50_1 po50_2 po50_4 k57) hZ (hw _ (List.mem_of_getElem? (i := 49) rfl)) (hw _ (List.mem_of_getElem? (i := 2) rfl)) (by decide) (by decide)) q56a q56c (g := (mkF m 79 #[.val (.long q0), .second, .val (.long q1), .second, .val (.int p2), .val (.ref b1), .val (.ref b15), .val (.ref b26), .val (.int (1 : Int32)), .unset, .unset, .unset, .unset, .unset, .unset] [(.ref b1)])) rfl (by rw [hml]; rfl) (Steps.refl _) (argsL := []) (rest := []) (lenOf pd_h748047 rfl) rfl (by show 2 * 0 + _ ≤ _; exact Nat.le_of_eq rfl) (hb hby at_79) (fun _ _ => ⟨rfl, rfl, (by decide : 5 + 0 ≤ _), (by decide : 26 + 0 ≤ _)⟩)
    dsimp only [Pt.U, Pt.locs, Pt.cells, Pt.slots] at X56 l56 y56 z56 st56 hQ56
    subst l56 y56 z56
    have N56q := (show _ ∧ _ ∧ _ from hQ56).1
    have hv56 := (show _ ∧ _ ∧ _ from hQ56).2.1
    have e56 := (show _ ∧ _ ∧ _ from hQ56).2.2
    clear hQ56
    subst hv56
    have N56 := Fr.app N50 N56q
    have pre58 : ∀ t, Steps p.tables e below (T56.setTop (mkF m 98 #[.val (.long q0), .second, .val (.long q1), .second, .val (.int p2), .val (.ref b1), .val (.ref b15), .val (.ref b26), .val (.int (1 : Int32)), .unset, .unset, .unset, .unset, .unset, .unset] [(.int (p2 &&& (2 : Int32)))])) t → Steps p.tables e below (s₁.setTop (entryFrame m #[(.long q0), (.long q1), (.int p2)] maxLocals)) t := by
      intro t k
      refine pre48 t ?_
      show Steps p.tables e below (T41.setTop (mkF m 52 #[.val (.long q0), .second, .val (.long q1), .second, .val (.int p2), .val (.ref b1), .val (.ref b15), .val (.ref b26), .val (.int (1 : Int32)), .unset, .unset, .unset, .unset, .unset, .unset] [(.int (p2 &&& (1 : Int32)))])) _
      refine XS.ifYes X41.here hx rfl (pc0 := 52) (pc' := 65) rfl (hb hby at_52) rfl (XT.i0_eq_t c49) (by decide) (by decide) ?_
      show Steps p.tables e below (T41.setTop (mkF m 65 #[.val (.long q0), .second, .val (.long q1), .second, .val (.int p2), .val (.ref b1), .val (.ref b15), .val (.ref b26), .val (.int (1 : Int32)), .unset, .unset, .unset, .unset, .unset, .unset] [])) _
      refine XS.aload X41.here hx rfl (hb hby at_65) rfl rfl ?_
      show Steps p.tables e below (T41.setTop (mkF m 67 #[.val (.long q0), .second, .val (.long q1), .second, .val (.int p2), .val (.ref b1), .val (.ref b15), .val (.ref b26), .val (.int (1 : Int32)), .unset, .unset, .unset, .unset, .unset, .unset] [(.ref b1)])) _
      refine XS.aload X41.here hx rfl (hb hby at_67) rfl rfl ?_
      show Steps p.tables e below (T41.setTop (mkF m 69 #[.val (.long q0), .second, .val (.long q1), .second, .val (.int p2), .val (.ref b1), .val (.ref b15), .val (.ref b26), .val (.int (1 : Int32)), .unset, .unset, .unset, .unset, .unset, .unset] [(.ref b15), (.ref b1)])) _
      refine st50.trans ?_
      show Steps p.tables e below (T50.setTop (mkF m 72 #[.val (.long q0), .second, .val (.long q1), .second, .val (.int p2), .val (.ref b1), .val (.ref b15), .val (.ref b26), .val (.int (1 : Int32)), .unset, .unset, .unset, .unset, .unset, .unset] [])) _
      refine XS.iload X50.here hx rfl (hb hby at_72) rfl ?_
      show Steps p.tables e below (T50.setTop (mkF m 74 #[.val (.long q0), .second, .val (.long q1), .second, .val (.int p2), .val (.ref b1), .val (.ref b15), .val (.ref b26), .val (.int (1 : Int32)), .unset, .unset, .unset, .unset, .unset, .unset] [(.int (1 : Int32))])) _
      refine XS.ifNo X50.here hx rfl (hb hby at_74) rfl (XT.i0_eq_f (by decide)) ?_
      show Steps p.tables e below (T50.setTop (mkF m 77 #[.val (.long q0), .second, .val (.long q1), .second, .val (.int p2), .val (.ref b1), .val (.ref b15), .val (.ref b26), .val (.int (1 : Int32)), .unset, .unset, .unset, .unset, .unset, .unset] [])) _
      refine XS.aload X50.here hx rfl (hb hby at_77) rfl rfl ?_
      show Steps p.tables e below (T50.setTop (mkF m 79 #[.val (.long q0), .second, .val (.long q1), .second, .val (.int p2), .val (.ref b1), .val (.ref b15), .val (.ref b26), .val (.int (1 : Int32)), .unset, .unset, .unset, .unset, .unset, .unset] [(.ref b1)])) _
      refine st56.trans ?_
      show Steps p.tables e below (T56.setTop (mkF m 82 #[.val (.long q0), .second, .val (.long q1), .second, .val (.int p2), .val (.ref b1), .val (.ref b15), .val (.ref b26), .val (.int (1 : Int32)), .unset, .unset, .unset, .unset, .unset, .unset] [(.ref b15)])) _
      refine XS.aload X56.here hx rfl (hb hby at_82) rfl rfl ?_
      show Steps p.tables e below (T56.setTop (mkF m 84 #[.val (.long q0), .second, .val (.long q1), .second, .val (.int p2), .val (.ref b1), .val (.ref b15), .val (.ref b26), .val (.int (1 : Int32)), .unset, .unset, .unset, .unset, .unset, .unset] [(.ref b15), (.ref b15)])) _
      refine XT.acmpNo X56.here hx rfl (hb hby at_84) rfl rfl rfl (XT.aa_ne_f rfl) ?_
      show Steps p.tables e below (T56.setTop (mkF m 87 #[.val (.long q0), .second, .val (.long q1), .second, .val (.int p2), .val (.ref b1), .val (.ref b15), .val (.ref b26), .val (.int (1 : Int32)), .unset, .unset, .unset, .unset, .unset, .unset] [])) _
      refine XT.iconstV X56.here hx rfl (1 : Int32) (hb hby at_87) (by decide) ?_
      show Steps p.tables e below (T56.setTop (mkF m 88 #[.val (.long q0), .second, .val (.long q1), .second, .val (.int p2), .val (.ref b1), .val (.ref b15), .val (.ref b26), .val (.int (1 : Int32)), .unset, .unset, .unset, .unset, .unset, .unset] [(.int (1 : Int32))])) _
      refine XS.goto X56.here hx rfl (pc0 := 88) (pc' := 92) rfl (hb hby at_88) (by decide) (by decide) ?_
      show Steps p.tables e below (T56.setTop (mkF m 92 #[.val (.long q0), .second, .val (.long q1), .second, .val (.int p2), .val (.ref b1), .val (.ref b15), .val (.ref b26), .val (.int (1 : Int32)), .unset, .unset, .unset, .unset, .unset, .unset] [(.int (1 : Int32))])) _
      refine XS.istore X56.here hx rfl (hb hby at_92) rfl (l' := #[.val (.long q0), .second, .val (.long q1), .second, .val (.int p2), .val (.ref b1), .val (.ref b15), .val (.ref b26), .val (.int (1 : Int32)), .unset, .unset, .unset, .unset, .unset, .unset]) rfl ?_
      show Steps p.tables e below (T56.setTop (mkF m 94 #[.val (.long q0), .second, .val (.long q1), .second, .val (.int p2), .val (.ref b1), .val (.ref b15), .val (.ref b26), .val (.int (1 : Int32)), .unset, .unset, .unset, .unset, .unset, .unset] [])) _
      refine XS.iload X56.here hx rfl (hb hby at_94) rfl ?_
      show Steps p.tables e below (T56.setTop (mkF m 96 #[.val (.long q0), .second, .val (.long q1), .second, .val (.int p2), .val (.ref b1), .val (.ref b15), .val (.ref b26), .val (.int (1 : Int32)), .unset, .unset, .unset, .unset, .unset, .unset] [(.int p2)])) _
      refine XT.iconstV X56.here hx rfl (2 : Int32) (hb hby at_96) (by decide) ?_
      show Steps p.tables e below (T56.setTop (mkF m 97 #[.val (.long q0), .second, .val (.long q1), .second, .val (.int p2), .val (.ref b1), .val (.ref b15), .val (.ref b26), .val (.int (1 : Int32)), .unset, .unset, .unset, .unset, .unset, .unset] [(.int (2 : Int32)), (.int p2)])) _
      refine XS.iand X56.here hx rfl (hb hby at_97) rfl ?_
      exact k
    clear pre48 st50 st56
    by_cases c59 : (v0_2 q0 q1 p2) = (0 : Int32)
    · skip
      have k61 := (po38_0.keep K50)
      obtain ⟨cq60, kq60, q60a, q60b, q60c⟩ := isOf hZ e56 po50_5
      obtain ⟨vr60, _, ⟨T60, L60, k60, n60⟩, -, X60, ⟨Lc60, hQ60, l60, y60, z60⟩, st60⟩ := X56.virtualBack hx (y := (⟨"com/example/dispatch_by_catalog/dispatchbycatalog/subscriptions/EventQueue", "add", "(Lcom/example/dispatch_by_catalog/dispatchbycatalog/subscriptions/Event;)V"⟩ : MethodName)) (z := (⟨"com/example/dispatch_by_catalog/dispatchbycatalog/subscriptions/EventQueue", "add", "(Lcom/example/dispatch_by_catalog/dispatchbycatalog/subscriptions/Event;)V"⟩ : MethodName)) hown (mvT hZ (hw _ (List.mem_of_getElem? (i := 100) rfl))) (mvT hZ (hw _ (List.mem_of_getElem? (i := 101) rfl))) (notFace_of_selects (args := #[]) (mvT hZ (hw _ (List.mem_of_getElem? (i := 103) rfl)))) (mvT hZ (hw _ (List.mem_of_getElem? (i := 103) rfl))) (mvT hZ (hw _ (List.mem_of_getElem? (i := 102) rfl))) (by decide) (backOf (W := 0) (rmqa16_0 l Z a0 hw [] b1 b26 x1_0_6 ((0 : Int64) + f14) x1_1_6 .null .null .null .null .null .null .null .null .null .null .null .null .null .null .null .null (.ref b15) k1_2_6 T50.heap n0 z54 po50_5 po50_6 po50_7 po50_0 po50_1 po50_2 po50_3 po50_4 po6_9 k61 g11 nex1_0_x1_1_6 g8 ne7 ne10 g2) hZ (hw _ (List.mem_of_getElem? (i := 104) rfl)) (hw _ (List.mem_of_getElem? (i := 2) rfl)) (by decide) (by decide)) q60a q60c (g := (mkF m 127 #[.val (.long q0), .second, .val (.long q1), .second, .val (.int p2), .val (.ref b1), .val (.ref b15), .val (.ref b26), .val (.int (1 : Int32)), .val (.int (0 : Int32)), .unset, .unset, .unset, .unset, .unset] [(.ref b26), (.ref b1)])) rfl (by rw [hml]; rfl) (Steps.refl _) (argsL := [(.ref b26)]) (rest := []) (lenOf pd_h171885 rfl) rfl (by show 2 * 0 + _ ≤ _; exact Nat.le_of_eq rfl) (hb hby at_127) (fun _ _ => ⟨rfl, e56, (by decide : 5 + 0 ≤ _), (by decide : 26 + 0 ≤ _)⟩)
      dsimp only [Pt.U, Pt.locs, Pt.cells, Pt.slots] at X60 l60 y60 z60 st60 hQ60
      subst l60 y60 z60
      have N60q := (show _ ∧ _ from hQ60).1
      have hq60 := (show _ ∧ _ from hQ60).2
      clear hQ60
      have hv60 := hq60.1
      have K60 := hq60.2.1
      have po60_0 := hq60.2.2.1
      have po60_1 := hq60.2.2.2.1
      have po60_2 := hq60.2.2.2.2.1
      have po60_3 := hq60.2.2.2.2.2.1
      have po60_4 := hq60.2.2.2.2.2.2.1
      have po60_5 := hq60.2.2.2.2.2.2.2.1
      have po60_6 := hq60.2.2.2.2.2.2.2.2.1
      have po60_7 := hq60.2.2.2.2.2.2.2.2.2
      clear hq60
      subst hv60
      have z62 : n0 ≤ T60.heap.size := Nat.le_trans z54 K60.1
      have hs63 : h0.size ≤ T60.heap.size := Nat.le_trans hs55 K60.1
      have N60 := Fr.app N56 N60q
      have k65 := (k57.keep K60)
      obtain ⟨cq64, kq64, q64a, q64b, q64c⟩ := isOf hZ rfl po60_5
      obtain ⟨vr64, _, ⟨T64, L64, k64, n64⟩, -, X64, ⟨Lc64, hQ64, l64, y64, z64⟩, st64⟩ := X60.virtualBack hx (y := (⟨"com/example/dispatch_by_catalog/dispatchbycatalog/subscriptions/EventQueue", "peek", "()Lcom/example/dispatch_by_catalog/dispatchbycatalog/subscriptions/Event;"⟩ : MethodName)) (z := (⟨"com/example/dispatch_by_catalog/dispatchbycatalog/subscriptions/EventQueue", "peek", "()Lcom/example/dispatch_by_catalog/dispatchbycatalog/subscriptions/Event;"⟩ : MethodName)) hown (mvT hZ (hw _ (List.mem_of_getElem? (i := 45) rfl))) (mvT hZ (hw _ (List.mem_of_getElem? (i := 46) rfl))) (notFace_of_selects (args := #[]) (mvT hZ (hw _ (List.mem_of_getElem? (i := 48) rfl)))) (mvT hZ (hw _ (List.mem_of_getElem? (i := 48) rfl))) (mvT hZ (hw _ (List.mem_of_getElem? (i := 47) rfl))) (by decide) (backOf (W := 0) (rmqp16 l Z a0 hw [] b1 x1_0_6 x1_1_6 (.ref b26) .null .null .null .null .null .null .null .null .null .null .null .null .null .null .null b15 k1_2_6 T60.heap n0 z62 po60_6 po60_1 po60_2 po60_3 po60_0 k65) hZ (hw _ (List.mem_of_getElem? (i := 49) rfl)) (hw _ (List.mem_of_getElem? (i := 2) rfl)) (by decide) (by decide)) q64a q64c (g := (mkF m 160 #[.val (.long q0), .second, .val (.long q1), .second, .val (.int p2), .val (.ref b1), .val (.ref b15), .val (.ref b26), .val (.int (1 : Int32)), .val (.int (0 : Int32)), .val (.ref b15), .val (.ref b26), .unset, .unset, .unset] [(.ref b1)])) rfl (by rw [hml]; rfl) (Steps.refl _) (argsL := []) (rest := []) (lenOf pd_h748047 rfl) rfl (by show 2 * 0 + _ ≤ _; exact Nat.le_of_eq rfl) (hb hby at_160) (fun _ _ => ⟨rfl, rfl, (by decide : 5 + 0 ≤ _), (by decide : 26 + 0 ≤ _)⟩)
      dsimp only [Pt.U, Pt.locs, Pt.cells, Pt.slots] at X64 l64 y64 z64 st64 hQ64
      subst l64 y64 z64
      have N64q := (show _ ∧ _ ∧ _ from hQ64).1
      have hv64 := (show _ ∧ _ ∧ _ from hQ64).2.1
      have e64 := (show _ ∧ _ ∧ _ from hQ64).2.2
      clear hQ64
      subst hv64
      have N64 := Fr.app N60 N64q
      obtain ⟨cq66, kq66, q66a, q66b, q66c⟩ := isOf hZ e64 po60_5
      obtain ⟨vr66, _, ⟨T66, L66, k66, n66⟩, -, X66, ⟨Lc66, hQ66, l66, y66, z66⟩, st66⟩ := X64.virtualBack hx (y := (⟨"com/example/dispatch_by_catalog/dispatchbycatalog/subscriptions/EventQueue", "peek", "()Lcom/example/dispatch_by_catalog/dispatchbycatalog/subscriptions/Event;"⟩ : MethodName)) (z := (⟨"com/example/dispatch_by_catalog/dispatchbycatalog/subscriptions/EventQueue", "peek", "()Lcom/example/dispatch_by_catalog/dispatchbycatalog/subscriptions/Event;"⟩ : MethodName)) hown (mvT hZ (hw _ (List.mem_of_getElem? (i := 45) rfl))) (mvT hZ (hw _ (List.mem_of_getElem? (i := 46) rfl))) (notFace_of_selects (args := #[]) (mvT hZ (hw _ (List.mem_of_getElem? (i := 48) rfl)))) (mvT hZ (hw _ (List.mem_of_getElem? (i := 48) rfl))) (mvT hZ (hw _ (List.mem_of_getElem? (i := 47) rfl))) (by decide) (backOf (W := 0) (rmqp16 l Z a0 hw [] b1 x1_0_6 x1_1_6 (.ref b26) .null .null .null .null .null .null .null .null .null .null .null .null .null .null .null b15 k1_2_6 T60.heap n0 z62 po60_6 po60_1 po60_2 po60_3 po60_0 k65) hZ (hw _ (List.mem_of_getElem? (i := 49) rfl)) (hw _ (List.mem_of_getElem? (i := 2) rfl)) (by decide) (by decide)) q66a q66c (g := (mkF m 167 #[.val (.long q0), .second, .val (.long q1), .second, .val (.int p2), .val (.ref b1), .val (.ref b15), .val (.ref b26), .val (.int (1 : Int32)), .val (.int (0 : Int32)), .val (.ref b15), .val (.ref b26), .val (.ref b15), .unset, .unset] [(.ref b1)])) rfl (by rw [hml]; rfl) (Steps.refl _) (argsL := []) (rest := []) (lenOf pd_h748047 rfl) rfl (by show 2 * 0 + _ ≤ _; exact Nat.le_of_eq rfl) (hb hby at_167) (fun _ _ => ⟨rfl, e64, (by decide : 5 + 0 ≤ _), (by decide : 26 + 0 ≤ _)⟩)
      dsimp only [Pt.U, Pt.locs, Pt.cells, Pt.slots] at X66 l66 y66 z66 st66 hQ66
      subst l66 y66 z66
      have N66q := (show _ ∧ _ ∧ _ from hQ66).1
      have hv66 := (show _ ∧ _ ∧ _ from hQ66).2.1
      have e66 := (show _ ∧ _ ∧ _ from hQ66).2.2
      clear hQ66
      subst hv66
      have N66 := Fr.app N64 N66q
      have pre67 : ∀ t, Steps p.tables e below (T66.setTop (mkF m 202 #[.val (.long q0), .second, .val (.long q1), .second, .val (.int p2), .val (.ref b1), .val (.ref b15), .val (.ref b26), .val (.int (1 : Int32)), .val (.int (0 : Int32)), .val (.ref b15), .val (.ref b26), .val (.ref b15), .val (.ref b15), .unset] [(.int (p2 &&& (4 : Int32)))])) t → Steps p.tables e below (s₁.setTop (entryFrame m #[(.long q0), (.long q1), (.int p2)] maxLocals)) t := by
        intro t k
        refine pre58 t ?_
        show Steps p.tables e below (T56.setTop (mkF m 98 #[.val (.long q0), .second, .val (.long q1), .second, .val (.int p2), .val (.ref b1), .val (.ref b15), .val (.ref b26), .val (.int (1 : Int32)), .unset, .unset, .unset, .unset, .unset, .unset] [(.int (p2 &&& (2 : Int32)))])) _
        refine XS.ifYes X56.here hx rfl (pc0 := 98) (pc' := 105) rfl (hb hby at_98) rfl (XT.i0_eq_t c59) (by decide) (by decide) ?_
        show Steps p.tables e below (T56.setTop (mkF m 105 #[.val (.long q0), .second, .val (.long q1), .second, .val (.int p2), .val (.ref b1), .val (.ref b15), .val (.ref b26), .val (.int (1 : Int32)), .unset, .unset, .unset, .unset, .unset, .unset] [])) _
        refine XT.iconstV X56.here hx rfl (0 : Int32) (hb hby at_105) (by decide) ?_
        show Steps p.tables e below (T56.setTop (mkF m 106 #[.val (.long q0), .second, .val (.long q1), .second, .val (.int p2), .val (.ref b1), .val (.ref b15), .val (.ref b26), .val (.int (1 : Int32)), .unset, .unset, .unset, .unset, .unset, .unset] [(.int (0 : Int32))])) _
        refine XS.istore X56.here hx rfl (hb hby at_106) rfl (l' := #[.val (.long q0), .second, .val (.long q1), .second, .val (.int p2), .val (.ref b1), .val (.ref b15), .val (.ref b26), .val (.int (1 : Int32)), .val (.int (0 : Int32)), .unset, .unset, .unset, .unset, .unset]) rfl ?_
        show Steps p.tables e below (T56.setTop (mkF m 108 #[.val (.long q0), .second, .val (.long q1), .second, .val (.int p2), .val (.ref b1), .val (.ref b15), .val (.ref b26), .val (.int (1 : Int32)), .val (.int (0 : Int32)), .unset, .unset, .unset, .unset, .unset] [])) _
        refine XS.iload X56.here hx rfl (hb hby at_108) rfl ?_
        show Steps p.tables e below (T56.setTop (mkF m 110 #[.val (.long q0), .second, .val (.long q1), .second, .val (.int p2), .val (.ref b1), .val (.ref b15), .val (.ref b26), .val (.int (1 : Int32)), .val (.int (0 : Int32)), .unset, .unset, .unset, .unset, .unset] [(.int (0 : Int32))])) _
        refine XS.ifYes X56.here hx rfl (pc0 := 110) (pc' := 123) rfl (hb hby at_110) rfl (XT.i0_eq_t (by decide)) (by decide) (by decide) ?_
        show Steps p.tables e below (T56.setTop (mkF m 123 #[.val (.long q0), .second, .val (.long q1), .second, .val (.int p2), .val (.ref b1), .val (.ref b15), .val (.ref b26), .val (.int (1 : Int32)), .val (.int (0 : Int32)), .unset, .unset, .unset, .unset, .unset] [])) _
        refine XS.aload X56.here hx rfl (hb hby at_123) rfl rfl ?_
        show Steps p.tables e below (T56.setTop (mkF m 125 #[.val (.long q0), .second, .val (.long q1), .second, .val (.int p2), .val (.ref b1), .val (.ref b15), .val (.ref b26), .val (.int (1 : Int32)), .val (.int (0 : Int32)), .unset, .unset, .unset, .unset, .unset] [(.ref b1)])) _
        refine XS.aload X56.here hx rfl (hb hby at_125) rfl rfl ?_
        show Steps p.tables e below (T56.setTop (mkF m 127 #[.val (.long q0), .second, .val (.long q1), .second, .val (.int p2), .val (.ref b1), .val (.ref b15), .val (.ref b26), .val (.int (1 : Int32)), .val (.int (0 : Int32)), .unset, .unset, .unset, .unset, .unset] [(.ref b26), (.ref b1)])) _
        refine st60.trans ?_
        show Steps p.tables e below (T60.setTop (mkF m 130 #[.val (.long q0), .second, .val (.long q1), .second, .val (.int p2), .val (.ref b1), .val (.ref b15), .val (.ref b26), .val (.int (1 : Int32)), .val (.int (0 : Int32)), .unset, .unset, .unset, .unset, .unset] [])) _
        refine XS.iload X60.here hx rfl (hb hby at_130) rfl ?_
        show Steps p.tables e below (T60.setTop (mkF m 132 #[.val (.long q0), .second, .val (.long q1), .second, .val (.int p2), .val (.ref b1), .val (.ref b15), .val (.ref b26), .val (.int (1 : Int32)), .val (.int (0 : Int32)), .unset, .unset, .unset, .unset, .unset] [(.int (0 : Int32))])) _
        refine XS.ifYes X60.here hx rfl (pc0 := 132) (pc' := 140) rfl (hb hby at_132) rfl (XT.i0_eq_t (by decide)) (by decide) (by decide) ?_
        show Steps p.tables e below (T60.setTop (mkF m 140 #[.val (.long q0), .second, .val (.long q1), .second, .val (.int p2), .val (.ref b1), .val (.ref b15), .val (.ref b26), .val (.int (1 : Int32)), .val (.int (0 : Int32)), .unset, .unset, .unset, .unset, .unset] [])) _
        refine XS.aload X60.here hx rfl (hb hby at_140) rfl rfl ?_
        show Steps p.tables e below (T60.setTop (mkF m 142 #[.val (.long q0), .second, .val (.long q1), .second, .val (.int p2), .val (.ref b1), .val (.ref b15), .val (.ref b26), .val (.int (1 : Int32)), .val (.int (0 : Int32)), .unset, .unset, .unset, .unset, .unset] [(.ref b15)])) _
        refine XS.astore X60.here hx rfl (hb hby at_142) rfl rfl (l' := #[.val (.long q0), .second, .val (.long q1), .second, .val (.int p2), .val (.ref b1), .val (.ref b15), .val (.ref b26), .val (.int (1 : Int32)), .val (.int (0 : Int32)), .val (.ref b15), .unset, .unset, .unset, .unset]) rfl ?_
        show Steps p.tables e below (T60.setTop (mkF m 144 #[.val (.long q0), .second, .val (.long q1), .second, .val (.int p2), .val (.ref b1), .val (.ref b15), .val (.ref b26), .val (.int (1 : Int32)), .val (.int (0 : Int32)), .val (.ref b15), .unset, .unset, .unset, .unset] [])) _
        refine XS.iload X60.here hx rfl (hb hby at_144) rfl ?_
        show Steps p.tables e below (T60.setTop (mkF m 146 #[.val (.long q0), .second, .val (.long q1), .second, .val (.int p2), .val (.ref b1), .val (.ref b15), .val (.ref b26), .val (.int (1 : Int32)), .val (.int (0 : Int32)), .val (.ref b15), .unset, .unset, .unset, .unset] [(.int (0 : Int32))])) _
        refine XS.ifYes X60.here hx rfl (pc0 := 146) (pc' := 154) rfl (hb hby at_146) rfl (XT.i0_eq_t (by decide)) (by decide) (by decide) ?_
        show Steps p.tables e below (T60.setTop (mkF m 154 #[.val (.long q0), .second, .val (.long q1), .second, .val (.int p2), .val (.ref b1), .val (.ref b15), .val (.ref b26), .val (.int (1 : Int32)), .val (.int (0 : Int32)), .val (.ref b15), .unset, .unset, .unset, .unset] [])) _
        refine XS.aload X60.here hx rfl (hb hby at_154) rfl rfl ?_
        show Steps p.tables e below (T60.setTop (mkF m 156 #[.val (.long q0), .second, .val (.long q1), .second, .val (.int p2), .val (.ref b1), .val (.ref b15), .val (.ref b26), .val (.int (1 : Int32)), .val (.int (0 : Int32)), .val (.ref b15), .unset, .unset, .unset, .unset] [(.ref b26)])) _
        refine XS.astore X60.here hx rfl (hb hby at_156) rfl rfl (l' := #[.val (.long q0), .second, .val (.long q1), .second, .val (.int p2), .val (.ref b1), .val (.ref b15), .val (.ref b26), .val (.int (1 : Int32)), .val (.int (0 : Int32)), .val (.ref b15), .val (.ref b26), .unset, .unset, .unset]) rfl ?_
        show Steps p.tables e below (T60.setTop (mkF m 158 #[.val (.long q0), .second, .val (.long q1), .second, .val (.int p2), .val (.ref b1), .val (.ref b15), .val (.ref b26), .val (.int (1 : Int32)), .val (.int (0 : Int32)), .val (.ref b15), .val (.ref b26), .unset, .unset, .unset] [])) _
        refine XS.aload X60.here hx rfl (hb hby at_158) rfl rfl ?_
        show Steps p.tables e below (T60.setTop (mkF m 160 #[.val (.long q0), .second, .val (.long q1), .second, .val (.int p2), .val (.ref b1), .val (.ref b15), .val (.ref b26), .val (.int (1 : Int32)), .val (.int (0 : Int32)), .val (.ref b15), .val (.ref b26), .unset, .unset, .unset] [(.ref b1)])) _
        refine st64.trans ?_
        show Steps p.tables e below (T64.setTop (mkF m 163 #[.val (.long q0), .second, .val (.long q1), .second, .val (.int p2), .val (.ref b1), .val (.ref b15), .val (.ref b26), .val (.int (1 : Int32)), .val (.int (0 : Int32)), .val (.ref b15), .val (.ref b26), .unset, .unset, .unset] [(.ref b15)])) _
        refine XS.astore X64.here hx rfl (hb hby at_163) rfl rfl (l' := #[.val (.long q0), .second, .val (.long q1), .second, .val (.int p2), .val (.ref b1), .val (.ref b15), .val (.ref b26), .val (.int (1 : Int32)), .val (.int (0 : Int32)), .val (.ref b15), .val (.ref b26), .val (.ref b15), .unset, .unset]) rfl ?_
        show Steps p.tables e below (T64.setTop (mkF m 165 #[.val (.long q0), .second, .val (.long q1), .second, .val (.int p2), .val (.ref b1), .val (.ref b15), .val (.ref b26), .val (.int (1 : Int32)), .val (.int (0 : Int32)), .val (.ref b15), .val (.ref b26), .val (.ref b15), .unset, .unset] [])) _
        refine XS.aload X64.here hx rfl (hb hby at_165) rfl rfl ?_
        show Steps p.tables e below (T64.setTop (mkF m 167 #[.val (.long q0), .second, .val (.long q1), .second, .val (.int p2), .val (.ref b1), .val (.ref b15), .val (.ref b26), .val (.int (1 : Int32)), .val (.int (0 : Int32)), .val (.ref b15), .val (.ref b26), .val (.ref b15), .unset, .unset] [(.ref b1)])) _
        refine st66.trans ?_
        show Steps p.tables e below (T66.setTop (mkF m 170 #[.val (.long q0), .second, .val (.long q1), .second, .val (.int p2), .val (.ref b1), .val (.ref b15), .val (.ref b26), .val (.int (1 : Int32)), .val (.int (0 : Int32)), .val (.ref b15), .val (.ref b26), .val (.ref b15), .unset, .unset] [(.ref b15)])) _
        refine XS.astore X66.here hx rfl (hb hby at_170) rfl rfl (l' := #[.val (.long q0), .second, .val (.long q1), .second, .val (.int p2), .val (.ref b1), .val (.ref b15), .val (.ref b26), .val (.int (1 : Int32)), .val (.int (0 : Int32)), .val (.ref b15), .val (.ref b26), .val (.ref b15), .val (.ref b15), .unset]) rfl ?_
        show Steps p.tables e below (T66.setTop (mkF m 172 #[.val (.long q0), .second, .val (.long q1), .second, .val (.int p2), .val (.ref b1), .val (.ref b15), .val (.ref b26), .val (.int (1 : Int32)), .val (.int (0 : Int32)), .val (.ref b15), .val (.ref b26), .val (.ref b15), .val (.ref b15), .unset] [])) _
        refine XS.iload X66.here hx rfl (hb hby at_172) rfl ?_
        show Steps p.tables e below (T66.setTop (mkF m 174 #[.val (.long q0), .second, .val (.long q1), .second, .val (.int p2), .val (.ref b1), .val (.ref b15), .val (.ref b26), .val (.int (1 : Int32)), .val (.int (0 : Int32)), .val (.ref b15), .val (.ref b26), .val (.ref b15), .val (.ref b15), .unset] [(.int (1 : Int32))])) _
        refine XS.ifNo X66.here hx rfl (hb hby at_174) rfl (XT.i0_eq_f (by decide)) ?_
        show Steps p.tables e below (T66.setTop (mkF m 177 #[.val (.long q0), .second, .val (.long q1), .second, .val (.int p2), .val (.ref b1), .val (.ref b15), .val (.ref b26), .val (.int (1 : Int32)), .val (.int (0 : Int32)), .val (.ref b15), .val (.ref b26), .val (.ref b15), .val (.ref b15), .unset] [])) _
        refine XS.aload X66.here hx rfl (hb hby at_177) rfl rfl ?_
        show Steps p.tables e below (T66.setTop (mkF m 179 #[.val (.long q0), .second, .val (.long q1), .second, .val (.int p2), .val (.ref b1), .val (.ref b15), .val (.ref b26), .val (.int (1 : Int32)), .val (.int (0 : Int32)), .val (.ref b15), .val (.ref b26), .val (.ref b15), .val (.ref b15), .unset] [(.ref b15)])) _
        refine XS.aload X66.here hx rfl (hb hby at_179) rfl rfl ?_
        show Steps p.tables e below (T66.setTop (mkF m 181 #[.val (.long q0), .second, .val (.long q1), .second, .val (.int p2), .val (.ref b1), .val (.ref b15), .val (.ref b26), .val (.int (1 : Int32)), .val (.int (0 : Int32)), .val (.ref b15), .val (.ref b26), .val (.ref b15), .val (.ref b15), .unset] [(.ref b15), (.ref b15)])) _
        refine XT.acmpNo X66.here hx rfl (hb hby at_181) rfl rfl rfl (XT.aa_ne_f rfl) ?_
        show Steps p.tables e below (T66.setTop (mkF m 184 #[.val (.long q0), .second, .val (.long q1), .second, .val (.int p2), .val (.ref b1), .val (.ref b15), .val (.ref b26), .val (.int (1 : Int32)), .val (.int (0 : Int32)), .val (.ref b15), .val (.ref b26), .val (.ref b15), .val (.ref b15), .unset] [])) _
        refine XS.aload X66.here hx rfl (hb hby at_184) rfl rfl ?_
        show Steps p.tables e below (T66.setTop (mkF m 186 #[.val (.long q0), .second, .val (.long q1), .second, .val (.int p2), .val (.ref b1), .val (.ref b15), .val (.ref b26), .val (.int (1 : Int32)), .val (.int (0 : Int32)), .val (.ref b15), .val (.ref b26), .val (.ref b15), .val (.ref b15), .unset] [(.ref b15)])) _
        refine XS.aload X66.here hx rfl (hb hby at_186) rfl rfl ?_
        show Steps p.tables e below (T66.setTop (mkF m 188 #[.val (.long q0), .second, .val (.long q1), .second, .val (.int p2), .val (.ref b1), .val (.ref b15), .val (.ref b26), .val (.int (1 : Int32)), .val (.int (0 : Int32)), .val (.ref b15), .val (.ref b26), .val (.ref b15), .val (.ref b15), .unset] [(.ref b15), (.ref b15)])) _
        refine XT.acmpNo X66.here hx rfl (hb hby at_188) rfl rfl rfl (XT.aa_ne_f rfl) ?_
        show Steps p.tables e below (T66.setTop (mkF m 191 #[.val (.long q0), .second, .val (.long q1), .second, .val (.int p2), .val (.ref b1), .val (.ref b15), .val (.ref b26), .val (.int (1 : Int32)), .val (.int (0 : Int32)), .val (.ref b15), .val (.ref b26), .val (.ref b15), .val (.ref b15), .unset] [])) _
        refine XT.iconstV X66.here hx rfl (1 : Int32) (hb hby at_191) (by decide) ?_
        show Steps p.tables e below (T66.setTop (mkF m 192 #[.val (.long q0), .second, .val (.long q1), .second, .val (.int p2), .val (.ref b1), .val (.ref b15), .val (.ref b26), .val (.int (1 : Int32)), .val (.int (0 : Int32)), .val (.ref b15), .val (.ref b26), .val (.ref b15), .val (.ref b15), .unset] [(.int (1 : Int32))])) _
        refine XS.goto X66.here hx rfl (pc0 := 192) (pc' := 196) rfl (hb hby at_192) (by decide) (by decide) ?_
        show Steps p.tables e below (T66.setTop (mkF m 196 #[.val (.long q0), .second, .val (.long q1), .second, .val (.int p2), .val (.ref b1), .val (.ref b15), .val (.ref b26), .val (.int (1 : Int32)), .val (.int (0 : Int32)), .val (.ref b15), .val (.ref b26), .val (.ref b15), .val (.ref b15), .unset] [(.int (1 : Int32))])) _
        refine XS.istore X66.here hx rfl (hb hby at_196) rfl (l' := #[.val (.long q0), .second, .val (.long q1), .second, .val (.int p2), .val (.ref b1), .val (.ref b15), .val (.ref b26), .val (.int (1 : Int32)), .val (.int (0 : Int32)), .val (.ref b15), .val (.ref b26), .val (.ref b15), .val (.ref b15), .unset]) rfl ?_
        show Steps p.tables e below (T66.setTop (mkF m 198 #[.val (.long q0), .second, .val (.long q1), .second, .val (.int p2), .val (.ref b1), .val (.ref b15), .val (.ref b26), .val (.int (1 : Int32)), .val (.int (0 : Int32)), .val (.ref b15), .val (.ref b26), .val (.ref b15), .val (.ref b15), .unset] [])) _
        refine XS.iload X66.here hx rfl (hb hby at_198) rfl ?_
        show Steps p.tables e below (T66.setTop (mkF m 200 #[.val (.long q0), .second, .val (.long q1), .second, .val (.int p2), .val (.ref b1), .val (.ref b15), .val (.ref b26), .val (.int (1 : Int32)), .val (.int (0 : Int32)), .val (.ref b15), .val (.ref b26), .val (.ref b15), .val (.ref b15), .unset] [(.int p2)])) _
        refine XT.iconstV X66.here hx rfl (4 : Int32) (hb hby at_200) (by decide) ?_
        show Steps p.tables e below (T66.setTop (mkF m 201 #[.val (.long q0), .second, .val (.long q1), .second, .val (.int p2), .val (.ref b1), .val (.ref b15), .val (.ref b26), .val (.int (1 : Int32)), .val (.int (0 : Int32)), .val (.ref b15), .val (.ref b26), .val (.ref b15), .val (.ref b15), .unset] [(.int (4 : Int32)), (.int p2)])) _
        refine XS.iand X66.here hx rfl (hb hby at_201) rfl ?_
        exact k
      clear pre58 st60 st64 st66
      by_cases c68 : (v0_3 q0 q1 p2) = (0 : Int32)
      · skip
        obtain ⟨fs, hr, hrun, hended, hW, hsame⟩ := X66.leave (v := some (.int (1 : Int32))) (fun h => by rw [Bd.returns] at h; cases h) hlk
        refine ⟨_, _, pre67 _ ?_, hrun, hended, _, _, rfl, ?_, ⟨_, rfl⟩, hW, hsame.mono (by decide) (by decide)⟩
        · skip
          show Steps p.tables e below (T66.setTop (mkF m 202 #[.val (.long q0), .second, .val (.long q1), .second, .val (.int p2), .val (.ref b1), .val (.ref b15), .val (.ref b26), .val (.int (1 : Int32)), .val (.int (0 : Int32)), .val (.ref b15), .val (.ref b26), .val (.ref b15), .val (.ref b15), .unset] [(.int (p2 &&& (4 : Int32)))])) _
          refine XS.ifYes X66.here hx rfl (pc0 := 202) (pc' := 241) rfl (hb hby at_202) rfl (XT.i0_eq_t c68) (by decide) (by decide) ?_
          show Steps p.tables e below (T66.setTop (mkF m 241 #[.val (.long q0), .second, .val (.long q1), .second, .val (.int p2), .val (.ref b1), .val (.ref b15), .val (.ref b26), .val (.int (1 : Int32)), .val (.int (0 : Int32)), .val (.ref b15), .val (.ref b26), .val (.ref b15), .val (.ref b15), .unset] [])) _
          refine XS.iload X66.here hx rfl (hb hby at_241) rfl ?_
          show Steps p.tables e below (T66.setTop (mkF m 243 #[.val (.long q0), .second, .val (.long q1), .second, .val (.int p2), .val (.ref b1), .val (.ref b15), .val (.ref b26), .val (.int (1 : Int32)), .val (.int (0 : Int32)), .val (.ref b15), .val (.ref b26), .val (.ref b15), .val (.ref b15), .unset] [(.int (1 : Int32))])) _
          exact retN X66 hx (t := .boolean) Bd.returns (by simp) (hb hby at_243) hr
        · skip
          show Q0 Z q0 q1 p2 h0 n0 _ T66.heap _
          rw [e66]
          exact ⟨rfl, N66⟩
      · skip
        obtain ⟨cq69, kq69, q69a, q69b, q69c⟩ := isOf hZ e66 po60_5
        obtain ⟨vr69, _, ⟨T69, L69, k69, n69⟩, -, X69, ⟨Lc69, hQ69, l69, y69, z69⟩, st69⟩ := X66.virtualBack hx (y := (⟨"com/example/dispatch_by_catalog/dispatchbycatalog/subscriptions/EventQueue", "poll", "()Lcom/example/dispatch_by_catalog/dispatchbycatalog/subscriptions/Event;"⟩ : MethodName)) (z := (⟨"com/example/dispatch_by_catalog/dispatchbycatalog/subscriptions/EventQueue", "poll", "()Lcom/example/dispatch_by_catalog/dispatchbycatalog/subscriptions/Event;"⟩ : MethodName)) hown (mvT hZ (hw _ (List.mem_of_getElem? (i := 116) rfl))) (mvT hZ (hw _ (List.mem_of_getElem? (i := 117) rfl))) (notFace_of_selects (args := #[]) (mvT hZ (hw _ (List.mem_of_getElem? (i := 119) rfl)))) (mvT hZ (hw _ (List.mem_of_getElem? (i := 119) rfl))) (mvT hZ (hw _ (List.mem_of_getElem? (i := 118) rfl))) (by decide) (backOf (W := 0) (rmql16_1 l Z a0 hw [] b1 x1_0_6 (((0 : Int64) + f14) + f14) x1_1_6 (.ref b26) .null .null .null .null .null .null .null .null .null .null .null .null .null .null .null b15 k1_2_6 T60.heap n0 z62 po60_5 po60_6 po60_7 po60_1 po60_2 po60_3 po60_4 po60_0 k65 g11 nex1_0_x1_1_6 g8 ne7 ne10 g2) hZ (hw _ (List.mem_of_getElem? (i := 120) rfl)) (hw _ (List.mem_of_getElem? (i := 2) rfl)) (by decide) (by decide)) q69a q69c (g := (mkF m 207 #[.val (.long q0), .second, .val (.long q1), .second, .val (.int p2), .val (.ref b1), .val (.ref b15), .val (.ref b26), .val (.int (1 : Int32)), .val (.int (0 : Int32)), .val (.ref b15), .val (.ref b26), .val (.ref b15), .val (.ref b15), .unset] [(.ref b1)])) rfl (by rw [hml]; rfl) (Steps.refl _) (argsL := []) (rest := []) (lenOf pd_h748047 rfl) rfl (by show 2 * 0 + _ ≤ _; exact Nat.le_of_eq rfl) (hb hby at_207) (fun _ _ => ⟨rfl, e66, (by decide : 5 + 0 ≤ _), (by decide : 26 + 0 ≤ _)⟩)
        dsimp only [Pt.U, Pt.locs, Pt.cells, Pt.slots] at X69 l69 y69 z69 st69 hQ69
        subst l69 y69 z69
        have N69q := (show _ ∧ _ from hQ69).1
        have hq69 := (show _ ∧ _ from hQ69).2
        clear hQ69
        have hv69 := hq69.1
        have K69 := hq69.2.1
        have po69_0 := hq69.2.2.1
        have po69_1 := hq69.2.2.2.1
        have po69_2 := hq69.2.2.2.2.1
        have po69_3 := hq69.2.2.2.2.2.1
        have po69_4 := hq69.2.2.2.2.2.2.1
        have po69_5 := hq69.2.2.2.2.2.2.2.1
        have po69_6 := hq69.2.2.2.2.2.2.2.2.1
        have po69_7 := hq69.2.2.2.2.2.2.2.2.2
        clear hq69
        subst hv69
        have z70 : n0 ≤ T69.heap.size := Nat.le_trans z62 K69.1
        have hs71 : h0.size ≤ T69.heap.size := Nat.le_trans hs63 K69.1
        have N69 := Fr.app N66 N69q
        have k73 := ((k61.keep K60).keep K69)
        obtain ⟨cq72, kq72, q72a, q72b, q72c⟩ := isOf hZ rfl po69_5
        obtain ⟨vr72, _, ⟨T72, L72, k72, n72⟩, -, X72, ⟨Lc72, hQ72, l72, y72, z72⟩, st72⟩ := X69.virtualBack hx (y := (⟨"com/example/dispatch_by_catalog/dispatchbycatalog/subscriptions/EventQueue", "peek", "()Lcom/example/dispatch_by_catalog/dispatchbycatalog/subscriptions/Event;"⟩ : MethodName)) (z := (⟨"com/example/dispatch_by_catalog/dispatchbycatalog/subscriptions/EventQueue", "peek", "()Lcom/example/dispatch_by_catalog/dispatchbycatalog/subscriptions/Event;"⟩ : MethodName)) hown (mvT hZ (hw _ (List.mem_of_getElem? (i := 45) rfl))) (mvT hZ (hw _ (List.mem_of_getElem? (i := 46) rfl))) (notFace_of_selects (args := #[]) (mvT hZ (hw _ (List.mem_of_getElem? (i := 48) rfl)))) (mvT hZ (hw _ (List.mem_of_getElem? (i := 48) rfl))) (mvT hZ (hw _ (List.mem_of_getElem? (i := 47) rfl))) (by decide) (backOf (W := 0) (rmqp0 l Z a0 hw [] b1 x1_0_6 x1_1_6 b26 .null .null .null .null .null .null .null .null .null .null .null .null .null .null .null .null k1_2_6 T69.heap n0 z70 po69_6 po69_1 po69_2 po69_3 po69_0 k73) hZ (hw _ (List.mem_of_getElem? (i := 49) rfl)) (hw _ (List.mem_of_getElem? (i := 2) rfl)) (by decide) (by decide)) q72a q72c (g := (mkF m 226 #[.val (.long q0), .second, .val (.long q1), .second, .val (.int p2), .val (.ref b1), .val (.ref b15), .val (.ref b26), .val (.int (1 : Int32)), .val (.int (0 : Int32)), .val (.ref b15), .val (.ref b26), .val (.ref b15), .val (.ref b15), .val (.ref b15)] [(.ref b1)])) rfl (by rw [hml]; rfl) (Steps.refl _) (argsL := []) (rest := []) (lenOf pd_h748047 rfl) rfl (by show 2 * 0 + _ ≤ _; exact Nat.le_of_eq rfl) (hb hby at_226) (fun _ _ => ⟨rfl, rfl, (by decide : 5 + 0 ≤ _), (by decide : 26 + 0 ≤ _)⟩)
        dsimp only [Pt.U, Pt.locs, Pt.cells, Pt.slots] at X72 l72 y72 z72 st72 hQ72
        subst l72 y72 z72
        have N72q := (show _ ∧ _ ∧ _ from hQ72).1
        have hv72 := (show _ ∧ _ ∧ _ from hQ72).2.1
        have e72 := (show _ ∧ _ ∧ _ from hQ72).2.2
        clear hQ72
        subst hv72
        have N72 := Fr.app N69 N72q
        obtain ⟨fs, hr, hrun, hended, hW, hsame⟩ := X72.leave (v := some (.int (1 : Int32))) (fun h => by rw [Bd.returns] at h; cases h) hlk
        refine ⟨_, _, pre67 _ ?_, hrun, hended, _, _, rfl, ?_, ⟨_, rfl⟩, hW, hsame.mono (by decide) (by decide)⟩
        · skip
          show Steps p.tables e below (T66.setTop (mkF m 202 #[.val (.long q0), .second, .val (.long q1), .second, .val (.int p2), .val (.ref b1), .val (.ref b15), .val (.ref b26), .val (.int (1 : Int32)), .val (.int (0 : Int32)), .val (.ref b15), .val (.ref b26), .val (.ref b15), .val (.ref b15), .unset] [(.int (p2 &&& (4 : Int32)))])) _
          refine XS.ifNo X66.here hx rfl (hb hby at_202) rfl (XT.i0_eq_f c68) ?_
          show Steps p.tables e below (T66.setTop (mkF m 205 #[.val (.long q0), .second, .val (.long q1), .second, .val (.int p2), .val (.ref b1), .val (.ref b15), .val (.ref b26), .val (.int (1 : Int32)), .val (.int (0 : Int32)), .val (.ref b15), .val (.ref b26), .val (.ref b15), .val (.ref b15), .unset] [])) _
          refine XS.aload X66.here hx rfl (hb hby at_205) rfl rfl ?_
          show Steps p.tables e below (T66.setTop (mkF m 207 #[.val (.long q0), .second, .val (.long q1), .second, .val (.int p2), .val (.ref b1), .val (.ref b15), .val (.ref b26), .val (.int (1 : Int32)), .val (.int (0 : Int32)), .val (.ref b15), .val (.ref b26), .val (.ref b15), .val (.ref b15), .unset] [(.ref b1)])) _
          refine st69.trans ?_
          show Steps p.tables e below (T69.setTop (mkF m 210 #[.val (.long q0), .second, .val (.long q1), .second, .val (.int p2), .val (.ref b1), .val (.ref b15), .val (.ref b26), .val (.int (1 : Int32)), .val (.int (0 : Int32)), .val (.ref b15), .val (.ref b26), .val (.ref b15), .val (.ref b15), .unset] [(.ref b15)])) _
          refine XS.astore X69.here hx rfl (hb hby at_210) rfl rfl (l' := #[.val (.long q0), .second, .val (.long q1), .second, .val (.int p2), .val (.ref b1), .val (.ref b15), .val (.ref b26), .val (.int (1 : Int32)), .val (.int (0 : Int32)), .val (.ref b15), .val (.ref b26), .val (.ref b15), .val (.ref b15), .val (.ref b15)]) rfl ?_
          show Steps p.tables e below (T69.setTop (mkF m 212 #[.val (.long q0), .second, .val (.long q1), .second, .val (.int p2), .val (.ref b1), .val (.ref b15), .val (.ref b26), .val (.int (1 : Int32)), .val (.int (0 : Int32)), .val (.ref b15), .val (.ref b26), .val (.ref b15), .val (.ref b15), .val (.ref b15)] [])) _
          refine XS.iload X69.here hx rfl (hb hby at_212) rfl ?_
          show Steps p.tables e below (T69.setTop (mkF m 214 #[.val (.long q0), .second, .val (.long q1), .second, .val (.int p2), .val (.ref b1), .val (.ref b15), .val (.ref b26), .val (.int (1 : Int32)), .val (.int (0 : Int32)), .val (.ref b15), .val (.ref b26), .val (.ref b15), .val (.ref b15), .val (.ref b15)] [(.int (1 : Int32))])) _
          refine XS.ifNo X69.here hx rfl (hb hby at_214) rfl (XT.i0_eq_f (by decide)) ?_
          show Steps p.tables e below (T69.setTop (mkF m 217 #[.val (.long q0), .second, .val (.long q1), .second, .val (.int p2), .val (.ref b1), .val (.ref b15), .val (.ref b26), .val (.int (1 : Int32)), .val (.int (0 : Int32)), .val (.ref b15), .val (.ref b26), .val (.ref b15), .val (.ref b15), .val (.ref b15)] [])) _
          refine XS.aload X69.here hx rfl (hb hby at_217) rfl rfl ?_
          show Steps p.tables e below (T69.setTop (mkF m 219 #[.val (.long q0), .second, .val (.long q1), .second, .val (.int p2), .val (.ref b1), .val (.ref b15), .val (.ref b26), .val (.int (1 : Int32)), .val (.int (0 : Int32)), .val (.ref b15), .val (.ref b26), .val (.ref b15), .val (.ref b15), .val (.ref b15)] [(.ref b15)])) _
          refine XS.aload X69.here hx rfl (hb hby at_219) rfl rfl ?_
          show Steps p.tables e below (T69.setTop (mkF m 221 #[.val (.long q0), .second, .val (.long q1), .second, .val (.int p2), .val (.ref b1), .val (.ref b15), .val (.ref b26), .val (.int (1 : Int32)), .val (.int (0 : Int32)), .val (.ref b15), .val (.ref b26), .val (.ref b15), .val (.ref b15), .val (.ref b15)] [(.ref b15), (.ref b15)])) _
          refine XT.acmpNo X69.here hx rfl (hb hby at_221) rfl rfl rfl (XT.aa_ne_f rfl) ?_
          show Steps p.tables e below (T69.setTop (mkF m 224 #[.val (.long q0), .second, .val (.long q1), .second, .val (.int p2), .val (.ref b1), .val (.ref b15), .val (.ref b26), .val (.int (1 : Int32)), .val (.int (0 : Int32)), .val (.ref b15), .val (.ref b26), .val (.ref b15), .val (.ref b15), .val (.ref b15)] [])) _
          refine XS.aload X69.here hx rfl (hb hby at_224) rfl rfl ?_
          show Steps p.tables e below (T69.setTop (mkF m 226 #[.val (.long q0), .second, .val (.long q1), .second, .val (.int p2), .val (.ref b1), .val (.ref b15), .val (.ref b26), .val (.int (1 : Int32)), .val (.int (0 : Int32)), .val (.ref b15), .val (.ref b26), .val (.ref b15), .val (.ref b15), .val (.ref b15)] [(.ref b1)])) _
          refine st72.trans ?_
          show Steps p.tables e below (T72.setTop (mkF m 229 #[.val (.long q0), .second, .val (.long q1), .second, .val (.int p2), .val (.ref b1), .val (.ref b15), .val (.ref b26), .val (.int (1 : Int32)), .val (.int (0 : Int32)), .val (.ref b15), .val (.ref b26), .val (.ref b15), .val (.ref b15), .val (.ref b15)] [(.ref b26)])) _
          refine XS.aload X72.here hx rfl (hb hby at_229) rfl rfl ?_
          show Steps p.tables e below (T72.setTop (mkF m 231 #[.val (.long q0), .second, .val (.long q1), .second, .val (.int p2), .val (.ref b1), .val (.ref b15), .val (.ref b26), .val (.int (1 : Int32)), .val (.int (0 : Int32)), .val (.ref b15), .val (.ref b26), .val (.ref b15), .val (.ref b15), .val (.ref b15)] [(.ref b26), (.ref b26)])) _
          refine XT.acmpNo X72.here hx rfl (hb hby at_231) rfl rfl rfl (XT.aa_ne_f rfl) ?_
          show Steps p.tables e below (T72.setTop (mkF m 234 #[.val (.long q0), .second, .val (.long q1), .second, .val (.int p2), .val (.ref b1), .val (.ref b15), .val (.ref b26), .val (.int (1 : Int32)), .val (.int (0 : Int32)), .val (.ref b15), .val (.ref b26), .val (.ref b15), .val (.ref b15), .val (.ref b15)] [])) _
          refine XT.iconstV X72.here hx rfl (1 : Int32) (hb hby at_234) (by decide) ?_
          show Steps p.tables e below (T72.setTop (mkF m 235 #[.val (.long q0), .second, .val (.long q1), .second, .val (.int p2), .val (.ref b1), .val (.ref b15), .val (.ref b26), .val (.int (1 : Int32)), .val (.int (0 : Int32)), .val (.ref b15), .val (.ref b26), .val (.ref b15), .val (.ref b15), .val (.ref b15)] [(.int (1 : Int32))])) _
          refine XS.goto X72.here hx rfl (pc0 := 235) (pc' := 239) rfl (hb hby at_235) (by decide) (by decide) ?_
          show Steps p.tables e below (T72.setTop (mkF m 239 #[.val (.long q0), .second, .val (.long q1), .second, .val (.int p2), .val (.ref b1), .val (.ref b15), .val (.ref b26), .val (.int (1 : Int32)), .val (.int (0 : Int32)), .val (.ref b15), .val (.ref b26), .val (.ref b15), .val (.ref b15), .val (.ref b15)] [(.int (1 : Int32))])) _
          refine XS.istore X72.here hx rfl (hb hby at_239) rfl (l' := #[.val (.long q0), .second, .val (.long q1), .second, .val (.int p2), .val (.ref b1), .val (.ref b15), .val (.ref b26), .val (.int (1 : Int32)), .val (.int (0 : Int32)), .val (.ref b15), .val (.ref b26), .val (.ref b15), .val (.ref b15), .val (.ref b15)]) rfl ?_
          show Steps p.tables e below (T72.setTop (mkF m 241 #[.val (.long q0), .second, .val (.long q1), .second, .val (.int p2), .val (.ref b1), .val (.ref b15), .val (.ref b26), .val (.int (1 : Int32)), .val (.int (0 : Int32)), .val (.ref b15), .val (.ref b26), .val (.ref b15), .val (.ref b15), .val (.ref b15)] [])) _
          refine XS.iload X72.here hx rfl (hb hby at_241) rfl ?_
          show Steps p.tables e below (T72.setTop (mkF m 243 #[.val (.long q0), .second, .val (.long q1), .second, .val (.int p2), .val (.ref b1), .val (.ref b15), .val (.ref b26), .val (.int (1 : Int32)), .val (.int (0 : Int32)), .val (.ref b15), .val (.ref b26), .val (.ref b15), .val (.ref b15), .val (.ref b15)] [(.int (1 : Int32))])) _
          exact retN X72 hx (t := .boolean) Bd.returns (by simp) (hb hby at_243) hr
        · skip
          show Q0 Z q0 q1 p2 h0 n0 _ T72.heap _
          rw [e72]
          exact ⟨rfl, N72⟩
    · skip
      have k75 := (po38_0.keep K50)
      obtain ⟨cq74, kq74, q74a, q74b, q74c⟩ := isOf hZ e56 po50_5
      obtain ⟨vr74, _, ⟨T74, L74, k74, n74⟩, -, X74, ⟨Lc74, hQ74, l74, y74, z74⟩, st74⟩ := X56.virtualBack hx (y := (⟨"com/example/dispatch_by_catalog/dispatchbycatalog/subscriptions/EventQueue", "addFirst", "(Lcom/example/dispatch_by_catalog/dispatchbycatalog/subscriptions/Event;)V"⟩ : MethodName)) (z := (⟨"com/example/dispatch_by_catalog/dispatchbycatalog/subscriptions/EventQueue", "addFirst", "(Lcom/example/dispatch_by_catalog/dispatchbycatalog/subscriptions/Event;)V"⟩ : MethodName)) hown (mvT hZ (hw _ (List.mem_of_getElem? (i := 69) rfl))) (mvT hZ (hw _ (List.mem_of_getElem? (i := 70) rfl))) (notFace_of_selects (args := #[]) (mvT hZ (hw _ (List.mem_of_getElem? (i := 72) rfl)))) (mvT hZ (hw _ (List.mem_of_getElem? (i := 72) rfl))) (mvT hZ (hw _ (List.mem_of_getElem? (i := 71) rfl))) (by decide) (backOf (W := 0) (rmqf16_0 l Z a0 hw [] b1 b26 x1_0_6 ((0 : Int64) + f14) x1_1_6 .null .null .null .null .null .null .null .null .null .null .null .null .null .null .null .null (.ref b15) k1_2_6 T50.heap n0 z54 po50_5 po50_6 po50_7 po50_0 po50_1 po50_2 po50_3 po50_4 po6_9 k75 g8 (Ne.symm nex1_0_x1_1_6) g11 ne10 ne7 g2) hZ (hw _ (List.mem_of_getElem? (i := 73) rfl)) (hw _ (List.mem_of_getElem? (i := 2) rfl)) (by decide) (by decide)) q74a q74c (g := (mkF m 117 #[.val (.long q0), .second, .val (.long q1), .second, .val (.int p2), .val (.ref b1), .val (.ref b15), .val (.ref b26), .val (.int (1 : Int32)), .val (.int (1 : Int32)), .unset, .unset, .unset, .unset, .unset] [(.ref b26), (.ref b1)])) rfl (by rw [hml]; rfl) (Steps.refl _) (argsL := [(.ref b26)]) (rest := []) (lenOf pd_h171885 rfl) rfl (by show 2 * 0 + _ ≤ _; exact Nat.le_of_eq rfl) (hb hby at_117) (fun _ _ => ⟨rfl, e56, (by decide : 5 + 0 ≤ _), (by decide : 26 + 0 ≤ _)⟩)
      dsimp only [Pt.U, Pt.locs, Pt.cells, Pt.slots] at X74 l74 y74 z74 st74 hQ74
      subst l74 y74 z74
      have N74q := (show _ ∧ _ from hQ74).1
      have hq74 := (show _ ∧ _ from hQ74).2
      clear hQ74
      have hv74 := hq74.1
      have K74 := hq74.2.1
      have po74_0 := hq74.2.2.1
      have po74_1 := hq74.2.2.2.1
      have po74_2 := hq74.2.2.2.2.1
      have po74_3 := hq74.2.2.2.2.2.1
      have po74_4 := hq74.2.2.2.2.2.2.1
      have po74_5 := hq74.2.2.2.2.2.2.2.1
      have po74_6 := hq74.2.2.2.2.2.2.2.2.1
      have po74_7 := hq74.2.2.2.2.2.2.2.2.2
      clear hq74
      subst hv74
      have z76 : n0 ≤ T74.heap.size := Nat.le_trans z54 K74.1
      have hs77 : h0.size ≤ T74.heap.size := Nat.le_trans hs55 K74.1
      have N74 := Fr.app N56 N74q
      have k79 := (k75.keep K74)
      obtain ⟨cq78, kq78, q78a, q78b, q78c⟩ := isOf hZ rfl po74_5
      obtain ⟨vr78, _, ⟨T78, L78, k78, n78⟩, -, X78, ⟨Lc78, hQ78, l78, y78, z78⟩, st78⟩ := X74.virtualBack hx (y := (⟨"com/example/dispatch_by_catalog/dispatchbycatalog/subscriptions/EventQueue", "peek", "()Lcom/example/dispatch_by_catalog/dispatchbycatalog/subscriptions/Event;"⟩ : MethodName)) (z := (⟨"com/example/dispatch_by_catalog/dispatchbycatalog/subscriptions/EventQueue", "peek", "()Lcom/example/dispatch_by_catalog/dispatchbycatalog/subscriptions/Event;"⟩ : MethodName)) hown (mvT hZ (hw _ (List.mem_of_getElem? (i := 45) rfl))) (mvT hZ (hw _ (List.mem_of_getElem? (i := 46) rfl))) (notFace_of_selects (args := #[]) (mvT hZ (hw _ (List.mem_of_getElem? (i := 48) rfl)))) (mvT hZ (hw _ (List.mem_of_getElem? (i := 48) rfl))) (mvT hZ (hw _ (List.mem_of_getElem? (i := 47) rfl))) (by decide) (backOf (W := 0) (rmqp15 l Z a0 hw [] b1 x1_0_6 x1_1_6 .null .null .null .null .null .null .null .null .null .null .null .null .null .null .null b26 (.ref b15) k1_2_6 T74.heap n0 z76 po74_6 po74_0 po74_1 po74_2 po74_4 k79) hZ (hw _ (List.mem_of_getElem? (i := 49) rfl)) (hw _ (List.mem_of_getElem? (i := 2) rfl)) (by decide) (by decide)) q78a q78c (g := (mkF m 160 #[.val (.long q0), .second, .val (.long q1), .second, .val (.int p2), .val (.ref b1), .val (.ref b15), .val (.ref b26), .val (.int (1 : Int32)), .val (.int (1 : Int32)), .val (.ref b26), .val (.ref b15), .unset, .unset, .unset] [(.ref b1)])) rfl (by rw [hml]; rfl) (Steps.refl _) (argsL := []) (rest := []) (lenOf pd_h748047 rfl) rfl (by show 2 * 0 + _ ≤ _; exact Nat.le_of_eq rfl) (hb hby at_160) (fun _ _ => ⟨rfl, rfl, (by decide : 5 + 0 ≤ _), (by decide : 26 + 0 ≤ _)⟩)
      dsimp only [Pt.U, Pt.locs, Pt.cells, Pt.slots] at X78 l78 y78 z78 st78 hQ78
      subst l78 y78 z78
      have N78q := (show _ ∧ _ ∧ _ from hQ78).1
      have hv78 := (show _ ∧ _ ∧ _ from hQ78).2.1
      have e78 := (show _ ∧ _ ∧ _ from hQ78).2.2
      clear hQ78
      subst hv78
      have N78 := Fr.app N74 N78q
      obtain ⟨cq80, kq80, q80a, q80b, q80c⟩ := isOf hZ e78 po74_5
      obtain ⟨vr80, _, ⟨T80, L80, k80, n80⟩, -, X80, ⟨Lc80, hQ80, l80, y80, z80⟩, st80⟩ := X78.virtualBack hx (y := (⟨"com/example/dispatch_by_catalog/dispatchbycatalog/subscriptions/EventQueue", "peek", "()Lcom/example/dispatch_by_catalog/dispatchbycatalog/subscriptions/Event;"⟩ : MethodName)) (z := (⟨"com/example/dispatch_by_catalog/dispatchbycatalog/subscriptions/EventQueue", "peek", "()Lcom/example/dispatch_by_catalog/dispatchbycatalog/subscriptions/Event;"⟩ : MethodName)) hown (mvT hZ (hw _ (List.mem_of_getElem? (i := 45) rfl))) (mvT hZ (hw _ (List.mem_of_getElem? (i := 46) rfl))) (notFace_of_selects (args := #[]) (mvT hZ (hw _ (List.mem_of_getElem? (i := 48) rfl)))) (mvT hZ (hw _ (List.mem_of_getElem? (i := 48) rfl))) (mvT hZ (hw _ (List.mem_of_getElem? (i := 47) rfl))) (by decide) (backOf (W := 0) (rmqp15 l Z a0 hw [] b1 x1_0_6 x1_1_6 .null .null .null .null .null .null .null .null .null .null .null .null .null .null .null b26 (.ref b15) k1_2_6 T74.heap n0 z76 po74_6 po74_0 po74_1 po74_2 po74_4 k79) hZ (hw _ (List.mem_of_getElem? (i := 49) rfl)) (hw _ (List.mem_of_getElem? (i := 2) rfl)) (by decide) (by decide)) q80a q80c (g := (mkF m 167 #[.val (.long q0), .second, .val (.long q1), .second, .val (.int p2), .val (.ref b1), .val (.ref b15), .val (.ref b26), .val (.int (1 : Int32)), .val (.int (1 : Int32)), .val (.ref b26), .val (.ref b15), .val (.ref b26), .unset, .unset] [(.ref b1)])) rfl (by rw [hml]; rfl) (Steps.refl _) (argsL := []) (rest := []) (lenOf pd_h748047 rfl) rfl (by show 2 * 0 + _ ≤ _; exact Nat.le_of_eq rfl) (hb hby at_167) (fun _ _ => ⟨rfl, e78, (by decide : 5 + 0 ≤ _), (by decide : 26 + 0 ≤ _)⟩)
      dsimp only [Pt.U, Pt.locs, Pt.cells, Pt.slots] at X80 l80 y80 z80 st80 hQ80
      subst l80 y80 z80
      have N80q := (show _ ∧ _ ∧ _ from hQ80).1
      have hv80 := (show _ ∧ _ ∧ _ from hQ80).2.1
      have e80 := (show _ ∧ _ ∧ _ from hQ80).2.2
      clear hQ80
      subst hv80
      have N80 := Fr.app N78 N80q
      have pre81 : ∀ t, Steps p.tables e below (T80.setTop (mkF m 202 #[.val (.long q0), .second, .val (.long q1), .second, .val (.int p2), .val (.ref b1), .val (.ref b15), .val (.ref b26), .val (.int (1 : Int32)), .val (.int (1 : Int32)), .val (.ref b26), .val (.ref b15), .val (.ref b26), .val (.ref b26), .unset] [(.int (p2 &&& (4 : Int32)))])) t → Steps p.tables e below (s₁.setTop (entryFrame m #[(.long q0), (.long q1), (.int p2)] maxLocals)) t := by
        intro t k
        refine pre58 t ?_
        show Steps p.tables e below (T56.setTop (mkF m 98 #[.val (.long q0), .second, .val (.long q1), .second, .val (.int p2), .val (.ref b1), .val (.ref b15), .val (.ref b26), .val (.int (1 : Int32)), .unset, .unset, .unset, .unset, .unset, .unset] [(.int (p2 &&& (2 : Int32)))])) _
        refine XS.ifNo X56.here hx rfl (hb hby at_98) rfl (XT.i0_eq_f c59) ?_
        show Steps p.tables e below (T56.setTop (mkF m 101 #[.val (.long q0), .second, .val (.long q1), .second, .val (.int p2), .val (.ref b1), .val (.ref b15), .val (.ref b26), .val (.int (1 : Int32)), .unset, .unset, .unset, .unset, .unset, .unset] [])) _
        refine XT.iconstV X56.here hx rfl (1 : Int32) (hb hby at_101) (by decide) ?_
        show Steps p.tables e below (T56.setTop (mkF m 102 #[.val (.long q0), .second, .val (.long q1), .second, .val (.int p2), .val (.ref b1), .val (.ref b15), .val (.ref b26), .val (.int (1 : Int32)), .unset, .unset, .unset, .unset, .unset, .unset] [(.int (1 : Int32))])) _
        refine XS.goto X56.here hx rfl (pc0 := 102) (pc' := 106) rfl (hb hby at_102) (by decide) (by decide) ?_
        show Steps p.tables e below (T56.setTop (mkF m 106 #[.val (.long q0), .second, .val (.long q1), .second, .val (.int p2), .val (.ref b1), .val (.ref b15), .val (.ref b26), .val (.int (1 : Int32)), .unset, .unset, .unset, .unset, .unset, .unset] [(.int (1 : Int32))])) _
        refine XS.istore X56.here hx rfl (hb hby at_106) rfl (l' := #[.val (.long q0), .second, .val (.long q1), .second, .val (.int p2), .val (.ref b1), .val (.ref b15), .val (.ref b26), .val (.int (1 : Int32)), .val (.int (1 : Int32)), .unset, .unset, .unset, .unset, .unset]) rfl ?_
        show Steps p.tables e below (T56.setTop (mkF m 108 #[.val (.long q0), .second, .val (.long q1), .second, .val (.int p2), .val (.ref b1), .val (.ref b15), .val (.ref b26), .val (.int (1 : Int32)), .val (.int (1 : Int32)), .unset, .unset, .unset, .unset, .unset] [])) _
        refine XS.iload X56.here hx rfl (hb hby at_108) rfl ?_
        show Steps p.tables e below (T56.setTop (mkF m 110 #[.val (.long q0), .second, .val (.long q1), .second, .val (.int p2), .val (.ref b1), .val (.ref b15), .val (.ref b26), .val (.int (1 : Int32)), .val (.int (1 : Int32)), .unset, .unset, .unset, .unset, .unset] [(.int (1 : Int32))])) _
        refine XS.ifNo X56.here hx rfl (hb hby at_110) rfl (XT.i0_eq_f (by decide)) ?_
        show Steps p.tables e below (T56.setTop (mkF m 113 #[.val (.long q0), .second, .val (.long q1), .second, .val (.int p2), .val (.ref b1), .val (.ref b15), .val (.ref b26), .val (.int (1 : Int32)), .val (.int (1 : Int32)), .unset, .unset, .unset, .unset, .unset] [])) _
        refine XS.aload X56.here hx rfl (hb hby at_113) rfl rfl ?_
        show Steps p.tables e below (T56.setTop (mkF m 115 #[.val (.long q0), .second, .val (.long q1), .second, .val (.int p2), .val (.ref b1), .val (.ref b15), .val (.ref b26), .val (.int (1 : Int32)), .val (.int (1 : Int32)), .unset, .unset, .unset, .unset, .unset] [(.ref b1)])) _
        refine XS.aload X56.here hx rfl (hb hby at_115) rfl rfl ?_
        show Steps p.tables e below (T56.setTop (mkF m 117 #[.val (.long q0), .second, .val (.long q1), .second, .val (.int p2), .val (.ref b1), .val (.ref b15), .val (.ref b26), .val (.int (1 : Int32)), .val (.int (1 : Int32)), .unset, .unset, .unset, .unset, .unset] [(.ref b26), (.ref b1)])) _
        refine st74.trans ?_
        show Steps p.tables e below (T74.setTop (mkF m 120 #[.val (.long q0), .second, .val (.long q1), .second, .val (.int p2), .val (.ref b1), .val (.ref b15), .val (.ref b26), .val (.int (1 : Int32)), .val (.int (1 : Int32)), .unset, .unset, .unset, .unset, .unset] [])) _
        refine XS.goto X74.here hx rfl (pc0 := 120) (pc' := 130) rfl (hb hby at_120) (by decide) (by decide) ?_
        show Steps p.tables e below (T74.setTop (mkF m 130 #[.val (.long q0), .second, .val (.long q1), .second, .val (.int p2), .val (.ref b1), .val (.ref b15), .val (.ref b26), .val (.int (1 : Int32)), .val (.int (1 : Int32)), .unset, .unset, .unset, .unset, .unset] [])) _
        refine XS.iload X74.here hx rfl (hb hby at_130) rfl ?_
        show Steps p.tables e below (T74.setTop (mkF m 132 #[.val (.long q0), .second, .val (.long q1), .second, .val (.int p2), .val (.ref b1), .val (.ref b15), .val (.ref b26), .val (.int (1 : Int32)), .val (.int (1 : Int32)), .unset, .unset, .unset, .unset, .unset] [(.int (1 : Int32))])) _
        refine XS.ifNo X74.here hx rfl (hb hby at_132) rfl (XT.i0_eq_f (by decide)) ?_
        show Steps p.tables e below (T74.setTop (mkF m 135 #[.val (.long q0), .second, .val (.long q1), .second, .val (.int p2), .val (.ref b1), .val (.ref b15), .val (.ref b26), .val (.int (1 : Int32)), .val (.int (1 : Int32)), .unset, .unset, .unset, .unset, .unset] [])) _
        refine XS.aload X74.here hx rfl (hb hby at_135) rfl rfl ?_
        show Steps p.tables e below (T74.setTop (mkF m 137 #[.val (.long q0), .second, .val (.long q1), .second, .val (.int p2), .val (.ref b1), .val (.ref b15), .val (.ref b26), .val (.int (1 : Int32)), .val (.int (1 : Int32)), .unset, .unset, .unset, .unset, .unset] [(.ref b26)])) _
        refine XS.goto X74.here hx rfl (pc0 := 137) (pc' := 142) rfl (hb hby at_137) (by decide) (by decide) ?_
        show Steps p.tables e below (T74.setTop (mkF m 142 #[.val (.long q0), .second, .val (.long q1), .second, .val (.int p2), .val (.ref b1), .val (.ref b15), .val (.ref b26), .val (.int (1 : Int32)), .val (.int (1 : Int32)), .unset, .unset, .unset, .unset, .unset] [(.ref b26)])) _
        refine XS.astore X74.here hx rfl (hb hby at_142) rfl rfl (l' := #[.val (.long q0), .second, .val (.long q1), .second, .val (.int p2), .val (.ref b1), .val (.ref b15), .val (.ref b26), .val (.int (1 : Int32)), .val (.int (1 : Int32)), .val (.ref b26), .unset, .unset, .unset, .unset]) rfl ?_
        show Steps p.tables e below (T74.setTop (mkF m 144 #[.val (.long q0), .second, .val (.long q1), .second, .val (.int p2), .val (.ref b1), .val (.ref b15), .val (.ref b26), .val (.int (1 : Int32)), .val (.int (1 : Int32)), .val (.ref b26), .unset, .unset, .unset, .unset] [])) _
        refine XS.iload X74.here hx rfl (hb hby at_144) rfl ?_
        show Steps p.tables e below (T74.setTop (mkF m 146 #[.val (.long q0), .second, .val (.long q1), .second, .val (.int p2), .val (.ref b1), .val (.ref b15), .val (.ref b26), .val (.int (1 : Int32)), .val (.int (1 : Int32)), .val (.ref b26), .unset, .unset, .unset, .unset] [(.int (1 : Int32))])) _
        refine XS.ifNo X74.here hx rfl (hb hby at_146) rfl (XT.i0_eq_f (by decide)) ?_
        show Steps p.tables e below (T74.setTop (mkF m 149 #[.val (.long q0), .second, .val (.long q1), .second, .val (.int p2), .val (.ref b1), .val (.ref b15), .val (.ref b26), .val (.int (1 : Int32)), .val (.int (1 : Int32)), .val (.ref b26), .unset, .unset, .unset, .unset] [])) _
        refine XS.aload X74.here hx rfl (hb hby at_149) rfl rfl ?_
        show Steps p.tables e below (T74.setTop (mkF m 151 #[.val (.long q0), .second, .val (.long q1), .second, .val (.int p2), .val (.ref b1), .val (.ref b15), .val (.ref b26), .val (.int (1 : Int32)), .val (.int (1 : Int32)), .val (.ref b26), .unset, .unset, .unset, .unset] [(.ref b15)])) _
        refine XS.goto X74.here hx rfl (pc0 := 151) (pc' := 156) rfl (hb hby at_151) (by decide) (by decide) ?_
        show Steps p.tables e below (T74.setTop (mkF m 156 #[.val (.long q0), .second, .val (.long q1), .second, .val (.int p2), .val (.ref b1), .val (.ref b15), .val (.ref b26), .val (.int (1 : Int32)), .val (.int (1 : Int32)), .val (.ref b26), .unset, .unset, .unset, .unset] [(.ref b15)])) _
        refine XS.astore X74.here hx rfl (hb hby at_156) rfl rfl (l' := #[.val (.long q0), .second, .val (.long q1), .second, .val (.int p2), .val (.ref b1), .val (.ref b15), .val (.ref b26), .val (.int (1 : Int32)), .val (.int (1 : Int32)), .val (.ref b26), .val (.ref b15), .unset, .unset, .unset]) rfl ?_
        show Steps p.tables e below (T74.setTop (mkF m 158 #[.val (.long q0), .second, .val (.long q1), .second, .val (.int p2), .val (.ref b1), .val (.ref b15), .val (.ref b26), .val (.int (1 : Int32)), .val (.int (1 : Int32)), .val (.ref b26), .val (.ref b15), .unset, .unset, .unset] [])) _
        refine XS.aload X74.here hx rfl (hb hby at_158) rfl rfl ?_
        show Steps p.tables e below (T74.setTop (mkF m 160 #[.val (.long q0), .second, .val (.long q1), .second, .val (.int p2), .val (.ref b1), .val (.ref b15), .val (.ref b26), .val (.int (1 : Int32)), .val (.int (1 : Int32)), .val (.ref b26), .val (.ref b15), .unset, .unset, .unset] [(.ref b1)])) _
        refine st78.trans ?_
        show Steps p.tables e below (T78.setTop (mkF m 163 #[.val (.long q0), .second, .val (.long q1), .second, .val (.int p2), .val (.ref b1), .val (.ref b15), .val (.ref b26), .val (.int (1 : Int32)), .val (.int (1 : Int32)), .val (.ref b26), .val (.ref b15), .unset, .unset, .unset] [(.ref b26)])) _
        refine XS.astore X78.here hx rfl (hb hby at_163) rfl rfl (l' := #[.val (.long q0), .second, .val (.long q1), .second, .val (.int p2), .val (.ref b1), .val (.ref b15), .val (.ref b26), .val (.int (1 : Int32)), .val (.int (1 : Int32)), .val (.ref b26), .val (.ref b15), .val (.ref b26), .unset, .unset]) rfl ?_
        show Steps p.tables e below (T78.setTop (mkF m 165 #[.val (.long q0), .second, .val (.long q1), .second, .val (.int p2), .val (.ref b1), .val (.ref b15), .val (.ref b26), .val (.int (1 : Int32)), .val (.int (1 : Int32)), .val (.ref b26), .val (.ref b15), .val (.ref b26), .unset, .unset] [])) _
        refine XS.aload X78.here hx rfl (hb hby at_165) rfl rfl ?_
        show Steps p.tables e below (T78.setTop (mkF m 167 #[.val (.long q0), .second, .val (.long q1), .second, .val (.int p2), .val (.ref b1), .val (.ref b15), .val (.ref b26), .val (.int (1 : Int32)), .val (.int (1 : Int32)), .val (.ref b26), .val (.ref b15), .val (.ref b26), .unset, .unset] [(.ref b1)])) _
        refine st80.trans ?_
        show Steps p.tables e below (T80.setTop (mkF m 170 #[.val (.long q0), .second, .val (.long q1), .second, .val (.int p2), .val (.ref b1), .val (.ref b15), .val (.ref b26), .val (.int (1 : Int32)), .val (.int (1 : Int32)), .val (.ref b26), .val (.ref b15), .val (.ref b26), .unset, .unset] [(.ref b26)])) _
        refine XS.astore X80.here hx rfl (hb hby at_170) rfl rfl (l' := #[.val (.long q0), .second, .val (.long q1), .second, .val (.int p2), .val (.ref b1), .val (.ref b15), .val (.ref b26), .val (.int (1 : Int32)), .val (.int (1 : Int32)), .val (.ref b26), .val (.ref b15), .val (.ref b26), .val (.ref b26), .unset]) rfl ?_
        show Steps p.tables e below (T80.setTop (mkF m 172 #[.val (.long q0), .second, .val (.long q1), .second, .val (.int p2), .val (.ref b1), .val (.ref b15), .val (.ref b26), .val (.int (1 : Int32)), .val (.int (1 : Int32)), .val (.ref b26), .val (.ref b15), .val (.ref b26), .val (.ref b26), .unset] [])) _
        refine XS.iload X80.here hx rfl (hb hby at_172) rfl ?_
        show Steps p.tables e below (T80.setTop (mkF m 174 #[.val (.long q0), .second, .val (.long q1), .second, .val (.int p2), .val (.ref b1), .val (.ref b15), .val (.ref b26), .val (.int (1 : Int32)), .val (.int (1 : Int32)), .val (.ref b26), .val (.ref b15), .val (.ref b26), .val (.ref b26), .unset] [(.int (1 : Int32))])) _
        refine XS.ifNo X80.here hx rfl (hb hby at_174) rfl (XT.i0_eq_f (by decide)) ?_
        show Steps p.tables e below (T80.setTop (mkF m 177 #[.val (.long q0), .second, .val (.long q1), .second, .val (.int p2), .val (.ref b1), .val (.ref b15), .val (.ref b26), .val (.int (1 : Int32)), .val (.int (1 : Int32)), .val (.ref b26), .val (.ref b15), .val (.ref b26), .val (.ref b26), .unset] [])) _
        refine XS.aload X80.here hx rfl (hb hby at_177) rfl rfl ?_
        show Steps p.tables e below (T80.setTop (mkF m 179 #[.val (.long q0), .second, .val (.long q1), .second, .val (.int p2), .val (.ref b1), .val (.ref b15), .val (.ref b26), .val (.int (1 : Int32)), .val (.int (1 : Int32)), .val (.ref b26), .val (.ref b15), .val (.ref b26), .val (.ref b26), .unset] [(.ref b26)])) _
        refine XS.aload X80.here hx rfl (hb hby at_179) rfl rfl ?_
        show Steps p.tables e below (T80.setTop (mkF m 181 #[.val (.long q0), .second, .val (.long q1), .second, .val (.int p2), .val (.ref b1), .val (.ref b15), .val (.ref b26), .val (.int (1 : Int32)), .val (.int (1 : Int32)), .val (.ref b26), .val (.ref b15), .val (.ref b26), .val (.ref b26), .unset] [(.ref b26), (.ref b26)])) _
        refine XT.acmpNo X80.here hx rfl (hb hby at_181) rfl rfl rfl (XT.aa_ne_f rfl) ?_
        show Steps p.tables e below (T80.setTop (mkF m 184 #[.val (.long q0), .second, .val (.long q1), .second, .val (.int p2), .val (.ref b1), .val (.ref b15), .val (.ref b26), .val (.int (1 : Int32)), .val (.int (1 : Int32)), .val (.ref b26), .val (.ref b15), .val (.ref b26), .val (.ref b26), .unset] [])) _
        refine XS.aload X80.here hx rfl (hb hby at_184) rfl rfl ?_
        show Steps p.tables e below (T80.setTop (mkF m 186 #[.val (.long q0), .second, .val (.long q1), .second, .val (.int p2), .val (.ref b1), .val (.ref b15), .val (.ref b26), .val (.int (1 : Int32)), .val (.int (1 : Int32)), .val (.ref b26), .val (.ref b15), .val (.ref b26), .val (.ref b26), .unset] [(.ref b26)])) _
        refine XS.aload X80.here hx rfl (hb hby at_186) rfl rfl ?_
        show Steps p.tables e below (T80.setTop (mkF m 188 #[.val (.long q0), .second, .val (.long q1), .second, .val (.int p2), .val (.ref b1), .val (.ref b15), .val (.ref b26), .val (.int (1 : Int32)), .val (.int (1 : Int32)), .val (.ref b26), .val (.ref b15), .val (.ref b26), .val (.ref b26), .unset] [(.ref b26), (.ref b26)])) _
        refine XT.acmpNo X80.here hx rfl (hb hby at_188) rfl rfl rfl (XT.aa_ne_f rfl) ?_
        show Steps p.tables e below (T80.setTop (mkF m 191 #[.val (.long q0), .second, .val (.long q1), .second, .val (.int p2), .val (.ref b1), .val (.ref b15), .val (.ref b26), .val (.int (1 : Int32)), .val (.int (1 : Int32)), .val (.ref b26), .val (.ref b15), .val (.ref b26), .val (.ref b26), .unset] [])) _
        refine XT.iconstV X80.here hx rfl (1 : Int32) (hb hby at_191) (by decide) ?_
        show Steps p.tables e below (T80.setTop (mkF m 192 #[.val (.long q0), .second, .val (.long q1), .second, .val (.int p2), .val (.ref b1), .val (.ref b15), .val (.ref b26), .val (.int (1 : Int32)), .val (.int (1 : Int32)), .val (.ref b26), .val (.ref b15), .val (.ref b26), .val (.ref b26), .unset] [(.int (1 : Int32))])) _
        refine XS.goto X80.here hx rfl (pc0 := 192) (pc' := 196) rfl (hb hby at_192) (by decide) (by decide) ?_
        show Steps p.tables e below (T80.setTop (mkF m 196 #[.val (.long q0), .second, .val (.long q1), .second, .val (.int p2), .val (.ref b1), .val (.ref b15), .val (.ref b26), .val (.int (1 : Int32)), .val (.int (1 : Int32)), .val (.ref b26), .val (.ref b15), .val (.ref b26), .val (.ref b26), .unset] [(.int (1 : Int32))])) _
        refine XS.istore X80.here hx rfl (hb hby at_196) rfl (l' := #[.val (.long q0), .second, .val (.long q1), .second, .val (.int p2), .val (.ref b1), .val (.ref b15), .val (.ref b26), .val (.int (1 : Int32)), .val (.int (1 : Int32)), .val (.ref b26), .val (.ref b15), .val (.ref b26), .val (.ref b26), .unset]) rfl ?_
        show Steps p.tables e below (T80.setTop (mkF m 198 #[.val (.long q0), .second, .val (.long q1), .second, .val (.int p2), .val (.ref b1), .val (.ref b15), .val (.ref b26), .val (.int (1 : Int32)), .val (.int (1 : Int32)), .val (.ref b26), .val (.ref b15), .val (.ref b26), .val (.ref b26), .unset] [])) _
        refine XS.iload X80.here hx rfl (hb hby at_198) rfl ?_
        show Steps p.tables e below (T80.setTop (mkF m 200 #[.val (.long q0), .second, .val (.long q1), .second, .val (.int p2), .val (.ref b1), .val (.ref b15), .val (.ref b26), .val (.int (1 : Int32)), .val (.int (1 : Int32)), .val (.ref b26), .val (.ref b15), .val (.ref b26), .val (.ref b26), .unset] [(.int p2)])) _
        refine XT.iconstV X80.here hx rfl (4 : Int32) (hb hby at_200) (by decide) ?_
        show Steps p.tables e below (T80.setTop (mkF m 201 #[.val (.long q0), .second, .val (.long q1), .second, .val (.int p2), .val (.ref b1), .val (.ref b15), .val (.ref b26), .val (.int (1 : Int32)), .val (.int (1 : Int32)), .val (.ref b26), .val (.ref b15), .val (.ref b26), .val (.ref b26), .unset] [(.int (4 : Int32)), (.int p2)])) _
        refine XS.iand X80.here hx rfl (hb hby at_201) rfl ?_
        exact k
      clear pre58 st74 st78 st80
      by_cases c82 : (v0_4 q0 q1 p2) = (0 : Int32)
      · skip
        obtain ⟨fs, hr, hrun, hended, hW, hsame⟩ := X80.leave (v := some (.int (1 : Int32))) (fun h => by rw [Bd.returns] at h; cases h) hlk
        refine ⟨_, _, pre81 _ ?_, hrun, hended, _, _, rfl, ?_, ⟨_, rfl⟩, hW, hsame.mono (by decide) (by decide)⟩
        · skip
          show Steps p.tables e below (T80.setTop (mkF m 202 #[.val (.long q0), .second, .val (.long q1), .second, .val (.int p2), .val (.ref b1), .val (.ref b15), .val (.ref b26), .val (.int (1 : Int32)), .val (.int (1 : Int32)), .val (.ref b26), .val (.ref b15), .val (.ref b26), .val (.ref b26), .unset] [(.int (p2 &&& (4 : Int32)))])) _
          refine XS.ifYes X80.here hx rfl (pc0 := 202) (pc' := 241) rfl (hb hby at_202) rfl (XT.i0_eq_t c82) (by decide) (by decide) ?_
          show Steps p.tables e below (T80.setTop (mkF m 241 #[.val (.long q0), .second, .val (.long q1), .second, .val (.int p2), .val (.ref b1), .val (.ref b15), .val (.ref b26), .val (.int (1 : Int32)), .val (.int (1 : Int32)), .val (.ref b26), .val (.ref b15), .val (.ref b26), .val (.ref b26), .unset] [])) _
          refine XS.iload X80.here hx rfl (hb hby at_241) rfl ?_
          show Steps p.tables e below (T80.setTop (mkF m 243 #[.val (.long q0), .second, .val (.long q1), .second, .val (.int p2), .val (.ref b1), .val (.ref b15), .val (.ref b26), .val (.int (1 : Int32)), .val (.int (1 : Int32)), .val (.ref b26), .val (.ref b15), .val (.ref b26), .val (.ref b26), .unset] [(.int (1 : Int32))])) _
          exact retN X80 hx (t := .boolean) Bd.returns (by simp) (hb hby at_243) hr
        · skip
          show Q0 Z q0 q1 p2 h0 n0 _ T80.heap _
          rw [e80]
          exact ⟨rfl, N80⟩
      · skip
        obtain ⟨cq83, kq83, q83a, q83b, q83c⟩ := isOf hZ e80 po74_5
        obtain ⟨vr83, _, ⟨T83, L83, k83, n83⟩, -, X83, ⟨Lc83, hQ83, l83, y83, z83⟩, st83⟩ := X80.virtualBack hx (y := (⟨"com/example/dispatch_by_catalog/dispatchbycatalog/subscriptions/EventQueue", "poll", "()Lcom/example/dispatch_by_catalog/dispatchbycatalog/subscriptions/Event;"⟩ : MethodName)) (z := (⟨"com/example/dispatch_by_catalog/dispatchbycatalog/subscriptions/EventQueue", "poll", "()Lcom/example/dispatch_by_catalog/dispatchbycatalog/subscriptions/Event;"⟩ : MethodName)) hown (mvT hZ (hw _ (List.mem_of_getElem? (i := 116) rfl))) (mvT hZ (hw _ (List.mem_of_getElem? (i := 117) rfl))) (notFace_of_selects (args := #[]) (mvT hZ (hw _ (List.mem_of_getElem? (i := 119) rfl)))) (mvT hZ (hw _ (List.mem_of_getElem? (i := 119) rfl))) (mvT hZ (hw _ (List.mem_of_getElem? (i := 118) rfl))) (by decide) (backOf (W := 0) (rmql15_0 l Z a0 hw [] b1 x1_0_6 (((0 : Int64) + f14) + f14) x1_1_6 .null .null .null .null .null .null .null .null .null .null .null .null .null .null .null b26 (.ref b15) k1_2_6 T74.heap n0 z76 po74_5 po74_6 po74_7 po74_0 po74_1 po74_2 po74_3 po74_4 k79 g11 nex1_0_x1_1_6 g8 ne7 ne10 g2) hZ (hw _ (List.mem_of_getElem? (i := 120) rfl)) (hw _ (List.mem_of_getElem? (i := 2) rfl)) (by decide) (by decide)) q83a q83c (g := (mkF m 207 #[.val (.long q0), .second, .val (.long q1), .second, .val (.int p2), .val (.ref b1), .val (.ref b15), .val (.ref b26), .val (.int (1 : Int32)), .val (.int (1 : Int32)), .val (.ref b26), .val (.ref b15), .val (.ref b26), .val (.ref b26), .unset] [(.ref b1)])) rfl (by rw [hml]; rfl) (Steps.refl _) (argsL := []) (rest := []) (lenOf pd_h748047 rfl) rfl (by show 2 * 0 + _ ≤ _; exact Nat.le_of_eq rfl) (hb hby at_207) (fun _ _ => ⟨rfl, e80, (by decide : 5 + 0 ≤ _), (by decide : 26 + 0 ≤ _)⟩)
        dsimp only [Pt.U, Pt.locs, Pt.cells, Pt.slots] at X83 l83 y83 z83 st83 hQ83
        subst l83 y83 z83
        have N83q := (show _ ∧ _ from hQ83).1
        have hq83 := (show _ ∧ _ from hQ83).2
        clear hQ83
        have hv83 := hq83.1
        have K83 := hq83.2.1
        have po83_0 := hq83.2.2.1
        have po83_1 := hq83.2.2.2.1
        have po83_2 := hq83.2.2.2.2.1
        have po83_3 := hq83.2.2.2.2.2.1
        have po83_4 := hq83.2.2.2.2.2.2.1
        have po83_5 := hq83.2.2.2.2.2.2.2.1
        have po83_6 := hq83.2.2.2.2.2.2.2.2.1
        have po83_7 := hq83.2.2.2.2.2.2.2.2.2
        clear hq83
        subst hv83
        have z84 : n0 ≤ T83.heap.size := Nat.le_trans z76 K83.1
        have hs85 : h0.size ≤ T83.heap.size := Nat.le_trans hs77 K83.1
        have N83 := Fr.app N80 N83q
        have k87 := ((k57.keep K74).keep K83)
        obtain ⟨cq86, kq86, q86a, q86b, q86c⟩ := isOf hZ rfl po83_5
        obtain ⟨vr86, _, ⟨T86, L86, k86, n86⟩, -, X86, ⟨Lc86, hQ86, l86, y86, z86⟩, st86⟩ := X83.virtualBack hx (y := (⟨"com/example/dispatch_by_catalog/dispatchbycatalog/subscriptions/EventQueue", "peek", "()Lcom/example/dispatch_by_catalog/dispatchbycatalog/subscriptions/Event;"⟩ : MethodName)) (z := (⟨"com/example/dispatch_by_catalog/dispatchbycatalog/subscriptions/EventQueue", "peek", "()Lcom/example/dispatch_by_catalog/dispatchbycatalog/subscriptions/Event;"⟩ : MethodName)) hown (mvT hZ (hw _ (List.mem_of_getElem? (i := 45) rfl))) (mvT hZ (hw _ (List.mem_of_getElem? (i := 46) rfl))) (notFace_of_selects (args := #[]) (mvT hZ (hw _ (List.mem_of_getElem? (i := 48) rfl)))) (mvT hZ (hw _ (List.mem_of_getElem? (i := 48) rfl))) (mvT hZ (hw _ (List.mem_of_getElem? (i := 47) rfl))) (by decide) (backOf (W := 0) (rmqp16 l Z a0 hw [] b1 x1_0_6 x1_1_6 .null .null .null .null .null .null .null .null .null .null .null .null .null .null .null .null b15 k1_2_6 T83.heap n0 z84 po83_6 po83_1 po83_2 po83_3 po83_0 k87) hZ (hw _ (List.mem_of_getElem? (i := 49) rfl)) (hw _ (List.mem_of_getElem? (i := 2) rfl)) (by decide) (by decide)) q86a q86c (g := (mkF m 226 #[.val (.long q0), .second, .val (.long q1), .second, .val (.int p2), .val (.ref b1), .val (.ref b15), .val (.ref b26), .val (.int (1 : Int32)), .val (.int (1 : Int32)), .val (.ref b26), .val (.ref b15), .val (.ref b26), .val (.ref b26), .val (.ref b26)] [(.ref b1)])) rfl (by rw [hml]; rfl) (Steps.refl _) (argsL := []) (rest := []) (lenOf pd_h748047 rfl) rfl (by show 2 * 0 + _ ≤ _; exact Nat.le_of_eq rfl) (hb hby at_226) (fun _ _ => ⟨rfl, rfl, (by decide : 5 + 0 ≤ _), (by decide : 26 + 0 ≤ _)⟩)
        dsimp only [Pt.U, Pt.locs, Pt.cells, Pt.slots] at X86 l86 y86 z86 st86 hQ86
        subst l86 y86 z86
        have N86q := (show _ ∧ _ ∧ _ from hQ86).1
        have hv86 := (show _ ∧ _ ∧ _ from hQ86).2.1
        have e86 := (show _ ∧ _ ∧ _ from hQ86).2.2
        clear hQ86
        subst hv86
        have N86 := Fr.app N83 N86q
        obtain ⟨fs, hr, hrun, hended, hW, hsame⟩ := X86.leave (v := some (.int (1 : Int32))) (fun h => by rw [Bd.returns] at h; cases h) hlk
        refine ⟨_, _, pre81 _ ?_, hrun, hended, _, _, rfl, ?_, ⟨_, rfl⟩, hW, hsame.mono (by decide) (by decide)⟩
        · skip
          show Steps p.tables e below (T80.setTop (mkF m 202 #[.val (.long q0), .second, .val (.long q1), .second, .val (.int p2), .val (.ref b1), .val (.ref b15), .val (.ref b26), .val (.int (1 : Int32)), .val (.int (1 : Int32)), .val (.ref b26), .val (.ref b15), .val (.ref b26), .val (.ref b26), .unset] [(.int (p2 &&& (4 : Int32)))])) _
          refine XS.ifNo X80.here hx rfl (hb hby at_202) rfl (XT.i0_eq_f c82) ?_
          show Steps p.tables e below (T80.setTop (mkF m 205 #[.val (.long q0), .second, .val (.long q1), .second, .val (.int p2), .val (.ref b1), .val (.ref b15), .val (.ref b26), .val (.int (1 : Int32)), .val (.int (1 : Int32)), .val (.ref b26), .val (.ref b15), .val (.ref b26), .val (.ref b26), .unset] [])) _
          refine XS.aload X80.here hx rfl (hb hby at_205) rfl rfl ?_
          show Steps p.tables e below (T80.setTop (mkF m 207 #[.val (.long q0), .second, .val (.long q1), .second, .val (.int p2), .val (.ref b1), .val (.ref b15), .val (.ref b26), .val (.int (1 : Int32)), .val (.int (1 : Int32)), .val (.ref b26), .val (.ref b15), .val (.ref b26), .val (.ref b26), .unset] [(.ref b1)])) _
          refine st83.trans ?_
          show Steps p.tables e below (T83.setTop (mkF m 210 #[.val (.long q0), .second, .val (.long q1), .second, .val (.int p2), .val (.ref b1), .val (.ref b15), .val (.ref b26), .val (.int (1 : Int32)), .val (.int (1 : Int32)), .val (.ref b26), .val (.ref b15), .val (.ref b26), .val (.ref b26), .unset] [(.ref b26)])) _
          refine XS.astore X83.here hx rfl (hb hby at_210) rfl rfl (l' := #[.val (.long q0), .second, .val (.long q1), .second, .val (.int p2), .val (.ref b1), .val (.ref b15), .val (.ref b26), .val (.int (1 : Int32)), .val (.int (1 : Int32)), .val (.ref b26), .val (.ref b15), .val (.ref b26), .val (.ref b26), .val (.ref b26)]) rfl ?_
          show Steps p.tables e below (T83.setTop (mkF m 212 #[.val (.long q0), .second, .val (.long q1), .second, .val (.int p2), .val (.ref b1), .val (.ref b15), .val (.ref b26), .val (.int (1 : Int32)), .val (.int (1 : Int32)), .val (.ref b26), .val (.ref b15), .val (.ref b26), .val (.ref b26), .val (.ref b26)] [])) _
          refine XS.iload X83.here hx rfl (hb hby at_212) rfl ?_
          show Steps p.tables e below (T83.setTop (mkF m 214 #[.val (.long q0), .second, .val (.long q1), .second, .val (.int p2), .val (.ref b1), .val (.ref b15), .val (.ref b26), .val (.int (1 : Int32)), .val (.int (1 : Int32)), .val (.ref b26), .val (.ref b15), .val (.ref b26), .val (.ref b26), .val (.ref b26)] [(.int (1 : Int32))])) _
          refine XS.ifNo X83.here hx rfl (hb hby at_214) rfl (XT.i0_eq_f (by decide)) ?_
          show Steps p.tables e below (T83.setTop (mkF m 217 #[.val (.long q0), .second, .val (.long q1), .second, .val (.int p2), .val (.ref b1), .val (.ref b15), .val (.ref b26), .val (.int (1 : Int32)), .val (.int (1 : Int32)), .val (.ref b26), .val (.ref b15), .val (.ref b26), .val (.ref b26), .val (.ref b26)] [])) _
          refine XS.aload X83.here hx rfl (hb hby at_217) rfl rfl ?_
          show Steps p.tables e below (T83.setTop (mkF m 219 #[.val (.long q0), .second, .val (.long q1), .second, .val (.int p2), .val (.ref b1), .val (.ref b15), .val (.ref b26), .val (.int (1 : Int32)), .val (.int (1 : Int32)), .val (.ref b26), .val (.ref b15), .val (.ref b26), .val (.ref b26), .val (.ref b26)] [(.ref b26)])) _
          refine XS.aload X83.here hx rfl (hb hby at_219) rfl rfl ?_
          show Steps p.tables e below (T83.setTop (mkF m 221 #[.val (.long q0), .second, .val (.long q1), .second, .val (.int p2), .val (.ref b1), .val (.ref b15), .val (.ref b26), .val (.int (1 : Int32)), .val (.int (1 : Int32)), .val (.ref b26), .val (.ref b15), .val (.ref b26), .val (.ref b26), .val (.ref b26)] [(.ref b26), (.ref b26)])) _
          refine XT.acmpNo X83.here hx rfl (hb hby at_221) rfl rfl rfl (XT.aa_ne_f rfl) ?_
          show Steps p.tables e below (T83.setTop (mkF m 224 #[.val (.long q0), .second, .val (.long q1), .second, .val (.int p2), .val (.ref b1), .val (.ref b15), .val (.ref b26), .val (.int (1 : Int32)), .val (.int (1 : Int32)), .val (.ref b26), .val (.ref b15), .val (.ref b26), .val (.ref b26), .val (.ref b26)] [])) _
          refine XS.aload X83.here hx rfl (hb hby at_224) rfl rfl ?_
          show Steps p.tables e below (T83.setTop (mkF m 226 #[.val (.long q0), .second, .val (.long q1), .second, .val (.int p2), .val (.ref b1), .val (.ref b15), .val (.ref b26), .val (.int (1 : Int32)), .val (.int (1 : Int32)), .val (.ref b26), .val (.ref b15), .val (.ref b26), .val (.ref b26), .val (.ref b26)] [(.ref b1)])) _
          refine st86.trans ?_
          show Steps p.tables e below (T86.setTop (mkF m 229 #[.val (.long q0), .second, .val (.long q1), .second, .val (.int p2), .val (.ref b1), .val (.ref b15), .val (.ref b26), .val (.int (1 : Int32)), .val (.int (1 : Int32)), .val (.ref b26), .val (.ref b15), .val (.ref b26), .val (.ref b26), .val (.ref b26)] [(.ref b15)])) _
          refine XS.aload X86.here hx rfl (hb hby at_229) rfl rfl ?_
          show Steps p.tables e below (T86.setTop (mkF m 231 #[.val (.long q0), .second, .val (.long q1), .second, .val (.int p2), .val (.ref b1), .val (.ref b15), .val (.ref b26), .val (.int (1 : Int32)), .val (.int (1 : Int32)), .val (.ref b26), .val (.ref b15), .val (.ref b26), .val (.ref b26), .val (.ref b26)] [(.ref b15), (.ref b15)])) _
          refine XT.acmpNo X86.here hx rfl (hb hby at_231) rfl rfl rfl (XT.aa_ne_f rfl) ?_
          show Steps p.tables e below (T86.setTop (mkF m 234 #[.val (.long q0), .second, .val (.long q1), .second, .val (.int p2), .val (.ref b1), .val (.ref b15), .val (.ref b26), .val (.int (1 : Int32)), .val (.int (1 : Int32)), .val (.ref b26), .val (.ref b15), .val (.ref b26), .val (.ref b26), .val (.ref b26)] [])) _
          refine XT.iconstV X86.here hx rfl (1 : Int32) (hb hby at_234) (by decide) ?_
          show Steps p.tables e below (T86.setTop (mkF m 235 #[.val (.long q0), .second, .val (.long q1), .second, .val (.int p2), .val (.ref b1), .val (.ref b15), .val (.ref b26), .val (.int (1 : Int32)), .val (.int (1 : Int32)), .val (.ref b26), .val (.ref b15), .val (.ref b26), .val (.ref b26), .val (.ref b26)] [(.int (1 : Int32))])) _
          refine XS.goto X86.here hx rfl (pc0 := 235) (pc' := 239) rfl (hb hby at_235) (by decide) (by decide) ?_
          show Steps p.tables e below (T86.setTop (mkF m 239 #[.val (.long q0), .second, .val (.long q1), .second, .val (.int p2), .val (.ref b1), .val (.ref b15), .val (.ref b26), .val (.int (1 : Int32)), .val (.int (1 : Int32)), .val (.ref b26), .val (.ref b15), .val (.ref b26), .val (.ref b26), .val (.ref b26)] [(.int (1 : Int32))])) _
          refine XS.istore X86.here hx rfl (hb hby at_239) rfl (l' := #[.val (.long q0), .second, .val (.long q1), .second, .val (.int p2), .val (.ref b1), .val (.ref b15), .val (.ref b26), .val (.int (1 : Int32)), .val (.int (1 : Int32)), .val (.ref b26), .val (.ref b15), .val (.ref b26), .val (.ref b26), .val (.ref b26)]) rfl ?_
          show Steps p.tables e below (T86.setTop (mkF m 241 #[.val (.long q0), .second, .val (.long q1), .second, .val (.int p2), .val (.ref b1), .val (.ref b15), .val (.ref b26), .val (.int (1 : Int32)), .val (.int (1 : Int32)), .val (.ref b26), .val (.ref b15), .val (.ref b26), .val (.ref b26), .val (.ref b26)] [])) _
          refine XS.iload X86.here hx rfl (hb hby at_241) rfl ?_
          show Steps p.tables e below (T86.setTop (mkF m 243 #[.val (.long q0), .second, .val (.long q1), .second, .val (.int p2), .val (.ref b1), .val (.ref b15), .val (.ref b26), .val (.int (1 : Int32)), .val (.int (1 : Int32)), .val (.ref b26), .val (.ref b15), .val (.ref b26), .val (.ref b26), .val (.ref b26)] [(.int (1 : Int32))])) _
          exact retN X86 hx (t := .boolean) Bd.returns (by simp) (hb hby at_243) hr
        · skip
          show Q0 Z q0 q1 p2 h0 n0 _ T86.heap _
          rw [e86]
          exact ⟨rfl, N86⟩
  · skip
    have k89 := ((((po6_1.ext E15).keep K23 (ninS ne16 nin0)).ext E26).keep K38 (ninS ne28 nin0))
    have k90 := ((((po6_5.ext E15).keep K23 (ninS ne17 nin0)).ext E26).keep K38 (ninS ne30 nin0))
    have k91 := ((po23_0.ext E26).keep K38)
    obtain ⟨cq88, kq88, q88a, q88b, q88c⟩ := isOf hZ e41 k47
    obtain ⟨vr88, _, ⟨T88, L88, k88, n88⟩, -, X88, ⟨Lc88, hQ88, l88, y88, z88⟩, st88⟩ := X41.virtualBack hx (y := (⟨"com/example/dispatch_by_catalog/dispatchbycatalog/subscriptions/EventQueue", "add", "(Lcom/example/dispatch_by_catalog/dispatchbycatalog/subscriptions/Event;)V"⟩ : MethodName)) (z := (⟨"com/example/dispatch_by_catalog/dispatchbycatalog/subscriptions/EventQueue", "add", "(Lcom/example/dispatch_by_catalog/dispatchbycatalog/subscriptions/Event;)V"⟩ : MethodName)) hown (mvT hZ (hw _ (List.mem_of_getElem? (i := 100) rfl))) (mvT hZ (hw _ (List.mem_of_getElem? (i := 101) rfl))) (notFace_of_selects (args := #[]) (mvT hZ (hw _ (List.mem_of_getElem? (i := 103) rfl)))) (mvT hZ (hw _ (List.mem_of_getElem? (i := 103) rfl))) (mvT hZ (hw _ (List.mem_of_getElem? (i := 102) rfl))) (by decide) (backOf (W := 0) (rmqa0_0 l Z a0 hw [] b1 b15 x1_0_6 (0 : Int64) x1_1_6 .null .null .null .null .null .null .null .null .null .null .null .null .null .null .null .null .null k1_2_6 T38.heap n0 z39 k47 k42 k89 k43 k44 k45 k90 k46 po6_9 k91 g11 nex1_0_x1_1_6 g8 ne7 ne10 g2) hZ (hw _ (List.mem_of_getElem? (i := 104) rfl)) (hw _ (List.mem_of_getElem? (i := 2) rfl)) (by decide) (by decide)) q88a q88c (g := (mkF m 59 #[.val (.long q0), .second, .val (.long q1), .second, .val (.int p2), .val (.ref b1), .val (.ref b15), .val (.ref b26), .val (.int (1 : Int32)), .unset, .unset, .unset, .unset, .unset, .unset] [(.ref b15), (.ref b1)])) rfl (by rw [hml]; rfl) (Steps.refl _) (argsL := [(.ref b15)]) (rest := []) (lenOf pd_h171885 rfl) rfl (by show 2 * 0 + _ ≤ _; exact Nat.le_of_eq rfl) (hb hby at_59) (fun _ _ => ⟨rfl, e41, (by decide : 5 + 0 ≤ _), (by decide : 26 + 0 ≤ _)⟩)
    dsimp only [Pt.U, Pt.locs, Pt.cells, Pt.slots] at X88 l88 y88 z88 st88 hQ88
    subst l88 y88 z88
    have N88q := (show _ ∧ _ from hQ88).1
    have hq88 := (show _ ∧ _ from hQ88).2
    clear hQ88
    have hv88 := hq88.1
    have K88 := hq88.2.1
    have po88_0 := hq88.2.2.1
    have po88_1 := hq88.2.2.2.1
    have po88_2 := hq88.2.2.2.2.1
    have po88_3 := hq88.2.2.2.2.2.1
    have po88_4 := hq88.2.2.2.2.2.2.1
    have po88_5 := hq88.2.2.2.2.2.2.2.1
    have po88_6 := hq88.2.2.2.2.2.2.2.2.1
    have po88_7 := hq88.2.2.2.2.2.2.2.2.2
    clear hq88
    subst hv88
    have z92 : n0 ≤ T88.heap.size := Nat.le_trans z39 K88.1
    have hs93 : h0.size ≤ T88.heap.size := Nat.le_trans hs40 K88.1
    have N88 := Fr.app N41 N88q
    have k95 := (k91.keep K88)
    obtain ⟨cq94, kq94, q94a, q94b, q94c⟩ := isOf hZ rfl po88_5
    obtain ⟨vr94, _, ⟨T94, L94, k94, n94⟩, -, X94, ⟨Lc94, hQ94, l94, y94, z94⟩, st94⟩ := X88.virtualBack hx (y := (⟨"com/example/dispatch_by_catalog/dispatchbycatalog/subscriptions/EventQueue", "peek", "()Lcom/example/dispatch_by_catalog/dispatchbycatalog/subscriptions/Event;"⟩ : MethodName)) (z := (⟨"com/example/dispatch_by_catalog/dispatchbycatalog/subscriptions/EventQueue", "peek", "()Lcom/example/dispatch_by_catalog/dispatchbycatalog/subscriptions/Event;"⟩ : MethodName)) hown (mvT hZ (hw _ (List.mem_of_getElem? (i := 45) rfl))) (mvT hZ (hw _ (List.mem_of_getElem? (i := 46) rfl))) (notFace_of_selects (args := #[]) (mvT hZ (hw _ (List.mem_of_getElem? (i := 48) rfl)))) (mvT hZ (hw _ (List.mem_of_getElem? (i := 48) rfl))) (mvT hZ (hw _ (List.mem_of_getElem? (i := 47) rfl))) (by decide) (backOf (W := 0) (rmqp0 l Z a0 hw [] b1 x1_0_6 x1_1_6 b15 .null .null .null .null .null .null .null .null .null .null .null .null .null .null .null .null k1_2_6 T88.heap n0 z92 po88_6 po88_1 po88_2 po88_3 po88_0 k95) hZ (hw _ (List.mem_of_getElem? (i := 49) rfl)) (hw _ (List.mem_of_getElem? (i := 2) rfl)) (by decide) (by decide)) q94a q94c (g := (mkF m 79 #[.val (.long q0), .second, .val (.long q1), .second, .val (.int p2), .val (.ref b1), .val (.ref b15), .val (.ref b26), .val (.int (1 : Int32)), .unset, .unset, .unset, .unset, .unset, .unset] [(.ref b1)])) rfl (by rw [hml]; rfl) (Steps.refl _) (argsL := []) (rest := []) (lenOf pd_h748047 rfl) rfl (by show 2 * 0 + _ ≤ _; exact Nat.le_of_eq rfl) (hb hby at_79) (fun _ _ => ⟨rfl, rfl, (by decide : 5 + 0 ≤ _), (by decide : 26 + 0 ≤ _)⟩)
    dsimp only [Pt.U, Pt.locs, Pt.cells, Pt.slots] at X94 l94 y94 z94 st94 hQ94
    subst l94 y94 z94
    have N94q := (show _ ∧ _ ∧ _ from hQ94).1
    have hv94 := (show _ ∧ _ ∧ _ from hQ94).2.1
    have e94 := (show _ ∧ _ ∧ _ from hQ94).2.2
    clear hQ94
    subst hv94
    have N94 := Fr.app N88 N94q
    have pre96 : ∀ t, Steps p.tables e below (T94.setTop (mkF m 98 #[.val (.long q0), .second, .val (.long q1), .second, .val (.int p2), .val (.ref b1), .val (.ref b15), .val (.ref b26), .val (.int (1 : Int32)), .unset, .unset, .unset, .unset, .unset, .unset] [(.int (p2 &&& (2 : Int32)))])) t → Steps p.tables e below (s₁.setTop (entryFrame m #[(.long q0), (.long q1), (.int p2)] maxLocals)) t := by
      intro t k
      refine pre48 t ?_
      show Steps p.tables e below (T41.setTop (mkF m 52 #[.val (.long q0), .second, .val (.long q1), .second, .val (.int p2), .val (.ref b1), .val (.ref b15), .val (.ref b26), .val (.int (1 : Int32)), .unset, .unset, .unset, .unset, .unset, .unset] [(.int (p2 &&& (1 : Int32)))])) _
      refine XS.ifNo X41.here hx rfl (hb hby at_52) rfl (XT.i0_eq_f c49) ?_
      show Steps p.tables e below (T41.setTop (mkF m 55 #[.val (.long q0), .second, .val (.long q1), .second, .val (.int p2), .val (.ref b1), .val (.ref b15), .val (.ref b26), .val (.int (1 : Int32)), .unset, .unset, .unset, .unset, .unset, .unset] [])) _
      refine XS.aload X41.here hx rfl (hb hby at_55) rfl rfl ?_
      show Steps p.tables e below (T41.setTop (mkF m 57 #[.val (.long q0), .second, .val (.long q1), .second, .val (.int p2), .val (.ref b1), .val (.ref b15), .val (.ref b26), .val (.int (1 : Int32)), .unset, .unset, .unset, .unset, .unset, .unset] [(.ref b1)])) _
      refine XS.aload X41.here hx rfl (hb hby at_57) rfl rfl ?_
      show Steps p.tables e below (T41.setTop (mkF m 59 #[.val (.long q0), .second, .val (.long q1), .second, .val (.int p2), .val (.ref b1), .val (.ref b15), .val (.ref b26), .val (.int (1 : Int32)), .unset, .unset, .unset, .unset, .unset, .unset] [(.ref b15), (.ref b1)])) _
      refine st88.trans ?_
      show Steps p.tables e below (T88.setTop (mkF m 62 #[.val (.long q0), .second, .val (.long q1), .second, .val (.int p2), .val (.ref b1), .val (.ref b15), .val (.ref b26), .val (.int (1 : Int32)), .unset, .unset, .unset, .unset, .unset, .unset] [])) _
      refine XS.goto X88.here hx rfl (pc0 := 62) (pc' := 72) rfl (hb hby at_62) (by decide) (by decide) ?_
      show Steps p.tables e below (T88.setTop (mkF m 72 #[.val (.long q0), .second, .val (.long q1), .second, .val (.int p2), .val (.ref b1), .val (.ref b15), .val (.ref b26), .val (.int (1 : Int32)), .unset, .unset, .unset, .unset, .unset, .unset] [])) _
      refine XS.iload X88.here hx rfl (hb hby at_72) rfl ?_
      show Steps p.tables e below (T88.setTop (mkF m 74 #[.val (.long q0), .second, .val (.long q1), .second, .val (.int p2), .val (.ref b1), .val (.ref b15), .val (.ref b26), .val (.int (1 : Int32)), .unset, .unset, .unset, .unset, .unset, .unset] [(.int (1 : Int32))])) _
      refine XS.ifNo X88.here hx rfl (hb hby at_74) rfl (XT.i0_eq_f (by decide)) ?_
      show Steps p.tables e below (T88.setTop (mkF m 77 #[.val (.long q0), .second, .val (.long q1), .second, .val (.int p2), .val (.ref b1), .val (.ref b15), .val (.ref b26), .val (.int (1 : Int32)), .unset, .unset, .unset, .unset, .unset, .unset] [])) _
      refine XS.aload X88.here hx rfl (hb hby at_77) rfl rfl ?_
      show Steps p.tables e below (T88.setTop (mkF m 79 #[.val (.long q0), .second, .val (.long q1), .second, .val (.int p2), .val (.ref b1), .val (.ref b15), .val (.ref b26), .val (.int (1 : Int32)), .unset, .unset, .unset, .unset, .unset, .unset] [(.ref b1)])) _
      refine st94.trans ?_
      show Steps p.tables e below (T94.setTop (mkF m 82 #[.val (.long q0), .second, .val (.long q1), .second, .val (.int p2), .val (.ref b1), .val (.ref b15), .val (.ref b26), .val (.int (1 : Int32)), .unset, .unset, .unset, .unset, .unset, .unset] [(.ref b15)])) _
      refine XS.aload X94.here hx rfl (hb hby at_82) rfl rfl ?_
      show Steps p.tables e below (T94.setTop (mkF m 84 #[.val (.long q0), .second, .val (.long q1), .second, .val (.int p2), .val (.ref b1), .val (.ref b15), .val (.ref b26), .val (.int (1 : Int32)), .unset, .unset, .unset, .unset, .unset, .unset] [(.ref b15), (.ref b15)])) _
      refine XT.acmpNo X94.here hx rfl (hb hby at_84) rfl rfl rfl (XT.aa_ne_f rfl) ?_
      show Steps p.tables e below (T94.setTop (mkF m 87 #[.val (.long q0), .second, .val (.long q1), .second, .val (.int p2), .val (.ref b1), .val (.ref b15), .val (.ref b26), .val (.int (1 : Int32)), .unset, .unset, .unset, .unset, .unset, .unset] [])) _
      refine XT.iconstV X94.here hx rfl (1 : Int32) (hb hby at_87) (by decide) ?_
      show Steps p.tables e below (T94.setTop (mkF m 88 #[.val (.long q0), .second, .val (.long q1), .second, .val (.int p2), .val (.ref b1), .val (.ref b15), .val (.ref b26), .val (.int (1 : Int32)), .unset, .unset, .unset, .unset, .unset, .unset] [(.int (1 : Int32))])) _
      refine XS.goto X94.here hx rfl (pc0 := 88) (pc' := 92) rfl (hb hby at_88) (by decide) (by decide) ?_
      show Steps p.tables e below (T94.setTop (mkF m 92 #[.val (.long q0), .second, .val (.long q1), .second, .val (.int p2), .val (.ref b1), .val (.ref b15), .val (.ref b26), .val (.int (1 : Int32)), .unset, .unset, .unset, .unset, .unset, .unset] [(.int (1 : Int32))])) _
      refine XS.istore X94.here hx rfl (hb hby at_92) rfl (l' := #[.val (.long q0), .second, .val (.long q1), .second, .val (.int p2), .val (.ref b1), .val (.ref b15), .val (.ref b26), .val (.int (1 : Int32)), .unset, .unset, .unset, .unset, .unset, .unset]) rfl ?_
      show Steps p.tables e below (T94.setTop (mkF m 94 #[.val (.long q0), .second, .val (.long q1), .second, .val (.int p2), .val (.ref b1), .val (.ref b15), .val (.ref b26), .val (.int (1 : Int32)), .unset, .unset, .unset, .unset, .unset, .unset] [])) _
      refine XS.iload X94.here hx rfl (hb hby at_94) rfl ?_
      show Steps p.tables e below (T94.setTop (mkF m 96 #[.val (.long q0), .second, .val (.long q1), .second, .val (.int p2), .val (.ref b1), .val (.ref b15), .val (.ref b26), .val (.int (1 : Int32)), .unset, .unset, .unset, .unset, .unset, .unset] [(.int p2)])) _
      refine XT.iconstV X94.here hx rfl (2 : Int32) (hb hby at_96) (by decide) ?_
      show Steps p.tables e below (T94.setTop (mkF m 97 #[.val (.long q0), .second, .val (.long q1), .second, .val (.int p2), .val (.ref b1), .val (.ref b15), .val (.ref b26), .val (.int (1 : Int32)), .unset, .unset, .unset, .unset, .unset, .unset] [(.int (2 : Int32)), (.int p2)])) _
      refine XS.iand X94.here hx rfl (hb hby at_97) rfl ?_
      exact k
    clear pre48 st88 st94
    by_cases c97 : (v0_5 q0 q1 p2) = (0 : Int32)
    · skip
      have k99 := (po38_0.keep K88)
      obtain ⟨cq98, kq98, q98a, q98b, q98c⟩ := isOf hZ e94 po88_5
      obtain ⟨vr98, _, ⟨T98, L98, k98, n98⟩, -, X98, ⟨Lc98, hQ98, l98, y98, z98⟩, st98⟩ := X94.virtualBack hx (y := (⟨"com/example/dispatch_by_catalog/dispatchbycatalog/subscriptions/EventQueue", "add", "(Lcom/example/dispatch_by_catalog/dispatchbycatalog/subscriptions/Event;)V"⟩ : MethodName)) (z := (⟨"com/example/dispatch_by_catalog/dispatchbycatalog/subscriptions/EventQueue", "add", "(Lcom/example/dispatch_by_catalog/dispatchbycatalog/subscriptions/Event;)V"⟩ : MethodName)) hown (mvT hZ (hw _ (List.mem_of_getElem? (i := 100) rfl))) (mvT hZ (hw _ (List.mem_of_getElem? (i := 101) rfl))) (notFace_of_selects (args := #[]) (mvT hZ (hw _ (List.mem_of_getElem? (i := 103) rfl)))) (mvT hZ (hw _ (List.mem_of_getElem? (i := 103) rfl))) (mvT hZ (hw _ (List.mem_of_getElem? (i := 102) rfl))) (by decide) (backOf (W := 0) (rmqa0_1 l Z a0 hw [] b1 b26 x1_0_6 ((0 : Int64) + f14) x1_1_6 (.ref b15) .null .null .null .null .null .null .null .null .null .null .null .null .null .null .null .null k1_2_6 T88.heap n0 z92 po88_5 po88_6 po88_7 po88_1 po88_2 po88_3 po88_4 po88_0 po6_9 k99 g11 nex1_0_x1_1_6 g8 ne7 ne10 g2) hZ (hw _ (List.mem_of_getElem? (i := 104) rfl)) (hw _ (List.mem_of_getElem? (i := 2) rfl)) (by decide) (by decide)) q98a q98c (g := (mkF m 127 #[.val (.long q0), .second, .val (.long q1), .second, .val (.int p2), .val (.ref b1), .val (.ref b15), .val (.ref b26), .val (.int (1 : Int32)), .val (.int (0 : Int32)), .unset, .unset, .unset, .unset, .unset] [(.ref b26), (.ref b1)])) rfl (by rw [hml]; rfl) (Steps.refl _) (argsL := [(.ref b26)]) (rest := []) (lenOf pd_h171885 rfl) rfl (by show 2 * 0 + _ ≤ _; exact Nat.le_of_eq rfl) (hb hby at_127) (fun _ _ => ⟨rfl, e94, (by decide : 5 + 0 ≤ _), (by decide : 26 + 0 ≤ _)⟩)
      dsimp only [Pt.U, Pt.locs, Pt.cells, Pt.slots] at X98 l98 y98 z98 st98 hQ98
      subst l98 y98 z98
      have N98q := (show _ ∧ _ from hQ98).1
      have hq98 := (show _ ∧ _ from hQ98).2
      clear hQ98
      have hv98 := hq98.1
      have K98 := hq98.2.1
      have po98_0 := hq98.2.2.1
      have po98_1 := hq98.2.2.2.1
      have po98_2 := hq98.2.2.2.2.1
      have po98_3 := hq98.2.2.2.2.2.1
      have po98_4 := hq98.2.2.2.2.2.2.1
      have po98_5 := hq98.2.2.2.2.2.2.2.1
      have po98_6 := hq98.2.2.2.2.2.2.2.2.1
      have po98_7 := hq98.2.2.2.2.2.2.2.2.2
      clear hq98
      subst hv98
      have z100 : n0 ≤ T98.heap.size := Nat.le_trans z92 K98.1
      have hs101 : h0.size ≤ T98.heap.size := Nat.le_trans hs93 K98.1
      have N98 := Fr.app N94 N98q
      have k103 := (k95.keep K98)
      obtain ⟨cq102, kq102, q102a, q102b, q102c⟩ := isOf hZ rfl po98_5
      obtain ⟨vr102, _, ⟨T102, L102, k102, n102⟩, -, X102, ⟨Lc102, hQ102, l102, y102, z102⟩, st102⟩ := X98.virtualBack hx (y := (⟨"com/example/dispatch_by_catalog/dispatchbycatalog/subscriptions/EventQueue", "peek", "()Lcom/example/dispatch_by_catalog/dispatchbycatalog/subscriptions/Event;"⟩ : MethodName)) (z := (⟨"com/example/dispatch_by_catalog/dispatchbycatalog/subscriptions/EventQueue", "peek", "()Lcom/example/dispatch_by_catalog/dispatchbycatalog/subscriptions/Event;"⟩ : MethodName)) hown (mvT hZ (hw _ (List.mem_of_getElem? (i := 45) rfl))) (mvT hZ (hw _ (List.mem_of_getElem? (i := 46) rfl))) (notFace_of_selects (args := #[]) (mvT hZ (hw _ (List.mem_of_getElem? (i := 48) rfl)))) (mvT hZ (hw _ (List.mem_of_getElem? (i := 48) rfl))) (mvT hZ (hw _ (List.mem_of_getElem? (i := 47) rfl))) (by decide) (backOf (W := 0) (rmqp0 l Z a0 hw [] b1 x1_0_6 x1_1_6 b15 (.ref b26) .null .null .null .null .null .null .null .null .null .null .null .null .null .null .null k1_2_6 T98.heap n0 z100 po98_6 po98_1 po98_2 po98_3 po98_0 k103) hZ (hw _ (List.mem_of_getElem? (i := 49) rfl)) (hw _ (List.mem_of_getElem? (i := 2) rfl)) (by decide) (by decide)) q102a q102c (g := (mkF m 160 #[.val (.long q0), .second, .val (.long q1), .second, .val (.int p2), .val (.ref b1), .val (.ref b15), .val (.ref b26), .val (.int (1 : Int32)), .val (.int (0 : Int32)), .val (.ref b15), .val (.ref b26), .unset, .unset, .unset] [(.ref b1)])) rfl (by rw [hml]; rfl) (Steps.refl _) (argsL := []) (rest := []) (lenOf pd_h748047 rfl) rfl (by show 2 * 0 + _ ≤ _; exact Nat.le_of_eq rfl) (hb hby at_160) (fun _ _ => ⟨rfl, rfl, (by decide : 5 + 0 ≤ _), (by decide : 26 + 0 ≤ _)⟩)
      dsimp only [Pt.U, Pt.locs, Pt.cells, Pt.slots] at X102 l102 y102 z102 st102 hQ102
      subst l102 y102 z102
      have N102q := (show _ ∧ _ ∧ _ from hQ102).1
      have hv102 := (show _ ∧ _ ∧ _ from hQ102).2.1
      have e102 := (show _ ∧ _ ∧ _ from hQ102).2.2
      clear hQ102
      subst hv102
      have N102 := Fr.app N98 N102q
      obtain ⟨cq104, kq104, q104a, q104b, q104c⟩ := isOf hZ e102 po98_5
      obtain ⟨vr104, _, ⟨T104, L104, k104, n104⟩, -, X104, ⟨Lc104, hQ104, l104, y104, z104⟩, st104⟩ := X102.virtualBack hx (y := (⟨"com/example/dispatch_by_catalog/dispatchbycatalog/subscriptions/EventQueue", "peek", "()Lcom/example/dispatch_by_catalog/dispatchbycatalog/subscriptions/Event;"⟩ : MethodName)) (z := (⟨"com/example/dispatch_by_catalog/dispatchbycatalog/subscriptions/EventQueue", "peek", "()Lcom/example/dispatch_by_catalog/dispatchbycatalog/subscriptions/Event;"⟩ : MethodName)) hown (mvT hZ (hw _ (List.mem_of_getElem? (i := 45) rfl))) (mvT hZ (hw _ (List.mem_of_getElem? (i := 46) rfl))) (notFace_of_selects (args := #[]) (mvT hZ (hw _ (List.mem_of_getElem? (i := 48) rfl)))) (mvT hZ (hw _ (List.mem_of_getElem? (i := 48) rfl))) (mvT hZ (hw _ (List.mem_of_getElem? (i := 47) rfl))) (by decide) (backOf (W := 0) (rmqp0 l Z a0 hw [] b1 x1_0_6 x1_1_6 b15 (.ref b26) .null .null .null .null .null .null .null .null .null .null .null .null .null .null .null k1_2_6 T98.heap n0 z100 po98_6 po98_1 po98_2 po98_3 po98_0 k103) hZ (hw _ (List.mem_of_getElem? (i := 49) rfl)) (hw _ (List.mem_of_getElem? (i := 2) rfl)) (by decide) (by decide)) q104a q104c (g := (mkF m 167 #[.val (.long q0), .second, .val (.long q1), .second, .val (.int p2), .val (.ref b1), .val (.ref b15), .val (.ref b26), .val (.int (1 : Int32)), .val (.int (0 : Int32)), .val (.ref b15), .val (.ref b26), .val (.ref b15), .unset, .unset] [(.ref b1)])) rfl (by rw [hml]; rfl) (Steps.refl _) (argsL := []) (rest := []) (lenOf pd_h748047 rfl) rfl (by show 2 * 0 + _ ≤ _; exact Nat.le_of_eq rfl) (hb hby at_167) (fun _ _ => ⟨rfl, e102, (by decide : 5 + 0 ≤ _), (by decide : 26 + 0 ≤ _)⟩)
      dsimp only [Pt.U, Pt.locs, Pt.cells, Pt.slots] at X104 l104 y104 z104 st104 hQ104
      subst l104 y104 z104
      have N104q := (show _ ∧ _ ∧ _ from hQ104).1
      have hv104 := (show _ ∧ _ ∧ _ from hQ104).2.1
      have e104 := (show _ ∧ _ ∧ _ from hQ104).2.2
      clear hQ104
      subst hv104
      have N104 := Fr.app N102 N104q
      have pre105 : ∀ t, Steps p.tables e below (T104.setTop (mkF m 202 #[.val (.long q0), .second, .val (.long q1), .second, .val (.int p2), .val (.ref b1), .val (.ref b15), .val (.ref b26), .val (.int (1 : Int32)), .val (.int (0 : Int32)), .val (.ref b15), .val (.ref b26), .val (.ref b15), .val (.ref b15), .unset] [(.int (p2 &&& (4 : Int32)))])) t → Steps p.tables e below (s₁.setTop (entryFrame m #[(.long q0), (.long q1), (.int p2)] maxLocals)) t := by
        intro t k
        refine pre96 t ?_
        show Steps p.tables e below (T94.setTop (mkF m 98 #[.val (.long q0), .second, .val (.long q1), .second, .val (.int p2), .val (.ref b1), .val (.ref b15), .val (.ref b26), .val (.int (1 : Int32)), .unset, .unset, .unset, .unset, .unset, .unset] [(.int (p2 &&& (2 : Int32)))])) _
        refine XS.ifYes X94.here hx rfl (pc0 := 98) (pc' := 105) rfl (hb hby at_98) rfl (XT.i0_eq_t c97) (by decide) (by decide) ?_
        show Steps p.tables e below (T94.setTop (mkF m 105 #[.val (.long q0), .second, .val (.long q1), .second, .val (.int p2), .val (.ref b1), .val (.ref b15), .val (.ref b26), .val (.int (1 : Int32)), .unset, .unset, .unset, .unset, .unset, .unset] [])) _
        refine XT.iconstV X94.here hx rfl (0 : Int32) (hb hby at_105) (by decide) ?_
        show Steps p.tables e below (T94.setTop (mkF m 106 #[.val (.long q0), .second, .val (.long q1), .second, .val (.int p2), .val (.ref b1), .val (.ref b15), .val (.ref b26), .val (.int (1 : Int32)), .unset, .unset, .unset, .unset, .unset, .unset] [(.int (0 : Int32))])) _
        refine XS.istore X94.here hx rfl (hb hby at_106) rfl (l' := #[.val (.long q0), .second, .val (.long q1), .second, .val (.int p2), .val (.ref b1), .val (.ref b15), .val (.ref b26), .val (.int (1 : Int32)), .val (.int (0 : Int32)), .unset, .unset, .unset, .unset, .unset]) rfl ?_
        show Steps p.tables e below (T94.setTop (mkF m 108 #[.val (.long q0), .second, .val (.long q1), .second, .val (.int p2), .val (.ref b1), .val (.ref b15), .val (.ref b26), .val (.int (1 : Int32)), .val (.int (0 : Int32)), .unset, .unset, .unset, .unset, .unset] [])) _
        refine XS.iload X94.here hx rfl (hb hby at_108) rfl ?_
        show Steps p.tables e below (T94.setTop (mkF m 110 #[.val (.long q0), .second, .val (.long q1), .second, .val (.int p2), .val (.ref b1), .val (.ref b15), .val (.ref b26), .val (.int (1 : Int32)), .val (.int (0 : Int32)), .unset, .unset, .unset, .unset, .unset] [(.int (0 : Int32))])) _
        refine XS.ifYes X94.here hx rfl (pc0 := 110) (pc' := 123) rfl (hb hby at_110) rfl (XT.i0_eq_t (by decide)) (by decide) (by decide) ?_
        show Steps p.tables e below (T94.setTop (mkF m 123 #[.val (.long q0), .second, .val (.long q1), .second, .val (.int p2), .val (.ref b1), .val (.ref b15), .val (.ref b26), .val (.int (1 : Int32)), .val (.int (0 : Int32)), .unset, .unset, .unset, .unset, .unset] [])) _
        refine XS.aload X94.here hx rfl (hb hby at_123) rfl rfl ?_
        show Steps p.tables e below (T94.setTop (mkF m 125 #[.val (.long q0), .second, .val (.long q1), .second, .val (.int p2), .val (.ref b1), .val (.ref b15), .val (.ref b26), .val (.int (1 : Int32)), .val (.int (0 : Int32)), .unset, .unset, .unset, .unset, .unset] [(.ref b1)])) _
        refine XS.aload X94.here hx rfl (hb hby at_125) rfl rfl ?_
        show Steps p.tables e below (T94.setTop (mkF m 127 #[.val (.long q0), .second, .val (.long q1), .second, .val (.int p2), .val (.ref b1), .val (.ref b15), .val (.ref b26), .val (.int (1 : Int32)), .val (.int (0 : Int32)), .unset, .unset, .unset, .unset, .unset] [(.ref b26), (.ref b1)])) _
        refine st98.trans ?_
        show Steps p.tables e below (T98.setTop (mkF m 130 #[.val (.long q0), .second, .val (.long q1), .second, .val (.int p2), .val (.ref b1), .val (.ref b15), .val (.ref b26), .val (.int (1 : Int32)), .val (.int (0 : Int32)), .unset, .unset, .unset, .unset, .unset] [])) _
        refine XS.iload X98.here hx rfl (hb hby at_130) rfl ?_
        show Steps p.tables e below (T98.setTop (mkF m 132 #[.val (.long q0), .second, .val (.long q1), .second, .val (.int p2), .val (.ref b1), .val (.ref b15), .val (.ref b26), .val (.int (1 : Int32)), .val (.int (0 : Int32)), .unset, .unset, .unset, .unset, .unset] [(.int (0 : Int32))])) _
        refine XS.ifYes X98.here hx rfl (pc0 := 132) (pc' := 140) rfl (hb hby at_132) rfl (XT.i0_eq_t (by decide)) (by decide) (by decide) ?_
        show Steps p.tables e below (T98.setTop (mkF m 140 #[.val (.long q0), .second, .val (.long q1), .second, .val (.int p2), .val (.ref b1), .val (.ref b15), .val (.ref b26), .val (.int (1 : Int32)), .val (.int (0 : Int32)), .unset, .unset, .unset, .unset, .unset] [])) _
        refine XS.aload X98.here hx rfl (hb hby at_140) rfl rfl ?_
        show Steps p.tables e below (T98.setTop (mkF m 142 #[.val (.long q0), .second, .val (.long q1), .second, .val (.int p2), .val (.ref b1), .val (.ref b15), .val (.ref b26), .val (.int (1 : Int32)), .val (.int (0 : Int32)), .unset, .unset, .unset, .unset, .unset] [(.ref b15)])) _
        refine XS.astore X98.here hx rfl (hb hby at_142) rfl rfl (l' := #[.val (.long q0), .second, .val (.long q1), .second, .val (.int p2), .val (.ref b1), .val (.ref b15), .val (.ref b26), .val (.int (1 : Int32)), .val (.int (0 : Int32)), .val (.ref b15), .unset, .unset, .unset, .unset]) rfl ?_
        show Steps p.tables e below (T98.setTop (mkF m 144 #[.val (.long q0), .second, .val (.long q1), .second, .val (.int p2), .val (.ref b1), .val (.ref b15), .val (.ref b26), .val (.int (1 : Int32)), .val (.int (0 : Int32)), .val (.ref b15), .unset, .unset, .unset, .unset] [])) _
        refine XS.iload X98.here hx rfl (hb hby at_144) rfl ?_
        show Steps p.tables e below (T98.setTop (mkF m 146 #[.val (.long q0), .second, .val (.long q1), .second, .val (.int p2), .val (.ref b1), .val (.ref b15), .val (.ref b26), .val (.int (1 : Int32)), .val (.int (0 : Int32)), .val (.ref b15), .unset, .unset, .unset, .unset] [(.int (0 : Int32))])) _
        refine XS.ifYes X98.here hx rfl (pc0 := 146) (pc' := 154) rfl (hb hby at_146) rfl (XT.i0_eq_t (by decide)) (by decide) (by decide) ?_
        show Steps p.tables e below (T98.setTop (mkF m 154 #[.val (.long q0), .second, .val (.long q1), .second, .val (.int p2), .val (.ref b1), .val (.ref b15), .val (.ref b26), .val (.int (1 : Int32)), .val (.int (0 : Int32)), .val (.ref b15), .unset, .unset, .unset, .unset] [])) _
        refine XS.aload X98.here hx rfl (hb hby at_154) rfl rfl ?_
        show Steps p.tables e below (T98.setTop (mkF m 156 #[.val (.long q0), .second, .val (.long q1), .second, .val (.int p2), .val (.ref b1), .val (.ref b15), .val (.ref b26), .val (.int (1 : Int32)), .val (.int (0 : Int32)), .val (.ref b15), .unset, .unset, .unset, .unset] [(.ref b26)])) _
        refine XS.astore X98.here hx rfl (hb hby at_156) rfl rfl (l' := #[.val (.long q0), .second, .val (.long q1), .second, .val (.int p2), .val (.ref b1), .val (.ref b15), .val (.ref b26), .val (.int (1 : Int32)), .val (.int (0 : Int32)), .val (.ref b15), .val (.ref b26), .unset, .unset, .unset]) rfl ?_
        show Steps p.tables e below (T98.setTop (mkF m 158 #[.val (.long q0), .second, .val (.long q1), .second, .val (.int p2), .val (.ref b1), .val (.ref b15), .val (.ref b26), .val (.int (1 : Int32)), .val (.int (0 : Int32)), .val (.ref b15), .val (.ref b26), .unset, .unset, .unset] [])) _
        refine XS.aload X98.here hx rfl (hb hby at_158) rfl rfl ?_
        show Steps p.tables e below (T98.setTop (mkF m 160 #[.val (.long q0), .second, .val (.long q1), .second, .val (.int p2), .val (.ref b1), .val (.ref b15), .val (.ref b26), .val (.int (1 : Int32)), .val (.int (0 : Int32)), .val (.ref b15), .val (.ref b26), .unset, .unset, .unset] [(.ref b1)])) _
        refine st102.trans ?_
        show Steps p.tables e below (T102.setTop (mkF m 163 #[.val (.long q0), .second, .val (.long q1), .second, .val (.int p2), .val (.ref b1), .val (.ref b15), .val (.ref b26), .val (.int (1 : Int32)), .val (.int (0 : Int32)), .val (.ref b15), .val (.ref b26), .unset, .unset, .unset] [(.ref b15)])) _
        refine XS.astore X102.here hx rfl (hb hby at_163) rfl rfl (l' := #[.val (.long q0), .second, .val (.long q1), .second, .val (.int p2), .val (.ref b1), .val (.ref b15), .val (.ref b26), .val (.int (1 : Int32)), .val (.int (0 : Int32)), .val (.ref b15), .val (.ref b26), .val (.ref b15), .unset, .unset]) rfl ?_
        show Steps p.tables e below (T102.setTop (mkF m 165 #[.val (.long q0), .second, .val (.long q1), .second, .val (.int p2), .val (.ref b1), .val (.ref b15), .val (.ref b26), .val (.int (1 : Int32)), .val (.int (0 : Int32)), .val (.ref b15), .val (.ref b26), .val (.ref b15), .unset, .unset] [])) _
        refine XS.aload X102.here hx rfl (hb hby at_165) rfl rfl ?_
        show Steps p.tables e below (T102.setTop (mkF m 167 #[.val (.long q0), .second, .val (.long q1), .second, .val (.int p2), .val (.ref b1), .val (.ref b15), .val (.ref b26), .val (.int (1 : Int32)), .val (.int (0 : Int32)), .val (.ref b15), .val (.ref b26), .val (.ref b15), .unset, .unset] [(.ref b1)])) _
        refine st104.trans ?_
        show Steps p.tables e below (T104.setTop (mkF m 170 #[.val (.long q0), .second, .val (.long q1), .second, .val (.int p2), .val (.ref b1), .val (.ref b15), .val (.ref b26), .val (.int (1 : Int32)), .val (.int (0 : Int32)), .val (.ref b15), .val (.ref b26), .val (.ref b15), .unset, .unset] [(.ref b15)])) _
        refine XS.astore X104.here hx rfl (hb hby at_170) rfl rfl (l' := #[.val (.long q0), .second, .val (.long q1), .second, .val (.int p2), .val (.ref b1), .val (.ref b15), .val (.ref b26), .val (.int (1 : Int32)), .val (.int (0 : Int32)), .val (.ref b15), .val (.ref b26), .val (.ref b15), .val (.ref b15), .unset]) rfl ?_
        show Steps p.tables e below (T104.setTop (mkF m 172 #[.val (.long q0), .second, .val (.long q1), .second, .val (.int p2), .val (.ref b1), .val (.ref b15), .val (.ref b26), .val (.int (1 : Int32)), .val (.int (0 : Int32)), .val (.ref b15), .val (.ref b26), .val (.ref b15), .val (.ref b15), .unset] [])) _
        refine XS.iload X104.here hx rfl (hb hby at_172) rfl ?_
        show Steps p.tables e below (T104.setTop (mkF m 174 #[.val (.long q0), .second, .val (.long q1), .second, .val (.int p2), .val (.ref b1), .val (.ref b15), .val (.ref b26), .val (.int (1 : Int32)), .val (.int (0 : Int32)), .val (.ref b15), .val (.ref b26), .val (.ref b15), .val (.ref b15), .unset] [(.int (1 : Int32))])) _
        refine XS.ifNo X104.here hx rfl (hb hby at_174) rfl (XT.i0_eq_f (by decide)) ?_
        show Steps p.tables e below (T104.setTop (mkF m 177 #[.val (.long q0), .second, .val (.long q1), .second, .val (.int p2), .val (.ref b1), .val (.ref b15), .val (.ref b26), .val (.int (1 : Int32)), .val (.int (0 : Int32)), .val (.ref b15), .val (.ref b26), .val (.ref b15), .val (.ref b15), .unset] [])) _
        refine XS.aload X104.here hx rfl (hb hby at_177) rfl rfl ?_
        show Steps p.tables e below (T104.setTop (mkF m 179 #[.val (.long q0), .second, .val (.long q1), .second, .val (.int p2), .val (.ref b1), .val (.ref b15), .val (.ref b26), .val (.int (1 : Int32)), .val (.int (0 : Int32)), .val (.ref b15), .val (.ref b26), .val (.ref b15), .val (.ref b15), .unset] [(.ref b15)])) _
        refine XS.aload X104.here hx rfl (hb hby at_179) rfl rfl ?_
        show Steps p.tables e below (T104.setTop (mkF m 181 #[.val (.long q0), .second, .val (.long q1), .second, .val (.int p2), .val (.ref b1), .val (.ref b15), .val (.ref b26), .val (.int (1 : Int32)), .val (.int (0 : Int32)), .val (.ref b15), .val (.ref b26), .val (.ref b15), .val (.ref b15), .unset] [(.ref b15), (.ref b15)])) _
        refine XT.acmpNo X104.here hx rfl (hb hby at_181) rfl rfl rfl (XT.aa_ne_f rfl) ?_
        show Steps p.tables e below (T104.setTop (mkF m 184 #[.val (.long q0), .second, .val (.long q1), .second, .val (.int p2), .val (.ref b1), .val (.ref b15), .val (.ref b26), .val (.int (1 : Int32)), .val (.int (0 : Int32)), .val (.ref b15), .val (.ref b26), .val (.ref b15), .val (.ref b15), .unset] [])) _
        refine XS.aload X104.here hx rfl (hb hby at_184) rfl rfl ?_
        show Steps p.tables e below (T104.setTop (mkF m 186 #[.val (.long q0), .second, .val (.long q1), .second, .val (.int p2), .val (.ref b1), .val (.ref b15), .val (.ref b26), .val (.int (1 : Int32)), .val (.int (0 : Int32)), .val (.ref b15), .val (.ref b26), .val (.ref b15), .val (.ref b15), .unset] [(.ref b15)])) _
        refine XS.aload X104.here hx rfl (hb hby at_186) rfl rfl ?_
        show Steps p.tables e below (T104.setTop (mkF m 188 #[.val (.long q0), .second, .val (.long q1), .second, .val (.int p2), .val (.ref b1), .val (.ref b15), .val (.ref b26), .val (.int (1 : Int32)), .val (.int (0 : Int32)), .val (.ref b15), .val (.ref b26), .val (.ref b15), .val (.ref b15), .unset] [(.ref b15), (.ref b15)])) _
        refine XT.acmpNo X104.here hx rfl (hb hby at_188) rfl rfl rfl (XT.aa_ne_f rfl) ?_
        show Steps p.tables e below (T104.setTop (mkF m 191 #[.val (.long q0), .second, .val (.long q1), .second, .val (.int p2), .val (.ref b1), .val (.ref b15), .val (.ref b26), .val (.int (1 : Int32)), .val (.int (0 : Int32)), .val (.ref b15), .val (.ref b26), .val (.ref b15), .val (.ref b15), .unset] [])) _
        refine XT.iconstV X104.here hx rfl (1 : Int32) (hb hby at_191) (by decide) ?_
        show Steps p.tables e below (T104.setTop (mkF m 192 #[.val (.long q0), .second, .val (.long q1), .second, .val (.int p2), .val (.ref b1), .val (.ref b15), .val (.ref b26), .val (.int (1 : Int32)), .val (.int (0 : Int32)), .val (.ref b15), .val (.ref b26), .val (.ref b15), .val (.ref b15), .unset] [(.int (1 : Int32))])) _
        refine XS.goto X104.here hx rfl (pc0 := 192) (pc' := 196) rfl (hb hby at_192) (by decide) (by decide) ?_
        show Steps p.tables e below (T104.setTop (mkF m 196 #[.val (.long q0), .second, .val (.long q1), .second, .val (.int p2), .val (.ref b1), .val (.ref b15), .val (.ref b26), .val (.int (1 : Int32)), .val (.int (0 : Int32)), .val (.ref b15), .val (.ref b26), .val (.ref b15), .val (.ref b15), .unset] [(.int (1 : Int32))])) _
        refine XS.istore X104.here hx rfl (hb hby at_196) rfl (l' := #[.val (.long q0), .second, .val (.long q1), .second, .val (.int p2), .val (.ref b1), .val (.ref b15), .val (.ref b26), .val (.int (1 : Int32)), .val (.int (0 : Int32)), .val (.ref b15), .val (.ref b26), .val (.ref b15), .val (.ref b15), .unset]) rfl ?_
        show Steps p.tables e below (T104.setTop (mkF m 198 #[.val (.long q0), .second, .val (.long q1), .second, .val (.int p2), .val (.ref b1), .val (.ref b15), .val (.ref b26), .val (.int (1 : Int32)), .val (.int (0 : Int32)), .val (.ref b15), .val (.ref b26), .val (.ref b15), .val (.ref b15), .unset] [])) _
        refine XS.iload X104.here hx rfl (hb hby at_198) rfl ?_
        show Steps p.tables e below (T104.setTop (mkF m 200 #[.val (.long q0), .second, .val (.long q1), .second, .val (.int p2), .val (.ref b1), .val (.ref b15), .val (.ref b26), .val (.int (1 : Int32)), .val (.int (0 : Int32)), .val (.ref b15), .val (.ref b26), .val (.ref b15), .val (.ref b15), .unset] [(.int p2)])) _
        refine XT.iconstV X104.here hx rfl (4 : Int32) (hb hby at_200) (by decide) ?_
        show Steps p.tables e below (T104.setTop (mkF m 201 #[.val (.long q0), .second, .val (.long q1), .second, .val (.int p2), .val (.ref b1), .val (.ref b15), .val (.ref b26), .val (.int (1 : Int32)), .val (.int (0 : Int32)), .val (.ref b15), .val (.ref b26), .val (.ref b15), .val (.ref b15), .unset] [(.int (4 : Int32)), (.int p2)])) _
        refine XS.iand X104.here hx rfl (hb hby at_201) rfl ?_
        exact k
      clear pre96 st98 st102 st104
      by_cases c106 : (v0_6 q0 q1 p2) = (0 : Int32)
      · skip
        obtain ⟨fs, hr, hrun, hended, hW, hsame⟩ := X104.leave (v := some (.int (1 : Int32))) (fun h => by rw [Bd.returns] at h; cases h) hlk
        refine ⟨_, _, pre105 _ ?_, hrun, hended, _, _, rfl, ?_, ⟨_, rfl⟩, hW, hsame.mono (by decide) (by decide)⟩
        · skip
          show Steps p.tables e below (T104.setTop (mkF m 202 #[.val (.long q0), .second, .val (.long q1), .second, .val (.int p2), .val (.ref b1), .val (.ref b15), .val (.ref b26), .val (.int (1 : Int32)), .val (.int (0 : Int32)), .val (.ref b15), .val (.ref b26), .val (.ref b15), .val (.ref b15), .unset] [(.int (p2 &&& (4 : Int32)))])) _
          refine XS.ifYes X104.here hx rfl (pc0 := 202) (pc' := 241) rfl (hb hby at_202) rfl (XT.i0_eq_t c106) (by decide) (by decide) ?_
          show Steps p.tables e below (T104.setTop (mkF m 241 #[.val (.long q0), .second, .val (.long q1), .second, .val (.int p2), .val (.ref b1), .val (.ref b15), .val (.ref b26), .val (.int (1 : Int32)), .val (.int (0 : Int32)), .val (.ref b15), .val (.ref b26), .val (.ref b15), .val (.ref b15), .unset] [])) _
          refine XS.iload X104.here hx rfl (hb hby at_241) rfl ?_
          show Steps p.tables e below (T104.setTop (mkF m 243 #[.val (.long q0), .second, .val (.long q1), .second, .val (.int p2), .val (.ref b1), .val (.ref b15), .val (.ref b26), .val (.int (1 : Int32)), .val (.int (0 : Int32)), .val (.ref b15), .val (.ref b26), .val (.ref b15), .val (.ref b15), .unset] [(.int (1 : Int32))])) _
          exact retN X104 hx (t := .boolean) Bd.returns (by simp) (hb hby at_243) hr
        · skip
          show Q0 Z q0 q1 p2 h0 n0 _ T104.heap _
          rw [e104]
          exact ⟨rfl, N104⟩
      · skip
        obtain ⟨cq107, kq107, q107a, q107b, q107c⟩ := isOf hZ e104 po98_5
        obtain ⟨vr107, _, ⟨T107, L107, k107, n107⟩, -, X107, ⟨Lc107, hQ107, l107, y107, z107⟩, st107⟩ := X104.virtualBack hx (y := (⟨"com/example/dispatch_by_catalog/dispatchbycatalog/subscriptions/EventQueue", "poll", "()Lcom/example/dispatch_by_catalog/dispatchbycatalog/subscriptions/Event;"⟩ : MethodName)) (z := (⟨"com/example/dispatch_by_catalog/dispatchbycatalog/subscriptions/EventQueue", "poll", "()Lcom/example/dispatch_by_catalog/dispatchbycatalog/subscriptions/Event;"⟩ : MethodName)) hown (mvT hZ (hw _ (List.mem_of_getElem? (i := 116) rfl))) (mvT hZ (hw _ (List.mem_of_getElem? (i := 117) rfl))) (notFace_of_selects (args := #[]) (mvT hZ (hw _ (List.mem_of_getElem? (i := 119) rfl)))) (mvT hZ (hw _ (List.mem_of_getElem? (i := 119) rfl))) (mvT hZ (hw _ (List.mem_of_getElem? (i := 118) rfl))) (by decide) (backOf (W := 0) (rmql0_2 l Z a0 hw [] b1 x1_0_6 (((0 : Int64) + f14) + f14) x1_1_6 b15 (.ref b26) .null .null .null .null .null .null .null .null .null .null .null .null .null .null .null k1_2_6 T98.heap n0 z100 po98_5 po98_6 po98_7 po98_1 po98_2 po98_3 po98_4 po98_0 k103 g11 nex1_0_x1_1_6 g8 ne7 ne10 g2) hZ (hw _ (List.mem_of_getElem? (i := 120) rfl)) (hw _ (List.mem_of_getElem? (i := 2) rfl)) (by decide) (by decide)) q107a q107c (g := (mkF m 207 #[.val (.long q0), .second, .val (.long q1), .second, .val (.int p2), .val (.ref b1), .val (.ref b15), .val (.ref b26), .val (.int (1 : Int32)), .val (.int (0 : Int32)), .val (.ref b15), .val (.ref b26), .val (.ref b15), .val (.ref b15), .unset] [(.ref b1)])) rfl (by rw [hml]; rfl) (Steps.refl _) (argsL := []) (rest := []) (lenOf pd_h748047 rfl) rfl (by show 2 * 0 + _ ≤ _; exact Nat.le_of_eq rfl) (hb hby at_207) (fun _ _ => ⟨rfl, e104, (by decide : 5 + 0 ≤ _), (by decide : 26 + 0 ≤ _)⟩)
        dsimp only [Pt.U, Pt.locs, Pt.cells, Pt.slots] at X107 l107 y107 z107 st107 hQ107
        subst l107 y107 z107
        have N107q := (show _ ∧ _ from hQ107).1
        have hq107 := (show _ ∧ _ from hQ107).2
        clear hQ107
        have hv107 := hq107.1
        have K107 := hq107.2.1
        have po107_0 := hq107.2.2.1
        have po107_1 := hq107.2.2.2.1
        have po107_2 := hq107.2.2.2.2.1
        have po107_3 := hq107.2.2.2.2.2.1
        have po107_4 := hq107.2.2.2.2.2.2.1
        have po107_5 := hq107.2.2.2.2.2.2.2.1
        have po107_6 := hq107.2.2.2.2.2.2.2.2.1
        have po107_7 := hq107.2.2.2.2.2.2.2.2.2
        clear hq107
        subst hv107
        have z108 : n0 ≤ T107.heap.size := Nat.le_trans z100 K107.1
        have hs109 : h0.size ≤ T107.heap.size := Nat.le_trans hs101 K107.1
        have N107 := Fr.app N104 N107q
        have k111 := ((k99.keep K98).keep K107)
        obtain ⟨cq110, kq110, q110a, q110b, q110c⟩ := isOf hZ rfl po107_5
        obtain ⟨vr110, _, ⟨T110, L110, k110, n110⟩, -, X110, ⟨Lc110, hQ110, l110, y110, z110⟩, st110⟩ := X107.virtualBack hx (y := (⟨"com/example/dispatch_by_catalog/dispatchbycatalog/subscriptions/EventQueue", "peek", "()Lcom/example/dispatch_by_catalog/dispatchbycatalog/subscriptions/Event;"⟩ : MethodName)) (z := (⟨"com/example/dispatch_by_catalog/dispatchbycatalog/subscriptions/EventQueue", "peek", "()Lcom/example/dispatch_by_catalog/dispatchbycatalog/subscriptions/Event;"⟩ : MethodName)) hown (mvT hZ (hw _ (List.mem_of_getElem? (i := 45) rfl))) (mvT hZ (hw _ (List.mem_of_getElem? (i := 46) rfl))) (notFace_of_selects (args := #[]) (mvT hZ (hw _ (List.mem_of_getElem? (i := 48) rfl)))) (mvT hZ (hw _ (List.mem_of_getElem? (i := 48) rfl))) (mvT hZ (hw _ (List.mem_of_getElem? (i := 47) rfl))) (by decide) (backOf (W := 0) (rmqp1 l Z a0 hw [] b1 x1_0_6 x1_1_6 .null b26 .null .null .null .null .null .null .null .null .null .null .null .null .null .null .null k1_2_6 T107.heap n0 z108 po107_6 po107_1 po107_2 po107_3 po107_0 k111) hZ (hw _ (List.mem_of_getElem? (i := 49) rfl)) (hw _ (List.mem_of_getElem? (i := 2) rfl)) (by decide) (by decide)) q110a q110c (g := (mkF m 226 #[.val (.long q0), .second, .val (.long q1), .second, .val (.int p2), .val (.ref b1), .val (.ref b15), .val (.ref b26), .val (.int (1 : Int32)), .val (.int (0 : Int32)), .val (.ref b15), .val (.ref b26), .val (.ref b15), .val (.ref b15), .val (.ref b15)] [(.ref b1)])) rfl (by rw [hml]; rfl) (Steps.refl _) (argsL := []) (rest := []) (lenOf pd_h748047 rfl) rfl (by show 2 * 0 + _ ≤ _; exact Nat.le_of_eq rfl) (hb hby at_226) (fun _ _ => ⟨rfl, rfl, (by decide : 5 + 0 ≤ _), (by decide : 26 + 0 ≤ _)⟩)
        dsimp only [Pt.U, Pt.locs, Pt.cells, Pt.slots] at X110 l110 y110 z110 st110 hQ110
        subst l110 y110 z110
        have N110q := (show _ ∧ _ ∧ _ from hQ110).1
        have hv110 := (show _ ∧ _ ∧ _ from hQ110).2.1
        have e110 := (show _ ∧ _ ∧ _ from hQ110).2.2
        clear hQ110
        subst hv110
        have N110 := Fr.app N107 N110q
        obtain ⟨fs, hr, hrun, hended, hW, hsame⟩ := X110.leave (v := some (.int (1 : Int32))) (fun h => by rw [Bd.returns] at h; cases h) hlk
        refine ⟨_, _, pre105 _ ?_, hrun, hended, _, _, rfl, ?_, ⟨_, rfl⟩, hW, hsame.mono (by decide) (by decide)⟩
        · skip
          show Steps p.tables e below (T104.setTop (mkF m 202 #[.val (.long q0), .second, .val (.long q1), .second, .val (.int p2), .val (.ref b1), .val (.ref b15), .val (.ref b26), .val (.int (1 : Int32)), .val (.int (0 : Int32)), .val (.ref b15), .val (.ref b26), .val (.ref b15), .val (.ref b15), .unset] [(.int (p2 &&& (4 : Int32)))])) _
          refine XS.ifNo X104.here hx rfl (hb hby at_202) rfl (XT.i0_eq_f c106) ?_
          show Steps p.tables e below (T104.setTop (mkF m 205 #[.val (.long q0), .second, .val (.long q1), .second, .val (.int p2), .val (.ref b1), .val (.ref b15), .val (.ref b26), .val (.int (1 : Int32)), .val (.int (0 : Int32)), .val (.ref b15), .val (.ref b26), .val (.ref b15), .val (.ref b15), .unset] [])) _
          refine XS.aload X104.here hx rfl (hb hby at_205) rfl rfl ?_
          show Steps p.tables e below (T104.setTop (mkF m 207 #[.val (.long q0), .second, .val (.long q1), .second, .val (.int p2), .val (.ref b1), .val (.ref b15), .val (.ref b26), .val (.int (1 : Int32)), .val (.int (0 : Int32)), .val (.ref b15), .val (.ref b26), .val (.ref b15), .val (.ref b15), .unset] [(.ref b1)])) _
          refine st107.trans ?_
          show Steps p.tables e below (T107.setTop (mkF m 210 #[.val (.long q0), .second, .val (.long q1), .second, .val (.int p2), .val (.ref b1), .val (.ref b15), .val (.ref b26), .val (.int (1 : Int32)), .val (.int (0 : Int32)), .val (.ref b15), .val (.ref b26), .val (.ref b15), .val (.ref b15), .unset] [(.ref b15)])) _
          refine XS.astore X107.here hx rfl (hb hby at_210) rfl rfl (l' := #[.val (.long q0), .second, .val (.long q1), .second, .val (.int p2), .val (.ref b1), .val (.ref b15), .val (.ref b26), .val (.int (1 : Int32)), .val (.int (0 : Int32)), .val (.ref b15), .val (.ref b26), .val (.ref b15), .val (.ref b15), .val (.ref b15)]) rfl ?_
          show Steps p.tables e below (T107.setTop (mkF m 212 #[.val (.long q0), .second, .val (.long q1), .second, .val (.int p2), .val (.ref b1), .val (.ref b15), .val (.ref b26), .val (.int (1 : Int32)), .val (.int (0 : Int32)), .val (.ref b15), .val (.ref b26), .val (.ref b15), .val (.ref b15), .val (.ref b15)] [])) _
          refine XS.iload X107.here hx rfl (hb hby at_212) rfl ?_
          show Steps p.tables e below (T107.setTop (mkF m 214 #[.val (.long q0), .second, .val (.long q1), .second, .val (.int p2), .val (.ref b1), .val (.ref b15), .val (.ref b26), .val (.int (1 : Int32)), .val (.int (0 : Int32)), .val (.ref b15), .val (.ref b26), .val (.ref b15), .val (.ref b15), .val (.ref b15)] [(.int (1 : Int32))])) _
          refine XS.ifNo X107.here hx rfl (hb hby at_214) rfl (XT.i0_eq_f (by decide)) ?_
          show Steps p.tables e below (T107.setTop (mkF m 217 #[.val (.long q0), .second, .val (.long q1), .second, .val (.int p2), .val (.ref b1), .val (.ref b15), .val (.ref b26), .val (.int (1 : Int32)), .val (.int (0 : Int32)), .val (.ref b15), .val (.ref b26), .val (.ref b15), .val (.ref b15), .val (.ref b15)] [])) _
          refine XS.aload X107.here hx rfl (hb hby at_217) rfl rfl ?_
          show Steps p.tables e below (T107.setTop (mkF m 219 #[.val (.long q0), .second, .val (.long q1), .second, .val (.int p2), .val (.ref b1), .val (.ref b15), .val (.ref b26), .val (.int (1 : Int32)), .val (.int (0 : Int32)), .val (.ref b15), .val (.ref b26), .val (.ref b15), .val (.ref b15), .val (.ref b15)] [(.ref b15)])) _
          refine XS.aload X107.here hx rfl (hb hby at_219) rfl rfl ?_
          show Steps p.tables e below (T107.setTop (mkF m 221 #[.val (.long q0), .second, .val (.long q1), .second, .val (.int p2), .val (.ref b1), .val (.ref b15), .val (.ref b26), .val (.int (1 : Int32)), .val (.int (0 : Int32)), .val (.ref b15), .val (.ref b26), .val (.ref b15), .val (.ref b15), .val (.ref b15)] [(.ref b15), (.ref b15)])) _
          refine XT.acmpNo X107.here hx rfl (hb hby at_221) rfl rfl rfl (XT.aa_ne_f rfl) ?_
          show Steps p.tables e below (T107.setTop (mkF m 224 #[.val (.long q0), .second, .val (.long q1), .second, .val (.int p2), .val (.ref b1), .val (.ref b15), .val (.ref b26), .val (.int (1 : Int32)), .val (.int (0 : Int32)), .val (.ref b15), .val (.ref b26), .val (.ref b15), .val (.ref b15), .val (.ref b15)] [])) _
          refine XS.aload X107.here hx rfl (hb hby at_224) rfl rfl ?_
          show Steps p.tables e below (T107.setTop (mkF m 226 #[.val (.long q0), .second, .val (.long q1), .second, .val (.int p2), .val (.ref b1), .val (.ref b15), .val (.ref b26), .val (.int (1 : Int32)), .val (.int (0 : Int32)), .val (.ref b15), .val (.ref b26), .val (.ref b15), .val (.ref b15), .val (.ref b15)] [(.ref b1)])) _
          refine st110.trans ?_
          show Steps p.tables e below (T110.setTop (mkF m 229 #[.val (.long q0), .second, .val (.long q1), .second, .val (.int p2), .val (.ref b1), .val (.ref b15), .val (.ref b26), .val (.int (1 : Int32)), .val (.int (0 : Int32)), .val (.ref b15), .val (.ref b26), .val (.ref b15), .val (.ref b15), .val (.ref b15)] [(.ref b26)])) _
          refine XS.aload X110.here hx rfl (hb hby at_229) rfl rfl ?_
          show Steps p.tables e below (T110.setTop (mkF m 231 #[.val (.long q0), .second, .val (.long q1), .second, .val (.int p2), .val (.ref b1), .val (.ref b15), .val (.ref b26), .val (.int (1 : Int32)), .val (.int (0 : Int32)), .val (.ref b15), .val (.ref b26), .val (.ref b15), .val (.ref b15), .val (.ref b15)] [(.ref b26), (.ref b26)])) _
          refine XT.acmpNo X110.here hx rfl (hb hby at_231) rfl rfl rfl (XT.aa_ne_f rfl) ?_
          show Steps p.tables e below (T110.setTop (mkF m 234 #[.val (.long q0), .second, .val (.long q1), .second, .val (.int p2), .val (.ref b1), .val (.ref b15), .val (.ref b26), .val (.int (1 : Int32)), .val (.int (0 : Int32)), .val (.ref b15), .val (.ref b26), .val (.ref b15), .val (.ref b15), .val (.ref b15)] [])) _
          refine XT.iconstV X110.here hx rfl (1 : Int32) (hb hby at_234) (by decide) ?_
          show Steps p.tables e below (T110.setTop (mkF m 235 #[.val (.long q0), .second, .val (.long q1), .second, .val (.int p2), .val (.ref b1), .val (.ref b15), .val (.ref b26), .val (.int (1 : Int32)), .val (.int (0 : Int32)), .val (.ref b15), .val (.ref b26), .val (.ref b15), .val (.ref b15), .val (.ref b15)] [(.int (1 : Int32))])) _
          refine XS.goto X110.here hx rfl (pc0 := 235) (pc' := 239) rfl (hb hby at_235) (by decide) (by decide) ?_
          show Steps p.tables e below (T110.setTop (mkF m 239 #[.val (.long q0), .second, .val (.long q1), .second, .val (.int p2), .val (.ref b1), .val (.ref b15), .val (.ref b26), .val (.int (1 : Int32)), .val (.int (0 : Int32)), .val (.ref b15), .val (.ref b26), .val (.ref b15), .val (.ref b15), .val (.ref b15)] [(.int (1 : Int32))])) _
          refine XS.istore X110.here hx rfl (hb hby at_239) rfl (l' := #[.val (.long q0), .second, .val (.long q1), .second, .val (.int p2), .val (.ref b1), .val (.ref b15), .val (.ref b26), .val (.int (1 : Int32)), .val (.int (0 : Int32)), .val (.ref b15), .val (.ref b26), .val (.ref b15), .val (.ref b15), .val (.ref b15)]) rfl ?_
          show Steps p.tables e below (T110.setTop (mkF m 241 #[.val (.long q0), .second, .val (.long q1), .second, .val (.int p2), .val (.ref b1), .val (.ref b15), .val (.ref b26), .val (.int (1 : Int32)), .val (.int (0 : Int32)), .val (.ref b15), .val (.ref b26), .val (.ref b15), .val (.ref b15), .val (.ref b15)] [])) _
          refine XS.iload X110.here hx rfl (hb hby at_241) rfl ?_
          show Steps p.tables e below (T110.setTop (mkF m 243 #[.val (.long q0), .second, .val (.long q1), .second, .val (.int p2), .val (.ref b1), .val (.ref b15), .val (.ref b26), .val (.int (1 : Int32)), .val (.int (0 : Int32)), .val (.ref b15), .val (.ref b26), .val (.ref b15), .val (.ref b15), .val (.ref b15)] [(.int (1 : Int32))])) _
          exact retN X110 hx (t := .boolean) Bd.returns (by simp) (hb hby at_243) hr
        · skip
          show Q0 Z q0 q1 p2 h0 n0 _ T110.heap _
          rw [e110]
          exact ⟨rfl, N110⟩
    · skip
      have k113 := (po38_0.keep K88)
      obtain ⟨cq112, kq112, q112a, q112b, q112c⟩ := isOf hZ e94 po88_5
      obtain ⟨vr112, _, ⟨T112, L112, k112, n112⟩, -, X112, ⟨Lc112, hQ112, l112, y112, z112⟩, st112⟩ := X94.virtualBack hx (y := (⟨"com/example/dispatch_by_catalog/dispatchbycatalog/subscriptions/EventQueue", "addFirst", "(Lcom/example/dispatch_by_catalog/dispatchbycatalog/subscriptions/Event;)V"⟩ : MethodName)) (z := (⟨"com/example/dispatch_by_catalog/dispatchbycatalog/subscriptions/EventQueue", "addFirst", "(Lcom/example/dispatch_by_catalog/dispatchbycatalog/subscriptions/Event;)V"⟩ : MethodName)) hown (mvT hZ (hw _ (List.mem_of_getElem? (i := 69) rfl))) (mvT hZ (hw _ (List.mem_of_getElem? (i := 70) rfl))) (notFace_of_selects (args := #[]) (mvT hZ (hw _ (List.mem_of_getElem? (i := 72) rfl)))) (mvT hZ (hw _ (List.mem_of_getElem? (i := 72) rfl))) (mvT hZ (hw _ (List.mem_of_getElem? (i := 71) rfl))) (by decide) (backOf (W := 0) (rmqf0_1 l Z a0 hw [] b1 b26 x1_0_6 ((0 : Int64) + f14) x1_1_6 (.ref b15) .null .null .null .null .null .null .null .null .null .null .null .null .null .null .null .null k1_2_6 T88.heap n0 z92 po88_5 po88_6 po88_7 po88_1 po88_2 po88_3 po88_4 po88_0 po6_9 k113 g8 (Ne.symm nex1_0_x1_1_6) g11 ne10 ne7 g2) hZ (hw _ (List.mem_of_getElem? (i := 73) rfl)) (hw _ (List.mem_of_getElem? (i := 2) rfl)) (by decide) (by decide)) q112a q112c (g := (mkF m 117 #[.val (.long q0), .second, .val (.long q1), .second, .val (.int p2), .val (.ref b1), .val (.ref b15), .val (.ref b26), .val (.int (1 : Int32)), .val (.int (1 : Int32)), .unset, .unset, .unset, .unset, .unset] [(.ref b26), (.ref b1)])) rfl (by rw [hml]; rfl) (Steps.refl _) (argsL := [(.ref b26)]) (rest := []) (lenOf pd_h171885 rfl) rfl (by show 2 * 0 + _ ≤ _; exact Nat.le_of_eq rfl) (hb hby at_117) (fun _ _ => ⟨rfl, e94, (by decide : 5 + 0 ≤ _), (by decide : 26 + 0 ≤ _)⟩)
      dsimp only [Pt.U, Pt.locs, Pt.cells, Pt.slots] at X112 l112 y112 z112 st112 hQ112
      subst l112 y112 z112
      have N112q := (show _ ∧ _ from hQ112).1
      have hq112 := (show _ ∧ _ from hQ112).2
      clear hQ112
      have hv112 := hq112.1
      have K112 := hq112.2.1
      have po112_0 := hq112.2.2.1
      have po112_1 := hq112.2.2.2.1
      have po112_2 := hq112.2.2.2.2.1
      have po112_3 := hq112.2.2.2.2.2.1
      have po112_4 := hq112.2.2.2.2.2.2.1
      have po112_5 := hq112.2.2.2.2.2.2.2.1
      have po112_6 := hq112.2.2.2.2.2.2.2.2.1
      have po112_7 := hq112.2.2.2.2.2.2.2.2.2
      clear hq112
      subst hv112
      have z114 : n0 ≤ T112.heap.size := Nat.le_trans z92 K112.1
      have hs115 : h0.size ≤ T112.heap.size := Nat.le_trans hs93 K112.1
      have N112 := Fr.app N94 N112q
      have k117 := (k113.keep K112)
      obtain ⟨cq116, kq116, q116a, q116b, q116c⟩ := isOf hZ rfl po112_5
      obtain ⟨vr116, _, ⟨T116, L116, k116, n116⟩, -, X116, ⟨Lc116, hQ116, l116, y116, z116⟩, st116⟩ := X112.virtualBack hx (y := (⟨"com/example/dispatch_by_catalog/dispatchbycatalog/subscriptions/EventQueue", "peek", "()Lcom/example/dispatch_by_catalog/dispatchbycatalog/subscriptions/Event;"⟩ : MethodName)) (z := (⟨"com/example/dispatch_by_catalog/dispatchbycatalog/subscriptions/EventQueue", "peek", "()Lcom/example/dispatch_by_catalog/dispatchbycatalog/subscriptions/Event;"⟩ : MethodName)) hown (mvT hZ (hw _ (List.mem_of_getElem? (i := 45) rfl))) (mvT hZ (hw _ (List.mem_of_getElem? (i := 46) rfl))) (notFace_of_selects (args := #[]) (mvT hZ (hw _ (List.mem_of_getElem? (i := 48) rfl)))) (mvT hZ (hw _ (List.mem_of_getElem? (i := 48) rfl))) (mvT hZ (hw _ (List.mem_of_getElem? (i := 47) rfl))) (by decide) (backOf (W := 0) (rmqp16 l Z a0 hw [] b1 x1_0_6 x1_1_6 (.ref b15) .null .null .null .null .null .null .null .null .null .null .null .null .null .null .null b26 k1_2_6 T112.heap n0 z114 po112_6 po112_0 po112_1 po112_2 po112_4 k117) hZ (hw _ (List.mem_of_getElem? (i := 49) rfl)) (hw _ (List.mem_of_getElem? (i := 2) rfl)) (by decide) (by decide)) q116a q116c (g := (mkF m 160 #[.val (.long q0), .second, .val (.long q1), .second, .val (.int p2), .val (.ref b1), .val (.ref b15), .val (.ref b26), .val (.int (1 : Int32)), .val (.int (1 : Int32)), .val (.ref b26), .val (.ref b15), .unset, .unset, .unset] [(.ref b1)])) rfl (by rw [hml]; rfl) (Steps.refl _) (argsL := []) (rest := []) (lenOf pd_h748047 rfl) rfl (by show 2 * 0 + _ ≤ _; exact Nat.le_of_eq rfl) (hb hby at_160) (fun _ _ => ⟨rfl, rfl, (by decide : 5 + 0 ≤ _), (by decide : 26 + 0 ≤ _)⟩)
      dsimp only [Pt.U, Pt.locs, Pt.cells, Pt.slots] at X116 l116 y116 z116 st116 hQ116
      subst l116 y116 z116
      have N116q := (show _ ∧ _ ∧ _ from hQ116).1
      have hv116 := (show _ ∧ _ ∧ _ from hQ116).2.1
      have e116 := (show _ ∧ _ ∧ _ from hQ116).2.2
      clear hQ116
      subst hv116
      have N116 := Fr.app N112 N116q
      obtain ⟨cq118, kq118, q118a, q118b, q118c⟩ := isOf hZ e116 po112_5
      obtain ⟨vr118, _, ⟨T118, L118, k118, n118⟩, -, X118, ⟨Lc118, hQ118, l118, y118, z118⟩, st118⟩ := X116.virtualBack hx (y := (⟨"com/example/dispatch_by_catalog/dispatchbycatalog/subscriptions/EventQueue", "peek", "()Lcom/example/dispatch_by_catalog/dispatchbycatalog/subscriptions/Event;"⟩ : MethodName)) (z := (⟨"com/example/dispatch_by_catalog/dispatchbycatalog/subscriptions/EventQueue", "peek", "()Lcom/example/dispatch_by_catalog/dispatchbycatalog/subscriptions/Event;"⟩ : MethodName)) hown (mvT hZ (hw _ (List.mem_of_getElem? (i := 45) rfl))) (mvT hZ (hw _ (List.mem_of_getElem? (i := 46) rfl))) (notFace_of_selects (args := #[]) (mvT hZ (hw _ (List.mem_of_getElem? (i := 48) rfl)))) (mvT hZ (hw _ (List.mem_of_getElem? (i := 48) rfl))) (mvT hZ (hw _ (List.mem_of_getElem? (i := 47) rfl))) (by decide) (backOf (W := 0) (rmqp16 l Z a0 hw [] b1 x1_0_6 x1_1_6 (.ref b15) .null .null .null .null .null .null .null .null .null .null .null .null .null .null .null b26 k1_2_6 T112.heap n0 z114 po112_6 po112_0 po112_1 po112_2 po112_4 k117) hZ (hw _ (List.mem_of_getElem? (i := 49) rfl)) (hw _ (List.mem_of_getElem? (i := 2) rfl)) (by decide) (by decide)) q118a q118c (g := (mkF m 167 #[.val (.long q0), .second, .val (.long q1), .second, .val (.int p2), .val (.ref b1), .val (.ref b15), .val (.ref b26), .val (.int (1 : Int32)), .val (.int (1 : Int32)), .val (.ref b26), .val (.ref b15), .val (.ref b26), .unset, .unset] [(.ref b1)])) rfl (by rw [hml]; rfl) (Steps.refl _) (argsL := []) (rest := []) (lenOf pd_h748047 rfl) rfl (by show 2 * 0 + _ ≤ _; exact Nat.le_of_eq rfl) (hb hby at_167) (fun _ _ => ⟨rfl, e116, (by decide : 5 + 0 ≤ _), (by decide : 26 + 0 ≤ _)⟩)
      dsimp only [Pt.U, Pt.locs, Pt.cells, Pt.slots] at X118 l118 y118 z118 st118 hQ118
      subst l118 y118 z118
      have N118q := (show _ ∧ _ ∧ _ from hQ118).1
      have hv118 := (show _ ∧ _ ∧ _ from hQ118).2.1
      have e118 := (show _ ∧ _ ∧ _ from hQ118).2.2
      clear hQ118
      subst hv118
      have N118 := Fr.app N116 N118q
      have pre119 : ∀ t, Steps p.tables e below (T118.setTop (mkF m 202 #[.val (.long q0), .second, .val (.long q1), .second, .val (.int p2), .val (.ref b1), .val (.ref b15), .val (.ref b26), .val (.int (1 : Int32)), .val (.int (1 : Int32)), .val (.ref b26), .val (.ref b15), .val (.ref b26), .val (.ref b26), .unset] [(.int (p2 &&& (4 : Int32)))])) t → Steps p.tables e below (s₁.setTop (entryFrame m #[(.long q0), (.long q1), (.int p2)] maxLocals)) t := by
        intro t k
        refine pre96 t ?_
        show Steps p.tables e below (T94.setTop (mkF m 98 #[.val (.long q0), .second, .val (.long q1), .second, .val (.int p2), .val (.ref b1), .val (.ref b15), .val (.ref b26), .val (.int (1 : Int32)), .unset, .unset, .unset, .unset, .unset, .unset] [(.int (p2 &&& (2 : Int32)))])) _
        refine XS.ifNo X94.here hx rfl (hb hby at_98) rfl (XT.i0_eq_f c97) ?_
        show Steps p.tables e below (T94.setTop (mkF m 101 #[.val (.long q0), .second, .val (.long q1), .second, .val (.int p2), .val (.ref b1), .val (.ref b15), .val (.ref b26), .val (.int (1 : Int32)), .unset, .unset, .unset, .unset, .unset, .unset] [])) _
        refine XT.iconstV X94.here hx rfl (1 : Int32) (hb hby at_101) (by decide) ?_
        show Steps p.tables e below (T94.setTop (mkF m 102 #[.val (.long q0), .second, .val (.long q1), .second, .val (.int p2), .val (.ref b1), .val (.ref b15), .val (.ref b26), .val (.int (1 : Int32)), .unset, .unset, .unset, .unset, .unset, .unset] [(.int (1 : Int32))])) _
        refine XS.goto X94.here hx rfl (pc0 := 102) (pc' := 106) rfl (hb hby at_102) (by decide) (by decide) ?_
        show Steps p.tables e below (T94.setTop (mkF m 106 #[.val (.long q0), .second, .val (.long q1), .second, .val (.int p2), .val (.ref b1), .val (.ref b15), .val (.ref b26), .val (.int (1 : Int32)), .unset, .unset, .unset, .unset, .unset, .unset] [(.int (1 : Int32))])) _
        refine XS.istore X94.here hx rfl (hb hby at_106) rfl (l' := #[.val (.long q0), .second, .val (.long q1), .second, .val (.int p2), .val (.ref b1), .val (.ref b15), .val (.ref b26), .val (.int (1 : Int32)), .val (.int (1 : Int32)), .unset, .unset, .unset, .unset, .unset]) rfl ?_
        show Steps p.tables e below (T94.setTop (mkF m 108 #[.val (.long q0), .second, .val (.long q1), .second, .val (.int p2), .val (.ref b1), .val (.ref b15), .val (.ref b26), .val (.int (1 : Int32)), .val (.int (1 : Int32)), .unset, .unset, .unset, .unset, .unset] [])) _
        refine XS.iload X94.here hx rfl (hb hby at_108) rfl ?_
        show Steps p.tables e below (T94.setTop (mkF m 110 #[.val (.long q0), .second, .val (.long q1), .second, .val (.int p2), .val (.ref b1), .val (.ref b15), .val (.ref b26), .val (.int (1 : Int32)), .val (.int (1 : Int32)), .unset, .unset, .unset, .unset, .unset] [(.int (1 : Int32))])) _
        refine XS.ifNo X94.here hx rfl (hb hby at_110) rfl (XT.i0_eq_f (by decide)) ?_
        show Steps p.tables e below (T94.setTop (mkF m 113 #[.val (.long q0), .second, .val (.long q1), .second, .val (.int p2), .val (.ref b1), .val (.ref b15), .val (.ref b26), .val (.int (1 : Int32)), .val (.int (1 : Int32)), .unset, .unset, .unset, .unset, .unset] [])) _
        refine XS.aload X94.here hx rfl (hb hby at_113) rfl rfl ?_
        show Steps p.tables e below (T94.setTop (mkF m 115 #[.val (.long q0), .second, .val (.long q1), .second, .val (.int p2), .val (.ref b1), .val (.ref b15), .val (.ref b26), .val (.int (1 : Int32)), .val (.int (1 : Int32)), .unset, .unset, .unset, .unset, .unset] [(.ref b1)])) _
        refine XS.aload X94.here hx rfl (hb hby at_115) rfl rfl ?_
        show Steps p.tables e below (T94.setTop (mkF m 117 #[.val (.long q0), .second, .val (.long q1), .second, .val (.int p2), .val (.ref b1), .val (.ref b15), .val (.ref b26), .val (.int (1 : Int32)), .val (.int (1 : Int32)), .unset, .unset, .unset, .unset, .unset] [(.ref b26), (.ref b1)])) _
        refine st112.trans ?_
        show Steps p.tables e below (T112.setTop (mkF m 120 #[.val (.long q0), .second, .val (.long q1), .second, .val (.int p2), .val (.ref b1), .val (.ref b15), .val (.ref b26), .val (.int (1 : Int32)), .val (.int (1 : Int32)), .unset, .unset, .unset, .unset, .unset] [])) _
        refine XS.goto X112.here hx rfl (pc0 := 120) (pc' := 130) rfl (hb hby at_120) (by decide) (by decide) ?_
        show Steps p.tables e below (T112.setTop (mkF m 130 #[.val (.long q0), .second, .val (.long q1), .second, .val (.int p2), .val (.ref b1), .val (.ref b15), .val (.ref b26), .val (.int (1 : Int32)), .val (.int (1 : Int32)), .unset, .unset, .unset, .unset, .unset] [])) _
        refine XS.iload X112.here hx rfl (hb hby at_130) rfl ?_
        show Steps p.tables e below (T112.setTop (mkF m 132 #[.val (.long q0), .second, .val (.long q1), .second, .val (.int p2), .val (.ref b1), .val (.ref b15), .val (.ref b26), .val (.int (1 : Int32)), .val (.int (1 : Int32)), .unset, .unset, .unset, .unset, .unset] [(.int (1 : Int32))])) _
        refine XS.ifNo X112.here hx rfl (hb hby at_132) rfl (XT.i0_eq_f (by decide)) ?_
        show Steps p.tables e below (T112.setTop (mkF m 135 #[.val (.long q0), .second, .val (.long q1), .second, .val (.int p2), .val (.ref b1), .val (.ref b15), .val (.ref b26), .val (.int (1 : Int32)), .val (.int (1 : Int32)), .unset, .unset, .unset, .unset, .unset] [])) _
        refine XS.aload X112.here hx rfl (hb hby at_135) rfl rfl ?_
        show Steps p.tables e below (T112.setTop (mkF m 137 #[.val (.long q0), .second, .val (.long q1), .second, .val (.int p2), .val (.ref b1), .val (.ref b15), .val (.ref b26), .val (.int (1 : Int32)), .val (.int (1 : Int32)), .unset, .unset, .unset, .unset, .unset] [(.ref b26)])) _
        refine XS.goto X112.here hx rfl (pc0 := 137) (pc' := 142) rfl (hb hby at_137) (by decide) (by decide) ?_
        show Steps p.tables e below (T112.setTop (mkF m 142 #[.val (.long q0), .second, .val (.long q1), .second, .val (.int p2), .val (.ref b1), .val (.ref b15), .val (.ref b26), .val (.int (1 : Int32)), .val (.int (1 : Int32)), .unset, .unset, .unset, .unset, .unset] [(.ref b26)])) _
        refine XS.astore X112.here hx rfl (hb hby at_142) rfl rfl (l' := #[.val (.long q0), .second, .val (.long q1), .second, .val (.int p2), .val (.ref b1), .val (.ref b15), .val (.ref b26), .val (.int (1 : Int32)), .val (.int (1 : Int32)), .val (.ref b26), .unset, .unset, .unset, .unset]) rfl ?_
        show Steps p.tables e below (T112.setTop (mkF m 144 #[.val (.long q0), .second, .val (.long q1), .second, .val (.int p2), .val (.ref b1), .val (.ref b15), .val (.ref b26), .val (.int (1 : Int32)), .val (.int (1 : Int32)), .val (.ref b26), .unset, .unset, .unset, .unset] [])) _
        refine XS.iload X112.here hx rfl (hb hby at_144) rfl ?_
        show Steps p.tables e below (T112.setTop (mkF m 146 #[.val (.long q0), .second, .val (.long q1), .second, .val (.int p2), .val (.ref b1), .val (.ref b15), .val (.ref b26), .val (.int (1 : Int32)), .val (.int (1 : Int32)), .val (.ref b26), .unset, .unset, .unset, .unset] [(.int (1 : Int32))])) _
        refine XS.ifNo X112.here hx rfl (hb hby at_146) rfl (XT.i0_eq_f (by decide)) ?_
        show Steps p.tables e below (T112.setTop (mkF m 149 #[.val (.long q0), .second, .val (.long q1), .second, .val (.int p2), .val (.ref b1), .val (.ref b15), .val (.ref b26), .val (.int (1 : Int32)), .val (.int (1 : Int32)), .val (.ref b26), .unset, .unset, .unset, .unset] [])) _
        refine XS.aload X112.here hx rfl (hb hby at_149) rfl rfl ?_
        show Steps p.tables e below (T112.setTop (mkF m 151 #[.val (.long q0), .second, .val (.long q1), .second, .val (.int p2), .val (.ref b1), .val (.ref b15), .val (.ref b26), .val (.int (1 : Int32)), .val (.int (1 : Int32)), .val (.ref b26), .unset, .unset, .unset, .unset] [(.ref b15)])) _
        refine XS.goto X112.here hx rfl (pc0 := 151) (pc' := 156) rfl (hb hby at_151) (by decide) (by decide) ?_
        show Steps p.tables e below (T112.setTop (mkF m 156 #[.val (.long q0), .second, .val (.long q1), .second, .val (.int p2), .val (.ref b1), .val (.ref b15), .val (.ref b26), .val (.int (1 : Int32)), .val (.int (1 : Int32)), .val (.ref b26), .unset, .unset, .unset, .unset] [(.ref b15)])) _
        refine XS.astore X112.here hx rfl (hb hby at_156) rfl rfl (l' := #[.val (.long q0), .second, .val (.long q1), .second, .val (.int p2), .val (.ref b1), .val (.ref b15), .val (.ref b26), .val (.int (1 : Int32)), .val (.int (1 : Int32)), .val (.ref b26), .val (.ref b15), .unset, .unset, .unset]) rfl ?_
        show Steps p.tables e below (T112.setTop (mkF m 158 #[.val (.long q0), .second, .val (.long q1), .second, .val (.int p2), .val (.ref b1), .val (.ref b15), .val (.ref b26), .val (.int (1 : Int32)), .val (.int (1 : Int32)), .val (.ref b26), .val (.ref b15), .unset, .unset, .unset] [])) _
        refine XS.aload X112.here hx rfl (hb hby at_158) rfl rfl ?_
        show Steps p.tables e below (T112.setTop (mkF m 160 #[.val (.long q0), .second, .val (.long q1), .second, .val (.int p2), .val (.ref b1), .val (.ref b15), .val (.ref b26), .val (.int (1 : Int32)), .val (.int (1 : Int32)), .val (.ref b26), .val (.ref b15), .unset, .unset, .unset] [(.ref b1)])) _
        refine st116.trans ?_
        show Steps p.tables e below (T116.setTop (mkF m 163 #[.val (.long q0), .second, .val (.long q1), .second, .val (.int p2), .val (.ref b1), .val (.ref b15), .val (.ref b26), .val (.int (1 : Int32)), .val (.int (1 : Int32)), .val (.ref b26), .val (.ref b15), .unset, .unset, .unset] [(.ref b26)])) _
        refine XS.astore X116.here hx rfl (hb hby at_163) rfl rfl (l' := #[.val (.long q0), .second, .val (.long q1), .second, .val (.int p2), .val (.ref b1), .val (.ref b15), .val (.ref b26), .val (.int (1 : Int32)), .val (.int (1 : Int32)), .val (.ref b26), .val (.ref b15), .val (.ref b26), .unset, .unset]) rfl ?_
        show Steps p.tables e below (T116.setTop (mkF m 165 #[.val (.long q0), .second, .val (.long q1), .second, .val (.int p2), .val (.ref b1), .val (.ref b15), .val (.ref b26), .val (.int (1 : Int32)), .val (.int (1 : Int32)), .val (.ref b26), .val (.ref b15), .val (.ref b26), .unset, .unset] [])) _
        refine XS.aload X116.here hx rfl (hb hby at_165) rfl rfl ?_
        show Steps p.tables e below (T116.setTop (mkF m 167 #[.val (.long q0), .second, .val (.long q1), .second, .val (.int p2), .val (.ref b1), .val (.ref b15), .val (.ref b26), .val (.int (1 : Int32)), .val (.int (1 : Int32)), .val (.ref b26), .val (.ref b15), .val (.ref b26), .unset, .unset] [(.ref b1)])) _
        refine st118.trans ?_
        show Steps p.tables e below (T118.setTop (mkF m 170 #[.val (.long q0), .second, .val (.long q1), .second, .val (.int p2), .val (.ref b1), .val (.ref b15), .val (.ref b26), .val (.int (1 : Int32)), .val (.int (1 : Int32)), .val (.ref b26), .val (.ref b15), .val (.ref b26), .unset, .unset] [(.ref b26)])) _
        refine XS.astore X118.here hx rfl (hb hby at_170) rfl rfl (l' := #[.val (.long q0), .second, .val (.long q1), .second, .val (.int p2), .val (.ref b1), .val (.ref b15), .val (.ref b26), .val (.int (1 : Int32)), .val (.int (1 : Int32)), .val (.ref b26), .val (.ref b15), .val (.ref b26), .val (.ref b26), .unset]) rfl ?_
        show Steps p.tables e below (T118.setTop (mkF m 172 #[.val (.long q0), .second, .val (.long q1), .second, .val (.int p2), .val (.ref b1), .val (.ref b15), .val (.ref b26), .val (.int (1 : Int32)), .val (.int (1 : Int32)), .val (.ref b26), .val (.ref b15), .val (.ref b26), .val (.ref b26), .unset] [])) _
        refine XS.iload X118.here hx rfl (hb hby at_172) rfl ?_
        show Steps p.tables e below (T118.setTop (mkF m 174 #[.val (.long q0), .second, .val (.long q1), .second, .val (.int p2), .val (.ref b1), .val (.ref b15), .val (.ref b26), .val (.int (1 : Int32)), .val (.int (1 : Int32)), .val (.ref b26), .val (.ref b15), .val (.ref b26), .val (.ref b26), .unset] [(.int (1 : Int32))])) _
        refine XS.ifNo X118.here hx rfl (hb hby at_174) rfl (XT.i0_eq_f (by decide)) ?_
        show Steps p.tables e below (T118.setTop (mkF m 177 #[.val (.long q0), .second, .val (.long q1), .second, .val (.int p2), .val (.ref b1), .val (.ref b15), .val (.ref b26), .val (.int (1 : Int32)), .val (.int (1 : Int32)), .val (.ref b26), .val (.ref b15), .val (.ref b26), .val (.ref b26), .unset] [])) _
        refine XS.aload X118.here hx rfl (hb hby at_177) rfl rfl ?_
        show Steps p.tables e below (T118.setTop (mkF m 179 #[.val (.long q0), .second, .val (.long q1), .second, .val (.int p2), .val (.ref b1), .val (.ref b15), .val (.ref b26), .val (.int (1 : Int32)), .val (.int (1 : Int32)), .val (.ref b26), .val (.ref b15), .val (.ref b26), .val (.ref b26), .unset] [(.ref b26)])) _
        refine XS.aload X118.here hx rfl (hb hby at_179) rfl rfl ?_
        show Steps p.tables e below (T118.setTop (mkF m 181 #[.val (.long q0), .second, .val (.long q1), .second, .val (.int p2), .val (.ref b1), .val (.ref b15), .val (.ref b26), .val (.int (1 : Int32)), .val (.int (1 : Int32)), .val (.ref b26), .val (.ref b15), .val (.ref b26), .val (.ref b26), .unset] [(.ref b26), (.ref b26)])) _
        refine XT.acmpNo X118.here hx rfl (hb hby at_181) rfl rfl rfl (XT.aa_ne_f rfl) ?_
        show Steps p.tables e below (T118.setTop (mkF m 184 #[.val (.long q0), .second, .val (.long q1), .second, .val (.int p2), .val (.ref b1), .val (.ref b15), .val (.ref b26), .val (.int (1 : Int32)), .val (.int (1 : Int32)), .val (.ref b26), .val (.ref b15), .val (.ref b26), .val (.ref b26), .unset] [])) _
        refine XS.aload X118.here hx rfl (hb hby at_184) rfl rfl ?_
        show Steps p.tables e below (T118.setTop (mkF m 186 #[.val (.long q0), .second, .val (.long q1), .second, .val (.int p2), .val (.ref b1), .val (.ref b15), .val (.ref b26), .val (.int (1 : Int32)), .val (.int (1 : Int32)), .val (.ref b26), .val (.ref b15), .val (.ref b26), .val (.ref b26), .unset] [(.ref b26)])) _
        refine XS.aload X118.here hx rfl (hb hby at_186) rfl rfl ?_
        show Steps p.tables e below (T118.setTop (mkF m 188 #[.val (.long q0), .second, .val (.long q1), .second, .val (.int p2), .val (.ref b1), .val (.ref b15), .val (.ref b26), .val (.int (1 : Int32)), .val (.int (1 : Int32)), .val (.ref b26), .val (.ref b15), .val (.ref b26), .val (.ref b26), .unset] [(.ref b26), (.ref b26)])) _
        refine XT.acmpNo X118.here hx rfl (hb hby at_188) rfl rfl rfl (XT.aa_ne_f rfl) ?_
        show Steps p.tables e below (T118.setTop (mkF m 191 #[.val (.long q0), .second, .val (.long q1), .second, .val (.int p2), .val (.ref b1), .val (.ref b15), .val (.ref b26), .val (.int (1 : Int32)), .val (.int (1 : Int32)), .val (.ref b26), .val (.ref b15), .val (.ref b26), .val (.ref b26), .unset] [])) _
        refine XT.iconstV X118.here hx rfl (1 : Int32) (hb hby at_191) (by decide) ?_
        show Steps p.tables e below (T118.setTop (mkF m 192 #[.val (.long q0), .second, .val (.long q1), .second, .val (.int p2), .val (.ref b1), .val (.ref b15), .val (.ref b26), .val (.int (1 : Int32)), .val (.int (1 : Int32)), .val (.ref b26), .val (.ref b15), .val (.ref b26), .val (.ref b26), .unset] [(.int (1 : Int32))])) _
        refine XS.goto X118.here hx rfl (pc0 := 192) (pc' := 196) rfl (hb hby at_192) (by decide) (by decide) ?_
        show Steps p.tables e below (T118.setTop (mkF m 196 #[.val (.long q0), .second, .val (.long q1), .second, .val (.int p2), .val (.ref b1), .val (.ref b15), .val (.ref b26), .val (.int (1 : Int32)), .val (.int (1 : Int32)), .val (.ref b26), .val (.ref b15), .val (.ref b26), .val (.ref b26), .unset] [(.int (1 : Int32))])) _
        refine XS.istore X118.here hx rfl (hb hby at_196) rfl (l' := #[.val (.long q0), .second, .val (.long q1), .second, .val (.int p2), .val (.ref b1), .val (.ref b15), .val (.ref b26), .val (.int (1 : Int32)), .val (.int (1 : Int32)), .val (.ref b26), .val (.ref b15), .val (.ref b26), .val (.ref b26), .unset]) rfl ?_
        show Steps p.tables e below (T118.setTop (mkF m 198 #[.val (.long q0), .second, .val (.long q1), .second, .val (.int p2), .val (.ref b1), .val (.ref b15), .val (.ref b26), .val (.int (1 : Int32)), .val (.int (1 : Int32)), .val (.ref b26), .val (.ref b15), .val (.ref b26), .val (.ref b26), .unset] [])) _
        refine XS.iload X118.here hx rfl (hb hby at_198) rfl ?_
        show Steps p.tables e below (T118.setTop (mkF m 200 #[.val (.long q0), .second, .val (.long q1), .second, .val (.int p2), .val (.ref b1), .val (.ref b15), .val (.ref b26), .val (.int (1 : Int32)), .val (.int (1 : Int32)), .val (.ref b26), .val (.ref b15), .val (.ref b26), .val (.ref b26), .unset] [(.int p2)])) _
        refine XT.iconstV X118.here hx rfl (4 : Int32) (hb hby at_200) (by decide) ?_
        show Steps p.tables e below (T118.setTop (mkF m 201 #[.val (.long q0), .second, .val (.long q1), .second, .val (.int p2), .val (.ref b1), .val (.ref b15), .val (.ref b26), .val (.int (1 : Int32)), .val (.int (1 : Int32)), .val (.ref b26), .val (.ref b15), .val (.ref b26), .val (.ref b26), .unset] [(.int (4 : Int32)), (.int p2)])) _
        refine XS.iand X118.here hx rfl (hb hby at_201) rfl ?_
        exact k
      clear pre96 st112 st116 st118
      by_cases c120 : (v0_7 q0 q1 p2) = (0 : Int32)
      · skip
        obtain ⟨fs, hr, hrun, hended, hW, hsame⟩ := X118.leave (v := some (.int (1 : Int32))) (fun h => by rw [Bd.returns] at h; cases h) hlk
        refine ⟨_, _, pre119 _ ?_, hrun, hended, _, _, rfl, ?_, ⟨_, rfl⟩, hW, hsame.mono (by decide) (by decide)⟩
        · skip
          show Steps p.tables e below (T118.setTop (mkF m 202 #[.val (.long q0), .second, .val (.long q1), .second, .val (.int p2), .val (.ref b1), .val (.ref b15), .val (.ref b26), .val (.int (1 : Int32)), .val (.int (1 : Int32)), .val (.ref b26), .val (.ref b15), .val (.ref b26), .val (.ref b26), .unset] [(.int (p2 &&& (4 : Int32)))])) _
          refine XS.ifYes X118.here hx rfl (pc0 := 202) (pc' := 241) rfl (hb hby at_202) rfl (XT.i0_eq_t c120) (by decide) (by decide) ?_
          show Steps p.tables e below (T118.setTop (mkF m 241 #[.val (.long q0), .second, .val (.long q1), .second, .val (.int p2), .val (.ref b1), .val (.ref b15), .val (.ref b26), .val (.int (1 : Int32)), .val (.int (1 : Int32)), .val (.ref b26), .val (.ref b15), .val (.ref b26), .val (.ref b26), .unset] [])) _
          refine XS.iload X118.here hx rfl (hb hby at_241) rfl ?_
          show Steps p.tables e below (T118.setTop (mkF m 243 #[.val (.long q0), .second, .val (.long q1), .second, .val (.int p2), .val (.ref b1), .val (.ref b15), .val (.ref b26), .val (.int (1 : Int32)), .val (.int (1 : Int32)), .val (.ref b26), .val (.ref b15), .val (.ref b26), .val (.ref b26), .unset] [(.int (1 : Int32))])) _
          exact retN X118 hx (t := .boolean) Bd.returns (by simp) (hb hby at_243) hr
        · skip
          show Q0 Z q0 q1 p2 h0 n0 _ T118.heap _
          rw [e118]
          exact ⟨rfl, N118⟩
      · skip
        obtain ⟨cq121, kq121, q121a, q121b, q121c⟩ := isOf hZ e118 po112_5
        obtain ⟨vr121, _, ⟨T121, L121, k121, n121⟩, -, X121, ⟨Lc121, hQ121, l121, y121, z121⟩, st121⟩ := X118.virtualBack hx (y := (⟨"com/example/dispatch_by_catalog/dispatchbycatalog/subscriptions/EventQueue", "poll", "()Lcom/example/dispatch_by_catalog/dispatchbycatalog/subscriptions/Event;"⟩ : MethodName)) (z := (⟨"com/example/dispatch_by_catalog/dispatchbycatalog/subscriptions/EventQueue", "poll", "()Lcom/example/dispatch_by_catalog/dispatchbycatalog/subscriptions/Event;"⟩ : MethodName)) hown (mvT hZ (hw _ (List.mem_of_getElem? (i := 116) rfl))) (mvT hZ (hw _ (List.mem_of_getElem? (i := 117) rfl))) (notFace_of_selects (args := #[]) (mvT hZ (hw _ (List.mem_of_getElem? (i := 119) rfl)))) (mvT hZ (hw _ (List.mem_of_getElem? (i := 119) rfl))) (mvT hZ (hw _ (List.mem_of_getElem? (i := 118) rfl))) (by decide) (backOf (W := 0) (rmql16_1 l Z a0 hw [] b1 x1_0_6 (((0 : Int64) + f14) + f14) x1_1_6 (.ref b15) .null .null .null .null .null .null .null .null .null .null .null .null .null .null .null b26 k1_2_6 T112.heap n0 z114 po112_5 po112_6 po112_7 po112_0 po112_1 po112_2 po112_3 po112_4 k117 g11 nex1_0_x1_1_6 g8 ne7 ne10 g2) hZ (hw _ (List.mem_of_getElem? (i := 120) rfl)) (hw _ (List.mem_of_getElem? (i := 2) rfl)) (by decide) (by decide)) q121a q121c (g := (mkF m 207 #[.val (.long q0), .second, .val (.long q1), .second, .val (.int p2), .val (.ref b1), .val (.ref b15), .val (.ref b26), .val (.int (1 : Int32)), .val (.int (1 : Int32)), .val (.ref b26), .val (.ref b15), .val (.ref b26), .val (.ref b26), .unset] [(.ref b1)])) rfl (by rw [hml]; rfl) (Steps.refl _) (argsL := []) (rest := []) (lenOf pd_h748047 rfl) rfl (by show 2 * 0 + _ ≤ _; exact Nat.le_of_eq rfl) (hb hby at_207) (fun _ _ => ⟨rfl, e118, (by decide : 5 + 0 ≤ _), (by decide : 26 + 0 ≤ _)⟩)
        dsimp only [Pt.U, Pt.locs, Pt.cells, Pt.slots] at X121 l121 y121 z121 st121 hQ121
        subst l121 y121 z121
        have N121q := (show _ ∧ _ from hQ121).1
        have hq121 := (show _ ∧ _ from hQ121).2
        clear hQ121
        have hv121 := hq121.1
        have K121 := hq121.2.1
        have po121_0 := hq121.2.2.1
        have po121_1 := hq121.2.2.2.1
        have po121_2 := hq121.2.2.2.2.1
        have po121_3 := hq121.2.2.2.2.2.1
        have po121_4 := hq121.2.2.2.2.2.2.1
        have po121_5 := hq121.2.2.2.2.2.2.2.1
        have po121_6 := hq121.2.2.2.2.2.2.2.2.1
        have po121_7 := hq121.2.2.2.2.2.2.2.2.2
        clear hq121
        subst hv121
        have z122 : n0 ≤ T121.heap.size := Nat.le_trans z114 K121.1
        have hs123 : h0.size ≤ T121.heap.size := Nat.le_trans hs115 K121.1
        have N121 := Fr.app N118 N121q
        have k125 := ((k95.keep K112).keep K121)
        obtain ⟨cq124, kq124, q124a, q124b, q124c⟩ := isOf hZ rfl po121_5
        obtain ⟨vr124, _, ⟨T124, L124, k124, n124⟩, -, X124, ⟨Lc124, hQ124, l124, y124, z124⟩, st124⟩ := X121.virtualBack hx (y := (⟨"com/example/dispatch_by_catalog/dispatchbycatalog/subscriptions/EventQueue", "peek", "()Lcom/example/dispatch_by_catalog/dispatchbycatalog/subscriptions/Event;"⟩ : MethodName)) (z := (⟨"com/example/dispatch_by_catalog/dispatchbycatalog/subscriptions/EventQueue", "peek", "()Lcom/example/dispatch_by_catalog/dispatchbycatalog/subscriptions/Event;"⟩ : MethodName)) hown (mvT hZ (hw _ (List.mem_of_getElem? (i := 45) rfl))) (mvT hZ (hw _ (List.mem_of_getElem? (i := 46) rfl))) (notFace_of_selects (args := #[]) (mvT hZ (hw _ (List.mem_of_getElem? (i := 48) rfl)))) (mvT hZ (hw _ (List.mem_of_getElem? (i := 48) rfl))) (mvT hZ (hw _ (List.mem_of_getElem? (i := 47) rfl))) (by decide) (backOf (W := 0) (rmqp0 l Z a0 hw [] b1 x1_0_6 x1_1_6 b15 .null .null .null .null .null .null .null .null .null .null .null .null .null .null .null .null k1_2_6 T121.heap n0 z122 po121_6 po121_1 po121_2 po121_3 po121_0 k125) hZ (hw _ (List.mem_of_getElem? (i := 49) rfl)) (hw _ (List.mem_of_getElem? (i := 2) rfl)) (by decide) (by decide)) q124a q124c (g := (mkF m 226 #[.val (.long q0), .second, .val (.long q1), .second, .val (.int p2), .val (.ref b1), .val (.ref b15), .val (.ref b26), .val (.int (1 : Int32)), .val (.int (1 : Int32)), .val (.ref b26), .val (.ref b15), .val (.ref b26), .val (.ref b26), .val (.ref b26)] [(.ref b1)])) rfl (by rw [hml]; rfl) (Steps.refl _) (argsL := []) (rest := []) (lenOf pd_h748047 rfl) rfl (by show 2 * 0 + _ ≤ _; exact Nat.le_of_eq rfl) (hb hby at_226) (fun _ _ => ⟨rfl, rfl, (by decide : 5 + 0 ≤ _), (by decide : 26 + 0 ≤ _)⟩)
        dsimp only [Pt.U, Pt.locs, Pt.cells, Pt.slots] at X124 l124 y124 z124 st124 hQ124
        subst l124 y124 z124
        have N124q := (show _ ∧ _ ∧ _ from hQ124).1
        have hv124 := (show _ ∧ _ ∧ _ from hQ124).2.1
        have e124 := (show _ ∧ _ ∧ _ from hQ124).2.2
        clear hQ124
        subst hv124
        have N124 := Fr.app N121 N124q
        obtain ⟨fs, hr, hrun, hended, hW, hsame⟩ := X124.leave (v := some (.int (1 : Int32))) (fun h => by rw [Bd.returns] at h; cases h) hlk
        refine ⟨_, _, pre119 _ ?_, hrun, hended, _, _, rfl, ?_, ⟨_, rfl⟩, hW, hsame.mono (by decide) (by decide)⟩
        · skip
          show Steps p.tables e below (T118.setTop (mkF m 202 #[.val (.long q0), .second, .val (.long q1), .second, .val (.int p2), .val (.ref b1), .val (.ref b15), .val (.ref b26), .val (.int (1 : Int32)), .val (.int (1 : Int32)), .val (.ref b26), .val (.ref b15), .val (.ref b26), .val (.ref b26), .unset] [(.int (p2 &&& (4 : Int32)))])) _
          refine XS.ifNo X118.here hx rfl (hb hby at_202) rfl (XT.i0_eq_f c120) ?_
          show Steps p.tables e below (T118.setTop (mkF m 205 #[.val (.long q0), .second, .val (.long q1), .second, .val (.int p2), .val (.ref b1), .val (.ref b15), .val (.ref b26), .val (.int (1 : Int32)), .val (.int (1 : Int32)), .val (.ref b26), .val (.ref b15), .val (.ref b26), .val (.ref b26), .unset] [])) _
          refine XS.aload X118.here hx rfl (hb hby at_205) rfl rfl ?_
          show Steps p.tables e below (T118.setTop (mkF m 207 #[.val (.long q0), .second, .val (.long q1), .second, .val (.int p2), .val (.ref b1), .val (.ref b15), .val (.ref b26), .val (.int (1 : Int32)), .val (.int (1 : Int32)), .val (.ref b26), .val (.ref b15), .val (.ref b26), .val (.ref b26), .unset] [(.ref b1)])) _
          refine st121.trans ?_
          show Steps p.tables e below (T121.setTop (mkF m 210 #[.val (.long q0), .second, .val (.long q1), .second, .val (.int p2), .val (.ref b1), .val (.ref b15), .val (.ref b26), .val (.int (1 : Int32)), .val (.int (1 : Int32)), .val (.ref b26), .val (.ref b15), .val (.ref b26), .val (.ref b26), .unset] [(.ref b26)])) _
          refine XS.astore X121.here hx rfl (hb hby at_210) rfl rfl (l' := #[.val (.long q0), .second, .val (.long q1), .second, .val (.int p2), .val (.ref b1), .val (.ref b15), .val (.ref b26), .val (.int (1 : Int32)), .val (.int (1 : Int32)), .val (.ref b26), .val (.ref b15), .val (.ref b26), .val (.ref b26), .val (.ref b26)]) rfl ?_
          show Steps p.tables e below (T121.setTop (mkF m 212 #[.val (.long q0), .second, .val (.long q1), .second, .val (.int p2), .val (.ref b1), .val (.ref b15), .val (.ref b26), .val (.int (1 : Int32)), .val (.int (1 : Int32)), .val (.ref b26), .val (.ref b15), .val (.ref b26), .val (.ref b26), .val (.ref b26)] [])) _
          refine XS.iload X121.here hx rfl (hb hby at_212) rfl ?_
          show Steps p.tables e below (T121.setTop (mkF m 214 #[.val (.long q0), .second, .val (.long q1), .second, .val (.int p2), .val (.ref b1), .val (.ref b15), .val (.ref b26), .val (.int (1 : Int32)), .val (.int (1 : Int32)), .val (.ref b26), .val (.ref b15), .val (.ref b26), .val (.ref b26), .val (.ref b26)] [(.int (1 : Int32))])) _
          refine XS.ifNo X121.here hx rfl (hb hby at_214) rfl (XT.i0_eq_f (by decide)) ?_
          show Steps p.tables e below (T121.setTop (mkF m 217 #[.val (.long q0), .second, .val (.long q1), .second, .val (.int p2), .val (.ref b1), .val (.ref b15), .val (.ref b26), .val (.int (1 : Int32)), .val (.int (1 : Int32)), .val (.ref b26), .val (.ref b15), .val (.ref b26), .val (.ref b26), .val (.ref b26)] [])) _
          refine XS.aload X121.here hx rfl (hb hby at_217) rfl rfl ?_
          show Steps p.tables e below (T121.setTop (mkF m 219 #[.val (.long q0), .second, .val (.long q1), .second, .val (.int p2), .val (.ref b1), .val (.ref b15), .val (.ref b26), .val (.int (1 : Int32)), .val (.int (1 : Int32)), .val (.ref b26), .val (.ref b15), .val (.ref b26), .val (.ref b26), .val (.ref b26)] [(.ref b26)])) _
          refine XS.aload X121.here hx rfl (hb hby at_219) rfl rfl ?_
          show Steps p.tables e below (T121.setTop (mkF m 221 #[.val (.long q0), .second, .val (.long q1), .second, .val (.int p2), .val (.ref b1), .val (.ref b15), .val (.ref b26), .val (.int (1 : Int32)), .val (.int (1 : Int32)), .val (.ref b26), .val (.ref b15), .val (.ref b26), .val (.ref b26), .val (.ref b26)] [(.ref b26), (.ref b26)])) _
          refine XT.acmpNo X121.here hx rfl (hb hby at_221) rfl rfl rfl (XT.aa_ne_f rfl) ?_
          show Steps p.tables e below (T121.setTop (mkF m 224 #[.val (.long q0), .second, .val (.long q1), .second, .val (.int p2), .val (.ref b1), .val (.ref b15), .val (.ref b26), .val (.int (1 : Int32)), .val (.int (1 : Int32)), .val (.ref b26), .val (.ref b15), .val (.ref b26), .val (.ref b26), .val (.ref b26)] [])) _
          refine XS.aload X121.here hx rfl (hb hby at_224) rfl rfl ?_
          show Steps p.tables e below (T121.setTop (mkF m 226 #[.val (.long q0), .second, .val (.long q1), .second, .val (.int p2), .val (.ref b1), .val (.ref b15), .val (.ref b26), .val (.int (1 : Int32)), .val (.int (1 : Int32)), .val (.ref b26), .val (.ref b15), .val (.ref b26), .val (.ref b26), .val (.ref b26)] [(.ref b1)])) _
          refine st124.trans ?_
          show Steps p.tables e below (T124.setTop (mkF m 229 #[.val (.long q0), .second, .val (.long q1), .second, .val (.int p2), .val (.ref b1), .val (.ref b15), .val (.ref b26), .val (.int (1 : Int32)), .val (.int (1 : Int32)), .val (.ref b26), .val (.ref b15), .val (.ref b26), .val (.ref b26), .val (.ref b26)] [(.ref b15)])) _
          refine XS.aload X124.here hx rfl (hb hby at_229) rfl rfl ?_
          show Steps p.tables e below (T124.setTop (mkF m 231 #[.val (.long q0), .second, .val (.long q1), .second, .val (.int p2), .val (.ref b1), .val (.ref b15), .val (.ref b26), .val (.int (1 : Int32)), .val (.int (1 : Int32)), .val (.ref b26), .val (.ref b15), .val (.ref b26), .val (.ref b26), .val (.ref b26)] [(.ref b15), (.ref b15)])) _
          refine XT.acmpNo X124.here hx rfl (hb hby at_231) rfl rfl rfl (XT.aa_ne_f rfl) ?_
          show Steps p.tables e below (T124.setTop (mkF m 234 #[.val (.long q0), .second, .val (.long q1), .second, .val (.int p2), .val (.ref b1), .val (.ref b15), .val (.ref b26), .val (.int (1 : Int32)), .val (.int (1 : Int32)), .val (.ref b26), .val (.ref b15), .val (.ref b26), .val (.ref b26), .val (.ref b26)] [])) _
          refine XT.iconstV X124.here hx rfl (1 : Int32) (hb hby at_234) (by decide) ?_
          show Steps p.tables e below (T124.setTop (mkF m 235 #[.val (.long q0), .second, .val (.long q1), .second, .val (.int p2), .val (.ref b1), .val (.ref b15), .val (.ref b26), .val (.int (1 : Int32)), .val (.int (1 : Int32)), .val (.ref b26), .val (.ref b15), .val (.ref b26), .val (.ref b26), .val (.ref b26)] [(.int (1 : Int32))])) _
          refine XS.goto X124.here hx rfl (pc0 := 235) (pc' := 239) rfl (hb hby at_235) (by decide) (by decide) ?_
          show Steps p.tables e below (T124.setTop (mkF m 239 #[.val (.long q0), .second, .val (.long q1), .second, .val (.int p2), .val (.ref b1), .val (.ref b15), .val (.ref b26), .val (.int (1 : Int32)), .val (.int (1 : Int32)), .val (.ref b26), .val (.ref b15), .val (.ref b26), .val (.ref b26), .val (.ref b26)] [(.int (1 : Int32))])) _
          refine XS.istore X124.here hx rfl (hb hby at_239) rfl (l' := #[.val (.long q0), .second, .val (.long q1), .second, .val (.int p2), .val (.ref b1), .val (.ref b15), .val (.ref b26), .val (.int (1 : Int32)), .val (.int (1 : Int32)), .val (.ref b26), .val (.ref b15), .val (.ref b26), .val (.ref b26), .val (.ref b26)]) rfl ?_
          show Steps p.tables e below (T124.setTop (mkF m 241 #[.val (.long q0), .second, .val (.long q1), .second, .val (.int p2), .val (.ref b1), .val (.ref b15), .val (.ref b26), .val (.int (1 : Int32)), .val (.int (1 : Int32)), .val (.ref b26), .val (.ref b15), .val (.ref b26), .val (.ref b26), .val (.ref b26)] [])) _
          refine XS.iload X124.here hx rfl (hb hby at_241) rfl ?_
          show Steps p.tables e below (T124.setTop (mkF m 243 #[.val (.long q0), .second, .val (.long q1), .second, .val (.int p2), .val (.ref b1), .val (.ref b15), .val (.ref b26), .val (.int (1 : Int32)), .val (.int (1 : Int32)), .val (.ref b26), .val (.ref b15), .val (.ref b26), .val (.ref b26), .val (.ref b26)] [(.int (1 : Int32))])) _
          exact retN X124 hx (t := .boolean) Bd.returns (by simp) (hb hby at_243) hr
        · skip
          show Q0 Z q0 q1 p2 h0 n0 _ T124.heap _
          rw [e124]
          exact ⟨rfl, N124⟩
set_option maxRecDepth 65536 in
set_option maxHeartbeats 40000000 in
theorem comes_1 {Post : Tables → Env → Array Value → State → Outcome → State → Prop} (hpost : ∀ tb e args s v u, (limb_1_1.after args s (.returned v) u = true ∧ limb_1_2.after args s (.returned v) u = true ∧ True) → FrameEnd s (.returned v) u (Jvm.fieldLocs frame_1_writes args s ++ Jvm.arrayLocs frame_1_arrays args s ++ Jvm.staticLocs frame_1_statics s) 24 128 → Post tb e args s (.returned v) u) :
    ArmFor flags0 classFile x code maxLocals ret World_1 tables_1 room_1 Calls_1 rest_1 Pre_1 Post := by
  intro l hfl _ _ p e ha hc hk s m args below hf hA hF happ hP
  obtain ⟨hcalls, hrest, hpre⟩ := hP
  obtain ⟨-, -, -, hnamed, -, -, -, hat⟩ := (Spec.applies_iff hf).mp happ
  obtain ⟨hg, hn⟩ := and_e (Cond.before_iff.mp (show (Jvm.Cond.and given_1 narrow_1).before args s = true from hpre))
  obtain ⟨hcount, r0⟩ := and_e hg
  obtain ⟨ha0, r1⟩ := and_e r0
  obtain ⟨ha1, r2⟩ := and_e r1
  obtain ⟨w0, w1, w2, rfl⟩ : ∃ w0 w1 w2 : Value, args = #[w0, w1, w2] := by
    have hs : args.size = 3 := by simpa [Cond.value, given_1] using hcount
    obtain ⟨L⟩ := args
    match L, hs with
    | [w0, w1, w2], _ => exact ⟨w0, w1, w2, rfl⟩
  have hw := fun d (hd : d ∈ tables_1) => atoms_spec (ws := Jvm.Cond.code x code maxLocals ret :: tables_1) hat d (List.mem_cons_of_mem _ hd)
  have hfit : Fit s := fun {y c} hc i hi => by
    obtain ⟨ha, rfl⟩ := Array.getElem?_eq_some_iff.mp hc
    have q := List.all_eq_true.mp ((Array.all_eq_true_iff_forall_mem.mp hF) _ (Array.getElem_mem ha)) i (List.mem_range.mpr hi)
    simpa [Array.getElem?_eq_getElem hi] using q
  obtain ⟨i0, ei0⟩ := isL_v ha0
  obtain rfl : w0 = (.long i0) := Option.some.inj ei0
  obtain ⟨i1, ei1⟩ := isL_v ha1
  obtain rfl : w1 = (.long i1) := Option.some.inj ei1
  obtain ⟨i2, ei2⟩ := is_v r2
  obtain rfl : w2 = (.int i2) := Option.some.inj ei2
  obtain ⟨n, o, h1, h2, h3, _, L, rfl, ⟨rfl, N⟩, hq⟩ := rm0 l s _ hw tables_1 i0 i1 i2 s.heap s.heap.size (Nat.le_refl _) p e ha hc hk s m _ below hf ((Spec.applies_iff_loose hf).mp happ).1 ⟨rfl, State.Warmed39.refl s, rfl⟩ trivial
  refine ⟨n, _, h1, h2, h3, hpost _ _ _ _ _ _ ⟨Cond.after_iff.mpr rfl, Cond.after_iff.mpr (eq_i res_at (Term.int_eval (1)) rfl), trivial⟩ ⟨hq.1, hq.2.1, (hq.2.2.sift fun y hy => Or.inr (N y hy)).mono (by decide) (by decide)⟩⟩
theorem main_1_1 : Claimed_1_1 := comes_1 fun _ _ _ _ _ _ h hF => ⟨h.1, hF⟩
theorem main_1_2 : Claimed_1_2 := comes_1 fun _ _ _ _ _ _ h hF => ⟨h.2.1, hF⟩
end Jvm.Pilot.@@N@@
namespace Jvm.Pilot.@@N@@
open Jvm Jvm.ClassFile Sem Op Lib Jvm.Free Jvm.Stand Jvm.Pilot.@@N@@.Jvm.D
/-! MADE BY PROGRAM (witnessworld.py) out of the Statement's table words and the real class files: 20 classes; the members and pool entries that the words name. The judged class is class 1, her method 1. -/
namespace start1
open Jvm.ClassFile
def u (s : String) : CpInfo := .utf8 (stringToUtf16 s)
/-- a pool by its gaps: so many unusable entries, then the entry; so many at the end -/
def gap : Nat → List CpInfo → List CpInfo
  | 0, r => r
  | n + 1, r => .unusable :: gap n r
def poolList (es : List (Nat × CpInfo)) (last : Nat) : List CpInfo := es.foldr (fun e r => gap e.1 (e.2 :: r)) (gap last [])
def pool (es : List (Nat × CpInfo)) (last : Nat) : Array CpInfo := ⟨poolList es last⟩
def fileOf (pool : Array CpInfo) (this : Nat) (attrs : Array Attribute := #[]) (ms : Array MethodInfo := #[]) (fl : Nat := 33) (sup : Nat := 0) (ifs : Array Nat := #[]) (fds : Array FieldInfo := #[]) : ClassFile where
  minorVersion := 0
  majorVersion := 65
  constantPool := pool
  accessFlags := fl
  thisClass := this
  superClass := sup
  interfaces := ifs
  fields := fds
  methods := ms
  attributes := attrs
def plain (name : String) (sup : Option ClassId) : Class where
  name := name
  kind := .ordinary
  loader := none
  accessFlags := 33
  super := sup
  interfaces := #[]
  cf := none
  fields := #[]
  methods := #[]
  instanceTypes := #[]
  staticTypes := #[]
  resolved := #[]
  callSites := []
  init := .initialized
  statics := none
  mirror := none

def pool0 : Array CpInfo := pool [(5, u "<init>"), (0, u "()V"), (1, .class_ 10), (1, u "java/lang/Object")] 113

def k0c0 : Code := { maxStack := 0, maxLocals := 1, code := object_method_1_code, exceptionTable := #[], attributes := #[] }
def k0m0 : Method := { name := "<init>", desc := "()V", sig := { parameters := [], returnType := none }, accessFlags := 1, code := some k0c0 }
/-- java/lang/Object -/
def k0 : Class := { plain "java/lang/Object" none with
  accessFlags := 33
  interfaces := #[]
  cf := some (fileOf pool0 8 #[] #[{ accessFlags := 1, nameIndex := 5, descriptorIndex := 6, attributes := #[] }] 33 0 #[] #[])
  fields := #[]
  methods := #[k0m0]
  instanceTypes := #[]
  staticTypes := #[]
  resolved := Array.replicate 124 none
  statics := none }

def pool1 : Array CpInfo := pool [(2, .class_ 4), (0, .nameAndType 5 6), (0, u "java/lang/Object"), (0, u "<init>"), (0, u "()V"), (0, .class_ 8), (0, u "com/example/dispatch_by_catalog/dispatchbycatalog/subscriptions/EventQueue"), (0, .methodref 7 3), (0, .class_ 11), (0, u "com/example/dispatch_by_catalog/dispatchbycatalog/subscriptions/DroppedEvents"), (0, .methodref 10 13), (0, .nameAndType 5 14), (0, u "(JJ)V"), (0, .long 2), (1, .methodref 7 18), (0, .nameAndType 19 20), (0, u "peek"), (0, u "()Lcom/example/dispatch_by_catalog/dispatchbycatalog/subscriptions/Event;"), (0, .methodref 7 22), (0, .nameAndType 23 24), (0, u "add"), (0, u "(Lcom/example/dispatch_by_catalog/dispatchbycatalog/subscriptions/Event;)V"), (0, .methodref 7 26), (0, .nameAndType 27 24), (0, u "addFirst"), (0, .methodref 7 29), (0, .nameAndType 30 20), (0, u "poll"), (0, .class_ 32), (0, u "com/example/dispatch_by_catalog/dispatchbycatalog/subscriptions/EventQueuePeekPinLaw"), (2, u "law"), (0, u "(JJI)Z")] 5

def k1m0 : Method := { name := "<init>", desc := "()V", sig := { parameters := [], returnType := none }, accessFlags := 1, code := none }
def k1c1 : Code := { maxStack := 6, maxLocals := 15, code := code, exceptionTable := #[], attributes := #[] }
def k1m1 : Method := { name := "law", desc := "(JJI)Z", sig := { parameters := [.long, .long, .int], returnType := some .boolean }, accessFlags := 9, code := some k1c1 }
/-- com/example/dispatch_by_catalog/dispatchbycatalog/subscriptions/EventQueuePeekPinLaw -/
def k1 : Class := { plain "com/example/dispatch_by_catalog/dispatchbycatalog/subscriptions/EventQueuePeekPinLaw" (some 0) with
  accessFlags := 49
  interfaces := #[]
  cf := some (fileOf pool1 31 #[] #[{ accessFlags := 1, nameIndex := 5, descriptorIndex := 6, attributes := #[] }, { accessFlags := 9, nameIndex := 35, descriptorIndex := 36, attributes := #[] }] 49 2 #[] #[])
  fields := #[]
  methods := #[k1m0, k1m1]
  instanceTypes := #[]
  staticTypes := #[]
  resolved := Array.replicate 42 none
  statics := none }

def pool2 : Array CpInfo := pool [(1, .methodref 2 3), (0, .class_ 4), (0, .nameAndType 5 6), (0, u "java/lang/Object"), (0, u "<init>"), (0, u "()V"), (0, .class_ 8), (0, u "java/util/ArrayDeque"), (0, .methodref 7 3), (0, .fieldref 11 12), (0, .class_ 13), (0, .nameAndType 14 15), (0, u "com/example/dispatch_by_catalog/dispatchbycatalog/subscriptions/EventQueue"), (0, u "events"), (0, u "Ljava/util/Deque;"), (1, .class_ 19), (1, u "java/util/Deque"), (4, u "size"), (1, .fieldref 11 27), (0, .nameAndType 28 29), (0, u "bytes"), (0, u "J"), (0, .interfaceMethodref 17 31), (0, .nameAndType 32 33), (0, u "peek"), (0, u "()Ljava/lang/Object;"), (0, .class_ 35), (0, u "com/example/dispatch_by_catalog/dispatchbycatalog/subscriptions/Event"), (0, .interfaceMethodref 17 37), (0, .nameAndType 38 33), (0, u "poll"), (0, .interfaceMethodref 34 40), (0, .nameAndType 24 41), (0, u "()J"), (0, .interfaceMethodref 17 43), (0, .nameAndType 44 45), (0, u "addLast"), (0, u "(Ljava/lang/Object;)V"), (0, .interfaceMethodref 17 47), (0, .nameAndType 48 45), (0, u "addFirst"), (11, u "()Lcom/example/dispatch_by_catalog/dispatchbycatalog/subscriptions/Event;"), (1, u "add"), (0, u "(Lcom/example/dispatch_by_catalog/dispatchbycatalog/subscriptions/Event;)V")] 3

def k2c0 : Code := { maxStack := 3, maxLocals := 1, code := prog_41_method_1_code, exceptionTable := #[], attributes := #[] }
def k2m0 : Method := { name := "<init>", desc := "()V", sig := { parameters := [], returnType := none }, accessFlags := 0, code := some k2c0 }
def k2c1 : Code := { maxStack := 1, maxLocals := 1, code := prog_41_method_5_code, exceptionTable := #[], attributes := #[] }
def k2m1 : Method := { name := "peek", desc := "()Lcom/example/dispatch_by_catalog/dispatchbycatalog/subscriptions/Event;", sig := { parameters := [], returnType := some (.object "com/example/dispatch_by_catalog/dispatchbycatalog/subscriptions/Event") }, accessFlags := 0, code := some k2c1 }
def k2c2 : Code := { maxStack := 5, maxLocals := 2, code := prog_41_method_6_code, exceptionTable := #[], attributes := #[] }
def k2m2 : Method := { name := "poll", desc := "()Lcom/example/dispatch_by_catalog/dispatchbycatalog/subscriptions/Event;", sig := { parameters := [], returnType := some (.object "com/example/dispatch_by_catalog/dispatchbycatalog/subscriptions/Event") }, accessFlags := 0, code := some k2c2 }
def k2c3 : Code := { maxStack := 5, maxLocals := 2, code := prog_41_method_7_code, exceptionTable := #[], attributes := #[] }
def k2m3 : Method := { name := "add", desc := "(Lcom/example/dispatch_by_catalog/dispatchbycatalog/subscriptions/Event;)V", sig := { parameters := [(.object "com/example/dispatch_by_catalog/dispatchbycatalog/subscriptions/Event")], returnType := none }, accessFlags := 0, code := some k2c3 }
def k2c4 : Code := { maxStack := 5, maxLocals := 2, code := prog_41_method_8_code, exceptionTable := #[], attributes := #[] }
def k2m4 : Method := { name := "addFirst", desc := "(Lcom/example/dispatch_by_catalog/dispatchbycatalog/subscriptions/Event;)V", sig := { parameters := [(.object "com/example/dispatch_by_catalog/dispatchbycatalog/subscriptions/Event")], returnType := none }, accessFlags := 0, code := some k2c4 }
/-- com/example/dispatch_by_catalog/dispatchbycatalog/subscriptions/EventQueue -/
def k2 : Class := { plain "com/example/dispatch_by_catalog/dispatchbycatalog/subscriptions/EventQueue" (some 0) with
  accessFlags := 32
  interfaces := #[]
  cf := some (fileOf pool2 11 #[] #[{ accessFlags := 0, nameIndex := 5, descriptorIndex := 6, attributes := #[] }, { accessFlags := 0, nameIndex := 32, descriptorIndex := 60, attributes := #[] }, { accessFlags := 0, nameIndex := 38, descriptorIndex := 60, attributes := #[] }, { accessFlags := 0, nameIndex := 62, descriptorIndex := 63, attributes := #[] }, { accessFlags := 0, nameIndex := 48, descriptorIndex := 63, attributes := #[] }] 32 2 #[] #[{ accessFlags := 18, nameIndex := 14, descriptorIndex := 15, attributes := #[] }, { accessFlags := 2, nameIndex := 28, descriptorIndex := 29, attributes := #[] }])
  fields := #[{ name := "events", type := (.object "java/util/Deque"), accessFlags := 18, slot := 0, constantValue := 0 }, { name := "bytes", type := .long, accessFlags := 2, slot := 1, constantValue := 0 }]
  methods := #[k2m0, k2m1, k2m2, k2m3, k2m4]
  instanceTypes := #[(.object "java/util/Deque"), .long]
  staticTypes := #[]
  resolved := Array.replicate 67 none
  statics := none }

def pool3 : Array CpInfo := pool [(8, .class_ 10), (1, u "java/lang/Iterable"), (24, .class_ 36), (0, u "java/lang/Object")] 25

/-- java/lang/Iterable -/
def k3 : Class := { plain "java/lang/Iterable" (some 0) with
  accessFlags := 1537
  interfaces := #[]
  cf := some (fileOf pool3 8 #[] #[] 1537 35 #[] #[])
  fields := #[]
  methods := #[]
  instanceTypes := #[]
  staticTypes := #[]
  resolved := Array.replicate 62 none
  statics := none }

def pool4 : Array CpInfo := pool [(10, .class_ 12), (1, u "java/util/Collection"), (47, .class_ 61), (0, u "java/lang/Object"), (0, .class_ 63), (0, u "java/lang/Iterable")] 51

/-- java/util/Collection -/
def k4 : Class := { plain "java/util/Collection" (some 0) with
  accessFlags := 1537
  interfaces := #[3]
  cf := some (fileOf pool4 10 #[] #[] 1537 60 #[62] #[])
  fields := #[]
  methods := #[]
  instanceTypes := #[]
  staticTypes := #[]
  resolved := Array.replicate 115 none
  statics := none }

def pool5 : Array CpInfo := pool [(1, .methodref 2 3), (0, .class_ 4), (0, .nameAndType 5 6), (0, u "java/lang/Object"), (0, u "<init>"), (0, u "()V"), (1, .class_ 10), (1, u "java/util/AbstractCollection"), (66, .class_ 78), (0, u "java/util/Collection")] 81

def k5c0 : Code := { maxStack := 1, maxLocals := 1, code := jdk_22_method_1_code, exceptionTable := #[], attributes := #[] }
def k5m0 : Method := { name := "<init>", desc := "()V", sig := { parameters := [], returnType := none }, accessFlags := 4, code := some k5c0 }
/-- java/util/AbstractCollection -/
def k5 : Class := { plain "java/util/AbstractCollection" (some 0) with
  accessFlags := 1057
  interfaces := #[4]
  cf := some (fileOf pool5 8 #[] #[{ accessFlags := 4, nameIndex := 5, descriptorIndex := 6, attributes := #[] }] 1057 2 #[77] #[])
  fields := #[]
  methods := #[k5m0]
  instanceTypes := #[]
  staticTypes := #[]
  resolved := Array.replicate 160 none
  statics := none }

def pool6 : Array CpInfo := pool [(1, .class_ 2), (0, u "java/util/Queue"), (0, .class_ 4), (0, u "java/lang/Object"), (0, .class_ 6), (0, u "java/util/Collection")] 14

/-- java/util/Queue -/
def k6 : Class := { plain "java/util/Queue" (some 0) with
  accessFlags := 1537
  interfaces := #[4]
  cf := some (fileOf pool6 1 #[] #[] 1537 3 #[5] #[])
  fields := #[]
  methods := #[]
  instanceTypes := #[]
  staticTypes := #[]
  resolved := Array.replicate 21 none
  statics := none }

def pool7 : Array CpInfo := pool [(8, .class_ 10), (1, u "java/util/SequencedCollection"), (15, .class_ 27), (0, u "java/lang/Object"), (0, .class_ 29), (0, u "java/util/Collection")] 27

/-- java/util/SequencedCollection -/
def k7 : Class := { plain "java/util/SequencedCollection" (some 0) with
  accessFlags := 1537
  interfaces := #[4]
  cf := some (fileOf pool7 8 #[] #[] 1537 26 #[28] #[])
  fields := #[]
  methods := #[]
  instanceTypes := #[]
  staticTypes := #[]
  resolved := Array.replicate 57 none
  statics := none }

def pool8 : Array CpInfo := pool [(8, .class_ 10), (1, u "java/util/Deque"), (2, .class_ 14), (0, u "java/lang/Object"), (0, .class_ 16), (0, u "java/util/Queue"), (0, .class_ 18), (0, u "java/util/SequencedCollection"), (0, u "addFirst"), (0, u "(Ljava/lang/Object;)V"), (2, u "addLast"), (5, u "()Ljava/lang/Object;"), (13, u "poll"), (1, u "peek")] 24

def k8m0 : Method := { name := "addFirst", desc := "(Ljava/lang/Object;)V", sig := { parameters := [(.object "java/lang/Object")], returnType := none }, accessFlags := 1025, code := none }
def k8m1 : Method := { name := "addLast", desc := "(Ljava/lang/Object;)V", sig := { parameters := [(.object "java/lang/Object")], returnType := none }, accessFlags := 1025, code := none }
def k8m2 : Method := { name := "poll", desc := "()Ljava/lang/Object;", sig := { parameters := [], returnType := some (.object "java/lang/Object") }, accessFlags := 1025, code := none }
def k8m3 : Method := { name := "peek", desc := "()Ljava/lang/Object;", sig := { parameters := [], returnType := some (.object "java/lang/Object") }, accessFlags := 1025, code := none }
/-- java/util/Deque -/
def k8 : Class := { plain "java/util/Deque" (some 0) with
  accessFlags := 1537
  interfaces := #[6, 7]
  cf := some (fileOf pool8 8 #[] #[{ accessFlags := 1025, nameIndex := 19, descriptorIndex := 20, attributes := #[] }, { accessFlags := 1025, nameIndex := 23, descriptorIndex := 20, attributes := #[] }, { accessFlags := 1025, nameIndex := 43, descriptorIndex := 29, attributes := #[] }, { accessFlags := 1025, nameIndex := 45, descriptorIndex := 29, attributes := #[] }] 1537 13 #[15, 17] #[])
  fields := #[]
  methods := #[k8m0, k8m1, k8m2, k8m3]
  instanceTypes := #[]
  staticTypes := #[]
  resolved := Array.replicate 70 none
  statics := none }

def pool9 : Array CpInfo := pool [(1, .class_ 2), (0, u "java/lang/Cloneable"), (0, .class_ 4), (0, u "java/lang/Object")] 2

/-- java/lang/Cloneable -/
def k9 : Class := { plain "java/lang/Cloneable" (some 0) with
  accessFlags := 1537
  interfaces := #[]
  cf := some (fileOf pool9 1 #[] #[] 1537 3 #[] #[])
  fields := #[]
  methods := #[]
  instanceTypes := #[]
  staticTypes := #[]
  resolved := Array.replicate 7 none
  statics := none }

def pool10 : Array CpInfo := pool [(1, .class_ 2), (0, u "java/io/Serializable"), (0, .class_ 4), (0, u "java/lang/Object")] 2

/-- java/io/Serializable -/
def k10 : Class := { plain "java/io/Serializable" (some 0) with
  accessFlags := 1537
  interfaces := #[]
  cf := some (fileOf pool10 1 #[] #[] 1537 3 #[] #[])
  fields := #[]
  methods := #[]
  instanceTypes := #[]
  staticTypes := #[]
  resolved := Array.replicate 7 none
  statics := none }

def pool11 : Array CpInfo := pool [(3, .fieldref 4 5), (0, .class_ 6), (0, .nameAndType 7 8), (0, u "java/util/ArrayDeque"), (0, u "elements"), (0, u "[Ljava/lang/Object;"), (4, u "(II)I"), (6, .fieldref 4 21), (0, .nameAndType 22 23), (0, u "tail"), (0, u "I"), (0, .fieldref 4 25), (0, .nameAndType 26 23), (0, u "head"), (12, u "<init>"), (2, .methodref 43 44), (0, .class_ 45), (0, .nameAndType 39 46), (0, u "java/util/AbstractCollection"), (0, u "()V"), (0, .class_ 48), (0, u "java/lang/Object"), (19, .methodref 4 69), (0, .nameAndType 70 13), (0, u "dec"), (3, .methodref 4 75), (0, .nameAndType 76 13), (0, u "inc"), (11, u "addFirst"), (0, u "(Ljava/lang/Object;)V"), (2, u "addLast"), (0, .methodref 4 94), (0, .nameAndType 95 96), (0, u "pollFirst"), (0, u "()Ljava/lang/Object;"), (6, .methodref 4 104), (0, .nameAndType 105 106), (0, u "elementAt"), (0, u "([Ljava/lang/Object;I)Ljava/lang/Object;"), (17, .methodref 4 125), (0, .nameAndType 126 96), (0, u "peekFirst"), (4, .class_ 132), (0, u "java/util/ArrayDeque$DeqIterator"), (3, .class_ 137), (0, u "java/util/ArrayDeque$DescendingIterator"), (1, .class_ 140), (0, u "java/util/ArrayDeque$DeqSpliterator"), (137, .class_ 279), (0, u "java/util/Deque"), (0, .class_ 281), (0, u "java/lang/Cloneable"), (0, .class_ 283), (0, u "java/io/Serializable"), (0, u "MAX_ARRAY_SIZE"), (1, u "serialVersionUID"), (0, u "J"), (51, u "poll"), (1, u "peek")] 96

def k11c0 : Code := { maxStack := 2, maxLocals := 1, code := jdk_21_method_3_code, exceptionTable := #[], attributes := #[] }
def k11m0 : Method := { name := "<init>", desc := "()V", sig := { parameters := [], returnType := none }, accessFlags := 1, code := some k11c0 }
def k11c1 : Code := { maxStack := 2, maxLocals := 2, code := jdk_21_method_6_code, exceptionTable := #[], attributes := #[] }
def k11m1 : Method := { name := "inc", desc := "(II)I", sig := { parameters := [.int, .int], returnType := some .int }, accessFlags := 24, code := some k11c1 }
def k11c2 : Code := { maxStack := 2, maxLocals := 2, code := jdk_21_method_7_code, exceptionTable := #[], attributes := #[] }
def k11m2 : Method := { name := "dec", desc := "(II)I", sig := { parameters := [.int, .int], returnType := some .int }, accessFlags := 24, code := some k11c2 }
def k11c3 : Code := { maxStack := 2, maxLocals := 2, code := jdk_21_method_10_code, exceptionTable := #[], attributes := #[] }
def k11m3 : Method := { name := "elementAt", desc := "([Ljava/lang/Object;I)Ljava/lang/Object;", sig := { parameters := [(.array (.object "java/lang/Object")), .int], returnType := some (.object "java/lang/Object") }, accessFlags := 24, code := some k11c3 }
def k11c4 : Code := { maxStack := 4, maxLocals := 3, code := jdk_21_method_12_code, exceptionTable := #[], attributes := #[] }
def k11m4 : Method := { name := "addFirst", desc := "(Ljava/lang/Object;)V", sig := { parameters := [(.object "java/lang/Object")], returnType := none }, accessFlags := 1, code := some k11c4 }
def k11c5 : Code := { maxStack := 4, maxLocals := 3, code := jdk_21_method_13_code, exceptionTable := #[], attributes := #[] }
def k11m5 : Method := { name := "addLast", desc := "(Ljava/lang/Object;)V", sig := { parameters := [(.object "java/lang/Object")], returnType := none }, accessFlags := 1, code := some k11c5 }
def k11c6 : Code := { maxStack := 3, maxLocals := 4, code := jdk_21_method_20_code, exceptionTable := #[], attributes := #[] }
def k11m6 : Method := { name := "pollFirst", desc := "()Ljava/lang/Object;", sig := { parameters := [], returnType := some (.object "java/lang/Object") }, accessFlags := 1, code := some k11c6 }
def k11c7 : Code := { maxStack := 2, maxLocals := 1, code := jdk_21_method_24_code, exceptionTable := #[], attributes := #[] }
def k11m7 : Method := { name := "peekFirst", desc := "()Ljava/lang/Object;", sig := { parameters := [], returnType := some (.object "java/lang/Object") }, accessFlags := 1, code := some k11c7 }
def k11c8 : Code := { maxStack := 1, maxLocals := 1, code := jdk_21_method_31_code, exceptionTable := #[], attributes := #[] }
def k11m8 : Method := { name := "poll", desc := "()Ljava/lang/Object;", sig := { parameters := [], returnType := some (.object "java/lang/Object") }, accessFlags := 1, code := some k11c8 }
def k11c9 : Code := { maxStack := 1, maxLocals := 1, code := jdk_21_method_33_code, exceptionTable := #[], attributes := #[] }
def k11m9 : Method := { name := "peek", desc := "()Ljava/lang/Object;", sig := { parameters := [], returnType := some (.object "java/lang/Object") }, accessFlags := 1, code := some k11c9 }
/-- java/util/ArrayDeque -/
def k11 : Class := { plain "java/util/ArrayDeque" (some 5) with
  accessFlags := 33
  interfaces := #[8, 9, 10]
  cf := some (fileOf pool11 4 #[.nestMembers #[139, 136, 131]] #[{ accessFlags := 1, nameIndex := 39, descriptorIndex := 46, attributes := #[] }, { accessFlags := 24, nameIndex := 76, descriptorIndex := 13, attributes := #[] }, { accessFlags := 24, nameIndex := 70, descriptorIndex := 13, attributes := #[] }, { accessFlags := 24, nameIndex := 105, descriptorIndex := 106, attributes := #[] }, { accessFlags := 1, nameIndex := 88, descriptorIndex := 89, attributes := #[] }, { accessFlags := 1, nameIndex := 92, descriptorIndex := 89, attributes := #[] }, { accessFlags := 1, nameIndex := 95, descriptorIndex := 96, attributes := #[] }, { accessFlags := 1, nameIndex := 126, descriptorIndex := 96, attributes := #[] }, { accessFlags := 1, nameIndex := 339, descriptorIndex := 96, attributes := #[] }, { accessFlags := 1, nameIndex := 341, descriptorIndex := 96, attributes := #[] }] 33 43 #[278, 280, 282] #[{ accessFlags := 128, nameIndex := 7, descriptorIndex := 8, attributes := #[] }, { accessFlags := 128, nameIndex := 26, descriptorIndex := 23, attributes := #[] }, { accessFlags := 128, nameIndex := 22, descriptorIndex := 23, attributes := #[] }, { accessFlags := 26, nameIndex := 284, descriptorIndex := 23, attributes := #[] }, { accessFlags := 26, nameIndex := 286, descriptorIndex := 287, attributes := #[] }])
  fields := #[{ name := "elements", type := (.array (.object "java/lang/Object")), accessFlags := 128, slot := 0, constantValue := 0 }, { name := "head", type := .int, accessFlags := 128, slot := 1, constantValue := 0 }, { name := "tail", type := .int, accessFlags := 128, slot := 2, constantValue := 0 }, { name := "MAX_ARRAY_SIZE", type := .int, accessFlags := 26, slot := 0, constantValue := 0 }, { name := "serialVersionUID", type := .long, accessFlags := 26, slot := 1, constantValue := 0 }]
  methods := #[k11m0, k11m1, k11m2, k11m3, k11m4, k11m5, k11m6, k11m7, k11m8, k11m9]
  instanceTypes := #[(.array (.object "java/lang/Object")), .int, .int]
  staticTypes := #[.int, .long]
  resolved := Array.replicate 438 none
  statics := none }

def pool12 : Array CpInfo := pool [(1, .methodref 2 3), (0, .class_ 4), (0, .nameAndType 5 6), (0, u "java/lang/Object"), (0, u "<init>"), (0, u "()V"), (0, .class_ 8), (0, u "java/lang/Record")] 13

def k12c0 : Code := { maxStack := 1, maxLocals := 1, code := jdk_30_method_1_code, exceptionTable := #[], attributes := #[] }
def k12m0 : Method := { name := "<init>", desc := "()V", sig := { parameters := [], returnType := none }, accessFlags := 4, code := some k12c0 }
/-- java/lang/Record -/
def k12 : Class := { plain "java/lang/Record" (some 0) with
  accessFlags := 1057
  interfaces := #[]
  cf := some (fileOf pool12 7 #[] #[{ accessFlags := 4, nameIndex := 5, descriptorIndex := 6, attributes := #[] }] 1057 2 #[] #[])
  fields := #[]
  methods := #[k12m0]
  instanceTypes := #[]
  staticTypes := #[]
  resolved := Array.replicate 22 none
  statics := none }

def pool13 : Array CpInfo := pool [(1, .class_ 2), (0, u "com/example/dispatch_by_catalog/dispatchbycatalog/subscriptions/Event"), (0, .class_ 4), (0, u "java/lang/Object"), (1, u "()J"), (0, u "size")] 7

def k13m0 : Method := { name := "size", desc := "()J", sig := { parameters := [], returnType := some .long }, accessFlags := 1025, code := none }
/-- com/example/dispatch_by_catalog/dispatchbycatalog/subscriptions/Event -/
def k13 : Class := { plain "com/example/dispatch_by_catalog/dispatchbycatalog/subscriptions/Event" (some 0) with
  accessFlags := 1537
  interfaces := #[]
  cf := some (fileOf pool13 1 #[] #[{ accessFlags := 1025, nameIndex := 7, descriptorIndex := 6, attributes := #[] }] 1537 3 #[] #[])
  fields := #[]
  methods := #[k13m0]
  instanceTypes := #[]
  staticTypes := #[]
  resolved := Array.replicate 15 none
  statics := none }

def pool14 : Array CpInfo := pool [(1, .methodref 2 3), (0, .class_ 4), (0, .nameAndType 5 6), (0, u "java/lang/Record"), (0, u "<init>"), (0, u "()V"), (9, .fieldref 17 18), (0, .class_ 19), (0, .nameAndType 20 21), (0, u "com/example/dispatch_by_catalog/dispatchbycatalog/subscriptions/DroppedEvents"), (0, u "number"), (0, u "J"), (0, .fieldref 17 23), (0, .nameAndType 24 21), (0, u "count"), (12, .class_ 38), (0, u "com/example/dispatch_by_catalog/dispatchbycatalog/subscriptions/Event"), (0, u "(JJ)V"), (4, u "size"), (0, u "()J")] 32

def k14c0 : Code := { maxStack := 4, maxLocals := 5, code := prog_37_method_1_code, exceptionTable := #[], attributes := #[] }
def k14m0 : Method := { name := "<init>", desc := "(JJ)V", sig := { parameters := [.long, .long], returnType := none }, accessFlags := 1, code := some k14c0 }
def k14c1 : Code := { maxStack := 2, maxLocals := 1, code := prog_37_method_2_code, exceptionTable := #[], attributes := #[] }
def k14m1 : Method := { name := "size", desc := "()J", sig := { parameters := [], returnType := some .long }, accessFlags := 1, code := some k14c1 }
/-- com/example/dispatch_by_catalog/dispatchbycatalog/subscriptions/DroppedEvents -/
def k14 : Class := { plain "com/example/dispatch_by_catalog/dispatchbycatalog/subscriptions/DroppedEvents" (some 12) with
  accessFlags := 49
  interfaces := #[13]
  cf := some (fileOf pool14 17 #[] #[{ accessFlags := 1, nameIndex := 5, descriptorIndex := 39, attributes := #[] }, { accessFlags := 1, nameIndex := 44, descriptorIndex := 45, attributes := #[] }] 49 2 #[37] #[{ accessFlags := 18, nameIndex := 20, descriptorIndex := 21, attributes := #[] }, { accessFlags := 18, nameIndex := 24, descriptorIndex := 21, attributes := #[] }])
  fields := #[{ name := "number", type := .long, accessFlags := 18, slot := 0, constantValue := 0 }, { name := "count", type := .long, accessFlags := 18, slot := 1, constantValue := 0 }]
  methods := #[k14m0, k14m1]
  instanceTypes := #[.long, .long]
  staticTypes := #[]
  resolved := Array.replicate 78 none
  statics := none }

/-- the primitive byte -/
def k15 : Class := { plain "byte" none with kind := .primitive 'B', accessFlags := 0x411 }
/-- [B -/
def k16 : Class := { plain "[B" (some 0) with kind := .array 15 .byte, interfaces := #[9, 10], accessFlags := 1041 }

/-- the primitive int -/
def k17 : Class := { plain "int" none with kind := .primitive 'I', accessFlags := 0x411 }
/-- [I -/
def k18 : Class := { plain "[I" (some 0) with kind := .array 17 .int, interfaces := #[9, 10], accessFlags := 1041 }

/-- [Ljava/lang/Object; -/
def k19 : Class := { plain "[Ljava/lang/Object;" (some 0) with kind := .array 0 (.object "java/lang/Object"), interfaces := #[9, 10], accessFlags := 1041 }

def heap : Heap := #[]
def classes : Array Class := #[k0, k1, k2, k3, k4, k5, k6, k7, k8, k9, k10, k11, k12, k13, k14, k15, k16, k17, k18, k19]
def interned : List (Array UInt16 × Addr) := []
def slotsUsed : Nat := 0
def theMethod : MethodId := ⟨1, 1⟩
def args0 : Array Value := #[.long 5, .long 7, .int 9]
def aboutOver (below : List Frame) : State where
  vm := { classes := classes, interned := interned.toArray }
  heap := heap
  slotsUsed := slotsUsed
  threads := #[{ frames := .invoking theMethod args0 :: below }]
def below0 : List Frame := [.native { method := ⟨0, 0⟩, args := #[] }]
def about1 : State := aboutOver below0
def p0 : Program := .bare "" "" ""
def e0 : Env := launch0.env 0 0 0
theorem w_frames : about1.frames = Frame.invoking theMethod args0 :: below0 := rfl
set_option maxRecDepth 65536 in
theorem w_args : argsFit about1.vm theMethod args0 = true := by decide +kernel
set_option maxRecDepth 65536 in
theorem w_heap : heapFits about1 = true := by decide +kernel
set_option maxRecDepth 65536 in
theorem w_runnable : about1.curStatus? = some .runnable := by decide +kernel
set_option maxRecDepth 65536 in
theorem w_alone : about1.alone = true := by decide +kernel
set_option maxRecDepth 65536 in
theorem w_named : about1.methodNamed? x = some theMethod := by decide +kernel
set_option maxRecDepth 65536 in
theorem w_hears : about1.hears theMethod below0 = true := by decide +kernel
set_option maxRecDepth 65536 in
theorem w_ripe : about1.ripe theMethod args0 below0 = true := by decide +kernel
theorem w_running : about1.status = .running := rfl
set_option maxRecDepth 65536 in
theorem w_room : about1.hasRoom e0.platform room_1 = true :=
  launch0.hasRoom_least _ room_1 (by decide +kernel) (by decide +kernel) (by decide +kernel) (by decide +kernel) (by decide +kernel) (by decide +kernel)
theorem allAtoms_all (ts : List Jvm.Cond) (a : Array Jvm.Value) (st : Jvm.State) : (allAtoms ts).before a st = ts.all (fun c => c.before a st) := by
  induction ts with
  | nil => rfl
  | cons c t ih =>
    show (Jvm.Cond.and c (allAtoms t)).before a st = _
    rw [Jvm.Cond.before_and, ih, List.all_cons]
def words1 : List Jvm.Cond := Jvm.Cond.code x code maxLocals ret :: tables_1
/-- a 'code' word, met by the world's own term for the bytes: nothing is compared byte by byte -/
theorem code_word {y : MethodName} {bytes : ByteArray} {mx : Nat} {rt : Option FieldType} {a : Array Value} {s : State} {m : MethodId} {meth : Method} {c : Code} (h1 : s.methodNamed? y = some m) (h2 : s.vm.method? m = some meth) (h3 : meth.code = some c) (h4 : c.code = bytes)
    (h5 : (c.maxLocals == mx && c.exceptionTable.isEmpty && decide (c.maxStack ≤ mostOperands) && decide (meth.sig.returnType = rt) && !meth.locks && decide (parseMethodDescriptor y.desc = some meth.sig)) = true) : (Jvm.Cond.code y bytes mx rt).before a s = true := by
  simp only [Bool.and_eq_true, beq_iff_eq, Bool.not_eq_true', decide_eq_true_eq] at h5
  obtain ⟨⟨⟨⟨⟨g1, g2⟩, g3⟩, g4⟩, g5⟩, g6⟩ := h5
  simp [Cond.before, Cond.holds, Cond.value, h1, h2, h3, h4, g1, g2, g3, g4, g5, g6]
def isCode : Jvm.Cond → Bool
  | .code _ _ _ _ => true
  | _ => false
theorem all_split {L : List Jvm.Cond} {P : Jvm.Cond → Bool} (h1 : L.all (fun c => isCode c || P c) = true) (h2 : ∀ c ∈ L.filter isCode, P c = true) : L.all P = true := by
  refine List.all_eq_true.mpr fun c hc => ?_
  have h := List.all_eq_true.mp h1 c hc
  rcases Bool.eq_false_or_eq_true (isCode c) with hi | hi
  · exact h2 c (List.mem_filter.mpr ⟨hc, hi⟩)
  · simpa [hi] using h
set_option maxRecDepth 65536 in
theorem w_c0 : (Jvm.Cond.code x code maxLocals ret).before args0 about1 = true := code_word (m := ⟨1, 1⟩) (meth := k1m1) (c := k1c1) (by decide +kernel) rfl rfl rfl (by decide +kernel)
set_option maxRecDepth 65536 in
theorem w_c1 : (Jvm.Cond.code ({ cls := "com/example/dispatch_by_catalog/dispatchbycatalog/subscriptions/EventQueue", name := "<init>", desc := "()V" } : Jvm.MethodName) prog_41_method_1_code (1 : Nat) (Option.none : Option Jvm.ClassFile.FieldType)).before args0 about1 = true := code_word (m := ⟨2, 0⟩) (meth := k2m0) (c := k2c0) (by decide +kernel) rfl rfl rfl (by decide +kernel)
set_option maxRecDepth 65536 in
theorem w_c2 : (Jvm.Cond.code ({ cls := "java/lang/Object", name := "<init>", desc := "()V" } : Jvm.MethodName) object_method_1_code (1 : Nat) (Option.none : Option Jvm.ClassFile.FieldType)).before args0 about1 = true := code_word (m := ⟨0, 0⟩) (meth := k0m0) (c := k0c0) (by decide +kernel) rfl rfl rfl (by decide +kernel)
set_option maxRecDepth 65536 in
theorem w_c3 : (Jvm.Cond.code ({ cls := "java/util/ArrayDeque", name := "<init>", desc := "()V" } : Jvm.MethodName) jdk_21_method_3_code (1 : Nat) (Option.none : Option Jvm.ClassFile.FieldType)).before args0 about1 = true := code_word (m := ⟨11, 0⟩) (meth := k11m0) (c := k11c0) (by decide +kernel) rfl rfl rfl (by decide +kernel)
set_option maxRecDepth 65536 in
theorem w_c4 : (Jvm.Cond.code ({ cls := "java/util/AbstractCollection", name := "<init>", desc := "()V" } : Jvm.MethodName) jdk_22_method_1_code (1 : Nat) (Option.none : Option Jvm.ClassFile.FieldType)).before args0 about1 = true := code_word (m := ⟨5, 0⟩) (meth := k5m0) (c := k5c0) (by decide +kernel) rfl rfl rfl (by decide +kernel)
set_option maxRecDepth 65536 in
theorem w_c5 : (Jvm.Cond.code ({ cls := "com/example/dispatch_by_catalog/dispatchbycatalog/subscriptions/DroppedEvents", name := "<init>", desc := "(JJ)V" } : Jvm.MethodName) prog_37_method_1_code (5 : Nat) (Option.none : Option Jvm.ClassFile.FieldType)).before args0 about1 = true := code_word (m := ⟨14, 0⟩) (meth := k14m0) (c := k14c0) (by decide +kernel) rfl rfl rfl (by decide +kernel)
set_option maxRecDepth 65536 in
theorem w_c6 : (Jvm.Cond.code ({ cls := "java/lang/Record", name := "<init>", desc := "()V" } : Jvm.MethodName) jdk_30_method_1_code (1 : Nat) (Option.none : Option Jvm.ClassFile.FieldType)).before args0 about1 = true := code_word (m := ⟨12, 0⟩) (meth := k12m0) (c := k12c0) (by decide +kernel) rfl rfl rfl (by decide +kernel)
set_option maxRecDepth 65536 in
theorem w_c7 : (Jvm.Cond.code ({ cls := "com/example/dispatch_by_catalog/dispatchbycatalog/subscriptions/EventQueue", name := "peek", desc := "()Lcom/example/dispatch_by_catalog/dispatchbycatalog/subscriptions/Event;" } : Jvm.MethodName) prog_41_method_5_code (1 : Nat) (Option.some (Jvm.ClassFile.FieldType.object "com/example/dispatch_by_catalog/dispatchbycatalog/subscriptions/Event"))).before args0 about1 = true := code_word (m := ⟨2, 1⟩) (meth := k2m1) (c := k2c1) (by decide +kernel) rfl rfl rfl (by decide +kernel)
set_option maxRecDepth 65536 in
theorem w_c8 : (Jvm.Cond.code ({ cls := "java/util/ArrayDeque", name := "peek", desc := "()Ljava/lang/Object;" } : Jvm.MethodName) jdk_21_method_33_code (1 : Nat) (Option.some (Jvm.ClassFile.FieldType.object "java/lang/Object"))).before args0 about1 = true := code_word (m := ⟨11, 9⟩) (meth := k11m9) (c := k11c9) (by decide +kernel) rfl rfl rfl (by decide +kernel)
set_option maxRecDepth 65536 in
theorem w_c9 : (Jvm.Cond.code ({ cls := "java/util/ArrayDeque", name := "peekFirst", desc := "()Ljava/lang/Object;" } : Jvm.MethodName) jdk_21_method_24_code (1 : Nat) (Option.some (Jvm.ClassFile.FieldType.object "java/lang/Object"))).before args0 about1 = true := code_word (m := ⟨11, 7⟩) (meth := k11m7) (c := k11c7) (by decide +kernel) rfl rfl rfl (by decide +kernel)
set_option maxRecDepth 65536 in
theorem w_c10 : (Jvm.Cond.code ({ cls := "java/util/ArrayDeque", name := "elementAt", desc := "([Ljava/lang/Object;I)Ljava/lang/Object;" } : Jvm.MethodName) jdk_21_method_10_code (2 : Nat) (Option.some (Jvm.ClassFile.FieldType.object "java/lang/Object"))).before args0 about1 = true := code_word (m := ⟨11, 3⟩) (meth := k11m3) (c := k11c3) (by decide +kernel) rfl rfl rfl (by decide +kernel)
set_option maxRecDepth 65536 in
theorem w_c11 : (Jvm.Cond.code ({ cls := "com/example/dispatch_by_catalog/dispatchbycatalog/subscriptions/EventQueue", name := "addFirst", desc := "(Lcom/example/dispatch_by_catalog/dispatchbycatalog/subscriptions/Event;)V" } : Jvm.MethodName) prog_41_method_8_code (2 : Nat) (Option.none : Option Jvm.ClassFile.FieldType)).before args0 about1 = true := code_word (m := ⟨2, 4⟩) (meth := k2m4) (c := k2c4) (by decide +kernel) rfl rfl rfl (by decide +kernel)
set_option maxRecDepth 65536 in
theorem w_c12 : (Jvm.Cond.code ({ cls := "java/util/ArrayDeque", name := "addFirst", desc := "(Ljava/lang/Object;)V" } : Jvm.MethodName) jdk_21_method_12_code (3 : Nat) (Option.none : Option Jvm.ClassFile.FieldType)).before args0 about1 = true := code_word (m := ⟨11, 4⟩) (meth := k11m4) (c := k11c4) (by decide +kernel) rfl rfl rfl (by decide +kernel)
set_option maxRecDepth 65536 in
theorem w_c13 : (Jvm.Cond.code ({ cls := "java/util/ArrayDeque", name := "dec", desc := "(II)I" } : Jvm.MethodName) jdk_21_method_7_code (2 : Nat) (Option.some Jvm.ClassFile.FieldType.int)).before args0 about1 = true := code_word (m := ⟨11, 2⟩) (meth := k11m2) (c := k11c2) (by decide +kernel) rfl rfl rfl (by decide +kernel)
set_option maxRecDepth 65536 in
theorem w_c14 : (Jvm.Cond.code ({ cls := "com/example/dispatch_by_catalog/dispatchbycatalog/subscriptions/DroppedEvents", name := "size", desc := "()J" } : Jvm.MethodName) prog_37_method_2_code (1 : Nat) (Option.some Jvm.ClassFile.FieldType.long)).before args0 about1 = true := code_word (m := ⟨14, 1⟩) (meth := k14m1) (c := k14c1) (by decide +kernel) rfl rfl rfl (by decide +kernel)
set_option maxRecDepth 65536 in
theorem w_c15 : (Jvm.Cond.code ({ cls := "com/example/dispatch_by_catalog/dispatchbycatalog/subscriptions/EventQueue", name := "add", desc := "(Lcom/example/dispatch_by_catalog/dispatchbycatalog/subscriptions/Event;)V" } : Jvm.MethodName) prog_41_method_7_code (2 : Nat) (Option.none : Option Jvm.ClassFile.FieldType)).before args0 about1 = true := code_word (m := ⟨2, 3⟩) (meth := k2m3) (c := k2c3) (by decide +kernel) rfl rfl rfl (by decide +kernel)
set_option maxRecDepth 65536 in
theorem w_c16 : (Jvm.Cond.code ({ cls := "java/util/ArrayDeque", name := "addLast", desc := "(Ljava/lang/Object;)V" } : Jvm.MethodName) jdk_21_method_13_code (3 : Nat) (Option.none : Option Jvm.ClassFile.FieldType)).before args0 about1 = true := code_word (m := ⟨11, 5⟩) (meth := k11m5) (c := k11c5) (by decide +kernel) rfl rfl rfl (by decide +kernel)
set_option maxRecDepth 65536 in
theorem w_c17 : (Jvm.Cond.code ({ cls := "java/util/ArrayDeque", name := "inc", desc := "(II)I" } : Jvm.MethodName) jdk_21_method_6_code (2 : Nat) (Option.some Jvm.ClassFile.FieldType.int)).before args0 about1 = true := code_word (m := ⟨11, 1⟩) (meth := k11m1) (c := k11c1) (by decide +kernel) rfl rfl rfl (by decide +kernel)
set_option maxRecDepth 65536 in
theorem w_c18 : (Jvm.Cond.code ({ cls := "com/example/dispatch_by_catalog/dispatchbycatalog/subscriptions/EventQueue", name := "poll", desc := "()Lcom/example/dispatch_by_catalog/dispatchbycatalog/subscriptions/Event;" } : Jvm.MethodName) prog_41_method_6_code (2 : Nat) (Option.some (Jvm.ClassFile.FieldType.object "com/example/dispatch_by_catalog/dispatchbycatalog/subscriptions/Event"))).before args0 about1 = true := code_word (m := ⟨2, 2⟩) (meth := k2m2) (c := k2c2) (by decide +kernel) rfl rfl rfl (by decide +kernel)
set_option maxRecDepth 65536 in
theorem w_c19 : (Jvm.Cond.code ({ cls := "java/util/ArrayDeque", name := "poll", desc := "()Ljava/lang/Object;" } : Jvm.MethodName) jdk_21_method_31_code (1 : Nat) (Option.some (Jvm.ClassFile.FieldType.object "java/lang/Object"))).before args0 about1 = true := code_word (m := ⟨11, 8⟩) (meth := k11m8) (c := k11c8) (by decide +kernel) rfl rfl rfl (by decide +kernel)
set_option maxRecDepth 65536 in
theorem w_c20 : (Jvm.Cond.code ({ cls := "java/util/ArrayDeque", name := "pollFirst", desc := "()Ljava/lang/Object;" } : Jvm.MethodName) jdk_21_method_20_code (4 : Nat) (Option.some (Jvm.ClassFile.FieldType.object "java/lang/Object"))).before args0 about1 = true := code_word (m := ⟨11, 6⟩) (meth := k11m6) (c := k11c6) (by decide +kernel) rfl rfl rfl (by decide +kernel)
def codes1 : List Jvm.Cond := [Jvm.Cond.code x code maxLocals ret, Jvm.Cond.code ({ cls := "com/example/dispatch_by_catalog/dispatchbycatalog/subscriptions/EventQueue", name := "<init>", desc := "()V" } : Jvm.MethodName) prog_41_method_1_code (1 : Nat) (Option.none : Option Jvm.ClassFile.FieldType), Jvm.Cond.code ({ cls := "java/lang/Object", name := "<init>", desc := "()V" } : Jvm.MethodName) object_method_1_code (1 : Nat) (Option.none : Option Jvm.ClassFile.FieldType), Jvm.Cond.code ({ cls := "java/util/ArrayDeque", name := "<init>", desc := "()V" } : Jvm.MethodName) jdk_21_method_3_code (1 : Nat) (Option.none : Option Jvm.ClassFile.FieldType), Jvm.Cond.code ({ cls := "java/util/AbstractCollection", name := "<init>", desc := "()V" } : Jvm.MethodName) jdk_22_method_1_code (1 : Nat) (Option.none : Option Jvm.ClassFile.FieldType), Jvm.Cond.code ({ cls := "com/example/dispatch_by_catalog/dispatchbycatalog/subscriptions/DroppedEvents", name := "<init>", desc := "(JJ)V" } : Jvm.MethodName) prog_37_method_1_code (5 : Nat) (Option.none : Option Jvm.ClassFile.FieldType), Jvm.Cond.code ({ cls := "java/lang/Record", name := "<init>", desc := "()V" } : Jvm.MethodName) jdk_30_method_1_code (1 : Nat) (Option.none : Option Jvm.ClassFile.FieldType), Jvm.Cond.code ({ cls := "com/example/dispatch_by_catalog/dispatchbycatalog/subscriptions/EventQueue", name := "peek", desc := "()Lcom/example/dispatch_by_catalog/dispatchbycatalog/subscriptions/Event;" } : Jvm.MethodName) prog_41_method_5_code (1 : Nat) (Option.some (Jvm.ClassFile.FieldType.object "com/example/dispatch_by_catalog/dispatchbycatalog/subscriptions/Event")), Jvm.Cond.code ({ cls := "java/util/ArrayDeque", name := "peek", desc := "()Ljava/lang/Object;" } : Jvm.MethodName) jdk_21_method_33_code (1 : Nat) (Option.some (Jvm.ClassFile.FieldType.object "java/lang/Object")), Jvm.Cond.code ({ cls := "java/util/ArrayDeque", name := "peekFirst", desc := "()Ljava/lang/Object;" } : Jvm.MethodName) jdk_21_method_24_code (1 : Nat) (Option.some (Jvm.ClassFile.FieldType.object "java/lang/Object")), Jvm.Cond.code ({ cls := "java/util/ArrayDeque", name := "elementAt", desc := "([Ljava/lang/Object;I)Ljava/lang/Object;" } : Jvm.MethodName) jdk_21_method_10_code (2 : Nat) (Option.some (Jvm.ClassFile.FieldType.object "java/lang/Object")), Jvm.Cond.code ({ cls := "com/example/dispatch_by_catalog/dispatchbycatalog/subscriptions/EventQueue", name := "addFirst", desc := "(Lcom/example/dispatch_by_catalog/dispatchbycatalog/subscriptions/Event;)V" } : Jvm.MethodName) prog_41_method_8_code (2 : Nat) (Option.none : Option Jvm.ClassFile.FieldType), Jvm.Cond.code ({ cls := "java/util/ArrayDeque", name := "addFirst", desc := "(Ljava/lang/Object;)V" } : Jvm.MethodName) jdk_21_method_12_code (3 : Nat) (Option.none : Option Jvm.ClassFile.FieldType), Jvm.Cond.code ({ cls := "java/util/ArrayDeque", name := "dec", desc := "(II)I" } : Jvm.MethodName) jdk_21_method_7_code (2 : Nat) (Option.some Jvm.ClassFile.FieldType.int), Jvm.Cond.code ({ cls := "com/example/dispatch_by_catalog/dispatchbycatalog/subscriptions/DroppedEvents", name := "size", desc := "()J" } : Jvm.MethodName) prog_37_method_2_code (1 : Nat) (Option.some Jvm.ClassFile.FieldType.long), Jvm.Cond.code ({ cls := "com/example/dispatch_by_catalog/dispatchbycatalog/subscriptions/EventQueue", name := "add", desc := "(Lcom/example/dispatch_by_catalog/dispatchbycatalog/subscriptions/Event;)V" } : Jvm.MethodName) prog_41_method_7_code (2 : Nat) (Option.none : Option Jvm.ClassFile.FieldType), Jvm.Cond.code ({ cls := "java/util/ArrayDeque", name := "addLast", desc := "(Ljava/lang/Object;)V" } : Jvm.MethodName) jdk_21_method_13_code (3 : Nat) (Option.none : Option Jvm.ClassFile.FieldType), Jvm.Cond.code ({ cls := "java/util/ArrayDeque", name := "inc", desc := "(II)I" } : Jvm.MethodName) jdk_21_method_6_code (2 : Nat) (Option.some Jvm.ClassFile.FieldType.int), Jvm.Cond.code ({ cls := "com/example/dispatch_by_catalog/dispatchbycatalog/subscriptions/EventQueue", name := "poll", desc := "()Lcom/example/dispatch_by_catalog/dispatchbycatalog/subscriptions/Event;" } : Jvm.MethodName) prog_41_method_6_code (2 : Nat) (Option.some (Jvm.ClassFile.FieldType.object "com/example/dispatch_by_catalog/dispatchbycatalog/subscriptions/Event")), Jvm.Cond.code ({ cls := "java/util/ArrayDeque", name := "poll", desc := "()Ljava/lang/Object;" } : Jvm.MethodName) jdk_21_method_31_code (1 : Nat) (Option.some (Jvm.ClassFile.FieldType.object "java/lang/Object")), Jvm.Cond.code ({ cls := "java/util/ArrayDeque", name := "pollFirst", desc := "()Ljava/lang/Object;" } : Jvm.MethodName) jdk_21_method_20_code (4 : Nat) (Option.some (Jvm.ClassFile.FieldType.object "java/lang/Object"))]
set_option maxRecDepth 65536 in
theorem codes_eq : words1.filter isCode = codes1 := rfl
theorem w_codes : ∀ c ∈ words1.filter isCode, c.before args0 about1 = true := by
  rw [codes_eq]
  intro c hc
  simp only [codes1, List.mem_cons, List.not_mem_nil, or_false] at hc
  rcases hc with rfl | rfl | rfl | rfl | rfl | rfl | rfl | rfl | rfl | rfl | rfl | rfl | rfl | rfl | rfl | rfl | rfl | rfl | rfl | rfl | rfl
  · exact w_c0
  · exact w_c1
  · exact w_c2
  · exact w_c3
  · exact w_c4
  · exact w_c5
  · exact w_c6
  · exact w_c7
  · exact w_c8
  · exact w_c9
  · exact w_c10
  · exact w_c11
  · exact w_c12
  · exact w_c13
  · exact w_c14
  · exact w_c15
  · exact w_c16
  · exact w_c17
  · exact w_c18
  · exact w_c19
  · exact w_c20
set_option maxRecDepth 65536 in
theorem w_t1 : (words1.take 24).all (fun c => isCode c || c.before args0 about1) = true := by decide +kernel
set_option maxRecDepth 65536 in
theorem w_t2 : ((words1.drop 24).take 24).all (fun c => isCode c || c.before args0 about1) = true := by decide +kernel
set_option maxRecDepth 65536 in
theorem w_t3 : (((words1.drop 24).drop 24).take 24).all (fun c => isCode c || c.before args0 about1) = true := by decide +kernel
set_option maxRecDepth 65536 in
theorem w_t4 : ((((words1.drop 24).drop 24).drop 24).take 24).all (fun c => isCode c || c.before args0 about1) = true := by decide +kernel
set_option maxRecDepth 65536 in
theorem w_t5 : (((((words1.drop 24).drop 24).drop 24).drop 24).take 24).all (fun c => isCode c || c.before args0 about1) = true := by decide +kernel
set_option maxRecDepth 65536 in
theorem w_t6 : (((((words1.drop 24).drop 24).drop 24).drop 24).drop 24).all (fun c => isCode c || c.before args0 about1) = true := by decide +kernel
theorem w_tables : (allAtoms (Jvm.Cond.code x code maxLocals ret :: tables_1)).before args0 about1 = true := by
  rw [allAtoms_all]
  show words1.all (fun c => c.before args0 about1) = true
  refine all_split ?_ w_codes
  rw [← List.take_append_drop 24 words1, List.all_append, w_t1, ← List.take_append_drop 24 (words1.drop 24), List.all_append, w_t2, ← List.take_append_drop 24 ((words1.drop 24).drop 24), List.all_append, w_t3, ← List.take_append_drop 24 (((words1.drop 24).drop 24).drop 24), List.all_append, w_t4, ← List.take_append_drop 24 ((((words1.drop 24).drop 24).drop 24).drop 24), List.all_append, w_t5, w_t6]
  rfl
set_option maxRecDepth 65536 in
theorem w_case : (Jvm.Cond.and given_1 narrow_1).before args0 about1 = true := by decide +kernel
theorem w_applies : (headSpec (Jvm.Cond.code x code maxLocals ret :: tables_1) room_1).applies x e0.platform about1 = true :=
  (Spec.applies_iff w_frames).mpr ⟨w_running, w_runnable, w_alone, w_named, w_hears, w_ripe, w_room, w_tables⟩
theorem atStart : AtStart classFile x code maxLocals ret World_1 tables_1 room_1 Calls_1 rest_1 Pre_1 launch0 p0 e0 about1 theMethod args0 below0 :=
  ⟨lists_1, trivial, launch0.admits_env _ _ _, launch0.least_env, fairChoices_fair.cas, fairChoices_fair.clock, w_frames, w_args, w_heap, w_applies, trivial, trivial, w_case⟩
end start1
theorem witness_1 : WitnessClaimed_1 := ⟨start1.p0, start1.e0, start1.about1, start1.theMethod, start1.args0, start1.below0, start1.atStart⟩
end Jvm.Pilot.@@N@@
