import JvmDerived
import JvmDerived.Pilot.@@N@@Statement
import JvmDerived.Pilot.@@N@@Code
set_option linter.unusedVariables false
set_option linter.unusedSimpArgs false
@@BLOCK:NumsL.lean.txt@@
namespace Jvm.RoadKit
open Sem ClassFile Op Lib Jvm.Stand Jvm.Free Jvm.LawKit
section New
variable {p : Program} {l : Launch} {e : Env} {R : Room} {s : State} {m : MethodId} {args : Array Value} {below : List Frame} {meth : Method} {c : Code} {T : State} {locs : List Loc} {cells slots : Nat}
theorem retI (X : Stand p l e R s m args below meth c T locs cells slots) (hx : p.tables.exec = Jvm.exec) {pc : Nat} {Ls : Array Slot} {z : Int32} {rest : List Value} (hret : meth.sig.returnType = some .int) (hd : decode c.code pc = .ok (.ireturn, 1)) {fs : List Frame}
    (hl : ∀ (f : JFrame) (acts : List Action), f.method = m → f.locked = none → f.entered = [] → (doReturn e (T.setTop f) acts (some (.int z))).1 = T.setFrames fs) : Steps p.tables e below (T.setTop (mkF m pc Ls (.int z :: rest))) (T.setFrames fs) := by
  have hm' : T.vm.method? m = some meth := X.method'
  have hn : narrow .int (.int z) = .int z := rfl
  show Steps p.tables e below (T.setTop { method := m, pc := pc, locals := Ls, stack := _ :: rest, locked := none }) _
  jvm_step X.here [X.here.top, hx, hd, hm', hret, hn]
  first | (intro acts; rw [hl _ acts rfl rfl rfl]) | rw [hl _ _ rfl rfl rfl]
  exact Steps.refl _
theorem own_retD (X : Stand p l e R s m args below meth c T locs cells slots) (hx : p.tables.exec = Jvm.exec) {pc : Nat} {Ls : Array Slot} {z : UInt64} {rest : List Value} (hret : meth.sig.returnType = some .double) (hd : decode c.code pc = .ok (.dreturn, 1)) {fs : List Frame}
    (hl : ∀ (f : JFrame) (acts : List Action), f.method = m → f.locked = none → f.entered = [] → (doReturn e (T.setTop f) acts (some (.double z))).1 = T.setFrames fs) : Steps p.tables e below (T.setTop (mkF m pc Ls (.double z :: rest))) (T.setFrames fs) := by
  have hm' : T.vm.method? m = some meth := X.method'
  have hn : narrow .double (.double z) = .double z := rfl
  show Steps p.tables e below (T.setTop { method := m, pc := pc, locals := Ls, stack := _ :: rest, locked := none }) _
  jvm_step X.here [X.here.top, hx, hd, hm', hret, hn]
  first | (intro acts; rw [hl _ acts rfl rfl rfl]) | rw [hl _ _ rfl rfl rfl]
  exact Steps.refl _
theorem own_stand {L1 L2 : List Loc} {c1 c2 n1 n2 : Nat} (X : Stand p l e R s m args below meth c T L1 c1 n1) (h1 : L1 = L2) (h2 : c1 = c2) (h3 : n1 = n2) : Stand p l e R s m args below meth c T L2 c2 n2 := by
  subst h1 h2 h3
  exact X
end New
end Jvm.RoadKit
namespace Jvm.Pilot.@@N@@
open Jvm Jvm.ClassFile Sem Op Lib Jvm.Free Jvm.Stand Jvm.LawKit Jvm.RoadKit Bundle Jvm.Pilot.@@N@@.Jvm.D
theorem own_rem32 (x y : Int32) : (x - (x / y) * y).toInt = x.toInt.tmod y.toInt := by
  rw [Int32.toInt_sub, Int32.toInt_mul, Int32.toInt_div]
  simp only [Int.bmod_mul_bmod, Int.sub_bmod_bmod]
  rw [Int.tmod_def, Int.mul_comm y.toInt]
  have h := Int32.toInt_mod x y
  have h1 := (x % y).toInt_lt
  have h2 := (x % y).le_toInt
  rw [h, Int.tmod_def, Int.mul_comm y.toInt] at h1 h2
  exact Int.bmod_eq_of_le (by omega) (by omega)
theorem own_b (x : Int32) : B53 x.toInt64 := by
  have a := x.toInt_lt
  have b := x.le_toInt
  unfold B53
  rw [Jvm.Kit.i64_of_i32]
  omega
theorem own_sub (x y : Int32) : FP.dsub (FP.i2d x) (FP.i2d y) = FP.l2d (x.toInt64 - y.toInt64) := by
  rw [i2d_w, i2d_w, dsub_w (own_b x) (own_b y)]
theorem own_nn (x y : Int32) : Jvm.Free.Fl.NoNaN64 (FP.dsub (FP.i2d x) (FP.i2d y)) := nn_w (own_sub x y)
theorem own_cmp (x y : Int32) : cmpValue (FP.dcmp (FP.dsub (FP.i2d x) (FP.i2d y)) (FP.l2d (x.toInt64 - y.toInt64))) .l = 0 := by
  rw [own_sub]
  exact dcmpV_self (nn_w rfl) .l
theorem d2_0 : decode jdk_30_method_1_code 0 = .ok (.aload_n 0, 1) := by decide +kernel
theorem d2_1 : decode jdk_30_method_1_code 1 = .ok (.invokespecial 1, 3) := by decide +kernel
theorem d2_4 : decode jdk_30_method_1_code 4 = .ok (.return_, 1) := by decide +kernel
theorem pn_java_lang_Record : plainName "java/lang/Record" = true := by first | (simp [plainName, overriddenIn]; done) | decide +kernel
theorem ef_2 (m : MethodId) (o0 : Addr) : entryFrame m #[(.ref o0)] 1 = mkF m 0 #[.val (.ref o0)] [] := by first | (simp [entryFrame, mkF, argsToLocals, Value.category]; done) | rfl
def Q2 (Z : State) (o0 : Addr) (h0 : Heap) (n0 : Nat) (v : Option Value) (h : Heap) (L : List Loc) : Prop := Fr n0 L ∧ v = none ∧ h = h0
set_option maxRecDepth 65536 in
set_option maxHeartbeats 40000000 in
theorem rm2 (l : Launch) (Z : State) (a0 : Array Value) (hw : ∀ d ∈ tables_1, d.before a0 Z = true) (ws : List Jvm.Cond) (o0 : Addr) (h0 : Heap) (n0 : Nat) (Z0 : n0 ≤ h0.size) :
    MetFree l (⟨"java/lang/Record", "<init>", "()V"⟩ : MethodName) (head1 (Jvm.Cond.code (⟨"java/lang/Record", "<init>", "()V"⟩ : MethodName) jdk_30_method_1_code 1 none :: ws) ({ frames := 1, cells := 0, slots := 0, locals := 12 } : Room)) (fun a U => a = #[(.ref o0)] ∧ Z.Warmed39 U.vm ∧ U.heap = h0) (fun _ _ _ _ _ => True) (fun _ U o U' => ∃ v L, o = .returned v ∧ Q2 Z o0 h0 n0 v U'.heap L ∧ FrameEnd U o U' L ({ frames := 1, cells := 0, slots := 0, locals := 12 } : Room).cells ({ frames := 1, cells := 0, slots := 0, locals := 12 } : Room).slots) := by
  refine MetFree.of_bodySF (plainFor_of_name pn_java_lang_Record) hisR ?_
  intro p e s m args below meth c s₁ Bd hml0 hP hK
  obtain ⟨rfl, hZ, hh⟩ := hP
  have hx := Bd.exec
  have hby := Bd.bytes
  have hml : c.maxLocals = 1 := hml0
  have hown : s.vm.findClass "java/lang/Record" = some m.cls := findClass_of_methodNamed Bd.named
  have hnm := (name_of_methodNamed Bd.named Bd.method).1
  have hlk := BodyLoose.notSynchronized Bd
  have X0 : Stand p l e ({ frames := 1, cells := 0, slots := 0, locals := 12 } : Room) s m #[(.ref o0)] below meth c s₁ [] 0 0 := Stand.of_body Bd
  have e0 : s₁.heap = h0 := by rw [← hh, Bd.state]; rfl
  have N0 := Fr.nil n0
  have pre0 : ∀ t, Steps p.tables e below (s₁.setTop (mkF m 0 #[.val (.ref o0)] [])) t → Steps p.tables e below (s₁.setTop (entryFrame m #[(.ref o0)] 1)) t := fun t k => castTop (ef_2 m o0) k
  obtain ⟨T1, X1, e1, st1⟩ := initO X0 hx hZ hown (hw _ (List.mem_of_getElem? (i := 11) rfl)) (hw _ (List.mem_of_getElem? (i := 12) rfl)) (hw _ (List.mem_of_getElem? (i := 13) rfl)) e0 (g := (mkF m 1 #[.val (.ref o0)] [(.ref o0)])) rfl (by rw [hml]; rfl) rfl (hb hby d2_1) (by decide) (W := 0) (by show 2 * 0 + _ ≤ _; exact Nat.le_of_eq rfl) (by decide)
  obtain ⟨fs, hr, hrun, hended, hW, hsame⟩ := X1.leave (v := none) (fun _ => rfl) hlk
  refine ⟨_, _, pre0 _ ?_, hrun, hended, _, _, rfl, ?_, ⟨_, rfl⟩, hW, hsame.mono (by decide) (by decide)⟩
  · skip
    show Steps p.tables e below (s₁.setTop (mkF m 0 #[.val (.ref o0)] [])) _
    refine XS.aloadN X0.here hx rfl (hb hby d2_0) rfl rfl ?_
    show Steps p.tables e below (s₁.setTop (mkF m 1 #[.val (.ref o0)] [(.ref o0)])) _
    refine st1 _ ?_
    show Steps p.tables e below (T1.setTop (mkF m 4 #[.val (.ref o0)] [])) _
    exact X1.returnOut hx Bd.returns (hb hby d2_4) hr
  · skip
    show Q2 Z o0 h0 n0 _ T1.heap _
    rw [e1]
    exact ⟨N0, rfl, rfl⟩
theorem pd___V : parseMethodDescriptor "()V" = some ⟨[], none⟩ := by decide +kernel
theorem d1_0 : decode prog_3_method_1_code 0 = .ok (.aload_n 0, 1) := by decide +kernel
theorem d1_1 : decode prog_3_method_1_code 1 = .ok (.invokespecial 1, 3) := by decide +kernel
theorem d1_4 : decode prog_3_method_1_code 4 = .ok (.aload_n 0, 1) := by decide +kernel
theorem d1_5 : decode prog_3_method_1_code 5 = .ok (.dload_n 1, 1) := by decide +kernel
theorem d1_6 : decode prog_3_method_1_code 6 = .ok (.putfield 7, 3) := by decide +kernel
theorem d1_9 : decode prog_3_method_1_code 9 = .ok (.aload_n 0, 1) := by decide +kernel
theorem d1_10 : decode prog_3_method_1_code 10 = .ok (.dload_n 3, 1) := by decide +kernel
theorem d1_11 : decode prog_3_method_1_code 11 = .ok (.putfield 13, 3) := by decide +kernel
theorem d1_14 : decode prog_3_method_1_code 14 = .ok (.return_, 1) := by decide +kernel
theorem pn_com_example_dispatch_by_catalog_dispatchbycatalog_ServerCpu : plainName "com/example/dispatch_by_catalog/dispatchbycatalog/ServerCpu" = true := by first | (simp [plainName, overriddenIn]; done) | decide +kernel
theorem ef_1 (m : MethodId) (o0 : Addr) (d1 : UInt64) (d2 : UInt64) : entryFrame m #[(.ref o0), (.double d1), (.double d2)] 5 = mkF m 0 #[.val (.ref o0), .val (.double d1), .second, .val (.double d2), .second] [] := by first | (simp [entryFrame, mkF, argsToLocals, Value.category]; done) | rfl
def Q1 (Z : State) (o0 : Addr) (d1 : UInt64) (d2 : UInt64) (u0_total : Value) (u1_compiling : Value) (h0 : Heap) (n0 : Nat) (v : Option Value) (h : Heap) (L : List Loc) : Prop := Fr n0 L ∧ v = none ∧ Keep h0 h [o0] ∧ Exa Z h o0 "com/example/dispatch_by_catalog/dispatchbycatalog/ServerCpu" ∧ Fld Z h o0 "com/example/dispatch_by_catalog/dispatchbycatalog/ServerCpu" "total" "D" (.double d1) ∧ Fld Z h o0 "com/example/dispatch_by_catalog/dispatchbycatalog/ServerCpu" "compiling" "D" (.double d2)
set_option maxRecDepth 65536 in
set_option maxHeartbeats 40000000 in
theorem rm1 (l : Launch) (Z : State) (a0 : Array Value) (hw : ∀ d ∈ tables_1, d.before a0 Z = true) (ws : List Jvm.Cond) (o0 : Addr) (d1 : UInt64) (d2 : UInt64) (u0_total : Value) (u1_compiling : Value) (h0 : Heap) (n0 : Nat) (Z0 : n0 ≤ h0.size) (E_o0 : Exa Z h0 o0 "com/example/dispatch_by_catalog/dispatchbycatalog/ServerCpu") (F_total_o0 : Fld Z h0 o0 "com/example/dispatch_by_catalog/dispatchbycatalog/ServerCpu" "total" "D" u0_total) (g_o0 : n0 ≤ o0) (F_compiling_o0 : Fld Z h0 o0 "com/example/dispatch_by_catalog/dispatchbycatalog/ServerCpu" "compiling" "D" u1_compiling) :
    MetFree l (⟨"com/example/dispatch_by_catalog/dispatchbycatalog/ServerCpu", "<init>", "(DD)V"⟩ : MethodName) (head1 (Jvm.Cond.code (⟨"com/example/dispatch_by_catalog/dispatchbycatalog/ServerCpu", "<init>", "(DD)V"⟩ : MethodName) prog_3_method_1_code 5 none :: ws) ({ frames := 2, cells := 0, slots := 0, locals := 24 } : Room)) (fun a U => a = #[(.ref o0), (.double d1), (.double d2)] ∧ Z.Warmed39 U.vm ∧ U.heap = h0) (fun _ _ _ _ _ => True) (fun _ U o U' => ∃ v L, o = .returned v ∧ Q1 Z o0 d1 d2 u0_total u1_compiling h0 n0 v U'.heap L ∧ FrameEnd U o U' L ({ frames := 2, cells := 0, slots := 0, locals := 24 } : Room).cells ({ frames := 2, cells := 0, slots := 0, locals := 24 } : Room).slots) := by
  refine MetFree.of_bodySF (plainFor_of_name pn_com_example_dispatch_by_catalog_dispatchbycatalog_ServerCpu) hisR ?_
  intro p e s m args below meth c s₁ Bd hml0 hP hK
  obtain ⟨rfl, hZ, hh⟩ := hP
  have hx := Bd.exec
  have hby := Bd.bytes
  have hml : c.maxLocals = 5 := hml0
  have hown : s.vm.findClass "com/example/dispatch_by_catalog/dispatchbycatalog/ServerCpu" = some m.cls := findClass_of_methodNamed Bd.named
  have hnm := (name_of_methodNamed Bd.named Bd.method).1
  have hlk := BodyLoose.notSynchronized Bd
  have X0 : Stand p l e ({ frames := 2, cells := 0, slots := 0, locals := 24 } : Room) s m #[(.ref o0), (.double d1), (.double d2)] below meth c s₁ [] 0 0 := Stand.of_body Bd
  have e0 : s₁.heap = h0 := by rw [← hh, Bd.state]; rfl
  have N0 := Fr.nil n0
  have pre0 : ∀ t, Steps p.tables e below (s₁.setTop (mkF m 0 #[.val (.ref o0), .val (.double d1), .second, .val (.double d2), .second] [])) t → Steps p.tables e below (s₁.setTop (entryFrame m #[(.ref o0), (.double d1), (.double d2)] 5)) t := fun t k => castTop (ef_1 m o0 d1 d2) k
  obtain ⟨vr1, _, ⟨T1, L1, k1, n1⟩, -, X1, ⟨Lc1, hQ1, l1, y1, z1⟩, st1⟩ := X0.specialBack hx (y := (⟨"java/lang/Record", "<init>", "()V"⟩ : MethodName)) rfl hown (mvT hZ (hw _ (List.mem_of_getElem? (i := 6) rfl))) (mvT hZ (hw _ (List.mem_of_getElem? (i := 7) rfl))) (mvT hZ (hw _ (List.mem_of_getElem? (i := 10) rfl))) (by decide) (backOf (W := 0) (rm2 l Z a0 hw [] o0 h0 n0 Z0) hZ (hw _ (List.mem_of_getElem? (i := 10) rfl)) (hw _ (List.mem_of_getElem? (i := 9) rfl)) (by decide) (by decide)) (g := (mkF m 1 #[.val (.ref o0), .val (.double d1), .second, .val (.double d2), .second] [(.ref o0)])) rfl (by rw [hml]; rfl) (Steps.refl _) (a := o0) (argsL := []) (rest := []) (lenOf pd___V rfl) rfl (by show 2 * 0 + _ ≤ _; exact Nat.le_of_eq rfl) (hb hby d1_1) (fun _ _ => ⟨rfl, e0, (by decide : 0 + 0 ≤ _), (by decide : 0 + 0 ≤ _)⟩)
  dsimp only [Pt.U, Pt.locs, Pt.cells, Pt.slots] at X1 l1 y1 z1 st1 hQ1
  replace X1 := own_stand X1 l1 y1 z1
  clear l1 y1 z1
  have N1q := (show _ ∧ _ ∧ _ from hQ1).1
  have hv1 := (show _ ∧ _ ∧ _ from hQ1).2.1
  have e1 := (show _ ∧ _ ∧ _ from hQ1).2.2
  clear hQ1
  subst hv1
  have N1 := Fr.app N0 N1q
  obtain ⟨T2, h2, X2, e2, W2, st2⟩ := putF X1 hx hZ hown (host := "") (Or.inl (hw _ (List.mem_of_getElem? (i := 14) rfl))) Via.refl e1 F_total_o0 E_o0 (Or.inr ⟨(hw _ (List.mem_of_getElem? (i := 15) rfl)), rfl, hnm⟩) (hw _ (List.mem_of_getElem? (i := 1) rfl)) (ty := .double) (by decide) rfl rfl (g := (mkF m 6 #[.val (.ref o0), .val (.double d1), .second, .val (.double d2), .second] [(.double d1), (.ref o0)])) rfl rfl (hb hby d1_6)
  have Fw2 := F_total_o0.same W2
  have N2 := Fr.snoc X2 N1 g_o0
  have z3 : n0 ≤ h2.size := Nat.le_trans Z0 (Keep.of_wr W2).1
  have hs4 : h0.size ≤ h2.size := Nat.le_trans (Nat.le_refl h0.size) (Keep.of_wr W2).1
  have k5 := (F_compiling_o0.other W2 (Or.inr (slot_ne (Or.inr (hw _ (List.mem_of_getElem? (i := 17) rfl))) (Or.inr (hw _ (List.mem_of_getElem? (i := 15) rfl))) (by decide) (t := .double) (t' := .double) (by decide) (by decide))))
  have k6 := (E_o0.wr W2)
  obtain ⟨T7, h7, X7, e7, W7, st7⟩ := putF X2 hx hZ hown (host := "") (Or.inl (hw _ (List.mem_of_getElem? (i := 16) rfl))) Via.refl e2 k5 k6 (Or.inr ⟨(hw _ (List.mem_of_getElem? (i := 17) rfl)), rfl, hnm⟩) (hw _ (List.mem_of_getElem? (i := 1) rfl)) (ty := .double) (by decide) rfl rfl (g := (mkF m 11 #[.val (.ref o0), .val (.double d1), .second, .val (.double d2), .second] [(.double d2), (.ref o0)])) rfl rfl (hb hby d1_11)
  have Fw7 := k5.same W7
  have N7 := Fr.snoc X7 N2 g_o0
  have z8 : n0 ≤ h7.size := Nat.le_trans z3 (Keep.of_wr W7).1
  have hs9 : h0.size ≤ h7.size := Nat.le_trans hs4 (Keep.of_wr W7).1
  obtain ⟨fs, hr, hrun, hended, hW, hsame⟩ := X7.leave (v := none) (fun _ => rfl) hlk
  refine ⟨_, _, pre0 _ ?_, hrun, hended, _, _, rfl, ?_, ⟨_, rfl⟩, hW, hsame.mono (by decide) (by decide)⟩
  · skip
    show Steps p.tables e below (s₁.setTop (mkF m 0 #[.val (.ref o0), .val (.double d1), .second, .val (.double d2), .second] [])) _
    refine XS.aloadN X0.here hx rfl (hb hby d1_0) rfl rfl ?_
    show Steps p.tables e below (s₁.setTop (mkF m 1 #[.val (.ref o0), .val (.double d1), .second, .val (.double d2), .second] [(.ref o0)])) _
    refine st1.trans ?_
    show Steps p.tables e below (T1.setTop (mkF m 4 #[.val (.ref o0), .val (.double d1), .second, .val (.double d2), .second] [])) _
    refine XS.aloadN X1.here hx rfl (hb hby d1_4) rfl rfl ?_
    show Steps p.tables e below (T1.setTop (mkF m 5 #[.val (.ref o0), .val (.double d1), .second, .val (.double d2), .second] [(.ref o0)])) _
    refine XS.dloadN X1.here hx rfl (hb hby d1_5) rfl ?_
    show Steps p.tables e below (T1.setTop (mkF m 6 #[.val (.ref o0), .val (.double d1), .second, .val (.double d2), .second] [(.double d1), (.ref o0)])) _
    refine st2 _ ?_
    show Steps p.tables e below (T2.setTop (mkF m 9 #[.val (.ref o0), .val (.double d1), .second, .val (.double d2), .second] [])) _
    refine XS.aloadN X2.here hx rfl (hb hby d1_9) rfl rfl ?_
    show Steps p.tables e below (T2.setTop (mkF m 10 #[.val (.ref o0), .val (.double d1), .second, .val (.double d2), .second] [(.ref o0)])) _
    refine XS.dloadN X2.here hx rfl (hb hby d1_10) rfl ?_
    show Steps p.tables e below (T2.setTop (mkF m 11 #[.val (.ref o0), .val (.double d1), .second, .val (.double d2), .second] [(.double d2), (.ref o0)])) _
    refine st7 _ ?_
    show Steps p.tables e below (T7.setTop (mkF m 14 #[.val (.ref o0), .val (.double d1), .second, .val (.double d2), .second] [])) _
    exact X7.returnOut hx Bd.returns (hb hby d1_14) hr
  · skip
    show Q1 Z o0 d1 d2 u0_total u1_compiling h0 n0 _ T7.heap _
    rw [e7]
    have k10 := (k6.wr W7)
    have k11 := (Fw2.other W7 (Or.inr (slot_ne (Or.inr (hw _ (List.mem_of_getElem? (i := 15) rfl))) (Or.inr (hw _ (List.mem_of_getElem? (i := 17) rfl))) (by decide) (t := .double) (t' := .double) (by decide) (by decide))))
    exact ⟨N7, rfl, (((Keep.refl h0 [o0]).wr W2 (Or.inl (List.mem_of_getElem? (i := 0) rfl))).wr W7 (Or.inl (List.mem_of_getElem? (i := 0) rfl))), k10, k11, Fw7⟩
theorem pd__DD_V : parseMethodDescriptor "(DD)V" = some ⟨[.double, .double], none⟩ := by decide +kernel
theorem d4_0 : decode prog_3_method_3_code 0 = .ok (.new 8, 3) := by decide +kernel
theorem d4_3 : decode prog_3_method_3_code 3 = .ok (.dup, 1) := by decide +kernel
theorem d4_4 : decode prog_3_method_3_code 4 = .ok (.aload_n 1, 1) := by decide +kernel
theorem d4_5 : decode prog_3_method_3_code 5 = .ok (.getfield 7, 3) := by decide +kernel
theorem d4_8 : decode prog_3_method_3_code 8 = .ok (.aload_n 0, 1) := by decide +kernel
theorem d4_9 : decode prog_3_method_3_code 9 = .ok (.getfield 7, 3) := by decide +kernel
theorem d4_12 : decode prog_3_method_3_code 12 = .ok (.dsub, 1) := by decide +kernel
theorem d4_13 : decode prog_3_method_3_code 13 = .ok (.aload_n 1, 1) := by decide +kernel
theorem d4_14 : decode prog_3_method_3_code 14 = .ok (.getfield 13, 3) := by decide +kernel
theorem d4_17 : decode prog_3_method_3_code 17 = .ok (.aload_n 0, 1) := by decide +kernel
theorem d4_18 : decode prog_3_method_3_code 18 = .ok (.getfield 13, 3) := by decide +kernel
theorem d4_21 : decode prog_3_method_3_code 21 = .ok (.dsub, 1) := by decide +kernel
theorem d4_22 : decode prog_3_method_3_code 22 = .ok (.invokespecial 134, 3) := by decide +kernel
theorem d4_25 : decode prog_3_method_3_code 25 = .ok (.areturn, 1) := by decide +kernel
theorem ef_4 (m : MethodId) (o0 : Addr) (o1 : Addr) : entryFrame m #[(.ref o0), (.ref o1)] 2 = mkF m 0 #[.val (.ref o0), .val (.ref o1)] [] := by first | (simp [entryFrame, mkF, argsToLocals, Value.category]; done) | rfl
def v4_1 (w0_total : UInt64) (w1_total : UInt64) (w2_compiling : UInt64) (w3_compiling : UInt64) : UInt64 := (FP.dsub w0_total w1_total)
def v4_2 (w0_total : UInt64) (w1_total : UInt64) (w2_compiling : UInt64) (w3_compiling : UInt64) : UInt64 := (FP.dsub w2_compiling w3_compiling)
def Q4 (Z : State) (o0 : Addr) (o1 : Addr) (w0_total : UInt64) (w1_total : UInt64) (w2_compiling : UInt64) (w3_compiling : UInt64) (h0 : Heap) (n0 : Nat) (v : Option Value) (h : Heap) (L : List Loc) : Prop := Fr n0 L ∧ ∃ (x4_0 : Addr), v = some (.ref x4_0) ∧ h0.size ≤ x4_0 ∧ Keep h0 h [] ∧ Exa Z h x4_0 "com/example/dispatch_by_catalog/dispatchbycatalog/ServerCpu" ∧ Fld Z h x4_0 "com/example/dispatch_by_catalog/dispatchbycatalog/ServerCpu" "total" "D" (.double (v4_1 w0_total w1_total w2_compiling w3_compiling)) ∧ Fld Z h x4_0 "com/example/dispatch_by_catalog/dispatchbycatalog/ServerCpu" "compiling" "D" (.double (v4_2 w0_total w1_total w2_compiling w3_compiling))
set_option maxRecDepth 65536 in
set_option maxHeartbeats 40000000 in
theorem rm4 (l : Launch) (Z : State) (a0 : Array Value) (hw : ∀ d ∈ tables_1, d.before a0 Z = true) (ws : List Jvm.Cond) (o0 : Addr) (o1 : Addr) (w0_total : UInt64) (w1_total : UInt64) (w2_compiling : UInt64) (w3_compiling : UInt64) (h0 : Heap) (n0 : Nat) (Z0 : n0 ≤ h0.size) (F_total_o1 : Fld Z h0 o1 "com/example/dispatch_by_catalog/dispatchbycatalog/ServerCpu" "total" "D" (.double w0_total)) (F_total_o0 : Fld Z h0 o0 "com/example/dispatch_by_catalog/dispatchbycatalog/ServerCpu" "total" "D" (.double w1_total)) (hy0 : Jvm.Free.Fl.NoNaN64 (FP.dsub w0_total w1_total)) (F_compiling_o1 : Fld Z h0 o1 "com/example/dispatch_by_catalog/dispatchbycatalog/ServerCpu" "compiling" "D" (.double w2_compiling)) (F_compiling_o0 : Fld Z h0 o0 "com/example/dispatch_by_catalog/dispatchbycatalog/ServerCpu" "compiling" "D" (.double w3_compiling)) (hy1 : Jvm.Free.Fl.NoNaN64 (FP.dsub w2_compiling w3_compiling)) :
    MetFree l (⟨"com/example/dispatch_by_catalog/dispatchbycatalog/ServerCpu", "until", "(Lcom/example/dispatch_by_catalog/dispatchbycatalog/ServerCpu;)Lcom/example/dispatch_by_catalog/dispatchbycatalog/ServerCpu;"⟩ : MethodName) (head1 (Jvm.Cond.code (⟨"com/example/dispatch_by_catalog/dispatchbycatalog/ServerCpu", "until", "(Lcom/example/dispatch_by_catalog/dispatchbycatalog/ServerCpu;)Lcom/example/dispatch_by_catalog/dispatchbycatalog/ServerCpu;"⟩ : MethodName) prog_3_method_3_code 2 (some (.object "com/example/dispatch_by_catalog/dispatchbycatalog/ServerCpu")) :: ws) ({ frames := 3, cells := 1, slots := 2, locals := 41 } : Room)) (fun a U => a = #[(.ref o0), (.ref o1)] ∧ Z.Warmed39 U.vm ∧ U.heap = h0) (fun _ _ _ _ _ => True) (fun _ U o U' => ∃ v L, o = .returned v ∧ Q4 Z o0 o1 w0_total w1_total w2_compiling w3_compiling h0 n0 v U'.heap L ∧ FrameEnd U o U' L ({ frames := 3, cells := 1, slots := 2, locals := 41 } : Room).cells ({ frames := 3, cells := 1, slots := 2, locals := 41 } : Room).slots) := by
  refine MetFree.of_bodySF (plainFor_of_name pn_com_example_dispatch_by_catalog_dispatchbycatalog_ServerCpu) hisR ?_
  intro p e s m args below meth c s₁ Bd hml0 hP hK
  obtain ⟨rfl, hZ, hh⟩ := hP
  have hx := Bd.exec
  have hby := Bd.bytes
  have hml : c.maxLocals = 2 := hml0
  have hown : s.vm.findClass "com/example/dispatch_by_catalog/dispatchbycatalog/ServerCpu" = some m.cls := findClass_of_methodNamed Bd.named
  have hnm := (name_of_methodNamed Bd.named Bd.method).1
  have hlk := BodyLoose.notSynchronized Bd
  have X0 : Stand p l e ({ frames := 3, cells := 1, slots := 2, locals := 41 } : Room) s m #[(.ref o0), (.ref o1)] below meth c s₁ [] 0 0 := Stand.of_body Bd
  have e0 : s₁.heap = h0 := by rw [← hh, Bd.state]; rfl
  have N0 := Fr.nil n0
  have pre0 : ∀ t, Steps p.tables e below (s₁.setTop (mkF m 0 #[.val (.ref o0), .val (.ref o1)] [])) t → Steps p.tables e below (s₁.setTop (entryFrame m #[(.ref o0), (.ref o1)] 2)) t := fun t k => castTop (ef_4 m o0 o1) k
  obtain ⟨T1, h1, X1, e1, E1, A1, D1, -, st1⟩ := newO X0 hx hZ hown (hw _ (List.mem_of_getElem? (i := 23) rfl)) (hw _ (List.mem_of_getElem? (i := 1) rfl)) (hw _ (List.mem_of_getElem? (i := 2) rfl)) e0 (g := (mkF m 0 #[.val (.ref o0), .val (.ref o1)] [])) rfl (hb hby d4_0) (by decide) (by decide)
  obtain ⟨b1, gz1⟩ : ∃ z, z = h0.size := ⟨_, rfl⟩
  rw [← gz1] at A1 D1 st1
  have ne2 : o1 ≠ b1 := Nat.ne_of_lt (Nat.lt_of_lt_of_le F_total_o1.lt (Nat.le_of_eq gz1.symm))
  have ne3 : o0 ≠ b1 := Nat.ne_of_lt (Nat.lt_of_lt_of_le F_total_o0.lt (Nat.le_of_eq gz1.symm))
  have g4 : n0 ≤ b1 := Nat.le_trans Z0 (Nat.le_of_eq gz1.symm)
  have sz5 : h0.size ≤ b1 := Nat.le_trans (Nat.le_refl h0.size) (Nat.le_of_eq gz1.symm)
  have z6 : n0 ≤ h1.size := Nat.le_trans Z0 E1.1
  have hs7 : h0.size ≤ h1.size := Nat.le_trans (Nat.le_refl h0.size) E1.1
  have F1_total : Fld Z h1 b1 "com/example/dispatch_by_catalog/dispatchbycatalog/ServerCpu" "total" "D" (.double (0 : UInt64)) := D1 (Or.inr (hw _ (List.mem_of_getElem? (i := 15) rfl))) (ty := .double) (by decide)
  have F1_compiling : Fld Z h1 b1 "com/example/dispatch_by_catalog/dispatchbycatalog/ServerCpu" "compiling" "D" (.double (0 : UInt64)) := D1 (Or.inr (hw _ (List.mem_of_getElem? (i := 17) rfl))) (ty := .double) (by decide)
  have k8 := (F_total_o1.ext E1)
  obtain ⟨T9, X9, e9, st9⟩ := getF X1 hx hZ hown (host := "") (Or.inl (hw _ (List.mem_of_getElem? (i := 14) rfl))) Via.refl e1 k8 (g := (mkF m 5 #[.val (.ref o0), .val (.ref o1)] [(.ref o1), (.ref b1), (.ref b1)])) rfl rfl (hb hby d4_5)
  have k10 := (F_total_o0.ext E1)
  obtain ⟨T11, X11, e11, st11⟩ := getF X9 hx hZ hown (host := "") (Or.inl (hw _ (List.mem_of_getElem? (i := 14) rfl))) Via.refl e9 k10 (g := (mkF m 9 #[.val (.ref o0), .val (.ref o1)] [(.ref o0), (.double w0_total), (.ref b1), (.ref b1)])) rfl rfl (hb hby d4_9)
  have k12 := (F_compiling_o1.ext E1)
  obtain ⟨T13, X13, e13, st13⟩ := getF X11 hx hZ hown (host := "") (Or.inl (hw _ (List.mem_of_getElem? (i := 16) rfl))) Via.refl e11 k12 (g := (mkF m 14 #[.val (.ref o0), .val (.ref o1)] [(.ref o1), (.double (FP.dsub w0_total w1_total)), (.ref b1), (.ref b1)])) rfl rfl (hb hby d4_14)
  have k14 := (F_compiling_o0.ext E1)
  obtain ⟨T15, X15, e15, st15⟩ := getF X13 hx hZ hown (host := "") (Or.inl (hw _ (List.mem_of_getElem? (i := 16) rfl))) Via.refl e13 k14 (g := (mkF m 18 #[.val (.ref o0), .val (.ref o1)] [(.ref o0), (.double w2_compiling), (.double (FP.dsub w0_total w1_total)), (.ref b1), (.ref b1)])) rfl rfl (hb hby d4_18)
  obtain ⟨vr16, _, ⟨T16, L16, k16, n16⟩, -, X16, ⟨Lc16, hQ16, l16, y16, z16⟩, st16⟩ := X15.specialBack hx (y := (⟨"com/example/dispatch_by_catalog/dispatchbycatalog/ServerCpu", "<init>", "(DD)V"⟩ : MethodName)) rfl hown (mvT hZ (hw _ (List.mem_of_getElem? (i := 24) rfl))) (mvT hZ (hw _ (List.mem_of_getElem? (i := 4) rfl))) (mvT hZ (hw _ (List.mem_of_getElem? (i := 5) rfl))) (by decide) (backOf (W := 1) (rm1 l Z a0 hw [] b1 (v4_1 w0_total w1_total w2_compiling w3_compiling) (v4_2 w0_total w1_total w2_compiling w3_compiling) (.double (0 : UInt64)) (.double (0 : UInt64)) h1 n0 z6 A1 F1_total g4 F1_compiling) hZ (hw _ (List.mem_of_getElem? (i := 5) rfl)) (hw _ (List.mem_of_getElem? (i := 2) rfl)) (by decide) (by decide)) (g := (mkF m 22 #[.val (.ref o0), .val (.ref o1)] [(.double (v4_2 w0_total w1_total w2_compiling w3_compiling)), (.double (v4_1 w0_total w1_total w2_compiling w3_compiling)), (.ref b1), (.ref b1)])) rfl (by rw [hml]; rfl) (Steps.refl _) (a := b1) (argsL := [(.double (v4_1 w0_total w1_total w2_compiling w3_compiling)), (.double (v4_2 w0_total w1_total w2_compiling w3_compiling))]) (rest := [(.ref b1)]) (lenOf pd__DD_V rfl) rfl (by show 2 * 0 + _ ≤ _; exact Nat.le_of_eq rfl) (hb hby d4_22) (fun _ _ => ⟨rfl, e15, (by decide : 1 + 0 ≤ _), (by decide : 2 + 0 ≤ _)⟩)
  dsimp only [Pt.U, Pt.locs, Pt.cells, Pt.slots] at X16 l16 y16 z16 st16 hQ16
  replace X16 := own_stand X16 l16 y16 z16
  clear l16 y16 z16
  have N16q := (show _ ∧ _ from hQ16).1
  have hq16 := (show _ ∧ _ from hQ16).2
  clear hQ16
  have hv16 := hq16.1
  have K16 := hq16.2.1
  have po16_0 := hq16.2.2.1
  have po16_1 := hq16.2.2.2.1
  have po16_2 := hq16.2.2.2.2
  clear hq16
  subst hv16
  have z17 : n0 ≤ T16.heap.size := Nat.le_trans z6 K16.1
  have hs18 : h0.size ≤ T16.heap.size := Nat.le_trans hs7 K16.1
  have N16 := Fr.app N0 N16q
  obtain ⟨fs, hr, hrun, hended, hW, hsame⟩ := X16.leave (v := some (.ref b1)) (fun h => by rw [Bd.returns] at h; cases h) hlk
  refine ⟨_, _, pre0 _ ?_, hrun, hended, _, _, rfl, ?_, ⟨_, rfl⟩, hW, hsame.mono (by decide) (by decide)⟩
  · skip
    show Steps p.tables e below (s₁.setTop (mkF m 0 #[.val (.ref o0), .val (.ref o1)] [])) _
    refine st1 _ ?_
    show Steps p.tables e below (T1.setTop (mkF m 3 #[.val (.ref o0), .val (.ref o1)] [(.ref b1)])) _
    refine XS.dup X1.here hx rfl (hb hby d4_3) rfl rfl ?_
    show Steps p.tables e below (T1.setTop (mkF m 4 #[.val (.ref o0), .val (.ref o1)] [(.ref b1), (.ref b1)])) _
    refine XS.aloadN X1.here hx rfl (hb hby d4_4) rfl rfl ?_
    show Steps p.tables e below (T1.setTop (mkF m 5 #[.val (.ref o0), .val (.ref o1)] [(.ref o1), (.ref b1), (.ref b1)])) _
    refine st9 _ ?_
    show Steps p.tables e below (T9.setTop (mkF m 8 #[.val (.ref o0), .val (.ref o1)] [(.double w0_total), (.ref b1), (.ref b1)])) _
    refine XS.aloadN X9.here hx rfl (hb hby d4_8) rfl rfl ?_
    show Steps p.tables e below (T9.setTop (mkF m 9 #[.val (.ref o0), .val (.ref o1)] [(.ref o0), (.double w0_total), (.ref b1), (.ref b1)])) _
    refine st11 _ ?_
    show Steps p.tables e below (T11.setTop (mkF m 12 #[.val (.ref o0), .val (.ref o1)] [(.double w1_total), (.double w0_total), (.ref b1), (.ref b1)])) _
    refine XS.dsubS X11.here hx rfl (hb hby d4_12) rfl hy0 rfl ?_
    show Steps p.tables e below (T11.setTop (mkF m 13 #[.val (.ref o0), .val (.ref o1)] [(.double (FP.dsub w0_total w1_total)), (.ref b1), (.ref b1)])) _
    refine XS.aloadN X11.here hx rfl (hb hby d4_13) rfl rfl ?_
    show Steps p.tables e below (T11.setTop (mkF m 14 #[.val (.ref o0), .val (.ref o1)] [(.ref o1), (.double (FP.dsub w0_total w1_total)), (.ref b1), (.ref b1)])) _
    refine st13 _ ?_
    show Steps p.tables e below (T13.setTop (mkF m 17 #[.val (.ref o0), .val (.ref o1)] [(.double w2_compiling), (.double (FP.dsub w0_total w1_total)), (.ref b1), (.ref b1)])) _
    refine XS.aloadN X13.here hx rfl (hb hby d4_17) rfl rfl ?_
    show Steps p.tables e below (T13.setTop (mkF m 18 #[.val (.ref o0), .val (.ref o1)] [(.ref o0), (.double w2_compiling), (.double (FP.dsub w0_total w1_total)), (.ref b1), (.ref b1)])) _
    refine st15 _ ?_
    show Steps p.tables e below (T15.setTop (mkF m 21 #[.val (.ref o0), .val (.ref o1)] [(.double w3_compiling), (.double w2_compiling), (.double (FP.dsub w0_total w1_total)), (.ref b1), (.ref b1)])) _
    refine XS.dsubS X15.here hx rfl (hb hby d4_21) rfl hy1 rfl ?_
    show Steps p.tables e below (T15.setTop (mkF m 22 #[.val (.ref o0), .val (.ref o1)] [(.double (FP.dsub w2_compiling w3_compiling)), (.double (FP.dsub w0_total w1_total)), (.ref b1), (.ref b1)])) _
    refine st16.trans ?_
    show Steps p.tables e below (T16.setTop (mkF m 25 #[.val (.ref o0), .val (.ref o1)] [(.ref b1)])) _
    exact X16.areturnOut hx rfl Bd.returns rfl (hb hby d4_25) hr
  · skip
    show Q4 Z o0 o1 w0_total w1_total w2_compiling w3_compiling h0 n0 _ T16.heap _
    exact ⟨N16, b1, rfl, sz5, (((Keep.refl h0 []).ext E1).trans K16 (allS (Or.inr sz5) all0)), po16_0, po16_1, po16_2⟩
theorem d5_0 : decode prog_3_method_9_code 0 = .ok (.aload_n 0, 1) := by decide +kernel
theorem d5_1 : decode prog_3_method_9_code 1 = .ok (.getfield 7, 3) := by decide +kernel
theorem d5_4 : decode prog_3_method_9_code 4 = .ok (.dreturn, 1) := by decide +kernel
theorem ef_5 (m : MethodId) (o0 : Addr) : entryFrame m #[(.ref o0)] 1 = mkF m 0 #[.val (.ref o0)] [] := by first | (simp [entryFrame, mkF, argsToLocals, Value.category]; done) | rfl
def f5 (w0_total : UInt64) : UInt64 := w0_total
def Q5 (Z : State) (o0 : Addr) (w0_total : UInt64) (h0 : Heap) (n0 : Nat) (v : Option Value) (h : Heap) (L : List Loc) : Prop := Fr n0 L ∧ v = some (.double (f5 w0_total)) ∧ h = h0
set_option maxRecDepth 65536 in
set_option maxHeartbeats 40000000 in
theorem rm5 (l : Launch) (Z : State) (a0 : Array Value) (hw : ∀ d ∈ tables_1, d.before a0 Z = true) (ws : List Jvm.Cond) (o0 : Addr) (w0_total : UInt64) (h0 : Heap) (n0 : Nat) (Z0 : n0 ≤ h0.size) (F_total_o0 : Fld Z h0 o0 "com/example/dispatch_by_catalog/dispatchbycatalog/ServerCpu" "total" "D" (.double w0_total)) :
    MetFree l (⟨"com/example/dispatch_by_catalog/dispatchbycatalog/ServerCpu", "total", "()D"⟩ : MethodName) (head1 (Jvm.Cond.code (⟨"com/example/dispatch_by_catalog/dispatchbycatalog/ServerCpu", "total", "()D"⟩ : MethodName) prog_3_method_9_code 1 (some .double) :: ws) ({ frames := 0, cells := 0, slots := 0, locals := 0 } : Room)) (fun a U => a = #[(.ref o0)] ∧ Z.Warmed39 U.vm ∧ U.heap = h0) (fun _ _ _ _ _ => True) (fun _ U o U' => ∃ v L, o = .returned v ∧ Q5 Z o0 w0_total h0 n0 v U'.heap L ∧ FrameEnd U o U' L ({ frames := 0, cells := 0, slots := 0, locals := 0 } : Room).cells ({ frames := 0, cells := 0, slots := 0, locals := 0 } : Room).slots) := by
  refine MetFree.of_bodySF (plainFor_of_name pn_com_example_dispatch_by_catalog_dispatchbycatalog_ServerCpu) hisR ?_
  intro p e s m args below meth c s₁ Bd hml0 hP hK
  obtain ⟨rfl, hZ, hh⟩ := hP
  have hx := Bd.exec
  have hby := Bd.bytes
  have hml : c.maxLocals = 1 := hml0
  have hown : s.vm.findClass "com/example/dispatch_by_catalog/dispatchbycatalog/ServerCpu" = some m.cls := findClass_of_methodNamed Bd.named
  have hnm := (name_of_methodNamed Bd.named Bd.method).1
  have hlk := BodyLoose.notSynchronized Bd
  have X0 : Stand p l e ({ frames := 0, cells := 0, slots := 0, locals := 0 } : Room) s m #[(.ref o0)] below meth c s₁ [] 0 0 := Stand.of_body Bd
  have e0 : s₁.heap = h0 := by rw [← hh, Bd.state]; rfl
  have N0 := Fr.nil n0
  have pre0 : ∀ t, Steps p.tables e below (s₁.setTop (mkF m 0 #[.val (.ref o0)] [])) t → Steps p.tables e below (s₁.setTop (entryFrame m #[(.ref o0)] 1)) t := fun t k => castTop (ef_5 m o0) k
  obtain ⟨T1, X1, e1, st1⟩ := getF X0 hx hZ hown (host := "") (Or.inl (hw _ (List.mem_of_getElem? (i := 14) rfl))) Via.refl e0 F_total_o0 (g := (mkF m 1 #[.val (.ref o0)] [(.ref o0)])) rfl rfl (hb hby d5_1)
  obtain ⟨fs, hr, hrun, hended, hW, hsame⟩ := X1.leave (v := some (.double w0_total)) (fun h => by rw [Bd.returns] at h; cases h) hlk
  refine ⟨_, _, pre0 _ ?_, hrun, hended, _, _, rfl, ?_, ⟨_, rfl⟩, hW, hsame.mono (by decide) (by decide)⟩
  · skip
    show Steps p.tables e below (s₁.setTop (mkF m 0 #[.val (.ref o0)] [])) _
    refine XS.aloadN X0.here hx rfl (hb hby d5_0) rfl rfl ?_
    show Steps p.tables e below (s₁.setTop (mkF m 1 #[.val (.ref o0)] [(.ref o0)])) _
    refine st1 _ ?_
    show Steps p.tables e below (T1.setTop (mkF m 4 #[.val (.ref o0)] [(.double w0_total)])) _
    exact own_retD X1 hx Bd.returns (hb hby d5_4) hr
  · skip
    show Q5 Z o0 w0_total h0 n0 _ T1.heap _
    rw [e1]
    exact ⟨N0, rfl, rfl⟩
theorem d6_0 : decode prog_3_method_10_code 0 = .ok (.aload_n 0, 1) := by decide +kernel
theorem d6_1 : decode prog_3_method_10_code 1 = .ok (.getfield 13, 3) := by decide +kernel
theorem d6_4 : decode prog_3_method_10_code 4 = .ok (.dreturn, 1) := by decide +kernel
theorem ef_6 (m : MethodId) (o0 : Addr) : entryFrame m #[(.ref o0)] 1 = mkF m 0 #[.val (.ref o0)] [] := by first | (simp [entryFrame, mkF, argsToLocals, Value.category]; done) | rfl
def f6 (w0_compiling : UInt64) : UInt64 := w0_compiling
def Q6 (Z : State) (o0 : Addr) (w0_compiling : UInt64) (h0 : Heap) (n0 : Nat) (v : Option Value) (h : Heap) (L : List Loc) : Prop := Fr n0 L ∧ v = some (.double (f6 w0_compiling)) ∧ h = h0
set_option maxRecDepth 65536 in
set_option maxHeartbeats 40000000 in
theorem rm6 (l : Launch) (Z : State) (a0 : Array Value) (hw : ∀ d ∈ tables_1, d.before a0 Z = true) (ws : List Jvm.Cond) (o0 : Addr) (w0_compiling : UInt64) (h0 : Heap) (n0 : Nat) (Z0 : n0 ≤ h0.size) (F_compiling_o0 : Fld Z h0 o0 "com/example/dispatch_by_catalog/dispatchbycatalog/ServerCpu" "compiling" "D" (.double w0_compiling)) :
    MetFree l (⟨"com/example/dispatch_by_catalog/dispatchbycatalog/ServerCpu", "compiling", "()D"⟩ : MethodName) (head1 (Jvm.Cond.code (⟨"com/example/dispatch_by_catalog/dispatchbycatalog/ServerCpu", "compiling", "()D"⟩ : MethodName) prog_3_method_10_code 1 (some .double) :: ws) ({ frames := 0, cells := 0, slots := 0, locals := 0 } : Room)) (fun a U => a = #[(.ref o0)] ∧ Z.Warmed39 U.vm ∧ U.heap = h0) (fun _ _ _ _ _ => True) (fun _ U o U' => ∃ v L, o = .returned v ∧ Q6 Z o0 w0_compiling h0 n0 v U'.heap L ∧ FrameEnd U o U' L ({ frames := 0, cells := 0, slots := 0, locals := 0 } : Room).cells ({ frames := 0, cells := 0, slots := 0, locals := 0 } : Room).slots) := by
  refine MetFree.of_bodySF (plainFor_of_name pn_com_example_dispatch_by_catalog_dispatchbycatalog_ServerCpu) hisR ?_
  intro p e s m args below meth c s₁ Bd hml0 hP hK
  obtain ⟨rfl, hZ, hh⟩ := hP
  have hx := Bd.exec
  have hby := Bd.bytes
  have hml : c.maxLocals = 1 := hml0
  have hown : s.vm.findClass "com/example/dispatch_by_catalog/dispatchbycatalog/ServerCpu" = some m.cls := findClass_of_methodNamed Bd.named
  have hnm := (name_of_methodNamed Bd.named Bd.method).1
  have hlk := BodyLoose.notSynchronized Bd
  have X0 : Stand p l e ({ frames := 0, cells := 0, slots := 0, locals := 0 } : Room) s m #[(.ref o0)] below meth c s₁ [] 0 0 := Stand.of_body Bd
  have e0 : s₁.heap = h0 := by rw [← hh, Bd.state]; rfl
  have N0 := Fr.nil n0
  have pre0 : ∀ t, Steps p.tables e below (s₁.setTop (mkF m 0 #[.val (.ref o0)] [])) t → Steps p.tables e below (s₁.setTop (entryFrame m #[(.ref o0)] 1)) t := fun t k => castTop (ef_6 m o0) k
  obtain ⟨T1, X1, e1, st1⟩ := getF X0 hx hZ hown (host := "") (Or.inl (hw _ (List.mem_of_getElem? (i := 16) rfl))) Via.refl e0 F_compiling_o0 (g := (mkF m 1 #[.val (.ref o0)] [(.ref o0)])) rfl rfl (hb hby d6_1)
  obtain ⟨fs, hr, hrun, hended, hW, hsame⟩ := X1.leave (v := some (.double w0_compiling)) (fun h => by rw [Bd.returns] at h; cases h) hlk
  refine ⟨_, _, pre0 _ ?_, hrun, hended, _, _, rfl, ?_, ⟨_, rfl⟩, hW, hsame.mono (by decide) (by decide)⟩
  · skip
    show Steps p.tables e below (s₁.setTop (mkF m 0 #[.val (.ref o0)] [])) _
    refine XS.aloadN X0.here hx rfl (hb hby d6_0) rfl rfl ?_
    show Steps p.tables e below (s₁.setTop (mkF m 1 #[.val (.ref o0)] [(.ref o0)])) _
    refine st1 _ ?_
    show Steps p.tables e below (T1.setTop (mkF m 4 #[.val (.ref o0)] [(.double w0_compiling)])) _
    exact own_retD X1 hx Bd.returns (hb hby d6_4) hr
  · skip
    show Q6 Z o0 w0_compiling h0 n0 _ T1.heap _
    rw [e1]
    exact ⟨N0, rfl, rfl⟩
theorem pd_h954354 : parseMethodDescriptor "(Lcom/example/dispatch_by_catalog/dispatchbycatalog/ServerCpu;)Lcom/example/dispatch_by_catalog/dispatchbycatalog/ServerCpu;" = some ⟨[(.object "com/example/dispatch_by_catalog/dispatchbycatalog/ServerCpu")], some (.object "com/example/dispatch_by_catalog/dispatchbycatalog/ServerCpu")⟩ := by decide +kernel
theorem pd___D : parseMethodDescriptor "()D" = some ⟨[], some .double⟩ := by decide +kernel
theorem pn_com_example_dispatch_by_catalog_dispatchbycatalog_ServerCpuUntilPinLaw : plainName "com/example/dispatch_by_catalog/dispatchbycatalog/ServerCpuUntilPinLaw" = true := by first | (simp [plainName, overriddenIn]; done) | decide +kernel
theorem ef_0 (m : MethodId) (p0 : Int32) (p1 : Int32) (p2 : Int32) (p3 : Int32) : entryFrame m #[(.int p0), (.int p1), (.int p2), (.int p3)] maxLocals = mkF m 0 #[.val (.int p0), .val (.int p1), .val (.int p2), .val (.int p3), .unset, .unset, .unset, .unset, .unset, .unset, .unset] [] := by first | (simp [entryFrame, mkF, argsToLocals, Value.category, maxLocals]; done) | rfl
def v0_1 (p0 : Int32) (p1 : Int32) (p2 : Int32) (p3 : Int32) : UInt64 := (FP.i2d p0)
def v0_2 (p0 : Int32) (p1 : Int32) (p2 : Int32) (p3 : Int32) : UInt64 := (FP.i2d p1)
def v0_3 (p0 : Int32) (p1 : Int32) (p2 : Int32) (p3 : Int32) : UInt64 := (FP.i2d p2)
def v0_4 (p0 : Int32) (p1 : Int32) (p2 : Int32) (p3 : Int32) : UInt64 := (FP.i2d p3)
def v0_5 (p0 : Int32) (p1 : Int32) (p2 : Int32) (p3 : Int32) : UInt64 := (FP.l2d ((p2.toInt64) - (p0.toInt64)))
def v0_6 (p0 : Int32) (p1 : Int32) (p2 : Int32) (p3 : Int32) : UInt64 := (FP.l2d ((p3.toInt64) - (p1.toInt64)))
def v0_7 (p0 : Int32) (p1 : Int32) (p2 : Int32) (p3 : Int32) : UInt64 := (f5 (v4_1 (v0_3 p0 p1 p2 p3) (v0_1 p0 p1 p2 p3) (v0_4 p0 p1 p2 p3) (v0_2 p0 p1 p2 p3)))
def v0_8 (p0 : Int32) (p1 : Int32) (p2 : Int32) (p3 : Int32) : Int32 := (cmpValue (FP.dcmp (v0_7 p0 p1 p2 p3) (v0_5 p0 p1 p2 p3)) .l)
def v0_9 (p0 : Int32) (p1 : Int32) (p2 : Int32) (p3 : Int32) : UInt64 := (f6 (v4_2 (v0_3 p0 p1 p2 p3) (v0_1 p0 p1 p2 p3) (v0_4 p0 p1 p2 p3) (v0_2 p0 p1 p2 p3)))
def v0_10 (p0 : Int32) (p1 : Int32) (p2 : Int32) (p3 : Int32) : Int32 := (cmpValue (FP.dcmp (v0_9 p0 p1 p2 p3) (v0_6 p0 p1 p2 p3)) .l)
def v0_11 (p0 : Int32) (p1 : Int32) (p2 : Int32) (p3 : Int32) : Int32 := (if (v0_8 p0 p1 p2 p3) = (0 : Int32) then (if (v0_10 p0 p1 p2 p3) = (0 : Int32) then (1 : Int32) else (0 : Int32)) else (0 : Int32))
theorem own_law (p0 p1 p2 p3 : Int32) : v0_11 p0 p1 p2 p3 = (1 : Int32) := (if_pos (own_cmp p2 p0)).trans (if_pos (own_cmp p3 p1))
def Q0 (Z : State) (p0 : Int32) (p1 : Int32) (p2 : Int32) (p3 : Int32) (h0 : Heap) (n0 : Nat) (v : Option Value) (h : Heap) (L : List Loc) : Prop := v = some (.int (1 : Int32)) ∧ Fr n0 L
set_option maxRecDepth 65536 in
set_option maxHeartbeats 40000000 in
theorem rm0 (l : Launch) (Z : State) (a0 : Array Value) (hw : ∀ d ∈ tables_1, d.before a0 Z = true) (ws : List Jvm.Cond) (p0 : Int32) (p1 : Int32) (p2 : Int32) (p3 : Int32) (h0 : Heap) (n0 : Nat) (Z0 : n0 ≤ h0.size) :
    MetFree l x (head1 (Jvm.Cond.code x code maxLocals ret :: ws) room_1) (fun a U => a = #[(.int p0), (.int p1), (.int p2), (.int p3)] ∧ Z.Warmed39 U.vm ∧ U.heap = h0) (fun _ _ _ _ _ => True) (fun _ U o U' => ∃ v L, o = .returned v ∧ Q0 Z p0 p1 p2 p3 h0 n0 v U'.heap L ∧ FrameEnd U o U' L room_1.cells room_1.slots) := by
  refine MetFree.of_bodySF (plainFor_of_name pn_com_example_dispatch_by_catalog_dispatchbycatalog_ServerCpuUntilPinLaw) hisR ?_
  intro p e s m args below meth c s₁ Bd hml0 hP hK
  obtain ⟨rfl, hZ, hh⟩ := hP
  have hx := Bd.exec
  have hby := Bd.bytes
  have hml : c.maxLocals = 11 := hml0
  have hown : s.vm.findClass "com/example/dispatch_by_catalog/dispatchbycatalog/ServerCpuUntilPinLaw" = some m.cls := findClass_of_methodNamed Bd.named
  have hnm := (name_of_methodNamed Bd.named Bd.method).1
  have hlk := BodyLoose.notSynchronized Bd
  have X0 : Stand p l e room_1 s m #[(.int p0), (.int p1), (.int p2), (.int p3)] below meth c s₁ [] 0 0 := Stand.of_body Bd
  have e0 : s₁.heap = h0 := by rw [← hh, Bd.state]; rfl
  have N0 := Fr.nil n0
  have pre0 : ∀ t, Steps p.tables e below (s₁.setTop (mkF m 0 #[.val (.int p0), .val (.int p1), .val (.int p2), .val (.int p3), .unset, .unset, .unset, .unset, .unset, .unset, .unset] [])) t → Steps p.tables e below (s₁.setTop (entryFrame m #[(.int p0), (.int p1), (.int p2), (.int p3)] maxLocals)) t := fun t k => castTop (ef_0 m p0 p1 p2 p3) k
  obtain ⟨T1, h1, X1, e1, E1, A1, D1, -, st1⟩ := newO X0 hx hZ hown (hw _ (List.mem_of_getElem? (i := 0) rfl)) (hw _ (List.mem_of_getElem? (i := 1) rfl)) (hw _ (List.mem_of_getElem? (i := 2) rfl)) e0 (g := (mkF m 0 #[.val (.int p0), .val (.int p1), .val (.int p2), .val (.int p3), .unset, .unset, .unset, .unset, .unset, .unset, .unset] [])) rfl (hb hby at_0) (by decide) (by decide)
  obtain ⟨b1, gz1⟩ : ∃ z, z = h0.size := ⟨_, rfl⟩
  rw [← gz1] at A1 D1 st1
  have g2 : n0 ≤ b1 := Nat.le_trans Z0 (Nat.le_of_eq gz1.symm)
  have sz3 : h0.size ≤ b1 := Nat.le_trans (Nat.le_refl h0.size) (Nat.le_of_eq gz1.symm)
  have z4 : n0 ≤ h1.size := Nat.le_trans Z0 E1.1
  have hs5 : h0.size ≤ h1.size := Nat.le_trans (Nat.le_refl h0.size) E1.1
  have F1_total : Fld Z h1 b1 "com/example/dispatch_by_catalog/dispatchbycatalog/ServerCpu" "total" "D" (.double (0 : UInt64)) := D1 (Or.inr (hw _ (List.mem_of_getElem? (i := 15) rfl))) (ty := .double) (by decide)
  have F1_compiling : Fld Z h1 b1 "com/example/dispatch_by_catalog/dispatchbycatalog/ServerCpu" "compiling" "D" (.double (0 : UInt64)) := D1 (Or.inr (hw _ (List.mem_of_getElem? (i := 17) rfl))) (ty := .double) (by decide)
  obtain ⟨vr6, _, ⟨T6, L6, k6, n6⟩, -, X6, ⟨Lc6, hQ6, l6, y6, z6⟩, st6⟩ := X1.specialBack hx (y := (⟨"com/example/dispatch_by_catalog/dispatchbycatalog/ServerCpu", "<init>", "(DD)V"⟩ : MethodName)) rfl hown (mvT hZ (hw _ (List.mem_of_getElem? (i := 3) rfl))) (mvT hZ (hw _ (List.mem_of_getElem? (i := 4) rfl))) (mvT hZ (hw _ (List.mem_of_getElem? (i := 5) rfl))) (by decide) (backOf (W := 1) (rm1 l Z a0 hw [] b1 (v0_1 p0 p1 p2 p3) (v0_2 p0 p1 p2 p3) (.double (0 : UInt64)) (.double (0 : UInt64)) h1 n0 z4 A1 F1_total g2 F1_compiling) hZ (hw _ (List.mem_of_getElem? (i := 5) rfl)) (hw _ (List.mem_of_getElem? (i := 2) rfl)) (by decide) (by decide)) (g := (mkF m 8 #[.val (.int p0), .val (.int p1), .val (.int p2), .val (.int p3), .unset, .unset, .unset, .unset, .unset, .unset, .unset] [(.double (v0_2 p0 p1 p2 p3)), (.double (v0_1 p0 p1 p2 p3)), (.ref b1), (.ref b1)])) rfl (by rw [hml]; rfl) (Steps.refl _) (a := b1) (argsL := [(.double (v0_1 p0 p1 p2 p3)), (.double (v0_2 p0 p1 p2 p3))]) (rest := [(.ref b1)]) (lenOf pd__DD_V rfl) rfl (by show 2 * 0 + _ ≤ _; exact Nat.le_of_eq rfl) (hb hby at_8) (fun _ _ => ⟨rfl, e1, (by decide : 1 + 0 ≤ _), (by decide : 2 + 0 ≤ _)⟩)
  dsimp only [Pt.U, Pt.locs, Pt.cells, Pt.slots] at X6 l6 y6 z6 st6 hQ6
  replace X6 := own_stand X6 l6 y6 z6
  clear l6 y6 z6
  have N6q := (show _ ∧ _ from hQ6).1
  have hq6 := (show _ ∧ _ from hQ6).2
  clear hQ6
  have hv6 := hq6.1
  have K6 := hq6.2.1
  have po6_0 := hq6.2.2.1
  have po6_1 := hq6.2.2.2.1
  have po6_2 := hq6.2.2.2.2
  clear hq6
  subst hv6
  have z7 : n0 ≤ T6.heap.size := Nat.le_trans z4 K6.1
  have hs8 : h0.size ≤ T6.heap.size := Nat.le_trans hs5 K6.1
  have N6 := Fr.app N0 N6q
  obtain ⟨T9, h9, X9, e9, E9, A9, D9, -, st9⟩ := newO X6 hx hZ hown (hw _ (List.mem_of_getElem? (i := 0) rfl)) (hw _ (List.mem_of_getElem? (i := 1) rfl)) (hw _ (List.mem_of_getElem? (i := 2) rfl)) rfl (g := (mkF m 13 #[.val (.int p0), .val (.int p1), .val (.int p2), .val (.int p3), .val (.ref b1), .unset, .unset, .unset, .unset, .unset, .unset] [])) rfl (hb hby at_13) (by decide) (by decide)
  obtain ⟨b9, gz9⟩ : ∃ z, z = T6.heap.size := ⟨_, rfl⟩
  rw [← gz9] at A9 D9 st9
  have ne10 : b1 ≠ b9 := Nat.ne_of_lt (Nat.lt_of_lt_of_le po6_0.lt (Nat.le_of_eq gz9.symm))
  have g11 : n0 ≤ b9 := Nat.le_trans z7 (Nat.le_of_eq gz9.symm)
  have sz12 : h0.size ≤ b9 := Nat.le_trans hs8 (Nat.le_of_eq gz9.symm)
  have z13 : n0 ≤ h9.size := Nat.le_trans z7 E9.1
  have hs14 : h0.size ≤ h9.size := Nat.le_trans hs8 E9.1
  have F9_total : Fld Z h9 b9 "com/example/dispatch_by_catalog/dispatchbycatalog/ServerCpu" "total" "D" (.double (0 : UInt64)) := D9 (Or.inr (hw _ (List.mem_of_getElem? (i := 15) rfl))) (ty := .double) (by decide)
  have F9_compiling : Fld Z h9 b9 "com/example/dispatch_by_catalog/dispatchbycatalog/ServerCpu" "compiling" "D" (.double (0 : UInt64)) := D9 (Or.inr (hw _ (List.mem_of_getElem? (i := 17) rfl))) (ty := .double) (by decide)
  obtain ⟨vr15, _, ⟨T15, L15, k15, n15⟩, -, X15, ⟨Lc15, hQ15, l15, y15, z15⟩, st15⟩ := X9.specialBack hx (y := (⟨"com/example/dispatch_by_catalog/dispatchbycatalog/ServerCpu", "<init>", "(DD)V"⟩ : MethodName)) rfl hown (mvT hZ (hw _ (List.mem_of_getElem? (i := 3) rfl))) (mvT hZ (hw _ (List.mem_of_getElem? (i := 4) rfl))) (mvT hZ (hw _ (List.mem_of_getElem? (i := 5) rfl))) (by decide) (backOf (W := 1) (rm1 l Z a0 hw [] b9 (v0_3 p0 p1 p2 p3) (v0_4 p0 p1 p2 p3) (.double (0 : UInt64)) (.double (0 : UInt64)) h9 n0 z13 A9 F9_total g11 F9_compiling) hZ (hw _ (List.mem_of_getElem? (i := 5) rfl)) (hw _ (List.mem_of_getElem? (i := 2) rfl)) (by decide) (by decide)) (g := (mkF m 21 #[.val (.int p0), .val (.int p1), .val (.int p2), .val (.int p3), .val (.ref b1), .unset, .unset, .unset, .unset, .unset, .unset] [(.double (v0_4 p0 p1 p2 p3)), (.double (v0_3 p0 p1 p2 p3)), (.ref b9), (.ref b9)])) rfl (by rw [hml]; rfl) (Steps.refl _) (a := b9) (argsL := [(.double (v0_3 p0 p1 p2 p3)), (.double (v0_4 p0 p1 p2 p3))]) (rest := [(.ref b9)]) (lenOf pd__DD_V rfl) rfl (by show 2 * 0 + _ ≤ _; exact Nat.le_of_eq rfl) (hb hby at_21) (fun _ _ => ⟨rfl, e9, (by decide : 2 + 0 ≤ _), (by decide : 4 + 0 ≤ _)⟩)
  dsimp only [Pt.U, Pt.locs, Pt.cells, Pt.slots] at X15 l15 y15 z15 st15 hQ15
  replace X15 := own_stand X15 l15 y15 z15
  clear l15 y15 z15
  have N15q := (show _ ∧ _ from hQ15).1
  have hq15 := (show _ ∧ _ from hQ15).2
  clear hQ15
  have hv15 := hq15.1
  have K15 := hq15.2.1
  have po15_0 := hq15.2.2.1
  have po15_1 := hq15.2.2.2.1
  have po15_2 := hq15.2.2.2.2
  clear hq15
  subst hv15
  have z16 : n0 ≤ T15.heap.size := Nat.le_trans z13 K15.1
  have hs17 : h0.size ≤ T15.heap.size := Nat.le_trans hs14 K15.1
  have N15 := Fr.app N6 N15q
  have k19 := ((po6_1.ext E9).keep K15 (ninS ne10 nin0))
  have k20 := ((po6_2.ext E9).keep K15 (ninS ne10 nin0))
  have k21 := ((po6_0.ext E9).keep K15)
  obtain ⟨cq18, kq18, q18a, q18b, q18c⟩ := isOf hZ rfl k21
  obtain ⟨vr18, _, ⟨T18, L18, k18, n18⟩, -, X18, ⟨Lc18, hQ18, l18, y18, z18⟩, st18⟩ := X15.virtualBack hx (y := (⟨"com/example/dispatch_by_catalog/dispatchbycatalog/ServerCpu", "until", "(Lcom/example/dispatch_by_catalog/dispatchbycatalog/ServerCpu;)Lcom/example/dispatch_by_catalog/dispatchbycatalog/ServerCpu;"⟩ : MethodName)) (z := (⟨"com/example/dispatch_by_catalog/dispatchbycatalog/ServerCpu", "until", "(Lcom/example/dispatch_by_catalog/dispatchbycatalog/ServerCpu;)Lcom/example/dispatch_by_catalog/dispatchbycatalog/ServerCpu;"⟩ : MethodName)) hown (mvT hZ (hw _ (List.mem_of_getElem? (i := 18) rfl))) (mvT hZ (hw _ (List.mem_of_getElem? (i := 19) rfl))) (notFace_of_selects (args := #[]) (mvT hZ (hw _ (List.mem_of_getElem? (i := 21) rfl)))) (mvT hZ (hw _ (List.mem_of_getElem? (i := 21) rfl))) (mvT hZ (hw _ (List.mem_of_getElem? (i := 20) rfl))) (by decide) (backOf (W := 0) (rm4 l Z a0 hw [] b1 b9 (v0_3 p0 p1 p2 p3) (v0_1 p0 p1 p2 p3) (v0_4 p0 p1 p2 p3) (v0_2 p0 p1 p2 p3) T15.heap n0 z16 po15_1 k19 (own_nn p2 p0) po15_2 k20 (own_nn p3 p1)) hZ (hw _ (List.mem_of_getElem? (i := 22) rfl)) (hw _ (List.mem_of_getElem? (i := 2) rfl)) (by decide) (by decide)) q18a q18c (g := (mkF m 30 #[.val (.int p0), .val (.int p1), .val (.int p2), .val (.int p3), .val (.ref b1), .val (.ref b9), .unset, .unset, .unset, .unset, .unset] [(.ref b9), (.ref b1)])) rfl (by rw [hml]; rfl) (Steps.refl _) (argsL := [(.ref b9)]) (rest := []) (lenOf pd_h954354 rfl) rfl (by show 2 * 0 + _ ≤ _; exact Nat.le_of_eq rfl) (hb hby at_30) (fun _ _ => ⟨rfl, rfl, (by decide : 2 + 1 ≤ _), (by decide : 4 + 2 ≤ _)⟩)
  dsimp only [Pt.U, Pt.locs, Pt.cells, Pt.slots] at X18 l18 y18 z18 st18 hQ18
  replace X18 := own_stand X18 l18 y18 z18
  clear l18 y18 z18
  have N18q := (show _ ∧ _ from hQ18).1
  have hq18 := (show _ ∧ _ from hQ18).2
  clear hQ18
  obtain ⟨x4_0_18, hq18x⟩ := hq18
  have hv18 := hq18x.1
  have szx4_0_18 := hq18x.2.1
  have K18 := hq18x.2.2.1
  have po18_0 := hq18x.2.2.2.1
  have po18_1 := hq18x.2.2.2.2.1
  have po18_2 := hq18x.2.2.2.2.2
  clear hq18x
  subst hv18
  have ne22 : b1 ≠ x4_0_18 := Nat.ne_of_lt (Nat.lt_of_lt_of_le k21.lt szx4_0_18)
  have ne23 : b9 ≠ x4_0_18 := Nat.ne_of_lt (Nat.lt_of_lt_of_le po15_0.lt szx4_0_18)
  have g24 : n0 ≤ x4_0_18 := Nat.le_trans z16 szx4_0_18
  have sz25 : h0.size ≤ x4_0_18 := Nat.le_trans hs17 szx4_0_18
  have z26 : n0 ≤ T18.heap.size := Nat.le_trans z16 K18.1
  have hs27 : h0.size ≤ T18.heap.size := Nat.le_trans hs17 K18.1
  have N18 := Fr.app N15 N18q
  obtain ⟨cq28, kq28, q28a, q28b, q28c⟩ := isOf hZ rfl po18_0
  obtain ⟨vr28, _, ⟨T28, L28, k28, n28⟩, -, X28, ⟨Lc28, hQ28, l28, y28, z28⟩, st28⟩ := X18.virtualBack hx (y := (⟨"com/example/dispatch_by_catalog/dispatchbycatalog/ServerCpu", "total", "()D"⟩ : MethodName)) (z := (⟨"com/example/dispatch_by_catalog/dispatchbycatalog/ServerCpu", "total", "()D"⟩ : MethodName)) hown (mvT hZ (hw _ (List.mem_of_getElem? (i := 25) rfl))) (mvT hZ (hw _ (List.mem_of_getElem? (i := 26) rfl))) (notFace_of_selects (args := #[]) (mvT hZ (hw _ (List.mem_of_getElem? (i := 28) rfl)))) (mvT hZ (hw _ (List.mem_of_getElem? (i := 28) rfl))) (mvT hZ (hw _ (List.mem_of_getElem? (i := 27) rfl))) (by decide) (backOf (W := 0) (rm5 l Z a0 hw [] x4_0_18 (v4_1 (v0_3 p0 p1 p2 p3) (v0_1 p0 p1 p2 p3) (v0_4 p0 p1 p2 p3) (v0_2 p0 p1 p2 p3)) T18.heap n0 z26 po18_1) hZ (hw _ (List.mem_of_getElem? (i := 29) rfl)) (hw _ (List.mem_of_getElem? (i := 2) rfl)) (by decide) (by decide)) q28a q28c (g := (mkF m 53 #[.val (.int p0), .val (.int p1), .val (.int p2), .val (.int p3), .val (.ref b1), .val (.ref b9), .val (.ref x4_0_18), .val (.double (v0_5 p0 p1 p2 p3)), .second, .val (.double (v0_6 p0 p1 p2 p3)), .second] [(.ref x4_0_18)])) rfl (by rw [hml]; rfl) (Steps.refl _) (argsL := []) (rest := []) (lenOf pd___D rfl) rfl (by show 2 * 0 + _ ≤ _; exact Nat.le_of_eq rfl) (hb hby at_53) (fun _ _ => ⟨rfl, rfl, (by decide : 3 + 0 ≤ _), (by decide : 6 + 0 ≤ _)⟩)
  dsimp only [Pt.U, Pt.locs, Pt.cells, Pt.slots] at X28 l28 y28 z28 st28 hQ28
  replace X28 := own_stand X28 l28 y28 z28
  clear l28 y28 z28
  have N28q := (show _ ∧ _ ∧ _ from hQ28).1
  have hv28 := (show _ ∧ _ ∧ _ from hQ28).2.1
  have e28 := (show _ ∧ _ ∧ _ from hQ28).2.2
  clear hQ28
  subst hv28
  have N28 := Fr.app N18 N28q
  have pre29 : ∀ t, Steps p.tables e below (T28.setTop (mkF m 59 #[.val (.int p0), .val (.int p1), .val (.int p2), .val (.int p3), .val (.ref b1), .val (.ref b9), .val (.ref x4_0_18), .val (.double (v0_5 p0 p1 p2 p3)), .second, .val (.double (v0_6 p0 p1 p2 p3)), .second] [(.int (cmpValue (FP.dcmp (v0_7 p0 p1 p2 p3) (v0_5 p0 p1 p2 p3)) .l))])) t → Steps p.tables e below (s₁.setTop (entryFrame m #[(.int p0), (.int p1), (.int p2), (.int p3)] maxLocals)) t := by
    intro t k
    refine pre0 t ?_
    show Steps p.tables e below (s₁.setTop (mkF m 0 #[.val (.int p0), .val (.int p1), .val (.int p2), .val (.int p3), .unset, .unset, .unset, .unset, .unset, .unset, .unset] [])) _
    refine st1 _ ?_
    show Steps p.tables e below (T1.setTop (mkF m 3 #[.val (.int p0), .val (.int p1), .val (.int p2), .val (.int p3), .unset, .unset, .unset, .unset, .unset, .unset, .unset] [(.ref b1)])) _
    refine XS.dup X1.here hx rfl (hb hby at_3) rfl rfl ?_
    show Steps p.tables e below (T1.setTop (mkF m 4 #[.val (.int p0), .val (.int p1), .val (.int p2), .val (.int p3), .unset, .unset, .unset, .unset, .unset, .unset, .unset] [(.ref b1), (.ref b1)])) _
    refine XS.iloadN X1.here hx rfl (hb hby at_4) rfl ?_
    show Steps p.tables e below (T1.setTop (mkF m 5 #[.val (.int p0), .val (.int p1), .val (.int p2), .val (.int p3), .unset, .unset, .unset, .unset, .unset, .unset, .unset] [(.int p0), (.ref b1), (.ref b1)])) _
    refine XS.i2dS X1.here hx rfl (hb hby at_5) rfl rfl ?_
    show Steps p.tables e below (T1.setTop (mkF m 6 #[.val (.int p0), .val (.int p1), .val (.int p2), .val (.int p3), .unset, .unset, .unset, .unset, .unset, .unset, .unset] [(.double (FP.i2d p0)), (.ref b1), (.ref b1)])) _
    refine XS.iloadN X1.here hx rfl (hb hby at_6) rfl ?_
    show Steps p.tables e below (T1.setTop (mkF m 7 #[.val (.int p0), .val (.int p1), .val (.int p2), .val (.int p3), .unset, .unset, .unset, .unset, .unset, .unset, .unset] [(.int p1), (.double (FP.i2d p0)), (.ref b1), (.ref b1)])) _
    refine XS.i2dS X1.here hx rfl (hb hby at_7) rfl rfl ?_
    show Steps p.tables e below (T1.setTop (mkF m 8 #[.val (.int p0), .val (.int p1), .val (.int p2), .val (.int p3), .unset, .unset, .unset, .unset, .unset, .unset, .unset] [(.double (FP.i2d p1)), (.double (FP.i2d p0)), (.ref b1), (.ref b1)])) _
    refine st6.trans ?_
    show Steps p.tables e below (T6.setTop (mkF m 11 #[.val (.int p0), .val (.int p1), .val (.int p2), .val (.int p3), .unset, .unset, .unset, .unset, .unset, .unset, .unset] [(.ref b1)])) _
    refine XS.astore X6.here hx rfl (hb hby at_11) rfl rfl (l' := #[.val (.int p0), .val (.int p1), .val (.int p2), .val (.int p3), .val (.ref b1), .unset, .unset, .unset, .unset, .unset, .unset]) rfl ?_
    show Steps p.tables e below (T6.setTop (mkF m 13 #[.val (.int p0), .val (.int p1), .val (.int p2), .val (.int p3), .val (.ref b1), .unset, .unset, .unset, .unset, .unset, .unset] [])) _
    refine st9 _ ?_
    show Steps p.tables e below (T9.setTop (mkF m 16 #[.val (.int p0), .val (.int p1), .val (.int p2), .val (.int p3), .val (.ref b1), .unset, .unset, .unset, .unset, .unset, .unset] [(.ref b9)])) _
    refine XS.dup X9.here hx rfl (hb hby at_16) rfl rfl ?_
    show Steps p.tables e below (T9.setTop (mkF m 17 #[.val (.int p0), .val (.int p1), .val (.int p2), .val (.int p3), .val (.ref b1), .unset, .unset, .unset, .unset, .unset, .unset] [(.ref b9), (.ref b9)])) _
    refine XS.iloadN X9.here hx rfl (hb hby at_17) rfl ?_
    show Steps p.tables e below (T9.setTop (mkF m 18 #[.val (.int p0), .val (.int p1), .val (.int p2), .val (.int p3), .val (.ref b1), .unset, .unset, .unset, .unset, .unset, .unset] [(.int p2), (.ref b9), (.ref b9)])) _
    refine XS.i2dS X9.here hx rfl (hb hby at_18) rfl rfl ?_
    show Steps p.tables e below (T9.setTop (mkF m 19 #[.val (.int p0), .val (.int p1), .val (.int p2), .val (.int p3), .val (.ref b1), .unset, .unset, .unset, .unset, .unset, .unset] [(.double (FP.i2d p2)), (.ref b9), (.ref b9)])) _
    refine XS.iloadN X9.here hx rfl (hb hby at_19) rfl ?_
    show Steps p.tables e below (T9.setTop (mkF m 20 #[.val (.int p0), .val (.int p1), .val (.int p2), .val (.int p3), .val (.ref b1), .unset, .unset, .unset, .unset, .unset, .unset] [(.int p3), (.double (FP.i2d p2)), (.ref b9), (.ref b9)])) _
    refine XS.i2dS X9.here hx rfl (hb hby at_20) rfl rfl ?_
    show Steps p.tables e below (T9.setTop (mkF m 21 #[.val (.int p0), .val (.int p1), .val (.int p2), .val (.int p3), .val (.ref b1), .unset, .unset, .unset, .unset, .unset, .unset] [(.double (FP.i2d p3)), (.double (FP.i2d p2)), (.ref b9), (.ref b9)])) _
    refine st15.trans ?_
    show Steps p.tables e below (T15.setTop (mkF m 24 #[.val (.int p0), .val (.int p1), .val (.int p2), .val (.int p3), .val (.ref b1), .unset, .unset, .unset, .unset, .unset, .unset] [(.ref b9)])) _
    refine XS.astore X15.here hx rfl (hb hby at_24) rfl rfl (l' := #[.val (.int p0), .val (.int p1), .val (.int p2), .val (.int p3), .val (.ref b1), .val (.ref b9), .unset, .unset, .unset, .unset, .unset]) rfl ?_
    show Steps p.tables e below (T15.setTop (mkF m 26 #[.val (.int p0), .val (.int p1), .val (.int p2), .val (.int p3), .val (.ref b1), .val (.ref b9), .unset, .unset, .unset, .unset, .unset] [])) _
    refine XS.aload X15.here hx rfl (hb hby at_26) rfl rfl ?_
    show Steps p.tables e below (T15.setTop (mkF m 28 #[.val (.int p0), .val (.int p1), .val (.int p2), .val (.int p3), .val (.ref b1), .val (.ref b9), .unset, .unset, .unset, .unset, .unset] [(.ref b1)])) _
    refine XS.aload X15.here hx rfl (hb hby at_28) rfl rfl ?_
    show Steps p.tables e below (T15.setTop (mkF m 30 #[.val (.int p0), .val (.int p1), .val (.int p2), .val (.int p3), .val (.ref b1), .val (.ref b9), .unset, .unset, .unset, .unset, .unset] [(.ref b9), (.ref b1)])) _
    refine st18.trans ?_
    show Steps p.tables e below (T18.setTop (mkF m 33 #[.val (.int p0), .val (.int p1), .val (.int p2), .val (.int p3), .val (.ref b1), .val (.ref b9), .unset, .unset, .unset, .unset, .unset] [(.ref x4_0_18)])) _
    refine XS.astore X18.here hx rfl (hb hby at_33) rfl rfl (l' := #[.val (.int p0), .val (.int p1), .val (.int p2), .val (.int p3), .val (.ref b1), .val (.ref b9), .val (.ref x4_0_18), .unset, .unset, .unset, .unset]) rfl ?_
    show Steps p.tables e below (T18.setTop (mkF m 35 #[.val (.int p0), .val (.int p1), .val (.int p2), .val (.int p3), .val (.ref b1), .val (.ref b9), .val (.ref x4_0_18), .unset, .unset, .unset, .unset] [])) _
    refine XS.iloadN X18.here hx rfl (hb hby at_35) rfl ?_
    show Steps p.tables e below (T18.setTop (mkF m 36 #[.val (.int p0), .val (.int p1), .val (.int p2), .val (.int p3), .val (.ref b1), .val (.ref b9), .val (.ref x4_0_18), .unset, .unset, .unset, .unset] [(.int p2)])) _
    refine XT.i2l X18.here hx rfl (hb hby at_36) rfl ?_
    show Steps p.tables e below (T18.setTop (mkF m 37 #[.val (.int p0), .val (.int p1), .val (.int p2), .val (.int p3), .val (.ref b1), .val (.ref b9), .val (.ref x4_0_18), .unset, .unset, .unset, .unset] [(.long (p2.toInt64))])) _
    refine XS.iloadN X18.here hx rfl (hb hby at_37) rfl ?_
    show Steps p.tables e below (T18.setTop (mkF m 38 #[.val (.int p0), .val (.int p1), .val (.int p2), .val (.int p3), .val (.ref b1), .val (.ref b9), .val (.ref x4_0_18), .unset, .unset, .unset, .unset] [(.int p0), (.long (p2.toInt64))])) _
    refine XT.i2l X18.here hx rfl (hb hby at_38) rfl ?_
    show Steps p.tables e below (T18.setTop (mkF m 39 #[.val (.int p0), .val (.int p1), .val (.int p2), .val (.int p3), .val (.ref b1), .val (.ref b9), .val (.ref x4_0_18), .unset, .unset, .unset, .unset] [(.long (p0.toInt64)), (.long (p2.toInt64))])) _
    refine XT.lsub X18.here hx rfl (hb hby at_39) rfl ?_
    show Steps p.tables e below (T18.setTop (mkF m 40 #[.val (.int p0), .val (.int p1), .val (.int p2), .val (.int p3), .val (.ref b1), .val (.ref b9), .val (.ref x4_0_18), .unset, .unset, .unset, .unset] [(.long ((p2.toInt64) - (p0.toInt64)))])) _
    refine XS.l2dS X18.here hx rfl (hb hby at_40) rfl rfl ?_
    show Steps p.tables e below (T18.setTop (mkF m 41 #[.val (.int p0), .val (.int p1), .val (.int p2), .val (.int p3), .val (.ref b1), .val (.ref b9), .val (.ref x4_0_18), .unset, .unset, .unset, .unset] [(.double (FP.l2d ((p2.toInt64) - (p0.toInt64))))])) _
    refine XS.dstore X18.here hx rfl (hb hby at_41) rfl (l' := #[.val (.int p0), .val (.int p1), .val (.int p2), .val (.int p3), .val (.ref b1), .val (.ref b9), .val (.ref x4_0_18), .val (.double (v0_5 p0 p1 p2 p3)), .second, .unset, .unset]) rfl ?_
    show Steps p.tables e below (T18.setTop (mkF m 43 #[.val (.int p0), .val (.int p1), .val (.int p2), .val (.int p3), .val (.ref b1), .val (.ref b9), .val (.ref x4_0_18), .val (.double (v0_5 p0 p1 p2 p3)), .second, .unset, .unset] [])) _
    refine XS.iloadN X18.here hx rfl (hb hby at_43) rfl ?_
    show Steps p.tables e below (T18.setTop (mkF m 44 #[.val (.int p0), .val (.int p1), .val (.int p2), .val (.int p3), .val (.ref b1), .val (.ref b9), .val (.ref x4_0_18), .val (.double (v0_5 p0 p1 p2 p3)), .second, .unset, .unset] [(.int p3)])) _
    refine XT.i2l X18.here hx rfl (hb hby at_44) rfl ?_
    show Steps p.tables e below (T18.setTop (mkF m 45 #[.val (.int p0), .val (.int p1), .val (.int p2), .val (.int p3), .val (.ref b1), .val (.ref b9), .val (.ref x4_0_18), .val (.double (v0_5 p0 p1 p2 p3)), .second, .unset, .unset] [(.long (p3.toInt64))])) _
    refine XS.iloadN X18.here hx rfl (hb hby at_45) rfl ?_
    show Steps p.tables e below (T18.setTop (mkF m 46 #[.val (.int p0), .val (.int p1), .val (.int p2), .val (.int p3), .val (.ref b1), .val (.ref b9), .val (.ref x4_0_18), .val (.double (v0_5 p0 p1 p2 p3)), .second, .unset, .unset] [(.int p1), (.long (p3.toInt64))])) _
    refine XT.i2l X18.here hx rfl (hb hby at_46) rfl ?_
    show Steps p.tables e below (T18.setTop (mkF m 47 #[.val (.int p0), .val (.int p1), .val (.int p2), .val (.int p3), .val (.ref b1), .val (.ref b9), .val (.ref x4_0_18), .val (.double (v0_5 p0 p1 p2 p3)), .second, .unset, .unset] [(.long (p1.toInt64)), (.long (p3.toInt64))])) _
    refine XT.lsub X18.here hx rfl (hb hby at_47) rfl ?_
    show Steps p.tables e below (T18.setTop (mkF m 48 #[.val (.int p0), .val (.int p1), .val (.int p2), .val (.int p3), .val (.ref b1), .val (.ref b9), .val (.ref x4_0_18), .val (.double (v0_5 p0 p1 p2 p3)), .second, .unset, .unset] [(.long ((p3.toInt64) - (p1.toInt64)))])) _
    refine XS.l2dS X18.here hx rfl (hb hby at_48) rfl rfl ?_
    show Steps p.tables e below (T18.setTop (mkF m 49 #[.val (.int p0), .val (.int p1), .val (.int p2), .val (.int p3), .val (.ref b1), .val (.ref b9), .val (.ref x4_0_18), .val (.double (v0_5 p0 p1 p2 p3)), .second, .unset, .unset] [(.double (FP.l2d ((p3.toInt64) - (p1.toInt64))))])) _
    refine XS.dstore X18.here hx rfl (hb hby at_49) rfl (l' := #[.val (.int p0), .val (.int p1), .val (.int p2), .val (.int p3), .val (.ref b1), .val (.ref b9), .val (.ref x4_0_18), .val (.double (v0_5 p0 p1 p2 p3)), .second, .val (.double (v0_6 p0 p1 p2 p3)), .second]) rfl ?_
    show Steps p.tables e below (T18.setTop (mkF m 51 #[.val (.int p0), .val (.int p1), .val (.int p2), .val (.int p3), .val (.ref b1), .val (.ref b9), .val (.ref x4_0_18), .val (.double (v0_5 p0 p1 p2 p3)), .second, .val (.double (v0_6 p0 p1 p2 p3)), .second] [])) _
    refine XS.aload X18.here hx rfl (hb hby at_51) rfl rfl ?_
    show Steps p.tables e below (T18.setTop (mkF m 53 #[.val (.int p0), .val (.int p1), .val (.int p2), .val (.int p3), .val (.ref b1), .val (.ref b9), .val (.ref x4_0_18), .val (.double (v0_5 p0 p1 p2 p3)), .second, .val (.double (v0_6 p0 p1 p2 p3)), .second] [(.ref x4_0_18)])) _
    refine st28.trans ?_
    show Steps p.tables e below (T28.setTop (mkF m 56 #[.val (.int p0), .val (.int p1), .val (.int p2), .val (.int p3), .val (.ref b1), .val (.ref b9), .val (.ref x4_0_18), .val (.double (v0_5 p0 p1 p2 p3)), .second, .val (.double (v0_6 p0 p1 p2 p3)), .second] [(.double (f5 (v4_1 (v0_3 p0 p1 p2 p3) (v0_1 p0 p1 p2 p3) (v0_4 p0 p1 p2 p3) (v0_2 p0 p1 p2 p3))))])) _
    refine XS.dload X28.here hx rfl (hb hby at_56) rfl ?_
    show Steps p.tables e below (T28.setTop (mkF m 58 #[.val (.int p0), .val (.int p1), .val (.int p2), .val (.int p3), .val (.ref b1), .val (.ref b9), .val (.ref x4_0_18), .val (.double (v0_5 p0 p1 p2 p3)), .second, .val (.double (v0_6 p0 p1 p2 p3)), .second] [(.double (v0_5 p0 p1 p2 p3)), (.double (f5 (v4_1 (v0_3 p0 p1 p2 p3) (v0_1 p0 p1 p2 p3) (v0_4 p0 p1 p2 p3) (v0_2 p0 p1 p2 p3))))])) _
    refine XS.dcmpS X28.here hx rfl (hb hby at_58) rfl rfl ?_
    exact k
  clear pre0 st1 st6 st9 st15 st18 st28
  obtain ⟨T34, L34, X34, e34, N34, pre34⟩ : ∃ (T' : State) (L' : List Loc), Stand p l e room_1 s m #[(.int p0), (.int p1), (.int p2), (.int p3)] below meth c T' L' 3 6 ∧ T'.heap = T18.heap ∧ Fr n0 L' ∧ ∀ t, Steps p.tables e below (T'.setTop (mkF m 78 #[.val (.int p0), .val (.int p1), .val (.int p2), .val (.int p3), .val (.ref b1), .val (.ref b9), .val (.ref x4_0_18), .val (.double (v0_5 p0 p1 p2 p3)), .second, .val (.double (v0_6 p0 p1 p2 p3)), .second] [(.int (v0_11 p0 p1 p2 p3))])) t → Steps p.tables e below (s₁.setTop (entryFrame m #[(.int p0), (.int p1), (.int p2), (.int p3)] maxLocals)) t := by
    by_cases c30 : (v0_8 p0 p1 p2 p3) = (0 : Int32)
    · skip
      obtain ⟨cq31, kq31, q31a, q31b, q31c⟩ := isOf hZ e28 po18_0
      obtain ⟨vr31, _, ⟨T31, L31, k31, n31⟩, -, X31, ⟨Lc31, hQ31, l31, y31, z31⟩, st31⟩ := X28.virtualBack hx (y := (⟨"com/example/dispatch_by_catalog/dispatchbycatalog/ServerCpu", "compiling", "()D"⟩ : MethodName)) (z := (⟨"com/example/dispatch_by_catalog/dispatchbycatalog/ServerCpu", "compiling", "()D"⟩ : MethodName)) hown (mvT hZ (hw _ (List.mem_of_getElem? (i := 30) rfl))) (mvT hZ (hw _ (List.mem_of_getElem? (i := 31) rfl))) (notFace_of_selects (args := #[]) (mvT hZ (hw _ (List.mem_of_getElem? (i := 33) rfl)))) (mvT hZ (hw _ (List.mem_of_getElem? (i := 33) rfl))) (mvT hZ (hw _ (List.mem_of_getElem? (i := 32) rfl))) (by decide) (backOf (W := 0) (rm6 l Z a0 hw [] x4_0_18 (v4_2 (v0_3 p0 p1 p2 p3) (v0_1 p0 p1 p2 p3) (v0_4 p0 p1 p2 p3) (v0_2 p0 p1 p2 p3)) T18.heap n0 z26 po18_2) hZ (hw _ (List.mem_of_getElem? (i := 34) rfl)) (hw _ (List.mem_of_getElem? (i := 2) rfl)) (by decide) (by decide)) q31a q31c (g := (mkF m 64 #[.val (.int p0), .val (.int p1), .val (.int p2), .val (.int p3), .val (.ref b1), .val (.ref b9), .val (.ref x4_0_18), .val (.double (v0_5 p0 p1 p2 p3)), .second, .val (.double (v0_6 p0 p1 p2 p3)), .second] [(.ref x4_0_18)])) rfl (by rw [hml]; rfl) (Steps.refl _) (argsL := []) (rest := []) (lenOf pd___D rfl) rfl (by show 2 * 0 + _ ≤ _; exact Nat.le_of_eq rfl) (hb hby at_64) (fun _ _ => ⟨rfl, e28, (by decide : 3 + 0 ≤ _), (by decide : 6 + 0 ≤ _)⟩)
      dsimp only [Pt.U, Pt.locs, Pt.cells, Pt.slots] at X31 l31 y31 z31 st31 hQ31
      replace X31 := own_stand X31 l31 y31 z31
      clear l31 y31 z31
      have N31q := (show _ ∧ _ ∧ _ from hQ31).1
      have hv31 := (show _ ∧ _ ∧ _ from hQ31).2.1
      have e31 := (show _ ∧ _ ∧ _ from hQ31).2.2
      clear hQ31
      subst hv31
      have N31 := Fr.app N28 N31q
      have pre32 : ∀ t, Steps p.tables e below (T31.setTop (mkF m 70 #[.val (.int p0), .val (.int p1), .val (.int p2), .val (.int p3), .val (.ref b1), .val (.ref b9), .val (.ref x4_0_18), .val (.double (v0_5 p0 p1 p2 p3)), .second, .val (.double (v0_6 p0 p1 p2 p3)), .second] [(.int (cmpValue (FP.dcmp (v0_9 p0 p1 p2 p3) (v0_6 p0 p1 p2 p3)) .l))])) t → Steps p.tables e below (s₁.setTop (entryFrame m #[(.int p0), (.int p1), (.int p2), (.int p3)] maxLocals)) t := by
        intro t k
        refine pre29 t ?_
        show Steps p.tables e below (T28.setTop (mkF m 59 #[.val (.int p0), .val (.int p1), .val (.int p2), .val (.int p3), .val (.ref b1), .val (.ref b9), .val (.ref x4_0_18), .val (.double (v0_5 p0 p1 p2 p3)), .second, .val (.double (v0_6 p0 p1 p2 p3)), .second] [(.int (cmpValue (FP.dcmp (v0_7 p0 p1 p2 p3) (v0_5 p0 p1 p2 p3)) .l))])) _
        refine XS.ifNo X28.here hx rfl (hb hby at_59) rfl (XT.i0_ne_f c30) ?_
        show Steps p.tables e below (T28.setTop (mkF m 62 #[.val (.int p0), .val (.int p1), .val (.int p2), .val (.int p3), .val (.ref b1), .val (.ref b9), .val (.ref x4_0_18), .val (.double (v0_5 p0 p1 p2 p3)), .second, .val (.double (v0_6 p0 p1 p2 p3)), .second] [])) _
        refine XS.aload X28.here hx rfl (hb hby at_62) rfl rfl ?_
        show Steps p.tables e below (T28.setTop (mkF m 64 #[.val (.int p0), .val (.int p1), .val (.int p2), .val (.int p3), .val (.ref b1), .val (.ref b9), .val (.ref x4_0_18), .val (.double (v0_5 p0 p1 p2 p3)), .second, .val (.double (v0_6 p0 p1 p2 p3)), .second] [(.ref x4_0_18)])) _
        refine st31.trans ?_
        show Steps p.tables e below (T31.setTop (mkF m 67 #[.val (.int p0), .val (.int p1), .val (.int p2), .val (.int p3), .val (.ref b1), .val (.ref b9), .val (.ref x4_0_18), .val (.double (v0_5 p0 p1 p2 p3)), .second, .val (.double (v0_6 p0 p1 p2 p3)), .second] [(.double (f6 (v4_2 (v0_3 p0 p1 p2 p3) (v0_1 p0 p1 p2 p3) (v0_4 p0 p1 p2 p3) (v0_2 p0 p1 p2 p3))))])) _
        refine XS.dload X31.here hx rfl (hb hby at_67) rfl ?_
        show Steps p.tables e below (T31.setTop (mkF m 69 #[.val (.int p0), .val (.int p1), .val (.int p2), .val (.int p3), .val (.ref b1), .val (.ref b9), .val (.ref x4_0_18), .val (.double (v0_5 p0 p1 p2 p3)), .second, .val (.double (v0_6 p0 p1 p2 p3)), .second] [(.double (v0_6 p0 p1 p2 p3)), (.double (f6 (v4_2 (v0_3 p0 p1 p2 p3) (v0_1 p0 p1 p2 p3) (v0_4 p0 p1 p2 p3) (v0_2 p0 p1 p2 p3))))])) _
        refine XS.dcmpS X31.here hx rfl (hb hby at_69) rfl rfl ?_
        exact k
      clear pre29 st31
      by_cases c33 : (v0_10 p0 p1 p2 p3) = (0 : Int32)
      · skip
        refine ⟨T31, _, X31, e31, N31, fun t k => ?_⟩
        rw [show (v0_11 p0 p1 p2 p3) = (1 : Int32) from ((if_pos c30).trans (if_pos c33))] at k
        refine pre32 t ?_
        show Steps p.tables e below (T31.setTop (mkF m 70 #[.val (.int p0), .val (.int p1), .val (.int p2), .val (.int p3), .val (.ref b1), .val (.ref b9), .val (.ref x4_0_18), .val (.double (v0_5 p0 p1 p2 p3)), .second, .val (.double (v0_6 p0 p1 p2 p3)), .second] [(.int (cmpValue (FP.dcmp (v0_9 p0 p1 p2 p3) (v0_6 p0 p1 p2 p3)) .l))])) _
        refine XS.ifNo X31.here hx rfl (hb hby at_70) rfl (XT.i0_ne_f c33) ?_
        show Steps p.tables e below (T31.setTop (mkF m 73 #[.val (.int p0), .val (.int p1), .val (.int p2), .val (.int p3), .val (.ref b1), .val (.ref b9), .val (.ref x4_0_18), .val (.double (v0_5 p0 p1 p2 p3)), .second, .val (.double (v0_6 p0 p1 p2 p3)), .second] [])) _
        refine XT.iconstV X31.here hx rfl (1 : Int32) (hb hby at_73) (by decide) ?_
        show Steps p.tables e below (T31.setTop (mkF m 74 #[.val (.int p0), .val (.int p1), .val (.int p2), .val (.int p3), .val (.ref b1), .val (.ref b9), .val (.ref x4_0_18), .val (.double (v0_5 p0 p1 p2 p3)), .second, .val (.double (v0_6 p0 p1 p2 p3)), .second] [(.int (1 : Int32))])) _
        refine XS.goto X31.here hx rfl (pc0 := 74) (pc' := 78) rfl (hb hby at_74) (by decide) (by decide) ?_
        exact k
      · skip
        refine ⟨T31, _, X31, e31, N31, fun t k => ?_⟩
        rw [show (v0_11 p0 p1 p2 p3) = (0 : Int32) from ((if_pos c30).trans (if_neg c33))] at k
        refine pre32 t ?_
        show Steps p.tables e below (T31.setTop (mkF m 70 #[.val (.int p0), .val (.int p1), .val (.int p2), .val (.int p3), .val (.ref b1), .val (.ref b9), .val (.ref x4_0_18), .val (.double (v0_5 p0 p1 p2 p3)), .second, .val (.double (v0_6 p0 p1 p2 p3)), .second] [(.int (cmpValue (FP.dcmp (v0_9 p0 p1 p2 p3) (v0_6 p0 p1 p2 p3)) .l))])) _
        refine XS.ifYes X31.here hx rfl (pc0 := 70) (pc' := 77) rfl (hb hby at_70) rfl (XT.i0_ne_t c33) (by decide) (by decide) ?_
        show Steps p.tables e below (T31.setTop (mkF m 77 #[.val (.int p0), .val (.int p1), .val (.int p2), .val (.int p3), .val (.ref b1), .val (.ref b9), .val (.ref x4_0_18), .val (.double (v0_5 p0 p1 p2 p3)), .second, .val (.double (v0_6 p0 p1 p2 p3)), .second] [])) _
        refine XT.iconstV X31.here hx rfl (0 : Int32) (hb hby at_77) (by decide) ?_
        exact k
    · skip
      refine ⟨T28, _, X28, e28, N28, fun t k => ?_⟩
      rw [show (v0_11 p0 p1 p2 p3) = (0 : Int32) from (if_neg c30)] at k
      refine pre29 t ?_
      show Steps p.tables e below (T28.setTop (mkF m 59 #[.val (.int p0), .val (.int p1), .val (.int p2), .val (.int p3), .val (.ref b1), .val (.ref b9), .val (.ref x4_0_18), .val (.double (v0_5 p0 p1 p2 p3)), .second, .val (.double (v0_6 p0 p1 p2 p3)), .second] [(.int (cmpValue (FP.dcmp (v0_7 p0 p1 p2 p3) (v0_5 p0 p1 p2 p3)) .l))])) _
      refine XS.ifYes X28.here hx rfl (pc0 := 59) (pc' := 77) rfl (hb hby at_59) rfl (XT.i0_ne_t c30) (by decide) (by decide) ?_
      show Steps p.tables e below (T28.setTop (mkF m 77 #[.val (.int p0), .val (.int p1), .val (.int p2), .val (.int p3), .val (.ref b1), .val (.ref b9), .val (.ref x4_0_18), .val (.double (v0_5 p0 p1 p2 p3)), .second, .val (.double (v0_6 p0 p1 p2 p3)), .second] [])) _
      refine XT.iconstV X28.here hx rfl (0 : Int32) (hb hby at_77) (by decide) ?_
      exact k
  have hv35 : (v0_11 p0 p1 p2 p3) = (1 : Int32) := own_law p0 p1 p2 p3
  obtain ⟨fs, hr, hrun, hended, hW, hsame⟩ := X34.leave (v := some (.int (1 : Int32))) (fun h => by rw [Bd.returns] at h; cases h) hlk
  refine ⟨_, _, pre34 _ ?_, hrun, hended, _, _, rfl, ?_, ⟨_, rfl⟩, hW, hsame.mono (by decide) (by decide)⟩
  · skip
    show Steps p.tables e below (T34.setTop (mkF m 78 #[.val (.int p0), .val (.int p1), .val (.int p2), .val (.int p3), .val (.ref b1), .val (.ref b9), .val (.ref x4_0_18), .val (.double (v0_5 p0 p1 p2 p3)), .second, .val (.double (v0_6 p0 p1 p2 p3)), .second] [(.int (v0_11 p0 p1 p2 p3))])) _
    rw [hv35]
    exact retN X34 hx (t := .boolean) Bd.returns (by simp) (hb hby at_78) hr
  · skip
    show Q0 Z p0 p1 p2 p3 h0 n0 _ T34.heap _
    rw [e34]
    exact ⟨rfl, N34⟩
set_option maxRecDepth 65536 in
set_option maxHeartbeats 40000000 in
theorem comes_1 {Post : Tables → Env → Array Value → State → Outcome → State → Prop} (hpost : ∀ tb e args s v u, (limb_1_1.after args s (.returned v) u = true ∧ limb_1_2.after args s (.returned v) u = true ∧ True) → FrameEnd s (.returned v) u (Jvm.fieldLocs frame_1_writes args s ++ Jvm.arrayLocs frame_1_arrays args s ++ Jvm.staticLocs frame_1_statics s) 16 128 → Post tb e args s (.returned v) u) :
    ArmFor flags0 classFile x code maxLocals ret World_1 tables_1 room_1 Calls_1 rest_1 Pre_1 Post := by
  intro l hfl _ _ p e ha hc hk s m args below hf hA hF happ hP
  obtain ⟨hcalls, hrest, hpre⟩ := hP
  obtain ⟨-, -, -, hnamed, -, -, -, hat⟩ := (Spec.applies_iff hf).mp happ
  obtain ⟨hg, hn⟩ := and_e (Cond.before_iff.mp (show (Jvm.Cond.and given_1 narrow_1).before args s = true from hpre))
  obtain ⟨hcount, r0⟩ := and_e hg
  obtain ⟨ha0, r1⟩ := and_e r0
  obtain ⟨ha1, r2⟩ := and_e r1
  obtain ⟨ha2, r3⟩ := and_e r2
  obtain ⟨w0, w1, w2, w3, rfl⟩ : ∃ w0 w1 w2 w3 : Value, args = #[w0, w1, w2, w3] := by
    have hs : args.size = 4 := by simpa [Cond.value, given_1] using hcount
    obtain ⟨L⟩ := args
    match L, hs with
    | [w0, w1, w2, w3], _ => exact ⟨w0, w1, w2, w3, rfl⟩
  have hw := fun d (hd : d ∈ tables_1) => atoms_spec (ws := Jvm.Cond.code x code maxLocals ret :: tables_1) hat d (List.mem_cons_of_mem _ hd)
  have hfit : Fit s := fun {y c} hc i hi => by
    obtain ⟨ha, rfl⟩ := Array.getElem?_eq_some_iff.mp hc
    have q := List.all_eq_true.mp ((Array.all_eq_true_iff_forall_mem.mp hF) _ (Array.getElem_mem ha)) i (List.mem_range.mpr hi)
    simpa [Array.getElem?_eq_getElem hi] using q
  obtain ⟨i0, ei0⟩ := is_v ha0
  obtain rfl : w0 = (.int i0) := Option.some.inj ei0
  obtain ⟨i1, ei1⟩ := is_v ha1
  obtain rfl : w1 = (.int i1) := Option.some.inj ei1
  obtain ⟨i2, ei2⟩ := is_v ha2
  obtain rfl : w2 = (.int i2) := Option.some.inj ei2
  obtain ⟨i3, ei3⟩ := is_v r3
  obtain rfl : w3 = (.int i3) := Option.some.inj ei3
  obtain ⟨n, o, h1, h2, h3, _, L, rfl, ⟨rfl, N⟩, hq⟩ := rm0 l s _ hw tables_1 i0 i1 i2 i3 s.heap s.heap.size (Nat.le_refl _) p e ha hc hk s m _ below hf ((Spec.applies_iff_loose hf).mp happ).1 ⟨rfl, State.Warmed39.refl s, rfl⟩ trivial
  refine ⟨n, _, h1, h2, h3, hpost _ _ _ _ _ _ ⟨Cond.after_iff.mpr rfl, Cond.after_iff.mpr (eq_i res_at (Term.int_eval (1)) rfl), trivial⟩ ⟨hq.1, hq.2.1, (hq.2.2.sift fun y hy => Or.inr (N y hy)).mono (by decide) (by decide)⟩⟩
theorem main_1_1 : Claimed_1_1 := comes_1 fun _ _ _ _ _ _ h hF => ⟨h.1, hF⟩
theorem main_1_2 : Claimed_1_2 := comes_1 fun _ _ _ _ _ _ h hF => ⟨h.2.1, hF⟩
end Jvm.Pilot.@@N@@
namespace Jvm.Pilot.@@N@@
open Jvm Jvm.ClassFile Sem Op Lib Jvm.Free Jvm.Stand Jvm.Pilot.@@N@@.Jvm.D
/-! MADE BY PROGRAM (witnessworld.py) out of the Statement's table words and the real class files: 10 classes; the members and pool entries that the words name. The judged class is class 1, her method 1. -/
namespace start1
open Jvm.ClassFile
def u (s : String) : CpInfo := .utf8 (stringToUtf16 s)
/-- a pool by its gaps: so many unusable entries, then the entry; so many at the end -/
def gap : Nat → List CpInfo → List CpInfo
  | 0, r => r
  | n + 1, r => .unusable :: gap n r
def poolList (es : List (Nat × CpInfo)) (last : Nat) : List CpInfo := es.foldr (fun e r => gap e.1 (e.2 :: r)) (gap last [])
def pool (es : List (Nat × CpInfo)) (last : Nat) : Array CpInfo := ⟨poolList es last⟩
def fileOf (pool : Array CpInfo) (this : Nat) (attrs : Array Attribute := #[]) (ms : Array MethodInfo := #[]) (fl : Nat := 33) (sup : Nat := 0) (ifs : Array Nat := #[]) (fds : Array FieldInfo := #[]) : ClassFile where
  minorVersion := 0
  majorVersion := 65
  constantPool := pool
  accessFlags := fl
  thisClass := this
  superClass := sup
  interfaces := ifs
  fields := fds
  methods := ms
  attributes := attrs
def plain (name : String) (sup : Option ClassId) : Class where
  name := name
  kind := .ordinary
  loader := none
  accessFlags := 33
  super := sup
  interfaces := #[]
  cf := none
  fields := #[]
  methods := #[]
  instanceTypes := #[]
  staticTypes := #[]
  resolved := #[]
  callSites := []
  init := .initialized
  statics := none
  mirror := none

def pool0 : Array CpInfo := pool [(5, u "<init>"), (0, u "()V"), (1, .class_ 10), (1, u "java/lang/Object")] 113

def k0c0 : Code := { maxStack := 0, maxLocals := 1, code := object_method_1_code, exceptionTable := #[], attributes := #[] }
def k0m0 : Method := { name := "<init>", desc := "()V", sig := { parameters := [], returnType := none }, accessFlags := 1, code := some k0c0 }
/-- java/lang/Object -/
def k0 : Class := { plain "java/lang/Object" none with
  accessFlags := 33
  interfaces := #[]
  cf := some (fileOf pool0 8 #[] #[{ accessFlags := 1, nameIndex := 5, descriptorIndex := 6, attributes := #[] }] 33 0 #[] #[])
  fields := #[]
  methods := #[k0m0]
  instanceTypes := #[]
  staticTypes := #[]
  resolved := Array.replicate 124 none
  statics := none }

def pool1 : Array CpInfo := pool [(2, .class_ 4), (1, u "java/lang/Object"), (0, u "<init>"), (0, u "()V"), (0, .class_ 8), (0, u "com/example/dispatch_by_catalog/dispatchbycatalog/ServerCpu"), (0, .methodref 7 10), (0, .nameAndType 5 11), (0, u "(DD)V"), (0, .methodref 7 13), (0, .nameAndType 14 15), (0, u "until"), (0, u "(Lcom/example/dispatch_by_catalog/dispatchbycatalog/ServerCpu;)Lcom/example/dispatch_by_catalog/dispatchbycatalog/ServerCpu;"), (0, .methodref 7 17), (0, .nameAndType 18 19), (0, u "total"), (0, u "()D"), (0, .methodref 7 21), (0, .nameAndType 22 19), (0, u "compiling"), (0, .class_ 24), (0, u "com/example/dispatch_by_catalog/dispatchbycatalog/ServerCpuUntilPinLaw"), (2, u "law"), (0, u "(IIII)Z")] 3

def k1m0 : Method := { name := "<init>", desc := "()V", sig := { parameters := [], returnType := none }, accessFlags := 1, code := none }
def k1c1 : Code := { maxStack := 6, maxLocals := 11, code := code, exceptionTable := #[], attributes := #[] }
def k1m1 : Method := { name := "law", desc := "(IIII)Z", sig := { parameters := [.int, .int, .int, .int], returnType := some .boolean }, accessFlags := 9, code := some k1c1 }
/-- com/example/dispatch_by_catalog/dispatchbycatalog/ServerCpuUntilPinLaw -/
def k1 : Class := { plain "com/example/dispatch_by_catalog/dispatchbycatalog/ServerCpuUntilPinLaw" (some 0) with
  accessFlags := 49
  interfaces := #[]
  cf := some (fileOf pool1 23 #[] #[{ accessFlags := 1, nameIndex := 5, descriptorIndex := 6, attributes := #[] }, { accessFlags := 9, nameIndex := 27, descriptorIndex := 28, attributes := #[] }] 49 2 #[] #[])
  fields := #[]
  methods := #[k1m0, k1m1]
  instanceTypes := #[]
  staticTypes := #[]
  resolved := Array.replicate 32 none
  statics := none }

def pool2 : Array CpInfo := pool [(1, .methodref 2 3), (0, .class_ 4), (0, .nameAndType 5 6), (0, u "java/lang/Object"), (0, u "<init>"), (0, u "()V"), (0, .class_ 8), (0, u "java/lang/Record")] 13

def k2c0 : Code := { maxStack := 1, maxLocals := 1, code := jdk_30_method_1_code, exceptionTable := #[], attributes := #[] }
def k2m0 : Method := { name := "<init>", desc := "()V", sig := { parameters := [], returnType := none }, accessFlags := 4, code := some k2c0 }
/-- java/lang/Record -/
def k2 : Class := { plain "java/lang/Record" (some 0) with
  accessFlags := 1057
  interfaces := #[]
  cf := some (fileOf pool2 7 #[] #[{ accessFlags := 4, nameIndex := 5, descriptorIndex := 6, attributes := #[] }] 1057 2 #[] #[])
  fields := #[]
  methods := #[k2m0]
  instanceTypes := #[]
  staticTypes := #[]
  resolved := Array.replicate 22 none
  statics := none }

def pool3 : Array CpInfo := pool [(1, .methodref 2 3), (0, .class_ 4), (0, .nameAndType 5 6), (0, u "java/lang/Record"), (0, u "<init>"), (0, u "()V"), (0, .fieldref 8 9), (0, .class_ 10), (0, .nameAndType 11 12), (0, u "com/example/dispatch_by_catalog/dispatchbycatalog/ServerCpu"), (0, u "total"), (0, u "D"), (0, .fieldref 8 14), (0, .nameAndType 15 12), (0, u "compiling"), (118, .methodref 8 135), (0, .nameAndType 5 136), (0, u "(DD)V"), (58, u "TICKS_PER_SECOND"), (1, u "COMPILER"), (0, u "Ljava/lang/String;"), (6, u "until"), (0, u "(Lcom/example/dispatch_by_catalog/dispatchbycatalog/ServerCpu;)Lcom/example/dispatch_by_catalog/dispatchbycatalog/ServerCpu;"), (2, u "()D")] 42

def k3c0 : Code := { maxStack := 3, maxLocals := 5, code := prog_3_method_1_code, exceptionTable := #[], attributes := #[] }
def k3m0 : Method := { name := "<init>", desc := "(DD)V", sig := { parameters := [.double, .double], returnType := none }, accessFlags := 0, code := some k3c0 }
def k3c1 : Code := { maxStack := 8, maxLocals := 2, code := prog_3_method_3_code, exceptionTable := #[], attributes := #[] }
def k3m1 : Method := { name := "until", desc := "(Lcom/example/dispatch_by_catalog/dispatchbycatalog/ServerCpu;)Lcom/example/dispatch_by_catalog/dispatchbycatalog/ServerCpu;", sig := { parameters := [(.object "com/example/dispatch_by_catalog/dispatchbycatalog/ServerCpu")], returnType := some (.object "com/example/dispatch_by_catalog/dispatchbycatalog/ServerCpu") }, accessFlags := 0, code := some k3c1 }
def k3c2 : Code := { maxStack := 2, maxLocals := 1, code := prog_3_method_9_code, exceptionTable := #[], attributes := #[] }
def k3m2 : Method := { name := "total", desc := "()D", sig := { parameters := [], returnType := some .double }, accessFlags := 1, code := some k3c2 }
def k3c3 : Code := { maxStack := 2, maxLocals := 1, code := prog_3_method_10_code, exceptionTable := #[], attributes := #[] }
def k3m3 : Method := { name := "compiling", desc := "()D", sig := { parameters := [], returnType := some .double }, accessFlags := 1, code := some k3c3 }
/-- com/example/dispatch_by_catalog/dispatchbycatalog/ServerCpu -/
def k3 : Class := { plain "com/example/dispatch_by_catalog/dispatchbycatalog/ServerCpu" (some 2) with
  accessFlags := 48
  interfaces := #[]
  cf := some (fileOf pool3 8 #[] #[{ accessFlags := 0, nameIndex := 5, descriptorIndex := 136, attributes := #[] }, { accessFlags := 0, nameIndex := 205, descriptorIndex := 206, attributes := #[] }, { accessFlags := 1, nameIndex := 11, descriptorIndex := 209, attributes := #[] }, { accessFlags := 1, nameIndex := 15, descriptorIndex := 209, attributes := #[] }] 48 2 #[] #[{ accessFlags := 18, nameIndex := 11, descriptorIndex := 12, attributes := #[] }, { accessFlags := 18, nameIndex := 15, descriptorIndex := 12, attributes := #[] }, { accessFlags := 26, nameIndex := 195, descriptorIndex := 12, attributes := #[] }, { accessFlags := 26, nameIndex := 197, descriptorIndex := 198, attributes := #[] }])
  fields := #[{ name := "total", type := .double, accessFlags := 18, slot := 0, constantValue := 0 }, { name := "compiling", type := .double, accessFlags := 18, slot := 1, constantValue := 0 }, { name := "TICKS_PER_SECOND", type := .double, accessFlags := 26, slot := 0, constantValue := 0 }, { name := "COMPILER", type := (.object "java/lang/String"), accessFlags := 26, slot := 1, constantValue := 0 }]
  methods := #[k3m0, k3m1, k3m2, k3m3]
  instanceTypes := #[.double, .double]
  staticTypes := #[.double, (.object "java/lang/String")]
  resolved := Array.replicate 252 none
  statics := none }

def pool4 : Array CpInfo := pool [(1, u "java/lang/Cloneable"), (0, .class_ 1), (0, u "java/lang/Object"), (0, .class_ 3)] 3

/-- java/lang/Cloneable -/
def k4 : Class := { plain "java/lang/Cloneable" (some 0) with
  accessFlags := 1537
  interfaces := #[]
  cf := some (fileOf pool4 2 #[] #[] 1537 4 #[] #[])
  fields := #[]
  methods := #[]
  instanceTypes := #[]
  staticTypes := #[]
  resolved := Array.replicate 8 none
  statics := none }

def pool5 : Array CpInfo := pool [(1, u "java/io/Serializable"), (0, .class_ 1), (0, u "java/lang/Object"), (0, .class_ 3)] 3

/-- java/io/Serializable -/
def k5 : Class := { plain "java/io/Serializable" (some 0) with
  accessFlags := 1537
  interfaces := #[]
  cf := some (fileOf pool5 2 #[] #[] 1537 4 #[] #[])
  fields := #[]
  methods := #[]
  instanceTypes := #[]
  staticTypes := #[]
  resolved := Array.replicate 8 none
  statics := none }

/-- the primitive byte -/
def k6 : Class := { plain "byte" none with kind := .primitive 'B', accessFlags := 0x411 }
/-- [B -/
def k7 : Class := { plain "[B" (some 0) with kind := .array 6 .byte, interfaces := #[4, 5], accessFlags := 1041 }

/-- the primitive int -/
def k8 : Class := { plain "int" none with kind := .primitive 'I', accessFlags := 0x411 }
/-- [I -/
def k9 : Class := { plain "[I" (some 0) with kind := .array 8 .int, interfaces := #[4, 5], accessFlags := 1041 }

def heap : Heap := #[]
def classes : Array Class := #[k0, k1, k2, k3, k4, k5, k6, k7, k8, k9]
def interned : List (Array UInt16 × Addr) := []
def slotsUsed : Nat := 0
def theMethod : MethodId := ⟨1, 1⟩
def args0 : Array Value := #[.int 5, .int 7, .int 3, .int 9]
def aboutOver (below : List Frame) : State where
  vm := { classes := classes, interned := interned.toArray }
  heap := heap
  slotsUsed := slotsUsed
  threads := #[{ frames := .invoking theMethod args0 :: below }]
def below0 : List Frame := [.native { method := ⟨0, 0⟩, args := #[] }]
def about1 : State := aboutOver below0
def p0 : Program := .bare "" "" ""
def e0 : Env := launch0.env 0 0 0
theorem w_frames : about1.frames = Frame.invoking theMethod args0 :: below0 := rfl
set_option maxRecDepth 65536 in
theorem w_args : argsFit about1.vm theMethod args0 = true := by decide +kernel
set_option maxRecDepth 65536 in
theorem w_heap : heapFits about1 = true := by decide +kernel
set_option maxRecDepth 65536 in
theorem w_runnable : about1.curStatus? = some .runnable := by decide +kernel
set_option maxRecDepth 65536 in
theorem w_alone : about1.alone = true := by decide +kernel
set_option maxRecDepth 65536 in
theorem w_named : about1.methodNamed? x = some theMethod := by decide +kernel
set_option maxRecDepth 65536 in
theorem w_hears : about1.hears theMethod below0 = true := by decide +kernel
set_option maxRecDepth 65536 in
theorem w_ripe : about1.ripe theMethod args0 below0 = true := by decide +kernel
theorem w_running : about1.status = .running := rfl
set_option maxRecDepth 65536 in
theorem w_room : about1.hasRoom e0.platform room_1 = true :=
  launch0.hasRoom_least _ room_1 (by decide +kernel) (by decide +kernel) (by decide +kernel) (by decide +kernel) (by decide +kernel) (by decide +kernel)
theorem allAtoms_all (ts : List Jvm.Cond) (a : Array Jvm.Value) (st : Jvm.State) : (allAtoms ts).before a st = ts.all (fun c => c.before a st) := by
  induction ts with
  | nil => rfl
  | cons c t ih =>
    show (Jvm.Cond.and c (allAtoms t)).before a st = _
    rw [Jvm.Cond.before_and, ih, List.all_cons]
def words1 : List Jvm.Cond := Jvm.Cond.code x code maxLocals ret :: tables_1
/-- a 'code' word, met by the world's own term for the bytes: nothing is compared byte by byte -/
theorem code_word {y : MethodName} {bytes : ByteArray} {mx : Nat} {rt : Option FieldType} {a : Array Value} {s : State} {m : MethodId} {meth : Method} {c : Code} (h1 : s.methodNamed? y = some m) (h2 : s.vm.method? m = some meth) (h3 : meth.code = some c) (h4 : c.code = bytes)
    (h5 : (c.maxLocals == mx && c.exceptionTable.isEmpty && decide (c.maxStack ≤ mostOperands) && decide (meth.sig.returnType = rt) && !meth.locks && decide (parseMethodDescriptor y.desc = some meth.sig)) = true) : (Jvm.Cond.code y bytes mx rt).before a s = true := by
  simp only [Bool.and_eq_true, beq_iff_eq, Bool.not_eq_true', decide_eq_true_eq] at h5
  obtain ⟨⟨⟨⟨⟨g1, g2⟩, g3⟩, g4⟩, g5⟩, g6⟩ := h5
  simp [Cond.before, Cond.holds, Cond.value, h1, h2, h3, h4, g1, g2, g3, g4, g5, g6]
def isCode : Jvm.Cond → Bool
  | .code _ _ _ _ => true
  | _ => false
theorem all_split {L : List Jvm.Cond} {P : Jvm.Cond → Bool} (h1 : L.all (fun c => isCode c || P c) = true) (h2 : ∀ c ∈ L.filter isCode, P c = true) : L.all P = true := by
  refine List.all_eq_true.mpr fun c hc => ?_
  have h := List.all_eq_true.mp h1 c hc
  rcases Bool.eq_false_or_eq_true (isCode c) with hi | hi
  · exact h2 c (List.mem_filter.mpr ⟨hc, hi⟩)
  · simpa [hi] using h
set_option maxRecDepth 65536 in
theorem w_c0 : (Jvm.Cond.code x code maxLocals ret).before args0 about1 = true := code_word (m := ⟨1, 1⟩) (meth := k1m1) (c := k1c1) (by decide +kernel) rfl rfl rfl (by decide +kernel)
set_option maxRecDepth 65536 in
theorem w_c1 : (Jvm.Cond.code ({ cls := "com/example/dispatch_by_catalog/dispatchbycatalog/ServerCpu", name := "<init>", desc := "(DD)V" } : Jvm.MethodName) prog_3_method_1_code (5 : Nat) (Option.none : Option Jvm.ClassFile.FieldType)).before args0 about1 = true := code_word (m := ⟨3, 0⟩) (meth := k3m0) (c := k3c0) (by decide +kernel) rfl rfl rfl (by decide +kernel)
set_option maxRecDepth 65536 in
theorem w_c2 : (Jvm.Cond.code ({ cls := "java/lang/Record", name := "<init>", desc := "()V" } : Jvm.MethodName) jdk_30_method_1_code (1 : Nat) (Option.none : Option Jvm.ClassFile.FieldType)).before args0 about1 = true := code_word (m := ⟨2, 0⟩) (meth := k2m0) (c := k2c0) (by decide +kernel) rfl rfl rfl (by decide +kernel)
set_option maxRecDepth 65536 in
theorem w_c3 : (Jvm.Cond.code ({ cls := "java/lang/Object", name := "<init>", desc := "()V" } : Jvm.MethodName) object_method_1_code (1 : Nat) (Option.none : Option Jvm.ClassFile.FieldType)).before args0 about1 = true := code_word (m := ⟨0, 0⟩) (meth := k0m0) (c := k0c0) (by decide +kernel) rfl rfl rfl (by decide +kernel)
set_option maxRecDepth 65536 in
theorem w_c4 : (Jvm.Cond.code ({ cls := "com/example/dispatch_by_catalog/dispatchbycatalog/ServerCpu", name := "until", desc := "(Lcom/example/dispatch_by_catalog/dispatchbycatalog/ServerCpu;)Lcom/example/dispatch_by_catalog/dispatchbycatalog/ServerCpu;" } : Jvm.MethodName) prog_3_method_3_code (2 : Nat) (Option.some (Jvm.ClassFile.FieldType.object "com/example/dispatch_by_catalog/dispatchbycatalog/ServerCpu"))).before args0 about1 = true := code_word (m := ⟨3, 1⟩) (meth := k3m1) (c := k3c1) (by decide +kernel) rfl rfl rfl (by decide +kernel)
set_option maxRecDepth 65536 in
theorem w_c5 : (Jvm.Cond.code ({ cls := "com/example/dispatch_by_catalog/dispatchbycatalog/ServerCpu", name := "total", desc := "()D" } : Jvm.MethodName) prog_3_method_9_code (1 : Nat) (Option.some Jvm.ClassFile.FieldType.double)).before args0 about1 = true := code_word (m := ⟨3, 2⟩) (meth := k3m2) (c := k3c2) (by decide +kernel) rfl rfl rfl (by decide +kernel)
set_option maxRecDepth 65536 in
theorem w_c6 : (Jvm.Cond.code ({ cls := "com/example/dispatch_by_catalog/dispatchbycatalog/ServerCpu", name := "compiling", desc := "()D" } : Jvm.MethodName) prog_3_method_10_code (1 : Nat) (Option.some Jvm.ClassFile.FieldType.double)).before args0 about1 = true := code_word (m := ⟨3, 3⟩) (meth := k3m3) (c := k3c3) (by decide +kernel) rfl rfl rfl (by decide +kernel)
def codes1 : List Jvm.Cond := [Jvm.Cond.code x code maxLocals ret, Jvm.Cond.code ({ cls := "com/example/dispatch_by_catalog/dispatchbycatalog/ServerCpu", name := "<init>", desc := "(DD)V" } : Jvm.MethodName) prog_3_method_1_code (5 : Nat) (Option.none : Option Jvm.ClassFile.FieldType), Jvm.Cond.code ({ cls := "java/lang/Record", name := "<init>", desc := "()V" } : Jvm.MethodName) jdk_30_method_1_code (1 : Nat) (Option.none : Option Jvm.ClassFile.FieldType), Jvm.Cond.code ({ cls := "java/lang/Object", name := "<init>", desc := "()V" } : Jvm.MethodName) object_method_1_code (1 : Nat) (Option.none : Option Jvm.ClassFile.FieldType), Jvm.Cond.code ({ cls := "com/example/dispatch_by_catalog/dispatchbycatalog/ServerCpu", name := "until", desc := "(Lcom/example/dispatch_by_catalog/dispatchbycatalog/ServerCpu;)Lcom/example/dispatch_by_catalog/dispatchbycatalog/ServerCpu;" } : Jvm.MethodName) prog_3_method_3_code (2 : Nat) (Option.some (Jvm.ClassFile.FieldType.object "com/example/dispatch_by_catalog/dispatchbycatalog/ServerCpu")), Jvm.Cond.code ({ cls := "com/example/dispatch_by_catalog/dispatchbycatalog/ServerCpu", name := "total", desc := "()D" } : Jvm.MethodName) prog_3_method_9_code (1 : Nat) (Option.some Jvm.ClassFile.FieldType.double), Jvm.Cond.code ({ cls := "com/example/dispatch_by_catalog/dispatchbycatalog/ServerCpu", name := "compiling", desc := "()D" } : Jvm.MethodName) prog_3_method_10_code (1 : Nat) (Option.some Jvm.ClassFile.FieldType.double)]
set_option maxRecDepth 65536 in
theorem codes_eq : words1.filter isCode = codes1 := rfl
theorem w_codes : ∀ c ∈ words1.filter isCode, c.before args0 about1 = true := by
  rw [codes_eq]
  intro c hc
  simp only [codes1, List.mem_cons, List.not_mem_nil, or_false] at hc
  rcases hc with rfl | rfl | rfl | rfl | rfl | rfl | rfl
  · exact w_c0
  · exact w_c1
  · exact w_c2
  · exact w_c3
  · exact w_c4
  · exact w_c5
  · exact w_c6
set_option maxRecDepth 65536 in
theorem w_t1 : (words1.take 24).all (fun c => isCode c || c.before args0 about1) = true := by decide +kernel
set_option maxRecDepth 65536 in
theorem w_t2 : (words1.drop 24).all (fun c => isCode c || c.before args0 about1) = true := by decide +kernel
theorem w_tables : (allAtoms (Jvm.Cond.code x code maxLocals ret :: tables_1)).before args0 about1 = true := by
  rw [allAtoms_all]
  show words1.all (fun c => c.before args0 about1) = true
  refine all_split ?_ w_codes
  rw [← List.take_append_drop 24 words1, List.all_append, w_t1, w_t2]
  rfl
set_option maxRecDepth 65536 in
theorem w_case : (Jvm.Cond.and given_1 narrow_1).before args0 about1 = true := by decide +kernel
theorem w_applies : (headSpec (Jvm.Cond.code x code maxLocals ret :: tables_1) room_1).applies x e0.platform about1 = true :=
  (Spec.applies_iff w_frames).mpr ⟨w_running, w_runnable, w_alone, w_named, w_hears, w_ripe, w_room, w_tables⟩
theorem atStart : AtStart classFile x code maxLocals ret World_1 tables_1 room_1 Calls_1 rest_1 Pre_1 launch0 p0 e0 about1 theMethod args0 below0 :=
  ⟨lists_1, trivial, launch0.admits_env _ _ _, launch0.least_env, fairChoices_fair.cas, fairChoices_fair.clock, w_frames, w_args, w_heap, w_applies, trivial, trivial, w_case⟩
end start1
theorem witness_1 : WitnessClaimed_1 := ⟨start1.p0, start1.e0, start1.about1, start1.theMethod, start1.args0, start1.below0, start1.atStart⟩
end Jvm.Pilot.@@N@@
