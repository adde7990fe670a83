import JvmDerived
import JvmDerived.Pilot.@@N@@Statement
import JvmDerived.Pilot.@@N@@Code
set_option linter.unusedVariables false
set_option linter.unusedSimpArgs false
@@BLOCK:NumsL.lean.txt@@
namespace Jvm.RoadKit
open Sem ClassFile Op Lib Jvm.Stand Jvm.Free Jvm.LawKit
section New
variable {p : Program} {l : Launch} {e : Env} {R : Room} {s : State} {m : MethodId} {args : Array Value} {below : List Frame} {meth : Method} {c : Code} {T : State} {locs : List Loc} {cells slots : Nat}
theorem retI (X : Stand p l e R s m args below meth c T locs cells slots) (hx : p.tables.exec = Jvm.exec) {pc : Nat} {Ls : Array Slot} {z : Int32} {rest : List Value} (hret : meth.sig.returnType = some .int) (hd : decode c.code pc = .ok (.ireturn, 1)) {fs : List Frame}
    (hl : ∀ (f : JFrame) (acts : List Action), f.method = m → f.locked = none → f.entered = [] → (doReturn e (T.setTop f) acts (some (.int z))).1 = T.setFrames fs) : Steps p.tables e below (T.setTop (mkF m pc Ls (.int z :: rest))) (T.setFrames fs) := by
  have hm' : T.vm.method? m = some meth := X.method'
  have hn : narrow .int (.int z) = .int z := rfl
  show Steps p.tables e below (T.setTop { method := m, pc := pc, locals := Ls, stack := _ :: rest, locked := none }) _
  jvm_step X.here [X.here.top, hx, hd, hm', hret, hn]
  first | (intro acts; rw [hl _ acts rfl rfl rfl]) | rw [hl _ _ rfl rfl rfl]
  exact Steps.refl _
end New
end Jvm.RoadKit
namespace Jvm.Pilot.@@N@@
open Jvm Jvm.ClassFile Sem Op Lib Jvm.Free Jvm.Stand Jvm.LawKit Jvm.RoadKit Bundle Jvm.Pilot.@@N@@.Jvm.D
theorem own_rem32 (x y : Int32) : (x - (x / y) * y).toInt = x.toInt.tmod y.toInt := by
  rw [Int32.toInt_sub, Int32.toInt_mul, Int32.toInt_div]
  simp only [Int.bmod_mul_bmod, Int.sub_bmod_bmod]
  rw [Int.tmod_def, Int.mul_comm y.toInt]
  have h := Int32.toInt_mod x y
  have h1 := (x % y).toInt_lt
  have h2 := (x % y).le_toInt
  rw [h, Int.tmod_def, Int.mul_comm y.toInt] at h1 h2
  exact Int.bmod_eq_of_le (by omega) (by omega)
theorem d5_0 : decode jdk_29_method_69_code 0 = .ok (.iload_n 0, 1) := by decide +kernel
theorem d5_1 : decode jdk_29_method_69_code 1 = .ok (.iload_n 1, 1) := by decide +kernel
theorem d5_2 : decode jdk_29_method_69_code 2 = .ok (.if_icmp .gt 7, 3) := by decide +kernel
theorem d5_5 : decode jdk_29_method_69_code 5 = .ok (.iload_n 0, 1) := by decide +kernel
theorem d5_6 : decode jdk_29_method_69_code 6 = .ok (.goto 4, 3) := by decide +kernel
theorem d5_9 : decode jdk_29_method_69_code 9 = .ok (.iload_n 1, 1) := by decide +kernel
theorem d5_10 : decode jdk_29_method_69_code 10 = .ok (.ireturn, 1) := by decide +kernel
theorem ef_5 (m : MethodId) (p0 : Int32) (p1 : Int32) : entryFrame m #[(.int p0), (.int p1)] 2 = mkF m 0 #[.val (.int p0), .val (.int p1)] [] := by first | (simp [entryFrame, mkF, argsToLocals, Value.category]; done) | rfl
def v5_1 (p0 : Int32) (p1 : Int32) : Int32 := (if p1 < p0 then p1 else p0)
def f5 (p0 : Int32) (p1 : Int32) : Int32 := (v5_1 p0 p1)
def Q5 (Z : State) (p0 : Int32) (p1 : Int32) (h0 : Heap) (n0 : Nat) (v : Option Value) (h : Heap) (L : List Loc) : Prop := Fr n0 L ∧ v = some (.int (f5 p0 p1)) ∧ h = h0
set_option maxRecDepth 65536 in
set_option maxHeartbeats 40000000 in
theorem rm5 (l : Launch) (Z : State) (a0 : Array Value) (hw : ∀ d ∈ tables_1, d.before a0 Z = true) (ws : List Jvm.Cond) (p0 : Int32) (p1 : Int32) (h0 : Heap) (n0 : Nat) (Z0 : n0 ≤ h0.size) :
    MetFree l (⟨"java/lang/Math", "min", "(II)I"⟩ : MethodName) (head1 (Jvm.Cond.code (⟨"java/lang/Math", "min", "(II)I"⟩ : MethodName) jdk_29_method_69_code 2 (some .int) :: ws) ({ frames := 0, cells := 0, slots := 0, locals := 0 } : Room)) (fun a U => a = #[(.int p0), (.int p1)] ∧ Z.Warmed39 U.vm ∧ U.heap = h0) (fun _ _ _ _ _ => True) (fun _ U o U' => ∃ v L, o = .returned v ∧ Q5 Z p0 p1 h0 n0 v U'.heap L ∧ FrameEnd U o U' L ({ frames := 0, cells := 0, slots := 0, locals := 0 } : Room).cells ({ frames := 0, cells := 0, slots := 0, locals := 0 } : Room).slots) := by
  refine MetFree.of_bodySF (Jvm.Free.JP.mathPlain rfl (by decide +kernel)) hisR ?_
  intro p e s m args below meth c s₁ Bd hml0 hP hK
  obtain ⟨rfl, hZ, hh⟩ := hP
  have hx := Bd.exec
  have hby := Bd.bytes
  have hml : c.maxLocals = 2 := hml0
  have hown : s.vm.findClass "java/lang/Math" = some m.cls := findClass_of_methodNamed Bd.named
  have hnm := (name_of_methodNamed Bd.named Bd.method).1
  have hlk := BodyLoose.notSynchronized Bd
  have X0 : Stand p l e ({ frames := 0, cells := 0, slots := 0, locals := 0 } : Room) s m #[(.int p0), (.int p1)] below meth c s₁ [] 0 0 := Stand.of_body Bd
  have e0 : s₁.heap = h0 := by rw [← hh, Bd.state]; rfl
  have N0 := Fr.nil n0
  have pre0 : ∀ t, Steps p.tables e below (s₁.setTop (mkF m 0 #[.val (.int p0), .val (.int p1)] [])) t → Steps p.tables e below (s₁.setTop (entryFrame m #[(.int p0), (.int p1)] 2)) t := fun t k => castTop (ef_5 m p0 p1) k
  have pre1 : ∀ t, Steps p.tables e below (s₁.setTop (mkF m 2 #[.val (.int p0), .val (.int p1)] [(.int p1), (.int p0)])) t → Steps p.tables e below (s₁.setTop (entryFrame m #[(.int p0), (.int p1)] 2)) t := by
    intro t k
    refine pre0 t ?_
    show Steps p.tables e below (s₁.setTop (mkF m 0 #[.val (.int p0), .val (.int p1)] [])) _
    refine XS.iloadN X0.here hx rfl (hb hby d5_0) rfl ?_
    show Steps p.tables e below (s₁.setTop (mkF m 1 #[.val (.int p0), .val (.int p1)] [(.int p0)])) _
    refine XS.iloadN X0.here hx rfl (hb hby d5_1) rfl ?_
    exact k
  clear pre0
  have pre3 : ∀ t, Steps p.tables e below (s₁.setTop (mkF m 10 #[.val (.int p0), .val (.int p1)] [(.int (v5_1 p0 p1))])) t → Steps p.tables e below (s₁.setTop (entryFrame m #[(.int p0), (.int p1)] 2)) t := by
    intro t k
    by_cases c2 : p1 < p0
    · skip
      rw [show (v5_1 p0 p1) = p1 from (if_pos c2)] at k
      refine pre1 t ?_
      show Steps p.tables e below (s₁.setTop (mkF m 2 #[.val (.int p0), .val (.int p1)] [(.int p1), (.int p0)])) _
      refine XS.icmpYes X0.here hx rfl (pc0 := 2) (pc' := 9) rfl (hb hby d5_2) rfl (XT.ii_gt_t c2) (by decide) (by decide) ?_
      show Steps p.tables e below (s₁.setTop (mkF m 9 #[.val (.int p0), .val (.int p1)] [])) _
      refine XS.iloadN X0.here hx rfl (hb hby d5_9) rfl ?_
      exact k
    · skip
      rw [show (v5_1 p0 p1) = p0 from (if_neg c2)] at k
      refine pre1 t ?_
      show Steps p.tables e below (s₁.setTop (mkF m 2 #[.val (.int p0), .val (.int p1)] [(.int p1), (.int p0)])) _
      refine XS.icmpNo X0.here hx rfl (hb hby d5_2) rfl (XT.ii_gt_f c2) ?_
      show Steps p.tables e below (s₁.setTop (mkF m 5 #[.val (.int p0), .val (.int p1)] [])) _
      refine XS.iloadN X0.here hx rfl (hb hby d5_5) rfl ?_
      show Steps p.tables e below (s₁.setTop (mkF m 6 #[.val (.int p0), .val (.int p1)] [(.int p0)])) _
      refine XS.goto X0.here hx rfl (pc0 := 6) (pc' := 10) rfl (hb hby d5_6) (by decide) (by decide) ?_
      exact k
  obtain ⟨fs, hr, hrun, hended, hW, hsame⟩ := X0.leave (v := some (.int (v5_1 p0 p1))) (fun h => by rw [Bd.returns] at h; cases h) hlk
  refine ⟨_, _, pre3 _ ?_, hrun, hended, _, _, rfl, ?_, ⟨_, rfl⟩, hW, hsame.mono (by decide) (by decide)⟩
  · skip
    show Steps p.tables e below (s₁.setTop (mkF m 10 #[.val (.int p0), .val (.int p1)] [(.int (v5_1 p0 p1))])) _
    exact retI X0 hx Bd.returns (hb hby d5_10) hr
  · skip
    show Q5 Z p0 p1 h0 n0 _ s₁.heap _
    rw [e0]
    exact ⟨N0, rfl, rfl⟩
theorem d11_0 : decode jdk_29_method_65_code 0 = .ok (.iload_n 0, 1) := by decide +kernel
theorem d11_1 : decode jdk_29_method_65_code 1 = .ok (.iload_n 1, 1) := by decide +kernel
theorem d11_2 : decode jdk_29_method_65_code 2 = .ok (.if_icmp .lt 7, 3) := by decide +kernel
theorem d11_5 : decode jdk_29_method_65_code 5 = .ok (.iload_n 0, 1) := by decide +kernel
theorem d11_6 : decode jdk_29_method_65_code 6 = .ok (.goto 4, 3) := by decide +kernel
theorem d11_9 : decode jdk_29_method_65_code 9 = .ok (.iload_n 1, 1) := by decide +kernel
theorem d11_10 : decode jdk_29_method_65_code 10 = .ok (.ireturn, 1) := by decide +kernel
theorem ef_11 (m : MethodId) (p0 : Int32) (p1 : Int32) : entryFrame m #[(.int p0), (.int p1)] 2 = mkF m 0 #[.val (.int p0), .val (.int p1)] [] := by first | (simp [entryFrame, mkF, argsToLocals, Value.category]; done) | rfl
def v11_1 (p0 : Int32) (p1 : Int32) : Int32 := (if p0 < p1 then p1 else p0)
def f11 (p0 : Int32) (p1 : Int32) : Int32 := (v11_1 p0 p1)
def Q11 (Z : State) (p0 : Int32) (p1 : Int32) (h0 : Heap) (n0 : Nat) (v : Option Value) (h : Heap) (L : List Loc) : Prop := Fr n0 L ∧ v = some (.int (f11 p0 p1)) ∧ h = h0
set_option maxRecDepth 65536 in
set_option maxHeartbeats 40000000 in
theorem rm11 (l : Launch) (Z : State) (a0 : Array Value) (hw : ∀ d ∈ tables_1, d.before a0 Z = true) (ws : List Jvm.Cond) (p0 : Int32) (p1 : Int32) (h0 : Heap) (n0 : Nat) (Z0 : n0 ≤ h0.size) :
    MetFree l (⟨"java/lang/Math", "max", "(II)I"⟩ : MethodName) (head1 (Jvm.Cond.code (⟨"java/lang/Math", "max", "(II)I"⟩ : MethodName) jdk_29_method_65_code 2 (some .int) :: ws) ({ frames := 0, cells := 0, slots := 0, locals := 0 } : Room)) (fun a U => a = #[(.int p0), (.int p1)] ∧ Z.Warmed39 U.vm ∧ U.heap = h0) (fun _ _ _ _ _ => True) (fun _ U o U' => ∃ v L, o = .returned v ∧ Q11 Z p0 p1 h0 n0 v U'.heap L ∧ FrameEnd U o U' L ({ frames := 0, cells := 0, slots := 0, locals := 0 } : Room).cells ({ frames := 0, cells := 0, slots := 0, locals := 0 } : Room).slots) := by
  refine MetFree.of_bodySF (Jvm.Free.JP.mathPlain rfl (by decide +kernel)) hisR ?_
  intro p e s m args below meth c s₁ Bd hml0 hP hK
  obtain ⟨rfl, hZ, hh⟩ := hP
  have hx := Bd.exec
  have hby := Bd.bytes
  have hml : c.maxLocals = 2 := hml0
  have hown : s.vm.findClass "java/lang/Math" = some m.cls := findClass_of_methodNamed Bd.named
  have hnm := (name_of_methodNamed Bd.named Bd.method).1
  have hlk := BodyLoose.notSynchronized Bd
  have X0 : Stand p l e ({ frames := 0, cells := 0, slots := 0, locals := 0 } : Room) s m #[(.int p0), (.int p1)] below meth c s₁ [] 0 0 := Stand.of_body Bd
  have e0 : s₁.heap = h0 := by rw [← hh, Bd.state]; rfl
  have N0 := Fr.nil n0
  have pre0 : ∀ t, Steps p.tables e below (s₁.setTop (mkF m 0 #[.val (.int p0), .val (.int p1)] [])) t → Steps p.tables e below (s₁.setTop (entryFrame m #[(.int p0), (.int p1)] 2)) t := fun t k => castTop (ef_11 m p0 p1) k
  have pre1 : ∀ t, Steps p.tables e below (s₁.setTop (mkF m 2 #[.val (.int p0), .val (.int p1)] [(.int p1), (.int p0)])) t → Steps p.tables e below (s₁.setTop (entryFrame m #[(.int p0), (.int p1)] 2)) t := by
    intro t k
    refine pre0 t ?_
    show Steps p.tables e below (s₁.setTop (mkF m 0 #[.val (.int p0), .val (.int p1)] [])) _
    refine XS.iloadN X0.here hx rfl (hb hby d11_0) rfl ?_
    show Steps p.tables e below (s₁.setTop (mkF m 1 #[.val (.int p0), .val (.int p1)] [(.int p0)])) _
    refine XS.iloadN X0.here hx rfl (hb hby d11_1) rfl ?_
    exact k
  clear pre0
  have pre3 : ∀ t, Steps p.tables e below (s₁.setTop (mkF m 10 #[.val (.int p0), .val (.int p1)] [(.int (v11_1 p0 p1))])) t → Steps p.tables e below (s₁.setTop (entryFrame m #[(.int p0), (.int p1)] 2)) t := by
    intro t k
    by_cases c2 : p0 < p1
    · skip
      rw [show (v11_1 p0 p1) = p1 from (if_pos c2)] at k
      refine pre1 t ?_
      show Steps p.tables e below (s₁.setTop (mkF m 2 #[.val (.int p0), .val (.int p1)] [(.int p1), (.int p0)])) _
      refine XS.icmpYes X0.here hx rfl (pc0 := 2) (pc' := 9) rfl (hb hby d11_2) rfl (XT.ii_lt_t c2) (by decide) (by decide) ?_
      show Steps p.tables e below (s₁.setTop (mkF m 9 #[.val (.int p0), .val (.int p1)] [])) _
      refine XS.iloadN X0.here hx rfl (hb hby d11_9) rfl ?_
      exact k
    · skip
      rw [show (v11_1 p0 p1) = p0 from (if_neg c2)] at k
      refine pre1 t ?_
      show Steps p.tables e below (s₁.setTop (mkF m 2 #[.val (.int p0), .val (.int p1)] [(.int p1), (.int p0)])) _
      refine XS.icmpNo X0.here hx rfl (hb hby d11_2) rfl (XT.ii_lt_f c2) ?_
      show Steps p.tables e below (s₁.setTop (mkF m 5 #[.val (.int p0), .val (.int p1)] [])) _
      refine XS.iloadN X0.here hx rfl (hb hby d11_5) rfl ?_
      show Steps p.tables e below (s₁.setTop (mkF m 6 #[.val (.int p0), .val (.int p1)] [(.int p0)])) _
      refine XS.goto X0.here hx rfl (pc0 := 6) (pc' := 10) rfl (hb hby d11_6) (by decide) (by decide) ?_
      exact k
  obtain ⟨fs, hr, hrun, hended, hW, hsame⟩ := X0.leave (v := some (.int (v11_1 p0 p1))) (fun h => by rw [Bd.returns] at h; cases h) hlk
  refine ⟨_, _, pre3 _ ?_, hrun, hended, _, _, rfl, ?_, ⟨_, rfl⟩, hW, hsame.mono (by decide) (by decide)⟩
  · skip
    show Steps p.tables e below (s₁.setTop (mkF m 10 #[.val (.int p0), .val (.int p1)] [(.int (v11_1 p0 p1))])) _
    exact retI X0 hx Bd.returns (hb hby d11_10) hr
  · skip
    show Q11 Z p0 p1 h0 n0 _ s₁.heap _
    rw [e0]
    exact ⟨N0, rfl, rfl⟩
theorem d1_0 : decode prog_35_method_1_code 0 = .ok (.aload_n 0, 1) := by decide +kernel
theorem d1_1 : decode prog_35_method_1_code 1 = .ok (.invokespecial 1, 3) := by decide +kernel
theorem d1_4 : decode prog_35_method_1_code 4 = .ok (.aload_n 0, 1) := by decide +kernel
theorem d1_5 : decode prog_35_method_1_code 5 = .ok (.bipush 64, 2) := by decide +kernel
theorem d1_7 : decode prog_35_method_1_code 7 = .ok (.newarray .byte, 2) := by decide +kernel
theorem d1_9 : decode prog_35_method_1_code 9 = .ok (.putfield 7, 3) := by decide +kernel
theorem d1_12 : decode prog_35_method_1_code 12 = .ok (.return_, 1) := by decide +kernel
theorem pn_com_example_dispatch_by_catalog_dispatchbycatalog_store_RecordWriter : plainName "com/example/dispatch_by_catalog/dispatchbycatalog/store/RecordWriter" = true := by first | (simp [plainName, overriddenIn]; done) | decide +kernel
theorem ef_1 (m : MethodId) (o0 : Addr) : entryFrame m #[(.ref o0)] 1 = mkF m 0 #[.val (.ref o0)] [] := by first | (simp [entryFrame, mkF, argsToLocals, Value.category]; done) | rfl
def Q1 (Z : State) (o0 : Addr) (w0_size : Int32) (u1_written : Value) (h0 : Heap) (n0 : Nat) (v : Option Value) (h : Heap) (L : List Loc) : Prop := Fr n0 L ∧ ∃ (x1_0 : Addr) (k1_1 : ClassId), v = none ∧ h0.size ≤ x1_0 ∧ Keep h0 h [o0] ∧ Exa Z h o0 "com/example/dispatch_by_catalog/dispatchbycatalog/store/RecordWriter" ∧ Fld Z h o0 "com/example/dispatch_by_catalog/dispatchbycatalog/store/RecordWriter" "size" "I" (.int w0_size) ∧ Fld Z h o0 "com/example/dispatch_by_catalog/dispatchbycatalog/store/RecordWriter" "written" "[B" (.ref x1_0) ∧ Arv Z h x1_0 k1_1 .byte (64 : Int32) [(.int (0 : Int32)), (.int (0 : Int32)), (.int (0 : Int32)), (.int (0 : Int32)), (.int (0 : Int32)), (.int (0 : Int32)), (.int (0 : Int32)), (.int (0 : Int32)), (.int (0 : Int32)), (.int (0 : Int32)), (.int (0 : Int32)), (.int (0 : Int32)), (.int (0 : Int32)), (.int (0 : Int32)), (.int (0 : Int32)), (.int (0 : Int32)), (.int (0 : Int32)), (.int (0 : Int32)), (.int (0 : Int32)), (.int (0 : Int32)), (.int (0 : Int32)), (.int (0 : Int32)), (.int (0 : Int32)), (.int (0 : Int32)), (.int (0 : Int32)), (.int (0 : Int32)), (.int (0 : Int32)), (.int (0 : Int32)), (.int (0 : Int32)), (.int (0 : Int32)), (.int (0 : Int32)), (.int (0 : Int32)), (.int (0 : Int32)), (.int (0 : Int32)), (.int (0 : Int32)), (.int (0 : Int32)), (.int (0 : Int32)), (.int (0 : Int32)), (.int (0 : Int32)), (.int (0 : Int32)), (.int (0 : Int32)), (.int (0 : Int32)), (.int (0 : Int32)), (.int (0 : Int32)), (.int (0 : Int32)), (.int (0 : Int32)), (.int (0 : Int32)), (.int (0 : Int32)), (.int (0 : Int32)), (.int (0 : Int32)), (.int (0 : Int32)), (.int (0 : Int32)), (.int (0 : Int32)), (.int (0 : Int32)), (.int (0 : Int32)), (.int (0 : Int32)), (.int (0 : Int32)), (.int (0 : Int32)), (.int (0 : Int32)), (.int (0 : Int32)), (.int (0 : Int32)), (.int (0 : Int32)), (.int (0 : Int32)), (.int (0 : Int32))] (.int (0 : Int32))
set_option maxRecDepth 65536 in
set_option maxHeartbeats 40000000 in
theorem rm1 (l : Launch) (Z : State) (a0 : Array Value) (hw : ∀ d ∈ tables_1, d.before a0 Z = true) (ws : List Jvm.Cond) (o0 : Addr) (w0_size : Int32) (u1_written : Value) (h0 : Heap) (n0 : Nat) (Z0 : n0 ≤ h0.size) (E_o0 : Exa Z h0 o0 "com/example/dispatch_by_catalog/dispatchbycatalog/store/RecordWriter") (F_size_o0 : Fld Z h0 o0 "com/example/dispatch_by_catalog/dispatchbycatalog/store/RecordWriter" "size" "I" (.int w0_size)) (F_written_o0 : Fld Z h0 o0 "com/example/dispatch_by_catalog/dispatchbycatalog/store/RecordWriter" "written" "[B" u1_written) (g_o0 : n0 ≤ o0) :
    MetFree l (⟨"com/example/dispatch_by_catalog/dispatchbycatalog/store/RecordWriter", "<init>", "()V"⟩ : MethodName) (head1 (Jvm.Cond.code (⟨"com/example/dispatch_by_catalog/dispatchbycatalog/store/RecordWriter", "<init>", "()V"⟩ : MethodName) prog_35_method_1_code 1 none :: ws) ({ frames := 1, cells := 1, slots := 64, locals := 12 } : Room)) (fun a U => a = #[(.ref o0)] ∧ Z.Warmed39 U.vm ∧ U.heap = h0) (fun _ _ _ _ _ => True) (fun _ U o U' => ∃ v L, o = .returned v ∧ Q1 Z o0 w0_size u1_written h0 n0 v U'.heap L ∧ FrameEnd U o U' L ({ frames := 1, cells := 1, slots := 64, locals := 12 } : Room).cells ({ frames := 1, cells := 1, slots := 64, locals := 12 } : Room).slots) := by
  refine MetFree.of_bodySF (plainFor_of_name pn_com_example_dispatch_by_catalog_dispatchbycatalog_store_RecordWriter) hisR ?_
  intro p e s m args below meth c s₁ Bd hml0 hP hK
  obtain ⟨rfl, hZ, hh⟩ := hP
  have hx := Bd.exec
  have hby := Bd.bytes
  have hml : c.maxLocals = 1 := hml0
  have hown : s.vm.findClass "com/example/dispatch_by_catalog/dispatchbycatalog/store/RecordWriter" = some m.cls := findClass_of_methodNamed Bd.named
  have hnm := (name_of_methodNamed Bd.named Bd.method).1
  have hlk := BodyLoose.notSynchronized Bd
  have X0 : Stand p l e ({ frames := 1, cells := 1, slots := 64, locals := 12 } : Room) s m #[(.ref o0)] below meth c s₁ [] 0 0 := Stand.of_body Bd
  have e0 : s₁.heap = h0 := by rw [← hh, Bd.state]; rfl
  have N0 := Fr.nil n0
  have pre0 : ∀ t, Steps p.tables e below (s₁.setTop (mkF m 0 #[.val (.ref o0)] [])) t → Steps p.tables e below (s₁.setTop (entryFrame m #[(.ref o0)] 1)) t := fun t k => castTop (ef_1 m o0) k
  obtain ⟨T1, X1, e1, st1⟩ := initO X0 hx hZ hown (hw _ (List.mem_of_getElem? (i := 6) rfl)) (hw _ (List.mem_of_getElem? (i := 7) rfl)) (hw _ (List.mem_of_getElem? (i := 8) rfl)) e0 (g := (mkF m 1 #[.val (.ref o0)] [(.ref o0)])) rfl (by rw [hml]; rfl) rfl (hb hby d1_1) (by decide) (W := 0) (by show 2 * 0 + _ ≤ _; exact Nat.le_of_eq rfl) (by decide)
  obtain ⟨T2, h2, k2, X2, e2, E2, A2, EA2, st2⟩ := newPE X1 hx hZ (hw _ (List.mem_of_getElem? (i := 9) rfl)) e1 (g := (mkF m 7 #[.val (.ref o0)] [(.int (64 : Int32)), (.ref o0)])) rfl (hb hby d1_7) rfl (by decide) (cap := 64) (by decide) (by decide) (by decide) (by decide) (ad := "[B") rfl
  obtain ⟨b2, gz2⟩ : ∃ z, z = h0.size := ⟨_, rfl⟩
  rw [← gz2] at A2 EA2 st2
  have ne3 : o0 ≠ b2 := Nat.ne_of_lt (Nat.lt_of_lt_of_le E_o0.lt (Nat.le_of_eq gz2.symm))
  have g4 : n0 ≤ b2 := Nat.le_trans Z0 (Nat.le_of_eq gz2.symm)
  have sz5 : h0.size ≤ b2 := Nat.le_trans (Nat.le_refl h0.size) (Nat.le_of_eq gz2.symm)
  have z6 : n0 ≤ h2.size := Nat.le_trans Z0 E2.1
  have hs7 : h0.size ≤ h2.size := Nat.le_trans (Nat.le_refl h0.size) E2.1
  have V2 : Arv Z h2 b2 k2 .byte (64 : Int32) [(.int (0 : Int32)), (.int (0 : Int32)), (.int (0 : Int32)), (.int (0 : Int32)), (.int (0 : Int32)), (.int (0 : Int32)), (.int (0 : Int32)), (.int (0 : Int32)), (.int (0 : Int32)), (.int (0 : Int32)), (.int (0 : Int32)), (.int (0 : Int32)), (.int (0 : Int32)), (.int (0 : Int32)), (.int (0 : Int32)), (.int (0 : Int32)), (.int (0 : Int32)), (.int (0 : Int32)), (.int (0 : Int32)), (.int (0 : Int32)), (.int (0 : Int32)), (.int (0 : Int32)), (.int (0 : Int32)), (.int (0 : Int32)), (.int (0 : Int32)), (.int (0 : Int32)), (.int (0 : Int32)), (.int (0 : Int32)), (.int (0 : Int32)), (.int (0 : Int32)), (.int (0 : Int32)), (.int (0 : Int32)), (.int (0 : Int32)), (.int (0 : Int32)), (.int (0 : Int32)), (.int (0 : Int32)), (.int (0 : Int32)), (.int (0 : Int32)), (.int (0 : Int32)), (.int (0 : Int32)), (.int (0 : Int32)), (.int (0 : Int32)), (.int (0 : Int32)), (.int (0 : Int32)), (.int (0 : Int32)), (.int (0 : Int32)), (.int (0 : Int32)), (.int (0 : Int32)), (.int (0 : Int32)), (.int (0 : Int32)), (.int (0 : Int32)), (.int (0 : Int32)), (.int (0 : Int32)), (.int (0 : Int32)), (.int (0 : Int32)), (.int (0 : Int32)), (.int (0 : Int32)), (.int (0 : Int32)), (.int (0 : Int32)), (.int (0 : Int32)), (.int (0 : Int32)), (.int (0 : Int32)), (.int (0 : Int32)), (.int (0 : Int32))] (.int (0 : Int32)) := (Arv.new A2 (by decide)).pad (pad_rep [] (.int (0 : Int32)) 64)
  have k8 := (F_written_o0.ext E2)
  have k9 := (E_o0.ext E2)
  obtain ⟨T10, h10, X10, e10, W10, st10⟩ := putF X2 hx hZ hown (host := "") (Or.inl (hw _ (List.mem_of_getElem? (i := 10) rfl))) Via.refl e2 k8 k9 (Or.inl (hw _ (List.mem_of_getElem? (i := 11) rfl))) (hw _ (List.mem_of_getElem? (i := 1) rfl)) (ty := (.array .byte)) (by decide) rfl rfl (g := (mkF m 9 #[.val (.ref o0)] [(.ref b2), (.ref o0)])) rfl rfl (hb hby d1_9)
  have Fw10 := k8.same W10
  have N10 := Fr.snoc X10 N0 g_o0
  have z11 : n0 ≤ h10.size := Nat.le_trans z6 (Keep.of_wr W10).1
  have hs12 : h0.size ≤ h10.size := Nat.le_trans hs7 (Keep.of_wr W10).1
  obtain ⟨fs, hr, hrun, hended, hW, hsame⟩ := X10.leave (v := none) (fun _ => rfl) hlk
  refine ⟨_, _, pre0 _ ?_, hrun, hended, _, _, rfl, ?_, ⟨_, rfl⟩, hW, hsame.mono (by decide) (by decide)⟩
  · skip
    show Steps p.tables e below (s₁.setTop (mkF m 0 #[.val (.ref o0)] [])) _
    refine XS.aloadN X0.here hx rfl (hb hby d1_0) rfl rfl ?_
    show Steps p.tables e below (s₁.setTop (mkF m 1 #[.val (.ref o0)] [(.ref o0)])) _
    refine st1 _ ?_
    show Steps p.tables e below (T1.setTop (mkF m 4 #[.val (.ref o0)] [])) _
    refine XS.aloadN X1.here hx rfl (hb hby d1_4) rfl rfl ?_
    show Steps p.tables e below (T1.setTop (mkF m 5 #[.val (.ref o0)] [(.ref o0)])) _
    refine XT.bipushV X1.here hx rfl (64 : Int32) (hb hby d1_5) (by decide) ?_
    show Steps p.tables e below (T1.setTop (mkF m 7 #[.val (.ref o0)] [(.int (64 : Int32)), (.ref o0)])) _
    refine st2 _ ?_
    show Steps p.tables e below (T2.setTop (mkF m 9 #[.val (.ref o0)] [(.ref b2), (.ref o0)])) _
    refine st10 _ ?_
    show Steps p.tables e below (T10.setTop (mkF m 12 #[.val (.ref o0)] [])) _
    exact X10.returnOut hx Bd.returns (hb hby d1_12) hr
  · skip
    show Q1 Z o0 w0_size u1_written h0 n0 _ T10.heap _
    rw [e10]
    have k13 := (k9.wr W10)
    have k14 := ((F_size_o0.ext E2).other W10 (Or.inr (slot_ne (Or.inl (hw _ (List.mem_of_getElem? (i := 18) rfl))) (Or.inl (hw _ (List.mem_of_getElem? (i := 11) rfl))) (by decide) (t := .int) (t' := (.array .byte)) (by decide) (by decide))))
    have k15 := (EA2.wr W10)
    have k16 := (V2.other W10 (Ne.symm ne3))
    exact ⟨N10, b2, k2, rfl, sz5, (((Keep.refl h0 [o0]).ext E2).wr W10 (Or.inl (List.mem_of_getElem? (i := 0) rfl))), k13, k14, Fw10, k16⟩
theorem pd__II_I : parseMethodDescriptor "(II)I" = some ⟨[.int, .int], some .int⟩ := by decide +kernel
theorem d4_0 : decode jdk_65_method_121_code 0 = .ok (.iload_n 1, 1) := by decide +kernel
theorem d4_1 : decode jdk_65_method_121_code 1 = .ok (.aload_n 0, 1) := by decide +kernel
theorem d4_2 : decode jdk_65_method_121_code 2 = .ok (.arraylength, 1) := by decide +kernel
theorem d4_3 : decode jdk_65_method_121_code 3 = .ok (.if_icmp .ne 11, 3) := by decide +kernel
theorem d4_14 : decode jdk_65_method_121_code 14 = .ok (.iload_n 1, 1) := by decide +kernel
theorem d4_15 : decode jdk_65_method_121_code 15 = .ok (.newarray .byte, 2) := by decide +kernel
theorem d4_17 : decode jdk_65_method_121_code 17 = .ok (.astore_n 2, 1) := by decide +kernel
theorem d4_18 : decode jdk_65_method_121_code 18 = .ok (.aload_n 0, 1) := by decide +kernel
theorem d4_19 : decode jdk_65_method_121_code 19 = .ok (.iconst 0, 1) := by decide +kernel
theorem d4_20 : decode jdk_65_method_121_code 20 = .ok (.aload_n 2, 1) := by decide +kernel
theorem d4_21 : decode jdk_65_method_121_code 21 = .ok (.iconst 0, 1) := by decide +kernel
theorem d4_22 : decode jdk_65_method_121_code 22 = .ok (.aload_n 0, 1) := by decide +kernel
theorem d4_23 : decode jdk_65_method_121_code 23 = .ok (.arraylength, 1) := by decide +kernel
theorem d4_24 : decode jdk_65_method_121_code 24 = .ok (.iload_n 1, 1) := by decide +kernel
theorem d4_25 : decode jdk_65_method_121_code 25 = .ok (.invokestatic 304, 3) := by decide +kernel
theorem d4_28 : decode jdk_65_method_121_code 28 = .ok (.invokestatic 150, 3) := by decide +kernel
theorem d4_31 : decode jdk_65_method_121_code 31 = .ok (.aload_n 2, 1) := by decide +kernel
theorem d4_32 : decode jdk_65_method_121_code 32 = .ok (.areturn, 1) := by decide +kernel
theorem pn_java_util_Arrays : plainName "java/util/Arrays" = true := by first | (simp [plainName, overriddenIn]; done) | decide +kernel
theorem ef_cp64_0 (m : MethodId) (o0 : Addr) : entryFrame m #[(.ref o0), (.int (0 : Int32))] 3 = mkF m 0 #[.val (.ref o0), .val (.int (0 : Int32)), .unset] [] := by first | (simp [entryFrame, mkF, argsToLocals, Value.category]; done) | rfl
def Qcp64_0 (Z : State) (o0 : Addr) (u0 : Value) (u1 : Value) (u2 : Value) (u3 : Value) (u4 : Value) (u5 : Value) (u6 : Value) (u7 : Value) (u8 : Value) (u9 : Value) (u10 : Value) (u11 : Value) (u12 : Value) (u13 : Value) (u14 : Value) (u15 : Value) (u16 : Value) (u17 : Value) (u18 : Value) (u19 : Value) (u20 : Value) (u21 : Value) (u22 : Value) (u23 : Value) (u24 : Value) (u25 : Value) (u26 : Value) (u27 : Value) (u28 : Value) (u29 : Value) (u30 : Value) (u31 : Value) (u32 : Value) (u33 : Value) (u34 : Value) (u35 : Value) (u36 : Value) (u37 : Value) (u38 : Value) (u39 : Value) (u40 : Value) (u41 : Value) (u42 : Value) (u43 : Value) (u44 : Value) (u45 : Value) (u46 : Value) (u47 : Value) (u48 : Value) (u49 : Value) (u50 : Value) (u51 : Value) (u52 : Value) (u53 : Value) (u54 : Value) (u55 : Value) (u56 : Value) (u57 : Value) (u58 : Value) (u59 : Value) (u60 : Value) (u61 : Value) (u62 : Value) (u63 : Value) (kA : ClassId) (h0 : Heap) (n0 : Nat) (v : Option Value) (h : Heap) (L : List Loc) : Prop := Fr n0 L ∧ ∃ (xcp64_0_0 : Addr) (kcp64_0_1 : ClassId), v = some (.ref xcp64_0_0) ∧ h0.size ≤ xcp64_0_0 ∧ Keep h0 h [] ∧ Arv Z h xcp64_0_0 kcp64_0_1 .byte (0 : Int32) [] (.int (0 : Int32))
set_option maxRecDepth 65536 in
set_option maxHeartbeats 40000000 in
theorem rmcp64_0 (l : Launch) (Z : State) (a0 : Array Value) (hw : ∀ d ∈ tables_1, d.before a0 Z = true) (ws : List Jvm.Cond) (o0 : Addr) (u0 : Value) (u1 : Value) (u2 : Value) (u3 : Value) (u4 : Value) (u5 : Value) (u6 : Value) (u7 : Value) (u8 : Value) (u9 : Value) (u10 : Value) (u11 : Value) (u12 : Value) (u13 : Value) (u14 : Value) (u15 : Value) (u16 : Value) (u17 : Value) (u18 : Value) (u19 : Value) (u20 : Value) (u21 : Value) (u22 : Value) (u23 : Value) (u24 : Value) (u25 : Value) (u26 : Value) (u27 : Value) (u28 : Value) (u29 : Value) (u30 : Value) (u31 : Value) (u32 : Value) (u33 : Value) (u34 : Value) (u35 : Value) (u36 : Value) (u37 : Value) (u38 : Value) (u39 : Value) (u40 : Value) (u41 : Value) (u42 : Value) (u43 : Value) (u44 : Value) (u45 : Value) (u46 : Value) (u47 : Value) (u48 : Value) (u49 : Value) (u50 : Value) (u51 : Value) (u52 : Value) (u53 : Value) (u54 : Value) (u55 : Value) (u56 : Value) (u57 : Value) (u58 : Value) (u59 : Value) (u60 : Value) (u61 : Value) (u62 : Value) (u63 : Value) (kA : ClassId) (h0 : Heap) (n0 : Nat) (Z0 : n0 ≤ h0.size) (V_o0 : Arv Z h0 o0 kA .byte (64 : Int32) [u0, u1, u2, u3, u4, u5, u6, u7, u8, u9, u10, u11, u12, u13, u14, u15, u16, u17, u18, u19, u20, u21, u22, u23, u24, u25, u26, u27, u28, u29, u30, u31, u32, u33, u34, u35, u36, u37, u38, u39, u40, u41, u42, u43, u44, u45, u46, u47, u48, u49, u50, u51, u52, u53, u54, u55, u56, u57, u58, u59, u60, u61, u62, u63] (.int (0 : Int32))) :
    MetFree l (⟨"java/util/Arrays", "copyOf", "([BI)[B"⟩ : MethodName) (head1 (Jvm.Cond.code (⟨"java/util/Arrays", "copyOf", "([BI)[B"⟩ : MethodName) jdk_65_method_121_code 3 (some (.array .byte)) :: ws) ({ frames := 1, cells := 1, slots := 0, locals := 18 } : Room)) (fun a U => a = #[(.ref o0), (.int (0 : Int32))] ∧ Z.Warmed39 U.vm ∧ U.heap = h0) (fun _ _ _ _ _ => True) (fun _ U o U' => ∃ v L, o = .returned v ∧ Qcp64_0 Z o0 u0 u1 u2 u3 u4 u5 u6 u7 u8 u9 u10 u11 u12 u13 u14 u15 u16 u17 u18 u19 u20 u21 u22 u23 u24 u25 u26 u27 u28 u29 u30 u31 u32 u33 u34 u35 u36 u37 u38 u39 u40 u41 u42 u43 u44 u45 u46 u47 u48 u49 u50 u51 u52 u53 u54 u55 u56 u57 u58 u59 u60 u61 u62 u63 kA h0 n0 v U'.heap L ∧ FrameEnd U o U' L ({ frames := 1, cells := 1, slots := 0, locals := 18 } : Room).cells ({ frames := 1, cells := 1, slots := 0, locals := 18 } : Room).slots) := by
  refine MetFree.of_bodySF (plainFor_of_name pn_java_util_Arrays) hisR ?_
  intro p e s m args below meth c s₁ Bd hml0 hP hK
  obtain ⟨rfl, hZ, hh⟩ := hP
  have hx := Bd.exec
  have hby := Bd.bytes
  have hml : c.maxLocals = 3 := hml0
  have hown : s.vm.findClass "java/util/Arrays" = some m.cls := findClass_of_methodNamed Bd.named
  have hnm := (name_of_methodNamed Bd.named Bd.method).1
  have hlk := BodyLoose.notSynchronized Bd
  have X0 : Stand p l e ({ frames := 1, cells := 1, slots := 0, locals := 18 } : Room) s m #[(.ref o0), (.int (0 : Int32))] below meth c s₁ [] 0 0 := Stand.of_body Bd
  have e0 : s₁.heap = h0 := by rw [← hh, Bd.state]; rfl
  have N0 := Fr.nil n0
  have pre0 : ∀ t, Steps p.tables e below (s₁.setTop (mkF m 0 #[.val (.ref o0), .val (.int (0 : Int32)), .unset] [])) t → Steps p.tables e below (s₁.setTop (entryFrame m #[(.ref o0), (.int (0 : Int32))] 3)) t := fun t k => castTop (ef_cp64_0 m o0) k
  obtain ⟨cl1, Ar1, qc1, S1, M1, Ha1, G1⟩ := id V_o0
  obtain ⟨T2, h2, k2, X2, e2, E2, A2, EA2, st2⟩ := newPE X0 hx hZ (hw _ (List.mem_of_getElem? (i := 9) rfl)) e0 (g := (mkF m 15 #[.val (.ref o0), .val (.int (0 : Int32)), .unset] [(.int (0 : Int32))])) rfl (hb hby d4_15) rfl (by decide) (cap := 0) (by decide) (by decide) (by decide) (by decide) (ad := "[B") rfl
  obtain ⟨b2, gz2⟩ : ∃ z, z = h0.size := ⟨_, rfl⟩
  rw [← gz2] at A2 EA2 st2
  have ne3 : o0 ≠ b2 := Nat.ne_of_lt (Nat.lt_of_lt_of_le V_o0.lt (Nat.le_of_eq gz2.symm))
  have g4 : n0 ≤ b2 := Nat.le_trans Z0 (Nat.le_of_eq gz2.symm)
  have sz5 : h0.size ≤ b2 := Nat.le_trans (Nat.le_refl h0.size) (Nat.le_of_eq gz2.symm)
  have z6 : n0 ≤ h2.size := Nat.le_trans Z0 E2.1
  have hs7 : h0.size ≤ h2.size := Nat.le_trans (Nat.le_refl h0.size) E2.1
  have V2 : Arv Z h2 b2 k2 .byte (0 : Int32) [] (.int (0 : Int32)) := (Arv.new A2 (by decide)).pad (pad_rep [] (.int (0 : Int32)) 0)
  have k8 := (V_o0.ext E2)
  obtain ⟨cl9, Ar9, qc9, S9, M9, Ha9, G9⟩ := id k8
  obtain ⟨vr10, _, ⟨T10, L10, k10, n10⟩, -, X10, ⟨Lc10, hQ10, l10, y10, z10⟩, st10⟩ := Jvm.LawKit.callS X2 hx (y := (⟨"java/lang/Math", "min", "(II)I"⟩ : MethodName)) hown (mvT hZ (hw _ (List.mem_of_getElem? (i := 23) rfl))) (mvT hZ (hw _ (List.mem_of_getElem? (i := 24) rfl))) (mvT hZ (hw _ (List.mem_of_getElem? (i := 25) rfl))) (mvT hZ (hw _ (List.mem_of_getElem? (i := 26) rfl))) (by decide) (backOf (W := 4) (rm5 l Z a0 hw [] (64 : Int32) (0 : Int32) h2 n0 z6) hZ (hw _ (List.mem_of_getElem? (i := 26) rfl)) (hw _ (List.mem_of_getElem? (i := 25) rfl)) (by decide) (by decide)) (g := (mkF m 25 #[.val (.ref o0), .val (.int (0 : Int32)), .val (.ref b2)] [(.int (0 : Int32)), (.int (64 : Int32)), (.int (0 : Int32)), (.ref b2), (.int (0 : Int32)), (.ref o0)])) rfl (by rw [hml]; rfl) (argsL := [(.int (64 : Int32)), (.int (0 : Int32))]) (rest := [(.int (0 : Int32)), (.ref b2), (.int (0 : Int32)), (.ref o0)]) (lenOf pd__II_I rfl) rfl (by show 2 * 0 + _ ≤ _; exact Nat.le_of_eq rfl) (hb hby d4_25) (fun _ _ => ⟨rfl, e2, (by decide : 1 + 0 ≤ _), (by decide : 0 + 0 ≤ _)⟩)
  dsimp only [Pt.U, Pt.locs, Pt.cells, Pt.slots] at X10 l10 y10 z10 st10 hQ10
  subst l10 y10 z10
  have N10q := (show _ ∧ _ ∧ _ from hQ10).1
  have hv10 := (show _ ∧ _ ∧ _ from hQ10).2.1
  have e10 := (show _ ∧ _ ∧ _ from hQ10).2.2
  clear hQ10
  subst hv10
  have N10 := Fr.app N0 N10q
  obtain ⟨T11, h11, L11, X11, e11, N11, K11, V11r, st11⟩ := cpA X10 hx hZ hown (hw _ (List.mem_of_getElem? (i := 27) rfl)) (hw _ (List.mem_of_getElem? (i := 30) rfl)) (hw _ (List.mem_of_getElem? (i := 28) rfl)) (hw _ (List.mem_of_getElem? (i := 29) rfl)) e10 k8 V2 (us := []) (Or.inl ⟨rfl, rfl⟩) (by decide) (by decide) (by decide) (Nat.le_of_ble_eq_true rfl) (Nat.le_of_ble_eq_true rfl) rfl (Nat.le_of_ble_eq_true rfl) N10 g4 (g := (mkF m 28 #[.val (.ref o0), .val (.int (0 : Int32)), .val (.ref b2)] [(.int (0 : Int32)), (.int (0 : Int32)), (.ref b2), (.int (0 : Int32)), (.ref o0)])) rfl (by rw [hml]; rfl) rfl (hb hby d4_28) (by decide) (W := 0) (by show 2 * 0 + _ ≤ _; exact Nat.le_of_eq rfl) (by decide)
  have V11 : Arv Z h11 b2 k2 .byte (0 : Int32) [] (.int (0 : Int32)) := V11r
  have z12 : n0 ≤ h11.size := Nat.le_trans z6 K11.1
  have hs13 : h0.size ≤ h11.size := Nat.le_trans hs7 K11.1
  obtain ⟨fs, hr, hrun, hended, hW, hsame⟩ := X11.leave (v := some (.ref b2)) (fun h => by rw [Bd.returns] at h; cases h) hlk
  refine ⟨_, _, pre0 _ ?_, hrun, hended, _, _, rfl, ?_, ⟨_, rfl⟩, hW, hsame.mono (by decide) (by decide)⟩
  · skip
    show Steps p.tables e below (s₁.setTop (mkF m 0 #[.val (.ref o0), .val (.int (0 : Int32)), .unset] [])) _
    refine XS.iloadN X0.here hx rfl (hb hby d4_0) rfl ?_
    show Steps p.tables e below (s₁.setTop (mkF m 1 #[.val (.ref o0), .val (.int (0 : Int32)), .unset] [(.int (0 : Int32))])) _
    refine XS.aloadN X0.here hx rfl (hb hby d4_1) rfl rfl ?_
    show Steps p.tables e below (s₁.setTop (mkF m 2 #[.val (.ref o0), .val (.int (0 : Int32)), .unset] [(.ref o0), (.int (0 : Int32))])) _
    refine X0.arraylength hx (by rw [e0]; exact Ar1.1) (State.isArrayOf_alike hZ.alike Ar1.2.1) (g := (mkF m 2 #[.val (.ref o0), .val (.int (0 : Int32)), .unset] [(.ref o0), (.int (0 : Int32))])) rfl rfl (hb hby d4_2) _ ?_
    rw [len_of S1 M1]
    show Steps p.tables e below (s₁.setTop (mkF m 3 #[.val (.ref o0), .val (.int (0 : Int32)), .unset] [(.int (64 : Int32)), (.int (0 : Int32))])) _
    refine XS.icmpYes X0.here hx rfl (pc0 := 3) (pc' := 14) rfl (hb hby d4_3) rfl (XT.ii_ne_t (by decide)) (by decide) (by decide) ?_
    show Steps p.tables e below (s₁.setTop (mkF m 14 #[.val (.ref o0), .val (.int (0 : Int32)), .unset] [])) _
    refine XS.iloadN X0.here hx rfl (hb hby d4_14) rfl ?_
    show Steps p.tables e below (s₁.setTop (mkF m 15 #[.val (.ref o0), .val (.int (0 : Int32)), .unset] [(.int (0 : Int32))])) _
    refine st2 _ ?_
    show Steps p.tables e below (T2.setTop (mkF m 17 #[.val (.ref o0), .val (.int (0 : Int32)), .unset] [(.ref b2)])) _
    refine XS.astoreN X2.here hx rfl (hb hby d4_17) rfl rfl (l' := #[.val (.ref o0), .val (.int (0 : Int32)), .val (.ref b2)]) rfl ?_
    show Steps p.tables e below (T2.setTop (mkF m 18 #[.val (.ref o0), .val (.int (0 : Int32)), .val (.ref b2)] [])) _
    refine XS.aloadN X2.here hx rfl (hb hby d4_18) rfl rfl ?_
    show Steps p.tables e below (T2.setTop (mkF m 19 #[.val (.ref o0), .val (.int (0 : Int32)), .val (.ref b2)] [(.ref o0)])) _
    refine XT.iconstV X2.here hx rfl (0 : Int32) (hb hby d4_19) (by decide) ?_
    show Steps p.tables e below (T2.setTop (mkF m 20 #[.val (.ref o0), .val (.int (0 : Int32)), .val (.ref b2)] [(.int (0 : Int32)), (.ref o0)])) _
    refine XS.aloadN X2.here hx rfl (hb hby d4_20) rfl rfl ?_
    show Steps p.tables e below (T2.setTop (mkF m 21 #[.val (.ref o0), .val (.int (0 : Int32)), .val (.ref b2)] [(.ref b2), (.int (0 : Int32)), (.ref o0)])) _
    refine XT.iconstV X2.here hx rfl (0 : Int32) (hb hby d4_21) (by decide) ?_
    show Steps p.tables e below (T2.setTop (mkF m 22 #[.val (.ref o0), .val (.int (0 : Int32)), .val (.ref b2)] [(.int (0 : Int32)), (.ref b2), (.int (0 : Int32)), (.ref o0)])) _
    refine XS.aloadN X2.here hx rfl (hb hby d4_22) rfl rfl ?_
    show Steps p.tables e below (T2.setTop (mkF m 23 #[.val (.ref o0), .val (.int (0 : Int32)), .val (.ref b2)] [(.ref o0), (.int (0 : Int32)), (.ref b2), (.int (0 : Int32)), (.ref o0)])) _
    refine X2.arraylength hx (by rw [e2]; exact Ar9.1) (State.isArrayOf_alike hZ.alike Ar9.2.1) (g := (mkF m 23 #[.val (.ref o0), .val (.int (0 : Int32)), .val (.ref b2)] [(.ref o0), (.int (0 : Int32)), (.ref b2), (.int (0 : Int32)), (.ref o0)])) rfl rfl (hb hby d4_23) _ ?_
    rw [len_of S9 M9]
    show Steps p.tables e below (T2.setTop (mkF m 24 #[.val (.ref o0), .val (.int (0 : Int32)), .val (.ref b2)] [(.int (64 : Int32)), (.int (0 : Int32)), (.ref b2), (.int (0 : Int32)), (.ref o0)])) _
    refine XS.iloadN X2.here hx rfl (hb hby d4_24) rfl ?_
    show Steps p.tables e below (T2.setTop (mkF m 25 #[.val (.ref o0), .val (.int (0 : Int32)), .val (.ref b2)] [(.int (0 : Int32)), (.int (64 : Int32)), (.int (0 : Int32)), (.ref b2), (.int (0 : Int32)), (.ref o0)])) _
    refine st10 _ ?_
    show Steps p.tables e below (T10.setTop (mkF m 28 #[.val (.ref o0), .val (.int (0 : Int32)), .val (.ref b2)] [(.int (0 : Int32)), (.int (0 : Int32)), (.ref b2), (.int (0 : Int32)), (.ref o0)])) _
    refine st11 _ ?_
    show Steps p.tables e below (T11.setTop (mkF m 31 #[.val (.ref o0), .val (.int (0 : Int32)), .val (.ref b2)] [])) _
    refine XS.aloadN X11.here hx rfl (hb hby d4_31) rfl rfl ?_
    show Steps p.tables e below (T11.setTop (mkF m 32 #[.val (.ref o0), .val (.int (0 : Int32)), .val (.ref b2)] [(.ref b2)])) _
    exact X11.areturnOut hx rfl Bd.returns rfl (hb hby d4_32) hr
  · skip
    show Qcp64_0 Z o0 u0 u1 u2 u3 u4 u5 u6 u7 u8 u9 u10 u11 u12 u13 u14 u15 u16 u17 u18 u19 u20 u21 u22 u23 u24 u25 u26 u27 u28 u29 u30 u31 u32 u33 u34 u35 u36 u37 u38 u39 u40 u41 u42 u43 u44 u45 u46 u47 u48 u49 u50 u51 u52 u53 u54 u55 u56 u57 u58 u59 u60 u61 u62 u63 kA h0 n0 _ T11.heap _
    rw [e11]
    have k14 := (EA2.keep K11)
    exact ⟨N11, b2, k2, rfl, sz5, (((Keep.refl h0 []).ext E2).trans K11 (allS (Or.inr sz5) all0)), V11⟩
theorem ef_cp64_17 (m : MethodId) (o0 : Addr) : entryFrame m #[(.ref o0), (.int (17 : Int32))] 3 = mkF m 0 #[.val (.ref o0), .val (.int (17 : Int32)), .unset] [] := by first | (simp [entryFrame, mkF, argsToLocals, Value.category]; done) | rfl
def Qcp64_17 (Z : State) (o0 : Addr) (u0 : Value) (u1 : Value) (u2 : Value) (u3 : Value) (u4 : Value) (u5 : Value) (u6 : Value) (u7 : Value) (u8 : Value) (u9 : Value) (u10 : Value) (u11 : Value) (u12 : Value) (u13 : Value) (u14 : Value) (u15 : Value) (u16 : Value) (u17 : Value) (u18 : Value) (u19 : Value) (u20 : Value) (u21 : Value) (u22 : Value) (u23 : Value) (u24 : Value) (u25 : Value) (u26 : Value) (u27 : Value) (u28 : Value) (u29 : Value) (u30 : Value) (u31 : Value) (u32 : Value) (u33 : Value) (u34 : Value) (u35 : Value) (u36 : Value) (u37 : Value) (u38 : Value) (u39 : Value) (u40 : Value) (u41 : Value) (u42 : Value) (u43 : Value) (u44 : Value) (u45 : Value) (u46 : Value) (u47 : Value) (u48 : Value) (u49 : Value) (u50 : Value) (u51 : Value) (u52 : Value) (u53 : Value) (u54 : Value) (u55 : Value) (u56 : Value) (u57 : Value) (u58 : Value) (u59 : Value) (u60 : Value) (u61 : Value) (u62 : Value) (u63 : Value) (kA : ClassId) (h0 : Heap) (n0 : Nat) (v : Option Value) (h : Heap) (L : List Loc) : Prop := Fr n0 L ∧ ∃ (xcp64_17_0 : Addr) (kcp64_17_1 : ClassId), v = some (.ref xcp64_17_0) ∧ h0.size ≤ xcp64_17_0 ∧ Keep h0 h [] ∧ Arv Z h xcp64_17_0 kcp64_17_1 .byte (17 : Int32) [u0, u1, u2, u3, u4, u5, u6, u7, u8, u9, u10, u11, u12, u13, u14, u15, u16] (.int (0 : Int32))
set_option maxRecDepth 65536 in
set_option maxHeartbeats 40000000 in
theorem rmcp64_17 (l : Launch) (Z : State) (a0 : Array Value) (hw : ∀ d ∈ tables_1, d.before a0 Z = true) (ws : List Jvm.Cond) (o0 : Addr) (u0 : Value) (u1 : Value) (u2 : Value) (u3 : Value) (u4 : Value) (u5 : Value) (u6 : Value) (u7 : Value) (u8 : Value) (u9 : Value) (u10 : Value) (u11 : Value) (u12 : Value) (u13 : Value) (u14 : Value) (u15 : Value) (u16 : Value) (u17 : Value) (u18 : Value) (u19 : Value) (u20 : Value) (u21 : Value) (u22 : Value) (u23 : Value) (u24 : Value) (u25 : Value) (u26 : Value) (u27 : Value) (u28 : Value) (u29 : Value) (u30 : Value) (u31 : Value) (u32 : Value) (u33 : Value) (u34 : Value) (u35 : Value) (u36 : Value) (u37 : Value) (u38 : Value) (u39 : Value) (u40 : Value) (u41 : Value) (u42 : Value) (u43 : Value) (u44 : Value) (u45 : Value) (u46 : Value) (u47 : Value) (u48 : Value) (u49 : Value) (u50 : Value) (u51 : Value) (u52 : Value) (u53 : Value) (u54 : Value) (u55 : Value) (u56 : Value) (u57 : Value) (u58 : Value) (u59 : Value) (u60 : Value) (u61 : Value) (u62 : Value) (u63 : Value) (kA : ClassId) (h0 : Heap) (n0 : Nat) (Z0 : n0 ≤ h0.size) (V_o0 : Arv Z h0 o0 kA .byte (64 : Int32) [u0, u1, u2, u3, u4, u5, u6, u7, u8, u9, u10, u11, u12, u13, u14, u15, u16, u17, u18, u19, u20, u21, u22, u23, u24, u25, u26, u27, u28, u29, u30, u31, u32, u33, u34, u35, u36, u37, u38, u39, u40, u41, u42, u43, u44, u45, u46, u47, u48, u49, u50, u51, u52, u53, u54, u55, u56, u57, u58, u59, u60, u61, u62, u63] (.int (0 : Int32))) :
    MetFree l (⟨"java/util/Arrays", "copyOf", "([BI)[B"⟩ : MethodName) (head1 (Jvm.Cond.code (⟨"java/util/Arrays", "copyOf", "([BI)[B"⟩ : MethodName) jdk_65_method_121_code 3 (some (.array .byte)) :: ws) ({ frames := 1, cells := 1, slots := 17, locals := 18 } : Room)) (fun a U => a = #[(.ref o0), (.int (17 : Int32))] ∧ Z.Warmed39 U.vm ∧ U.heap = h0) (fun _ _ _ _ _ => True) (fun _ U o U' => ∃ v L, o = .returned v ∧ Qcp64_17 Z o0 u0 u1 u2 u3 u4 u5 u6 u7 u8 u9 u10 u11 u12 u13 u14 u15 u16 u17 u18 u19 u20 u21 u22 u23 u24 u25 u26 u27 u28 u29 u30 u31 u32 u33 u34 u35 u36 u37 u38 u39 u40 u41 u42 u43 u44 u45 u46 u47 u48 u49 u50 u51 u52 u53 u54 u55 u56 u57 u58 u59 u60 u61 u62 u63 kA h0 n0 v U'.heap L ∧ FrameEnd U o U' L ({ frames := 1, cells := 1, slots := 17, locals := 18 } : Room).cells ({ frames := 1, cells := 1, slots := 17, locals := 18 } : Room).slots) := by
  refine MetFree.of_bodySF (plainFor_of_name pn_java_util_Arrays) hisR ?_
  intro p e s m args below meth c s₁ Bd hml0 hP hK
  obtain ⟨rfl, hZ, hh⟩ := hP
  have hx := Bd.exec
  have hby := Bd.bytes
  have hml : c.maxLocals = 3 := hml0
  have hown : s.vm.findClass "java/util/Arrays" = some m.cls := findClass_of_methodNamed Bd.named
  have hnm := (name_of_methodNamed Bd.named Bd.method).1
  have hlk := BodyLoose.notSynchronized Bd
  have X0 : Stand p l e ({ frames := 1, cells := 1, slots := 17, locals := 18 } : Room) s m #[(.ref o0), (.int (17 : Int32))] below meth c s₁ [] 0 0 := Stand.of_body Bd
  have e0 : s₁.heap = h0 := by rw [← hh, Bd.state]; rfl
  have N0 := Fr.nil n0
  have pre0 : ∀ t, Steps p.tables e below (s₁.setTop (mkF m 0 #[.val (.ref o0), .val (.int (17 : Int32)), .unset] [])) t → Steps p.tables e below (s₁.setTop (entryFrame m #[(.ref o0), (.int (17 : Int32))] 3)) t := fun t k => castTop (ef_cp64_17 m o0) k
  obtain ⟨cl1, Ar1, qc1, S1, M1, Ha1, G1⟩ := id V_o0
  obtain ⟨T2, h2, k2, X2, e2, E2, A2, EA2, st2⟩ := newPE X0 hx hZ (hw _ (List.mem_of_getElem? (i := 9) rfl)) e0 (g := (mkF m 15 #[.val (.ref o0), .val (.int (17 : Int32)), .unset] [(.int (17 : Int32))])) rfl (hb hby d4_15) rfl (by decide) (cap := 17) (by decide) (by decide) (by decide) (by decide) (ad := "[B") rfl
  obtain ⟨b2, gz2⟩ : ∃ z, z = h0.size := ⟨_, rfl⟩
  rw [← gz2] at A2 EA2 st2
  have ne3 : o0 ≠ b2 := Nat.ne_of_lt (Nat.lt_of_lt_of_le V_o0.lt (Nat.le_of_eq gz2.symm))
  have g4 : n0 ≤ b2 := Nat.le_trans Z0 (Nat.le_of_eq gz2.symm)
  have sz5 : h0.size ≤ b2 := Nat.le_trans (Nat.le_refl h0.size) (Nat.le_of_eq gz2.symm)
  have z6 : n0 ≤ h2.size := Nat.le_trans Z0 E2.1
  have hs7 : h0.size ≤ h2.size := Nat.le_trans (Nat.le_refl h0.size) E2.1
  have V2 : Arv Z h2 b2 k2 .byte (17 : Int32) [(.int (0 : Int32)), (.int (0 : Int32)), (.int (0 : Int32)), (.int (0 : Int32)), (.int (0 : Int32)), (.int (0 : Int32)), (.int (0 : Int32)), (.int (0 : Int32)), (.int (0 : Int32)), (.int (0 : Int32)), (.int (0 : Int32)), (.int (0 : Int32)), (.int (0 : Int32)), (.int (0 : Int32)), (.int (0 : Int32)), (.int (0 : Int32)), (.int (0 : Int32))] (.int (0 : Int32)) := (Arv.new A2 (by decide)).pad (pad_rep [] (.int (0 : Int32)) 17)
  have k8 := (V_o0.ext E2)
  obtain ⟨cl9, Ar9, qc9, S9, M9, Ha9, G9⟩ := id k8
  obtain ⟨vr10, _, ⟨T10, L10, k10, n10⟩, -, X10, ⟨Lc10, hQ10, l10, y10, z10⟩, st10⟩ := Jvm.LawKit.callS X2 hx (y := (⟨"java/lang/Math", "min", "(II)I"⟩ : MethodName)) hown (mvT hZ (hw _ (List.mem_of_getElem? (i := 23) rfl))) (mvT hZ (hw _ (List.mem_of_getElem? (i := 24) rfl))) (mvT hZ (hw _ (List.mem_of_getElem? (i := 25) rfl))) (mvT hZ (hw _ (List.mem_of_getElem? (i := 26) rfl))) (by decide) (backOf (W := 4) (rm5 l Z a0 hw [] (64 : Int32) (17 : Int32) h2 n0 z6) hZ (hw _ (List.mem_of_getElem? (i := 26) rfl)) (hw _ (List.mem_of_getElem? (i := 25) rfl)) (by decide) (by decide)) (g := (mkF m 25 #[.val (.ref o0), .val (.int (17 : Int32)), .val (.ref b2)] [(.int (17 : Int32)), (.int (64 : Int32)), (.int (0 : Int32)), (.ref b2), (.int (0 : Int32)), (.ref o0)])) rfl (by rw [hml]; rfl) (argsL := [(.int (64 : Int32)), (.int (17 : Int32))]) (rest := [(.int (0 : Int32)), (.ref b2), (.int (0 : Int32)), (.ref o0)]) (lenOf pd__II_I rfl) rfl (by show 2 * 0 + _ ≤ _; exact Nat.le_of_eq rfl) (hb hby d4_25) (fun _ _ => ⟨rfl, e2, (by decide : 1 + 0 ≤ _), (by decide : 17 + 0 ≤ _)⟩)
  dsimp only [Pt.U, Pt.locs, Pt.cells, Pt.slots] at X10 l10 y10 z10 st10 hQ10
  subst l10 y10 z10
  have N10q := (show _ ∧ _ ∧ _ from hQ10).1
  have hv10 := (show _ ∧ _ ∧ _ from hQ10).2.1
  have e10 := (show _ ∧ _ ∧ _ from hQ10).2.2
  clear hQ10
  subst hv10
  have N10 := Fr.app N0 N10q
  obtain ⟨T11, h11, L11, X11, e11, N11, K11, V11r, st11⟩ := cpA X10 hx hZ hown (hw _ (List.mem_of_getElem? (i := 27) rfl)) (hw _ (List.mem_of_getElem? (i := 30) rfl)) (hw _ (List.mem_of_getElem? (i := 28) rfl)) (hw _ (List.mem_of_getElem? (i := 29) rfl)) e10 k8 V2 (us := [u0, u1, u2, u3, u4, u5, u6, u7, u8, u9, u10, u11, u12, u13, u14, u15, u16]) (Or.inl ⟨rfl, rfl⟩) (by decide) (by decide) (by decide) (Nat.le_of_ble_eq_true rfl) (Nat.le_of_ble_eq_true rfl) rfl (Nat.le_of_ble_eq_true rfl) N10 g4 (g := (mkF m 28 #[.val (.ref o0), .val (.int (17 : Int32)), .val (.ref b2)] [(.int (17 : Int32)), (.int (0 : Int32)), (.ref b2), (.int (0 : Int32)), (.ref o0)])) rfl (by rw [hml]; rfl) rfl (hb hby d4_28) (by decide) (W := 0) (by show 2 * 0 + _ ≤ _; exact Nat.le_of_eq rfl) (by decide)
  have V11 : Arv Z h11 b2 k2 .byte (17 : Int32) [u0, u1, u2, u3, u4, u5, u6, u7, u8, u9, u10, u11, u12, u13, u14, u15, u16] (.int (0 : Int32)) := V11r
  have z12 : n0 ≤ h11.size := Nat.le_trans z6 K11.1
  have hs13 : h0.size ≤ h11.size := Nat.le_trans hs7 K11.1
  obtain ⟨fs, hr, hrun, hended, hW, hsame⟩ := X11.leave (v := some (.ref b2)) (fun h => by rw [Bd.returns] at h; cases h) hlk
  refine ⟨_, _, pre0 _ ?_, hrun, hended, _, _, rfl, ?_, ⟨_, rfl⟩, hW, hsame.mono (by decide) (by decide)⟩
  · skip
    show Steps p.tables e below (s₁.setTop (mkF m 0 #[.val (.ref o0), .val (.int (17 : Int32)), .unset] [])) _
    refine XS.iloadN X0.here hx rfl (hb hby d4_0) rfl ?_
    show Steps p.tables e below (s₁.setTop (mkF m 1 #[.val (.ref o0), .val (.int (17 : Int32)), .unset] [(.int (17 : Int32))])) _
    refine XS.aloadN X0.here hx rfl (hb hby d4_1) rfl rfl ?_
    show Steps p.tables e below (s₁.setTop (mkF m 2 #[.val (.ref o0), .val (.int (17 : Int32)), .unset] [(.ref o0), (.int (17 : Int32))])) _
    refine X0.arraylength hx (by rw [e0]; exact Ar1.1) (State.isArrayOf_alike hZ.alike Ar1.2.1) (g := (mkF m 2 #[.val (.ref o0), .val (.int (17 : Int32)), .unset] [(.ref o0), (.int (17 : Int32))])) rfl rfl (hb hby d4_2) _ ?_
    rw [len_of S1 M1]
    show Steps p.tables e below (s₁.setTop (mkF m 3 #[.val (.ref o0), .val (.int (17 : Int32)), .unset] [(.int (64 : Int32)), (.int (17 : Int32))])) _
    refine XS.icmpYes X0.here hx rfl (pc0 := 3) (pc' := 14) rfl (hb hby d4_3) rfl (XT.ii_ne_t (by decide)) (by decide) (by decide) ?_
    show Steps p.tables e below (s₁.setTop (mkF m 14 #[.val (.ref o0), .val (.int (17 : Int32)), .unset] [])) _
    refine XS.iloadN X0.here hx rfl (hb hby d4_14) rfl ?_
    show Steps p.tables e below (s₁.setTop (mkF m 15 #[.val (.ref o0), .val (.int (17 : Int32)), .unset] [(.int (17 : Int32))])) _
    refine st2 _ ?_
    show Steps p.tables e below (T2.setTop (mkF m 17 #[.val (.ref o0), .val (.int (17 : Int32)), .unset] [(.ref b2)])) _
    refine XS.astoreN X2.here hx rfl (hb hby d4_17) rfl rfl (l' := #[.val (.ref o0), .val (.int (17 : Int32)), .val (.ref b2)]) rfl ?_
    show Steps p.tables e below (T2.setTop (mkF m 18 #[.val (.ref o0), .val (.int (17 : Int32)), .val (.ref b2)] [])) _
    refine XS.aloadN X2.here hx rfl (hb hby d4_18) rfl rfl ?_
    show Steps p.tables e below (T2.setTop (mkF m 19 #[.val (.ref o0), .val (.int (17 : Int32)), .val (.ref b2)] [(.ref o0)])) _
    refine XT.iconstV X2.here hx rfl (0 : Int32) (hb hby d4_19) (by decide) ?_
    show Steps p.tables e below (T2.setTop (mkF m 20 #[.val (.ref o0), .val (.int (17 : Int32)), .val (.ref b2)] [(.int (0 : Int32)), (.ref o0)])) _
    refine XS.aloadN X2.here hx rfl (hb hby d4_20) rfl rfl ?_
    show Steps p.tables e below (T2.setTop (mkF m 21 #[.val (.ref o0), .val (.int (17 : Int32)), .val (.ref b2)] [(.ref b2), (.int (0 : Int32)), (.ref o0)])) _
    refine XT.iconstV X2.here hx rfl (0 : Int32) (hb hby d4_21) (by decide) ?_
    show Steps p.tables e below (T2.setTop (mkF m 22 #[.val (.ref o0), .val (.int (17 : Int32)), .val (.ref b2)] [(.int (0 : Int32)), (.ref b2), (.int (0 : Int32)), (.ref o0)])) _
    refine XS.aloadN X2.here hx rfl (hb hby d4_22) rfl rfl ?_
    show Steps p.tables e below (T2.setTop (mkF m 23 #[.val (.ref o0), .val (.int (17 : Int32)), .val (.ref b2)] [(.ref o0), (.int (0 : Int32)), (.ref b2), (.int (0 : Int32)), (.ref o0)])) _
    refine X2.arraylength hx (by rw [e2]; exact Ar9.1) (State.isArrayOf_alike hZ.alike Ar9.2.1) (g := (mkF m 23 #[.val (.ref o0), .val (.int (17 : Int32)), .val (.ref b2)] [(.ref o0), (.int (0 : Int32)), (.ref b2), (.int (0 : Int32)), (.ref o0)])) rfl rfl (hb hby d4_23) _ ?_
    rw [len_of S9 M9]
    show Steps p.tables e below (T2.setTop (mkF m 24 #[.val (.ref o0), .val (.int (17 : Int32)), .val (.ref b2)] [(.int (64 : Int32)), (.int (0 : Int32)), (.ref b2), (.int (0 : Int32)), (.ref o0)])) _
    refine XS.iloadN X2.here hx rfl (hb hby d4_24) rfl ?_
    show Steps p.tables e below (T2.setTop (mkF m 25 #[.val (.ref o0), .val (.int (17 : Int32)), .val (.ref b2)] [(.int (17 : Int32)), (.int (64 : Int32)), (.int (0 : Int32)), (.ref b2), (.int (0 : Int32)), (.ref o0)])) _
    refine st10 _ ?_
    show Steps p.tables e below (T10.setTop (mkF m 28 #[.val (.ref o0), .val (.int (17 : Int32)), .val (.ref b2)] [(.int (17 : Int32)), (.int (0 : Int32)), (.ref b2), (.int (0 : Int32)), (.ref o0)])) _
    refine st11 _ ?_
    show Steps p.tables e below (T11.setTop (mkF m 31 #[.val (.ref o0), .val (.int (17 : Int32)), .val (.ref b2)] [])) _
    refine XS.aloadN X11.here hx rfl (hb hby d4_31) rfl rfl ?_
    show Steps p.tables e below (T11.setTop (mkF m 32 #[.val (.ref o0), .val (.int (17 : Int32)), .val (.ref b2)] [(.ref b2)])) _
    exact X11.areturnOut hx rfl Bd.returns rfl (hb hby d4_32) hr
  · skip
    show Qcp64_17 Z o0 u0 u1 u2 u3 u4 u5 u6 u7 u8 u9 u10 u11 u12 u13 u14 u15 u16 u17 u18 u19 u20 u21 u22 u23 u24 u25 u26 u27 u28 u29 u30 u31 u32 u33 u34 u35 u36 u37 u38 u39 u40 u41 u42 u43 u44 u45 u46 u47 u48 u49 u50 u51 u52 u53 u54 u55 u56 u57 u58 u59 u60 u61 u62 u63 kA h0 n0 _ T11.heap _
    rw [e11]
    have k14 := (EA2.keep K11)
    exact ⟨N11, b2, k2, rfl, sz5, (((Keep.refl h0 []).ext E2).trans K11 (allS (Or.inr sz5) all0)), V11⟩
theorem ef_cp128_85 (m : MethodId) (o0 : Addr) : entryFrame m #[(.ref o0), (.int (85 : Int32))] 3 = mkF m 0 #[.val (.ref o0), .val (.int (85 : Int32)), .unset] [] := by first | (simp [entryFrame, mkF, argsToLocals, Value.category]; done) | rfl
def Qcp128_85 (Z : State) (o0 : Addr) (u0 : Value) (u1 : Value) (u2 : Value) (u3 : Value) (u4 : Value) (u5 : Value) (u6 : Value) (u7 : Value) (u8 : Value) (u9 : Value) (u10 : Value) (u11 : Value) (u12 : Value) (u13 : Value) (u14 : Value) (u15 : Value) (u16 : Value) (u17 : Value) (u18 : Value) (u19 : Value) (u20 : Value) (u21 : Value) (u22 : Value) (u23 : Value) (u24 : Value) (u25 : Value) (u26 : Value) (u27 : Value) (u28 : Value) (u29 : Value) (u30 : Value) (u31 : Value) (u32 : Value) (u33 : Value) (u34 : Value) (u35 : Value) (u36 : Value) (u37 : Value) (u38 : Value) (u39 : Value) (u40 : Value) (u41 : Value) (u42 : Value) (u43 : Value) (u44 : Value) (u45 : Value) (u46 : Value) (u47 : Value) (u48 : Value) (u49 : Value) (u50 : Value) (u51 : Value) (u52 : Value) (u53 : Value) (u54 : Value) (u55 : Value) (u56 : Value) (u57 : Value) (u58 : Value) (u59 : Value) (u60 : Value) (u61 : Value) (u62 : Value) (u63 : Value) (u64 : Value) (u65 : Value) (u66 : Value) (u67 : Value) (u68 : Value) (u69 : Value) (u70 : Value) (u71 : Value) (u72 : Value) (u73 : Value) (u74 : Value) (u75 : Value) (u76 : Value) (u77 : Value) (u78 : Value) (u79 : Value) (u80 : Value) (u81 : Value) (u82 : Value) (u83 : Value) (u84 : Value) (u85 : Value) (u86 : Value) (u87 : Value) (u88 : Value) (u89 : Value) (u90 : Value) (u91 : Value) (u92 : Value) (u93 : Value) (u94 : Value) (u95 : Value) (u96 : Value) (u97 : Value) (u98 : Value) (u99 : Value) (u100 : Value) (u101 : Value) (u102 : Value) (u103 : Value) (u104 : Value) (u105 : Value) (u106 : Value) (u107 : Value) (u108 : Value) (u109 : Value) (u110 : Value) (u111 : Value) (u112 : Value) (u113 : Value) (u114 : Value) (u115 : Value) (u116 : Value) (u117 : Value) (u118 : Value) (u119 : Value) (u120 : Value) (u121 : Value) (u122 : Value) (u123 : Value) (u124 : Value) (u125 : Value) (u126 : Value) (u127 : Value) (kA : ClassId) (h0 : Heap) (n0 : Nat) (v : Option Value) (h : Heap) (L : List Loc) : Prop := Fr n0 L ∧ ∃ (xcp128_85_0 : Addr) (kcp128_85_1 : ClassId), v = some (.ref xcp128_85_0) ∧ h0.size ≤ xcp128_85_0 ∧ Keep h0 h [] ∧ Arv Z h xcp128_85_0 kcp128_85_1 .byte (85 : Int32) [u0, u1, u2, u3, u4, u5, u6, u7, u8, u9, u10, u11, u12, u13, u14, u15, u16, u17, u18, u19, u20, u21, u22, u23, u24, u25, u26, u27, u28, u29, u30, u31, u32, u33, u34, u35, u36, u37, u38, u39, u40, u41, u42, u43, u44, u45, u46, u47, u48, u49, u50, u51, u52, u53, u54, u55, u56, u57, u58, u59, u60, u61, u62, u63, u64, u65, u66, u67, u68, u69, u70, u71, u72, u73, u74, u75, u76, u77, u78, u79, u80, u81, u82, u83, u84] (.int (0 : Int32))
set_option maxRecDepth 65536 in
set_option maxHeartbeats 40000000 in
theorem rmcp128_85 (l : Launch) (Z : State) (a0 : Array Value) (hw : ∀ d ∈ tables_1, d.before a0 Z = true) (ws : List Jvm.Cond) (o0 : Addr) (u0 : Value) (u1 : Value) (u2 : Value) (u3 : Value) (u4 : Value) (u5 : Value) (u6 : Value) (u7 : Value) (u8 : Value) (u9 : Value) (u10 : Value) (u11 : Value) (u12 : Value) (u13 : Value) (u14 : Value) (u15 : Value) (u16 : Value) (u17 : Value) (u18 : Value) (u19 : Value) (u20 : Value) (u21 : Value) (u22 : Value) (u23 : Value) (u24 : Value) (u25 : Value) (u26 : Value) (u27 : Value) (u28 : Value) (u29 : Value) (u30 : Value) (u31 : Value) (u32 : Value) (u33 : Value) (u34 : Value) (u35 : Value) (u36 : Value) (u37 : Value) (u38 : Value) (u39 : Value) (u40 : Value) (u41 : Value) (u42 : Value) (u43 : Value) (u44 : Value) (u45 : Value) (u46 : Value) (u47 : Value) (u48 : Value) (u49 : Value) (u50 : Value) (u51 : Value) (u52 : Value) (u53 : Value) (u54 : Value) (u55 : Value) (u56 : Value) (u57 : Value) (u58 : Value) (u59 : Value) (u60 : Value) (u61 : Value) (u62 : Value) (u63 : Value) (u64 : Value) (u65 : Value) (u66 : Value) (u67 : Value) (u68 : Value) (u69 : Value) (u70 : Value) (u71 : Value) (u72 : Value) (u73 : Value) (u74 : Value) (u75 : Value) (u76 : Value) (u77 : Value) (u78 : Value) (u79 : Value) (u80 : Value) (u81 : Value) (u82 : Value) (u83 : Value) (u84 : Value) (u85 : Value) (u86 : Value) (u87 : Value) (u88 : Value) (u89 : Value) (u90 : Value) (u91 : Value) (u92 : Value) (u93 : Value) (u94 : Value) (u95 : Value) (u96 : Value) (u97 : Value) (u98 : Value) (u99 : Value) (u100 : Value) (u101 : Value) (u102 : Value) (u103 : Value) (u104 : Value) (u105 : Value) (u106 : Value) (u107 : Value) (u108 : Value) (u109 : Value) (u110 : Value) (u111 : Value) (u112 : Value) (u113 : Value) (u114 : Value) (u115 : Value) (u116 : Value) (u117 : Value) (u118 : Value) (u119 : Value) (u120 : Value) (u121 : Value) (u122 : Value) (u123 : Value) (u124 : Value) (u125 : Value) (u126 : Value) (u127 : Value) (kA : ClassId) (h0 : Heap) (n0 : Nat) (Z0 : n0 ≤ h0.size) (V_o0 : Arv Z h0 o0 kA .byte (128 : Int32) [u0, u1, u2, u3, u4, u5, u6, u7, u8, u9, u10, u11, u12, u13, u14, u15, u16, u17, u18, u19, u20, u21, u22, u23, u24, u25, u26, u27, u28, u29, u30, u31, u32, u33, u34, u35, u36, u37, u38, u39, u40, u41, u42, u43, u44, u45, u46, u47, u48, u49, u50, u51, u52, u53, u54, u55, u56, u57, u58, u59, u60, u61, u62, u63, u64, u65, u66, u67, u68, u69, u70, u71, u72, u73, u74, u75, u76, u77, u78, u79, u80, u81, u82, u83, u84, u85, u86, u87, u88, u89, u90, u91, u92, u93, u94, u95, u96, u97, u98, u99, u100, u101, u102, u103, u104, u105, u106, u107, u108, u109, u110, u111, u112, u113, u114, u115, u116, u117, u118, u119, u120, u121, u122, u123, u124, u125, u126, u127] (.int (0 : Int32))) :
    MetFree l (⟨"java/util/Arrays", "copyOf", "([BI)[B"⟩ : MethodName) (head1 (Jvm.Cond.code (⟨"java/util/Arrays", "copyOf", "([BI)[B"⟩ : MethodName) jdk_65_method_121_code 3 (some (.array .byte)) :: ws) ({ frames := 1, cells := 1, slots := 85, locals := 18 } : Room)) (fun a U => a = #[(.ref o0), (.int (85 : Int32))] ∧ Z.Warmed39 U.vm ∧ U.heap = h0) (fun _ _ _ _ _ => True) (fun _ U o U' => ∃ v L, o = .returned v ∧ Qcp128_85 Z o0 u0 u1 u2 u3 u4 u5 u6 u7 u8 u9 u10 u11 u12 u13 u14 u15 u16 u17 u18 u19 u20 u21 u22 u23 u24 u25 u26 u27 u28 u29 u30 u31 u32 u33 u34 u35 u36 u37 u38 u39 u40 u41 u42 u43 u44 u45 u46 u47 u48 u49 u50 u51 u52 u53 u54 u55 u56 u57 u58 u59 u60 u61 u62 u63 u64 u65 u66 u67 u68 u69 u70 u71 u72 u73 u74 u75 u76 u77 u78 u79 u80 u81 u82 u83 u84 u85 u86 u87 u88 u89 u90 u91 u92 u93 u94 u95 u96 u97 u98 u99 u100 u101 u102 u103 u104 u105 u106 u107 u108 u109 u110 u111 u112 u113 u114 u115 u116 u117 u118 u119 u120 u121 u122 u123 u124 u125 u126 u127 kA h0 n0 v U'.heap L ∧ FrameEnd U o U' L ({ frames := 1, cells := 1, slots := 85, locals := 18 } : Room).cells ({ frames := 1, cells := 1, slots := 85, locals := 18 } : Room).slots) := by
  refine MetFree.of_bodySF (plainFor_of_name pn_java_util_Arrays) hisR ?_
  intro p e s m args below meth c s₁ Bd hml0 hP hK
  obtain ⟨rfl, hZ, hh⟩ := hP
  have hx := Bd.exec
  have hby := Bd.bytes
  have hml : c.maxLocals = 3 := hml0
  have hown : s.vm.findClass "java/util/Arrays" = some m.cls := findClass_of_methodNamed Bd.named
  have hnm := (name_of_methodNamed Bd.named Bd.method).1
  have hlk := BodyLoose.notSynchronized Bd
  have X0 : Stand p l e ({ frames := 1, cells := 1, slots := 85, locals := 18 } : Room) s m #[(.ref o0), (.int (85 : Int32))] below meth c s₁ [] 0 0 := Stand.of_body Bd
  have e0 : s₁.heap = h0 := by rw [← hh, Bd.state]; rfl
  have N0 := Fr.nil n0
  have pre0 : ∀ t, Steps p.tables e below (s₁.setTop (mkF m 0 #[.val (.ref o0), .val (.int (85 : Int32)), .unset] [])) t → Steps p.tables e below (s₁.setTop (entryFrame m #[(.ref o0), (.int (85 : Int32))] 3)) t := fun t k => castTop (ef_cp128_85 m o0) k
  obtain ⟨cl1, Ar1, qc1, S1, M1, Ha1, G1⟩ := id V_o0
  obtain ⟨T2, h2, k2, X2, e2, E2, A2, EA2, st2⟩ := newPE X0 hx hZ (hw _ (List.mem_of_getElem? (i := 9) rfl)) e0 (g := (mkF m 15 #[.val (.ref o0), .val (.int (85 : Int32)), .unset] [(.int (85 : Int32))])) rfl (hb hby d4_15) rfl (by decide) (cap := 85) (by decide) (by decide) (by decide) (by decide) (ad := "[B") rfl
  obtain ⟨b2, gz2⟩ : ∃ z, z = h0.size := ⟨_, rfl⟩
  rw [← gz2] at A2 EA2 st2
  have ne3 : o0 ≠ b2 := Nat.ne_of_lt (Nat.lt_of_lt_of_le V_o0.lt (Nat.le_of_eq gz2.symm))
  have g4 : n0 ≤ b2 := Nat.le_trans Z0 (Nat.le_of_eq gz2.symm)
  have sz5 : h0.size ≤ b2 := Nat.le_trans (Nat.le_refl h0.size) (Nat.le_of_eq gz2.symm)
  have z6 : n0 ≤ h2.size := Nat.le_trans Z0 E2.1
  have hs7 : h0.size ≤ h2.size := Nat.le_trans (Nat.le_refl h0.size) E2.1
  have V2 : Arv Z h2 b2 k2 .byte (85 : Int32) [(.int (0 : Int32)), (.int (0 : Int32)), (.int (0 : Int32)), (.int (0 : Int32)), (.int (0 : Int32)), (.int (0 : Int32)), (.int (0 : Int32)), (.int (0 : Int32)), (.int (0 : Int32)), (.int (0 : Int32)), (.int (0 : Int32)), (.int (0 : Int32)), (.int (0 : Int32)), (.int (0 : Int32)), (.int (0 : Int32)), (.int (0 : Int32)), (.int (0 : Int32)), (.int (0 : Int32)), (.int (0 : Int32)), (.int (0 : Int32)), (.int (0 : Int32)), (.int (0 : Int32)), (.int (0 : Int32)), (.int (0 : Int32)), (.int (0 : Int32)), (.int (0 : Int32)), (.int (0 : Int32)), (.int (0 : Int32)), (.int (0 : Int32)), (.int (0 : Int32)), (.int (0 : Int32)), (.int (0 : Int32)), (.int (0 : Int32)), (.int (0 : Int32)), (.int (0 : Int32)), (.int (0 : Int32)), (.int (0 : Int32)), (.int (0 : Int32)), (.int (0 : Int32)), (.int (0 : Int32)), (.int (0 : Int32)), (.int (0 : Int32)), (.int (0 : Int32)), (.int (0 : Int32)), (.int (0 : Int32)), (.int (0 : Int32)), (.int (0 : Int32)), (.int (0 : Int32)), (.int (0 : Int32)), (.int (0 : Int32)), (.int (0 : Int32)), (.int (0 : Int32)), (.int (0 : Int32)), (.int (0 : Int32)), (.int (0 : Int32)), (.int (0 : Int32)), (.int (0 : Int32)), (.int (0 : Int32)), (.int (0 : Int32)), (.int (0 : Int32)), (.int (0 : Int32)), (.int (0 : Int32)), (.int (0 : Int32)), (.int (0 : Int32)), (.int (0 : Int32)), (.int (0 : Int32)), (.int (0 : Int32)), (.int (0 : Int32)), (.int (0 : Int32)), (.int (0 : Int32)), (.int (0 : Int32)), (.int (0 : Int32)), (.int (0 : Int32)), (.int (0 : Int32)), (.int (0 : Int32)), (.int (0 : Int32)), (.int (0 : Int32)), (.int (0 : Int32)), (.int (0 : Int32)), (.int (0 : Int32)), (.int (0 : Int32)), (.int (0 : Int32)), (.int (0 : Int32)), (.int (0 : Int32)), (.int (0 : Int32))] (.int (0 : Int32)) := (Arv.new A2 (by decide)).pad (pad_rep [] (.int (0 : Int32)) 85)
  have k8 := (V_o0.ext E2)
  obtain ⟨cl9, Ar9, qc9, S9, M9, Ha9, G9⟩ := id k8
  obtain ⟨vr10, _, ⟨T10, L10, k10, n10⟩, -, X10, ⟨Lc10, hQ10, l10, y10, z10⟩, st10⟩ := Jvm.LawKit.callS X2 hx (y := (⟨"java/lang/Math", "min", "(II)I"⟩ : MethodName)) hown (mvT hZ (hw _ (List.mem_of_getElem? (i := 23) rfl))) (mvT hZ (hw _ (List.mem_of_getElem? (i := 24) rfl))) (mvT hZ (hw _ (List.mem_of_getElem? (i := 25) rfl))) (mvT hZ (hw _ (List.mem_of_getElem? (i := 26) rfl))) (by decide) (backOf (W := 4) (rm5 l Z a0 hw [] (128 : Int32) (85 : Int32) h2 n0 z6) hZ (hw _ (List.mem_of_getElem? (i := 26) rfl)) (hw _ (List.mem_of_getElem? (i := 25) rfl)) (by decide) (by decide)) (g := (mkF m 25 #[.val (.ref o0), .val (.int (85 : Int32)), .val (.ref b2)] [(.int (85 : Int32)), (.int (128 : Int32)), (.int (0 : Int32)), (.ref b2), (.int (0 : Int32)), (.ref o0)])) rfl (by rw [hml]; rfl) (argsL := [(.int (128 : Int32)), (.int (85 : Int32))]) (rest := [(.int (0 : Int32)), (.ref b2), (.int (0 : Int32)), (.ref o0)]) (lenOf pd__II_I rfl) rfl (by show 2 * 0 + _ ≤ _; exact Nat.le_of_eq rfl) (hb hby d4_25) (fun _ _ => ⟨rfl, e2, (by decide : 1 + 0 ≤ _), (by decide : 85 + 0 ≤ _)⟩)
  dsimp only [Pt.U, Pt.locs, Pt.cells, Pt.slots] at X10 l10 y10 z10 st10 hQ10
  subst l10 y10 z10
  have N10q := (show _ ∧ _ ∧ _ from hQ10).1
  have hv10 := (show _ ∧ _ ∧ _ from hQ10).2.1
  have e10 := (show _ ∧ _ ∧ _ from hQ10).2.2
  clear hQ10
  subst hv10
  have N10 := Fr.app N0 N10q
  obtain ⟨T11, h11, L11, X11, e11, N11, K11, V11r, st11⟩ := cpA X10 hx hZ hown (hw _ (List.mem_of_getElem? (i := 27) rfl)) (hw _ (List.mem_of_getElem? (i := 30) rfl)) (hw _ (List.mem_of_getElem? (i := 28) rfl)) (hw _ (List.mem_of_getElem? (i := 29) rfl)) e10 k8 V2 (us := [u0, u1, u2, u3, u4, u5, u6, u7, u8, u9, u10, u11, u12, u13, u14, u15, u16, u17, u18, u19, u20, u21, u22, u23, u24, u25, u26, u27, u28, u29, u30, u31, u32, u33, u34, u35, u36, u37, u38, u39, u40, u41, u42, u43, u44, u45, u46, u47, u48, u49, u50, u51, u52, u53, u54, u55, u56, u57, u58, u59, u60, u61, u62, u63, u64, u65, u66, u67, u68, u69, u70, u71, u72, u73, u74, u75, u76, u77, u78, u79, u80, u81, u82, u83, u84]) (Or.inl ⟨rfl, rfl⟩) (by decide) (by decide) (by decide) (Nat.le_of_ble_eq_true rfl) (Nat.le_of_ble_eq_true rfl) rfl (Nat.le_of_ble_eq_true rfl) N10 g4 (g := (mkF m 28 #[.val (.ref o0), .val (.int (85 : Int32)), .val (.ref b2)] [(.int (85 : Int32)), (.int (0 : Int32)), (.ref b2), (.int (0 : Int32)), (.ref o0)])) rfl (by rw [hml]; rfl) rfl (hb hby d4_28) (by decide) (W := 0) (by show 2 * 0 + _ ≤ _; exact Nat.le_of_eq rfl) (by decide)
  have V11 : Arv Z h11 b2 k2 .byte (85 : Int32) [u0, u1, u2, u3, u4, u5, u6, u7, u8, u9, u10, u11, u12, u13, u14, u15, u16, u17, u18, u19, u20, u21, u22, u23, u24, u25, u26, u27, u28, u29, u30, u31, u32, u33, u34, u35, u36, u37, u38, u39, u40, u41, u42, u43, u44, u45, u46, u47, u48, u49, u50, u51, u52, u53, u54, u55, u56, u57, u58, u59, u60, u61, u62, u63, u64, u65, u66, u67, u68, u69, u70, u71, u72, u73, u74, u75, u76, u77, u78, u79, u80, u81, u82, u83, u84] (.int (0 : Int32)) := V11r
  have z12 : n0 ≤ h11.size := Nat.le_trans z6 K11.1
  have hs13 : h0.size ≤ h11.size := Nat.le_trans hs7 K11.1
  obtain ⟨fs, hr, hrun, hended, hW, hsame⟩ := X11.leave (v := some (.ref b2)) (fun h => by rw [Bd.returns] at h; cases h) hlk
  refine ⟨_, _, pre0 _ ?_, hrun, hended, _, _, rfl, ?_, ⟨_, rfl⟩, hW, hsame.mono (by decide) (by decide)⟩
  · skip
    show Steps p.tables e below (s₁.setTop (mkF m 0 #[.val (.ref o0), .val (.int (85 : Int32)), .unset] [])) _
    refine XS.iloadN X0.here hx rfl (hb hby d4_0) rfl ?_
    show Steps p.tables e below (s₁.setTop (mkF m 1 #[.val (.ref o0), .val (.int (85 : Int32)), .unset] [(.int (85 : Int32))])) _
    refine XS.aloadN X0.here hx rfl (hb hby d4_1) rfl rfl ?_
    show Steps p.tables e below (s₁.setTop (mkF m 2 #[.val (.ref o0), .val (.int (85 : Int32)), .unset] [(.ref o0), (.int (85 : Int32))])) _
    refine X0.arraylength hx (by rw [e0]; exact Ar1.1) (State.isArrayOf_alike hZ.alike Ar1.2.1) (g := (mkF m 2 #[.val (.ref o0), .val (.int (85 : Int32)), .unset] [(.ref o0), (.int (85 : Int32))])) rfl rfl (hb hby d4_2) _ ?_
    rw [len_of S1 M1]
    show Steps p.tables e below (s₁.setTop (mkF m 3 #[.val (.ref o0), .val (.int (85 : Int32)), .unset] [(.int (128 : Int32)), (.int (85 : Int32))])) _
    refine XS.icmpYes X0.here hx rfl (pc0 := 3) (pc' := 14) rfl (hb hby d4_3) rfl (XT.ii_ne_t (by decide)) (by decide) (by decide) ?_
    show Steps p.tables e below (s₁.setTop (mkF m 14 #[.val (.ref o0), .val (.int (85 : Int32)), .unset] [])) _
    refine XS.iloadN X0.here hx rfl (hb hby d4_14) rfl ?_
    show Steps p.tables e below (s₁.setTop (mkF m 15 #[.val (.ref o0), .val (.int (85 : Int32)), .unset] [(.int (85 : Int32))])) _
    refine st2 _ ?_
    show Steps p.tables e below (T2.setTop (mkF m 17 #[.val (.ref o0), .val (.int (85 : Int32)), .unset] [(.ref b2)])) _
    refine XS.astoreN X2.here hx rfl (hb hby d4_17) rfl rfl (l' := #[.val (.ref o0), .val (.int (85 : Int32)), .val (.ref b2)]) rfl ?_
    show Steps p.tables e below (T2.setTop (mkF m 18 #[.val (.ref o0), .val (.int (85 : Int32)), .val (.ref b2)] [])) _
    refine XS.aloadN X2.here hx rfl (hb hby d4_18) rfl rfl ?_
    show Steps p.tables e below (T2.setTop (mkF m 19 #[.val (.ref o0), .val (.int (85 : Int32)), .val (.ref b2)] [(.ref o0)])) _
    refine XT.iconstV X2.here hx rfl (0 : Int32) (hb hby d4_19) (by decide) ?_
    show Steps p.tables e below (T2.setTop (mkF m 20 #[.val (.ref o0), .val (.int (85 : Int32)), .val (.ref b2)] [(.int (0 : Int32)), (.ref o0)])) _
    refine XS.aloadN X2.here hx rfl (hb hby d4_20) rfl rfl ?_
    show Steps p.tables e below (T2.setTop (mkF m 21 #[.val (.ref o0), .val (.int (85 : Int32)), .val (.ref b2)] [(.ref b2), (.int (0 : Int32)), (.ref o0)])) _
    refine XT.iconstV X2.here hx rfl (0 : Int32) (hb hby d4_21) (by decide) ?_
    show Steps p.tables e below (T2.setTop (mkF m 22 #[.val (.ref o0), .val (.int (85 : Int32)), .val (.ref b2)] [(.int (0 : Int32)), (.ref b2), (.int (0 : Int32)), (.ref o0)])) _
    refine XS.aloadN X2.here hx rfl (hb hby d4_22) rfl rfl ?_
    show Steps p.tables e below (T2.setTop (mkF m 23 #[.val (.ref o0), .val (.int (85 : Int32)), .val (.ref b2)] [(.ref o0), (.int (0 : Int32)), (.ref b2), (.int (0 : Int32)), (.ref o0)])) _
    refine X2.arraylength hx (by rw [e2]; exact Ar9.1) (State.isArrayOf_alike hZ.alike Ar9.2.1) (g := (mkF m 23 #[.val (.ref o0), .val (.int (85 : Int32)), .val (.ref b2)] [(.ref o0), (.int (0 : Int32)), (.ref b2), (.int (0 : Int32)), (.ref o0)])) rfl rfl (hb hby d4_23) _ ?_
    rw [len_of S9 M9]
    show Steps p.tables e below (T2.setTop (mkF m 24 #[.val (.ref o0), .val (.int (85 : Int32)), .val (.ref b2)] [(.int (128 : Int32)), (.int (0 : Int32)), (.ref b2), (.int (0 : Int32)), (.ref o0)])) _
    refine XS.iloadN X2.here hx rfl (hb hby d4_24) rfl ?_
    show Steps p.tables e below (T2.setTop (mkF m 25 #[.val (.ref o0), .val (.int (85 : Int32)), .val (.ref b2)] [(.int (85 : Int32)), (.int (128 : Int32)), (.int (0 : Int32)), (.ref b2), (.int (0 : Int32)), (.ref o0)])) _
    refine st10 _ ?_
    show Steps p.tables e below (T10.setTop (mkF m 28 #[.val (.ref o0), .val (.int (85 : Int32)), .val (.ref b2)] [(.int (85 : Int32)), (.int (0 : Int32)), (.ref b2), (.int (0 : Int32)), (.ref o0)])) _
    refine st11 _ ?_
    show Steps p.tables e below (T11.setTop (mkF m 31 #[.val (.ref o0), .val (.int (85 : Int32)), .val (.ref b2)] [])) _
    refine XS.aloadN X11.here hx rfl (hb hby d4_31) rfl rfl ?_
    show Steps p.tables e below (T11.setTop (mkF m 32 #[.val (.ref o0), .val (.int (85 : Int32)), .val (.ref b2)] [(.ref b2)])) _
    exact X11.areturnOut hx rfl Bd.returns rfl (hb hby d4_32) hr
  · skip
    show Qcp128_85 Z o0 u0 u1 u2 u3 u4 u5 u6 u7 u8 u9 u10 u11 u12 u13 u14 u15 u16 u17 u18 u19 u20 u21 u22 u23 u24 u25 u26 u27 u28 u29 u30 u31 u32 u33 u34 u35 u36 u37 u38 u39 u40 u41 u42 u43 u44 u45 u46 u47 u48 u49 u50 u51 u52 u53 u54 u55 u56 u57 u58 u59 u60 u61 u62 u63 u64 u65 u66 u67 u68 u69 u70 u71 u72 u73 u74 u75 u76 u77 u78 u79 u80 u81 u82 u83 u84 u85 u86 u87 u88 u89 u90 u91 u92 u93 u94 u95 u96 u97 u98 u99 u100 u101 u102 u103 u104 u105 u106 u107 u108 u109 u110 u111 u112 u113 u114 u115 u116 u117 u118 u119 u120 u121 u122 u123 u124 u125 u126 u127 kA h0 n0 _ T11.heap _
    rw [e11]
    have k14 := (EA2.keep K11)
    exact ⟨N11, b2, k2, rfl, sz5, (((Keep.refl h0 []).ext E2).trans K11 (allS (Or.inr sz5) all0)), V11⟩
theorem ef_cp64_128 (m : MethodId) (o0 : Addr) : entryFrame m #[(.ref o0), (.int (128 : Int32))] 3 = mkF m 0 #[.val (.ref o0), .val (.int (128 : Int32)), .unset] [] := by first | (simp [entryFrame, mkF, argsToLocals, Value.category]; done) | rfl
def Qcp64_128 (Z : State) (o0 : Addr) (u0 : Value) (u1 : Value) (u2 : Value) (u3 : Value) (u4 : Value) (u5 : Value) (u6 : Value) (u7 : Value) (u8 : Value) (u9 : Value) (u10 : Value) (u11 : Value) (u12 : Value) (u13 : Value) (u14 : Value) (u15 : Value) (u16 : Value) (u17 : Value) (u18 : Value) (u19 : Value) (u20 : Value) (u21 : Value) (u22 : Value) (u23 : Value) (u24 : Value) (u25 : Value) (u26 : Value) (u27 : Value) (u28 : Value) (u29 : Value) (u30 : Value) (u31 : Value) (u32 : Value) (u33 : Value) (u34 : Value) (u35 : Value) (u36 : Value) (u37 : Value) (u38 : Value) (u39 : Value) (u40 : Value) (u41 : Value) (u42 : Value) (u43 : Value) (u44 : Value) (u45 : Value) (u46 : Value) (u47 : Value) (u48 : Value) (u49 : Value) (u50 : Value) (u51 : Value) (u52 : Value) (u53 : Value) (u54 : Value) (u55 : Value) (u56 : Value) (u57 : Value) (u58 : Value) (u59 : Value) (u60 : Value) (u61 : Value) (u62 : Value) (u63 : Value) (kA : ClassId) (h0 : Heap) (n0 : Nat) (v : Option Value) (h : Heap) (L : List Loc) : Prop := Fr n0 L ∧ ∃ (xcp64_128_0 : Addr) (kcp64_128_1 : ClassId), v = some (.ref xcp64_128_0) ∧ h0.size ≤ xcp64_128_0 ∧ Keep h0 h [] ∧ Arv Z h xcp64_128_0 kcp64_128_1 .byte (128 : Int32) [u0, u1, u2, u3, u4, u5, u6, u7, u8, u9, u10, u11, u12, u13, u14, u15, u16, u17, u18, u19, u20, u21, u22, u23, u24, u25, u26, u27, u28, u29, u30, u31, u32, u33, u34, u35, u36, u37, u38, u39, u40, u41, u42, u43, u44, u45, u46, u47, u48, u49, u50, u51, u52, u53, u54, u55, u56, u57, u58, u59, u60, u61, u62, u63, (.int (0 : Int32)), (.int (0 : Int32)), (.int (0 : Int32)), (.int (0 : Int32)), (.int (0 : Int32)), (.int (0 : Int32)), (.int (0 : Int32)), (.int (0 : Int32)), (.int (0 : Int32)), (.int (0 : Int32)), (.int (0 : Int32)), (.int (0 : Int32)), (.int (0 : Int32)), (.int (0 : Int32)), (.int (0 : Int32)), (.int (0 : Int32)), (.int (0 : Int32)), (.int (0 : Int32)), (.int (0 : Int32)), (.int (0 : Int32)), (.int (0 : Int32)), (.int (0 : Int32)), (.int (0 : Int32)), (.int (0 : Int32)), (.int (0 : Int32)), (.int (0 : Int32)), (.int (0 : Int32)), (.int (0 : Int32)), (.int (0 : Int32)), (.int (0 : Int32)), (.int (0 : Int32)), (.int (0 : Int32)), (.int (0 : Int32)), (.int (0 : Int32)), (.int (0 : Int32)), (.int (0 : Int32)), (.int (0 : Int32)), (.int (0 : Int32)), (.int (0 : Int32)), (.int (0 : Int32)), (.int (0 : Int32)), (.int (0 : Int32)), (.int (0 : Int32)), (.int (0 : Int32)), (.int (0 : Int32)), (.int (0 : Int32)), (.int (0 : Int32)), (.int (0 : Int32)), (.int (0 : Int32)), (.int (0 : Int32)), (.int (0 : Int32)), (.int (0 : Int32)), (.int (0 : Int32)), (.int (0 : Int32)), (.int (0 : Int32)), (.int (0 : Int32)), (.int (0 : Int32)), (.int (0 : Int32)), (.int (0 : Int32)), (.int (0 : Int32)), (.int (0 : Int32)), (.int (0 : Int32)), (.int (0 : Int32)), (.int (0 : Int32))] (.int (0 : Int32))
set_option maxRecDepth 65536 in
set_option maxHeartbeats 40000000 in
theorem rmcp64_128 (l : Launch) (Z : State) (a0 : Array Value) (hw : ∀ d ∈ tables_1, d.before a0 Z = true) (ws : List Jvm.Cond) (o0 : Addr) (u0 : Value) (u1 : Value) (u2 : Value) (u3 : Value) (u4 : Value) (u5 : Value) (u6 : Value) (u7 : Value) (u8 : Value) (u9 : Value) (u10 : Value) (u11 : Value) (u12 : Value) (u13 : Value) (u14 : Value) (u15 : Value) (u16 : Value) (u17 : Value) (u18 : Value) (u19 : Value) (u20 : Value) (u21 : Value) (u22 : Value) (u23 : Value) (u24 : Value) (u25 : Value) (u26 : Value) (u27 : Value) (u28 : Value) (u29 : Value) (u30 : Value) (u31 : Value) (u32 : Value) (u33 : Value) (u34 : Value) (u35 : Value) (u36 : Value) (u37 : Value) (u38 : Value) (u39 : Value) (u40 : Value) (u41 : Value) (u42 : Value) (u43 : Value) (u44 : Value) (u45 : Value) (u46 : Value) (u47 : Value) (u48 : Value) (u49 : Value) (u50 : Value) (u51 : Value) (u52 : Value) (u53 : Value) (u54 : Value) (u55 : Value) (u56 : Value) (u57 : Value) (u58 : Value) (u59 : Value) (u60 : Value) (u61 : Value) (u62 : Value) (u63 : Value) (kA : ClassId) (h0 : Heap) (n0 : Nat) (Z0 : n0 ≤ h0.size) (V_o0 : Arv Z h0 o0 kA .byte (64 : Int32) [u0, u1, u2, u3, u4, u5, u6, u7, u8, u9, u10, u11, u12, u13, u14, u15, u16, u17, u18, u19, u20, u21, u22, u23, u24, u25, u26, u27, u28, u29, u30, u31, u32, u33, u34, u35, u36, u37, u38, u39, u40, u41, u42, u43, u44, u45, u46, u47, u48, u49, u50, u51, u52, u53, u54, u55, u56, u57, u58, u59, u60, u61, u62, u63] (.int (0 : Int32))) :
    MetFree l (⟨"java/util/Arrays", "copyOf", "([BI)[B"⟩ : MethodName) (head1 (Jvm.Cond.code (⟨"java/util/Arrays", "copyOf", "([BI)[B"⟩ : MethodName) jdk_65_method_121_code 3 (some (.array .byte)) :: ws) ({ frames := 1, cells := 1, slots := 128, locals := 18 } : Room)) (fun a U => a = #[(.ref o0), (.int (128 : Int32))] ∧ Z.Warmed39 U.vm ∧ U.heap = h0) (fun _ _ _ _ _ => True) (fun _ U o U' => ∃ v L, o = .returned v ∧ Qcp64_128 Z o0 u0 u1 u2 u3 u4 u5 u6 u7 u8 u9 u10 u11 u12 u13 u14 u15 u16 u17 u18 u19 u20 u21 u22 u23 u24 u25 u26 u27 u28 u29 u30 u31 u32 u33 u34 u35 u36 u37 u38 u39 u40 u41 u42 u43 u44 u45 u46 u47 u48 u49 u50 u51 u52 u53 u54 u55 u56 u57 u58 u59 u60 u61 u62 u63 kA h0 n0 v U'.heap L ∧ FrameEnd U o U' L ({ frames := 1, cells := 1, slots := 128, locals := 18 } : Room).cells ({ frames := 1, cells := 1, slots := 128, locals := 18 } : Room).slots) := by
  refine MetFree.of_bodySF (plainFor_of_name pn_java_util_Arrays) hisR ?_
  intro p e s m args below meth c s₁ Bd hml0 hP hK
  obtain ⟨rfl, hZ, hh⟩ := hP
  have hx := Bd.exec
  have hby := Bd.bytes
  have hml : c.maxLocals = 3 := hml0
  have hown : s.vm.findClass "java/util/Arrays" = some m.cls := findClass_of_methodNamed Bd.named
  have hnm := (name_of_methodNamed Bd.named Bd.method).1
  have hlk := BodyLoose.notSynchronized Bd
  have X0 : Stand p l e ({ frames := 1, cells := 1, slots := 128, locals := 18 } : Room) s m #[(.ref o0), (.int (128 : Int32))] below meth c s₁ [] 0 0 := Stand.of_body Bd
  have e0 : s₁.heap = h0 := by rw [← hh, Bd.state]; rfl
  have N0 := Fr.nil n0
  have pre0 : ∀ t, Steps p.tables e below (s₁.setTop (mkF m 0 #[.val (.ref o0), .val (.int (128 : Int32)), .unset] [])) t → Steps p.tables e below (s₁.setTop (entryFrame m #[(.ref o0), (.int (128 : Int32))] 3)) t := fun t k => castTop (ef_cp64_128 m o0) k
  obtain ⟨cl1, Ar1, qc1, S1, M1, Ha1, G1⟩ := id V_o0
  obtain ⟨T2, h2, k2, X2, e2, E2, A2, EA2, st2⟩ := newPE X0 hx hZ (hw _ (List.mem_of_getElem? (i := 9) rfl)) e0 (g := (mkF m 15 #[.val (.ref o0), .val (.int (128 : Int32)), .unset] [(.int (128 : Int32))])) rfl (hb hby d4_15) rfl (by decide) (cap := 128) (by decide) (by decide) (by decide) (by decide) (ad := "[B") rfl
  obtain ⟨b2, gz2⟩ : ∃ z, z = h0.size := ⟨_, rfl⟩
  rw [← gz2] at A2 EA2 st2
  have ne3 : o0 ≠ b2 := Nat.ne_of_lt (Nat.lt_of_lt_of_le V_o0.lt (Nat.le_of_eq gz2.symm))
  have g4 : n0 ≤ b2 := Nat.le_trans Z0 (Nat.le_of_eq gz2.symm)
  have sz5 : h0.size ≤ b2 := Nat.le_trans (Nat.le_refl h0.size) (Nat.le_of_eq gz2.symm)
  have z6 : n0 ≤ h2.size := Nat.le_trans Z0 E2.1
  have hs7 : h0.size ≤ h2.size := Nat.le_trans (Nat.le_refl h0.size) E2.1
  have V2 : Arv Z h2 b2 k2 .byte (128 : Int32) [(.int (0 : Int32)), (.int (0 : Int32)), (.int (0 : Int32)), (.int (0 : Int32)), (.int (0 : Int32)), (.int (0 : Int32)), (.int (0 : Int32)), (.int (0 : Int32)), (.int (0 : Int32)), (.int (0 : Int32)), (.int (0 : Int32)), (.int (0 : Int32)), (.int (0 : Int32)), (.int (0 : Int32)), (.int (0 : Int32)), (.int (0 : Int32)), (.int (0 : Int32)), (.int (0 : Int32)), (.int (0 : Int32)), (.int (0 : Int32)), (.int (0 : Int32)), (.int (0 : Int32)), (.int (0 : Int32)), (.int (0 : Int32)), (.int (0 : Int32)), (.int (0 : Int32)), (.int (0 : Int32)), (.int (0 : Int32)), (.int (0 : Int32)), (.int (0 : Int32)), (.int (0 : Int32)), (.int (0 : Int32)), (.int (0 : Int32)), (.int (0 : Int32)), (.int (0 : Int32)), (.int (0 : Int32)), (.int (0 : Int32)), (.int (0 : Int32)), (.int (0 : Int32)), (.int (0 : Int32)), (.int (0 : Int32)), (.int (0 : Int32)), (.int (0 : Int32)), (.int (0 : Int32)), (.int (0 : Int32)), (.int (0 : Int32)), (.int (0 : Int32)), (.int (0 : Int32)), (.int (0 : Int32)), (.int (0 : Int32)), (.int (0 : Int32)), (.int (0 : Int32)), (.int (0 : Int32)), (.int (0 : Int32)), (.int (0 : Int32)), (.int (0 : Int32)), (.int (0 : Int32)), (.int (0 : Int32)), (.int (0 : Int32)), (.int (0 : Int32)), (.int (0 : Int32)), (.int (0 : Int32)), (.int (0 : Int32)), (.int (0 : Int32)), (.int (0 : Int32)), (.int (0 : Int32)), (.int (0 : Int32)), (.int (0 : Int32)), (.int (0 : Int32)), (.int (0 : Int32)), (.int (0 : Int32)), (.int (0 : Int32)), (.int (0 : Int32)), (.int (0 : Int32)), (.int (0 : Int32)), (.int (0 : Int32)), (.int (0 : Int32)), (.int (0 : Int32)), (.int (0 : Int32)), (.int (0 : Int32)), (.int (0 : Int32)), (.int (0 : Int32)), (.int (0 : Int32)), (.int (0 : Int32)), (.int (0 : Int32)), (.int (0 : Int32)), (.int (0 : Int32)), (.int (0 : Int32)), (.int (0 : Int32)), (.int (0 : Int32)), (.int (0 : Int32)), (.int (0 : Int32)), (.int (0 : Int32)), (.int (0 : Int32)), (.int (0 : Int32)), (.int (0 : Int32)), (.int (0 : Int32)), (.int (0 : Int32)), (.int (0 : Int32)), (.int (0 : Int32)), (.int (0 : Int32)), (.int (0 : Int32)), (.int (0 : Int32)), (.int (0 : Int32)), (.int (0 : Int32)), (.int (0 : Int32)), (.int (0 : Int32)), (.int (0 : Int32)), (.int (0 : Int32)), (.int (0 : Int32)), (.int (0 : Int32)), (.int (0 : Int32)), (.int (0 : Int32)), (.int (0 : Int32)), (.int (0 : Int32)), (.int (0 : Int32)), (.int (0 : Int32)), (.int (0 : Int32)), (.int (0 : Int32)), (.int (0 : Int32)), (.int (0 : Int32)), (.int (0 : Int32)), (.int (0 : Int32)), (.int (0 : Int32)), (.int (0 : Int32)), (.int (0 : Int32)), (.int (0 : Int32)), (.int (0 : Int32))] (.int (0 : Int32)) := (Arv.new A2 (by decide)).pad (pad_rep [] (.int (0 : Int32)) 128)
  have k8 := (V_o0.ext E2)
  obtain ⟨cl9, Ar9, qc9, S9, M9, Ha9, G9⟩ := id k8
  obtain ⟨vr10, _, ⟨T10, L10, k10, n10⟩, -, X10, ⟨Lc10, hQ10, l10, y10, z10⟩, st10⟩ := Jvm.LawKit.callS X2 hx (y := (⟨"java/lang/Math", "min", "(II)I"⟩ : MethodName)) hown (mvT hZ (hw _ (List.mem_of_getElem? (i := 23) rfl))) (mvT hZ (hw _ (List.mem_of_getElem? (i := 24) rfl))) (mvT hZ (hw _ (List.mem_of_getElem? (i := 25) rfl))) (mvT hZ (hw _ (List.mem_of_getElem? (i := 26) rfl))) (by decide) (backOf (W := 4) (rm5 l Z a0 hw [] (64 : Int32) (128 : Int32) h2 n0 z6) hZ (hw _ (List.mem_of_getElem? (i := 26) rfl)) (hw _ (List.mem_of_getElem? (i := 25) rfl)) (by decide) (by decide)) (g := (mkF m 25 #[.val (.ref o0), .val (.int (128 : Int32)), .val (.ref b2)] [(.int (128 : Int32)), (.int (64 : Int32)), (.int (0 : Int32)), (.ref b2), (.int (0 : Int32)), (.ref o0)])) rfl (by rw [hml]; rfl) (argsL := [(.int (64 : Int32)), (.int (128 : Int32))]) (rest := [(.int (0 : Int32)), (.ref b2), (.int (0 : Int32)), (.ref o0)]) (lenOf pd__II_I rfl) rfl (by show 2 * 0 + _ ≤ _; exact Nat.le_of_eq rfl) (hb hby d4_25) (fun _ _ => ⟨rfl, e2, (by decide : 1 + 0 ≤ _), (by decide : 128 + 0 ≤ _)⟩)
  dsimp only [Pt.U, Pt.locs, Pt.cells, Pt.slots] at X10 l10 y10 z10 st10 hQ10
  subst l10 y10 z10
  have N10q := (show _ ∧ _ ∧ _ from hQ10).1
  have hv10 := (show _ ∧ _ ∧ _ from hQ10).2.1
  have e10 := (show _ ∧ _ ∧ _ from hQ10).2.2
  clear hQ10
  subst hv10
  have N10 := Fr.app N0 N10q
  obtain ⟨T11, h11, L11, X11, e11, N11, K11, V11r, st11⟩ := cpA X10 hx hZ hown (hw _ (List.mem_of_getElem? (i := 27) rfl)) (hw _ (List.mem_of_getElem? (i := 30) rfl)) (hw _ (List.mem_of_getElem? (i := 28) rfl)) (hw _ (List.mem_of_getElem? (i := 29) rfl)) e10 k8 V2 (us := [u0, u1, u2, u3, u4, u5, u6, u7, u8, u9, u10, u11, u12, u13, u14, u15, u16, u17, u18, u19, u20, u21, u22, u23, u24, u25, u26, u27, u28, u29, u30, u31, u32, u33, u34, u35, u36, u37, u38, u39, u40, u41, u42, u43, u44, u45, u46, u47, u48, u49, u50, u51, u52, u53, u54, u55, u56, u57, u58, u59, u60, u61, u62, u63]) (Or.inl ⟨rfl, rfl⟩) (by decide) (by decide) (by decide) (Nat.le_of_ble_eq_true rfl) (Nat.le_of_ble_eq_true rfl) rfl (Nat.le_of_ble_eq_true rfl) N10 g4 (g := (mkF m 28 #[.val (.ref o0), .val (.int (128 : Int32)), .val (.ref b2)] [(.int (64 : Int32)), (.int (0 : Int32)), (.ref b2), (.int (0 : Int32)), (.ref o0)])) rfl (by rw [hml]; rfl) rfl (hb hby d4_28) (by decide) (W := 0) (by show 2 * 0 + _ ≤ _; exact Nat.le_of_eq rfl) (by decide)
  have V11 : Arv Z h11 b2 k2 .byte (128 : Int32) [u0, u1, u2, u3, u4, u5, u6, u7, u8, u9, u10, u11, u12, u13, u14, u15, u16, u17, u18, u19, u20, u21, u22, u23, u24, u25, u26, u27, u28, u29, u30, u31, u32, u33, u34, u35, u36, u37, u38, u39, u40, u41, u42, u43, u44, u45, u46, u47, u48, u49, u50, u51, u52, u53, u54, u55, u56, u57, u58, u59, u60, u61, u62, u63, (.int (0 : Int32)), (.int (0 : Int32)), (.int (0 : Int32)), (.int (0 : Int32)), (.int (0 : Int32)), (.int (0 : Int32)), (.int (0 : Int32)), (.int (0 : Int32)), (.int (0 : Int32)), (.int (0 : Int32)), (.int (0 : Int32)), (.int (0 : Int32)), (.int (0 : Int32)), (.int (0 : Int32)), (.int (0 : Int32)), (.int (0 : Int32)), (.int (0 : Int32)), (.int (0 : Int32)), (.int (0 : Int32)), (.int (0 : Int32)), (.int (0 : Int32)), (.int (0 : Int32)), (.int (0 : Int32)), (.int (0 : Int32)), (.int (0 : Int32)), (.int (0 : Int32)), (.int (0 : Int32)), (.int (0 : Int32)), (.int (0 : Int32)), (.int (0 : Int32)), (.int (0 : Int32)), (.int (0 : Int32)), (.int (0 : Int32)), (.int (0 : Int32)), (.int (0 : Int32)), (.int (0 : Int32)), (.int (0 : Int32)), (.int (0 : Int32)), (.int (0 : Int32)), (.int (0 : Int32)), (.int (0 : Int32)), (.int (0 : Int32)), (.int (0 : Int32)), (.int (0 : Int32)), (.int (0 : Int32)), (.int (0 : Int32)), (.int (0 : Int32)), (.int (0 : Int32)), (.int (0 : Int32)), (.int (0 : Int32)), (.int (0 : Int32)), (.int (0 : Int32)), (.int (0 : Int32)), (.int (0 : Int32)), (.int (0 : Int32)), (.int (0 : Int32)), (.int (0 : Int32)), (.int (0 : Int32)), (.int (0 : Int32)), (.int (0 : Int32)), (.int (0 : Int32)), (.int (0 : Int32)), (.int (0 : Int32)), (.int (0 : Int32))] (.int (0 : Int32)) := V11r
  have z12 : n0 ≤ h11.size := Nat.le_trans z6 K11.1
  have hs13 : h0.size ≤ h11.size := Nat.le_trans hs7 K11.1
  obtain ⟨fs, hr, hrun, hended, hW, hsame⟩ := X11.leave (v := some (.ref b2)) (fun h => by rw [Bd.returns] at h; cases h) hlk
  refine ⟨_, _, pre0 _ ?_, hrun, hended, _, _, rfl, ?_, ⟨_, rfl⟩, hW, hsame.mono (by decide) (by decide)⟩
  · skip
    show Steps p.tables e below (s₁.setTop (mkF m 0 #[.val (.ref o0), .val (.int (128 : Int32)), .unset] [])) _
    refine XS.iloadN X0.here hx rfl (hb hby d4_0) rfl ?_
    show Steps p.tables e below (s₁.setTop (mkF m 1 #[.val (.ref o0), .val (.int (128 : Int32)), .unset] [(.int (128 : Int32))])) _
    refine XS.aloadN X0.here hx rfl (hb hby d4_1) rfl rfl ?_
    show Steps p.tables e below (s₁.setTop (mkF m 2 #[.val (.ref o0), .val (.int (128 : Int32)), .unset] [(.ref o0), (.int (128 : Int32))])) _
    refine X0.arraylength hx (by rw [e0]; exact Ar1.1) (State.isArrayOf_alike hZ.alike Ar1.2.1) (g := (mkF m 2 #[.val (.ref o0), .val (.int (128 : Int32)), .unset] [(.ref o0), (.int (128 : Int32))])) rfl rfl (hb hby d4_2) _ ?_
    rw [len_of S1 M1]
    show Steps p.tables e below (s₁.setTop (mkF m 3 #[.val (.ref o0), .val (.int (128 : Int32)), .unset] [(.int (64 : Int32)), (.int (128 : Int32))])) _
    refine XS.icmpYes X0.here hx rfl (pc0 := 3) (pc' := 14) rfl (hb hby d4_3) rfl (XT.ii_ne_t (by decide)) (by decide) (by decide) ?_
    show Steps p.tables e below (s₁.setTop (mkF m 14 #[.val (.ref o0), .val (.int (128 : Int32)), .unset] [])) _
    refine XS.iloadN X0.here hx rfl (hb hby d4_14) rfl ?_
    show Steps p.tables e below (s₁.setTop (mkF m 15 #[.val (.ref o0), .val (.int (128 : Int32)), .unset] [(.int (128 : Int32))])) _
    refine st2 _ ?_
    show Steps p.tables e below (T2.setTop (mkF m 17 #[.val (.ref o0), .val (.int (128 : Int32)), .unset] [(.ref b2)])) _
    refine XS.astoreN X2.here hx rfl (hb hby d4_17) rfl rfl (l' := #[.val (.ref o0), .val (.int (128 : Int32)), .val (.ref b2)]) rfl ?_
    show Steps p.tables e below (T2.setTop (mkF m 18 #[.val (.ref o0), .val (.int (128 : Int32)), .val (.ref b2)] [])) _
    refine XS.aloadN X2.here hx rfl (hb hby d4_18) rfl rfl ?_
    show Steps p.tables e below (T2.setTop (mkF m 19 #[.val (.ref o0), .val (.int (128 : Int32)), .val (.ref b2)] [(.ref o0)])) _
    refine XT.iconstV X2.here hx rfl (0 : Int32) (hb hby d4_19) (by decide) ?_
    show Steps p.tables e below (T2.setTop (mkF m 20 #[.val (.ref o0), .val (.int (128 : Int32)), .val (.ref b2)] [(.int (0 : Int32)), (.ref o0)])) _
    refine XS.aloadN X2.here hx rfl (hb hby d4_20) rfl rfl ?_
    show Steps p.tables e below (T2.setTop (mkF m 21 #[.val (.ref o0), .val (.int (128 : Int32)), .val (.ref b2)] [(.ref b2), (.int (0 : Int32)), (.ref o0)])) _
    refine XT.iconstV X2.here hx rfl (0 : Int32) (hb hby d4_21) (by decide) ?_
    show Steps p.tables e below (T2.setTop (mkF m 22 #[.val (.ref o0), .val (.int (128 : Int32)), .val (.ref b2)] [(.int (0 : Int32)), (.ref b2), (.int (0 : Int32)), (.ref o0)])) _
    refine XS.aloadN X2.here hx rfl (hb hby d4_22) rfl rfl ?_
    show Steps p.tables e below (T2.setTop (mkF m 23 #[.val (.ref o0), .val (.int (128 : Int32)), .val (.ref b2)] [(.ref o0), (.int (0 : Int32)), (.ref b2), (.int (0 : Int32)), (.ref o0)])) _
    refine X2.arraylength hx (by rw [e2]; exact Ar9.1) (State.isArrayOf_alike hZ.alike Ar9.2.1) (g := (mkF m 23 #[.val (.ref o0), .val (.int (128 : Int32)), .val (.ref b2)] [(.ref o0), (.int (0 : Int32)), (.ref b2), (.int (0 : Int32)), (.ref o0)])) rfl rfl (hb hby d4_23) _ ?_
    rw [len_of S9 M9]
    show Steps p.tables e below (T2.setTop (mkF m 24 #[.val (.ref o0), .val (.int (128 : Int32)), .val (.ref b2)] [(.int (64 : Int32)), (.int (0 : Int32)), (.ref b2), (.int (0 : Int32)), (.ref o0)])) _
    refine XS.iloadN X2.here hx rfl (hb hby d4_24) rfl ?_
    show Steps p.tables e below (T2.setTop (mkF m 25 #[.val (.ref o0), .val (.int (128 : Int32)), .val (.ref b2)] [(.int (128 : Int32)), (.int (64 : Int32)), (.int (0 : Int32)), (.ref b2), (.int (0 : Int32)), (.ref o0)])) _
    refine st10 _ ?_
    show Steps p.tables e below (T10.setTop (mkF m 28 #[.val (.ref o0), .val (.int (128 : Int32)), .val (.ref b2)] [(.int (64 : Int32)), (.int (0 : Int32)), (.ref b2), (.int (0 : Int32)), (.ref o0)])) _
    refine st11 _ ?_
    show Steps p.tables e below (T11.setTop (mkF m 31 #[.val (.ref o0), .val (.int (128 : Int32)), .val (.ref b2)] [])) _
    refine XS.aloadN X11.here hx rfl (hb hby d4_31) rfl rfl ?_
    show Steps p.tables e below (T11.setTop (mkF m 32 #[.val (.ref o0), .val (.int (128 : Int32)), .val (.ref b2)] [(.ref b2)])) _
    exact X11.areturnOut hx rfl Bd.returns rfl (hb hby d4_32) hr
  · skip
    show Qcp64_128 Z o0 u0 u1 u2 u3 u4 u5 u6 u7 u8 u9 u10 u11 u12 u13 u14 u15 u16 u17 u18 u19 u20 u21 u22 u23 u24 u25 u26 u27 u28 u29 u30 u31 u32 u33 u34 u35 u36 u37 u38 u39 u40 u41 u42 u43 u44 u45 u46 u47 u48 u49 u50 u51 u52 u53 u54 u55 u56 u57 u58 u59 u60 u61 u62 u63 kA h0 n0 _ T11.heap _
    rw [e11]
    have k14 := (EA2.keep K11)
    exact ⟨N11, b2, k2, rfl, sz5, (((Keep.refl h0 []).ext E2).trans K11 (allS (Or.inr sz5) all0)), V11⟩
theorem d7_0 : decode prog_35_method_8_code 0 = .ok (.aload_n 0, 1) := by decide +kernel
theorem d7_1 : decode prog_35_method_8_code 1 = .ok (.getfield 7, 3) := by decide +kernel
theorem d7_4 : decode prog_35_method_8_code 4 = .ok (.arraylength, 1) := by decide +kernel
theorem d7_5 : decode prog_35_method_8_code 5 = .ok (.aload_n 0, 1) := by decide +kernel
theorem d7_6 : decode prog_35_method_8_code 6 = .ok (.getfield 34, 3) := by decide +kernel
theorem d7_9 : decode prog_35_method_8_code 9 = .ok (.isub, 1) := by decide +kernel
theorem d7_10 : decode prog_35_method_8_code 10 = .ok (.iload_n 1, 1) := by decide +kernel
theorem d7_11 : decode prog_35_method_8_code 11 = .ok (.if_icmp .ge 30, 3) := by decide +kernel
theorem d7_41 : decode prog_35_method_8_code 41 = .ok (.return_, 1) := by decide +kernel
theorem ef_rm0_8 (m : MethodId) (o0 : Addr) : entryFrame m #[(.ref o0), (.int (8 : Int32))] 2 = mkF m 0 #[.val (.ref o0), .val (.int (8 : Int32))] [] := by first | (simp [entryFrame, mkF, argsToLocals, Value.category]; done) | rfl
def Qrm0_8 (Z : State) (o0 : Addr) (w1_buf : Addr) (u0 : Value) (u1 : Value) (u2 : Value) (u3 : Value) (u4 : Value) (u5 : Value) (u6 : Value) (u7 : Value) (u8 : Value) (u9 : Value) (u10 : Value) (u11 : Value) (u12 : Value) (u13 : Value) (u14 : Value) (u15 : Value) (u16 : Value) (u17 : Value) (u18 : Value) (u19 : Value) (u20 : Value) (u21 : Value) (u22 : Value) (u23 : Value) (u24 : Value) (u25 : Value) (u26 : Value) (u27 : Value) (u28 : Value) (u29 : Value) (u30 : Value) (u31 : Value) (u32 : Value) (u33 : Value) (u34 : Value) (u35 : Value) (u36 : Value) (u37 : Value) (u38 : Value) (u39 : Value) (u40 : Value) (u41 : Value) (u42 : Value) (u43 : Value) (u44 : Value) (u45 : Value) (u46 : Value) (u47 : Value) (u48 : Value) (u49 : Value) (u50 : Value) (u51 : Value) (u52 : Value) (u53 : Value) (u54 : Value) (u55 : Value) (u56 : Value) (u57 : Value) (u58 : Value) (u59 : Value) (u60 : Value) (u61 : Value) (u62 : Value) (u63 : Value) (kA : ClassId) (h0 : Heap) (n0 : Nat) (v : Option Value) (h : Heap) (L : List Loc) : Prop := Fr n0 L ∧ v = none ∧ h = h0
set_option maxRecDepth 65536 in
set_option maxHeartbeats 40000000 in
theorem rmrm0_8 (l : Launch) (Z : State) (a0 : Array Value) (hw : ∀ d ∈ tables_1, d.before a0 Z = true) (ws : List Jvm.Cond) (o0 : Addr) (w1_buf : Addr) (u0 : Value) (u1 : Value) (u2 : Value) (u3 : Value) (u4 : Value) (u5 : Value) (u6 : Value) (u7 : Value) (u8 : Value) (u9 : Value) (u10 : Value) (u11 : Value) (u12 : Value) (u13 : Value) (u14 : Value) (u15 : Value) (u16 : Value) (u17 : Value) (u18 : Value) (u19 : Value) (u20 : Value) (u21 : Value) (u22 : Value) (u23 : Value) (u24 : Value) (u25 : Value) (u26 : Value) (u27 : Value) (u28 : Value) (u29 : Value) (u30 : Value) (u31 : Value) (u32 : Value) (u33 : Value) (u34 : Value) (u35 : Value) (u36 : Value) (u37 : Value) (u38 : Value) (u39 : Value) (u40 : Value) (u41 : Value) (u42 : Value) (u43 : Value) (u44 : Value) (u45 : Value) (u46 : Value) (u47 : Value) (u48 : Value) (u49 : Value) (u50 : Value) (u51 : Value) (u52 : Value) (u53 : Value) (u54 : Value) (u55 : Value) (u56 : Value) (u57 : Value) (u58 : Value) (u59 : Value) (u60 : Value) (u61 : Value) (u62 : Value) (u63 : Value) (kA : ClassId) (h0 : Heap) (n0 : Nat) (Z0 : n0 ≤ h0.size) (E_o0 : Exa Z h0 o0 "com/example/dispatch_by_catalog/dispatchbycatalog/store/RecordWriter") (F_size_o0 : Fld Z h0 o0 "com/example/dispatch_by_catalog/dispatchbycatalog/store/RecordWriter" "size" "I" (.int (0 : Int32))) (F_written_o0 : Fld Z h0 o0 "com/example/dispatch_by_catalog/dispatchbycatalog/store/RecordWriter" "written" "[B" (.ref w1_buf)) (V_w1_buf : Arv Z h0 w1_buf kA .byte (64 : Int32) [u0, u1, u2, u3, u4, u5, u6, u7, u8, u9, u10, u11, u12, u13, u14, u15, u16, u17, u18, u19, u20, u21, u22, u23, u24, u25, u26, u27, u28, u29, u30, u31, u32, u33, u34, u35, u36, u37, u38, u39, u40, u41, u42, u43, u44, u45, u46, u47, u48, u49, u50, u51, u52, u53, u54, u55, u56, u57, u58, u59, u60, u61, u62, u63] (.int (0 : Int32))) :
    MetFree l (⟨"com/example/dispatch_by_catalog/dispatchbycatalog/store/RecordWriter", "room", "(I)V"⟩ : MethodName) (head1 (Jvm.Cond.code (⟨"com/example/dispatch_by_catalog/dispatchbycatalog/store/RecordWriter", "room", "(I)V"⟩ : MethodName) prog_35_method_8_code 2 none :: ws) ({ frames := 0, cells := 0, slots := 0, locals := 0 } : Room)) (fun a U => a = #[(.ref o0), (.int (8 : Int32))] ∧ Z.Warmed39 U.vm ∧ U.heap = h0) (fun _ _ _ _ _ => True) (fun _ U o U' => ∃ v L, o = .returned v ∧ Qrm0_8 Z o0 w1_buf u0 u1 u2 u3 u4 u5 u6 u7 u8 u9 u10 u11 u12 u13 u14 u15 u16 u17 u18 u19 u20 u21 u22 u23 u24 u25 u26 u27 u28 u29 u30 u31 u32 u33 u34 u35 u36 u37 u38 u39 u40 u41 u42 u43 u44 u45 u46 u47 u48 u49 u50 u51 u52 u53 u54 u55 u56 u57 u58 u59 u60 u61 u62 u63 kA h0 n0 v U'.heap L ∧ FrameEnd U o U' L ({ frames := 0, cells := 0, slots := 0, locals := 0 } : Room).cells ({ frames := 0, cells := 0, slots := 0, locals := 0 } : Room).slots) := by
  refine MetFree.of_bodySF (plainFor_of_name pn_com_example_dispatch_by_catalog_dispatchbycatalog_store_RecordWriter) hisR ?_
  intro p e s m args below meth c s₁ Bd hml0 hP hK
  obtain ⟨rfl, hZ, hh⟩ := hP
  have hx := Bd.exec
  have hby := Bd.bytes
  have hml : c.maxLocals = 2 := hml0
  have hown : s.vm.findClass "com/example/dispatch_by_catalog/dispatchbycatalog/store/RecordWriter" = some m.cls := findClass_of_methodNamed Bd.named
  have hnm := (name_of_methodNamed Bd.named Bd.method).1
  have hlk := BodyLoose.notSynchronized Bd
  have X0 : Stand p l e ({ frames := 0, cells := 0, slots := 0, locals := 0 } : Room) s m #[(.ref o0), (.int (8 : Int32))] below meth c s₁ [] 0 0 := Stand.of_body Bd
  have e0 : s₁.heap = h0 := by rw [← hh, Bd.state]; rfl
  have N0 := Fr.nil n0
  have pre0 : ∀ t, Steps p.tables e below (s₁.setTop (mkF m 0 #[.val (.ref o0), .val (.int (8 : Int32))] [])) t → Steps p.tables e below (s₁.setTop (entryFrame m #[(.ref o0), (.int (8 : Int32))] 2)) t := fun t k => castTop (ef_rm0_8 m o0) k
  obtain ⟨T1, X1, e1, st1⟩ := getF X0 hx hZ hown (host := "") (Or.inl (hw _ (List.mem_of_getElem? (i := 10) rfl))) Via.refl e0 F_written_o0 (g := (mkF m 1 #[.val (.ref o0), .val (.int (8 : Int32))] [(.ref o0)])) rfl rfl (hb hby d7_1)
  obtain ⟨cl2, Ar2, qc2, S2, M2, Ha2, G2⟩ := id V_w1_buf
  obtain ⟨T3, X3, e3, st3⟩ := getF X1 hx hZ hown (host := "") (Or.inl (hw _ (List.mem_of_getElem? (i := 17) rfl))) Via.refl e1 F_size_o0 (g := (mkF m 6 #[.val (.ref o0), .val (.int (8 : Int32))] [(.ref o0), (.int (64 : Int32))])) rfl rfl (hb hby d7_6)
  obtain ⟨fs, hr, hrun, hended, hW, hsame⟩ := X3.leave (v := none) (fun _ => rfl) hlk
  refine ⟨_, _, pre0 _ ?_, hrun, hended, _, _, rfl, ?_, ⟨_, rfl⟩, hW, hsame.mono (by decide) (by decide)⟩
  · skip
    show Steps p.tables e below (s₁.setTop (mkF m 0 #[.val (.ref o0), .val (.int (8 : Int32))] [])) _
    refine XS.aloadN X0.here hx rfl (hb hby d7_0) rfl rfl ?_
    show Steps p.tables e below (s₁.setTop (mkF m 1 #[.val (.ref o0), .val (.int (8 : Int32))] [(.ref o0)])) _
    refine st1 _ ?_
    show Steps p.tables e below (T1.setTop (mkF m 4 #[.val (.ref o0), .val (.int (8 : Int32))] [(.ref w1_buf)])) _
    refine X1.arraylength hx (by rw [e1]; exact Ar2.1) (State.isArrayOf_alike hZ.alike Ar2.2.1) (g := (mkF m 4 #[.val (.ref o0), .val (.int (8 : Int32))] [(.ref w1_buf)])) rfl rfl (hb hby d7_4) _ ?_
    rw [len_of S2 M2]
    show Steps p.tables e below (T1.setTop (mkF m 5 #[.val (.ref o0), .val (.int (8 : Int32))] [(.int (64 : Int32))])) _
    refine XS.aloadN X1.here hx rfl (hb hby d7_5) rfl rfl ?_
    show Steps p.tables e below (T1.setTop (mkF m 6 #[.val (.ref o0), .val (.int (8 : Int32))] [(.ref o0), (.int (64 : Int32))])) _
    refine st3 _ ?_
    show Steps p.tables e below (T3.setTop (mkF m 9 #[.val (.ref o0), .val (.int (8 : Int32))] [(.int (0 : Int32)), (.int (64 : Int32))])) _
    refine XS.isub X3.here hx rfl (hb hby d7_9) rfl ?_
    show Steps p.tables e below (T3.setTop (mkF m 10 #[.val (.ref o0), .val (.int (8 : Int32))] [(.int (64 : Int32))])) _
    refine XS.iloadN X3.here hx rfl (hb hby d7_10) rfl ?_
    show Steps p.tables e below (T3.setTop (mkF m 11 #[.val (.ref o0), .val (.int (8 : Int32))] [(.int (8 : Int32)), (.int (64 : Int32))])) _
    refine XS.icmpYes X3.here hx rfl (pc0 := 11) (pc' := 41) rfl (hb hby d7_11) rfl (XT.ii_ge_t (by decide)) (by decide) (by decide) ?_
    show Steps p.tables e below (T3.setTop (mkF m 41 #[.val (.ref o0), .val (.int (8 : Int32))] [])) _
    exact X3.returnOut hx Bd.returns (hb hby d7_41) hr
  · skip
    show Qrm0_8 Z o0 w1_buf u0 u1 u2 u3 u4 u5 u6 u7 u8 u9 u10 u11 u12 u13 u14 u15 u16 u17 u18 u19 u20 u21 u22 u23 u24 u25 u26 u27 u28 u29 u30 u31 u32 u33 u34 u35 u36 u37 u38 u39 u40 u41 u42 u43 u44 u45 u46 u47 u48 u49 u50 u51 u52 u53 u54 u55 u56 u57 u58 u59 u60 u61 u62 u63 kA h0 n0 _ T3.heap _
    rw [e3]
    exact ⟨N0, rfl, rfl⟩
theorem ef_rm8_1 (m : MethodId) (o0 : Addr) : entryFrame m #[(.ref o0), (.int (1 : Int32))] 2 = mkF m 0 #[.val (.ref o0), .val (.int (1 : Int32))] [] := by first | (simp [entryFrame, mkF, argsToLocals, Value.category]; done) | rfl
def Qrm8_1 (Z : State) (o0 : Addr) (w1_buf : Addr) (u0 : Value) (u1 : Value) (u2 : Value) (u3 : Value) (u4 : Value) (u5 : Value) (u6 : Value) (u7 : Value) (u8 : Value) (u9 : Value) (u10 : Value) (u11 : Value) (u12 : Value) (u13 : Value) (u14 : Value) (u15 : Value) (u16 : Value) (u17 : Value) (u18 : Value) (u19 : Value) (u20 : Value) (u21 : Value) (u22 : Value) (u23 : Value) (u24 : Value) (u25 : Value) (u26 : Value) (u27 : Value) (u28 : Value) (u29 : Value) (u30 : Value) (u31 : Value) (u32 : Value) (u33 : Value) (u34 : Value) (u35 : Value) (u36 : Value) (u37 : Value) (u38 : Value) (u39 : Value) (u40 : Value) (u41 : Value) (u42 : Value) (u43 : Value) (u44 : Value) (u45 : Value) (u46 : Value) (u47 : Value) (u48 : Value) (u49 : Value) (u50 : Value) (u51 : Value) (u52 : Value) (u53 : Value) (u54 : Value) (u55 : Value) (u56 : Value) (u57 : Value) (u58 : Value) (u59 : Value) (u60 : Value) (u61 : Value) (u62 : Value) (u63 : Value) (kA : ClassId) (h0 : Heap) (n0 : Nat) (v : Option Value) (h : Heap) (L : List Loc) : Prop := Fr n0 L ∧ v = none ∧ h = h0
set_option maxRecDepth 65536 in
set_option maxHeartbeats 40000000 in
theorem rmrm8_1 (l : Launch) (Z : State) (a0 : Array Value) (hw : ∀ d ∈ tables_1, d.before a0 Z = true) (ws : List Jvm.Cond) (o0 : Addr) (w1_buf : Addr) (u0 : Value) (u1 : Value) (u2 : Value) (u3 : Value) (u4 : Value) (u5 : Value) (u6 : Value) (u7 : Value) (u8 : Value) (u9 : Value) (u10 : Value) (u11 : Value) (u12 : Value) (u13 : Value) (u14 : Value) (u15 : Value) (u16 : Value) (u17 : Value) (u18 : Value) (u19 : Value) (u20 : Value) (u21 : Value) (u22 : Value) (u23 : Value) (u24 : Value) (u25 : Value) (u26 : Value) (u27 : Value) (u28 : Value) (u29 : Value) (u30 : Value) (u31 : Value) (u32 : Value) (u33 : Value) (u34 : Value) (u35 : Value) (u36 : Value) (u37 : Value) (u38 : Value) (u39 : Value) (u40 : Value) (u41 : Value) (u42 : Value) (u43 : Value) (u44 : Value) (u45 : Value) (u46 : Value) (u47 : Value) (u48 : Value) (u49 : Value) (u50 : Value) (u51 : Value) (u52 : Value) (u53 : Value) (u54 : Value) (u55 : Value) (u56 : Value) (u57 : Value) (u58 : Value) (u59 : Value) (u60 : Value) (u61 : Value) (u62 : Value) (u63 : Value) (kA : ClassId) (h0 : Heap) (n0 : Nat) (Z0 : n0 ≤ h0.size) (E_o0 : Exa Z h0 o0 "com/example/dispatch_by_catalog/dispatchbycatalog/store/RecordWriter") (F_size_o0 : Fld Z h0 o0 "com/example/dispatch_by_catalog/dispatchbycatalog/store/RecordWriter" "size" "I" (.int (8 : Int32))) (F_written_o0 : Fld Z h0 o0 "com/example/dispatch_by_catalog/dispatchbycatalog/store/RecordWriter" "written" "[B" (.ref w1_buf)) (V_w1_buf : Arv Z h0 w1_buf kA .byte (64 : Int32) [u0, u1, u2, u3, u4, u5, u6, u7, u8, u9, u10, u11, u12, u13, u14, u15, u16, u17, u18, u19, u20, u21, u22, u23, u24, u25, u26, u27, u28, u29, u30, u31, u32, u33, u34, u35, u36, u37, u38, u39, u40, u41, u42, u43, u44, u45, u46, u47, u48, u49, u50, u51, u52, u53, u54, u55, u56, u57, u58, u59, u60, u61, u62, u63] (.int (0 : Int32))) :
    MetFree l (⟨"com/example/dispatch_by_catalog/dispatchbycatalog/store/RecordWriter", "room", "(I)V"⟩ : MethodName) (head1 (Jvm.Cond.code (⟨"com/example/dispatch_by_catalog/dispatchbycatalog/store/RecordWriter", "room", "(I)V"⟩ : MethodName) prog_35_method_8_code 2 none :: ws) ({ frames := 0, cells := 0, slots := 0, locals := 0 } : Room)) (fun a U => a = #[(.ref o0), (.int (1 : Int32))] ∧ Z.Warmed39 U.vm ∧ U.heap = h0) (fun _ _ _ _ _ => True) (fun _ U o U' => ∃ v L, o = .returned v ∧ Qrm8_1 Z o0 w1_buf u0 u1 u2 u3 u4 u5 u6 u7 u8 u9 u10 u11 u12 u13 u14 u15 u16 u17 u18 u19 u20 u21 u22 u23 u24 u25 u26 u27 u28 u29 u30 u31 u32 u33 u34 u35 u36 u37 u38 u39 u40 u41 u42 u43 u44 u45 u46 u47 u48 u49 u50 u51 u52 u53 u54 u55 u56 u57 u58 u59 u60 u61 u62 u63 kA h0 n0 v U'.heap L ∧ FrameEnd U o U' L ({ frames := 0, cells := 0, slots := 0, locals := 0 } : Room).cells ({ frames := 0, cells := 0, slots := 0, locals := 0 } : Room).slots) := by
  refine MetFree.of_bodySF (plainFor_of_name pn_com_example_dispatch_by_catalog_dispatchbycatalog_store_RecordWriter) hisR ?_
  intro p e s m args below meth c s₁ Bd hml0 hP hK
  obtain ⟨rfl, hZ, hh⟩ := hP
  have hx := Bd.exec
  have hby := Bd.bytes
  have hml : c.maxLocals = 2 := hml0
  have hown : s.vm.findClass "com/example/dispatch_by_catalog/dispatchbycatalog/store/RecordWriter" = some m.cls := findClass_of_methodNamed Bd.named
  have hnm := (name_of_methodNamed Bd.named Bd.method).1
  have hlk := BodyLoose.notSynchronized Bd
  have X0 : Stand p l e ({ frames := 0, cells := 0, slots := 0, locals := 0 } : Room) s m #[(.ref o0), (.int (1 : Int32))] below meth c s₁ [] 0 0 := Stand.of_body Bd
  have e0 : s₁.heap = h0 := by rw [← hh, Bd.state]; rfl
  have N0 := Fr.nil n0
  have pre0 : ∀ t, Steps p.tables e below (s₁.setTop (mkF m 0 #[.val (.ref o0), .val (.int (1 : Int32))] [])) t → Steps p.tables e below (s₁.setTop (entryFrame m #[(.ref o0), (.int (1 : Int32))] 2)) t := fun t k => castTop (ef_rm8_1 m o0) k
  obtain ⟨T1, X1, e1, st1⟩ := getF X0 hx hZ hown (host := "") (Or.inl (hw _ (List.mem_of_getElem? (i := 10) rfl))) Via.refl e0 F_written_o0 (g := (mkF m 1 #[.val (.ref o0), .val (.int (1 : Int32))] [(.ref o0)])) rfl rfl (hb hby d7_1)
  obtain ⟨cl2, Ar2, qc2, S2, M2, Ha2, G2⟩ := id V_w1_buf
  obtain ⟨T3, X3, e3, st3⟩ := getF X1 hx hZ hown (host := "") (Or.inl (hw _ (List.mem_of_getElem? (i := 17) rfl))) Via.refl e1 F_size_o0 (g := (mkF m 6 #[.val (.ref o0), .val (.int (1 : Int32))] [(.ref o0), (.int (64 : Int32))])) rfl rfl (hb hby d7_6)
  obtain ⟨fs, hr, hrun, hended, hW, hsame⟩ := X3.leave (v := none) (fun _ => rfl) hlk
  refine ⟨_, _, pre0 _ ?_, hrun, hended, _, _, rfl, ?_, ⟨_, rfl⟩, hW, hsame.mono (by decide) (by decide)⟩
  · skip
    show Steps p.tables e below (s₁.setTop (mkF m 0 #[.val (.ref o0), .val (.int (1 : Int32))] [])) _
    refine XS.aloadN X0.here hx rfl (hb hby d7_0) rfl rfl ?_
    show Steps p.tables e below (s₁.setTop (mkF m 1 #[.val (.ref o0), .val (.int (1 : Int32))] [(.ref o0)])) _
    refine st1 _ ?_
    show Steps p.tables e below (T1.setTop (mkF m 4 #[.val (.ref o0), .val (.int (1 : Int32))] [(.ref w1_buf)])) _
    refine X1.arraylength hx (by rw [e1]; exact Ar2.1) (State.isArrayOf_alike hZ.alike Ar2.2.1) (g := (mkF m 4 #[.val (.ref o0), .val (.int (1 : Int32))] [(.ref w1_buf)])) rfl rfl (hb hby d7_4) _ ?_
    rw [len_of S2 M2]
    show Steps p.tables e below (T1.setTop (mkF m 5 #[.val (.ref o0), .val (.int (1 : Int32))] [(.int (64 : Int32))])) _
    refine XS.aloadN X1.here hx rfl (hb hby d7_5) rfl rfl ?_
    show Steps p.tables e below (T1.setTop (mkF m 6 #[.val (.ref o0), .val (.int (1 : Int32))] [(.ref o0), (.int (64 : Int32))])) _
    refine st3 _ ?_
    show Steps p.tables e below (T3.setTop (mkF m 9 #[.val (.ref o0), .val (.int (1 : Int32))] [(.int (8 : Int32)), (.int (64 : Int32))])) _
    refine XS.isub X3.here hx rfl (hb hby d7_9) rfl ?_
    show Steps p.tables e below (T3.setTop (mkF m 10 #[.val (.ref o0), .val (.int (1 : Int32))] [(.int (56 : Int32))])) _
    refine XS.iloadN X3.here hx rfl (hb hby d7_10) rfl ?_
    show Steps p.tables e below (T3.setTop (mkF m 11 #[.val (.ref o0), .val (.int (1 : Int32))] [(.int (1 : Int32)), (.int (56 : Int32))])) _
    refine XS.icmpYes X3.here hx rfl (pc0 := 11) (pc' := 41) rfl (hb hby d7_11) rfl (XT.ii_ge_t (by decide)) (by decide) (by decide) ?_
    show Steps p.tables e below (T3.setTop (mkF m 41 #[.val (.ref o0), .val (.int (1 : Int32))] [])) _
    exact X3.returnOut hx Bd.returns (hb hby d7_41) hr
  · skip
    show Qrm8_1 Z o0 w1_buf u0 u1 u2 u3 u4 u5 u6 u7 u8 u9 u10 u11 u12 u13 u14 u15 u16 u17 u18 u19 u20 u21 u22 u23 u24 u25 u26 u27 u28 u29 u30 u31 u32 u33 u34 u35 u36 u37 u38 u39 u40 u41 u42 u43 u44 u45 u46 u47 u48 u49 u50 u51 u52 u53 u54 u55 u56 u57 u58 u59 u60 u61 u62 u63 kA h0 n0 _ T3.heap _
    rw [e3]
    exact ⟨N0, rfl, rfl⟩
theorem ef_rm9_8 (m : MethodId) (o0 : Addr) : entryFrame m #[(.ref o0), (.int (8 : Int32))] 2 = mkF m 0 #[.val (.ref o0), .val (.int (8 : Int32))] [] := by first | (simp [entryFrame, mkF, argsToLocals, Value.category]; done) | rfl
def Qrm9_8 (Z : State) (o0 : Addr) (w1_buf : Addr) (u0 : Value) (u1 : Value) (u2 : Value) (u3 : Value) (u4 : Value) (u5 : Value) (u6 : Value) (u7 : Value) (u8 : Value) (u9 : Value) (u10 : Value) (u11 : Value) (u12 : Value) (u13 : Value) (u14 : Value) (u15 : Value) (u16 : Value) (u17 : Value) (u18 : Value) (u19 : Value) (u20 : Value) (u21 : Value) (u22 : Value) (u23 : Value) (u24 : Value) (u25 : Value) (u26 : Value) (u27 : Value) (u28 : Value) (u29 : Value) (u30 : Value) (u31 : Value) (u32 : Value) (u33 : Value) (u34 : Value) (u35 : Value) (u36 : Value) (u37 : Value) (u38 : Value) (u39 : Value) (u40 : Value) (u41 : Value) (u42 : Value) (u43 : Value) (u44 : Value) (u45 : Value) (u46 : Value) (u47 : Value) (u48 : Value) (u49 : Value) (u50 : Value) (u51 : Value) (u52 : Value) (u53 : Value) (u54 : Value) (u55 : Value) (u56 : Value) (u57 : Value) (u58 : Value) (u59 : Value) (u60 : Value) (u61 : Value) (u62 : Value) (u63 : Value) (kA : ClassId) (h0 : Heap) (n0 : Nat) (v : Option Value) (h : Heap) (L : List Loc) : Prop := Fr n0 L ∧ v = none ∧ h = h0
set_option maxRecDepth 65536 in
set_option maxHeartbeats 40000000 in
theorem rmrm9_8 (l : Launch) (Z : State) (a0 : Array Value) (hw : ∀ d ∈ tables_1, d.before a0 Z = true) (ws : List Jvm.Cond) (o0 : Addr) (w1_buf : Addr) (u0 : Value) (u1 : Value) (u2 : Value) (u3 : Value) (u4 : Value) (u5 : Value) (u6 : Value) (u7 : Value) (u8 : Value) (u9 : Value) (u10 : Value) (u11 : Value) (u12 : Value) (u13 : Value) (u14 : Value) (u15 : Value) (u16 : Value) (u17 : Value) (u18 : Value) (u19 : Value) (u20 : Value) (u21 : Value) (u22 : Value) (u23 : Value) (u24 : Value) (u25 : Value) (u26 : Value) (u27 : Value) (u28 : Value) (u29 : Value) (u30 : Value) (u31 : Value) (u32 : Value) (u33 : Value) (u34 : Value) (u35 : Value) (u36 : Value) (u37 : Value) (u38 : Value) (u39 : Value) (u40 : Value) (u41 : Value) (u42 : Value) (u43 : Value) (u44 : Value) (u45 : Value) (u46 : Value) (u47 : Value) (u48 : Value) (u49 : Value) (u50 : Value) (u51 : Value) (u52 : Value) (u53 : Value) (u54 : Value) (u55 : Value) (u56 : Value) (u57 : Value) (u58 : Value) (u59 : Value) (u60 : Value) (u61 : Value) (u62 : Value) (u63 : Value) (kA : ClassId) (h0 : Heap) (n0 : Nat) (Z0 : n0 ≤ h0.size) (E_o0 : Exa Z h0 o0 "com/example/dispatch_by_catalog/dispatchbycatalog/store/RecordWriter") (F_size_o0 : Fld Z h0 o0 "com/example/dispatch_by_catalog/dispatchbycatalog/store/RecordWriter" "size" "I" (.int (9 : Int32))) (F_written_o0 : Fld Z h0 o0 "com/example/dispatch_by_catalog/dispatchbycatalog/store/RecordWriter" "written" "[B" (.ref w1_buf)) (V_w1_buf : Arv Z h0 w1_buf kA .byte (64 : Int32) [u0, u1, u2, u3, u4, u5, u6, u7, u8, u9, u10, u11, u12, u13, u14, u15, u16, u17, u18, u19, u20, u21, u22, u23, u24, u25, u26, u27, u28, u29, u30, u31, u32, u33, u34, u35, u36, u37, u38, u39, u40, u41, u42, u43, u44, u45, u46, u47, u48, u49, u50, u51, u52, u53, u54, u55, u56, u57, u58, u59, u60, u61, u62, u63] (.int (0 : Int32))) :
    MetFree l (⟨"com/example/dispatch_by_catalog/dispatchbycatalog/store/RecordWriter", "room", "(I)V"⟩ : MethodName) (head1 (Jvm.Cond.code (⟨"com/example/dispatch_by_catalog/dispatchbycatalog/store/RecordWriter", "room", "(I)V"⟩ : MethodName) prog_35_method_8_code 2 none :: ws) ({ frames := 0, cells := 0, slots := 0, locals := 0 } : Room)) (fun a U => a = #[(.ref o0), (.int (8 : Int32))] ∧ Z.Warmed39 U.vm ∧ U.heap = h0) (fun _ _ _ _ _ => True) (fun _ U o U' => ∃ v L, o = .returned v ∧ Qrm9_8 Z o0 w1_buf u0 u1 u2 u3 u4 u5 u6 u7 u8 u9 u10 u11 u12 u13 u14 u15 u16 u17 u18 u19 u20 u21 u22 u23 u24 u25 u26 u27 u28 u29 u30 u31 u32 u33 u34 u35 u36 u37 u38 u39 u40 u41 u42 u43 u44 u45 u46 u47 u48 u49 u50 u51 u52 u53 u54 u55 u56 u57 u58 u59 u60 u61 u62 u63 kA h0 n0 v U'.heap L ∧ FrameEnd U o U' L ({ frames := 0, cells := 0, slots := 0, locals := 0 } : Room).cells ({ frames := 0, cells := 0, slots := 0, locals := 0 } : Room).slots) := by
  refine MetFree.of_bodySF (plainFor_of_name pn_com_example_dispatch_by_catalog_dispatchbycatalog_store_RecordWriter) hisR ?_
  intro p e s m args below meth c s₁ Bd hml0 hP hK
  obtain ⟨rfl, hZ, hh⟩ := hP
  have hx := Bd.exec
  have hby := Bd.bytes
  have hml : c.maxLocals = 2 := hml0
  have hown : s.vm.findClass "com/example/dispatch_by_catalog/dispatchbycatalog/store/RecordWriter" = some m.cls := findClass_of_methodNamed Bd.named
  have hnm := (name_of_methodNamed Bd.named Bd.method).1
  have hlk := BodyLoose.notSynchronized Bd
  have X0 : Stand p l e ({ frames := 0, cells := 0, slots := 0, locals := 0 } : Room) s m #[(.ref o0), (.int (8 : Int32))] below meth c s₁ [] 0 0 := Stand.of_body Bd
  have e0 : s₁.heap = h0 := by rw [← hh, Bd.state]; rfl
  have N0 := Fr.nil n0
  have pre0 : ∀ t, Steps p.tables e below (s₁.setTop (mkF m 0 #[.val (.ref o0), .val (.int (8 : Int32))] [])) t → Steps p.tables e below (s₁.setTop (entryFrame m #[(.ref o0), (.int (8 : Int32))] 2)) t := fun t k => castTop (ef_rm9_8 m o0) k
  obtain ⟨T1, X1, e1, st1⟩ := getF X0 hx hZ hown (host := "") (Or.inl (hw _ (List.mem_of_getElem? (i := 10) rfl))) Via.refl e0 F_written_o0 (g := (mkF m 1 #[.val (.ref o0), .val (.int (8 : Int32))] [(.ref o0)])) rfl rfl (hb hby d7_1)
  obtain ⟨cl2, Ar2, qc2, S2, M2, Ha2, G2⟩ := id V_w1_buf
  obtain ⟨T3, X3, e3, st3⟩ := getF X1 hx hZ hown (host := "") (Or.inl (hw _ (List.mem_of_getElem? (i := 17) rfl))) Via.refl e1 F_size_o0 (g := (mkF m 6 #[.val (.ref o0), .val (.int (8 : Int32))] [(.ref o0), (.int (64 : Int32))])) rfl rfl (hb hby d7_6)
  obtain ⟨fs, hr, hrun, hended, hW, hsame⟩ := X3.leave (v := none) (fun _ => rfl) hlk
  refine ⟨_, _, pre0 _ ?_, hrun, hended, _, _, rfl, ?_, ⟨_, rfl⟩, hW, hsame.mono (by decide) (by decide)⟩
  · skip
    show Steps p.tables e below (s₁.setTop (mkF m 0 #[.val (.ref o0), .val (.int (8 : Int32))] [])) _
    refine XS.aloadN X0.here hx rfl (hb hby d7_0) rfl rfl ?_
    show Steps p.tables e below (s₁.setTop (mkF m 1 #[.val (.ref o0), .val (.int (8 : Int32))] [(.ref o0)])) _
    refine st1 _ ?_
    show Steps p.tables e below (T1.setTop (mkF m 4 #[.val (.ref o0), .val (.int (8 : Int32))] [(.ref w1_buf)])) _
    refine X1.arraylength hx (by rw [e1]; exact Ar2.1) (State.isArrayOf_alike hZ.alike Ar2.2.1) (g := (mkF m 4 #[.val (.ref o0), .val (.int (8 : Int32))] [(.ref w1_buf)])) rfl rfl (hb hby d7_4) _ ?_
    rw [len_of S2 M2]
    show Steps p.tables e below (T1.setTop (mkF m 5 #[.val (.ref o0), .val (.int (8 : Int32))] [(.int (64 : Int32))])) _
    refine XS.aloadN X1.here hx rfl (hb hby d7_5) rfl rfl ?_
    show Steps p.tables e below (T1.setTop (mkF m 6 #[.val (.ref o0), .val (.int (8 : Int32))] [(.ref o0), (.int (64 : Int32))])) _
    refine st3 _ ?_
    show Steps p.tables e below (T3.setTop (mkF m 9 #[.val (.ref o0), .val (.int (8 : Int32))] [(.int (9 : Int32)), (.int (64 : Int32))])) _
    refine XS.isub X3.here hx rfl (hb hby d7_9) rfl ?_
    show Steps p.tables e below (T3.setTop (mkF m 10 #[.val (.ref o0), .val (.int (8 : Int32))] [(.int (55 : Int32))])) _
    refine XS.iloadN X3.here hx rfl (hb hby d7_10) rfl ?_
    show Steps p.tables e below (T3.setTop (mkF m 11 #[.val (.ref o0), .val (.int (8 : Int32))] [(.int (8 : Int32)), (.int (55 : Int32))])) _
    refine XS.icmpYes X3.here hx rfl (pc0 := 11) (pc' := 41) rfl (hb hby d7_11) rfl (XT.ii_ge_t (by decide)) (by decide) (by decide) ?_
    show Steps p.tables e below (T3.setTop (mkF m 41 #[.val (.ref o0), .val (.int (8 : Int32))] [])) _
    exact X3.returnOut hx Bd.returns (hb hby d7_41) hr
  · skip
    show Qrm9_8 Z o0 w1_buf u0 u1 u2 u3 u4 u5 u6 u7 u8 u9 u10 u11 u12 u13 u14 u15 u16 u17 u18 u19 u20 u21 u22 u23 u24 u25 u26 u27 u28 u29 u30 u31 u32 u33 u34 u35 u36 u37 u38 u39 u40 u41 u42 u43 u44 u45 u46 u47 u48 u49 u50 u51 u52 u53 u54 u55 u56 u57 u58 u59 u60 u61 u62 u63 kA h0 n0 _ T3.heap _
    rw [e3]
    exact ⟨N0, rfl, rfl⟩
theorem ef_rm77_8 (m : MethodId) (o0 : Addr) : entryFrame m #[(.ref o0), (.int (8 : Int32))] 2 = mkF m 0 #[.val (.ref o0), .val (.int (8 : Int32))] [] := by first | (simp [entryFrame, mkF, argsToLocals, Value.category]; done) | rfl
def Qrm77_8 (Z : State) (o0 : Addr) (w1_buf : Addr) (u0 : Value) (u1 : Value) (u2 : Value) (u3 : Value) (u4 : Value) (u5 : Value) (u6 : Value) (u7 : Value) (u8 : Value) (u9 : Value) (u10 : Value) (u11 : Value) (u12 : Value) (u13 : Value) (u14 : Value) (u15 : Value) (u16 : Value) (u17 : Value) (u18 : Value) (u19 : Value) (u20 : Value) (u21 : Value) (u22 : Value) (u23 : Value) (u24 : Value) (u25 : Value) (u26 : Value) (u27 : Value) (u28 : Value) (u29 : Value) (u30 : Value) (u31 : Value) (u32 : Value) (u33 : Value) (u34 : Value) (u35 : Value) (u36 : Value) (u37 : Value) (u38 : Value) (u39 : Value) (u40 : Value) (u41 : Value) (u42 : Value) (u43 : Value) (u44 : Value) (u45 : Value) (u46 : Value) (u47 : Value) (u48 : Value) (u49 : Value) (u50 : Value) (u51 : Value) (u52 : Value) (u53 : Value) (u54 : Value) (u55 : Value) (u56 : Value) (u57 : Value) (u58 : Value) (u59 : Value) (u60 : Value) (u61 : Value) (u62 : Value) (u63 : Value) (u64 : Value) (u65 : Value) (u66 : Value) (u67 : Value) (u68 : Value) (u69 : Value) (u70 : Value) (u71 : Value) (u72 : Value) (u73 : Value) (u74 : Value) (u75 : Value) (u76 : Value) (u77 : Value) (u78 : Value) (u79 : Value) (u80 : Value) (u81 : Value) (u82 : Value) (u83 : Value) (u84 : Value) (u85 : Value) (u86 : Value) (u87 : Value) (u88 : Value) (u89 : Value) (u90 : Value) (u91 : Value) (u92 : Value) (u93 : Value) (u94 : Value) (u95 : Value) (u96 : Value) (u97 : Value) (u98 : Value) (u99 : Value) (u100 : Value) (u101 : Value) (u102 : Value) (u103 : Value) (u104 : Value) (u105 : Value) (u106 : Value) (u107 : Value) (u108 : Value) (u109 : Value) (u110 : Value) (u111 : Value) (u112 : Value) (u113 : Value) (u114 : Value) (u115 : Value) (u116 : Value) (u117 : Value) (u118 : Value) (u119 : Value) (u120 : Value) (u121 : Value) (u122 : Value) (u123 : Value) (u124 : Value) (u125 : Value) (u126 : Value) (u127 : Value) (kA : ClassId) (h0 : Heap) (n0 : Nat) (v : Option Value) (h : Heap) (L : List Loc) : Prop := Fr n0 L ∧ v = none ∧ h = h0
set_option maxRecDepth 65536 in
set_option maxHeartbeats 40000000 in
theorem rmrm77_8 (l : Launch) (Z : State) (a0 : Array Value) (hw : ∀ d ∈ tables_1, d.before a0 Z = true) (ws : List Jvm.Cond) (o0 : Addr) (w1_buf : Addr) (u0 : Value) (u1 : Value) (u2 : Value) (u3 : Value) (u4 : Value) (u5 : Value) (u6 : Value) (u7 : Value) (u8 : Value) (u9 : Value) (u10 : Value) (u11 : Value) (u12 : Value) (u13 : Value) (u14 : Value) (u15 : Value) (u16 : Value) (u17 : Value) (u18 : Value) (u19 : Value) (u20 : Value) (u21 : Value) (u22 : Value) (u23 : Value) (u24 : Value) (u25 : Value) (u26 : Value) (u27 : Value) (u28 : Value) (u29 : Value) (u30 : Value) (u31 : Value) (u32 : Value) (u33 : Value) (u34 : Value) (u35 : Value) (u36 : Value) (u37 : Value) (u38 : Value) (u39 : Value) (u40 : Value) (u41 : Value) (u42 : Value) (u43 : Value) (u44 : Value) (u45 : Value) (u46 : Value) (u47 : Value) (u48 : Value) (u49 : Value) (u50 : Value) (u51 : Value) (u52 : Value) (u53 : Value) (u54 : Value) (u55 : Value) (u56 : Value) (u57 : Value) (u58 : Value) (u59 : Value) (u60 : Value) (u61 : Value) (u62 : Value) (u63 : Value) (u64 : Value) (u65 : Value) (u66 : Value) (u67 : Value) (u68 : Value) (u69 : Value) (u70 : Value) (u71 : Value) (u72 : Value) (u73 : Value) (u74 : Value) (u75 : Value) (u76 : Value) (u77 : Value) (u78 : Value) (u79 : Value) (u80 : Value) (u81 : Value) (u82 : Value) (u83 : Value) (u84 : Value) (u85 : Value) (u86 : Value) (u87 : Value) (u88 : Value) (u89 : Value) (u90 : Value) (u91 : Value) (u92 : Value) (u93 : Value) (u94 : Value) (u95 : Value) (u96 : Value) (u97 : Value) (u98 : Value) (u99 : Value) (u100 : Value) (u101 : Value) (u102 : Value) (u103 : Value) (u104 : Value) (u105 : Value) (u106 : Value) (u107 : Value) (u108 : Value) (u109 : Value) (u110 : Value) (u111 : Value) (u112 : Value) (u113 : Value) (u114 : Value) (u115 : Value) (u116 : Value) (u117 : Value) (u118 : Value) (u119 : Value) (u120 : Value) (u121 : Value) (u122 : Value) (u123 : Value) (u124 : Value) (u125 : Value) (u126 : Value) (u127 : Value) (kA : ClassId) (h0 : Heap) (n0 : Nat) (Z0 : n0 ≤ h0.size) (E_o0 : Exa Z h0 o0 "com/example/dispatch_by_catalog/dispatchbycatalog/store/RecordWriter") (F_size_o0 : Fld Z h0 o0 "com/example/dispatch_by_catalog/dispatchbycatalog/store/RecordWriter" "size" "I" (.int (77 : Int32))) (F_written_o0 : Fld Z h0 o0 "com/example/dispatch_by_catalog/dispatchbycatalog/store/RecordWriter" "written" "[B" (.ref w1_buf)) (V_w1_buf : Arv Z h0 w1_buf kA .byte (128 : Int32) [u0, u1, u2, u3, u4, u5, u6, u7, u8, u9, u10, u11, u12, u13, u14, u15, u16, u17, u18, u19, u20, u21, u22, u23, u24, u25, u26, u27, u28, u29, u30, u31, u32, u33, u34, u35, u36, u37, u38, u39, u40, u41, u42, u43, u44, u45, u46, u47, u48, u49, u50, u51, u52, u53, u54, u55, u56, u57, u58, u59, u60, u61, u62, u63, u64, u65, u66, u67, u68, u69, u70, u71, u72, u73, u74, u75, u76, u77, u78, u79, u80, u81, u82, u83, u84, u85, u86, u87, u88, u89, u90, u91, u92, u93, u94, u95, u96, u97, u98, u99, u100, u101, u102, u103, u104, u105, u106, u107, u108, u109, u110, u111, u112, u113, u114, u115, u116, u117, u118, u119, u120, u121, u122, u123, u124, u125, u126, u127] (.int (0 : Int32))) :
    MetFree l (⟨"com/example/dispatch_by_catalog/dispatchbycatalog/store/RecordWriter", "room", "(I)V"⟩ : MethodName) (head1 (Jvm.Cond.code (⟨"com/example/dispatch_by_catalog/dispatchbycatalog/store/RecordWriter", "room", "(I)V"⟩ : MethodName) prog_35_method_8_code 2 none :: ws) ({ frames := 0, cells := 0, slots := 0, locals := 0 } : Room)) (fun a U => a = #[(.ref o0), (.int (8 : Int32))] ∧ Z.Warmed39 U.vm ∧ U.heap = h0) (fun _ _ _ _ _ => True) (fun _ U o U' => ∃ v L, o = .returned v ∧ Qrm77_8 Z o0 w1_buf u0 u1 u2 u3 u4 u5 u6 u7 u8 u9 u10 u11 u12 u13 u14 u15 u16 u17 u18 u19 u20 u21 u22 u23 u24 u25 u26 u27 u28 u29 u30 u31 u32 u33 u34 u35 u36 u37 u38 u39 u40 u41 u42 u43 u44 u45 u46 u47 u48 u49 u50 u51 u52 u53 u54 u55 u56 u57 u58 u59 u60 u61 u62 u63 u64 u65 u66 u67 u68 u69 u70 u71 u72 u73 u74 u75 u76 u77 u78 u79 u80 u81 u82 u83 u84 u85 u86 u87 u88 u89 u90 u91 u92 u93 u94 u95 u96 u97 u98 u99 u100 u101 u102 u103 u104 u105 u106 u107 u108 u109 u110 u111 u112 u113 u114 u115 u116 u117 u118 u119 u120 u121 u122 u123 u124 u125 u126 u127 kA h0 n0 v U'.heap L ∧ FrameEnd U o U' L ({ frames := 0, cells := 0, slots := 0, locals := 0 } : Room).cells ({ frames := 0, cells := 0, slots := 0, locals := 0 } : Room).slots) := by
  refine MetFree.of_bodySF (plainFor_of_name pn_com_example_dispatch_by_catalog_dispatchbycatalog_store_RecordWriter) hisR ?_
  intro p e s m args below meth c s₁ Bd hml0 hP hK
  obtain ⟨rfl, hZ, hh⟩ := hP
  have hx := Bd.exec
  have hby := Bd.bytes
  have hml : c.maxLocals = 2 := hml0
  have hown : s.vm.findClass "com/example/dispatch_by_catalog/dispatchbycatalog/store/RecordWriter" = some m.cls := findClass_of_methodNamed Bd.named
  have hnm := (name_of_methodNamed Bd.named Bd.method).1
  have hlk := BodyLoose.notSynchronized Bd
  have X0 : Stand p l e ({ frames := 0, cells := 0, slots := 0, locals := 0 } : Room) s m #[(.ref o0), (.int (8 : Int32))] below meth c s₁ [] 0 0 := Stand.of_body Bd
  have e0 : s₁.heap = h0 := by rw [← hh, Bd.state]; rfl
  have N0 := Fr.nil n0
  have pre0 : ∀ t, Steps p.tables e below (s₁.setTop (mkF m 0 #[.val (.ref o0), .val (.int (8 : Int32))] [])) t → Steps p.tables e below (s₁.setTop (entryFrame m #[(.ref o0), (.int (8 : Int32))] 2)) t := fun t k => castTop (ef_rm77_8 m o0) k
  obtain ⟨T1, X1, e1, st1⟩ := getF X0 hx hZ hown (host := "") (Or.inl (hw _ (List.mem_of_getElem? (i := 10) rfl))) Via.refl e0 F_written_o0 (g := (mkF m 1 #[.val (.ref o0), .val (.int (8 : Int32))] [(.ref o0)])) rfl rfl (hb hby d7_1)
  obtain ⟨cl2, Ar2, qc2, S2, M2, Ha2, G2⟩ := id V_w1_buf
  obtain ⟨T3, X3, e3, st3⟩ := getF X1 hx hZ hown (host := "") (Or.inl (hw _ (List.mem_of_getElem? (i := 17) rfl))) Via.refl e1 F_size_o0 (g := (mkF m 6 #[.val (.ref o0), .val (.int (8 : Int32))] [(.ref o0), (.int (128 : Int32))])) rfl rfl (hb hby d7_6)
  obtain ⟨fs, hr, hrun, hended, hW, hsame⟩ := X3.leave (v := none) (fun _ => rfl) hlk
  refine ⟨_, _, pre0 _ ?_, hrun, hended, _, _, rfl, ?_, ⟨_, rfl⟩, hW, hsame.mono (by decide) (by decide)⟩
  · skip
    show Steps p.tables e below (s₁.setTop (mkF m 0 #[.val (.ref o0), .val (.int (8 : Int32))] [])) _
    refine XS.aloadN X0.here hx rfl (hb hby d7_0) rfl rfl ?_
    show Steps p.tables e below (s₁.setTop (mkF m 1 #[.val (.ref o0), .val (.int (8 : Int32))] [(.ref o0)])) _
    refine st1 _ ?_
    show Steps p.tables e below (T1.setTop (mkF m 4 #[.val (.ref o0), .val (.int (8 : Int32))] [(.ref w1_buf)])) _
    refine X1.arraylength hx (by rw [e1]; exact Ar2.1) (State.isArrayOf_alike hZ.alike Ar2.2.1) (g := (mkF m 4 #[.val (.ref o0), .val (.int (8 : Int32))] [(.ref w1_buf)])) rfl rfl (hb hby d7_4) _ ?_
    rw [len_of S2 M2]
    show Steps p.tables e below (T1.setTop (mkF m 5 #[.val (.ref o0), .val (.int (8 : Int32))] [(.int (128 : Int32))])) _
    refine XS.aloadN X1.here hx rfl (hb hby d7_5) rfl rfl ?_
    show Steps p.tables e below (T1.setTop (mkF m 6 #[.val (.ref o0), .val (.int (8 : Int32))] [(.ref o0), (.int (128 : Int32))])) _
    refine st3 _ ?_
    show Steps p.tables e below (T3.setTop (mkF m 9 #[.val (.ref o0), .val (.int (8 : Int32))] [(.int (77 : Int32)), (.int (128 : Int32))])) _
    refine XS.isub X3.here hx rfl (hb hby d7_9) rfl ?_
    show Steps p.tables e below (T3.setTop (mkF m 10 #[.val (.ref o0), .val (.int (8 : Int32))] [(.int (51 : Int32))])) _
    refine XS.iloadN X3.here hx rfl (hb hby d7_10) rfl ?_
    show Steps p.tables e below (T3.setTop (mkF m 11 #[.val (.ref o0), .val (.int (8 : Int32))] [(.int (8 : Int32)), (.int (51 : Int32))])) _
    refine XS.icmpYes X3.here hx rfl (pc0 := 11) (pc' := 41) rfl (hb hby d7_11) rfl (XT.ii_ge_t (by decide)) (by decide) (by decide) ?_
    show Steps p.tables e below (T3.setTop (mkF m 41 #[.val (.ref o0), .val (.int (8 : Int32))] [])) _
    exact X3.returnOut hx Bd.returns (hb hby d7_41) hr
  · skip
    show Qrm77_8 Z o0 w1_buf u0 u1 u2 u3 u4 u5 u6 u7 u8 u9 u10 u11 u12 u13 u14 u15 u16 u17 u18 u19 u20 u21 u22 u23 u24 u25 u26 u27 u28 u29 u30 u31 u32 u33 u34 u35 u36 u37 u38 u39 u40 u41 u42 u43 u44 u45 u46 u47 u48 u49 u50 u51 u52 u53 u54 u55 u56 u57 u58 u59 u60 u61 u62 u63 u64 u65 u66 u67 u68 u69 u70 u71 u72 u73 u74 u75 u76 u77 u78 u79 u80 u81 u82 u83 u84 u85 u86 u87 u88 u89 u90 u91 u92 u93 u94 u95 u96 u97 u98 u99 u100 u101 u102 u103 u104 u105 u106 u107 u108 u109 u110 u111 u112 u113 u114 u115 u116 u117 u118 u119 u120 u121 u122 u123 u124 u125 u126 u127 kA h0 n0 _ T3.heap _
    rw [e3]
    exact ⟨N0, rfl, rfl⟩
theorem pd___BI__B : parseMethodDescriptor "([BI)[B" = some ⟨[(.array .byte), .int], some (.array .byte)⟩ := by decide +kernel
theorem d7_14 : decode prog_35_method_8_code 14 = .ok (.aload_n 0, 1) := by decide +kernel
theorem d7_15 : decode prog_35_method_8_code 15 = .ok (.aload_n 0, 1) := by decide +kernel
theorem d7_16 : decode prog_35_method_8_code 16 = .ok (.getfield 7, 3) := by decide +kernel
theorem d7_19 : decode prog_35_method_8_code 19 = .ok (.aload_n 0, 1) := by decide +kernel
theorem d7_20 : decode prog_35_method_8_code 20 = .ok (.getfield 7, 3) := by decide +kernel
theorem d7_23 : decode prog_35_method_8_code 23 = .ok (.arraylength, 1) := by decide +kernel
theorem d7_24 : decode prog_35_method_8_code 24 = .ok (.iconst 2, 1) := by decide +kernel
theorem d7_25 : decode prog_35_method_8_code 25 = .ok (.imul, 1) := by decide +kernel
theorem d7_26 : decode prog_35_method_8_code 26 = .ok (.aload_n 0, 1) := by decide +kernel
theorem d7_27 : decode prog_35_method_8_code 27 = .ok (.getfield 34, 3) := by decide +kernel
theorem d7_30 : decode prog_35_method_8_code 30 = .ok (.iload_n 1, 1) := by decide +kernel
theorem d7_31 : decode prog_35_method_8_code 31 = .ok (.iadd, 1) := by decide +kernel
theorem d7_32 : decode prog_35_method_8_code 32 = .ok (.invokestatic 66, 3) := by decide +kernel
theorem d7_35 : decode prog_35_method_8_code 35 = .ok (.invokestatic 60, 3) := by decide +kernel
theorem d7_38 : decode prog_35_method_8_code 38 = .ok (.putfield 7, 3) := by decide +kernel
theorem ef_rm17_60 (m : MethodId) (o0 : Addr) : entryFrame m #[(.ref o0), (.int (60 : Int32))] 2 = mkF m 0 #[.val (.ref o0), .val (.int (60 : Int32))] [] := by first | (simp [entryFrame, mkF, argsToLocals, Value.category]; done) | rfl
def Qrm17_60 (Z : State) (o0 : Addr) (w1_buf : Addr) (u0 : Value) (u1 : Value) (u2 : Value) (u3 : Value) (u4 : Value) (u5 : Value) (u6 : Value) (u7 : Value) (u8 : Value) (u9 : Value) (u10 : Value) (u11 : Value) (u12 : Value) (u13 : Value) (u14 : Value) (u15 : Value) (u16 : Value) (u17 : Value) (u18 : Value) (u19 : Value) (u20 : Value) (u21 : Value) (u22 : Value) (u23 : Value) (u24 : Value) (u25 : Value) (u26 : Value) (u27 : Value) (u28 : Value) (u29 : Value) (u30 : Value) (u31 : Value) (u32 : Value) (u33 : Value) (u34 : Value) (u35 : Value) (u36 : Value) (u37 : Value) (u38 : Value) (u39 : Value) (u40 : Value) (u41 : Value) (u42 : Value) (u43 : Value) (u44 : Value) (u45 : Value) (u46 : Value) (u47 : Value) (u48 : Value) (u49 : Value) (u50 : Value) (u51 : Value) (u52 : Value) (u53 : Value) (u54 : Value) (u55 : Value) (u56 : Value) (u57 : Value) (u58 : Value) (u59 : Value) (u60 : Value) (u61 : Value) (u62 : Value) (u63 : Value) (kA : ClassId) (h0 : Heap) (n0 : Nat) (v : Option Value) (h : Heap) (L : List Loc) : Prop := Fr n0 L ∧ ∃ (xrm17_60_0 : Addr) (krm17_60_1 : ClassId), v = none ∧ h0.size ≤ xrm17_60_0 ∧ Keep h0 h [o0] ∧ Exa Z h o0 "com/example/dispatch_by_catalog/dispatchbycatalog/store/RecordWriter" ∧ Fld Z h o0 "com/example/dispatch_by_catalog/dispatchbycatalog/store/RecordWriter" "size" "I" (.int (17 : Int32)) ∧ Fld Z h o0 "com/example/dispatch_by_catalog/dispatchbycatalog/store/RecordWriter" "written" "[B" (.ref xrm17_60_0) ∧ Arv Z h xrm17_60_0 krm17_60_1 .byte (128 : Int32) [u0, u1, u2, u3, u4, u5, u6, u7, u8, u9, u10, u11, u12, u13, u14, u15, u16, u17, u18, u19, u20, u21, u22, u23, u24, u25, u26, u27, u28, u29, u30, u31, u32, u33, u34, u35, u36, u37, u38, u39, u40, u41, u42, u43, u44, u45, u46, u47, u48, u49, u50, u51, u52, u53, u54, u55, u56, u57, u58, u59, u60, u61, u62, u63, (.int (0 : Int32)), (.int (0 : Int32)), (.int (0 : Int32)), (.int (0 : Int32)), (.int (0 : Int32)), (.int (0 : Int32)), (.int (0 : Int32)), (.int (0 : Int32)), (.int (0 : Int32)), (.int (0 : Int32)), (.int (0 : Int32)), (.int (0 : Int32)), (.int (0 : Int32)), (.int (0 : Int32)), (.int (0 : Int32)), (.int (0 : Int32)), (.int (0 : Int32)), (.int (0 : Int32)), (.int (0 : Int32)), (.int (0 : Int32)), (.int (0 : Int32)), (.int (0 : Int32)), (.int (0 : Int32)), (.int (0 : Int32)), (.int (0 : Int32)), (.int (0 : Int32)), (.int (0 : Int32)), (.int (0 : Int32)), (.int (0 : Int32)), (.int (0 : Int32)), (.int (0 : Int32)), (.int (0 : Int32)), (.int (0 : Int32)), (.int (0 : Int32)), (.int (0 : Int32)), (.int (0 : Int32)), (.int (0 : Int32)), (.int (0 : Int32)), (.int (0 : Int32)), (.int (0 : Int32)), (.int (0 : Int32)), (.int (0 : Int32)), (.int (0 : Int32)), (.int (0 : Int32)), (.int (0 : Int32)), (.int (0 : Int32)), (.int (0 : Int32)), (.int (0 : Int32)), (.int (0 : Int32)), (.int (0 : Int32)), (.int (0 : Int32)), (.int (0 : Int32)), (.int (0 : Int32)), (.int (0 : Int32)), (.int (0 : Int32)), (.int (0 : Int32)), (.int (0 : Int32)), (.int (0 : Int32)), (.int (0 : Int32)), (.int (0 : Int32)), (.int (0 : Int32)), (.int (0 : Int32)), (.int (0 : Int32)), (.int (0 : Int32))] (.int (0 : Int32))
set_option maxRecDepth 65536 in
set_option maxHeartbeats 40000000 in
theorem rmrm17_60 (l : Launch) (Z : State) (a0 : Array Value) (hw : ∀ d ∈ tables_1, d.before a0 Z = true) (ws : List Jvm.Cond) (o0 : Addr) (w1_buf : Addr) (u0 : Value) (u1 : Value) (u2 : Value) (u3 : Value) (u4 : Value) (u5 : Value) (u6 : Value) (u7 : Value) (u8 : Value) (u9 : Value) (u10 : Value) (u11 : Value) (u12 : Value) (u13 : Value) (u14 : Value) (u15 : Value) (u16 : Value) (u17 : Value) (u18 : Value) (u19 : Value) (u20 : Value) (u21 : Value) (u22 : Value) (u23 : Value) (u24 : Value) (u25 : Value) (u26 : Value) (u27 : Value) (u28 : Value) (u29 : Value) (u30 : Value) (u31 : Value) (u32 : Value) (u33 : Value) (u34 : Value) (u35 : Value) (u36 : Value) (u37 : Value) (u38 : Value) (u39 : Value) (u40 : Value) (u41 : Value) (u42 : Value) (u43 : Value) (u44 : Value) (u45 : Value) (u46 : Value) (u47 : Value) (u48 : Value) (u49 : Value) (u50 : Value) (u51 : Value) (u52 : Value) (u53 : Value) (u54 : Value) (u55 : Value) (u56 : Value) (u57 : Value) (u58 : Value) (u59 : Value) (u60 : Value) (u61 : Value) (u62 : Value) (u63 : Value) (kA : ClassId) (h0 : Heap) (n0 : Nat) (Z0 : n0 ≤ h0.size) (E_o0 : Exa Z h0 o0 "com/example/dispatch_by_catalog/dispatchbycatalog/store/RecordWriter") (F_size_o0 : Fld Z h0 o0 "com/example/dispatch_by_catalog/dispatchbycatalog/store/RecordWriter" "size" "I" (.int (17 : Int32))) (F_written_o0 : Fld Z h0 o0 "com/example/dispatch_by_catalog/dispatchbycatalog/store/RecordWriter" "written" "[B" (.ref w1_buf)) (V_w1_buf : Arv Z h0 w1_buf kA .byte (64 : Int32) [u0, u1, u2, u3, u4, u5, u6, u7, u8, u9, u10, u11, u12, u13, u14, u15, u16, u17, u18, u19, u20, u21, u22, u23, u24, u25, u26, u27, u28, u29, u30, u31, u32, u33, u34, u35, u36, u37, u38, u39, u40, u41, u42, u43, u44, u45, u46, u47, u48, u49, u50, u51, u52, u53, u54, u55, u56, u57, u58, u59, u60, u61, u62, u63] (.int (0 : Int32))) (g_o0 : n0 ≤ o0) :
    MetFree l (⟨"com/example/dispatch_by_catalog/dispatchbycatalog/store/RecordWriter", "room", "(I)V"⟩ : MethodName) (head1 (Jvm.Cond.code (⟨"com/example/dispatch_by_catalog/dispatchbycatalog/store/RecordWriter", "room", "(I)V"⟩ : MethodName) prog_35_method_8_code 2 none :: ws) ({ frames := 2, cells := 1, slots := 128, locals := 33 } : Room)) (fun a U => a = #[(.ref o0), (.int (60 : Int32))] ∧ Z.Warmed39 U.vm ∧ U.heap = h0) (fun _ _ _ _ _ => True) (fun _ U o U' => ∃ v L, o = .returned v ∧ Qrm17_60 Z o0 w1_buf u0 u1 u2 u3 u4 u5 u6 u7 u8 u9 u10 u11 u12 u13 u14 u15 u16 u17 u18 u19 u20 u21 u22 u23 u24 u25 u26 u27 u28 u29 u30 u31 u32 u33 u34 u35 u36 u37 u38 u39 u40 u41 u42 u43 u44 u45 u46 u47 u48 u49 u50 u51 u52 u53 u54 u55 u56 u57 u58 u59 u60 u61 u62 u63 kA h0 n0 v U'.heap L ∧ FrameEnd U o U' L ({ frames := 2, cells := 1, slots := 128, locals := 33 } : Room).cells ({ frames := 2, cells := 1, slots := 128, locals := 33 } : Room).slots) := by
  refine MetFree.of_bodySF (plainFor_of_name pn_com_example_dispatch_by_catalog_dispatchbycatalog_store_RecordWriter) hisR ?_
  intro p e s m args below meth c s₁ Bd hml0 hP hK
  obtain ⟨rfl, hZ, hh⟩ := hP
  have hx := Bd.exec
  have hby := Bd.bytes
  have hml : c.maxLocals = 2 := hml0
  have hown : s.vm.findClass "com/example/dispatch_by_catalog/dispatchbycatalog/store/RecordWriter" = some m.cls := findClass_of_methodNamed Bd.named
  have hnm := (name_of_methodNamed Bd.named Bd.method).1
  have hlk := BodyLoose.notSynchronized Bd
  have X0 : Stand p l e ({ frames := 2, cells := 1, slots := 128, locals := 33 } : Room) s m #[(.ref o0), (.int (60 : Int32))] below meth c s₁ [] 0 0 := Stand.of_body Bd
  have e0 : s₁.heap = h0 := by rw [← hh, Bd.state]; rfl
  have N0 := Fr.nil n0
  have pre0 : ∀ t, Steps p.tables e below (s₁.setTop (mkF m 0 #[.val (.ref o0), .val (.int (60 : Int32))] [])) t → Steps p.tables e below (s₁.setTop (entryFrame m #[(.ref o0), (.int (60 : Int32))] 2)) t := fun t k => castTop (ef_rm17_60 m o0) k
  obtain ⟨T1, X1, e1, st1⟩ := getF X0 hx hZ hown (host := "") (Or.inl (hw _ (List.mem_of_getElem? (i := 10) rfl))) Via.refl e0 F_written_o0 (g := (mkF m 1 #[.val (.ref o0), .val (.int (60 : Int32))] [(.ref o0)])) rfl rfl (hb hby d7_1)
  obtain ⟨cl2, Ar2, qc2, S2, M2, Ha2, G2⟩ := id V_w1_buf
  obtain ⟨T3, X3, e3, st3⟩ := getF X1 hx hZ hown (host := "") (Or.inl (hw _ (List.mem_of_getElem? (i := 17) rfl))) Via.refl e1 F_size_o0 (g := (mkF m 6 #[.val (.ref o0), .val (.int (60 : Int32))] [(.ref o0), (.int (64 : Int32))])) rfl rfl (hb hby d7_6)
  obtain ⟨T4, X4, e4, st4⟩ := getF X3 hx hZ hown (host := "") (Or.inl (hw _ (List.mem_of_getElem? (i := 10) rfl))) Via.refl e3 F_written_o0 (g := (mkF m 16 #[.val (.ref o0), .val (.int (60 : Int32))] [(.ref o0), (.ref o0)])) rfl rfl (hb hby d7_16)
  obtain ⟨T5, X5, e5, st5⟩ := getF X4 hx hZ hown (host := "") (Or.inl (hw _ (List.mem_of_getElem? (i := 10) rfl))) Via.refl e4 F_written_o0 (g := (mkF m 20 #[.val (.ref o0), .val (.int (60 : Int32))] [(.ref o0), (.ref w1_buf), (.ref o0)])) rfl rfl (hb hby d7_20)
  obtain ⟨T6, X6, e6, st6⟩ := getF X5 hx hZ hown (host := "") (Or.inl (hw _ (List.mem_of_getElem? (i := 17) rfl))) Via.refl e5 F_size_o0 (g := (mkF m 27 #[.val (.ref o0), .val (.int (60 : Int32))] [(.ref o0), (.int (128 : Int32)), (.ref w1_buf), (.ref o0)])) rfl rfl (hb hby d7_27)
  obtain ⟨vr7, _, ⟨T7, L7, k7, n7⟩, -, X7, ⟨Lc7, hQ7, l7, y7, z7⟩, st7⟩ := Jvm.LawKit.callS X6 hx (y := (⟨"java/lang/Math", "max", "(II)I"⟩ : MethodName)) hown (mvT hZ (hw _ (List.mem_of_getElem? (i := 55) rfl))) (mvT hZ (hw _ (List.mem_of_getElem? (i := 56) rfl))) (mvT hZ (hw _ (List.mem_of_getElem? (i := 25) rfl))) (mvT hZ (hw _ (List.mem_of_getElem? (i := 57) rfl))) (by decide) (backOf (W := 2) (rm11 l Z a0 hw [] (128 : Int32) (77 : Int32) h0 n0 Z0) hZ (hw _ (List.mem_of_getElem? (i := 57) rfl)) (hw _ (List.mem_of_getElem? (i := 25) rfl)) (by decide) (by decide)) (g := (mkF m 32 #[.val (.ref o0), .val (.int (60 : Int32))] [(.int (77 : Int32)), (.int (128 : Int32)), (.ref w1_buf), (.ref o0)])) rfl (by rw [hml]; rfl) (argsL := [(.int (128 : Int32)), (.int (77 : Int32))]) (rest := [(.ref w1_buf), (.ref o0)]) (lenOf pd__II_I rfl) rfl (by show 2 * 0 + _ ≤ _; exact Nat.le_of_eq rfl) (hb hby d7_32) (fun _ _ => ⟨rfl, e6, (by decide : 0 + 0 ≤ _), (by decide : 0 + 0 ≤ _)⟩)
  dsimp only [Pt.U, Pt.locs, Pt.cells, Pt.slots] at X7 l7 y7 z7 st7 hQ7
  subst l7 y7 z7
  have N7q := (show _ ∧ _ ∧ _ from hQ7).1
  have hv7 := (show _ ∧ _ ∧ _ from hQ7).2.1
  have e7 := (show _ ∧ _ ∧ _ from hQ7).2.2
  clear hQ7
  subst hv7
  have N7 := Fr.app N0 N7q
  obtain ⟨vr8, _, ⟨T8, L8, k8, n8⟩, -, X8, ⟨Lc8, hQ8, l8, y8, z8⟩, st8⟩ := Jvm.LawKit.callS X7 hx (y := (⟨"java/util/Arrays", "copyOf", "([BI)[B"⟩ : MethodName)) hown (mvT hZ (hw _ (List.mem_of_getElem? (i := 19) rfl))) (mvT hZ (hw _ (List.mem_of_getElem? (i := 20) rfl))) (mvT hZ (hw _ (List.mem_of_getElem? (i := 21) rfl))) (mvT hZ (hw _ (List.mem_of_getElem? (i := 22) rfl))) (by decide) (backOf (W := 1) (rmcp64_128 l Z a0 hw [] w1_buf u0 u1 u2 u3 u4 u5 u6 u7 u8 u9 u10 u11 u12 u13 u14 u15 u16 u17 u18 u19 u20 u21 u22 u23 u24 u25 u26 u27 u28 u29 u30 u31 u32 u33 u34 u35 u36 u37 u38 u39 u40 u41 u42 u43 u44 u45 u46 u47 u48 u49 u50 u51 u52 u53 u54 u55 u56 u57 u58 u59 u60 u61 u62 u63 kA h0 n0 Z0 V_w1_buf) hZ (hw _ (List.mem_of_getElem? (i := 22) rfl)) (hw _ (List.mem_of_getElem? (i := 21) rfl)) (by decide) (by decide)) (g := (mkF m 35 #[.val (.ref o0), .val (.int (60 : Int32))] [(.int (128 : Int32)), (.ref w1_buf), (.ref o0)])) rfl (by rw [hml]; rfl) (argsL := [(.ref w1_buf), (.int (128 : Int32))]) (rest := [(.ref o0)]) (lenOf pd___BI__B rfl) rfl (by show 2 * 0 + _ ≤ _; exact Nat.le_of_eq rfl) (hb hby d7_35) (fun _ _ => ⟨rfl, e7, (by decide : 0 + 1 ≤ _), (by decide : 0 + 128 ≤ _)⟩)
  dsimp only [Pt.U, Pt.locs, Pt.cells, Pt.slots] at X8 l8 y8 z8 st8 hQ8
  subst l8 y8 z8
  have N8q := (show _ ∧ _ from hQ8).1
  have hq8 := (show _ ∧ _ from hQ8).2
  clear hQ8
  obtain ⟨xcp64_128_0_8, kcp64_128_1_8, hq8x⟩ := hq8
  have hv8 := hq8x.1
  have szxcp64_128_0_8 := hq8x.2.1
  have K8 := hq8x.2.2.1
  have po8_0 := hq8x.2.2.2
  clear hq8x
  subst hv8
  have ne9 : o0 ≠ xcp64_128_0_8 := Nat.ne_of_lt (Nat.lt_of_lt_of_le E_o0.lt szxcp64_128_0_8)
  have ne10 : w1_buf ≠ xcp64_128_0_8 := Nat.ne_of_lt (Nat.lt_of_lt_of_le V_w1_buf.lt szxcp64_128_0_8)
  have g11 : n0 ≤ xcp64_128_0_8 := Nat.le_trans Z0 szxcp64_128_0_8
  have sz12 : h0.size ≤ xcp64_128_0_8 := Nat.le_trans (Nat.le_refl h0.size) szxcp64_128_0_8
  have z13 : n0 ≤ T8.heap.size := Nat.le_trans Z0 K8.1
  have hs14 : h0.size ≤ T8.heap.size := Nat.le_trans (Nat.le_refl h0.size) K8.1
  have N8 := Fr.app N7 N8q
  have k15 := (F_written_o0.keep K8 nin0)
  have k16 := (E_o0.keep K8)
  obtain ⟨T17, h17, X17, e17, W17, st17⟩ := putF X8 hx hZ hown (host := "") (Or.inl (hw _ (List.mem_of_getElem? (i := 10) rfl))) Via.refl rfl k15 k16 (Or.inl (hw _ (List.mem_of_getElem? (i := 11) rfl))) (hw _ (List.mem_of_getElem? (i := 1) rfl)) (ty := (.array .byte)) (by decide) rfl rfl (g := (mkF m 38 #[.val (.ref o0), .val (.int (60 : Int32))] [(.ref xcp64_128_0_8), (.ref o0)])) rfl rfl (hb hby d7_38)
  have Fw17 := k15.same W17
  have N17 := Fr.snoc X17 N8 g_o0
  have z18 : n0 ≤ h17.size := Nat.le_trans z13 (Keep.of_wr W17).1
  have hs19 : h0.size ≤ h17.size := Nat.le_trans hs14 (Keep.of_wr W17).1
  obtain ⟨fs, hr, hrun, hended, hW, hsame⟩ := X17.leave (v := none) (fun _ => rfl) hlk
  refine ⟨_, _, pre0 _ ?_, hrun, hended, _, _, rfl, ?_, ⟨_, rfl⟩, hW, hsame.mono (by decide) (by decide)⟩
  · skip
    show Steps p.tables e below (s₁.setTop (mkF m 0 #[.val (.ref o0), .val (.int (60 : Int32))] [])) _
    refine XS.aloadN X0.here hx rfl (hb hby d7_0) rfl rfl ?_
    show Steps p.tables e below (s₁.setTop (mkF m 1 #[.val (.ref o0), .val (.int (60 : Int32))] [(.ref o0)])) _
    refine st1 _ ?_
    show Steps p.tables e below (T1.setTop (mkF m 4 #[.val (.ref o0), .val (.int (60 : Int32))] [(.ref w1_buf)])) _
    refine X1.arraylength hx (by rw [e1]; exact Ar2.1) (State.isArrayOf_alike hZ.alike Ar2.2.1) (g := (mkF m 4 #[.val (.ref o0), .val (.int (60 : Int32))] [(.ref w1_buf)])) rfl rfl (hb hby d7_4) _ ?_
    rw [len_of S2 M2]
    show Steps p.tables e below (T1.setTop (mkF m 5 #[.val (.ref o0), .val (.int (60 : Int32))] [(.int (64 : Int32))])) _
    refine XS.aloadN X1.here hx rfl (hb hby d7_5) rfl rfl ?_
    show Steps p.tables e below (T1.setTop (mkF m 6 #[.val (.ref o0), .val (.int (60 : Int32))] [(.ref o0), (.int (64 : Int32))])) _
    refine st3 _ ?_
    show Steps p.tables e below (T3.setTop (mkF m 9 #[.val (.ref o0), .val (.int (60 : Int32))] [(.int (17 : Int32)), (.int (64 : Int32))])) _
    refine XS.isub X3.here hx rfl (hb hby d7_9) rfl ?_
    show Steps p.tables e below (T3.setTop (mkF m 10 #[.val (.ref o0), .val (.int (60 : Int32))] [(.int (47 : Int32))])) _
    refine XS.iloadN X3.here hx rfl (hb hby d7_10) rfl ?_
    show Steps p.tables e below (T3.setTop (mkF m 11 #[.val (.ref o0), .val (.int (60 : Int32))] [(.int (60 : Int32)), (.int (47 : Int32))])) _
    refine XS.icmpNo X3.here hx rfl (hb hby d7_11) rfl (XT.ii_ge_f (by decide)) ?_
    show Steps p.tables e below (T3.setTop (mkF m 14 #[.val (.ref o0), .val (.int (60 : Int32))] [])) _
    refine XS.aloadN X3.here hx rfl (hb hby d7_14) rfl rfl ?_
    show Steps p.tables e below (T3.setTop (mkF m 15 #[.val (.ref o0), .val (.int (60 : Int32))] [(.ref o0)])) _
    refine XS.aloadN X3.here hx rfl (hb hby d7_15) rfl rfl ?_
    show Steps p.tables e below (T3.setTop (mkF m 16 #[.val (.ref o0), .val (.int (60 : Int32))] [(.ref o0), (.ref o0)])) _
    refine st4 _ ?_
    show Steps p.tables e below (T4.setTop (mkF m 19 #[.val (.ref o0), .val (.int (60 : Int32))] [(.ref w1_buf), (.ref o0)])) _
    refine XS.aloadN X4.here hx rfl (hb hby d7_19) rfl rfl ?_
    show Steps p.tables e below (T4.setTop (mkF m 20 #[.val (.ref o0), .val (.int (60 : Int32))] [(.ref o0), (.ref w1_buf), (.ref o0)])) _
    refine st5 _ ?_
    show Steps p.tables e below (T5.setTop (mkF m 23 #[.val (.ref o0), .val (.int (60 : Int32))] [(.ref w1_buf), (.ref w1_buf), (.ref o0)])) _
    refine X5.arraylength hx (by rw [e5]; exact Ar2.1) (State.isArrayOf_alike hZ.alike Ar2.2.1) (g := (mkF m 23 #[.val (.ref o0), .val (.int (60 : Int32))] [(.ref w1_buf), (.ref w1_buf), (.ref o0)])) rfl rfl (hb hby d7_23) _ ?_
    rw [len_of S2 M2]
    show Steps p.tables e below (T5.setTop (mkF m 24 #[.val (.ref o0), .val (.int (60 : Int32))] [(.int (64 : Int32)), (.ref w1_buf), (.ref o0)])) _
    refine XT.iconstV X5.here hx rfl (2 : Int32) (hb hby d7_24) (by decide) ?_
    show Steps p.tables e below (T5.setTop (mkF m 25 #[.val (.ref o0), .val (.int (60 : Int32))] [(.int (2 : Int32)), (.int (64 : Int32)), (.ref w1_buf), (.ref o0)])) _
    refine XS.imul X5.here hx rfl (hb hby d7_25) rfl ?_
    show Steps p.tables e below (T5.setTop (mkF m 26 #[.val (.ref o0), .val (.int (60 : Int32))] [(.int (128 : Int32)), (.ref w1_buf), (.ref o0)])) _
    refine XS.aloadN X5.here hx rfl (hb hby d7_26) rfl rfl ?_
    show Steps p.tables e below (T5.setTop (mkF m 27 #[.val (.ref o0), .val (.int (60 : Int32))] [(.ref o0), (.int (128 : Int32)), (.ref w1_buf), (.ref o0)])) _
    refine st6 _ ?_
    show Steps p.tables e below (T6.setTop (mkF m 30 #[.val (.ref o0), .val (.int (60 : Int32))] [(.int (17 : Int32)), (.int (128 : Int32)), (.ref w1_buf), (.ref o0)])) _
    refine XS.iloadN X6.here hx rfl (hb hby d7_30) rfl ?_
    show Steps p.tables e below (T6.setTop (mkF m 31 #[.val (.ref o0), .val (.int (60 : Int32))] [(.int (60 : Int32)), (.int (17 : Int32)), (.int (128 : Int32)), (.ref w1_buf), (.ref o0)])) _
    refine XS.iadd X6.here hx rfl (hb hby d7_31) rfl ?_
    show Steps p.tables e below (T6.setTop (mkF m 32 #[.val (.ref o0), .val (.int (60 : Int32))] [(.int (77 : Int32)), (.int (128 : Int32)), (.ref w1_buf), (.ref o0)])) _
    refine st7 _ ?_
    show Steps p.tables e below (T7.setTop (mkF m 35 #[.val (.ref o0), .val (.int (60 : Int32))] [(.int (128 : Int32)), (.ref w1_buf), (.ref o0)])) _
    refine st8 _ ?_
    show Steps p.tables e below (T8.setTop (mkF m 38 #[.val (.ref o0), .val (.int (60 : Int32))] [(.ref xcp64_128_0_8), (.ref o0)])) _
    refine st17 _ ?_
    show Steps p.tables e below (T17.setTop (mkF m 41 #[.val (.ref o0), .val (.int (60 : Int32))] [])) _
    exact X17.returnOut hx Bd.returns (hb hby d7_41) hr
  · skip
    show Qrm17_60 Z o0 w1_buf u0 u1 u2 u3 u4 u5 u6 u7 u8 u9 u10 u11 u12 u13 u14 u15 u16 u17 u18 u19 u20 u21 u22 u23 u24 u25 u26 u27 u28 u29 u30 u31 u32 u33 u34 u35 u36 u37 u38 u39 u40 u41 u42 u43 u44 u45 u46 u47 u48 u49 u50 u51 u52 u53 u54 u55 u56 u57 u58 u59 u60 u61 u62 u63 kA h0 n0 _ T17.heap _
    rw [e17]
    have k20 := (k16.wr W17)
    have k21 := ((F_size_o0.keep K8 nin0).other W17 (Or.inr (slot_ne (Or.inl (hw _ (List.mem_of_getElem? (i := 18) rfl))) (Or.inl (hw _ (List.mem_of_getElem? (i := 11) rfl))) (by decide) (t := .int) (t' := (.array .byte)) (by decide) (by decide))))
    have k22 := (po8_0.other W17 (Ne.symm ne9))
    exact ⟨N17, xcp64_128_0_8, kcp64_128_1_8, rfl, sz12, (((Keep.refl h0 [o0]).trans K8 all0).wr W17 (Or.inl (List.mem_of_getElem? (i := 0) rfl))), k20, k21, Fw17, k22⟩
theorem pd__I_V : parseMethodDescriptor "(I)V" = some ⟨[.int], none⟩ := by decide +kernel
theorem d6_0 : decode prog_35_method_3_code 0 = .ok (.aload_n 0, 1) := by decide +kernel
theorem d6_1 : decode prog_35_method_3_code 1 = .ok (.bipush 8, 2) := by decide +kernel
theorem d6_3 : decode prog_35_method_3_code 3 = .ok (.invokevirtual 28, 3) := by decide +kernel
theorem d6_6 : decode prog_35_method_3_code 6 = .ok (.bipush 56, 2) := by decide +kernel
theorem d6_8 : decode prog_35_method_3_code 8 = .ok (.istore_n 3, 1) := by decide +kernel
theorem d6_9 : decode prog_35_method_3_code 9 = .ok (.iload_n 3, 1) := by decide +kernel
theorem d6_10 : decode prog_35_method_3_code 10 = .ok (.ifCond .lt 30, 3) := by decide +kernel
theorem d6_13 : decode prog_35_method_3_code 13 = .ok (.aload_n 0, 1) := by decide +kernel
theorem d6_14 : decode prog_35_method_3_code 14 = .ok (.getfield 7, 3) := by decide +kernel
theorem d6_17 : decode prog_35_method_3_code 17 = .ok (.aload_n 0, 1) := by decide +kernel
theorem d6_18 : decode prog_35_method_3_code 18 = .ok (.dup, 1) := by decide +kernel
theorem d6_19 : decode prog_35_method_3_code 19 = .ok (.getfield 34, 3) := by decide +kernel
theorem d6_22 : decode prog_35_method_3_code 22 = .ok (.dup_x1, 1) := by decide +kernel
theorem d6_23 : decode prog_35_method_3_code 23 = .ok (.iconst 1, 1) := by decide +kernel
theorem d6_24 : decode prog_35_method_3_code 24 = .ok (.iadd, 1) := by decide +kernel
theorem d6_25 : decode prog_35_method_3_code 25 = .ok (.putfield 34, 3) := by decide +kernel
theorem d6_28 : decode prog_35_method_3_code 28 = .ok (.lload_n 1, 1) := by decide +kernel
theorem d6_29 : decode prog_35_method_3_code 29 = .ok (.iload_n 3, 1) := by decide +kernel
theorem d6_30 : decode prog_35_method_3_code 30 = .ok (.lushr, 1) := by decide +kernel
theorem d6_31 : decode prog_35_method_3_code 31 = .ok (.l2i, 1) := by decide +kernel
theorem d6_32 : decode prog_35_method_3_code 32 = .ok (.i2b, 1) := by decide +kernel
theorem d6_33 : decode prog_35_method_3_code 33 = .ok (.bastore, 1) := by decide +kernel
theorem d6_34 : decode prog_35_method_3_code 34 = .ok (.iinc 3 (-8), 3) := by decide +kernel
theorem d6_37 : decode prog_35_method_3_code 37 = .ok (.goto (-28), 3) := by decide +kernel
theorem d6_40 : decode prog_35_method_3_code 40 = .ok (.aload_n 0, 1) := by decide +kernel
theorem d6_41 : decode prog_35_method_3_code 41 = .ok (.areturn, 1) := by decide +kernel
theorem ef_nu0 (m : MethodId) (o0 : Addr) (q1 : Int64) : entryFrame m #[(.ref o0), (.long q1)] 4 = mkF m 0 #[.val (.ref o0), .val (.long q1), .second, .unset] [] := by first | (simp [entryFrame, mkF, argsToLocals, Value.category]; done) | rfl
def vnu0_1 (q1 : Int64) : Int32 := (((XT.ushrL q1 (56 : Int32)).toInt32).toInt8.toInt32)
def vnu0_2 (q1 : Int64) : Int32 := (((XT.ushrL q1 (48 : Int32)).toInt32).toInt8.toInt32)
def vnu0_3 (q1 : Int64) : Int32 := (((XT.ushrL q1 (40 : Int32)).toInt32).toInt8.toInt32)
def vnu0_4 (q1 : Int64) : Int32 := (((XT.ushrL q1 (32 : Int32)).toInt32).toInt8.toInt32)
def vnu0_5 (q1 : Int64) : Int32 := (((XT.ushrL q1 (24 : Int32)).toInt32).toInt8.toInt32)
def vnu0_6 (q1 : Int64) : Int32 := (((XT.ushrL q1 (16 : Int32)).toInt32).toInt8.toInt32)
def vnu0_7 (q1 : Int64) : Int32 := (((XT.ushrL q1 (8 : Int32)).toInt32).toInt8.toInt32)
def vnu0_8 (q1 : Int64) : Int32 := (((XT.ushrL q1 (0 : Int32)).toInt32).toInt8.toInt32)
def Qnu0 (Z : State) (o0 : Addr) (q1 : Int64) (w1_buf : Addr) (u0 : Value) (u1 : Value) (u2 : Value) (u3 : Value) (u4 : Value) (u5 : Value) (u6 : Value) (u7 : Value) (u8 : Value) (u9 : Value) (u10 : Value) (u11 : Value) (u12 : Value) (u13 : Value) (u14 : Value) (u15 : Value) (u16 : Value) (u17 : Value) (u18 : Value) (u19 : Value) (u20 : Value) (u21 : Value) (u22 : Value) (u23 : Value) (u24 : Value) (u25 : Value) (u26 : Value) (u27 : Value) (u28 : Value) (u29 : Value) (u30 : Value) (u31 : Value) (u32 : Value) (u33 : Value) (u34 : Value) (u35 : Value) (u36 : Value) (u37 : Value) (u38 : Value) (u39 : Value) (u40 : Value) (u41 : Value) (u42 : Value) (u43 : Value) (u44 : Value) (u45 : Value) (u46 : Value) (u47 : Value) (u48 : Value) (u49 : Value) (u50 : Value) (u51 : Value) (u52 : Value) (u53 : Value) (u54 : Value) (u55 : Value) (u56 : Value) (u57 : Value) (u58 : Value) (u59 : Value) (u60 : Value) (u61 : Value) (u62 : Value) (u63 : Value) (kA : ClassId) (h0 : Heap) (n0 : Nat) (v : Option Value) (h : Heap) (L : List Loc) : Prop := Fr n0 L ∧ v = some (.ref o0) ∧ Keep h0 h [o0, w1_buf] ∧ Exa Z h o0 "com/example/dispatch_by_catalog/dispatchbycatalog/store/RecordWriter" ∧ Fld Z h o0 "com/example/dispatch_by_catalog/dispatchbycatalog/store/RecordWriter" "size" "I" (.int (8 : Int32)) ∧ Fld Z h o0 "com/example/dispatch_by_catalog/dispatchbycatalog/store/RecordWriter" "written" "[B" (.ref w1_buf) ∧ Arv Z h w1_buf kA .byte (64 : Int32) [(.int (nar .byte (vnu0_1 q1))), (.int (nar .byte (vnu0_2 q1))), (.int (nar .byte (vnu0_3 q1))), (.int (nar .byte (vnu0_4 q1))), (.int (nar .byte (vnu0_5 q1))), (.int (nar .byte (vnu0_6 q1))), (.int (nar .byte (vnu0_7 q1))), (.int (nar .byte (vnu0_8 q1))), u8, u9, u10, u11, u12, u13, u14, u15, u16, u17, u18, u19, u20, u21, u22, u23, u24, u25, u26, u27, u28, u29, u30, u31, u32, u33, u34, u35, u36, u37, u38, u39, u40, u41, u42, u43, u44, u45, u46, u47, u48, u49, u50, u51, u52, u53, u54, u55, u56, u57, u58, u59, u60, u61, u62, u63] (.int (0 : Int32))
set_option maxRecDepth 65536 in
set_option maxHeartbeats 40000000 in
theorem rmnu0 (l : Launch) (Z : State) (a0 : Array Value) (hw : ∀ d ∈ tables_1, d.before a0 Z = true) (ws : List Jvm.Cond) (o0 : Addr) (q1 : Int64) (w1_buf : Addr) (u0 : Value) (u1 : Value) (u2 : Value) (u3 : Value) (u4 : Value) (u5 : Value) (u6 : Value) (u7 : Value) (u8 : Value) (u9 : Value) (u10 : Value) (u11 : Value) (u12 : Value) (u13 : Value) (u14 : Value) (u15 : Value) (u16 : Value) (u17 : Value) (u18 : Value) (u19 : Value) (u20 : Value) (u21 : Value) (u22 : Value) (u23 : Value) (u24 : Value) (u25 : Value) (u26 : Value) (u27 : Value) (u28 : Value) (u29 : Value) (u30 : Value) (u31 : Value) (u32 : Value) (u33 : Value) (u34 : Value) (u35 : Value) (u36 : Value) (u37 : Value) (u38 : Value) (u39 : Value) (u40 : Value) (u41 : Value) (u42 : Value) (u43 : Value) (u44 : Value) (u45 : Value) (u46 : Value) (u47 : Value) (u48 : Value) (u49 : Value) (u50 : Value) (u51 : Value) (u52 : Value) (u53 : Value) (u54 : Value) (u55 : Value) (u56 : Value) (u57 : Value) (u58 : Value) (u59 : Value) (u60 : Value) (u61 : Value) (u62 : Value) (u63 : Value) (kA : ClassId) (h0 : Heap) (n0 : Nat) (Z0 : n0 ≤ h0.size) (E_o0 : Exa Z h0 o0 "com/example/dispatch_by_catalog/dispatchbycatalog/store/RecordWriter") (F_size_o0 : Fld Z h0 o0 "com/example/dispatch_by_catalog/dispatchbycatalog/store/RecordWriter" "size" "I" (.int (0 : Int32))) (F_written_o0 : Fld Z h0 o0 "com/example/dispatch_by_catalog/dispatchbycatalog/store/RecordWriter" "written" "[B" (.ref w1_buf)) (V_w1_buf : Arv Z h0 w1_buf kA .byte (64 : Int32) [u0, u1, u2, u3, u4, u5, u6, u7, u8, u9, u10, u11, u12, u13, u14, u15, u16, u17, u18, u19, u20, u21, u22, u23, u24, u25, u26, u27, u28, u29, u30, u31, u32, u33, u34, u35, u36, u37, u38, u39, u40, u41, u42, u43, u44, u45, u46, u47, u48, u49, u50, u51, u52, u53, u54, u55, u56, u57, u58, u59, u60, u61, u62, u63] (.int (0 : Int32))) (g_o0 : n0 ≤ o0) (ne_w1_buf_o0 : w1_buf ≠ o0) (g_w1_buf : n0 ≤ w1_buf) :
    MetFree l (⟨"com/example/dispatch_by_catalog/dispatchbycatalog/store/RecordWriter", "number", "(J)Lcom/example/dispatch_by_catalog/dispatchbycatalog/store/RecordWriter;"⟩ : MethodName) (head1 (Jvm.Cond.code (⟨"com/example/dispatch_by_catalog/dispatchbycatalog/store/RecordWriter", "number", "(J)Lcom/example/dispatch_by_catalog/dispatchbycatalog/store/RecordWriter;"⟩ : MethodName) prog_35_method_3_code 4 (some (.object "com/example/dispatch_by_catalog/dispatchbycatalog/store/RecordWriter")) :: ws) ({ frames := 1, cells := 0, slots := 0, locals := 13 } : Room)) (fun a U => a = #[(.ref o0), (.long q1)] ∧ Z.Warmed39 U.vm ∧ U.heap = h0) (fun _ _ _ _ _ => True) (fun _ U o U' => ∃ v L, o = .returned v ∧ Qnu0 Z o0 q1 w1_buf u0 u1 u2 u3 u4 u5 u6 u7 u8 u9 u10 u11 u12 u13 u14 u15 u16 u17 u18 u19 u20 u21 u22 u23 u24 u25 u26 u27 u28 u29 u30 u31 u32 u33 u34 u35 u36 u37 u38 u39 u40 u41 u42 u43 u44 u45 u46 u47 u48 u49 u50 u51 u52 u53 u54 u55 u56 u57 u58 u59 u60 u61 u62 u63 kA h0 n0 v U'.heap L ∧ FrameEnd U o U' L ({ frames := 1, cells := 0, slots := 0, locals := 13 } : Room).cells ({ frames := 1, cells := 0, slots := 0, locals := 13 } : Room).slots) := by
  refine MetFree.of_bodySF (plainFor_of_name pn_com_example_dispatch_by_catalog_dispatchbycatalog_store_RecordWriter) hisR ?_
  intro p e s m args below meth c s₁ Bd hml0 hP hK
  obtain ⟨rfl, hZ, hh⟩ := hP
  have hx := Bd.exec
  have hby := Bd.bytes
  have hml : c.maxLocals = 4 := hml0
  have hown : s.vm.findClass "com/example/dispatch_by_catalog/dispatchbycatalog/store/RecordWriter" = some m.cls := findClass_of_methodNamed Bd.named
  have hnm := (name_of_methodNamed Bd.named Bd.method).1
  have hlk := BodyLoose.notSynchronized Bd
  have X0 : Stand p l e ({ frames := 1, cells := 0, slots := 0, locals := 13 } : Room) s m #[(.ref o0), (.long q1)] below meth c s₁ [] 0 0 := Stand.of_body Bd
  have e0 : s₁.heap = h0 := by rw [← hh, Bd.state]; rfl
  have N0 := Fr.nil n0
  have pre0 : ∀ t, Steps p.tables e below (s₁.setTop (mkF m 0 #[.val (.ref o0), .val (.long q1), .second, .unset] [])) t → Steps p.tables e below (s₁.setTop (entryFrame m #[(.ref o0), (.long q1)] 4)) t := fun t k => castTop (ef_nu0 m o0 q1) k
  obtain ⟨cq1, qp1, qp1'⟩ := E_o0.cell
  obtain ⟨ci1, ki1, hi1a, hi1b, -, hi1c, -, -⟩ := Cond.instantiable_spec (mv hZ (hw _ (List.mem_of_getElem? (i := 1) rfl)) (args := #[]))
  obtain ⟨vr1, _, ⟨T1, L1, k1, n1⟩, -, X1, ⟨Lc1, hQ1, l1, y1, z1⟩, st1⟩ := X0.privateBack hx (y := (⟨"com/example/dispatch_by_catalog/dispatchbycatalog/store/RecordWriter", "room", "(I)V"⟩ : MethodName)) hown (mvT hZ (hw _ (List.mem_of_getElem? (i := 36) rfl))) (mvT hZ (hw _ (List.mem_of_getElem? (i := 37) rfl))) (Jvm.Stand.selects_self_of_private hi1a hi1b (Bool.or_eq_false_iff.mp hi1c).1 (Cond.privateMethod_at (mvP hZ (hw _ (List.mem_of_getElem? (i := 38) rfl)) (args := #[]))) (mvT hZ (hw _ (List.mem_of_getElem? (i := 37) rfl))) (by decide)) (Cond.privateMethod_at (mvP hZ (hw _ (List.mem_of_getElem? (i := 38) rfl)) (args := #[]))) (mvT hZ (hw _ (List.mem_of_getElem? (i := 39) rfl))) (by decide) (backOf (W := 0) (rmrm0_8 l Z a0 hw [] o0 w1_buf u0 u1 u2 u3 u4 u5 u6 u7 u8 u9 u10 u11 u12 u13 u14 u15 u16 u17 u18 u19 u20 u21 u22 u23 u24 u25 u26 u27 u28 u29 u30 u31 u32 u33 u34 u35 u36 u37 u38 u39 u40 u41 u42 u43 u44 u45 u46 u47 u48 u49 u50 u51 u52 u53 u54 u55 u56 u57 u58 u59 u60 u61 u62 u63 kA h0 n0 Z0 E_o0 F_size_o0 F_written_o0 V_w1_buf) hZ (hw _ (List.mem_of_getElem? (i := 39) rfl)) (hw _ (List.mem_of_getElem? (i := 2) rfl)) (by decide) (by decide)) (g := (mkF m 3 #[.val (.ref o0), .val (.long q1), .second, .unset] [(.int (8 : Int32)), (.ref o0)])) rfl (by rw [hml]; rfl) (Steps.refl _) (a := o0) (by rw [e0]; exact qp1) qp1' (argsL := [(.int (8 : Int32))]) (rest := []) (lenOf pd__I_V rfl) rfl (by show 2 * 0 + _ ≤ _; exact Nat.le_of_eq rfl) (hb hby d6_3) (fun _ _ => ⟨rfl, e0, (by decide : 0 + 0 ≤ _), (by decide : 0 + 0 ≤ _)⟩)
  dsimp only [Pt.U, Pt.locs, Pt.cells, Pt.slots] at X1 l1 y1 z1 st1 hQ1
  subst l1 y1 z1
  have N1q := (show _ ∧ _ ∧ _ from hQ1).1
  have hv1 := (show _ ∧ _ ∧ _ from hQ1).2.1
  have e1 := (show _ ∧ _ ∧ _ from hQ1).2.2
  clear hQ1
  subst hv1
  have N1 := Fr.app N0 N1q
  obtain ⟨T2, X2, e2, st2⟩ := getF X1 hx hZ hown (host := "") (Or.inl (hw _ (List.mem_of_getElem? (i := 10) rfl))) Via.refl e1 F_written_o0 (g := (mkF m 14 #[.val (.ref o0), .val (.long q1), .second, .val (.int (56 : Int32))] [(.ref o0)])) rfl rfl (hb hby d6_14)
  obtain ⟨T3, X3, e3, st3⟩ := getF X2 hx hZ hown (host := "") (Or.inl (hw _ (List.mem_of_getElem? (i := 17) rfl))) Via.refl e2 F_size_o0 (g := (mkF m 19 #[.val (.ref o0), .val (.long q1), .second, .val (.int (56 : Int32))] [(.ref o0), (.ref o0), (.ref w1_buf)])) rfl rfl (hb hby d6_19)
  obtain ⟨T4, h4, X4, e4, W4, st4⟩ := putF X3 hx hZ hown (host := "") (Or.inl (hw _ (List.mem_of_getElem? (i := 17) rfl))) Via.refl e3 F_size_o0 E_o0 (Or.inl (hw _ (List.mem_of_getElem? (i := 18) rfl))) (hw _ (List.mem_of_getElem? (i := 1) rfl)) (ty := .int) (by decide) rfl rfl (g := (mkF m 25 #[.val (.ref o0), .val (.long q1), .second, .val (.int (56 : Int32))] [(.int (1 : Int32)), (.ref o0), (.int (0 : Int32)), (.ref w1_buf)])) rfl rfl (hb hby d6_25)
  have Fw4 := F_size_o0.same W4
  have N4 := Fr.snoc X4 N1 g_o0
  have z5 : n0 ≤ h4.size := Nat.le_trans Z0 (Keep.of_wr W4).1
  have hs6 : h0.size ≤ h4.size := Nat.le_trans (Nat.le_refl h0.size) (Keep.of_wr W4).1
  have k7 := (V_w1_buf.other W4 ne_w1_buf_o0)
  obtain ⟨cl8, Ar8, qc8, S8, M8, Ha8, G8⟩ := id k7
  have hin9 : ¬ ((0 : Int32) < 0 ∨ cl8.slots.size ≤ ((0 : Int32)).toNatClampNeg) := inb_of S8 ⟨by decide, by decide⟩
  obtain ⟨T10, h10, X10, e10, W10, st10⟩ := stB X4 hx hZ e4 Ar8 (j := (0 : Int32)) hin9 (g := (mkF m 33 #[.val (.ref o0), .val (.long q1), .second, .val (.int (56 : Int32))] [(.int (((XT.ushrL q1 (56 : Int32)).toInt32).toInt8.toInt32)), (.int (0 : Int32)), (.ref w1_buf)])) rfl rfl (hb hby d6_33)
  have V10 : Arv Z h10 w1_buf kA .byte (64 : Int32) [(.int (nar .byte (vnu0_1 q1))), u1, u2, u3, u4, u5, u6, u7, u8, u9, u10, u11, u12, u13, u14, u15, u16, u17, u18, u19, u20, u21, u22, u23, u24, u25, u26, u27, u28, u29, u30, u31, u32, u33, u34, u35, u36, u37, u38, u39, u40, u41, u42, u43, u44, u45, u46, u47, u48, u49, u50, u51, u52, u53, u54, u55, u56, u57, u58, u59, u60, u61, u62, u63] (.int (0 : Int32)) := Arv.set Ar8 qc8 S8 M8 Ha8 G8 (fits_nar_byte (vnu0_1 q1)) W10 0 rfl (Nat.le_of_ble_eq_true rfl)
  have N10 := Fr.snoc X10 N4 g_w1_buf
  have z11 : n0 ≤ h10.size := Nat.le_trans z5 (Keep.of_wr W10).1
  have hs12 : h0.size ≤ h10.size := Nat.le_trans hs6 (Keep.of_wr W10).1
  have k13 := ((F_written_o0.other W4 (Or.inr (slot_ne (Or.inl (hw _ (List.mem_of_getElem? (i := 11) rfl))) (Or.inl (hw _ (List.mem_of_getElem? (i := 18) rfl))) (by decide) (t := (.array .byte)) (t' := .int) (by decide) (by decide)))).other W10 (Or.inl (Ne.symm ne_w1_buf_o0)))
  obtain ⟨T14, X14, e14, st14⟩ := getF X10 hx hZ hown (host := "") (Or.inl (hw _ (List.mem_of_getElem? (i := 10) rfl))) Via.refl e10 k13 (g := (mkF m 14 #[.val (.ref o0), .val (.long q1), .second, .val (.int (48 : Int32))] [(.ref o0)])) rfl rfl (hb hby d6_14)
  have k15 := (Fw4.other W10 (Or.inl (Ne.symm ne_w1_buf_o0)))
  obtain ⟨T16, X16, e16, st16⟩ := getF X14 hx hZ hown (host := "") (Or.inl (hw _ (List.mem_of_getElem? (i := 17) rfl))) Via.refl e14 k15 (g := (mkF m 19 #[.val (.ref o0), .val (.long q1), .second, .val (.int (48 : Int32))] [(.ref o0), (.ref o0), (.ref w1_buf)])) rfl rfl (hb hby d6_19)
  have k17 := ((E_o0.wr W4).wr W10)
  obtain ⟨T18, h18, X18, e18, W18, st18⟩ := putF X16 hx hZ hown (host := "") (Or.inl (hw _ (List.mem_of_getElem? (i := 17) rfl))) Via.refl e16 k15 k17 (Or.inl (hw _ (List.mem_of_getElem? (i := 18) rfl))) (hw _ (List.mem_of_getElem? (i := 1) rfl)) (ty := .int) (by decide) rfl rfl (g := (mkF m 25 #[.val (.ref o0), .val (.long q1), .second, .val (.int (48 : Int32))] [(.int (2 : Int32)), (.ref o0), (.int (1 : Int32)), (.ref w1_buf)])) rfl rfl (hb hby d6_25)
  have Fw18 := k15.same W18
  have N18 := Fr.snoc X18 N10 g_o0
  have z19 : n0 ≤ h18.size := Nat.le_trans z11 (Keep.of_wr W18).1
  have hs20 : h0.size ≤ h18.size := Nat.le_trans hs12 (Keep.of_wr W18).1
  have k21 := (V10.other W18 ne_w1_buf_o0)
  obtain ⟨cl22, Ar22, qc22, S22, M22, Ha22, G22⟩ := id k21
  have hin23 : ¬ ((1 : Int32) < 0 ∨ cl22.slots.size ≤ ((1 : Int32)).toNatClampNeg) := inb_of S22 ⟨by decide, by decide⟩
  obtain ⟨T24, h24, X24, e24, W24, st24⟩ := stB X18 hx hZ e18 Ar22 (j := (1 : Int32)) hin23 (g := (mkF m 33 #[.val (.ref o0), .val (.long q1), .second, .val (.int (48 : Int32))] [(.int (((XT.ushrL q1 (48 : Int32)).toInt32).toInt8.toInt32)), (.int (1 : Int32)), (.ref w1_buf)])) rfl rfl (hb hby d6_33)
  have V24 : Arv Z h24 w1_buf kA .byte (64 : Int32) [(.int (nar .byte (vnu0_1 q1))), (.int (nar .byte (vnu0_2 q1))), u2, u3, u4, u5, u6, u7, u8, u9, u10, u11, u12, u13, u14, u15, u16, u17, u18, u19, u20, u21, u22, u23, u24, u25, u26, u27, u28, u29, u30, u31, u32, u33, u34, u35, u36, u37, u38, u39, u40, u41, u42, u43, u44, u45, u46, u47, u48, u49, u50, u51, u52, u53, u54, u55, u56, u57, u58, u59, u60, u61, u62, u63] (.int (0 : Int32)) := Arv.set Ar22 qc22 S22 M22 Ha22 G22 (fits_nar_byte (vnu0_2 q1)) W24 1 rfl (Nat.le_of_ble_eq_true rfl)
  have N24 := Fr.snoc X24 N18 g_w1_buf
  have z25 : n0 ≤ h24.size := Nat.le_trans z19 (Keep.of_wr W24).1
  have hs26 : h0.size ≤ h24.size := Nat.le_trans hs20 (Keep.of_wr W24).1
  have k27 := ((k13.other W18 (Or.inr (slot_ne (Or.inl (hw _ (List.mem_of_getElem? (i := 11) rfl))) (Or.inl (hw _ (List.mem_of_getElem? (i := 18) rfl))) (by decide) (t := (.array .byte)) (t' := .int) (by decide) (by decide)))).other W24 (Or.inl (Ne.symm ne_w1_buf_o0)))
  obtain ⟨T28, X28, e28, st28⟩ := getF X24 hx hZ hown (host := "") (Or.inl (hw _ (List.mem_of_getElem? (i := 10) rfl))) Via.refl e24 k27 (g := (mkF m 14 #[.val (.ref o0), .val (.long q1), .second, .val (.int (40 : Int32))] [(.ref o0)])) rfl rfl (hb hby d6_14)
  have k29 := (Fw18.other W24 (Or.inl (Ne.symm ne_w1_buf_o0)))
  obtain ⟨T30, X30, e30, st30⟩ := getF X28 hx hZ hown (host := "") (Or.inl (hw _ (List.mem_of_getElem? (i := 17) rfl))) Via.refl e28 k29 (g := (mkF m 19 #[.val (.ref o0), .val (.long q1), .second, .val (.int (40 : Int32))] [(.ref o0), (.ref o0), (.ref w1_buf)])) rfl rfl (hb hby d6_19)
  have k31 := ((k17.wr W18).wr W24)
  obtain ⟨T32, h32, X32, e32, W32, st32⟩ := putF X30 hx hZ hown (host := "") (Or.inl (hw _ (List.mem_of_getElem? (i := 17) rfl))) Via.refl e30 k29 k31 (Or.inl (hw _ (List.mem_of_getElem? (i := 18) rfl))) (hw _ (List.mem_of_getElem? (i := 1) rfl)) (ty := .int) (by decide) rfl rfl (g := (mkF m 25 #[.val (.ref o0), .val (.long q1), .second, .val (.int (40 : Int32))] [(.int (3 : Int32)), (.ref o0), (.int (2 : Int32)), (.ref w1_buf)])) rfl rfl (hb hby d6_25)
  have Fw32 := k29.same W32
  have N32 := Fr.snoc X32 N24 g_o0
  have z33 : n0 ≤ h32.size := Nat.le_trans z25 (Keep.of_wr W32).1
  have hs34 : h0.size ≤ h32.size := Nat.le_trans hs26 (Keep.of_wr W32).1
  have k35 := (V24.other W32 ne_w1_buf_o0)
  obtain ⟨cl36, Ar36, qc36, S36, M36, Ha36, G36⟩ := id k35
  have hin37 : ¬ ((2 : Int32) < 0 ∨ cl36.slots.size ≤ ((2 : Int32)).toNatClampNeg) := inb_of S36 ⟨by decide, by decide⟩
  obtain ⟨T38, h38, X38, e38, W38, st38⟩ := stB X32 hx hZ e32 Ar36 (j := (2 : Int32)) hin37 (g := (mkF m 33 #[.val (.ref o0), .val (.long q1), .second, .val (.int (40 : Int32))] [(.int (((XT.ushrL q1 (40 : Int32)).toInt32).toInt8.toInt32)), (.int (2 : Int32)), (.ref w1_buf)])) rfl rfl (hb hby d6_33)
  have V38 : Arv Z h38 w1_buf kA .byte (64 : Int32) [(.int (nar .byte (vnu0_1 q1))), (.int (nar .byte (vnu0_2 q1))), (.int (nar .byte (vnu0_3 q1))), u3, u4, u5, u6, u7, u8, u9, u10, u11, u12, u13, u14, u15, u16, u17, u18, u19, u20, u21, u22, u23, u24, u25, u26, u27, u28, u29, u30, u31, u32, u33, u34, u35, u36, u37, u38, u39, u40, u41, u42, u43, u44, u45, u46, u47, u48, u49, u50, u51, u52, u53, u54, u55, u56, u57, u58, u59, u60, u61, u62, u63] (.int (0 : Int32)) := Arv.set Ar36 qc36 S36 M36 Ha36 G36 (fits_nar_byte (vnu0_3 q1)) W38 2 rfl (Nat.le_of_ble_eq_true rfl)
  have N38 := Fr.snoc X38 N32 g_w1_buf
  have z39 : n0 ≤ h38.size := Nat.le_trans z33 (Keep.of_wr W38).1
  have hs40 : h0.size ≤ h38.size := Nat.le_trans hs34 (Keep.of_wr W38).1
  have k41 := ((k27.other W32 (Or.inr (slot_ne (Or.inl (hw _ (List.mem_of_getElem? (i := 11) rfl))) (Or.inl (hw _ (List.mem_of_getElem? (i := 18) rfl))) (by decide) (t := (.array .byte)) (t' := .int) (by decide) (by decide)))).other W38 (Or.inl (Ne.symm ne_w1_buf_o0)))
  obtain ⟨T42, X42, e42, st42⟩ := getF X38 hx hZ hown (host := "") (Or.inl (hw _ (List.mem_of_getElem? (i := 10) rfl))) Via.refl e38 k41 (g := (mkF m 14 #[.val (.ref o0), .val (.long q1), .second, .val (.int (32 : Int32))] [(.ref o0)])) rfl rfl (hb hby d6_14)
  have k43 := (Fw32.other W38 (Or.inl (Ne.symm ne_w1_buf_o0)))
  obtain ⟨T44, X44, e44, st44⟩ := getF X42 hx hZ hown (host := "") (Or.inl (hw _ (List.mem_of_getElem? (i := 17) rfl))) Via.refl e42 k43 (g := (mkF m 19 #[.val (.ref o0), .val (.long q1), .second, .val (.int (32 : Int32))] [(.ref o0), (.ref o0), (.ref w1_buf)])) rfl rfl (hb hby d6_19)
  have k45 := ((k31.wr W32).wr W38)
  obtain ⟨T46, h46, X46, e46, W46, st46⟩ := putF X44 hx hZ hown (host := "") (Or.inl (hw _ (List.mem_of_getElem? (i := 17) rfl))) Via.refl e44 k43 k45 (Or.inl (hw _ (List.mem_of_getElem? (i := 18) rfl))) (hw _ (List.mem_of_getElem? (i := 1) rfl)) (ty := .int) (by decide) rfl rfl (g := (mkF m 25 #[.val (.ref o0), .val (.long q1), .second, .val (.int (32 : Int32))] [(.int (4 : Int32)), (.ref o0), (.int (3 : Int32)), (.ref w1_buf)])) rfl rfl (hb hby d6_25)
  have Fw46 := k43.same W46
  have N46 := Fr.snoc X46 N38 g_o0
  have z47 : n0 ≤ h46.size := Nat.le_trans z39 (Keep.of_wr W46).1
  have hs48 : h0.size ≤ h46.size := Nat.le_trans hs40 (Keep.of_wr W46).1
  have k49 := (V38.other W46 ne_w1_buf_o0)
  obtain ⟨cl50, Ar50, qc50, S50, M50, Ha50, G50⟩ := id k49
  have hin51 : ¬ ((3 : Int32) < 0 ∨ cl50.slots.size ≤ ((3 : Int32)).toNatClampNeg) := inb_of S50 ⟨by decide, by decide⟩
  obtain ⟨T52, h52, X52, e52, W52, st52⟩ := stB X46 hx hZ e46 Ar50 (j := (3 : Int32)) hin51 (g := (mkF m 33 #[.val (.ref o0), .val (.long q1), .second, .val (.int (32 : Int32))] [(.int (((XT.ushrL q1 (32 : Int32)).toInt32).toInt8.toInt32)), (.int (3 : Int32)), (.ref w1_buf)])) rfl rfl (hb hby d6_33)
  have V52 : Arv Z h52 w1_buf kA .byte (64 : Int32) [(.int (nar .byte (vnu0_1 q1))), (.int (nar .byte (vnu0_2 q1))), (.int (nar .byte (vnu0_3 q1))), (.int (nar .byte (vnu0_4 q1))), u4, u5, u6, u7, u8, u9, u10, u11, u12, u13, u14, u15, u16, u17, u18, u19, u20, u21, u22, u23, u24, u25, u26, u27, u28, u29, u30, u31, u32, u33, u34, u35, u36, u37, u38, u39, u40, u41, u42, u43, u44, u45, u46, u47, u48, u49, u50, u51, u52, u53, u54, u55, u56, u57, u58, u59, u60, u61, u62, u63] (.int (0 : Int32)) := Arv.set Ar50 qc50 S50 M50 Ha50 G50 (fits_nar_byte (vnu0_4 q1)) W52 3 rfl (Nat.le_of_ble_eq_true rfl)
  have N52 := Fr.snoc X52 N46 g_w1_buf
  have z53 : n0 ≤ h52.size := Nat.le_trans z47 (Keep.of_wr W52).1
  have hs54 : h0.size ≤ h52.size := Nat.le_trans hs48 (Keep.of_wr W52).1
  have k55 := ((k41.other W46 (Or.inr (slot_ne (Or.inl (hw _ (List.mem_of_getElem? (i := 11) rfl))) (Or.inl (hw _ (List.mem_of_getElem? (i := 18) rfl))) (by decide) (t := (.array .byte)) (t' := .int) (by decide) (by decide)))).other W52 (Or.inl (Ne.symm ne_w1_buf_o0)))
  obtain ⟨T56, X56, e56, st56⟩ := getF X52 hx hZ hown (host := "") (Or.inl (hw _ (List.mem_of_getElem? (i := 10) rfl))) Via.refl e52 k55 (g := (mkF m 14 #[.val (.ref o0), .val (.long q1), .second, .val (.int (24 : Int32))] [(.ref o0)])) rfl rfl (hb hby d6_14)
  have k57 := (Fw46.other W52 (Or.inl (Ne.symm ne_w1_buf_o0)))
  obtain ⟨T58, X58, e58, st58⟩ := getF X56 hx hZ hown (host := "") (Or.inl (hw _ (List.mem_of_getElem? (i := 17) rfl))) Via.refl e56 k57 (g := (mkF m 19 #[.val (.ref o0), .val (.long q1), .second, .val (.int (24 : Int32))] [(.ref o0), (.ref o0), (.ref w1_buf)])) rfl rfl (hb hby d6_19)
  have k59 := ((k45.wr W46).wr W52)
  obtain ⟨T60, h60, X60, e60, W60, st60⟩ := putF X58 hx hZ hown (host := "") (Or.inl (hw _ (List.mem_of_getElem? (i := 17) rfl))) Via.refl e58 k57 k59 (Or.inl (hw _ (List.mem_of_getElem? (i := 18) rfl))) (hw _ (List.mem_of_getElem? (i := 1) rfl)) (ty := .int) (by decide) rfl rfl (g := (mkF m 25 #[.val (.ref o0), .val (.long q1), .second, .val (.int (24 : Int32))] [(.int (5 : Int32)), (.ref o0), (.int (4 : Int32)), (.ref w1_buf)])) rfl rfl (hb hby d6_25)
  have Fw60 := k57.same W60
  have N60 := Fr.snoc X60 N52 g_o0
  have z61 : n0 ≤ h60.size := Nat.le_trans z53 (Keep.of_wr W60).1
  have hs62 : h0.size ≤ h60.size := Nat.le_trans hs54 (Keep.of_wr W60).1
  have k63 := (V52.other W60 ne_w1_buf_o0)
  obtain ⟨cl64, Ar64, qc64, S64, M64, Ha64, G64⟩ := id k63
  have hin65 : ¬ ((4 : Int32) < 0 ∨ cl64.slots.size ≤ ((4 : Int32)).toNatClampNeg) := inb_of S64 ⟨by decide, by decide⟩
  obtain ⟨T66, h66, X66, e66, W66, st66⟩ := stB X60 hx hZ e60 Ar64 (j := (4 : Int32)) hin65 (g := (mkF m 33 #[.val (.ref o0), .val (.long q1), .second, .val (.int (24 : Int32))] [(.int (((XT.ushrL q1 (24 : Int32)).toInt32).toInt8.toInt32)), (.int (4 : Int32)), (.ref w1_buf)])) rfl rfl (hb hby d6_33)
  have V66 : Arv Z h66 w1_buf kA .byte (64 : Int32) [(.int (nar .byte (vnu0_1 q1))), (.int (nar .byte (vnu0_2 q1))), (.int (nar .byte (vnu0_3 q1))), (.int (nar .byte (vnu0_4 q1))), (.int (nar .byte (vnu0_5 q1))), u5, u6, u7, u8, u9, u10, u11, u12, u13, u14, u15, u16, u17, u18, u19, u20, u21, u22, u23, u24, u25, u26, u27, u28, u29, u30, u31, u32, u33, u34, u35, u36, u37, u38, u39, u40, u41, u42, u43, u44, u45, u46, u47, u48, u49, u50, u51, u52, u53, u54, u55, u56, u57, u58, u59, u60, u61, u62, u63] (.int (0 : Int32)) := Arv.set Ar64 qc64 S64 M64 Ha64 G64 (fits_nar_byte (vnu0_5 q1)) W66 4 rfl (Nat.le_of_ble_eq_true rfl)
  have N66 := Fr.snoc X66 N60 g_w1_buf
  have z67 : n0 ≤ h66.size := Nat.le_trans z61 (Keep.of_wr W66).1
  have hs68 : h0.size ≤ h66.size := Nat.le_trans hs62 (Keep.of_wr W66).1
  have k69 := ((k55.other W60 (Or.inr (slot_ne (Or.inl (hw _ (List.mem_of_getElem? (i := 11) rfl))) (Or.inl (hw _ (List.mem_of_getElem? (i := 18) rfl))) (by decide) (t := (.array .byte)) (t' := .int) (by decide) (by decide)))).other W66 (Or.inl (Ne.symm ne_w1_buf_o0)))
  obtain ⟨T70, X70, e70, st70⟩ := getF X66 hx hZ hown (host := "") (Or.inl (hw _ (List.mem_of_getElem? (i := 10) rfl))) Via.refl e66 k69 (g := (mkF m 14 #[.val (.ref o0), .val (.long q1), .second, .val (.int (16 : Int32))] [(.ref o0)])) rfl rfl (hb hby d6_14)
  have k71 := (Fw60.other W66 (Or.inl (Ne.symm ne_w1_buf_o0)))
  obtain ⟨T72, X72, e72, st72⟩ := getF X70 hx hZ hown (host := "") (Or.inl (hw _ (List.mem_of_getElem? (i := 17) rfl))) Via.refl e70 k71 (g := (mkF m 19 #[.val (.ref o0), .val (.long q1), .second, .val (.int (16 : Int32))] [(.ref o0), (.ref o0), (.ref w1_buf)])) rfl rfl (hb hby d6_19)
  have k73 := ((k59.wr W60).wr W66)
  obtain ⟨T74, h74, X74, e74, W74, st74⟩ := putF X72 hx hZ hown (host := "") (Or.inl (hw _ (List.mem_of_getElem? (i := 17) rfl))) Via.refl e72 k71 k73 (Or.inl (hw _ (List.mem_of_getElem? (i := 18) rfl))) (hw _ (List.mem_of_getElem? (i := 1) rfl)) (ty := .int) (by decide) rfl rfl (g := (mkF m 25 #[.val (.ref o0), .val (.long q1), .second, .val (.int (16 : Int32))] [(.int (6 : Int32)), (.ref o0), (.int (5 : Int32)), (.ref w1_buf)])) rfl rfl (hb hby d6_25)
  have Fw74 := k71.same W74
  have N74 := Fr.snoc X74 N66 g_o0
  have z75 : n0 ≤ h74.size := Nat.le_trans z67 (Keep.of_wr W74).1
  have hs76 : h0.size ≤ h74.size := Nat.le_trans hs68 (Keep.of_wr W74).1
  have k77 := (V66.other W74 ne_w1_buf_o0)
  obtain ⟨cl78, Ar78, qc78, S78, M78, Ha78, G78⟩ := id k77
  have hin79 : ¬ ((5 : Int32) < 0 ∨ cl78.slots.size ≤ ((5 : Int32)).toNatClampNeg) := inb_of S78 ⟨by decide, by decide⟩
  obtain ⟨T80, h80, X80, e80, W80, st80⟩ := stB X74 hx hZ e74 Ar78 (j := (5 : Int32)) hin79 (g := (mkF m 33 #[.val (.ref o0), .val (.long q1), .second, .val (.int (16 : Int32))] [(.int (((XT.ushrL q1 (16 : Int32)).toInt32).toInt8.toInt32)), (.int (5 : Int32)), (.ref w1_buf)])) rfl rfl (hb hby d6_33)
  have V80 : Arv Z h80 w1_buf kA .byte (64 : Int32) [(.int (nar .byte (vnu0_1 q1))), (.int (nar .byte (vnu0_2 q1))), (.int (nar .byte (vnu0_3 q1))), (.int (nar .byte (vnu0_4 q1))), (.int (nar .byte (vnu0_5 q1))), (.int (nar .byte (vnu0_6 q1))), u6, u7, u8, u9, u10, u11, u12, u13, u14, u15, u16, u17, u18, u19, u20, u21, u22, u23, u24, u25, u26, u27, u28, u29, u30, u31, u32, u33, u34, u35, u36, u37, u38, u39, u40, u41, u42, u43, u44, u45, u46, u47, u48, u49, u50, u51, u52, u53, u54, u55, u56, u57, u58, u59, u60, u61, u62, u63] (.int (0 : Int32)) := Arv.set Ar78 qc78 S78 M78 Ha78 G78 (fits_nar_byte (vnu0_6 q1)) W80 5 rfl (Nat.le_of_ble_eq_true rfl)
  have N80 := Fr.snoc X80 N74 g_w1_buf
  have z81 : n0 ≤ h80.size := Nat.le_trans z75 (Keep.of_wr W80).1
  have hs82 : h0.size ≤ h80.size := Nat.le_trans hs76 (Keep.of_wr W80).1
  have k83 := ((k69.other W74 (Or.inr (slot_ne (Or.inl (hw _ (List.mem_of_getElem? (i := 11) rfl))) (Or.inl (hw _ (List.mem_of_getElem? (i := 18) rfl))) (by decide) (t := (.array .byte)) (t' := .int) (by decide) (by decide)))).other W80 (Or.inl (Ne.symm ne_w1_buf_o0)))
  obtain ⟨T84, X84, e84, st84⟩ := getF X80 hx hZ hown (host := "") (Or.inl (hw _ (List.mem_of_getElem? (i := 10) rfl))) Via.refl e80 k83 (g := (mkF m 14 #[.val (.ref o0), .val (.long q1), .second, .val (.int (8 : Int32))] [(.ref o0)])) rfl rfl (hb hby d6_14)
  have k85 := (Fw74.other W80 (Or.inl (Ne.symm ne_w1_buf_o0)))
  obtain ⟨T86, X86, e86, st86⟩ := getF X84 hx hZ hown (host := "") (Or.inl (hw _ (List.mem_of_getElem? (i := 17) rfl))) Via.refl e84 k85 (g := (mkF m 19 #[.val (.ref o0), .val (.long q1), .second, .val (.int (8 : Int32))] [(.ref o0), (.ref o0), (.ref w1_buf)])) rfl rfl (hb hby d6_19)
  have k87 := ((k73.wr W74).wr W80)
  obtain ⟨T88, h88, X88, e88, W88, st88⟩ := putF X86 hx hZ hown (host := "") (Or.inl (hw _ (List.mem_of_getElem? (i := 17) rfl))) Via.refl e86 k85 k87 (Or.inl (hw _ (List.mem_of_getElem? (i := 18) rfl))) (hw _ (List.mem_of_getElem? (i := 1) rfl)) (ty := .int) (by decide) rfl rfl (g := (mkF m 25 #[.val (.ref o0), .val (.long q1), .second, .val (.int (8 : Int32))] [(.int (7 : Int32)), (.ref o0), (.int (6 : Int32)), (.ref w1_buf)])) rfl rfl (hb hby d6_25)
  have Fw88 := k85.same W88
  have N88 := Fr.snoc X88 N80 g_o0
  have z89 : n0 ≤ h88.size := Nat.le_trans z81 (Keep.of_wr W88).1
  have hs90 : h0.size ≤ h88.size := Nat.le_trans hs82 (Keep.of_wr W88).1
  have k91 := (V80.other W88 ne_w1_buf_o0)
  obtain ⟨cl92, Ar92, qc92, S92, M92, Ha92, G92⟩ := id k91
  have hin93 : ¬ ((6 : Int32) < 0 ∨ cl92.slots.size ≤ ((6 : Int32)).toNatClampNeg) := inb_of S92 ⟨by decide, by decide⟩
  obtain ⟨T94, h94, X94, e94, W94, st94⟩ := stB X88 hx hZ e88 Ar92 (j := (6 : Int32)) hin93 (g := (mkF m 33 #[.val (.ref o0), .val (.long q1), .second, .val (.int (8 : Int32))] [(.int (((XT.ushrL q1 (8 : Int32)).toInt32).toInt8.toInt32)), (.int (6 : Int32)), (.ref w1_buf)])) rfl rfl (hb hby d6_33)
  have V94 : Arv Z h94 w1_buf kA .byte (64 : Int32) [(.int (nar .byte (vnu0_1 q1))), (.int (nar .byte (vnu0_2 q1))), (.int (nar .byte (vnu0_3 q1))), (.int (nar .byte (vnu0_4 q1))), (.int (nar .byte (vnu0_5 q1))), (.int (nar .byte (vnu0_6 q1))), (.int (nar .byte (vnu0_7 q1))), u7, u8, u9, u10, u11, u12, u13, u14, u15, u16, u17, u18, u19, u20, u21, u22, u23, u24, u25, u26, u27, u28, u29, u30, u31, u32, u33, u34, u35, u36, u37, u38, u39, u40, u41, u42, u43, u44, u45, u46, u47, u48, u49, u50, u51, u52, u53, u54, u55, u56, u57, u58, u59, u60, u61, u62, u63] (.int (0 : Int32)) := Arv.set Ar92 qc92 S92 M92 Ha92 G92 (fits_nar_byte (vnu0_7 q1)) W94 6 rfl (Nat.le_of_ble_eq_true rfl)
  have N94 := Fr.snoc X94 N88 g_w1_buf
  have z95 : n0 ≤ h94.size := Nat.le_trans z89 (Keep.of_wr W94).1
  have hs96 : h0.size ≤ h94.size := Nat.le_trans hs90 (Keep.of_wr W94).1
  have k97 := ((k83.other W88 (Or.inr (slot_ne (Or.inl (hw _ (List.mem_of_getElem? (i := 11) rfl))) (Or.inl (hw _ (List.mem_of_getElem? (i := 18) rfl))) (by decide) (t := (.array .byte)) (t' := .int) (by decide) (by decide)))).other W94 (Or.inl (Ne.symm ne_w1_buf_o0)))
  obtain ⟨T98, X98, e98, st98⟩ := getF X94 hx hZ hown (host := "") (Or.inl (hw _ (List.mem_of_getElem? (i := 10) rfl))) Via.refl e94 k97 (g := (mkF m 14 #[.val (.ref o0), .val (.long q1), .second, .val (.int (0 : Int32))] [(.ref o0)])) rfl rfl (hb hby d6_14)
  have k99 := (Fw88.other W94 (Or.inl (Ne.symm ne_w1_buf_o0)))
  obtain ⟨T100, X100, e100, st100⟩ := getF X98 hx hZ hown (host := "") (Or.inl (hw _ (List.mem_of_getElem? (i := 17) rfl))) Via.refl e98 k99 (g := (mkF m 19 #[.val (.ref o0), .val (.long q1), .second, .val (.int (0 : Int32))] [(.ref o0), (.ref o0), (.ref w1_buf)])) rfl rfl (hb hby d6_19)
  have k101 := ((k87.wr W88).wr W94)
  obtain ⟨T102, h102, X102, e102, W102, st102⟩ := putF X100 hx hZ hown (host := "") (Or.inl (hw _ (List.mem_of_getElem? (i := 17) rfl))) Via.refl e100 k99 k101 (Or.inl (hw _ (List.mem_of_getElem? (i := 18) rfl))) (hw _ (List.mem_of_getElem? (i := 1) rfl)) (ty := .int) (by decide) rfl rfl (g := (mkF m 25 #[.val (.ref o0), .val (.long q1), .second, .val (.int (0 : Int32))] [(.int (8 : Int32)), (.ref o0), (.int (7 : Int32)), (.ref w1_buf)])) rfl rfl (hb hby d6_25)
  have Fw102 := k99.same W102
  have N102 := Fr.snoc X102 N94 g_o0
  have z103 : n0 ≤ h102.size := Nat.le_trans z95 (Keep.of_wr W102).1
  have hs104 : h0.size ≤ h102.size := Nat.le_trans hs96 (Keep.of_wr W102).1
  have k105 := (V94.other W102 ne_w1_buf_o0)
  obtain ⟨cl106, Ar106, qc106, S106, M106, Ha106, G106⟩ := id k105
  have hin107 : ¬ ((7 : Int32) < 0 ∨ cl106.slots.size ≤ ((7 : Int32)).toNatClampNeg) := inb_of S106 ⟨by decide, by decide⟩
  obtain ⟨T108, h108, X108, e108, W108, st108⟩ := stB X102 hx hZ e102 Ar106 (j := (7 : Int32)) hin107 (g := (mkF m 33 #[.val (.ref o0), .val (.long q1), .second, .val (.int (0 : Int32))] [(.int (((XT.ushrL q1 (0 : Int32)).toInt32).toInt8.toInt32)), (.int (7 : Int32)), (.ref w1_buf)])) rfl rfl (hb hby d6_33)
  have V108 : Arv Z h108 w1_buf kA .byte (64 : Int32) [(.int (nar .byte (vnu0_1 q1))), (.int (nar .byte (vnu0_2 q1))), (.int (nar .byte (vnu0_3 q1))), (.int (nar .byte (vnu0_4 q1))), (.int (nar .byte (vnu0_5 q1))), (.int (nar .byte (vnu0_6 q1))), (.int (nar .byte (vnu0_7 q1))), (.int (nar .byte (vnu0_8 q1))), u8, u9, u10, u11, u12, u13, u14, u15, u16, u17, u18, u19, u20, u21, u22, u23, u24, u25, u26, u27, u28, u29, u30, u31, u32, u33, u34, u35, u36, u37, u38, u39, u40, u41, u42, u43, u44, u45, u46, u47, u48, u49, u50, u51, u52, u53, u54, u55, u56, u57, u58, u59, u60, u61, u62, u63] (.int (0 : Int32)) := Arv.set Ar106 qc106 S106 M106 Ha106 G106 (fits_nar_byte (vnu0_8 q1)) W108 7 rfl (Nat.le_of_ble_eq_true rfl)
  have N108 := Fr.snoc X108 N102 g_w1_buf
  have z109 : n0 ≤ h108.size := Nat.le_trans z103 (Keep.of_wr W108).1
  have hs110 : h0.size ≤ h108.size := Nat.le_trans hs104 (Keep.of_wr W108).1
  obtain ⟨fs, hr, hrun, hended, hW, hsame⟩ := X108.leave (v := some (.ref o0)) (fun h => by rw [Bd.returns] at h; cases h) hlk
  refine ⟨_, _, pre0 _ ?_, hrun, hended, _, _, rfl, ?_, ⟨_, rfl⟩, hW, hsame.mono (by decide) (by decide)⟩
  · skip
    show Steps p.tables e below (s₁.setTop (mkF m 0 #[.val (.ref o0), .val (.long q1), .second, .unset] [])) _
    refine XS.aloadN X0.here hx rfl (hb hby d6_0) rfl rfl ?_
    show Steps p.tables e below (s₁.setTop (mkF m 1 #[.val (.ref o0), .val (.long q1), .second, .unset] [(.ref o0)])) _
    refine XT.bipushV X0.here hx rfl (8 : Int32) (hb hby d6_1) (by decide) ?_
    show Steps p.tables e below (s₁.setTop (mkF m 3 #[.val (.ref o0), .val (.long q1), .second, .unset] [(.int (8 : Int32)), (.ref o0)])) _
    refine st1.trans ?_
    show Steps p.tables e below (T1.setTop (mkF m 6 #[.val (.ref o0), .val (.long q1), .second, .unset] [])) _
    refine XT.bipushV X1.here hx rfl (56 : Int32) (hb hby d6_6) (by decide) ?_
    show Steps p.tables e below (T1.setTop (mkF m 8 #[.val (.ref o0), .val (.long q1), .second, .unset] [(.int (56 : Int32))])) _
    refine XS.istoreN X1.here hx rfl (hb hby d6_8) rfl (l' := #[.val (.ref o0), .val (.long q1), .second, .val (.int (56 : Int32))]) rfl ?_
    show Steps p.tables e below (T1.setTop (mkF m 9 #[.val (.ref o0), .val (.long q1), .second, .val (.int (56 : Int32))] [])) _
    refine XS.iloadN X1.here hx rfl (hb hby d6_9) rfl ?_
    show Steps p.tables e below (T1.setTop (mkF m 10 #[.val (.ref o0), .val (.long q1), .second, .val (.int (56 : Int32))] [(.int (56 : Int32))])) _
    refine XS.ifNo X1.here hx rfl (hb hby d6_10) rfl (XT.i0_lt_f (by decide)) ?_
    show Steps p.tables e below (T1.setTop (mkF m 13 #[.val (.ref o0), .val (.long q1), .second, .val (.int (56 : Int32))] [])) _
    refine XS.aloadN X1.here hx rfl (hb hby d6_13) rfl rfl ?_
    show Steps p.tables e below (T1.setTop (mkF m 14 #[.val (.ref o0), .val (.long q1), .second, .val (.int (56 : Int32))] [(.ref o0)])) _
    refine st2 _ ?_
    show Steps p.tables e below (T2.setTop (mkF m 17 #[.val (.ref o0), .val (.long q1), .second, .val (.int (56 : Int32))] [(.ref w1_buf)])) _
    refine XS.aloadN X2.here hx rfl (hb hby d6_17) rfl rfl ?_
    show Steps p.tables e below (T2.setTop (mkF m 18 #[.val (.ref o0), .val (.long q1), .second, .val (.int (56 : Int32))] [(.ref o0), (.ref w1_buf)])) _
    refine XS.dup X2.here hx rfl (hb hby d6_18) rfl rfl ?_
    show Steps p.tables e below (T2.setTop (mkF m 19 #[.val (.ref o0), .val (.long q1), .second, .val (.int (56 : Int32))] [(.ref o0), (.ref o0), (.ref w1_buf)])) _
    refine st3 _ ?_
    show Steps p.tables e below (T3.setTop (mkF m 22 #[.val (.ref o0), .val (.long q1), .second, .val (.int (56 : Int32))] [(.int (0 : Int32)), (.ref o0), (.ref w1_buf)])) _
    refine XT.dupX1 X3.here hx rfl (hb hby d6_22) rfl rfl rfl ?_
    show Steps p.tables e below (T3.setTop (mkF m 23 #[.val (.ref o0), .val (.long q1), .second, .val (.int (56 : Int32))] [(.int (0 : Int32)), (.ref o0), (.int (0 : Int32)), (.ref w1_buf)])) _
    refine XT.iconstV X3.here hx rfl (1 : Int32) (hb hby d6_23) (by decide) ?_
    show Steps p.tables e below (T3.setTop (mkF m 24 #[.val (.ref o0), .val (.long q1), .second, .val (.int (56 : Int32))] [(.int (1 : Int32)), (.int (0 : Int32)), (.ref o0), (.int (0 : Int32)), (.ref w1_buf)])) _
    refine XS.iadd X3.here hx rfl (hb hby d6_24) rfl ?_
    show Steps p.tables e below (T3.setTop (mkF m 25 #[.val (.ref o0), .val (.long q1), .second, .val (.int (56 : Int32))] [(.int (1 : Int32)), (.ref o0), (.int (0 : Int32)), (.ref w1_buf)])) _
    refine st4 _ ?_
    show Steps p.tables e below (T4.setTop (mkF m 28 #[.val (.ref o0), .val (.long q1), .second, .val (.int (56 : Int32))] [(.int (0 : Int32)), (.ref w1_buf)])) _
    refine XT.lloadN X4.here hx rfl (hb hby d6_28) rfl ?_
    show Steps p.tables e below (T4.setTop (mkF m 29 #[.val (.ref o0), .val (.long q1), .second, .val (.int (56 : Int32))] [(.long q1), (.int (0 : Int32)), (.ref w1_buf)])) _
    refine XS.iloadN X4.here hx rfl (hb hby d6_29) rfl ?_
    show Steps p.tables e below (T4.setTop (mkF m 30 #[.val (.ref o0), .val (.long q1), .second, .val (.int (56 : Int32))] [(.int (56 : Int32)), (.long q1), (.int (0 : Int32)), (.ref w1_buf)])) _
    refine XT.lushr X4.here hx rfl (hb hby d6_30) rfl ?_
    show Steps p.tables e below (T4.setTop (mkF m 31 #[.val (.ref o0), .val (.long q1), .second, .val (.int (56 : Int32))] [(.long (XT.ushrL q1 (56 : Int32))), (.int (0 : Int32)), (.ref w1_buf)])) _
    refine XT.l2i X4.here hx rfl (hb hby d6_31) rfl ?_
    show Steps p.tables e below (T4.setTop (mkF m 32 #[.val (.ref o0), .val (.long q1), .second, .val (.int (56 : Int32))] [(.int ((XT.ushrL q1 (56 : Int32)).toInt32)), (.int (0 : Int32)), (.ref w1_buf)])) _
    refine XT.i2b X4.here hx rfl (hb hby d6_32) rfl ?_
    show Steps p.tables e below (T4.setTop (mkF m 33 #[.val (.ref o0), .val (.long q1), .second, .val (.int (56 : Int32))] [(.int (((XT.ushrL q1 (56 : Int32)).toInt32).toInt8.toInt32)), (.int (0 : Int32)), (.ref w1_buf)])) _
    refine st10 _ ?_
    show Steps p.tables e below (T10.setTop (mkF m 34 #[.val (.ref o0), .val (.long q1), .second, .val (.int (56 : Int32))] [])) _
    refine XT.iincV X10.here hx rfl (-8 : Int32) (hb hby d6_34) (by decide) rfl (l' := #[.val (.ref o0), .val (.long q1), .second, .val (.int (48 : Int32))]) rfl ?_
    show Steps p.tables e below (T10.setTop (mkF m 37 #[.val (.ref o0), .val (.long q1), .second, .val (.int (48 : Int32))] [])) _
    refine XS.goto X10.here hx rfl (pc0 := 37) (pc' := 9) rfl (hb hby d6_37) (by decide) (by decide) ?_
    show Steps p.tables e below (T10.setTop (mkF m 9 #[.val (.ref o0), .val (.long q1), .second, .val (.int (48 : Int32))] [])) _
    refine XS.iloadN X10.here hx rfl (hb hby d6_9) rfl ?_
    show Steps p.tables e below (T10.setTop (mkF m 10 #[.val (.ref o0), .val (.long q1), .second, .val (.int (48 : Int32))] [(.int (48 : Int32))])) _
    refine XS.ifNo X10.here hx rfl (hb hby d6_10) rfl (XT.i0_lt_f (by decide)) ?_
    show Steps p.tables e below (T10.setTop (mkF m 13 #[.val (.ref o0), .val (.long q1), .second, .val (.int (48 : Int32))] [])) _
    refine XS.aloadN X10.here hx rfl (hb hby d6_13) rfl rfl ?_
    show Steps p.tables e below (T10.setTop (mkF m 14 #[.val (.ref o0), .val (.long q1), .second, .val (.int (48 : Int32))] [(.ref o0)])) _
    refine st14 _ ?_
    show Steps p.tables e below (T14.setTop (mkF m 17 #[.val (.ref o0), .val (.long q1), .second, .val (.int (48 : Int32))] [(.ref w1_buf)])) _
    refine XS.aloadN X14.here hx rfl (hb hby d6_17) rfl rfl ?_
    show Steps p.tables e below (T14.setTop (mkF m 18 #[.val (.ref o0), .val (.long q1), .second, .val (.int (48 : Int32))] [(.ref o0), (.ref w1_buf)])) _
    refine XS.dup X14.here hx rfl (hb hby d6_18) rfl rfl ?_
    show Steps p.tables e below (T14.setTop (mkF m 19 #[.val (.ref o0), .val (.long q1), .second, .val (.int (48 : Int32))] [(.ref o0), (.ref o0), (.ref w1_buf)])) _
    refine st16 _ ?_
    show Steps p.tables e below (T16.setTop (mkF m 22 #[.val (.ref o0), .val (.long q1), .second, .val (.int (48 : Int32))] [(.int (1 : Int32)), (.ref o0), (.ref w1_buf)])) _
    refine XT.dupX1 X16.here hx rfl (hb hby d6_22) rfl rfl rfl ?_
    show Steps p.tables e below (T16.setTop (mkF m 23 #[.val (.ref o0), .val (.long q1), .second, .val (.int (48 : Int32))] [(.int (1 : Int32)), (.ref o0), (.int (1 : Int32)), (.ref w1_buf)])) _
    refine XT.iconstV X16.here hx rfl (1 : Int32) (hb hby d6_23) (by decide) ?_
    show Steps p.tables e below (T16.setTop (mkF m 24 #[.val (.ref o0), .val (.long q1), .second, .val (.int (48 : Int32))] [(.int (1 : Int32)), (.int (1 : Int32)), (.ref o0), (.int (1 : Int32)), (.ref w1_buf)])) _
    refine XS.iadd X16.here hx rfl (hb hby d6_24) rfl ?_
    show Steps p.tables e below (T16.setTop (mkF m 25 #[.val (.ref o0), .val (.long q1), .second, .val (.int (48 : Int32))] [(.int (2 : Int32)), (.ref o0), (.int (1 : Int32)), (.ref w1_buf)])) _
    refine st18 _ ?_
    show Steps p.tables e below (T18.setTop (mkF m 28 #[.val (.ref o0), .val (.long q1), .second, .val (.int (48 : Int32))] [(.int (1 : Int32)), (.ref w1_buf)])) _
    refine XT.lloadN X18.here hx rfl (hb hby d6_28) rfl ?_
    show Steps p.tables e below (T18.setTop (mkF m 29 #[.val (.ref o0), .val (.long q1), .second, .val (.int (48 : Int32))] [(.long q1), (.int (1 : Int32)), (.ref w1_buf)])) _
    refine XS.iloadN X18.here hx rfl (hb hby d6_29) rfl ?_
    show Steps p.tables e below (T18.setTop (mkF m 30 #[.val (.ref o0), .val (.long q1), .second, .val (.int (48 : Int32))] [(.int (48 : Int32)), (.long q1), (.int (1 : Int32)), (.ref w1_buf)])) _
    refine XT.lushr X18.here hx rfl (hb hby d6_30) rfl ?_
    show Steps p.tables e below (T18.setTop (mkF m 31 #[.val (.ref o0), .val (.long q1), .second, .val (.int (48 : Int32))] [(.long (XT.ushrL q1 (48 : Int32))), (.int (1 : Int32)), (.ref w1_buf)])) _
    refine XT.l2i X18.here hx rfl (hb hby d6_31) rfl ?_
    show Steps p.tables e below (T18.setTop (mkF m 32 #[.val (.ref o0), .val (.long q1), .second, .val (.int (48 : Int32))] [(.int ((XT.ushrL q1 (48 : Int32)).toInt32)), (.int (1 : Int32)), (.ref w1_buf)])) _
    refine XT.i2b X18.here hx rfl (hb hby d6_32) rfl ?_
    show Steps p.tables e below (T18.setTop (mkF m 33 #[.val (.ref o0), .val (.long q1), .second, .val (.int (48 : Int32))] [(.int (((XT.ushrL q1 (48 : Int32)).toInt32).toInt8.toInt32)), (.int (1 : Int32)), (.ref w1_buf)])) _
    refine st24 _ ?_
    show Steps p.tables e below (T24.setTop (mkF m 34 #[.val (.ref o0), .val (.long q1), .second, .val (.int (48 : Int32))] [])) _
    refine XT.iincV X24.here hx rfl (-8 : Int32) (hb hby d6_34) (by decide) rfl (l' := #[.val (.ref o0), .val (.long q1), .second, .val (.int (40 : Int32))]) rfl ?_
    show Steps p.tables e below (T24.setTop (mkF m 37 #[.val (.ref o0), .val (.long q1), .second, .val (.int (40 : Int32))] [])) _
    refine XS.goto X24.here hx rfl (pc0 := 37) (pc' := 9) rfl (hb hby d6_37) (by decide) (by decide) ?_
    show Steps p.tables e below (T24.setTop (mkF m 9 #[.val (.ref o0), .val (.long q1), .second, .val (.int (40 : Int32))] [])) _
    refine XS.iloadN X24.here hx rfl (hb hby d6_9) rfl ?_
    show Steps p.tables e below (T24.setTop (mkF m 10 #[.val (.ref o0), .val (.long q1), .second, .val (.int (40 : Int32))] [(.int (40 : Int32))])) _
    refine XS.ifNo X24.here hx rfl (hb hby d6_10) rfl (XT.i0_lt_f (by decide)) ?_
    show Steps p.tables e below (T24.setTop (mkF m 13 #[.val (.ref o0), .val (.long q1), .second, .val (.int (40 : Int32))] [])) _
    refine XS.aloadN X24.here hx rfl (hb hby d6_13) rfl rfl ?_
    show Steps p.tables e below (T24.setTop (mkF m 14 #[.val (.ref o0), .val (.long q1), .second, .val (.int (40 : Int32))] [(.ref o0)])) _
    refine st28 _ ?_
    show Steps p.tables e below (T28.setTop (mkF m 17 #[.val (.ref o0), .val (.long q1), .second, .val (.int (40 : Int32))] [(.ref w1_buf)])) _
    refine XS.aloadN X28.here hx rfl (hb hby d6_17) rfl rfl ?_
    show Steps p.tables e below (T28.setTop (mkF m 18 #[.val (.ref o0), .val (.long q1), .second, .val (.int (40 : Int32))] [(.ref o0), (.ref w1_buf)])) _
    refine XS.dup X28.here hx rfl (hb hby d6_18) rfl rfl ?_
    show Steps p.tables e below (T28.setTop (mkF m 19 #[.val (.ref o0), .val (.long q1), .second, .val (.int (40 : Int32))] [(.ref o0), (.ref o0), (.ref w1_buf)])) _
    refine st30 _ ?_
    show Steps p.tables e below (T30.setTop (mkF m 22 #[.val (.ref o0), .val (.long q1), .second, .val (.int (40 : Int32))] [(.int (2 : Int32)), (.ref o0), (.ref w1_buf)])) _
    refine XT.dupX1 X30.here hx rfl (hb hby d6_22) rfl rfl rfl ?_
    show Steps p.tables e below (T30.setTop (mkF m 23 #[.val (.ref o0), .val (.long q1), .second, .val (.int (40 : Int32))] [(.int (2 : Int32)), (.ref o0), (.int (2 : Int32)), (.ref w1_buf)])) _
    refine XT.iconstV X30.here hx rfl (1 : Int32) (hb hby d6_23) (by decide) ?_
    show Steps p.tables e below (T30.setTop (mkF m 24 #[.val (.ref o0), .val (.long q1), .second, .val (.int (40 : Int32))] [(.int (1 : Int32)), (.int (2 : Int32)), (.ref o0), (.int (2 : Int32)), (.ref w1_buf)])) _
    refine XS.iadd X30.here hx rfl (hb hby d6_24) rfl ?_
    show Steps p.tables e below (T30.setTop (mkF m 25 #[.val (.ref o0), .val (.long q1), .second, .val (.int (40 : Int32))] [(.int (3 : Int32)), (.ref o0), (.int (2 : Int32)), (.ref w1_buf)])) _
    refine st32 _ ?_
    show Steps p.tables e below (T32.setTop (mkF m 28 #[.val (.ref o0), .val (.long q1), .second, .val (.int (40 : Int32))] [(.int (2 : Int32)), (.ref w1_buf)])) _
    refine XT.lloadN X32.here hx rfl (hb hby d6_28) rfl ?_
    show Steps p.tables e below (T32.setTop (mkF m 29 #[.val (.ref o0), .val (.long q1), .second, .val (.int (40 : Int32))] [(.long q1), (.int (2 : Int32)), (.ref w1_buf)])) _
    refine XS.iloadN X32.here hx rfl (hb hby d6_29) rfl ?_
    show Steps p.tables e below (T32.setTop (mkF m 30 #[.val (.ref o0), .val (.long q1), .second, .val (.int (40 : Int32))] [(.int (40 : Int32)), (.long q1), (.int (2 : Int32)), (.ref w1_buf)])) _
    refine XT.lushr X32.here hx rfl (hb hby d6_30) rfl ?_
    show Steps p.tables e below (T32.setTop (mkF m 31 #[.val (.ref o0), .val (.long q1), .second, .val (.int (40 : Int32))] [(.long (XT.ushrL q1 (40 : Int32))), (.int (2 : Int32)), (.ref w1_buf)])) _
    refine XT.l2i X32.here hx rfl (hb hby d6_31) rfl ?_
    show Steps p.tables e below (T32.setTop (mkF m 32 #[.val (.ref o0), .val (.long q1), .second, .val (.int (40 : Int32))] [(.int ((XT.ushrL q1 (40 : Int32)).toInt32)), (.int (2 : Int32)), (.ref w1_buf)])) _
    refine XT.i2b X32.here hx rfl (hb hby d6_32) rfl ?_
    show Steps p.tables e below (T32.setTop (mkF m 33 #[.val (.ref o0), .val (.long q1), .second, .val (.int (40 : Int32))] [(.int (((XT.ushrL q1 (40 : Int32)).toInt32).toInt8.toInt32)), (.int (2 : Int32)), (.ref w1_buf)])) _
    refine st38 _ ?_
    show Steps p.tables e below (T38.setTop (mkF m 34 #[.val (.ref o0), .val (.long q1), .second, .val (.int (40 : Int32))] [])) _
    refine XT.iincV X38.here hx rfl (-8 : Int32) (hb hby d6_34) (by decide) rfl (l' := #[.val (.ref o0), .val (.long q1), .second, .val (.int (32 : Int32))]) rfl ?_
    show Steps p.tables e below (T38.setTop (mkF m 37 #[.val (.ref o0), .val (.long q1), .second, .val (.int (32 : Int32))] [])) _
    refine XS.goto X38.here hx rfl (pc0 := 37) (pc' := 9) rfl (hb hby d6_37) (by decide) (by decide) ?_
    show Steps p.tables e below (T38.setTop (mkF m 9 #[.val (.ref o0), .val (.long q1), .second, .val (.int (32 : Int32))] [])) _
    refine XS.iloadN X38.here hx rfl (hb hby d6_9) rfl ?_
    show Steps p.tables e below (T38.setTop (mkF m 10 #[.val (.ref o0), .val (.long q1), .second, .val (.int (32 : Int32))] [(.int (32 : Int32))])) _
    refine XS.ifNo X38.here hx rfl (hb hby d6_10) rfl (XT.i0_lt_f (by decide)) ?_
    show Steps p.tables e below (T38.setTop (mkF m 13 #[.val (.ref o0), .val (.long q1), .second, .val (.int (32 : Int32))] [])) _
    refine XS.aloadN X38.here hx rfl (hb hby d6_13) rfl rfl ?_
    show Steps p.tables e below (T38.setTop (mkF m 14 #[.val (.ref o0), .val (.long q1), .second, .val (.int (32 : Int32))] [(.ref o0)])) _
    refine st42 _ ?_
    show Steps p.tables e below (T42.setTop (mkF m 17 #[.val (.ref o0), .val (.long q1), .second, .val (.int (32 : Int32))] [(.ref w1_buf)])) _
    refine XS.aloadN X42.here hx rfl (hb hby d6_17) rfl rfl ?_
    show Steps p.tables e below (T42.setTop (mkF m 18 #[.val (.ref o0), .val (.long q1), .second, .val (.int (32 : Int32))] [(.ref o0), (.ref w1_buf)])) _
    refine XS.dup X42.here hx rfl (hb hby d6_18) rfl rfl ?_
    show Steps p.tables e below (T42.setTop (mkF m 19 #[.val (.ref o0), .val (.long q1), .second, .val (.int (32 : Int32))] [(.ref o0), (.ref o0), (.ref w1_buf)])) _
    refine st44 _ ?_
    show Steps p.tables e below (T44.setTop (mkF m 22 #[.val (.ref o0), .val (.long q1), .second, .val (.int (32 : Int32))] [(.int (3 : Int32)), (.ref o0), (.ref w1_buf)])) _
    refine XT.dupX1 X44.here hx rfl (hb hby d6_22) rfl rfl rfl ?_
    show Steps p.tables e below (T44.setTop (mkF m 23 #[.val (.ref o0), .val (.long q1), .second, .val (.int (32 : Int32))] [(.int (3 : Int32)), (.ref o0), (.int (3 : Int32)), (.ref w1_buf)])) _
    refine XT.iconstV X44.here hx rfl (1 : Int32) (hb hby d6_23) (by decide) ?_
    show Steps p.tables e below (T44.setTop (mkF m 24 #[.val (.ref o0), .val (.long q1), .second, .val (.int (32 : Int32))] [(.int (1 : Int32)), (.int (3 : Int32)), (.ref o0), (.int (3 : Int32)), (.ref w1_buf)])) _
    refine XS.iadd X44.here hx rfl (hb hby d6_24) rfl ?_
    show Steps p.tables e below (T44.setTop (mkF m 25 #[.val (.ref o0), .val (.long q1), .second, .val (.int (32 : Int32))] [(.int (4 : Int32)), (.ref o0), (.int (3 : Int32)), (.ref w1_buf)])) _
    refine st46 _ ?_
    show Steps p.tables e below (T46.setTop (mkF m 28 #[.val (.ref o0), .val (.long q1), .second, .val (.int (32 : Int32))] [(.int (3 : Int32)), (.ref w1_buf)])) _
    refine XT.lloadN X46.here hx rfl (hb hby d6_28) rfl ?_
    show Steps p.tables e below (T46.setTop (mkF m 29 #[.val (.ref o0), .val (.long q1), .second, .val (.int (32 : Int32))] [(.long q1), (.int (3 : Int32)), (.ref w1_buf)])) _
    refine XS.iloadN X46.here hx rfl (hb hby d6_29) rfl ?_
    show Steps p.tables e below (T46.setTop (mkF m 30 #[.val (.ref o0), .val (.long q1), .second, .val (.int (32 : Int32))] [(.int (32 : Int32)), (.long q1), (.int (3 : Int32)), (.ref w1_buf)])) _
    refine XT.lushr X46.here hx rfl (hb hby d6_30) rfl ?_
    show Steps p.tables e below (T46.setTop (mkF m 31 #[.val (.ref o0), .val (.long q1), .second, .val (.int (32 : Int32))] [(.long (XT.ushrL q1 (32 : Int32))), (.int (3 : Int32)), (.ref w1_buf)])) _
    refine XT.l2i X46.here hx rfl (hb hby d6_31) rfl ?_
    show Steps p.tables e below (T46.setTop (mkF m 32 #[.val (.ref o0), .val (.long q1), .second, .val (.int (32 : Int32))] [(.int ((XT.ushrL q1 (32 : Int32)).toInt32)), (.int (3 : Int32)), (.ref w1_buf)])) _
    refine XT.i2b X46.here hx rfl (hb hby d6_32) rfl ?_
    show Steps p.tables e below (T46.setTop (mkF m 33 #[.val (.ref o0), .val (.long q1), .second, .val (.int (32 : Int32))] [(.int (((XT.ushrL q1 (32 : Int32)).toInt32).toInt8.toInt32)), (.int (3 : Int32)), (.ref w1_buf)])) _
    refine st52 _ ?_
    show Steps p.tables e below (T52.setTop (mkF m 34 #[.val (.ref o0), .val (.long q1), .second, .val (.int (32 : Int32))] [])) _
    refine XT.iincV X52.here hx rfl (-8 : Int32) (hb hby d6_34) (by decide) rfl (l' := #[.val (.ref o0), .val (.long q1), .second, .val (.int (24 : Int32))]) rfl ?_
    show Steps p.tables e below (T52.setTop (mkF m 37 #[.val (.ref o0), .val (.long q1), .second, .val (.int (24 : Int32))] [])) _
    refine XS.goto X52.here hx rfl (pc0 := 37) (pc' := 9) rfl (hb hby d6_37) (by decide) (by decide) ?_
    show Steps p.tables e below (T52.setTop (mkF m 9 #[.val (.ref o0), .val (.long q1), .second, .val (.int (24 : Int32))] [])) _
    refine XS.iloadN X52.here hx rfl (hb hby d6_9) rfl ?_
    show Steps p.tables e below (T52.setTop (mkF m 10 #[.val (.ref o0), .val (.long q1), .second, .val (.int (24 : Int32))] [(.int (24 : Int32))])) _
    refine XS.ifNo X52.here hx rfl (hb hby d6_10) rfl (XT.i0_lt_f (by decide)) ?_
    show Steps p.tables e below (T52.setTop (mkF m 13 #[.val (.ref o0), .val (.long q1), .second, .val (.int (24 : Int32))] [])) _
    refine XS.aloadN X52.here hx rfl (hb hby d6_13) rfl rfl ?_
    show Steps p.tables e below (T52.setTop (mkF m 14 #[.val (.ref o0), .val (.long q1), .second, .val (.int (24 : Int32))] [(.ref o0)])) _
    refine st56 _ ?_
    show Steps p.tables e below (T56.setTop (mkF m 17 #[.val (.ref o0), .val (.long q1), .second, .val (.int (24 : Int32))] [(.ref w1_buf)])) _
    refine XS.aloadN X56.here hx rfl (hb hby d6_17) rfl rfl ?_
    show Steps p.tables e below (T56.setTop (mkF m 18 #[.val (.ref o0), .val (.long q1), .second, .val (.int (24 : Int32))] [(.ref o0), (.ref w1_buf)])) _
    refine XS.dup X56.here hx rfl (hb hby d6_18) rfl rfl ?_
    show Steps p.tables e below (T56.setTop (mkF m 19 #[.val (.ref o0), .val (.long q1), .second, .val (.int (24 : Int32))] [(.ref o0), (.ref o0), (.ref w1_buf)])) _
    refine st58 _ ?_
    show Steps p.tables e below (T58.setTop (mkF m 22 #[.val (.ref o0), .val (.long q1), .second, .val (.int (24 : Int32))] [(.int (4 : Int32)), (.ref o0), (.ref w1_buf)])) _
    refine XT.dupX1 X58.here hx rfl (hb hby d6_22) rfl rfl rfl ?_
    show Steps p.tables e below (T58.setTop (mkF m 23 #[.val (.ref o0), .val (.long q1), .second, .val (.int (24 : Int32))] [(.int (4 : Int32)), (.ref o0), (.int (4 : Int32)), (.ref w1_buf)])) _
    refine XT.iconstV X58.here hx rfl (1 : Int32) (hb hby d6_23) (by decide) ?_
    show Steps p.tables e below (T58.setTop (mkF m 24 #[.val (.ref o0), .val (.long q1), .second, .val (.int (24 : Int32))] [(.int (1 : Int32)), (.int (4 : Int32)), (.ref o0), (.int (4 : Int32)), (.ref w1_buf)])) _
    refine XS.iadd X58.here hx rfl (hb hby d6_24) rfl ?_
    show Steps p.tables e below (T58.setTop (mkF m 25 #[.val (.ref o0), .val (.long q1), .second, .val (.int (24 : Int32))] [(.int (5 : Int32)), (.ref o0), (.int (4 : Int32)), (.ref w1_buf)])) _
    refine st60 _ ?_
    show Steps p.tables e below (T60.setTop (mkF m 28 #[.val (.ref o0), .val (.long q1), .second, .val (.int (24 : Int32))] [(.int (4 : Int32)), (.ref w1_buf)])) _
    refine XT.lloadN X60.here hx rfl (hb hby d6_28) rfl ?_
    show Steps p.tables e below (T60.setTop (mkF m 29 #[.val (.ref o0), .val (.long q1), .second, .val (.int (24 : Int32))] [(.long q1), (.int (4 : Int32)), (.ref w1_buf)])) _
    refine XS.iloadN X60.here hx rfl (hb hby d6_29) rfl ?_
    show Steps p.tables e below (T60.setTop (mkF m 30 #[.val (.ref o0), .val (.long q1), .second, .val (.int (24 : Int32))] [(.int (24 : Int32)), (.long q1), (.int (4 : Int32)), (.ref w1_buf)])) _
    refine XT.lushr X60.here hx rfl (hb hby d6_30) rfl ?_
    show Steps p.tables e below (T60.setTop (mkF m 31 #[.val (.ref o0), .val (.long q1), .second, .val (.int (24 : Int32))] [(.long (XT.ushrL q1 (24 : Int32))), (.int (4 : Int32)), (.ref w1_buf)])) _
    refine XT.l2i X60.here hx rfl (hb hby d6_31) rfl ?_
    show Steps p.tables e below (T60.setTop (mkF m 32 #[.val (.ref o0), .val (.long q1), .second, .val (.int (24 : Int32))] [(.int ((XT.ushrL q1 (24 : Int32)).toInt32)), (.int (4 : Int32)), (.ref w1_buf)])) _
    refine XT.i2b X60.here hx rfl (hb hby d6_32) rfl ?_
    show Steps p.tables e below (T60.setTop (mkF m 33 #[.val (.ref o0), .val (.long q1), .second, .val (.int (24 : Int32))] [(.int (((XT.ushrL q1 (24 : Int32)).toInt32).toInt8.toInt32)), (.int (4 : Int32)), (.ref w1_buf)])) _
    refine st66 _ ?_
    show Steps p.tables e below (T66.setTop (mkF m 34 #[.val (.ref o0), .val (.long q1), .second, .val (.int (24 : Int32))] [])) _
    refine XT.iincV X66.here hx rfl (-8 : Int32) (hb hby d6_34) (by decide) rfl (l' := #[.val (.ref o0), .val (.long q1), .second, .val (.int (16 : Int32))]) rfl ?_
    show Steps p.tables e below (T66.setTop (mkF m 37 #[.val (.ref o0), .val (.long q1), .second, .val (.int (16 : Int32))] [])) _
    refine XS.goto X66.here hx rfl (pc0 := 37) (pc' := 9) rfl (hb hby d6_37) (by decide) (by decide) ?_
    show Steps p.tables e below (T66.setTop (mkF m 9 #[.val (.ref o0), .val (.long q1), .second, .val (.int (16 : Int32))] [])) _
    refine XS.iloadN X66.here hx rfl (hb hby d6_9) rfl ?_
    show Steps p.tables e below (T66.setTop (mkF m 10 #[.val (.ref o0), .val (.long q1), .second, .val (.int (16 : Int32))] [(.int (16 : Int32))])) _
    refine XS.ifNo X66.here hx rfl (hb hby d6_10) rfl (XT.i0_lt_f (by decide)) ?_
    show Steps p.tables e below (T66.setTop (mkF m 13 #[.val (.ref o0), .val (.long q1), .second, .val (.int (16 : Int32))] [])) _
    refine XS.aloadN X66.here hx rfl (hb hby d6_13) rfl rfl ?_
    show Steps p.tables e below (T66.setTop (mkF m 14 #[.val (.ref o0), .val (.long q1), .second, .val (.int (16 : Int32))] [(.ref o0)])) _
    refine st70 _ ?_
    show Steps p.tables e below (T70.setTop (mkF m 17 #[.val (.ref o0), .val (.long q1), .second, .val (.int (16 : Int32))] [(.ref w1_buf)])) _
    refine XS.aloadN X70.here hx rfl (hb hby d6_17) rfl rfl ?_
    show Steps p.tables e below (T70.setTop (mkF m 18 #[.val (.ref o0), .val (.long q1), .second, .val (.int (16 : Int32))] [(.ref o0), (.ref w1_buf)])) _
    refine XS.dup X70.here hx rfl (hb hby d6_18) rfl rfl ?_
    show Steps p.tables e below (T70.setTop (mkF m 19 #[.val (.ref o0), .val (.long q1), .second, .val (.int (16 : Int32))] [(.ref o0), (.ref o0), (.ref w1_buf)])) _
    refine st72 _ ?_
    show Steps p.tables e below (T72.setTop (mkF m 22 #[.val (.ref o0), .val (.long q1), .second, .val (.int (16 : Int32))] [(.int (5 : Int32)), (.ref o0), (.ref w1_buf)])) _
    refine XT.dupX1 X72.here hx rfl (hb hby d6_22) rfl rfl rfl ?_
    show Steps p.tables e below (T72.setTop (mkF m 23 #[.val (.ref o0), .val (.long q1), .second, .val (.int (16 : Int32))] [(.int (5 : Int32)), (.ref o0), (.int (5 : Int32)), (.ref w1_buf)])) _
    refine XT.iconstV X72.here hx rfl (1 : Int32) (hb hby d6_23) (by decide) ?_
    show Steps p.tables e below (T72.setTop (mkF m 24 #[.val (.ref o0), .val (.long q1), .second, .val (.int (16 : Int32))] [(.int (1 : Int32)), (.int (5 : Int32)), (.ref o0), (.int (5 : Int32)), (.ref w1_buf)])) _
    refine XS.iadd X72.here hx rfl (hb hby d6_24) rfl ?_
    show Steps p.tables e below (T72.setTop (mkF m 25 #[.val (.ref o0), .val (.long q1), .second, .val (.int (16 : Int32))] [(.int (6 : Int32)), (.ref o0), (.int (5 : Int32)), (.ref w1_buf)])) _
    refine st74 _ ?_
    show Steps p.tables e below (T74.setTop (mkF m 28 #[.val (.ref o0), .val (.long q1), .second, .val (.int (16 : Int32))] [(.int (5 : Int32)), (.ref w1_buf)])) _
    refine XT.lloadN X74.here hx rfl (hb hby d6_28) rfl ?_
    show Steps p.tables e below (T74.setTop (mkF m 29 #[.val (.ref o0), .val (.long q1), .second, .val (.int (16 : Int32))] [(.long q1), (.int (5 : Int32)), (.ref w1_buf)])) _
    refine XS.iloadN X74.here hx rfl (hb hby d6_29) rfl ?_
    show Steps p.tables e below (T74.setTop (mkF m 30 #[.val (.ref o0), .val (.long q1), .second, .val (.int (16 : Int32))] [(.int (16 : Int32)), (.long q1), (.int (5 : Int32)), (.ref w1_buf)])) _
    refine XT.lushr X74.here hx rfl (hb hby d6_30) rfl ?_
    show Steps p.tables e below (T74.setTop (mkF m 31 #[.val (.ref o0), .val (.long q1), .second, .val (.int (16 : Int32))] [(.long (XT.ushrL q1 (16 : Int32))), (.int (5 : Int32)), (.ref w1_buf)])) _
    refine XT.l2i X74.here hx rfl (hb hby d6_31) rfl ?_
    show Steps p.tables e below (T74.setTop (mkF m 32 #[.val (.ref o0), .val (.long q1), .second, .val (.int (16 : Int32))] [(.int ((XT.ushrL q1 (16 : Int32)).toInt32)), (.int (5 : Int32)), (.ref w1_buf)])) _
    refine XT.i2b X74.here hx rfl (hb hby d6_32) rfl ?_
    show Steps p.tables e below (T74.setTop (mkF m 33 #[.val (.ref o0), .val (.long q1), .second, .val (.int (16 : Int32))] [(.int (((XT.ushrL q1 (16 : Int32)).toInt32).toInt8.toInt32)), (.int (5 : Int32)), (.ref w1_buf)])) _
    refine st80 _ ?_
    show Steps p.tables e below (T80.setTop (mkF m 34 #[.val (.ref o0), .val (.long q1), .second, .val (.int (16 : Int32))] [])) _
    refine XT.iincV X80.here hx rfl (-8 : Int32) (hb hby d6_34) (by decide) rfl (l' := #[.val (.ref o0), .val (.long q1), .second, .val (.int (8 : Int32))]) rfl ?_
    show Steps p.tables e below (T80.setTop (mkF m 37 #[.val (.ref o0), .val (.long q1), .second, .val (.int (8 : Int32))] [])) _
    refine XS.goto X80.here hx rfl (pc0 := 37) (pc' := 9) rfl (hb hby d6_37) (by decide) (by decide) ?_
    show Steps p.tables e below (T80.setTop (mkF m 9 #[.val (.ref o0), .val (.long q1), .second, .val (.int (8 : Int32))] [])) _
    refine XS.iloadN X80.here hx rfl (hb hby d6_9) rfl ?_
    show Steps p.tables e below (T80.setTop (mkF m 10 #[.val (.ref o0), .val (.long q1), .second, .val (.int (8 : Int32))] [(.int (8 : Int32))])) _
    refine XS.ifNo X80.here hx rfl (hb hby d6_10) rfl (XT.i0_lt_f (by decide)) ?_
    show Steps p.tables e below (T80.setTop (mkF m 13 #[.val (.ref o0), .val (.long q1), .second, .val (.int (8 : Int32))] [])) _
    refine XS.aloadN X80.here hx rfl (hb hby d6_13) rfl rfl ?_
    show Steps p.tables e below (T80.setTop (mkF m 14 #[.val (.ref o0), .val (.long q1), .second, .val (.int (8 : Int32))] [(.ref o0)])) _
    refine st84 _ ?_
    show Steps p.tables e below (T84.setTop (mkF m 17 #[.val (.ref o0), .val (.long q1), .second, .val (.int (8 : Int32))] [(.ref w1_buf)])) _
    refine XS.aloadN X84.here hx rfl (hb hby d6_17) rfl rfl ?_
    show Steps p.tables e below (T84.setTop (mkF m 18 #[.val (.ref o0), .val (.long q1), .second, .val (.int (8 : Int32))] [(.ref o0), (.ref w1_buf)])) _
    refine XS.dup X84.here hx rfl (hb hby d6_18) rfl rfl ?_
    show Steps p.tables e below (T84.setTop (mkF m 19 #[.val (.ref o0), .val (.long q1), .second, .val (.int (8 : Int32))] [(.ref o0), (.ref o0), (.ref w1_buf)])) _
    refine st86 _ ?_
    show Steps p.tables e below (T86.setTop (mkF m 22 #[.val (.ref o0), .val (.long q1), .second, .val (.int (8 : Int32))] [(.int (6 : Int32)), (.ref o0), (.ref w1_buf)])) _
    refine XT.dupX1 X86.here hx rfl (hb hby d6_22) rfl rfl rfl ?_
    show Steps p.tables e below (T86.setTop (mkF m 23 #[.val (.ref o0), .val (.long q1), .second, .val (.int (8 : Int32))] [(.int (6 : Int32)), (.ref o0), (.int (6 : Int32)), (.ref w1_buf)])) _
    refine XT.iconstV X86.here hx rfl (1 : Int32) (hb hby d6_23) (by decide) ?_
    show Steps p.tables e below (T86.setTop (mkF m 24 #[.val (.ref o0), .val (.long q1), .second, .val (.int (8 : Int32))] [(.int (1 : Int32)), (.int (6 : Int32)), (.ref o0), (.int (6 : Int32)), (.ref w1_buf)])) _
    refine XS.iadd X86.here hx rfl (hb hby d6_24) rfl ?_
    show Steps p.tables e below (T86.setTop (mkF m 25 #[.val (.ref o0), .val (.long q1), .second, .val (.int (8 : Int32))] [(.int (7 : Int32)), (.ref o0), (.int (6 : Int32)), (.ref w1_buf)])) _
    refine st88 _ ?_
    show Steps p.tables e below (T88.setTop (mkF m 28 #[.val (.ref o0), .val (.long q1), .second, .val (.int (8 : Int32))] [(.int (6 : Int32)), (.ref w1_buf)])) _
    refine XT.lloadN X88.here hx rfl (hb hby d6_28) rfl ?_
    show Steps p.tables e below (T88.setTop (mkF m 29 #[.val (.ref o0), .val (.long q1), .second, .val (.int (8 : Int32))] [(.long q1), (.int (6 : Int32)), (.ref w1_buf)])) _
    refine XS.iloadN X88.here hx rfl (hb hby d6_29) rfl ?_
    show Steps p.tables e below (T88.setTop (mkF m 30 #[.val (.ref o0), .val (.long q1), .second, .val (.int (8 : Int32))] [(.int (8 : Int32)), (.long q1), (.int (6 : Int32)), (.ref w1_buf)])) _
    refine XT.lushr X88.here hx rfl (hb hby d6_30) rfl ?_
    show Steps p.tables e below (T88.setTop (mkF m 31 #[.val (.ref o0), .val (.long q1), .second, .val (.int (8 : Int32))] [(.long (XT.ushrL q1 (8 : Int32))), (.int (6 : Int32)), (.ref w1_buf)])) _
    refine XT.l2i X88.here hx rfl (hb hby d6_31) rfl ?_
    show Steps p.tables e below (T88.setTop (mkF m 32 #[.val (.ref o0), .val (.long q1), .second, .val (.int (8 : Int32))] [(.int ((XT.ushrL q1 (8 : Int32)).toInt32)), (.int (6 : Int32)), (.ref w1_buf)])) _
    refine XT.i2b X88.here hx rfl (hb hby d6_32) rfl ?_
    show Steps p.tables e below (T88.setTop (mkF m 33 #[.val (.ref o0), .val (.long q1), .second, .val (.int (8 : Int32))] [(.int (((XT.ushrL q1 (8 : Int32)).toInt32).toInt8.toInt32)), (.int (6 : Int32)), (.ref w1_buf)])) _
    refine st94 _ ?_
    show Steps p.tables e below (T94.setTop (mkF m 34 #[.val (.ref o0), .val (.long q1), .second, .val (.int (8 : Int32))] [])) _
    refine XT.iincV X94.here hx rfl (-8 : Int32) (hb hby d6_34) (by decide) rfl (l' := #[.val (.ref o0), .val (.long q1), .second, .val (.int (0 : Int32))]) rfl ?_
    show Steps p.tables e below (T94.setTop (mkF m 37 #[.val (.ref o0), .val (.long q1), .second, .val (.int (0 : Int32))] [])) _
    refine XS.goto X94.here hx rfl (pc0 := 37) (pc' := 9) rfl (hb hby d6_37) (by decide) (by decide) ?_
    show Steps p.tables e below (T94.setTop (mkF m 9 #[.val (.ref o0), .val (.long q1), .second, .val (.int (0 : Int32))] [])) _
    refine XS.iloadN X94.here hx rfl (hb hby d6_9) rfl ?_
    show Steps p.tables e below (T94.setTop (mkF m 10 #[.val (.ref o0), .val (.long q1), .second, .val (.int (0 : Int32))] [(.int (0 : Int32))])) _
    refine XS.ifNo X94.here hx rfl (hb hby d6_10) rfl (XT.i0_lt_f (by decide)) ?_
    show Steps p.tables e below (T94.setTop (mkF m 13 #[.val (.ref o0), .val (.long q1), .second, .val (.int (0 : Int32))] [])) _
    refine XS.aloadN X94.here hx rfl (hb hby d6_13) rfl rfl ?_
    show Steps p.tables e below (T94.setTop (mkF m 14 #[.val (.ref o0), .val (.long q1), .second, .val (.int (0 : Int32))] [(.ref o0)])) _
    refine st98 _ ?_
    show Steps p.tables e below (T98.setTop (mkF m 17 #[.val (.ref o0), .val (.long q1), .second, .val (.int (0 : Int32))] [(.ref w1_buf)])) _
    refine XS.aloadN X98.here hx rfl (hb hby d6_17) rfl rfl ?_
    show Steps p.tables e below (T98.setTop (mkF m 18 #[.val (.ref o0), .val (.long q1), .second, .val (.int (0 : Int32))] [(.ref o0), (.ref w1_buf)])) _
    refine XS.dup X98.here hx rfl (hb hby d6_18) rfl rfl ?_
    show Steps p.tables e below (T98.setTop (mkF m 19 #[.val (.ref o0), .val (.long q1), .second, .val (.int (0 : Int32))] [(.ref o0), (.ref o0), (.ref w1_buf)])) _
    refine st100 _ ?_
    show Steps p.tables e below (T100.setTop (mkF m 22 #[.val (.ref o0), .val (.long q1), .second, .val (.int (0 : Int32))] [(.int (7 : Int32)), (.ref o0), (.ref w1_buf)])) _
    refine XT.dupX1 X100.here hx rfl (hb hby d6_22) rfl rfl rfl ?_
    show Steps p.tables e below (T100.setTop (mkF m 23 #[.val (.ref o0), .val (.long q1), .second, .val (.int (0 : Int32))] [(.int (7 : Int32)), (.ref o0), (.int (7 : Int32)), (.ref w1_buf)])) _
    refine XT.iconstV X100.here hx rfl (1 : Int32) (hb hby d6_23) (by decide) ?_
    show Steps p.tables e below (T100.setTop (mkF m 24 #[.val (.ref o0), .val (.long q1), .second, .val (.int (0 : Int32))] [(.int (1 : Int32)), (.int (7 : Int32)), (.ref o0), (.int (7 : Int32)), (.ref w1_buf)])) _
    refine XS.iadd X100.here hx rfl (hb hby d6_24) rfl ?_
    show Steps p.tables e below (T100.setTop (mkF m 25 #[.val (.ref o0), .val (.long q1), .second, .val (.int (0 : Int32))] [(.int (8 : Int32)), (.ref o0), (.int (7 : Int32)), (.ref w1_buf)])) _
    refine st102 _ ?_
    show Steps p.tables e below (T102.setTop (mkF m 28 #[.val (.ref o0), .val (.long q1), .second, .val (.int (0 : Int32))] [(.int (7 : Int32)), (.ref w1_buf)])) _
    refine XT.lloadN X102.here hx rfl (hb hby d6_28) rfl ?_
    show Steps p.tables e below (T102.setTop (mkF m 29 #[.val (.ref o0), .val (.long q1), .second, .val (.int (0 : Int32))] [(.long q1), (.int (7 : Int32)), (.ref w1_buf)])) _
    refine XS.iloadN X102.here hx rfl (hb hby d6_29) rfl ?_
    show Steps p.tables e below (T102.setTop (mkF m 30 #[.val (.ref o0), .val (.long q1), .second, .val (.int (0 : Int32))] [(.int (0 : Int32)), (.long q1), (.int (7 : Int32)), (.ref w1_buf)])) _
    refine XT.lushr X102.here hx rfl (hb hby d6_30) rfl ?_
    show Steps p.tables e below (T102.setTop (mkF m 31 #[.val (.ref o0), .val (.long q1), .second, .val (.int (0 : Int32))] [(.long (XT.ushrL q1 (0 : Int32))), (.int (7 : Int32)), (.ref w1_buf)])) _
    refine XT.l2i X102.here hx rfl (hb hby d6_31) rfl ?_
    show Steps p.tables e below (T102.setTop (mkF m 32 #[.val (.ref o0), .val (.long q1), .second, .val (.int (0 : Int32))] [(.int ((XT.ushrL q1 (0 : Int32)).toInt32)), (.int (7 : Int32)), (.ref w1_buf)])) _
    refine XT.i2b X102.here hx rfl (hb hby d6_32) rfl ?_
    show Steps p.tables e below (T102.setTop (mkF m 33 #[.val (.ref o0), .val (.long q1), .second, .val (.int (0 : Int32))] [(.int (((XT.ushrL q1 (0 : Int32)).toInt32).toInt8.toInt32)), (.int (7 : Int32)), (.ref w1_buf)])) _
    refine st108 _ ?_
    show Steps p.tables e below (T108.setTop (mkF m 34 #[.val (.ref o0), .val (.long q1), .second, .val (.int (0 : Int32))] [])) _
    refine XT.iincV X108.here hx rfl (-8 : Int32) (hb hby d6_34) (by decide) rfl (l' := #[.val (.ref o0), .val (.long q1), .second, .val (.int (-8 : Int32))]) rfl ?_
    show Steps p.tables e below (T108.setTop (mkF m 37 #[.val (.ref o0), .val (.long q1), .second, .val (.int (-8 : Int32))] [])) _
    refine XS.goto X108.here hx rfl (pc0 := 37) (pc' := 9) rfl (hb hby d6_37) (by decide) (by decide) ?_
    show Steps p.tables e below (T108.setTop (mkF m 9 #[.val (.ref o0), .val (.long q1), .second, .val (.int (-8 : Int32))] [])) _
    refine XS.iloadN X108.here hx rfl (hb hby d6_9) rfl ?_
    show Steps p.tables e below (T108.setTop (mkF m 10 #[.val (.ref o0), .val (.long q1), .second, .val (.int (-8 : Int32))] [(.int (-8 : Int32))])) _
    refine XS.ifYes X108.here hx rfl (pc0 := 10) (pc' := 40) rfl (hb hby d6_10) rfl (XT.i0_lt_t (by decide)) (by decide) (by decide) ?_
    show Steps p.tables e below (T108.setTop (mkF m 40 #[.val (.ref o0), .val (.long q1), .second, .val (.int (-8 : Int32))] [])) _
    refine XS.aloadN X108.here hx rfl (hb hby d6_40) rfl rfl ?_
    show Steps p.tables e below (T108.setTop (mkF m 41 #[.val (.ref o0), .val (.long q1), .second, .val (.int (-8 : Int32))] [(.ref o0)])) _
    exact X108.areturnOut hx rfl Bd.returns rfl (hb hby d6_41) hr
  · skip
    show Qnu0 Z o0 q1 w1_buf u0 u1 u2 u3 u4 u5 u6 u7 u8 u9 u10 u11 u12 u13 u14 u15 u16 u17 u18 u19 u20 u21 u22 u23 u24 u25 u26 u27 u28 u29 u30 u31 u32 u33 u34 u35 u36 u37 u38 u39 u40 u41 u42 u43 u44 u45 u46 u47 u48 u49 u50 u51 u52 u53 u54 u55 u56 u57 u58 u59 u60 u61 u62 u63 kA h0 n0 _ T108.heap _
    rw [e108]
    have k111 := ((k101.wr W102).wr W108)
    have k112 := (Fw102.other W108 (Or.inl (Ne.symm ne_w1_buf_o0)))
    have k113 := ((k97.other W102 (Or.inr (slot_ne (Or.inl (hw _ (List.mem_of_getElem? (i := 11) rfl))) (Or.inl (hw _ (List.mem_of_getElem? (i := 18) rfl))) (by decide) (t := (.array .byte)) (t' := .int) (by decide) (by decide)))).other W108 (Or.inl (Ne.symm ne_w1_buf_o0)))
    exact ⟨N108, rfl, (((((((((((((((((Keep.refl h0 [o0, w1_buf]).wr W4 (Or.inl (List.mem_of_getElem? (i := 0) rfl))).wr W10 (Or.inl (List.mem_of_getElem? (i := 1) rfl))).wr W18 (Or.inl (List.mem_of_getElem? (i := 0) rfl))).wr W24 (Or.inl (List.mem_of_getElem? (i := 1) rfl))).wr W32 (Or.inl (List.mem_of_getElem? (i := 0) rfl))).wr W38 (Or.inl (List.mem_of_getElem? (i := 1) rfl))).wr W46 (Or.inl (List.mem_of_getElem? (i := 0) rfl))).wr W52 (Or.inl (List.mem_of_getElem? (i := 1) rfl))).wr W60 (Or.inl (List.mem_of_getElem? (i := 0) rfl))).wr W66 (Or.inl (List.mem_of_getElem? (i := 1) rfl))).wr W74 (Or.inl (List.mem_of_getElem? (i := 0) rfl))).wr W80 (Or.inl (List.mem_of_getElem? (i := 1) rfl))).wr W88 (Or.inl (List.mem_of_getElem? (i := 0) rfl))).wr W94 (Or.inl (List.mem_of_getElem? (i := 1) rfl))).wr W102 (Or.inl (List.mem_of_getElem? (i := 0) rfl))).wr W108 (Or.inl (List.mem_of_getElem? (i := 1) rfl))), k111, k112, k113, V108⟩
theorem ef_nu9 (m : MethodId) (o0 : Addr) (q1 : Int64) : entryFrame m #[(.ref o0), (.long q1)] 4 = mkF m 0 #[.val (.ref o0), .val (.long q1), .second, .unset] [] := by first | (simp [entryFrame, mkF, argsToLocals, Value.category]; done) | rfl
def vnu9_1 (q1 : Int64) : Int32 := (((XT.ushrL q1 (56 : Int32)).toInt32).toInt8.toInt32)
def vnu9_2 (q1 : Int64) : Int32 := (((XT.ushrL q1 (48 : Int32)).toInt32).toInt8.toInt32)
def vnu9_3 (q1 : Int64) : Int32 := (((XT.ushrL q1 (40 : Int32)).toInt32).toInt8.toInt32)
def vnu9_4 (q1 : Int64) : Int32 := (((XT.ushrL q1 (32 : Int32)).toInt32).toInt8.toInt32)
def vnu9_5 (q1 : Int64) : Int32 := (((XT.ushrL q1 (24 : Int32)).toInt32).toInt8.toInt32)
def vnu9_6 (q1 : Int64) : Int32 := (((XT.ushrL q1 (16 : Int32)).toInt32).toInt8.toInt32)
def vnu9_7 (q1 : Int64) : Int32 := (((XT.ushrL q1 (8 : Int32)).toInt32).toInt8.toInt32)
def vnu9_8 (q1 : Int64) : Int32 := (((XT.ushrL q1 (0 : Int32)).toInt32).toInt8.toInt32)
def Qnu9 (Z : State) (o0 : Addr) (q1 : Int64) (w1_buf : Addr) (u0 : Value) (u1 : Value) (u2 : Value) (u3 : Value) (u4 : Value) (u5 : Value) (u6 : Value) (u7 : Value) (u8 : Value) (u9 : Value) (u10 : Value) (u11 : Value) (u12 : Value) (u13 : Value) (u14 : Value) (u15 : Value) (u16 : Value) (u17 : Value) (u18 : Value) (u19 : Value) (u20 : Value) (u21 : Value) (u22 : Value) (u23 : Value) (u24 : Value) (u25 : Value) (u26 : Value) (u27 : Value) (u28 : Value) (u29 : Value) (u30 : Value) (u31 : Value) (u32 : Value) (u33 : Value) (u34 : Value) (u35 : Value) (u36 : Value) (u37 : Value) (u38 : Value) (u39 : Value) (u40 : Value) (u41 : Value) (u42 : Value) (u43 : Value) (u44 : Value) (u45 : Value) (u46 : Value) (u47 : Value) (u48 : Value) (u49 : Value) (u50 : Value) (u51 : Value) (u52 : Value) (u53 : Value) (u54 : Value) (u55 : Value) (u56 : Value) (u57 : Value) (u58 : Value) (u59 : Value) (u60 : Value) (u61 : Value) (u62 : Value) (u63 : Value) (kA : ClassId) (h0 : Heap) (n0 : Nat) (v : Option Value) (h : Heap) (L : List Loc) : Prop := Fr n0 L ∧ v = some (.ref o0) ∧ Keep h0 h [o0, w1_buf] ∧ Exa Z h o0 "com/example/dispatch_by_catalog/dispatchbycatalog/store/RecordWriter" ∧ Fld Z h o0 "com/example/dispatch_by_catalog/dispatchbycatalog/store/RecordWriter" "size" "I" (.int (17 : Int32)) ∧ Fld Z h o0 "com/example/dispatch_by_catalog/dispatchbycatalog/store/RecordWriter" "written" "[B" (.ref w1_buf) ∧ Arv Z h w1_buf kA .byte (64 : Int32) [u0, u1, u2, u3, u4, u5, u6, u7, u8, (.int (nar .byte (vnu9_1 q1))), (.int (nar .byte (vnu9_2 q1))), (.int (nar .byte (vnu9_3 q1))), (.int (nar .byte (vnu9_4 q1))), (.int (nar .byte (vnu9_5 q1))), (.int (nar .byte (vnu9_6 q1))), (.int (nar .byte (vnu9_7 q1))), (.int (nar .byte (vnu9_8 q1))), u17, u18, u19, u20, u21, u22, u23, u24, u25, u26, u27, u28, u29, u30, u31, u32, u33, u34, u35, u36, u37, u38, u39, u40, u41, u42, u43, u44, u45, u46, u47, u48, u49, u50, u51, u52, u53, u54, u55, u56, u57, u58, u59, u60, u61, u62, u63] (.int (0 : Int32))
set_option maxRecDepth 65536 in
set_option maxHeartbeats 40000000 in
theorem rmnu9 (l : Launch) (Z : State) (a0 : Array Value) (hw : ∀ d ∈ tables_1, d.before a0 Z = true) (ws : List Jvm.Cond) (o0 : Addr) (q1 : Int64) (w1_buf : Addr) (u0 : Value) (u1 : Value) (u2 : Value) (u3 : Value) (u4 : Value) (u5 : Value) (u6 : Value) (u7 : Value) (u8 : Value) (u9 : Value) (u10 : Value) (u11 : Value) (u12 : Value) (u13 : Value) (u14 : Value) (u15 : Value) (u16 : Value) (u17 : Value) (u18 : Value) (u19 : Value) (u20 : Value) (u21 : Value) (u22 : Value) (u23 : Value) (u24 : Value) (u25 : Value) (u26 : Value) (u27 : Value) (u28 : Value) (u29 : Value) (u30 : Value) (u31 : Value) (u32 : Value) (u33 : Value) (u34 : Value) (u35 : Value) (u36 : Value) (u37 : Value) (u38 : Value) (u39 : Value) (u40 : Value) (u41 : Value) (u42 : Value) (u43 : Value) (u44 : Value) (u45 : Value) (u46 : Value) (u47 : Value) (u48 : Value) (u49 : Value) (u50 : Value) (u51 : Value) (u52 : Value) (u53 : Value) (u54 : Value) (u55 : Value) (u56 : Value) (u57 : Value) (u58 : Value) (u59 : Value) (u60 : Value) (u61 : Value) (u62 : Value) (u63 : Value) (kA : ClassId) (h0 : Heap) (n0 : Nat) (Z0 : n0 ≤ h0.size) (E_o0 : Exa Z h0 o0 "com/example/dispatch_by_catalog/dispatchbycatalog/store/RecordWriter") (F_size_o0 : Fld Z h0 o0 "com/example/dispatch_by_catalog/dispatchbycatalog/store/RecordWriter" "size" "I" (.int (9 : Int32))) (F_written_o0 : Fld Z h0 o0 "com/example/dispatch_by_catalog/dispatchbycatalog/store/RecordWriter" "written" "[B" (.ref w1_buf)) (V_w1_buf : Arv Z h0 w1_buf kA .byte (64 : Int32) [u0, u1, u2, u3, u4, u5, u6, u7, u8, u9, u10, u11, u12, u13, u14, u15, u16, u17, u18, u19, u20, u21, u22, u23, u24, u25, u26, u27, u28, u29, u30, u31, u32, u33, u34, u35, u36, u37, u38, u39, u40, u41, u42, u43, u44, u45, u46, u47, u48, u49, u50, u51, u52, u53, u54, u55, u56, u57, u58, u59, u60, u61, u62, u63] (.int (0 : Int32))) (g_o0 : n0 ≤ o0) (ne_w1_buf_o0 : w1_buf ≠ o0) (g_w1_buf : n0 ≤ w1_buf) :
    MetFree l (⟨"com/example/dispatch_by_catalog/dispatchbycatalog/store/RecordWriter", "number", "(J)Lcom/example/dispatch_by_catalog/dispatchbycatalog/store/RecordWriter;"⟩ : MethodName) (head1 (Jvm.Cond.code (⟨"com/example/dispatch_by_catalog/dispatchbycatalog/store/RecordWriter", "number", "(J)Lcom/example/dispatch_by_catalog/dispatchbycatalog/store/RecordWriter;"⟩ : MethodName) prog_35_method_3_code 4 (some (.object "com/example/dispatch_by_catalog/dispatchbycatalog/store/RecordWriter")) :: ws) ({ frames := 1, cells := 0, slots := 0, locals := 13 } : Room)) (fun a U => a = #[(.ref o0), (.long q1)] ∧ Z.Warmed39 U.vm ∧ U.heap = h0) (fun _ _ _ _ _ => True) (fun _ U o U' => ∃ v L, o = .returned v ∧ Qnu9 Z o0 q1 w1_buf u0 u1 u2 u3 u4 u5 u6 u7 u8 u9 u10 u11 u12 u13 u14 u15 u16 u17 u18 u19 u20 u21 u22 u23 u24 u25 u26 u27 u28 u29 u30 u31 u32 u33 u34 u35 u36 u37 u38 u39 u40 u41 u42 u43 u44 u45 u46 u47 u48 u49 u50 u51 u52 u53 u54 u55 u56 u57 u58 u59 u60 u61 u62 u63 kA h0 n0 v U'.heap L ∧ FrameEnd U o U' L ({ frames := 1, cells := 0, slots := 0, locals := 13 } : Room).cells ({ frames := 1, cells := 0, slots := 0, locals := 13 } : Room).slots) := by
  refine MetFree.of_bodySF (plainFor_of_name pn_com_example_dispatch_by_catalog_dispatchbycatalog_store_RecordWriter) hisR ?_
  intro p e s m args below meth c s₁ Bd hml0 hP hK
  obtain ⟨rfl, hZ, hh⟩ := hP
  have hx := Bd.exec
  have hby := Bd.bytes
  have hml : c.maxLocals = 4 := hml0
  have hown : s.vm.findClass "com/example/dispatch_by_catalog/dispatchbycatalog/store/RecordWriter" = some m.cls := findClass_of_methodNamed Bd.named
  have hnm := (name_of_methodNamed Bd.named Bd.method).1
  have hlk := BodyLoose.notSynchronized Bd
  have X0 : Stand p l e ({ frames := 1, cells := 0, slots := 0, locals := 13 } : Room) s m #[(.ref o0), (.long q1)] below meth c s₁ [] 0 0 := Stand.of_body Bd
  have e0 : s₁.heap = h0 := by rw [← hh, Bd.state]; rfl
  have N0 := Fr.nil n0
  have pre0 : ∀ t, Steps p.tables e below (s₁.setTop (mkF m 0 #[.val (.ref o0), .val (.long q1), .second, .unset] [])) t → Steps p.tables e below (s₁.setTop (entryFrame m #[(.ref o0), (.long q1)] 4)) t := fun t k => castTop (ef_nu9 m o0 q1) k
  obtain ⟨cq1, qp1, qp1'⟩ := E_o0.cell
  obtain ⟨ci1, ki1, hi1a, hi1b, -, hi1c, -, -⟩ := Cond.instantiable_spec (mv hZ (hw _ (List.mem_of_getElem? (i := 1) rfl)) (args := #[]))
  obtain ⟨vr1, _, ⟨T1, L1, k1, n1⟩, -, X1, ⟨Lc1, hQ1, l1, y1, z1⟩, st1⟩ := X0.privateBack hx (y := (⟨"com/example/dispatch_by_catalog/dispatchbycatalog/store/RecordWriter", "room", "(I)V"⟩ : MethodName)) hown (mvT hZ (hw _ (List.mem_of_getElem? (i := 36) rfl))) (mvT hZ (hw _ (List.mem_of_getElem? (i := 37) rfl))) (Jvm.Stand.selects_self_of_private hi1a hi1b (Bool.or_eq_false_iff.mp hi1c).1 (Cond.privateMethod_at (mvP hZ (hw _ (List.mem_of_getElem? (i := 38) rfl)) (args := #[]))) (mvT hZ (hw _ (List.mem_of_getElem? (i := 37) rfl))) (by decide)) (Cond.privateMethod_at (mvP hZ (hw _ (List.mem_of_getElem? (i := 38) rfl)) (args := #[]))) (mvT hZ (hw _ (List.mem_of_getElem? (i := 39) rfl))) (by decide) (backOf (W := 0) (rmrm9_8 l Z a0 hw [] o0 w1_buf u0 u1 u2 u3 u4 u5 u6 u7 u8 u9 u10 u11 u12 u13 u14 u15 u16 u17 u18 u19 u20 u21 u22 u23 u24 u25 u26 u27 u28 u29 u30 u31 u32 u33 u34 u35 u36 u37 u38 u39 u40 u41 u42 u43 u44 u45 u46 u47 u48 u49 u50 u51 u52 u53 u54 u55 u56 u57 u58 u59 u60 u61 u62 u63 kA h0 n0 Z0 E_o0 F_size_o0 F_written_o0 V_w1_buf) hZ (hw _ (List.mem_of_getElem? (i := 39) rfl)) (hw _ (List.mem_of_getElem? (i := 2) rfl)) (by decide) (by decide)) (g := (mkF m 3 #[.val (.ref o0), .val (.long q1), .second, .unset] [(.int (8 : Int32)), (.ref o0)])) rfl (by rw [hml]; rfl) (Steps.refl _) (a := o0) (by rw [e0]; exact qp1) qp1' (argsL := [(.int (8 : Int32))]) (rest := []) (lenOf pd__I_V rfl) rfl (by show 2 * 0 + _ ≤ _; exact Nat.le_of_eq rfl) (hb hby d6_3) (fun _ _ => ⟨rfl, e0, (by decide : 0 + 0 ≤ _), (by decide : 0 + 0 ≤ _)⟩)
  dsimp only [Pt.U, Pt.locs, Pt.cells, Pt.slots] at X1 l1 y1 z1 st1 hQ1
  subst l1 y1 z1
  have N1q := (show _ ∧ _ ∧ _ from hQ1).1
  have hv1 := (show _ ∧ _ ∧ _ from hQ1).2.1
  have e1 := (show _ ∧ _ ∧ _ from hQ1).2.2
  clear hQ1
  subst hv1
  have N1 := Fr.app N0 N1q
  obtain ⟨T2, X2, e2, st2⟩ := getF X1 hx hZ hown (host := "") (Or.inl (hw _ (List.mem_of_getElem? (i := 10) rfl))) Via.refl e1 F_written_o0 (g := (mkF m 14 #[.val (.ref o0), .val (.long q1), .second, .val (.int (56 : Int32))] [(.ref o0)])) rfl rfl (hb hby d6_14)
  obtain ⟨T3, X3, e3, st3⟩ := getF X2 hx hZ hown (host := "") (Or.inl (hw _ (List.mem_of_getElem? (i := 17) rfl))) Via.refl e2 F_size_o0 (g := (mkF m 19 #[.val (.ref o0), .val (.long q1), .second, .val (.int (56 : Int32))] [(.ref o0), (.ref o0), (.ref w1_buf)])) rfl rfl (hb hby d6_19)
  obtain ⟨T4, h4, X4, e4, W4, st4⟩ := putF X3 hx hZ hown (host := "") (Or.inl (hw _ (List.mem_of_getElem? (i := 17) rfl))) Via.refl e3 F_size_o0 E_o0 (Or.inl (hw _ (List.mem_of_getElem? (i := 18) rfl))) (hw _ (List.mem_of_getElem? (i := 1) rfl)) (ty := .int) (by decide) rfl rfl (g := (mkF m 25 #[.val (.ref o0), .val (.long q1), .second, .val (.int (56 : Int32))] [(.int (10 : Int32)), (.ref o0), (.int (9 : Int32)), (.ref w1_buf)])) rfl rfl (hb hby d6_25)
  have Fw4 := F_size_o0.same W4
  have N4 := Fr.snoc X4 N1 g_o0
  have z5 : n0 ≤ h4.size := Nat.le_trans Z0 (Keep.of_wr W4).1
  have hs6 : h0.size ≤ h4.size := Nat.le_trans (Nat.le_refl h0.size) (Keep.of_wr W4).1
  have k7 := (V_w1_buf.other W4 ne_w1_buf_o0)
  obtain ⟨cl8, Ar8, qc8, S8, M8, Ha8, G8⟩ := id k7
  have hin9 : ¬ ((9 : Int32) < 0 ∨ cl8.slots.size ≤ ((9 : Int32)).toNatClampNeg) := inb_of S8 ⟨by decide, by decide⟩
  obtain ⟨T10, h10, X10, e10, W10, st10⟩ := stB X4 hx hZ e4 Ar8 (j := (9 : Int32)) hin9 (g := (mkF m 33 #[.val (.ref o0), .val (.long q1), .second, .val (.int (56 : Int32))] [(.int (((XT.ushrL q1 (56 : Int32)).toInt32).toInt8.toInt32)), (.int (9 : Int32)), (.ref w1_buf)])) rfl rfl (hb hby d6_33)
  have V10 : Arv Z h10 w1_buf kA .byte (64 : Int32) [u0, u1, u2, u3, u4, u5, u6, u7, u8, (.int (nar .byte (vnu9_1 q1))), u10, u11, u12, u13, u14, u15, u16, u17, u18, u19, u20, u21, u22, u23, u24, u25, u26, u27, u28, u29, u30, u31, u32, u33, u34, u35, u36, u37, u38, u39, u40, u41, u42, u43, u44, u45, u46, u47, u48, u49, u50, u51, u52, u53, u54, u55, u56, u57, u58, u59, u60, u61, u62, u63] (.int (0 : Int32)) := Arv.set Ar8 qc8 S8 M8 Ha8 G8 (fits_nar_byte (vnu9_1 q1)) W10 9 rfl (Nat.le_of_ble_eq_true rfl)
  have N10 := Fr.snoc X10 N4 g_w1_buf
  have z11 : n0 ≤ h10.size := Nat.le_trans z5 (Keep.of_wr W10).1
  have hs12 : h0.size ≤ h10.size := Nat.le_trans hs6 (Keep.of_wr W10).1
  have k13 := ((F_written_o0.other W4 (Or.inr (slot_ne (Or.inl (hw _ (List.mem_of_getElem? (i := 11) rfl))) (Or.inl (hw _ (List.mem_of_getElem? (i := 18) rfl))) (by decide) (t := (.array .byte)) (t' := .int) (by decide) (by decide)))).other W10 (Or.inl (Ne.symm ne_w1_buf_o0)))
  obtain ⟨T14, X14, e14, st14⟩ := getF X10 hx hZ hown (host := "") (Or.inl (hw _ (List.mem_of_getElem? (i := 10) rfl))) Via.refl e10 k13 (g := (mkF m 14 #[.val (.ref o0), .val (.long q1), .second, .val (.int (48 : Int32))] [(.ref o0)])) rfl rfl (hb hby d6_14)
  have k15 := (Fw4.other W10 (Or.inl (Ne.symm ne_w1_buf_o0)))
  obtain ⟨T16, X16, e16, st16⟩ := getF X14 hx hZ hown (host := "") (Or.inl (hw _ (List.mem_of_getElem? (i := 17) rfl))) Via.refl e14 k15 (g := (mkF m 19 #[.val (.ref o0), .val (.long q1), .second, .val (.int (48 : Int32))] [(.ref o0), (.ref o0), (.ref w1_buf)])) rfl rfl (hb hby d6_19)
  have k17 := ((E_o0.wr W4).wr W10)
  obtain ⟨T18, h18, X18, e18, W18, st18⟩ := putF X16 hx hZ hown (host := "") (Or.inl (hw _ (List.mem_of_getElem? (i := 17) rfl))) Via.refl e16 k15 k17 (Or.inl (hw _ (List.mem_of_getElem? (i := 18) rfl))) (hw _ (List.mem_of_getElem? (i := 1) rfl)) (ty := .int) (by decide) rfl rfl (g := (mkF m 25 #[.val (.ref o0), .val (.long q1), .second, .val (.int (48 : Int32))] [(.int (11 : Int32)), (.ref o0), (.int (10 : Int32)), (.ref w1_buf)])) rfl rfl (hb hby d6_25)
  have Fw18 := k15.same W18
  have N18 := Fr.snoc X18 N10 g_o0
  have z19 : n0 ≤ h18.size := Nat.le_trans z11 (Keep.of_wr W18).1
  have hs20 : h0.size ≤ h18.size := Nat.le_trans hs12 (Keep.of_wr W18).1
  have k21 := (V10.other W18 ne_w1_buf_o0)
  obtain ⟨cl22, Ar22, qc22, S22, M22, Ha22, G22⟩ := id k21
  have hin23 : ¬ ((10 : Int32) < 0 ∨ cl22.slots.size ≤ ((10 : Int32)).toNatClampNeg) := inb_of S22 ⟨by decide, by decide⟩
  obtain ⟨T24, h24, X24, e24, W24, st24⟩ := stB X18 hx hZ e18 Ar22 (j := (10 : Int32)) hin23 (g := (mkF m 33 #[.val (.ref o0), .val (.long q1), .second, .val (.int (48 : Int32))] [(.int (((XT.ushrL q1 (48 : Int32)).toInt32).toInt8.toInt32)), (.int (10 : Int32)), (.ref w1_buf)])) rfl rfl (hb hby d6_33)
  have V24 : Arv Z h24 w1_buf kA .byte (64 : Int32) [u0, u1, u2, u3, u4, u5, u6, u7, u8, (.int (nar .byte (vnu9_1 q1))), (.int (nar .byte (vnu9_2 q1))), u11, u12, u13, u14, u15, u16, u17, u18, u19, u20, u21, u22, u23, u24, u25, u26, u27, u28, u29, u30, u31, u32, u33, u34, u35, u36, u37, u38, u39, u40, u41, u42, u43, u44, u45, u46, u47, u48, u49, u50, u51, u52, u53, u54, u55, u56, u57, u58, u59, u60, u61, u62, u63] (.int (0 : Int32)) := Arv.set Ar22 qc22 S22 M22 Ha22 G22 (fits_nar_byte (vnu9_2 q1)) W24 10 rfl (Nat.le_of_ble_eq_true rfl)
  have N24 := Fr.snoc X24 N18 g_w1_buf
  have z25 : n0 ≤ h24.size := Nat.le_trans z19 (Keep.of_wr W24).1
  have hs26 : h0.size ≤ h24.size := Nat.le_trans hs20 (Keep.of_wr W24).1
  have k27 := ((k13.other W18 (Or.inr (slot_ne (Or.inl (hw _ (List.mem_of_getElem? (i := 11) rfl))) (Or.inl (hw _ (List.mem_of_getElem? (i := 18) rfl))) (by decide) (t := (.array .byte)) (t' := .int) (by decide) (by decide)))).other W24 (Or.inl (Ne.symm ne_w1_buf_o0)))
  obtain ⟨T28, X28, e28, st28⟩ := getF X24 hx hZ hown (host := "") (Or.inl (hw _ (List.mem_of_getElem? (i := 10) rfl))) Via.refl e24 k27 (g := (mkF m 14 #[.val (.ref o0), .val (.long q1), .second, .val (.int (40 : Int32))] [(.ref o0)])) rfl rfl (hb hby d6_14)
  have k29 := (Fw18.other W24 (Or.inl (Ne.symm ne_w1_buf_o0)))
  obtain ⟨T30, X30, e30, st30⟩ := getF X28 hx hZ hown (host := "") (Or.inl (hw _ (List.mem_of_getElem? (i := 17) rfl))) Via.refl e28 k29 (g := (mkF m 19 #[.val (.ref o0), .val (.long q1), .second, .val (.int (40 : Int32))] [(.ref o0), (.ref o0), (.ref w1_buf)])) rfl rfl (hb hby d6_19)
  have k31 := ((k17.wr W18).wr W24)
  obtain ⟨T32, h32, X32, e32, W32, st32⟩ := putF X30 hx hZ hown (host := "") (Or.inl (hw _ (List.mem_of_getElem? (i := 17) rfl))) Via.refl e30 k29 k31 (Or.inl (hw _ (List.mem_of_getElem? (i := 18) rfl))) (hw _ (List.mem_of_getElem? (i := 1) rfl)) (ty := .int) (by decide) rfl rfl (g := (mkF m 25 #[.val (.ref o0), .val (.long q1), .second, .val (.int (40 : Int32))] [(.int (12 : Int32)), (.ref o0), (.int (11 : Int32)), (.ref w1_buf)])) rfl rfl (hb hby d6_25)
  have Fw32 := k29.same W32
  have N32 := Fr.snoc X32 N24 g_o0
  have z33 : n0 ≤ h32.size := Nat.le_trans z25 (Keep.of_wr W32).1
  have hs34 : h0.size ≤ h32.size := Nat.le_trans hs26 (Keep.of_wr W32).1
  have k35 := (V24.other W32 ne_w1_buf_o0)
  obtain ⟨cl36, Ar36, qc36, S36, M36, Ha36, G36⟩ := id k35
  have hin37 : ¬ ((11 : Int32) < 0 ∨ cl36.slots.size ≤ ((11 : Int32)).toNatClampNeg) := inb_of S36 ⟨by decide, by decide⟩
  obtain ⟨T38, h38, X38, e38, W38, st38⟩ := stB X32 hx hZ e32 Ar36 (j := (11 : Int32)) hin37 (g := (mkF m 33 #[.val (.ref o0), .val (.long q1), .second, .val (.int (40 : Int32))] [(.int (((XT.ushrL q1 (40 : Int32)).toInt32).toInt8.toInt32)), (.int (11 : Int32)), (.ref w1_buf)])) rfl rfl (hb hby d6_33)
  have V38 : Arv Z h38 w1_buf kA .byte (64 : Int32) [u0, u1, u2, u3, u4, u5, u6, u7, u8, (.int (nar .byte (vnu9_1 q1))), (.int (nar .byte (vnu9_2 q1))), (.int (nar .byte (vnu9_3 q1))), u12, u13, u14, u15, u16, u17, u18, u19, u20, u21, u22, u23, u24, u25, u26, u27, u28, u29, u30, u31, u32, u33, u34, u35, u36, u37, u38, u39, u40, u41, u42, u43, u44, u45, u46, u47, u48, u49, u50, u51, u52, u53, u54, u55, u56, u57, u58, u59, u60, u61, u62, u63] (.int (0 : Int32)) := Arv.set Ar36 qc36 S36 M36 Ha36 G36 (fits_nar_byte (vnu9_3 q1)) W38 11 rfl (Nat.le_of_ble_eq_true rfl)
  have N38 := Fr.snoc X38 N32 g_w1_buf
  have z39 : n0 ≤ h38.size := Nat.le_trans z33 (Keep.of_wr W38).1
  have hs40 : h0.size ≤ h38.size := Nat.le_trans hs34 (Keep.of_wr W38).1
  have k41 := ((k27.other W32 (Or.inr (slot_ne (Or.inl (hw _ (List.mem_of_getElem? (i := 11) rfl))) (Or.inl (hw _ (List.mem_of_getElem? (i := 18) rfl))) (by decide) (t := (.array .byte)) (t' := .int) (by decide) (by decide)))).other W38 (Or.inl (Ne.symm ne_w1_buf_o0)))
  obtain ⟨T42, X42, e42, st42⟩ := getF X38 hx hZ hown (host := "") (Or.inl (hw _ (List.mem_of_getElem? (i := 10) rfl))) Via.refl e38 k41 (g := (mkF m 14 #[.val (.ref o0), .val (.long q1), .second, .val (.int (32 : Int32))] [(.ref o0)])) rfl rfl (hb hby d6_14)
  have k43 := (Fw32.other W38 (Or.inl (Ne.symm ne_w1_buf_o0)))
  obtain ⟨T44, X44, e44, st44⟩ := getF X42 hx hZ hown (host := "") (Or.inl (hw _ (List.mem_of_getElem? (i := 17) rfl))) Via.refl e42 k43 (g := (mkF m 19 #[.val (.ref o0), .val (.long q1), .second, .val (.int (32 : Int32))] [(.ref o0), (.ref o0), (.ref w1_buf)])) rfl rfl (hb hby d6_19)
  have k45 := ((k31.wr W32).wr W38)
  obtain ⟨T46, h46, X46, e46, W46, st46⟩ := putF X44 hx hZ hown (host := "") (Or.inl (hw _ (List.mem_of_getElem? (i := 17) rfl))) Via.refl e44 k43 k45 (Or.inl (hw _ (List.mem_of_getElem? (i := 18) rfl))) (hw _ (List.mem_of_getElem? (i := 1) rfl)) (ty := .int) (by decide) rfl rfl (g := (mkF m 25 #[.val (.ref o0), .val (.long q1), .second, .val (.int (32 : Int32))] [(.int (13 : Int32)), (.ref o0), (.int (12 : Int32)), (.ref w1_buf)])) rfl rfl (hb hby d6_25)
  have Fw46 := k43.same W46
  have N46 := Fr.snoc X46 N38 g_o0
  have z47 : n0 ≤ h46.size := Nat.le_trans z39 (Keep.of_wr W46).1
  have hs48 : h0.size ≤ h46.size := Nat.le_trans hs40 (Keep.of_wr W46).1
  have k49 := (V38.other W46 ne_w1_buf_o0)
  obtain ⟨cl50, Ar50, qc50, S50, M50, Ha50, G50⟩ := id k49
  have hin51 : ¬ ((12 : Int32) < 0 ∨ cl50.slots.size ≤ ((12 : Int32)).toNatClampNeg) := inb_of S50 ⟨by decide, by decide⟩
  obtain ⟨T52, h52, X52, e52, W52, st52⟩ := stB X46 hx hZ e46 Ar50 (j := (12 : Int32)) hin51 (g := (mkF m 33 #[.val (.ref o0), .val (.long q1), .second, .val (.int (32 : Int32))] [(.int (((XT.ushrL q1 (32 : Int32)).toInt32).toInt8.toInt32)), (.int (12 : Int32)), (.ref w1_buf)])) rfl rfl (hb hby d6_33)
  have V52 : Arv Z h52 w1_buf kA .byte (64 : Int32) [u0, u1, u2, u3, u4, u5, u6, u7, u8, (.int (nar .byte (vnu9_1 q1))), (.int (nar .byte (vnu9_2 q1))), (.int (nar .byte (vnu9_3 q1))), (.int (nar .byte (vnu9_4 q1))), u13, u14, u15, u16, u17, u18, u19, u20, u21, u22, u23, u24, u25, u26, u27, u28, u29, u30, u31, u32, u33, u34, u35, u36, u37, u38, u39, u40, u41, u42, u43, u44, u45, u46, u47, u48, u49, u50, u51, u52, u53, u54, u55, u56, u57, u58, u59, u60, u61, u62, u63] (.int (0 : Int32)) := Arv.set Ar50 qc50 S50 M50 Ha50 G50 (fits_nar_byte (vnu9_4 q1)) W52 12 rfl (Nat.le_of_ble_eq_true rfl)
  have N52 := Fr.snoc X52 N46 g_w1_buf
  have z53 : n0 ≤ h52.size := Nat.le_trans z47 (Keep.of_wr W52).1
  have hs54 : h0.size ≤ h52.size := Nat.le_trans hs48 (Keep.of_wr W52).1
  have k55 := ((k41.other W46 (Or.inr (slot_ne (Or.inl (hw _ (List.mem_of_getElem? (i := 11) rfl))) (Or.inl (hw _ (List.mem_of_getElem? (i := 18) rfl))) (by decide) (t := (.array .byte)) (t' := .int) (by decide) (by decide)))).other W52 (Or.inl (Ne.symm ne_w1_buf_o0)))
  obtain ⟨T56, X56, e56, st56⟩ := getF X52 hx hZ hown (host := "") (Or.inl (hw _ (List.mem_of_getElem? (i := 10) rfl))) Via.refl e52 k55 (g := (mkF m 14 #[.val (.ref o0), .val (.long q1), .second, .val (.int (24 : Int32))] [(.ref o0)])) rfl rfl (hb hby d6_14)
  have k57 := (Fw46.other W52 (Or.inl (Ne.symm ne_w1_buf_o0)))
  obtain ⟨T58, X58, e58, st58⟩ := getF X56 hx hZ hown (host := "") (Or.inl (hw _ (List.mem_of_getElem? (i := 17) rfl))) Via.refl e56 k57 (g := (mkF m 19 #[.val (.ref o0), .val (.long q1), .second, .val (.int (24 : Int32))] [(.ref o0), (.ref o0), (.ref w1_buf)])) rfl rfl (hb hby d6_19)
  have k59 := ((k45.wr W46).wr W52)
  obtain ⟨T60, h60, X60, e60, W60, st60⟩ := putF X58 hx hZ hown (host := "") (Or.inl (hw _ (List.mem_of_getElem? (i := 17) rfl))) Via.refl e58 k57 k59 (Or.inl (hw _ (List.mem_of_getElem? (i := 18) rfl))) (hw _ (List.mem_of_getElem? (i := 1) rfl)) (ty := .int) (by decide) rfl rfl (g := (mkF m 25 #[.val (.ref o0), .val (.long q1), .second, .val (.int (24 : Int32))] [(.int (14 : Int32)), (.ref o0), (.int (13 : Int32)), (.ref w1_buf)])) rfl rfl (hb hby d6_25)
  have Fw60 := k57.same W60
  have N60 := Fr.snoc X60 N52 g_o0
  have z61 : n0 ≤ h60.size := Nat.le_trans z53 (Keep.of_wr W60).1
  have hs62 : h0.size ≤ h60.size := Nat.le_trans hs54 (Keep.of_wr W60).1
  have k63 := (V52.other W60 ne_w1_buf_o0)
  obtain ⟨cl64, Ar64, qc64, S64, M64, Ha64, G64⟩ := id k63
  have hin65 : ¬ ((13 : Int32) < 0 ∨ cl64.slots.size ≤ ((13 : Int32)).toNatClampNeg) := inb_of S64 ⟨by decide, by decide⟩
  obtain ⟨T66, h66, X66, e66, W66, st66⟩ := stB X60 hx hZ e60 Ar64 (j := (13 : Int32)) hin65 (g := (mkF m 33 #[.val (.ref o0), .val (.long q1), .second, .val (.int (24 : Int32))] [(.int (((XT.ushrL q1 (24 : Int32)).toInt32).toInt8.toInt32)), (.int (13 : Int32)), (.ref w1_buf)])) rfl rfl (hb hby d6_33)
  have V66 : Arv Z h66 w1_buf kA .byte (64 : Int32) [u0, u1, u2, u3, u4, u5, u6, u7, u8, (.int (nar .byte (vnu9_1 q1))), (.int (nar .byte (vnu9_2 q1))), (.int (nar .byte (vnu9_3 q1))), (.int (nar .byte (vnu9_4 q1))), (.int (nar .byte (vnu9_5 q1))), u14, u15, u16, u17, u18, u19, u20, u21, u22, u23, u24, u25, u26, u27, u28, u29, u30, u31, u32, u33, u34, u35, u36, u37, u38, u39, u40, u41, u42, u43, u44, u45, u46, u47, u48, u49, u50, u51, u52, u53, u54, u55, u56, u57, u58, u59, u60, u61, u62, u63] (.int (0 : Int32)) := Arv.set Ar64 qc64 S64 M64 Ha64 G64 (fits_nar_byte (vnu9_5 q1)) W66 13 rfl (Nat.le_of_ble_eq_true rfl)
  have N66 := Fr.snoc X66 N60 g_w1_buf
  have z67 : n0 ≤ h66.size := Nat.le_trans z61 (Keep.of_wr W66).1
  have hs68 : h0.size ≤ h66.size := Nat.le_trans hs62 (Keep.of_wr W66).1
  have k69 := ((k55.other W60 (Or.inr (slot_ne (Or.inl (hw _ (List.mem_of_getElem? (i := 11) rfl))) (Or.inl (hw _ (List.mem_of_getElem? (i := 18) rfl))) (by decide) (t := (.array .byte)) (t' := .int) (by decide) (by decide)))).other W66 (Or.inl (Ne.symm ne_w1_buf_o0)))
  obtain ⟨T70, X70, e70, st70⟩ := getF X66 hx hZ hown (host := "") (Or.inl (hw _ (List.mem_of_getElem? (i := 10) rfl))) Via.refl e66 k69 (g := (mkF m 14 #[.val (.ref o0), .val (.long q1), .second, .val (.int (16 : Int32))] [(.ref o0)])) rfl rfl (hb hby d6_14)
  have k71 := (Fw60.other W66 (Or.inl (Ne.symm ne_w1_buf_o0)))
  obtain ⟨T72, X72, e72, st72⟩ := getF X70 hx hZ hown (host := "") (Or.inl (hw _ (List.mem_of_getElem? (i := 17) rfl))) Via.refl e70 k71 (g := (mkF m 19 #[.val (.ref o0), .val (.long q1), .second, .val (.int (16 : Int32))] [(.ref o0), (.ref o0), (.ref w1_buf)])) rfl rfl (hb hby d6_19)
  have k73 := ((k59.wr W60).wr W66)
  obtain ⟨T74, h74, X74, e74, W74, st74⟩ := putF X72 hx hZ hown (host := "") (Or.inl (hw _ (List.mem_of_getElem? (i := 17) rfl))) Via.refl e72 k71 k73 (Or.inl (hw _ (List.mem_of_getElem? (i := 18) rfl))) (hw _ (List.mem_of_getElem? (i := 1) rfl)) (ty := .int) (by decide) rfl rfl (g := (mkF m 25 #[.val (.ref o0), .val (.long q1), .second, .val (.int (16 : Int32))] [(.int (15 : Int32)), (.ref o0), (.int (14 : Int32)), (.ref w1_buf)])) rfl rfl (hb hby d6_25)
  have Fw74 := k71.same W74
  have N74 := Fr.snoc X74 N66 g_o0
  have z75 : n0 ≤ h74.size := Nat.le_trans z67 (Keep.of_wr W74).1
  have hs76 : h0.size ≤ h74.size := Nat.le_trans hs68 (Keep.of_wr W74).1
  have k77 := (V66.other W74 ne_w1_buf_o0)
  obtain ⟨cl78, Ar78, qc78, S78, M78, Ha78, G78⟩ := id k77
  have hin79 : ¬ ((14 : Int32) < 0 ∨ cl78.slots.size ≤ ((14 : Int32)).toNatClampNeg) := inb_of S78 ⟨by decide, by decide⟩
  obtain ⟨T80, h80, X80, e80, W80, st80⟩ := stB X74 hx hZ e74 Ar78 (j := (14 : Int32)) hin79 (g := (mkF m 33 #[.val (.ref o0), .val (.long q1), .second, .val (.int (16 : Int32))] [(.int (((XT.ushrL q1 (16 : Int32)).toInt32).toInt8.toInt32)), (.int (14 : Int32)), (.ref w1_buf)])) rfl rfl (hb hby d6_33)
  have V80 : Arv Z h80 w1_buf kA .byte (64 : Int32) [u0, u1, u2, u3, u4, u5, u6, u7, u8, (.int (nar .byte (vnu9_1 q1))), (.int (nar .byte (vnu9_2 q1))), (.int (nar .byte (vnu9_3 q1))), (.int (nar .byte (vnu9_4 q1))), (.int (nar .byte (vnu9_5 q1))), (.int (nar .byte (vnu9_6 q1))), u15, u16, u17, u18, u19, u20, u21, u22, u23, u24, u25, u26, u27, u28, u29, u30, u31, u32, u33, u34, u35, u36, u37, u38, u39, u40, u41, u42, u43, u44, u45, u46, u47, u48, u49, u50, u51, u52, u53, u54, u55, u56, u57, u58, u59, u60, u61, u62, u63] (.int (0 : Int32)) := Arv.set Ar78 qc78 S78 M78 Ha78 G78 (fits_nar_byte (vnu9_6 q1)) W80 14 rfl (Nat.le_of_ble_eq_true rfl)
  have N80 := Fr.snoc X80 N74 g_w1_buf
  have z81 : n0 ≤ h80.size := Nat.le_trans z75 (Keep.of_wr W80).1
  have hs82 : h0.size ≤ h80.size := Nat.le_trans hs76 (Keep.of_wr W80).1
  have k83 := ((k69.other W74 (Or.inr (slot_ne (Or.inl (hw _ (List.mem_of_getElem? (i := 11) rfl))) (Or.inl (hw _ (List.mem_of_getElem? (i := 18) rfl))) (by decide) (t := (.array .byte)) (t' := .int) (by decide) (by decide)))).other W80 (Or.inl (Ne.symm ne_w1_buf_o0)))
  obtain ⟨T84, X84, e84, st84⟩ := getF X80 hx hZ hown (host := "") (Or.inl (hw _ (List.mem_of_getElem? (i := 10) rfl))) Via.refl e80 k83 (g := (mkF m 14 #[.val (.ref o0), .val (.long q1), .second, .val (.int (8 : Int32))] [(.ref o0)])) rfl rfl (hb hby d6_14)
  have k85 := (Fw74.other W80 (Or.inl (Ne.symm ne_w1_buf_o0)))
  obtain ⟨T86, X86, e86, st86⟩ := getF X84 hx hZ hown (host := "") (Or.inl (hw _ (List.mem_of_getElem? (i := 17) rfl))) Via.refl e84 k85 (g := (mkF m 19 #[.val (.ref o0), .val (.long q1), .second, .val (.int (8 : Int32))] [(.ref o0), (.ref o0), (.ref w1_buf)])) rfl rfl (hb hby d6_19)
  have k87 := ((k73.wr W74).wr W80)
  obtain ⟨T88, h88, X88, e88, W88, st88⟩ := putF X86 hx hZ hown (host := "") (Or.inl (hw _ (List.mem_of_getElem? (i := 17) rfl))) Via.refl e86 k85 k87 (Or.inl (hw _ (List.mem_of_getElem? (i := 18) rfl))) (hw _ (List.mem_of_getElem? (i := 1) rfl)) (ty := .int) (by decide) rfl rfl (g := (mkF m 25 #[.val (.ref o0), .val (.long q1), .second, .val (.int (8 : Int32))] [(.int (16 : Int32)), (.ref o0), (.int (15 : Int32)), (.ref w1_buf)])) rfl rfl (hb hby d6_25)
  have Fw88 := k85.same W88
  have N88 := Fr.snoc X88 N80 g_o0
  have z89 : n0 ≤ h88.size := Nat.le_trans z81 (Keep.of_wr W88).1
  have hs90 : h0.size ≤ h88.size := Nat.le_trans hs82 (Keep.of_wr W88).1
  have k91 := (V80.other W88 ne_w1_buf_o0)
  obtain ⟨cl92, Ar92, qc92, S92, M92, Ha92, G92⟩ := id k91
  have hin93 : ¬ ((15 : Int32) < 0 ∨ cl92.slots.size ≤ ((15 : Int32)).toNatClampNeg) := inb_of S92 ⟨by decide, by decide⟩
  obtain ⟨T94, h94, X94, e94, W94, st94⟩ := stB X88 hx hZ e88 Ar92 (j := (15 : Int32)) hin93 (g := (mkF m 33 #[.val (.ref o0), .val (.long q1), .second, .val (.int (8 : Int32))] [(.int (((XT.ushrL q1 (8 : Int32)).toInt32).toInt8.toInt32)), (.int (15 : Int32)), (.ref w1_buf)])) rfl rfl (hb hby d6_33)
  have V94 : Arv Z h94 w1_buf kA .byte (64 : Int32) [u0, u1, u2, u3, u4, u5, u6, u7, u8, (.int (nar .byte (vnu9_1 q1))), (.int (nar .byte (vnu9_2 q1))), (.int (nar .byte (vnu9_3 q1))), (.int (nar .byte (vnu9_4 q1))), (.int (nar .byte (vnu9_5 q1))), (.int (nar .byte (vnu9_6 q1))), (.int (nar .byte (vnu9_7 q1))), u16, u17, u18, u19, u20, u21, u22, u23, u24, u25, u26, u27, u28, u29, u30, u31, u32, u33, u34, u35, u36, u37, u38, u39, u40, u41, u42, u43, u44, u45, u46, u47, u48, u49, u50, u51, u52, u53, u54, u55, u56, u57, u58, u59, u60, u61, u62, u63] (.int (0 : Int32)) := Arv.set Ar92 qc92 S92 M92 Ha92 G92 (fits_nar_byte (vnu9_7 q1)) W94 15 rfl (Nat.le_of_ble_eq_true rfl)
  have N94 := Fr.snoc X94 N88 g_w1_buf
  have z95 : n0 ≤ h94.size := Nat.le_trans z89 (Keep.of_wr W94).1
  have hs96 : h0.size ≤ h94.size := Nat.le_trans hs90 (Keep.of_wr W94).1
  have k97 := ((k83.other W88 (Or.inr (slot_ne (Or.inl (hw _ (List.mem_of_getElem? (i := 11) rfl))) (Or.inl (hw _ (List.mem_of_getElem? (i := 18) rfl))) (by decide) (t := (.array .byte)) (t' := .int) (by decide) (by decide)))).other W94 (Or.inl (Ne.symm ne_w1_buf_o0)))
  obtain ⟨T98, X98, e98, st98⟩ := getF X94 hx hZ hown (host := "") (Or.inl (hw _ (List.mem_of_getElem? (i := 10) rfl))) Via.refl e94 k97 (g := (mkF m 14 #[.val (.ref o0), .val (.long q1), .second, .val (.int (0 : Int32))] [(.ref o0)])) rfl rfl (hb hby d6_14)
  have k99 := (Fw88.other W94 (Or.inl (Ne.symm ne_w1_buf_o0)))
  obtain ⟨T100, X100, e100, st100⟩ := getF X98 hx hZ hown (host := "") (Or.inl (hw _ (List.mem_of_getElem? (i := 17) rfl))) Via.refl e98 k99 (g := (mkF m 19 #[.val (.ref o0), .val (.long q1), .second, .val (.int (0 : Int32))] [(.ref o0), (.ref o0), (.ref w1_buf)])) rfl rfl (hb hby d6_19)
  have k101 := ((k87.wr W88).wr W94)
  obtain ⟨T102, h102, X102, e102, W102, st102⟩ := putF X100 hx hZ hown (host := "") (Or.inl (hw _ (List.mem_of_getElem? (i := 17) rfl))) Via.refl e100 k99 k101 (Or.inl (hw _ (List.mem_of_getElem? (i := 18) rfl))) (hw _ (List.mem_of_getElem? (i := 1) rfl)) (ty := .int) (by decide) rfl rfl (g := (mkF m 25 #[.val (.ref o0), .val (.long q1), .second, .val (.int (0 : Int32))] [(.int (17 : Int32)), (.ref o0), (.int (16 : Int32)), (.ref w1_buf)])) rfl rfl (hb hby d6_25)
  have Fw102 := k99.same W102
  have N102 := Fr.snoc X102 N94 g_o0
  have z103 : n0 ≤ h102.size := Nat.le_trans z95 (Keep.of_wr W102).1
  have hs104 : h0.size ≤ h102.size := Nat.le_trans hs96 (Keep.of_wr W102).1
  have k105 := (V94.other W102 ne_w1_buf_o0)
  obtain ⟨cl106, Ar106, qc106, S106, M106, Ha106, G106⟩ := id k105
  have hin107 : ¬ ((16 : Int32) < 0 ∨ cl106.slots.size ≤ ((16 : Int32)).toNatClampNeg) := inb_of S106 ⟨by decide, by decide⟩
  obtain ⟨T108, h108, X108, e108, W108, st108⟩ := stB X102 hx hZ e102 Ar106 (j := (16 : Int32)) hin107 (g := (mkF m 33 #[.val (.ref o0), .val (.long q1), .second, .val (.int (0 : Int32))] [(.int (((XT.ushrL q1 (0 : Int32)).toInt32).toInt8.toInt32)), (.int (16 : Int32)), (.ref w1_buf)])) rfl rfl (hb hby d6_33)
  have V108 : Arv Z h108 w1_buf kA .byte (64 : Int32) [u0, u1, u2, u3, u4, u5, u6, u7, u8, (.int (nar .byte (vnu9_1 q1))), (.int (nar .byte (vnu9_2 q1))), (.int (nar .byte (vnu9_3 q1))), (.int (nar .byte (vnu9_4 q1))), (.int (nar .byte (vnu9_5 q1))), (.int (nar .byte (vnu9_6 q1))), (.int (nar .byte (vnu9_7 q1))), (.int (nar .byte (vnu9_8 q1))), u17, u18, u19, u20, u21, u22, u23, u24, u25, u26, u27, u28, u29, u30, u31, u32, u33, u34, u35, u36, u37, u38, u39, u40, u41, u42, u43, u44, u45, u46, u47, u48, u49, u50, u51, u52, u53, u54, u55, u56, u57, u58, u59, u60, u61, u62, u63] (.int (0 : Int32)) := Arv.set Ar106 qc106 S106 M106 Ha106 G106 (fits_nar_byte (vnu9_8 q1)) W108 16 rfl (Nat.le_of_ble_eq_true rfl)
  have N108 := Fr.snoc X108 N102 g_w1_buf
  have z109 : n0 ≤ h108.size := Nat.le_trans z103 (Keep.of_wr W108).1
  have hs110 : h0.size ≤ h108.size := Nat.le_trans hs104 (Keep.of_wr W108).1
  obtain ⟨fs, hr, hrun, hended, hW, hsame⟩ := X108.leave (v := some (.ref o0)) (fun h => by rw [Bd.returns] at h; cases h) hlk
  refine ⟨_, _, pre0 _ ?_, hrun, hended, _, _, rfl, ?_, ⟨_, rfl⟩, hW, hsame.mono (by decide) (by decide)⟩
  · skip
    show Steps p.tables e below (s₁.setTop (mkF m 0 #[.val (.ref o0), .val (.long q1), .second, .unset] [])) _
    refine XS.aloadN X0.here hx rfl (hb hby d6_0) rfl rfl ?_
    show Steps p.tables e below (s₁.setTop (mkF m 1 #[.val (.ref o0), .val (.long q1), .second, .unset] [(.ref o0)])) _
    refine XT.bipushV X0.here hx rfl (8 : Int32) (hb hby d6_1) (by decide) ?_
    show Steps p.tables e below (s₁.setTop (mkF m 3 #[.val (.ref o0), .val (.long q1), .second, .unset] [(.int (8 : Int32)), (.ref o0)])) _
    refine st1.trans ?_
    show Steps p.tables e below (T1.setTop (mkF m 6 #[.val (.ref o0), .val (.long q1), .second, .unset] [])) _
    refine XT.bipushV X1.here hx rfl (56 : Int32) (hb hby d6_6) (by decide) ?_
    show Steps p.tables e below (T1.setTop (mkF m 8 #[.val (.ref o0), .val (.long q1), .second, .unset] [(.int (56 : Int32))])) _
    refine XS.istoreN X1.here hx rfl (hb hby d6_8) rfl (l' := #[.val (.ref o0), .val (.long q1), .second, .val (.int (56 : Int32))]) rfl ?_
    show Steps p.tables e below (T1.setTop (mkF m 9 #[.val (.ref o0), .val (.long q1), .second, .val (.int (56 : Int32))] [])) _
    refine XS.iloadN X1.here hx rfl (hb hby d6_9) rfl ?_
    show Steps p.tables e below (T1.setTop (mkF m 10 #[.val (.ref o0), .val (.long q1), .second, .val (.int (56 : Int32))] [(.int (56 : Int32))])) _
    refine XS.ifNo X1.here hx rfl (hb hby d6_10) rfl (XT.i0_lt_f (by decide)) ?_
    show Steps p.tables e below (T1.setTop (mkF m 13 #[.val (.ref o0), .val (.long q1), .second, .val (.int (56 : Int32))] [])) _
    refine XS.aloadN X1.here hx rfl (hb hby d6_13) rfl rfl ?_
    show Steps p.tables e below (T1.setTop (mkF m 14 #[.val (.ref o0), .val (.long q1), .second, .val (.int (56 : Int32))] [(.ref o0)])) _
    refine st2 _ ?_
    show Steps p.tables e below (T2.setTop (mkF m 17 #[.val (.ref o0), .val (.long q1), .second, .val (.int (56 : Int32))] [(.ref w1_buf)])) _
    refine XS.aloadN X2.here hx rfl (hb hby d6_17) rfl rfl ?_
    show Steps p.tables e below (T2.setTop (mkF m 18 #[.val (.ref o0), .val (.long q1), .second, .val (.int (56 : Int32))] [(.ref o0), (.ref w1_buf)])) _
    refine XS.dup X2.here hx rfl (hb hby d6_18) rfl rfl ?_
    show Steps p.tables e below (T2.setTop (mkF m 19 #[.val (.ref o0), .val (.long q1), .second, .val (.int (56 : Int32))] [(.ref o0), (.ref o0), (.ref w1_buf)])) _
    refine st3 _ ?_
    show Steps p.tables e below (T3.setTop (mkF m 22 #[.val (.ref o0), .val (.long q1), .second, .val (.int (56 : Int32))] [(.int (9 : Int32)), (.ref o0), (.ref w1_buf)])) _
    refine XT.dupX1 X3.here hx rfl (hb hby d6_22) rfl rfl rfl ?_
    show Steps p.tables e below (T3.setTop (mkF m 23 #[.val (.ref o0), .val (.long q1), .second, .val (.int (56 : Int32))] [(.int (9 : Int32)), (.ref o0), (.int (9 : Int32)), (.ref w1_buf)])) _
    refine XT.iconstV X3.here hx rfl (1 : Int32) (hb hby d6_23) (by decide) ?_
    show Steps p.tables e below (T3.setTop (mkF m 24 #[.val (.ref o0), .val (.long q1), .second, .val (.int (56 : Int32))] [(.int (1 : Int32)), (.int (9 : Int32)), (.ref o0), (.int (9 : Int32)), (.ref w1_buf)])) _
    refine XS.iadd X3.here hx rfl (hb hby d6_24) rfl ?_
    show Steps p.tables e below (T3.setTop (mkF m 25 #[.val (.ref o0), .val (.long q1), .second, .val (.int (56 : Int32))] [(.int (10 : Int32)), (.ref o0), (.int (9 : Int32)), (.ref w1_buf)])) _
    refine st4 _ ?_
    show Steps p.tables e below (T4.setTop (mkF m 28 #[.val (.ref o0), .val (.long q1), .second, .val (.int (56 : Int32))] [(.int (9 : Int32)), (.ref w1_buf)])) _
    refine XT.lloadN X4.here hx rfl (hb hby d6_28) rfl ?_
    show Steps p.tables e below (T4.setTop (mkF m 29 #[.val (.ref o0), .val (.long q1), .second, .val (.int (56 : Int32))] [(.long q1), (.int (9 : Int32)), (.ref w1_buf)])) _
    refine XS.iloadN X4.here hx rfl (hb hby d6_29) rfl ?_
    show Steps p.tables e below (T4.setTop (mkF m 30 #[.val (.ref o0), .val (.long q1), .second, .val (.int (56 : Int32))] [(.int (56 : Int32)), (.long q1), (.int (9 : Int32)), (.ref w1_buf)])) _
    refine XT.lushr X4.here hx rfl (hb hby d6_30) rfl ?_
    show Steps p.tables e below (T4.setTop (mkF m 31 #[.val (.ref o0), .val (.long q1), .second, .val (.int (56 : Int32))] [(.long (XT.ushrL q1 (56 : Int32))), (.int (9 : Int32)), (.ref w1_buf)])) _
    refine XT.l2i X4.here hx rfl (hb hby d6_31) rfl ?_
    show Steps p.tables e below (T4.setTop (mkF m 32 #[.val (.ref o0), .val (.long q1), .second, .val (.int (56 : Int32))] [(.int ((XT.ushrL q1 (56 : Int32)).toInt32)), (.int (9 : Int32)), (.ref w1_buf)])) _
    refine XT.i2b X4.here hx rfl (hb hby d6_32) rfl ?_
    show Steps p.tables e below (T4.setTop (mkF m 33 #[.val (.ref o0), .val (.long q1), .second, .val (.int (56 : Int32))] [(.int (((XT.ushrL q1 (56 : Int32)).toInt32).toInt8.toInt32)), (.int (9 : Int32)), (.ref w1_buf)])) _
    refine st10 _ ?_
    show Steps p.tables e below (T10.setTop (mkF m 34 #[.val (.ref o0), .val (.long q1), .second, .val (.int (56 : Int32))] [])) _
    refine XT.iincV X10.here hx rfl (-8 : Int32) (hb hby d6_34) (by decide) rfl (l' := #[.val (.ref o0), .val (.long q1), .second, .val (.int (48 : Int32))]) rfl ?_
    show Steps p.tables e below (T10.setTop (mkF m 37 #[.val (.ref o0), .val (.long q1), .second, .val (.int (48 : Int32))] [])) _
    refine XS.goto X10.here hx rfl (pc0 := 37) (pc' := 9) rfl (hb hby d6_37) (by decide) (by decide) ?_
    show Steps p.tables e below (T10.setTop (mkF m 9 #[.val (.ref o0), .val (.long q1), .second, .val (.int (48 : Int32))] [])) _
    refine XS.iloadN X10.here hx rfl (hb hby d6_9) rfl ?_
    show Steps p.tables e below (T10.setTop (mkF m 10 #[.val (.ref o0), .val (.long q1), .second, .val (.int (48 : Int32))] [(.int (48 : Int32))])) _
    refine XS.ifNo X10.here hx rfl (hb hby d6_10) rfl (XT.i0_lt_f (by decide)) ?_
    show Steps p.tables e below (T10.setTop (mkF m 13 #[.val (.ref o0), .val (.long q1), .second, .val (.int (48 : Int32))] [])) _
    refine XS.aloadN X10.here hx rfl (hb hby d6_13) rfl rfl ?_
    show Steps p.tables e below (T10.setTop (mkF m 14 #[.val (.ref o0), .val (.long q1), .second, .val (.int (48 : Int32))] [(.ref o0)])) _
    refine st14 _ ?_
    show Steps p.tables e below (T14.setTop (mkF m 17 #[.val (.ref o0), .val (.long q1), .second, .val (.int (48 : Int32))] [(.ref w1_buf)])) _
    refine XS.aloadN X14.here hx rfl (hb hby d6_17) rfl rfl ?_
    show Steps p.tables e below (T14.setTop (mkF m 18 #[.val (.ref o0), .val (.long q1), .second, .val (.int (48 : Int32))] [(.ref o0), (.ref w1_buf)])) _
    refine XS.dup X14.here hx rfl (hb hby d6_18) rfl rfl ?_
    show Steps p.tables e below (T14.setTop (mkF m 19 #[.val (.ref o0), .val (.long q1), .second, .val (.int (48 : Int32))] [(.ref o0), (.ref o0), (.ref w1_buf)])) _
    refine st16 _ ?_
    show Steps p.tables e below (T16.setTop (mkF m 22 #[.val (.ref o0), .val (.long q1), .second, .val (.int (48 : Int32))] [(.int (10 : Int32)), (.ref o0), (.ref w1_buf)])) _
    refine XT.dupX1 X16.here hx rfl (hb hby d6_22) rfl rfl rfl ?_
    show Steps p.tables e below (T16.setTop (mkF m 23 #[.val (.ref o0), .val (.long q1), .second, .val (.int (48 : Int32))] [(.int (10 : Int32)), (.ref o0), (.int (10 : Int32)), (.ref w1_buf)])) _
    refine XT.iconstV X16.here hx rfl (1 : Int32) (hb hby d6_23) (by decide) ?_
    show Steps p.tables e below (T16.setTop (mkF m 24 #[.val (.ref o0), .val (.long q1), .second, .val (.int (48 : Int32))] [(.int (1 : Int32)), (.int (10 : Int32)), (.ref o0), (.int (10 : Int32)), (.ref w1_buf)])) _
    refine XS.iadd X16.here hx rfl (hb hby d6_24) rfl ?_
    show Steps p.tables e below (T16.setTop (mkF m 25 #[.val (.ref o0), .val (.long q1), .second, .val (.int (48 : Int32))] [(.int (11 : Int32)), (.ref o0), (.int (10 : Int32)), (.ref w1_buf)])) _
    refine st18 _ ?_
    show Steps p.tables e below (T18.setTop (mkF m 28 #[.val (.ref o0), .val (.long q1), .second, .val (.int (48 : Int32))] [(.int (10 : Int32)), (.ref w1_buf)])) _
    refine XT.lloadN X18.here hx rfl (hb hby d6_28) rfl ?_
    show Steps p.tables e below (T18.setTop (mkF m 29 #[.val (.ref o0), .val (.long q1), .second, .val (.int (48 : Int32))] [(.long q1), (.int (10 : Int32)), (.ref w1_buf)])) _
    refine XS.iloadN X18.here hx rfl (hb hby d6_29) rfl ?_
    show Steps p.tables e below (T18.setTop (mkF m 30 #[.val (.ref o0), .val (.long q1), .second, .val (.int (48 : Int32))] [(.int (48 : Int32)), (.long q1), (.int (10 : Int32)), (.ref w1_buf)])) _
    refine XT.lushr X18.here hx rfl (hb hby d6_30) rfl ?_
    show Steps p.tables e below (T18.setTop (mkF m 31 #[.val (.ref o0), .val (.long q1), .second, .val (.int (48 : Int32))] [(.long (XT.ushrL q1 (48 : Int32))), (.int (10 : Int32)), (.ref w1_buf)])) _
    refine XT.l2i X18.here hx rfl (hb hby d6_31) rfl ?_
    show Steps p.tables e below (T18.setTop (mkF m 32 #[.val (.ref o0), .val (.long q1), .second, .val (.int (48 : Int32))] [(.int ((XT.ushrL q1 (48 : Int32)).toInt32)), (.int (10 : Int32)), (.ref w1_buf)])) _
    refine XT.i2b X18.here hx rfl (hb hby d6_32) rfl ?_
    show Steps p.tables e below (T18.setTop (mkF m 33 #[.val (.ref o0), .val (.long q1), .second, .val (.int (48 : Int32))] [(.int (((XT.ushrL q1 (48 : Int32)).toInt32).toInt8.toInt32)), (.int (10 : Int32)), (.ref w1_buf)])) _
    refine st24 _ ?_
    show Steps p.tables e below (T24.setTop (mkF m 34 #[.val (.ref o0), .val (.long q1), .second, .val (.int (48 : Int32))] [])) _
    refine XT.iincV X24.here hx rfl (-8 : Int32) (hb hby d6_34) (by decide) rfl (l' := #[.val (.ref o0), .val (.long q1), .second, .val (.int (40 : Int32))]) rfl ?_
    show Steps p.tables e below (T24.setTop (mkF m 37 #[.val (.ref o0), .val (.long q1), .second, .val (.int (40 : Int32))] [])) _
    refine XS.goto X24.here hx rfl (pc0 := 37) (pc' := 9) rfl (hb hby d6_37) (by decide) (by decide) ?_
    show Steps p.tables e below (T24.setTop (mkF m 9 #[.val (.ref o0), .val (.long q1), .second, .val (.int (40 : Int32))] [])) _
    refine XS.iloadN X24.here hx rfl (hb hby d6_9) rfl ?_
    show Steps p.tables e below (T24.setTop (mkF m 10 #[.val (.ref o0), .val (.long q1), .second, .val (.int (40 : Int32))] [(.int (40 : Int32))])) _
    refine XS.ifNo X24.here hx rfl (hb hby d6_10) rfl (XT.i0_lt_f (by decide)) ?_
    show Steps p.tables e below (T24.setTop (mkF m 13 #[.val (.ref o0), .val (.long q1), .second, .val (.int (40 : Int32))] [])) _
    refine XS.aloadN X24.here hx rfl (hb hby d6_13) rfl rfl ?_
    show Steps p.tables e below (T24.setTop (mkF m 14 #[.val (.ref o0), .val (.long q1), .second, .val (.int (40 : Int32))] [(.ref o0)])) _
    refine st28 _ ?_
    show Steps p.tables e below (T28.setTop (mkF m 17 #[.val (.ref o0), .val (.long q1), .second, .val (.int (40 : Int32))] [(.ref w1_buf)])) _
    refine XS.aloadN X28.here hx rfl (hb hby d6_17) rfl rfl ?_
    show Steps p.tables e below (T28.setTop (mkF m 18 #[.val (.ref o0), .val (.long q1), .second, .val (.int (40 : Int32))] [(.ref o0), (.ref w1_buf)])) _
    refine XS.dup X28.here hx rfl (hb hby d6_18) rfl rfl ?_
    show Steps p.tables e below (T28.setTop (mkF m 19 #[.val (.ref o0), .val (.long q1), .second, .val (.int (40 : Int32))] [(.ref o0), (.ref o0), (.ref w1_buf)])) _
    refine st30 _ ?_
    show Steps p.tables e below (T30.setTop (mkF m 22 #[.val (.ref o0), .val (.long q1), .second, .val (.int (40 : Int32))] [(.int (11 : Int32)), (.ref o0), (.ref w1_buf)])) _
    refine XT.dupX1 X30.here hx rfl (hb hby d6_22) rfl rfl rfl ?_
    show Steps p.tables e below (T30.setTop (mkF m 23 #[.val (.ref o0), .val (.long q1), .second, .val (.int (40 : Int32))] [(.int (11 : Int32)), (.ref o0), (.int (11 : Int32)), (.ref w1_buf)])) _
    refine XT.iconstV X30.here hx rfl (1 : Int32) (hb hby d6_23) (by decide) ?_
    show Steps p.tables e below (T30.setTop (mkF m 24 #[.val (.ref o0), .val (.long q1), .second, .val (.int (40 : Int32))] [(.int (1 : Int32)), (.int (11 : Int32)), (.ref o0), (.int (11 : Int32)), (.ref w1_buf)])) _
    refine XS.iadd X30.here hx rfl (hb hby d6_24) rfl ?_
    show Steps p.tables e below (T30.setTop (mkF m 25 #[.val (.ref o0), .val (.long q1), .second, .val (.int (40 : Int32))] [(.int (12 : Int32)), (.ref o0), (.int (11 : Int32)), (.ref w1_buf)])) _
    refine st32 _ ?_
    show Steps p.tables e below (T32.setTop (mkF m 28 #[.val (.ref o0), .val (.long q1), .second, .val (.int (40 : Int32))] [(.int (11 : Int32)), (.ref w1_buf)])) _
    refine XT.lloadN X32.here hx rfl (hb hby d6_28) rfl ?_
    show Steps p.tables e below (T32.setTop (mkF m 29 #[.val (.ref o0), .val (.long q1), .second, .val (.int (40 : Int32))] [(.long q1), (.int (11 : Int32)), (.ref w1_buf)])) _
    refine XS.iloadN X32.here hx rfl (hb hby d6_29) rfl ?_
    show Steps p.tables e below (T32.setTop (mkF m 30 #[.val (.ref o0), .val (.long q1), .second, .val (.int (40 : Int32))] [(.int (40 : Int32)), (.long q1), (.int (11 : Int32)), (.ref w1_buf)])) _
    refine XT.lushr X32.here hx rfl (hb hby d6_30) rfl ?_
    show Steps p.tables e below (T32.setTop (mkF m 31 #[.val (.ref o0), .val (.long q1), .second, .val (.int (40 : Int32))] [(.long (XT.ushrL q1 (40 : Int32))), (.int (11 : Int32)), (.ref w1_buf)])) _
    refine XT.l2i X32.here hx rfl (hb hby d6_31) rfl ?_
    show Steps p.tables e below (T32.setTop (mkF m 32 #[.val (.ref o0), .val (.long q1), .second, .val (.int (40 : Int32))] [(.int ((XT.ushrL q1 (40 : Int32)).toInt32)), (.int (11 : Int32)), (.ref w1_buf)])) _
    refine XT.i2b X32.here hx rfl (hb hby d6_32) rfl ?_
    show Steps p.tables e below (T32.setTop (mkF m 33 #[.val (.ref o0), .val (.long q1), .second, .val (.int (40 : Int32))] [(.int (((XT.ushrL q1 (40 : Int32)).toInt32).toInt8.toInt32)), (.int (11 : Int32)), (.ref w1_buf)])) _
    refine st38 _ ?_
    show Steps p.tables e below (T38.setTop (mkF m 34 #[.val (.ref o0), .val (.long q1), .second, .val (.int (40 : Int32))] [])) _
    refine XT.iincV X38.here hx rfl (-8 : Int32) (hb hby d6_34) (by decide) rfl (l' := #[.val (.ref o0), .val (.long q1), .second, .val (.int (32 : Int32))]) rfl ?_
    show Steps p.tables e below (T38.setTop (mkF m 37 #[.val (.ref o0), .val (.long q1), .second, .val (.int (32 : Int32))] [])) _
    refine XS.goto X38.here hx rfl (pc0 := 37) (pc' := 9) rfl (hb hby d6_37) (by decide) (by decide) ?_
    show Steps p.tables e below (T38.setTop (mkF m 9 #[.val (.ref o0), .val (.long q1), .second, .val (.int (32 : Int32))] [])) _
    refine XS.iloadN X38.here hx rfl (hb hby d6_9) rfl ?_
    show Steps p.tables e below (T38.setTop (mkF m 10 #[.val (.ref o0), .val (.long q1), .second, .val (.int (32 : Int32))] [(.int (32 : Int32))])) _
    refine XS.ifNo X38.here hx rfl (hb hby d6_10) rfl (XT.i0_lt_f (by decide)) ?_
    show Steps p.tables e below (T38.setTop (mkF m 13 #[.val (.ref o0), .val (.long q1), .second, .val (.int (32 : Int32))] [])) _
    refine XS.aloadN X38.here hx rfl (hb hby d6_13) rfl rfl ?_
    show Steps p.tables e below (T38.setTop (mkF m 14 #[.val (.ref o0), .val (.long q1), .second, .val (.int (32 : Int32))] [(.ref o0)])) _
    refine st42 _ ?_
    show Steps p.tables e below (T42.setTop (mkF m 17 #[.val (.ref o0), .val (.long q1), .second, .val (.int (32 : Int32))] [(.ref w1_buf)])) _
    refine XS.aloadN X42.here hx rfl (hb hby d6_17) rfl rfl ?_
    show Steps p.tables e below (T42.setTop (mkF m 18 #[.val (.ref o0), .val (.long q1), .second, .val (.int (32 : Int32))] [(.ref o0), (.ref w1_buf)])) _
    refine XS.dup X42.here hx rfl (hb hby d6_18) rfl rfl ?_
    show Steps p.tables e below (T42.setTop (mkF m 19 #[.val (.ref o0), .val (.long q1), .second, .val (.int (32 : Int32))] [(.ref o0), (.ref o0), (.ref w1_buf)])) _
    refine st44 _ ?_
    show Steps p.tables e below (T44.setTop (mkF m 22 #[.val (.ref o0), .val (.long q1), .second, .val (.int (32 : Int32))] [(.int (12 : Int32)), (.ref o0), (.ref w1_buf)])) _
    refine XT.dupX1 X44.here hx rfl (hb hby d6_22) rfl rfl rfl ?_
    show Steps p.tables e below (T44.setTop (mkF m 23 #[.val (.ref o0), .val (.long q1), .second, .val (.int (32 : Int32))] [(.int (12 : Int32)), (.ref o0), (.int (12 : Int32)), (.ref w1_buf)])) _
    refine XT.iconstV X44.here hx rfl (1 : Int32) (hb hby d6_23) (by decide) ?_
    show Steps p.tables e below (T44.setTop (mkF m 24 #[.val (.ref o0), .val (.long q1), .second, .val (.int (32 : Int32))] [(.int (1 : Int32)), (.int (12 : Int32)), (.ref o0), (.int (12 : Int32)), (.ref w1_buf)])) _
    refine XS.iadd X44.here hx rfl (hb hby d6_24) rfl ?_
    show Steps p.tables e below (T44.setTop (mkF m 25 #[.val (.ref o0), .val (.long q1), .second, .val (.int (32 : Int32))] [(.int (13 : Int32)), (.ref o0), (.int (12 : Int32)), (.ref w1_buf)])) _
    refine st46 _ ?_
    show Steps p.tables e below (T46.setTop (mkF m 28 #[.val (.ref o0), .val (.long q1), .second, .val (.int (32 : Int32))] [(.int (12 : Int32)), (.ref w1_buf)])) _
    refine XT.lloadN X46.here hx rfl (hb hby d6_28) rfl ?_
    show Steps p.tables e below (T46.setTop (mkF m 29 #[.val (.ref o0), .val (.long q1), .second, .val (.int (32 : Int32))] [(.long q1), (.int (12 : Int32)), (.ref w1_buf)])) _
    refine XS.iloadN X46.here hx rfl (hb hby d6_29) rfl ?_
    show Steps p.tables e below (T46.setTop (mkF m 30 #[.val (.ref o0), .val (.long q1), .second, .val (.int (32 : Int32))] [(.int (32 : Int32)), (.long q1), (.int (12 : Int32)), (.ref w1_buf)])) _
    refine XT.lushr X46.here hx rfl (hb hby d6_30) rfl ?_
    show Steps p.tables e below (T46.setTop (mkF m 31 #[.val (.ref o0), .val (.long q1), .second, .val (.int (32 : Int32))] [(.long (XT.ushrL q1 (32 : Int32))), (.int (12 : Int32)), (.ref w1_buf)])) _
    refine XT.l2i X46.here hx rfl (hb hby d6_31) rfl ?_
    show Steps p.tables e below (T46.setTop (mkF m 32 #[.val (.ref o0), .val (.long q1), .second, .val (.int (32 : Int32))] [(.int ((XT.ushrL q1 (32 : Int32)).toInt32)), (.int (12 : Int32)), (.ref w1_buf)])) _
    refine XT.i2b X46.here hx rfl (hb hby d6_32) rfl ?_
    show Steps p.tables e below (T46.setTop (mkF m 33 #[.val (.ref o0), .val (.long q1), .second, .val (.int (32 : Int32))] [(.int (((XT.ushrL q1 (32 : Int32)).toInt32).toInt8.toInt32)), (.int (12 : Int32)), (.ref w1_buf)])) _
    refine st52 _ ?_
    show Steps p.tables e below (T52.setTop (mkF m 34 #[.val (.ref o0), .val (.long q1), .second, .val (.int (32 : Int32))] [])) _
    refine XT.iincV X52.here hx rfl (-8 : Int32) (hb hby d6_34) (by decide) rfl (l' := #[.val (.ref o0), .val (.long q1), .second, .val (.int (24 : Int32))]) rfl ?_
    show Steps p.tables e below (T52.setTop (mkF m 37 #[.val (.ref o0), .val (.long q1), .second, .val (.int (24 : Int32))] [])) _
    refine XS.goto X52.here hx rfl (pc0 := 37) (pc' := 9) rfl (hb hby d6_37) (by decide) (by decide) ?_
    show Steps p.tables e below (T52.setTop (mkF m 9 #[.val (.ref o0), .val (.long q1), .second, .val (.int (24 : Int32))] [])) _
    refine XS.iloadN X52.here hx rfl (hb hby d6_9) rfl ?_
    show Steps p.tables e below (T52.setTop (mkF m 10 #[.val (.ref o0), .val (.long q1), .second, .val (.int (24 : Int32))] [(.int (24 : Int32))])) _
    refine XS.ifNo X52.here hx rfl (hb hby d6_10) rfl (XT.i0_lt_f (by decide)) ?_
    show Steps p.tables e below (T52.setTop (mkF m 13 #[.val (.ref o0), .val (.long q1), .second, .val (.int (24 : Int32))] [])) _
    refine XS.aloadN X52.here hx rfl (hb hby d6_13) rfl rfl ?_
    show Steps p.tables e below (T52.setTop (mkF m 14 #[.val (.ref o0), .val (.long q1), .second, .val (.int (24 : Int32))] [(.ref o0)])) _
    refine st56 _ ?_
    show Steps p.tables e below (T56.setTop (mkF m 17 #[.val (.ref o0), .val (.long q1), .second, .val (.int (24 : Int32))] [(.ref w1_buf)])) _
    refine XS.aloadN X56.here hx rfl (hb hby d6_17) rfl rfl ?_
    show Steps p.tables e below (T56.setTop (mkF m 18 #[.val (.ref o0), .val (.long q1), .second, .val (.int (24 : Int32))] [(.ref o0), (.ref w1_buf)])) _
    refine XS.dup X56.here hx rfl (hb hby d6_18) rfl rfl ?_
    show Steps p.tables e below (T56.setTop (mkF m 19 #[.val (.ref o0), .val (.long q1), .second, .val (.int (24 : Int32))] [(.ref o0), (.ref o0), (.ref w1_buf)])) _
    refine st58 _ ?_
    show Steps p.tables e below (T58.setTop (mkF m 22 #[.val (.ref o0), .val (.long q1), .second, .val (.int (24 : Int32))] [(.int (13 : Int32)), (.ref o0), (.ref w1_buf)])) _
    refine XT.dupX1 X58.here hx rfl (hb hby d6_22) rfl rfl rfl ?_
    show Steps p.tables e below (T58.setTop (mkF m 23 #[.val (.ref o0), .val (.long q1), .second, .val (.int (24 : Int32))] [(.int (13 : Int32)), (.ref o0), (.int (13 : Int32)), (.ref w1_buf)])) _
    refine XT.iconstV X58.here hx rfl (1 : Int32) (hb hby d6_23) (by decide) ?_
    show Steps p.tables e below (T58.setTop (mkF m 24 #[.val (.ref o0), .val (.long q1), .second, .val (.int (24 : Int32))] [(.int (1 : Int32)), (.int (13 : Int32)), (.ref o0), (.int (13 : Int32)), (.ref w1_buf)])) _
    refine XS.iadd X58.here hx rfl (hb hby d6_24) rfl ?_
    show Steps p.tables e below (T58.setTop (mkF m 25 #[.val (.ref o0), .val (.long q1), .second, .val (.int (24 : Int32))] [(.int (14 : Int32)), (.ref o0), (.int (13 : Int32)), (.ref w1_buf)])) _
    refine st60 _ ?_
    show Steps p.tables e below (T60.setTop (mkF m 28 #[.val (.ref o0), .val (.long q1), .second, .val (.int (24 : Int32))] [(.int (13 : Int32)), (.ref w1_buf)])) _
    refine XT.lloadN X60.here hx rfl (hb hby d6_28) rfl ?_
    show Steps p.tables e below (T60.setTop (mkF m 29 #[.val (.ref o0), .val (.long q1), .second, .val (.int (24 : Int32))] [(.long q1), (.int (13 : Int32)), (.ref w1_buf)])) _
    refine XS.iloadN X60.here hx rfl (hb hby d6_29) rfl ?_
    show Steps p.tables e below (T60.setTop (mkF m 30 #[.val (.ref o0), .val (.long q1), .second, .val (.int (24 : Int32))] [(.int (24 : Int32)), (.long q1), (.int (13 : Int32)), (.ref w1_buf)])) _
    refine XT.lushr X60.here hx rfl (hb hby d6_30) rfl ?_
    show Steps p.tables e below (T60.setTop (mkF m 31 #[.val (.ref o0), .val (.long q1), .second, .val (.int (24 : Int32))] [(.long (XT.ushrL q1 (24 : Int32))), (.int (13 : Int32)), (.ref w1_buf)])) _
    refine XT.l2i X60.here hx rfl (hb hby d6_31) rfl ?_
    show Steps p.tables e below (T60.setTop (mkF m 32 #[.val (.ref o0), .val (.long q1), .second, .val (.int (24 : Int32))] [(.int ((XT.ushrL q1 (24 : Int32)).toInt32)), (.int (13 : Int32)), (.ref w1_buf)])) _
    refine XT.i2b X60.here hx rfl (hb hby d6_32) rfl ?_
    show Steps p.tables e below (T60.setTop (mkF m 33 #[.val (.ref o0), .val (.long q1), .second, .val (.int (24 : Int32))] [(.int (((XT.ushrL q1 (24 : Int32)).toInt32).toInt8.toInt32)), (.int (13 : Int32)), (.ref w1_buf)])) _
    refine st66 _ ?_
    show Steps p.tables e below (T66.setTop (mkF m 34 #[.val (.ref o0), .val (.long q1), .second, .val (.int (24 : Int32))] [])) _
    refine XT.iincV X66.here hx rfl (-8 : Int32) (hb hby d6_34) (by decide) rfl (l' := #[.val (.ref o0), .val (.long q1), .second, .val (.int (16 : Int32))]) rfl ?_
    show Steps p.tables e below (T66.setTop (mkF m 37 #[.val (.ref o0), .val (.long q1), .second, .val (.int (16 : Int32))] [])) _
    refine XS.goto X66.here hx rfl (pc0 := 37) (pc' := 9) rfl (hb hby d6_37) (by decide) (by decide) ?_
    show Steps p.tables e below (T66.setTop (mkF m 9 #[.val (.ref o0), .val (.long q1), .second, .val (.int (16 : Int32))] [])) _
    refine XS.iloadN X66.here hx rfl (hb hby d6_9) rfl ?_
    show Steps p.tables e below (T66.setTop (mkF m 10 #[.val (.ref o0), .val (.long q1), .second, .val (.int (16 : Int32))] [(.int (16 : Int32))])) _
    refine XS.ifNo X66.here hx rfl (hb hby d6_10) rfl (XT.i0_lt_f (by decide)) ?_
    show Steps p.tables e below (T66.setTop (mkF m 13 #[.val (.ref o0), .val (.long q1), .second, .val (.int (16 : Int32))] [])) _
    refine XS.aloadN X66.here hx rfl (hb hby d6_13) rfl rfl ?_
    show Steps p.tables e below (T66.setTop (mkF m 14 #[.val (.ref o0), .val (.long q1), .second, .val (.int (16 : Int32))] [(.ref o0)])) _
    refine st70 _ ?_
    show Steps p.tables e below (T70.setTop (mkF m 17 #[.val (.ref o0), .val (.long q1), .second, .val (.int (16 : Int32))] [(.ref w1_buf)])) _
    refine XS.aloadN X70.here hx rfl (hb hby d6_17) rfl rfl ?_
    show Steps p.tables e below (T70.setTop (mkF m 18 #[.val (.ref o0), .val (.long q1), .second, .val (.int (16 : Int32))] [(.ref o0), (.ref w1_buf)])) _
    refine XS.dup X70.here hx rfl (hb hby d6_18) rfl rfl ?_
    show Steps p.tables e below (T70.setTop (mkF m 19 #[.val (.ref o0), .val (.long q1), .second, .val (.int (16 : Int32))] [(.ref o0), (.ref o0), (.ref w1_buf)])) _
    refine st72 _ ?_
    show Steps p.tables e below (T72.setTop (mkF m 22 #[.val (.ref o0), .val (.long q1), .second, .val (.int (16 : Int32))] [(.int (14 : Int32)), (.ref o0), (.ref w1_buf)])) _
    refine XT.dupX1 X72.here hx rfl (hb hby d6_22) rfl rfl rfl ?_
    show Steps p.tables e below (T72.setTop (mkF m 23 #[.val (.ref o0), .val (.long q1), .second, .val (.int (16 : Int32))] [(.int (14 : Int32)), (.ref o0), (.int (14 : Int32)), (.ref w1_buf)])) _
    refine XT.iconstV X72.here hx rfl (1 : Int32) (hb hby d6_23) (by decide) ?_
    show Steps p.tables e below (T72.setTop (mkF m 24 #[.val (.ref o0), .val (.long q1), .second, .val (.int (16 : Int32))] [(.int (1 : Int32)), (.int (14 : Int32)), (.ref o0), (.int (14 : Int32)), (.ref w1_buf)])) _
    refine XS.iadd X72.here hx rfl (hb hby d6_24) rfl ?_
    show Steps p.tables e below (T72.setTop (mkF m 25 #[.val (.ref o0), .val (.long q1), .second, .val (.int (16 : Int32))] [(.int (15 : Int32)), (.ref o0), (.int (14 : Int32)), (.ref w1_buf)])) _
    refine st74 _ ?_
    show Steps p.tables e below (T74.setTop (mkF m 28 #[.val (.ref o0), .val (.long q1), .second, .val (.int (16 : Int32))] [(.int (14 : Int32)), (.ref w1_buf)])) _
    refine XT.lloadN X74.here hx rfl (hb hby d6_28) rfl ?_
    show Steps p.tables e below (T74.setTop (mkF m 29 #[.val (.ref o0), .val (.long q1), .second, .val (.int (16 : Int32))] [(.long q1), (.int (14 : Int32)), (.ref w1_buf)])) _
    refine XS.iloadN X74.here hx rfl (hb hby d6_29) rfl ?_
    show Steps p.tables e below (T74.setTop (mkF m 30 #[.val (.ref o0), .val (.long q1), .second, .val (.int (16 : Int32))] [(.int (16 : Int32)), (.long q1), (.int (14 : Int32)), (.ref w1_buf)])) _
    refine XT.lushr X74.here hx rfl (hb hby d6_30) rfl ?_
    show Steps p.tables e below (T74.setTop (mkF m 31 #[.val (.ref o0), .val (.long q1), .second, .val (.int (16 : Int32))] [(.long (XT.ushrL q1 (16 : Int32))), (.int (14 : Int32)), (.ref w1_buf)])) _
    refine XT.l2i X74.here hx rfl (hb hby d6_31) rfl ?_
    show Steps p.tables e below (T74.setTop (mkF m 32 #[.val (.ref o0), .val (.long q1), .second, .val (.int (16 : Int32))] [(.int ((XT.ushrL q1 (16 : Int32)).toInt32)), (.int (14 : Int32)), (.ref w1_buf)])) _
    refine XT.i2b X74.here hx rfl (hb hby d6_32) rfl ?_
    show Steps p.tables e below (T74.setTop (mkF m 33 #[.val (.ref o0), .val (.long q1), .second, .val (.int (16 : Int32))] [(.int (((XT.ushrL q1 (16 : Int32)).toInt32).toInt8.toInt32)), (.int (14 : Int32)), (.ref w1_buf)])) _
    refine st80 _ ?_
    show Steps p.tables e below (T80.setTop (mkF m 34 #[.val (.ref o0), .val (.long q1), .second, .val (.int (16 : Int32))] [])) _
    refine XT.iincV X80.here hx rfl (-8 : Int32) (hb hby d6_34) (by decide) rfl (l' := #[.val (.ref o0), .val (.long q1), .second, .val (.int (8 : Int32))]) rfl ?_
    show Steps p.tables e below (T80.setTop (mkF m 37 #[.val (.ref o0), .val (.long q1), .second, .val (.int (8 : Int32))] [])) _
    refine XS.goto X80.here hx rfl (pc0 := 37) (pc' := 9) rfl (hb hby d6_37) (by decide) (by decide) ?_
    show Steps p.tables e below (T80.setTop (mkF m 9 #[.val (.ref o0), .val (.long q1), .second, .val (.int (8 : Int32))] [])) _
    refine XS.iloadN X80.here hx rfl (hb hby d6_9) rfl ?_
    show Steps p.tables e below (T80.setTop (mkF m 10 #[.val (.ref o0), .val (.long q1), .second, .val (.int (8 : Int32))] [(.int (8 : Int32))])) _
    refine XS.ifNo X80.here hx rfl (hb hby d6_10) rfl (XT.i0_lt_f (by decide)) ?_
    show Steps p.tables e below (T80.setTop (mkF m 13 #[.val (.ref o0), .val (.long q1), .second, .val (.int (8 : Int32))] [])) _
    refine XS.aloadN X80.here hx rfl (hb hby d6_13) rfl rfl ?_
    show Steps p.tables e below (T80.setTop (mkF m 14 #[.val (.ref o0), .val (.long q1), .second, .val (.int (8 : Int32))] [(.ref o0)])) _
    refine st84 _ ?_
    show Steps p.tables e below (T84.setTop (mkF m 17 #[.val (.ref o0), .val (.long q1), .second, .val (.int (8 : Int32))] [(.ref w1_buf)])) _
    refine XS.aloadN X84.here hx rfl (hb hby d6_17) rfl rfl ?_
    show Steps p.tables e below (T84.setTop (mkF m 18 #[.val (.ref o0), .val (.long q1), .second, .val (.int (8 : Int32))] [(.ref o0), (.ref w1_buf)])) _
    refine XS.dup X84.here hx rfl (hb hby d6_18) rfl rfl ?_
    show Steps p.tables e below (T84.setTop (mkF m 19 #[.val (.ref o0), .val (.long q1), .second, .val (.int (8 : Int32))] [(.ref o0), (.ref o0), (.ref w1_buf)])) _
    refine st86 _ ?_
    show Steps p.tables e below (T86.setTop (mkF m 22 #[.val (.ref o0), .val (.long q1), .second, .val (.int (8 : Int32))] [(.int (15 : Int32)), (.ref o0), (.ref w1_buf)])) _
    refine XT.dupX1 X86.here hx rfl (hb hby d6_22) rfl rfl rfl ?_
    show Steps p.tables e below (T86.setTop (mkF m 23 #[.val (.ref o0), .val (.long q1), .second, .val (.int (8 : Int32))] [(.int (15 : Int32)), (.ref o0), (.int (15 : Int32)), (.ref w1_buf)])) _
    refine XT.iconstV X86.here hx rfl (1 : Int32) (hb hby d6_23) (by decide) ?_
    show Steps p.tables e below (T86.setTop (mkF m 24 #[.val (.ref o0), .val (.long q1), .second, .val (.int (8 : Int32))] [(.int (1 : Int32)), (.int (15 : Int32)), (.ref o0), (.int (15 : Int32)), (.ref w1_buf)])) _
    refine XS.iadd X86.here hx rfl (hb hby d6_24) rfl ?_
    show Steps p.tables e below (T86.setTop (mkF m 25 #[.val (.ref o0), .val (.long q1), .second, .val (.int (8 : Int32))] [(.int (16 : Int32)), (.ref o0), (.int (15 : Int32)), (.ref w1_buf)])) _
    refine st88 _ ?_
    show Steps p.tables e below (T88.setTop (mkF m 28 #[.val (.ref o0), .val (.long q1), .second, .val (.int (8 : Int32))] [(.int (15 : Int32)), (.ref w1_buf)])) _
    refine XT.lloadN X88.here hx rfl (hb hby d6_28) rfl ?_
    show Steps p.tables e below (T88.setTop (mkF m 29 #[.val (.ref o0), .val (.long q1), .second, .val (.int (8 : Int32))] [(.long q1), (.int (15 : Int32)), (.ref w1_buf)])) _
    refine XS.iloadN X88.here hx rfl (hb hby d6_29) rfl ?_
    show Steps p.tables e below (T88.setTop (mkF m 30 #[.val (.ref o0), .val (.long q1), .second, .val (.int (8 : Int32))] [(.int (8 : Int32)), (.long q1), (.int (15 : Int32)), (.ref w1_buf)])) _
    refine XT.lushr X88.here hx rfl (hb hby d6_30) rfl ?_
    show Steps p.tables e below (T88.setTop (mkF m 31 #[.val (.ref o0), .val (.long q1), .second, .val (.int (8 : Int32))] [(.long (XT.ushrL q1 (8 : Int32))), (.int (15 : Int32)), (.ref w1_buf)])) _
    refine XT.l2i X88.here hx rfl (hb hby d6_31) rfl ?_
    show Steps p.tables e below (T88.setTop (mkF m 32 #[.val (.ref o0), .val (.long q1), .second, .val (.int (8 : Int32))] [(.int ((XT.ushrL q1 (8 : Int32)).toInt32)), (.int (15 : Int32)), (.ref w1_buf)])) _
    refine XT.i2b X88.here hx rfl (hb hby d6_32) rfl ?_
    show Steps p.tables e below (T88.setTop (mkF m 33 #[.val (.ref o0), .val (.long q1), .second, .val (.int (8 : Int32))] [(.int (((XT.ushrL q1 (8 : Int32)).toInt32).toInt8.toInt32)), (.int (15 : Int32)), (.ref w1_buf)])) _
    refine st94 _ ?_
    show Steps p.tables e below (T94.setTop (mkF m 34 #[.val (.ref o0), .val (.long q1), .second, .val (.int (8 : Int32))] [])) _
    refine XT.iincV X94.here hx rfl (-8 : Int32) (hb hby d6_34) (by decide) rfl (l' := #[.val (.ref o0), .val (.long q1), .second, .val (.int (0 : Int32))]) rfl ?_
    show Steps p.tables e below (T94.setTop (mkF m 37 #[.val (.ref o0), .val (.long q1), .second, .val (.int (0 : Int32))] [])) _
    refine XS.goto X94.here hx rfl (pc0 := 37) (pc' := 9) rfl (hb hby d6_37) (by decide) (by decide) ?_
    show Steps p.tables e below (T94.setTop (mkF m 9 #[.val (.ref o0), .val (.long q1), .second, .val (.int (0 : Int32))] [])) _
    refine XS.iloadN X94.here hx rfl (hb hby d6_9) rfl ?_
    show Steps p.tables e below (T94.setTop (mkF m 10 #[.val (.ref o0), .val (.long q1), .second, .val (.int (0 : Int32))] [(.int (0 : Int32))])) _
    refine XS.ifNo X94.here hx rfl (hb hby d6_10) rfl (XT.i0_lt_f (by decide)) ?_
    show Steps p.tables e below (T94.setTop (mkF m 13 #[.val (.ref o0), .val (.long q1), .second, .val (.int (0 : Int32))] [])) _
    refine XS.aloadN X94.here hx rfl (hb hby d6_13) rfl rfl ?_
    show Steps p.tables e below (T94.setTop (mkF m 14 #[.val (.ref o0), .val (.long q1), .second, .val (.int (0 : Int32))] [(.ref o0)])) _
    refine st98 _ ?_
    show Steps p.tables e below (T98.setTop (mkF m 17 #[.val (.ref o0), .val (.long q1), .second, .val (.int (0 : Int32))] [(.ref w1_buf)])) _
    refine XS.aloadN X98.here hx rfl (hb hby d6_17) rfl rfl ?_
    show Steps p.tables e below (T98.setTop (mkF m 18 #[.val (.ref o0), .val (.long q1), .second, .val (.int (0 : Int32))] [(.ref o0), (.ref w1_buf)])) _
    refine XS.dup X98.here hx rfl (hb hby d6_18) rfl rfl ?_
    show Steps p.tables e below (T98.setTop (mkF m 19 #[.val (.ref o0), .val (.long q1), .second, .val (.int (0 : Int32))] [(.ref o0), (.ref o0), (.ref w1_buf)])) _
    refine st100 _ ?_
    show Steps p.tables e below (T100.setTop (mkF m 22 #[.val (.ref o0), .val (.long q1), .second, .val (.int (0 : Int32))] [(.int (16 : Int32)), (.ref o0), (.ref w1_buf)])) _
    refine XT.dupX1 X100.here hx rfl (hb hby d6_22) rfl rfl rfl ?_
    show Steps p.tables e below (T100.setTop (mkF m 23 #[.val (.ref o0), .val (.long q1), .second, .val (.int (0 : Int32))] [(.int (16 : Int32)), (.ref o0), (.int (16 : Int32)), (.ref w1_buf)])) _
    refine XT.iconstV X100.here hx rfl (1 : Int32) (hb hby d6_23) (by decide) ?_
    show Steps p.tables e below (T100.setTop (mkF m 24 #[.val (.ref o0), .val (.long q1), .second, .val (.int (0 : Int32))] [(.int (1 : Int32)), (.int (16 : Int32)), (.ref o0), (.int (16 : Int32)), (.ref w1_buf)])) _
    refine XS.iadd X100.here hx rfl (hb hby d6_24) rfl ?_
    show Steps p.tables e below (T100.setTop (mkF m 25 #[.val (.ref o0), .val (.long q1), .second, .val (.int (0 : Int32))] [(.int (17 : Int32)), (.ref o0), (.int (16 : Int32)), (.ref w1_buf)])) _
    refine st102 _ ?_
    show Steps p.tables e below (T102.setTop (mkF m 28 #[.val (.ref o0), .val (.long q1), .second, .val (.int (0 : Int32))] [(.int (16 : Int32)), (.ref w1_buf)])) _
    refine XT.lloadN X102.here hx rfl (hb hby d6_28) rfl ?_
    show Steps p.tables e below (T102.setTop (mkF m 29 #[.val (.ref o0), .val (.long q1), .second, .val (.int (0 : Int32))] [(.long q1), (.int (16 : Int32)), (.ref w1_buf)])) _
    refine XS.iloadN X102.here hx rfl (hb hby d6_29) rfl ?_
    show Steps p.tables e below (T102.setTop (mkF m 30 #[.val (.ref o0), .val (.long q1), .second, .val (.int (0 : Int32))] [(.int (0 : Int32)), (.long q1), (.int (16 : Int32)), (.ref w1_buf)])) _
    refine XT.lushr X102.here hx rfl (hb hby d6_30) rfl ?_
    show Steps p.tables e below (T102.setTop (mkF m 31 #[.val (.ref o0), .val (.long q1), .second, .val (.int (0 : Int32))] [(.long (XT.ushrL q1 (0 : Int32))), (.int (16 : Int32)), (.ref w1_buf)])) _
    refine XT.l2i X102.here hx rfl (hb hby d6_31) rfl ?_
    show Steps p.tables e below (T102.setTop (mkF m 32 #[.val (.ref o0), .val (.long q1), .second, .val (.int (0 : Int32))] [(.int ((XT.ushrL q1 (0 : Int32)).toInt32)), (.int (16 : Int32)), (.ref w1_buf)])) _
    refine XT.i2b X102.here hx rfl (hb hby d6_32) rfl ?_
    show Steps p.tables e below (T102.setTop (mkF m 33 #[.val (.ref o0), .val (.long q1), .second, .val (.int (0 : Int32))] [(.int (((XT.ushrL q1 (0 : Int32)).toInt32).toInt8.toInt32)), (.int (16 : Int32)), (.ref w1_buf)])) _
    refine st108 _ ?_
    show Steps p.tables e below (T108.setTop (mkF m 34 #[.val (.ref o0), .val (.long q1), .second, .val (.int (0 : Int32))] [])) _
    refine XT.iincV X108.here hx rfl (-8 : Int32) (hb hby d6_34) (by decide) rfl (l' := #[.val (.ref o0), .val (.long q1), .second, .val (.int (-8 : Int32))]) rfl ?_
    show Steps p.tables e below (T108.setTop (mkF m 37 #[.val (.ref o0), .val (.long q1), .second, .val (.int (-8 : Int32))] [])) _
    refine XS.goto X108.here hx rfl (pc0 := 37) (pc' := 9) rfl (hb hby d6_37) (by decide) (by decide) ?_
    show Steps p.tables e below (T108.setTop (mkF m 9 #[.val (.ref o0), .val (.long q1), .second, .val (.int (-8 : Int32))] [])) _
    refine XS.iloadN X108.here hx rfl (hb hby d6_9) rfl ?_
    show Steps p.tables e below (T108.setTop (mkF m 10 #[.val (.ref o0), .val (.long q1), .second, .val (.int (-8 : Int32))] [(.int (-8 : Int32))])) _
    refine XS.ifYes X108.here hx rfl (pc0 := 10) (pc' := 40) rfl (hb hby d6_10) rfl (XT.i0_lt_t (by decide)) (by decide) (by decide) ?_
    show Steps p.tables e below (T108.setTop (mkF m 40 #[.val (.ref o0), .val (.long q1), .second, .val (.int (-8 : Int32))] [])) _
    refine XS.aloadN X108.here hx rfl (hb hby d6_40) rfl rfl ?_
    show Steps p.tables e below (T108.setTop (mkF m 41 #[.val (.ref o0), .val (.long q1), .second, .val (.int (-8 : Int32))] [(.ref o0)])) _
    exact X108.areturnOut hx rfl Bd.returns rfl (hb hby d6_41) hr
  · skip
    show Qnu9 Z o0 q1 w1_buf u0 u1 u2 u3 u4 u5 u6 u7 u8 u9 u10 u11 u12 u13 u14 u15 u16 u17 u18 u19 u20 u21 u22 u23 u24 u25 u26 u27 u28 u29 u30 u31 u32 u33 u34 u35 u36 u37 u38 u39 u40 u41 u42 u43 u44 u45 u46 u47 u48 u49 u50 u51 u52 u53 u54 u55 u56 u57 u58 u59 u60 u61 u62 u63 kA h0 n0 _ T108.heap _
    rw [e108]
    have k111 := ((k101.wr W102).wr W108)
    have k112 := (Fw102.other W108 (Or.inl (Ne.symm ne_w1_buf_o0)))
    have k113 := ((k97.other W102 (Or.inr (slot_ne (Or.inl (hw _ (List.mem_of_getElem? (i := 11) rfl))) (Or.inl (hw _ (List.mem_of_getElem? (i := 18) rfl))) (by decide) (t := (.array .byte)) (t' := .int) (by decide) (by decide)))).other W108 (Or.inl (Ne.symm ne_w1_buf_o0)))
    exact ⟨N108, rfl, (((((((((((((((((Keep.refl h0 [o0, w1_buf]).wr W4 (Or.inl (List.mem_of_getElem? (i := 0) rfl))).wr W10 (Or.inl (List.mem_of_getElem? (i := 1) rfl))).wr W18 (Or.inl (List.mem_of_getElem? (i := 0) rfl))).wr W24 (Or.inl (List.mem_of_getElem? (i := 1) rfl))).wr W32 (Or.inl (List.mem_of_getElem? (i := 0) rfl))).wr W38 (Or.inl (List.mem_of_getElem? (i := 1) rfl))).wr W46 (Or.inl (List.mem_of_getElem? (i := 0) rfl))).wr W52 (Or.inl (List.mem_of_getElem? (i := 1) rfl))).wr W60 (Or.inl (List.mem_of_getElem? (i := 0) rfl))).wr W66 (Or.inl (List.mem_of_getElem? (i := 1) rfl))).wr W74 (Or.inl (List.mem_of_getElem? (i := 0) rfl))).wr W80 (Or.inl (List.mem_of_getElem? (i := 1) rfl))).wr W88 (Or.inl (List.mem_of_getElem? (i := 0) rfl))).wr W94 (Or.inl (List.mem_of_getElem? (i := 1) rfl))).wr W102 (Or.inl (List.mem_of_getElem? (i := 0) rfl))).wr W108 (Or.inl (List.mem_of_getElem? (i := 1) rfl))), k111, k112, k113, V108⟩
theorem ef_nu77 (m : MethodId) (o0 : Addr) (q1 : Int64) : entryFrame m #[(.ref o0), (.long q1)] 4 = mkF m 0 #[.val (.ref o0), .val (.long q1), .second, .unset] [] := by first | (simp [entryFrame, mkF, argsToLocals, Value.category]; done) | rfl
def vnu77_1 (q1 : Int64) : Int32 := (((XT.ushrL q1 (56 : Int32)).toInt32).toInt8.toInt32)
def vnu77_2 (q1 : Int64) : Int32 := (((XT.ushrL q1 (48 : Int32)).toInt32).toInt8.toInt32)
def vnu77_3 (q1 : Int64) : Int32 := (((XT.ushrL q1 (40 : Int32)).toInt32).toInt8.toInt32)
def vnu77_4 (q1 : Int64) : Int32 := (((XT.ushrL q1 (32 : Int32)).toInt32).toInt8.toInt32)
def vnu77_5 (q1 : Int64) : Int32 := (((XT.ushrL q1 (24 : Int32)).toInt32).toInt8.toInt32)
def vnu77_6 (q1 : Int64) : Int32 := (((XT.ushrL q1 (16 : Int32)).toInt32).toInt8.toInt32)
def vnu77_7 (q1 : Int64) : Int32 := (((XT.ushrL q1 (8 : Int32)).toInt32).toInt8.toInt32)
def vnu77_8 (q1 : Int64) : Int32 := (((XT.ushrL q1 (0 : Int32)).toInt32).toInt8.toInt32)
def Qnu77 (Z : State) (o0 : Addr) (q1 : Int64) (w1_buf : Addr) (u0 : Value) (u1 : Value) (u2 : Value) (u3 : Value) (u4 : Value) (u5 : Value) (u6 : Value) (u7 : Value) (u8 : Value) (u9 : Value) (u10 : Value) (u11 : Value) (u12 : Value) (u13 : Value) (u14 : Value) (u15 : Value) (u16 : Value) (u17 : Value) (u18 : Value) (u19 : Value) (u20 : Value) (u21 : Value) (u22 : Value) (u23 : Value) (u24 : Value) (u25 : Value) (u26 : Value) (u27 : Value) (u28 : Value) (u29 : Value) (u30 : Value) (u31 : Value) (u32 : Value) (u33 : Value) (u34 : Value) (u35 : Value) (u36 : Value) (u37 : Value) (u38 : Value) (u39 : Value) (u40 : Value) (u41 : Value) (u42 : Value) (u43 : Value) (u44 : Value) (u45 : Value) (u46 : Value) (u47 : Value) (u48 : Value) (u49 : Value) (u50 : Value) (u51 : Value) (u52 : Value) (u53 : Value) (u54 : Value) (u55 : Value) (u56 : Value) (u57 : Value) (u58 : Value) (u59 : Value) (u60 : Value) (u61 : Value) (u62 : Value) (u63 : Value) (u64 : Value) (u65 : Value) (u66 : Value) (u67 : Value) (u68 : Value) (u69 : Value) (u70 : Value) (u71 : Value) (u72 : Value) (u73 : Value) (u74 : Value) (u75 : Value) (u76 : Value) (u77 : Value) (u78 : Value) (u79 : Value) (u80 : Value) (u81 : Value) (u82 : Value) (u83 : Value) (u84 : Value) (u85 : Value) (u86 : Value) (u87 : Value) (u88 : Value) (u89 : Value) (u90 : Value) (u91 : Value) (u92 : Value) (u93 : Value) (u94 : Value) (u95 : Value) (u96 : Value) (u97 : Value) (u98 : Value) (u99 : Value) (u100 : Value) (u101 : Value) (u102 : Value) (u103 : Value) (u104 : Value) (u105 : Value) (u106 : Value) (u107 : Value) (u108 : Value) (u109 : Value) (u110 : Value) (u111 : Value) (u112 : Value) (u113 : Value) (u114 : Value) (u115 : Value) (u116 : Value) (u117 : Value) (u118 : Value) (u119 : Value) (u120 : Value) (u121 : Value) (u122 : Value) (u123 : Value) (u124 : Value) (u125 : Value) (u126 : Value) (u127 : Value) (kA : ClassId) (h0 : Heap) (n0 : Nat) (v : Option Value) (h : Heap) (L : List Loc) : Prop := Fr n0 L ∧ v = some (.ref o0) ∧ Keep h0 h [o0, w1_buf] ∧ Exa Z h o0 "com/example/dispatch_by_catalog/dispatchbycatalog/store/RecordWriter" ∧ Fld Z h o0 "com/example/dispatch_by_catalog/dispatchbycatalog/store/RecordWriter" "size" "I" (.int (85 : Int32)) ∧ Fld Z h o0 "com/example/dispatch_by_catalog/dispatchbycatalog/store/RecordWriter" "written" "[B" (.ref w1_buf) ∧ Arv Z h w1_buf kA .byte (128 : Int32) [u0, u1, u2, u3, u4, u5, u6, u7, u8, u9, u10, u11, u12, u13, u14, u15, u16, u17, u18, u19, u20, u21, u22, u23, u24, u25, u26, u27, u28, u29, u30, u31, u32, u33, u34, u35, u36, u37, u38, u39, u40, u41, u42, u43, u44, u45, u46, u47, u48, u49, u50, u51, u52, u53, u54, u55, u56, u57, u58, u59, u60, u61, u62, u63, u64, u65, u66, u67, u68, u69, u70, u71, u72, u73, u74, u75, u76, (.int (nar .byte (vnu77_1 q1))), (.int (nar .byte (vnu77_2 q1))), (.int (nar .byte (vnu77_3 q1))), (.int (nar .byte (vnu77_4 q1))), (.int (nar .byte (vnu77_5 q1))), (.int (nar .byte (vnu77_6 q1))), (.int (nar .byte (vnu77_7 q1))), (.int (nar .byte (vnu77_8 q1))), u85, u86, u87, u88, u89, u90, u91, u92, u93, u94, u95, u96, u97, u98, u99, u100, u101, u102, u103, u104, u105, u106, u107, u108, u109, u110, u111, u112, u113, u114, u115, u116, u117, u118, u119, u120, u121, u122, u123, u124, u125, u126, u127] (.int (0 : Int32))
set_option maxRecDepth 65536 in
set_option maxHeartbeats 40000000 in
theorem rmnu77 (l : Launch) (Z : State) (a0 : Array Value) (hw : ∀ d ∈ tables_1, d.before a0 Z = true) (ws : List Jvm.Cond) (o0 : Addr) (q1 : Int64) (w1_buf : Addr) (u0 : Value) (u1 : Value) (u2 : Value) (u3 : Value) (u4 : Value) (u5 : Value) (u6 : Value) (u7 : Value) (u8 : Value) (u9 : Value) (u10 : Value) (u11 : Value) (u12 : Value) (u13 : Value) (u14 : Value) (u15 : Value) (u16 : Value) (u17 : Value) (u18 : Value) (u19 : Value) (u20 : Value) (u21 : Value) (u22 : Value) (u23 : Value) (u24 : Value) (u25 : Value) (u26 : Value) (u27 : Value) (u28 : Value) (u29 : Value) (u30 : Value) (u31 : Value) (u32 : Value) (u33 : Value) (u34 : Value) (u35 : Value) (u36 : Value) (u37 : Value) (u38 : Value) (u39 : Value) (u40 : Value) (u41 : Value) (u42 : Value) (u43 : Value) (u44 : Value) (u45 : Value) (u46 : Value) (u47 : Value) (u48 : Value) (u49 : Value) (u50 : Value) (u51 : Value) (u52 : Value) (u53 : Value) (u54 : Value) (u55 : Value) (u56 : Value) (u57 : Value) (u58 : Value) (u59 : Value) (u60 : Value) (u61 : Value) (u62 : Value) (u63 : Value) (u64 : Value) (u65 : Value) (u66 : Value) (u67 : Value) (u68 : Value) (u69 : Value) (u70 : Value) (u71 : Value) (u72 : Value) (u73 : Value) (u74 : Value) (u75 : Value) (u76 : Value) (u77 : Value) (u78 : Value) (u79 : Value) (u80 : Value) (u81 : Value) (u82 : Value) (u83 : Value) (u84 : Value) (u85 : Value) (u86 : Value) (u87 : Value) (u88 : Value) (u89 : Value) (u90 : Value) (u91 : Value) (u92 : Value) (u93 : Value) (u94 : Value) (u95 : Value) (u96 : Value) (u97 : Value) (u98 : Value) (u99 : Value) (u100 : Value) (u101 : Value) (u102 : Value) (u103 : Value) (u104 : Value) (u105 : Value) (u106 : Value) (u107 : Value) (u108 : Value) (u109 : Value) (u110 : Value) (u111 : Value) (u112 : Value) (u113 : Value) (u114 : Value) (u115 : Value) (u116 : Value) (u117 : Value) (u118 : Value) (u119 : Value) (u120 : Value) (u121 : Value) (u122 : Value) (u123 : Value) (u124 : Value) (u125 : Value) (u126 : Value) (u127 : Value) (kA : ClassId) (h0 : Heap) (n0 : Nat) (Z0 : n0 ≤ h0.size) (E_o0 : Exa Z h0 o0 "com/example/dispatch_by_catalog/dispatchbycatalog/store/RecordWriter") (F_size_o0 : Fld Z h0 o0 "com/example/dispatch_by_catalog/dispatchbycatalog/store/RecordWriter" "size" "I" (.int (77 : Int32))) (F_written_o0 : Fld Z h0 o0 "com/example/dispatch_by_catalog/dispatchbycatalog/store/RecordWriter" "written" "[B" (.ref w1_buf)) (V_w1_buf : Arv Z h0 w1_buf kA .byte (128 : Int32) [u0, u1, u2, u3, u4, u5, u6, u7, u8, u9, u10, u11, u12, u13, u14, u15, u16, u17, u18, u19, u20, u21, u22, u23, u24, u25, u26, u27, u28, u29, u30, u31, u32, u33, u34, u35, u36, u37, u38, u39, u40, u41, u42, u43, u44, u45, u46, u47, u48, u49, u50, u51, u52, u53, u54, u55, u56, u57, u58, u59, u60, u61, u62, u63, u64, u65, u66, u67, u68, u69, u70, u71, u72, u73, u74, u75, u76, u77, u78, u79, u80, u81, u82, u83, u84, u85, u86, u87, u88, u89, u90, u91, u92, u93, u94, u95, u96, u97, u98, u99, u100, u101, u102, u103, u104, u105, u106, u107, u108, u109, u110, u111, u112, u113, u114, u115, u116, u117, u118, u119, u120, u121, u122, u123, u124, u125, u126, u127] (.int (0 : Int32))) (g_o0 : n0 ≤ o0) (ne_w1_buf_o0 : w1_buf ≠ o0) (g_w1_buf : n0 ≤ w1_buf) :
    MetFree l (⟨"com/example/dispatch_by_catalog/dispatchbycatalog/store/RecordWriter", "number", "(J)Lcom/example/dispatch_by_catalog/dispatchbycatalog/store/RecordWriter;"⟩ : MethodName) (head1 (Jvm.Cond.code (⟨"com/example/dispatch_by_catalog/dispatchbycatalog/store/RecordWriter", "number", "(J)Lcom/example/dispatch_by_catalog/dispatchbycatalog/store/RecordWriter;"⟩ : MethodName) prog_35_method_3_code 4 (some (.object "com/example/dispatch_by_catalog/dispatchbycatalog/store/RecordWriter")) :: ws) ({ frames := 1, cells := 0, slots := 0, locals := 13 } : Room)) (fun a U => a = #[(.ref o0), (.long q1)] ∧ Z.Warmed39 U.vm ∧ U.heap = h0) (fun _ _ _ _ _ => True) (fun _ U o U' => ∃ v L, o = .returned v ∧ Qnu77 Z o0 q1 w1_buf u0 u1 u2 u3 u4 u5 u6 u7 u8 u9 u10 u11 u12 u13 u14 u15 u16 u17 u18 u19 u20 u21 u22 u23 u24 u25 u26 u27 u28 u29 u30 u31 u32 u33 u34 u35 u36 u37 u38 u39 u40 u41 u42 u43 u44 u45 u46 u47 u48 u49 u50 u51 u52 u53 u54 u55 u56 u57 u58 u59 u60 u61 u62 u63 u64 u65 u66 u67 u68 u69 u70 u71 u72 u73 u74 u75 u76 u77 u78 u79 u80 u81 u82 u83 u84 u85 u86 u87 u88 u89 u90 u91 u92 u93 u94 u95 u96 u97 u98 u99 u100 u101 u102 u103 u104 u105 u106 u107 u108 u109 u110 u111 u112 u113 u114 u115 u116 u117 u118 u119 u120 u121 u122 u123 u124 u125 u126 u127 kA h0 n0 v U'.heap L ∧ FrameEnd U o U' L ({ frames := 1, cells := 0, slots := 0, locals := 13 } : Room).cells ({ frames := 1, cells := 0, slots := 0, locals := 13 } : Room).slots) := by
  refine MetFree.of_bodySF (plainFor_of_name pn_com_example_dispatch_by_catalog_dispatchbycatalog_store_RecordWriter) hisR ?_
  intro p e s m args below meth c s₁ Bd hml0 hP hK
  obtain ⟨rfl, hZ, hh⟩ := hP
  have hx := Bd.exec
  have hby := Bd.bytes
  have hml : c.maxLocals = 4 := hml0
  have hown : s.vm.findClass "com/example/dispatch_by_catalog/dispatchbycatalog/store/RecordWriter" = some m.cls := findClass_of_methodNamed Bd.named
  have hnm := (name_of_methodNamed Bd.named Bd.method).1
  have hlk := BodyLoose.notSynchronized Bd
  have X0 : Stand p l e ({ frames := 1, cells := 0, slots := 0, locals := 13 } : Room) s m #[(.ref o0), (.long q1)] below meth c s₁ [] 0 0 := Stand.of_body Bd
  have e0 : s₁.heap = h0 := by rw [← hh, Bd.state]; rfl
  have N0 := Fr.nil n0
  have pre0 : ∀ t, Steps p.tables e below (s₁.setTop (mkF m 0 #[.val (.ref o0), .val (.long q1), .second, .unset] [])) t → Steps p.tables e below (s₁.setTop (entryFrame m #[(.ref o0), (.long q1)] 4)) t := fun t k => castTop (ef_nu77 m o0 q1) k
  obtain ⟨cq1, qp1, qp1'⟩ := E_o0.cell
  obtain ⟨ci1, ki1, hi1a, hi1b, -, hi1c, -, -⟩ := Cond.instantiable_spec (mv hZ (hw _ (List.mem_of_getElem? (i := 1) rfl)) (args := #[]))
  obtain ⟨vr1, _, ⟨T1, L1, k1, n1⟩, -, X1, ⟨Lc1, hQ1, l1, y1, z1⟩, st1⟩ := X0.privateBack hx (y := (⟨"com/example/dispatch_by_catalog/dispatchbycatalog/store/RecordWriter", "room", "(I)V"⟩ : MethodName)) hown (mvT hZ (hw _ (List.mem_of_getElem? (i := 36) rfl))) (mvT hZ (hw _ (List.mem_of_getElem? (i := 37) rfl))) (Jvm.Stand.selects_self_of_private hi1a hi1b (Bool.or_eq_false_iff.mp hi1c).1 (Cond.privateMethod_at (mvP hZ (hw _ (List.mem_of_getElem? (i := 38) rfl)) (args := #[]))) (mvT hZ (hw _ (List.mem_of_getElem? (i := 37) rfl))) (by decide)) (Cond.privateMethod_at (mvP hZ (hw _ (List.mem_of_getElem? (i := 38) rfl)) (args := #[]))) (mvT hZ (hw _ (List.mem_of_getElem? (i := 39) rfl))) (by decide) (backOf (W := 0) (rmrm77_8 l Z a0 hw [] o0 w1_buf u0 u1 u2 u3 u4 u5 u6 u7 u8 u9 u10 u11 u12 u13 u14 u15 u16 u17 u18 u19 u20 u21 u22 u23 u24 u25 u26 u27 u28 u29 u30 u31 u32 u33 u34 u35 u36 u37 u38 u39 u40 u41 u42 u43 u44 u45 u46 u47 u48 u49 u50 u51 u52 u53 u54 u55 u56 u57 u58 u59 u60 u61 u62 u63 u64 u65 u66 u67 u68 u69 u70 u71 u72 u73 u74 u75 u76 u77 u78 u79 u80 u81 u82 u83 u84 u85 u86 u87 u88 u89 u90 u91 u92 u93 u94 u95 u96 u97 u98 u99 u100 u101 u102 u103 u104 u105 u106 u107 u108 u109 u110 u111 u112 u113 u114 u115 u116 u117 u118 u119 u120 u121 u122 u123 u124 u125 u126 u127 kA h0 n0 Z0 E_o0 F_size_o0 F_written_o0 V_w1_buf) hZ (hw _ (List.mem_of_getElem? (i := 39) rfl)) (hw _ (List.mem_of_getElem? (i := 2) rfl)) (by decide) (by decide)) (g := (mkF m 3 #[.val (.ref o0), .val (.long q1), .second, .unset] [(.int (8 : Int32)), (.ref o0)])) rfl (by rw [hml]; rfl) (Steps.refl _) (a := o0) (by rw [e0]; exact qp1) qp1' (argsL := [(.int (8 : Int32))]) (rest := []) (lenOf pd__I_V rfl) rfl (by show 2 * 0 + _ ≤ _; exact Nat.le_of_eq rfl) (hb hby d6_3) (fun _ _ => ⟨rfl, e0, (by decide : 0 + 0 ≤ _), (by decide : 0 + 0 ≤ _)⟩)
  dsimp only [Pt.U, Pt.locs, Pt.cells, Pt.slots] at X1 l1 y1 z1 st1 hQ1
  subst l1 y1 z1
  have N1q := (show _ ∧ _ ∧ _ from hQ1).1
  have hv1 := (show _ ∧ _ ∧ _ from hQ1).2.1
  have e1 := (show _ ∧ _ ∧ _ from hQ1).2.2
  clear hQ1
  subst hv1
  have N1 := Fr.app N0 N1q
  obtain ⟨T2, X2, e2, st2⟩ := getF X1 hx hZ hown (host := "") (Or.inl (hw _ (List.mem_of_getElem? (i := 10) rfl))) Via.refl e1 F_written_o0 (g := (mkF m 14 #[.val (.ref o0), .val (.long q1), .second, .val (.int (56 : Int32))] [(.ref o0)])) rfl rfl (hb hby d6_14)
  obtain ⟨T3, X3, e3, st3⟩ := getF X2 hx hZ hown (host := "") (Or.inl (hw _ (List.mem_of_getElem? (i := 17) rfl))) Via.refl e2 F_size_o0 (g := (mkF m 19 #[.val (.ref o0), .val (.long q1), .second, .val (.int (56 : Int32))] [(.ref o0), (.ref o0), (.ref w1_buf)])) rfl rfl (hb hby d6_19)
  obtain ⟨T4, h4, X4, e4, W4, st4⟩ := putF X3 hx hZ hown (host := "") (Or.inl (hw _ (List.mem_of_getElem? (i := 17) rfl))) Via.refl e3 F_size_o0 E_o0 (Or.inl (hw _ (List.mem_of_getElem? (i := 18) rfl))) (hw _ (List.mem_of_getElem? (i := 1) rfl)) (ty := .int) (by decide) rfl rfl (g := (mkF m 25 #[.val (.ref o0), .val (.long q1), .second, .val (.int (56 : Int32))] [(.int (78 : Int32)), (.ref o0), (.int (77 : Int32)), (.ref w1_buf)])) rfl rfl (hb hby d6_25)
  have Fw4 := F_size_o0.same W4
  have N4 := Fr.snoc X4 N1 g_o0
  have z5 : n0 ≤ h4.size := Nat.le_trans Z0 (Keep.of_wr W4).1
  have hs6 : h0.size ≤ h4.size := Nat.le_trans (Nat.le_refl h0.size) (Keep.of_wr W4).1
  have k7 := (V_w1_buf.other W4 ne_w1_buf_o0)
  obtain ⟨cl8, Ar8, qc8, S8, M8, Ha8, G8⟩ := id k7
  have hin9 : ¬ ((77 : Int32) < 0 ∨ cl8.slots.size ≤ ((77 : Int32)).toNatClampNeg) := inb_of S8 ⟨by decide, by decide⟩
  obtain ⟨T10, h10, X10, e10, W10, st10⟩ := stB X4 hx hZ e4 Ar8 (j := (77 : Int32)) hin9 (g := (mkF m 33 #[.val (.ref o0), .val (.long q1), .second, .val (.int (56 : Int32))] [(.int (((XT.ushrL q1 (56 : Int32)).toInt32).toInt8.toInt32)), (.int (77 : Int32)), (.ref w1_buf)])) rfl rfl (hb hby d6_33)
  have V10 : Arv Z h10 w1_buf kA .byte (128 : Int32) [u0, u1, u2, u3, u4, u5, u6, u7, u8, u9, u10, u11, u12, u13, u14, u15, u16, u17, u18, u19, u20, u21, u22, u23, u24, u25, u26, u27, u28, u29, u30, u31, u32, u33, u34, u35, u36, u37, u38, u39, u40, u41, u42, u43, u44, u45, u46, u47, u48, u49, u50, u51, u52, u53, u54, u55, u56, u57, u58, u59, u60, u61, u62, u63, u64, u65, u66, u67, u68, u69, u70, u71, u72, u73, u74, u75, u76, (.int (nar .byte (vnu77_1 q1))), u78, u79, u80, u81, u82, u83, u84, u85, u86, u87, u88, u89, u90, u91, u92, u93, u94, u95, u96, u97, u98, u99, u100, u101, u102, u103, u104, u105, u106, u107, u108, u109, u110, u111, u112, u113, u114, u115, u116, u117, u118, u119, u120, u121, u122, u123, u124, u125, u126, u127] (.int (0 : Int32)) := Arv.set Ar8 qc8 S8 M8 Ha8 G8 (fits_nar_byte (vnu77_1 q1)) W10 77 rfl (Nat.le_of_ble_eq_true rfl)
  have N10 := Fr.snoc X10 N4 g_w1_buf
  have z11 : n0 ≤ h10.size := Nat.le_trans z5 (Keep.of_wr W10).1
  have hs12 : h0.size ≤ h10.size := Nat.le_trans hs6 (Keep.of_wr W10).1
  have k13 := ((F_written_o0.other W4 (Or.inr (slot_ne (Or.inl (hw _ (List.mem_of_getElem? (i := 11) rfl))) (Or.inl (hw _ (List.mem_of_getElem? (i := 18) rfl))) (by decide) (t := (.array .byte)) (t' := .int) (by decide) (by decide)))).other W10 (Or.inl (Ne.symm ne_w1_buf_o0)))
  obtain ⟨T14, X14, e14, st14⟩ := getF X10 hx hZ hown (host := "") (Or.inl (hw _ (List.mem_of_getElem? (i := 10) rfl))) Via.refl e10 k13 (g := (mkF m 14 #[.val (.ref o0), .val (.long q1), .second, .val (.int (48 : Int32))] [(.ref o0)])) rfl rfl (hb hby d6_14)
  have k15 := (Fw4.other W10 (Or.inl (Ne.symm ne_w1_buf_o0)))
  obtain ⟨T16, X16, e16, st16⟩ := getF X14 hx hZ hown (host := "") (Or.inl (hw _ (List.mem_of_getElem? (i := 17) rfl))) Via.refl e14 k15 (g := (mkF m 19 #[.val (.ref o0), .val (.long q1), .second, .val (.int (48 : Int32))] [(.ref o0), (.ref o0), (.ref w1_buf)])) rfl rfl (hb hby d6_19)
  have k17 := ((E_o0.wr W4).wr W10)
  obtain ⟨T18, h18, X18, e18, W18, st18⟩ := putF X16 hx hZ hown (host := "") (Or.inl (hw _ (List.mem_of_getElem? (i := 17) rfl))) Via.refl e16 k15 k17 (Or.inl (hw _ (List.mem_of_getElem? (i := 18) rfl))) (hw _ (List.mem_of_getElem? (i := 1) rfl)) (ty := .int) (by decide) rfl rfl (g := (mkF m 25 #[.val (.ref o0), .val (.long q1), .second, .val (.int (48 : Int32))] [(.int (79 : Int32)), (.ref o0), (.int (78 : Int32)), (.ref w1_buf)])) rfl rfl (hb hby d6_25)
  have Fw18 := k15.same W18
  have N18 := Fr.snoc X18 N10 g_o0
  have z19 : n0 ≤ h18.size := Nat.le_trans z11 (Keep.of_wr W18).1
  have hs20 : h0.size ≤ h18.size := Nat.le_trans hs12 (Keep.of_wr W18).1
  have k21 := (V10.other W18 ne_w1_buf_o0)
  obtain ⟨cl22, Ar22, qc22, S22, M22, Ha22, G22⟩ := id k21
  have hin23 : ¬ ((78 : Int32) < 0 ∨ cl22.slots.size ≤ ((78 : Int32)).toNatClampNeg) := inb_of S22 ⟨by decide, by decide⟩
  obtain ⟨T24, h24, X24, e24, W24, st24⟩ := stB X18 hx hZ e18 Ar22 (j := (78 : Int32)) hin23 (g := (mkF m 33 #[.val (.ref o0), .val (.long q1), .second, .val (.int (48 : Int32))] [(.int (((XT.ushrL q1 (48 : Int32)).toInt32).toInt8.toInt32)), (.int (78 : Int32)), (.ref w1_buf)])) rfl rfl (hb hby d6_33)
  have V24 : Arv Z h24 w1_buf kA .byte (128 : Int32) [u0, u1, u2, u3, u4, u5, u6, u7, u8, u9, u10, u11, u12, u13, u14, u15, u16, u17, u18, u19, u20, u21, u22, u23, u24, u25, u26, u27, u28, u29, u30, u31, u32, u33, u34, u35, u36, u37, u38, u39, u40, u41, u42, u43, u44, u45, u46, u47, u48, u49, u50, u51, u52, u53, u54, u55, u56, u57, u58, u59, u60, u61, u62, u63, u64, u65, u66, u67, u68, u69, u70, u71, u72, u73, u74, u75, u76, (.int (nar .byte (vnu77_1 q1))), (.int (nar .byte (vnu77_2 q1))), u79, u80, u81, u82, u83, u84, u85, u86, u87, u88, u89, u90, u91, u92, u93, u94, u95, u96, u97, u98, u99, u100, u101, u102, u103, u104, u105, u106, u107, u108, u109, u110, u111, u112, u113, u114, u115, u116, u117, u118, u119, u120, u121, u122, u123, u124, u125, u126, u127] (.int (0 : Int32)) := Arv.set Ar22 qc22 S22 M22 Ha22 G22 (fits_nar_byte (vnu77_2 q1)) W24 78 rfl (Nat.le_of_ble_eq_true rfl)
  have N24 := Fr.snoc X24 N18 g_w1_buf
  have z25 : n0 ≤ h24.size := Nat.le_trans z19 (Keep.of_wr W24).1
  have hs26 : h0.size ≤ h24.size := Nat.le_trans hs20 (Keep.of_wr W24).1
  have k27 := ((k13.other W18 (Or.inr (slot_ne (Or.inl (hw _ (List.mem_of_getElem? (i := 11) rfl))) (Or.inl (hw _ (List.mem_of_getElem? (i := 18) rfl))) (by decide) (t := (.array .byte)) (t' := .int) (by decide) (by decide)))).other W24 (Or.inl (Ne.symm ne_w1_buf_o0)))
  obtain ⟨T28, X28, e28, st28⟩ := getF X24 hx hZ hown (host := "") (Or.inl (hw _ (List.mem_of_getElem? (i := 10) rfl))) Via.refl e24 k27 (g := (mkF m 14 #[.val (.ref o0), .val (.long q1), .second, .val (.int (40 : Int32))] [(.ref o0)])) rfl rfl (hb hby d6_14)
  have k29 := (Fw18.other W24 (Or.inl (Ne.symm ne_w1_buf_o0)))
  obtain ⟨T30, X30, e30, st30⟩ := getF X28 hx hZ hown (host := "") (Or.inl (hw _ (List.mem_of_getElem? (i := 17) rfl))) Via.refl e28 k29 (g := (mkF m 19 #[.val (.ref o0), .val (.long q1), .second, .val (.int (40 : Int32))] [(.ref o0), (.ref o0), (.ref w1_buf)])) rfl rfl (hb hby d6_19)
  have k31 := ((k17.wr W18).wr W24)
  obtain ⟨T32, h32, X32, e32, W32, st32⟩ := putF X30 hx hZ hown (host := "") (Or.inl (hw _ (List.mem_of_getElem? (i := 17) rfl))) Via.refl e30 k29 k31 (Or.inl (hw _ (List.mem_of_getElem? (i := 18) rfl))) (hw _ (List.mem_of_getElem? (i := 1) rfl)) (ty := .int) (by decide) rfl rfl (g := (mkF m 25 #[.val (.ref o0), .val (.long q1), .second, .val (.int (40 : Int32))] [(.int (80 : Int32)), (.ref o0), (.int (79 : Int32)), (.ref w1_buf)])) rfl rfl (hb hby d6_25)
  have Fw32 := k29.same W32
  have N32 := Fr.snoc X32 N24 g_o0
  have z33 : n0 ≤ h32.size := Nat.le_trans z25 (Keep.of_wr W32).1
  have hs34 : h0.size ≤ h32.size := Nat.le_trans hs26 (Keep.of_wr W32).1
  have k35 := (V24.other W32 ne_w1_buf_o0)
  obtain ⟨cl36, Ar36, qc36, S36, M36, Ha36, G36⟩ := id k35
  have hin37 : ¬ ((79 : Int32) < 0 ∨ cl36.slots.size ≤ ((79 : Int32)).toNatClampNeg) := inb_of S36 ⟨by decide, by decide⟩
  obtain ⟨T38, h38, X38, e38, W38, st38⟩ := stB X32 hx hZ e32 Ar36 (j := (79 : Int32)) hin37 (g := (mkF m 33 #[.val (.ref o0), .val (.long q1), .second, .val (.int (40 : Int32))] [(.int (((XT.ushrL q1 (40 : Int32)).toInt32).toInt8.toInt32)), (.int (79 : Int32)), (.ref w1_buf)])) rfl rfl (hb hby d6_33)
  have V38 : Arv Z h38 w1_buf kA .byte (128 : Int32) [u0, u1, u2, u3, u4, u5, u6, u7, u8, u9, u10, u11, u12, u13, u14, u15, u16, u17, u18, u19, u20, u21, u22, u23, u24, u25, u26, u27, u28, u29, u30, u31, u32, u33, u34, u35, u36, u37, u38, u39, u40, u41, u42, u43, u44, u45, u46, u47, u48, u49, u50, u51, u52, u53, u54, u55, u56, u57, u58, u59, u60, u61, u62, u63, u64, u65, u66, u67, u68, u69, u70, u71, u72, u73, u74, u75, u76, (.int (nar .byte (vnu77_1 q1))), (.int (nar .byte (vnu77_2 q1))), (.int (nar .byte (vnu77_3 q1))), u80, u81, u82, u83, u84, u85, u86, u87, u88, u89, u90, u91, u92, u93, u94, u95, u96, u97, u98, u99, u100, u101, u102, u103, u104, u105, u106, u107, u108, u109, u110, u111, u112, u113, u114, u115, u116, u117, u118, u119, u120, u121, u122, u123, u124, u125, u126, u127] (.int (0 : Int32)) := Arv.set Ar36 qc36 S36 M36 Ha36 G36 (fits_nar_byte (vnu77_3 q1)) W38 79 rfl (Nat.le_of_ble_eq_true rfl)
  have N38 := Fr.snoc X38 N32 g_w1_buf
  have z39 : n0 ≤ h38.size := Nat.le_trans z33 (Keep.of_wr W38).1
  have hs40 : h0.size ≤ h38.size := Nat.le_trans hs34 (Keep.of_wr W38).1
  have k41 := ((k27.other W32 (Or.inr (slot_ne (Or.inl (hw _ (List.mem_of_getElem? (i := 11) rfl))) (Or.inl (hw _ (List.mem_of_getElem? (i := 18) rfl))) (by decide) (t := (.array .byte)) (t' := .int) (by decide) (by decide)))).other W38 (Or.inl (Ne.symm ne_w1_buf_o0)))
  obtain ⟨T42, X42, e42, st42⟩ := getF X38 hx hZ hown (host := "") (Or.inl (hw _ (List.mem_of_getElem? (i := 10) rfl))) Via.refl e38 k41 (g := (mkF m 14 #[.val (.ref o0), .val (.long q1), .second, .val (.int (32 : Int32))] [(.ref o0)])) rfl rfl (hb hby d6_14)
  have k43 := (Fw32.other W38 (Or.inl (Ne.symm ne_w1_buf_o0)))
  obtain ⟨T44, X44, e44, st44⟩ := getF X42 hx hZ hown (host := "") (Or.inl (hw _ (List.mem_of_getElem? (i := 17) rfl))) Via.refl e42 k43 (g := (mkF m 19 #[.val (.ref o0), .val (.long q1), .second, .val (.int (32 : Int32))] [(.ref o0), (.ref o0), (.ref w1_buf)])) rfl rfl (hb hby d6_19)
  have k45 := ((k31.wr W32).wr W38)
  obtain ⟨T46, h46, X46, e46, W46, st46⟩ := putF X44 hx hZ hown (host := "") (Or.inl (hw _ (List.mem_of_getElem? (i := 17) rfl))) Via.refl e44 k43 k45 (Or.inl (hw _ (List.mem_of_getElem? (i := 18) rfl))) (hw _ (List.mem_of_getElem? (i := 1) rfl)) (ty := .int) (by decide) rfl rfl (g := (mkF m 25 #[.val (.ref o0), .val (.long q1), .second, .val (.int (32 : Int32))] [(.int (81 : Int32)), (.ref o0), (.int (80 : Int32)), (.ref w1_buf)])) rfl rfl (hb hby d6_25)
  have Fw46 := k43.same W46
  have N46 := Fr.snoc X46 N38 g_o0
  have z47 : n0 ≤ h46.size := Nat.le_trans z39 (Keep.of_wr W46).1
  have hs48 : h0.size ≤ h46.size := Nat.le_trans hs40 (Keep.of_wr W46).1
  have k49 := (V38.other W46 ne_w1_buf_o0)
  obtain ⟨cl50, Ar50, qc50, S50, M50, Ha50, G50⟩ := id k49
  have hin51 : ¬ ((80 : Int32) < 0 ∨ cl50.slots.size ≤ ((80 : Int32)).toNatClampNeg) := inb_of S50 ⟨by decide, by decide⟩
  obtain ⟨T52, h52, X52, e52, W52, st52⟩ := stB X46 hx hZ e46 Ar50 (j := (80 : Int32)) hin51 (g := (mkF m 33 #[.val (.ref o0), .val (.long q1), .second, .val (.int (32 : Int32))] [(.int (((XT.ushrL q1 (32 : Int32)).toInt32).toInt8.toInt32)), (.int (80 : Int32)), (.ref w1_buf)])) rfl rfl (hb hby d6_33)
  have V52 : Arv Z h52 w1_buf kA .byte (128 : Int32) [u0, u1, u2, u3, u4, u5, u6, u7, u8, u9, u10, u11, u12, u13, u14, u15, u16, u17, u18, u19, u20, u21, u22, u23, u24, u25, u26, u27, u28, u29, u30, u31, u32, u33, u34, u35, u36, u37, u38, u39, u40, u41, u42, u43, u44, u45, u46, u47, u48, u49, u50, u51, u52, u53, u54, u55, u56, u57, u58, u59, u60, u61, u62, u63, u64, u65, u66, u67, u68, u69, u70, u71, u72, u73, u74, u75, u76, (.int (nar .byte (vnu77_1 q1))), (.int (nar .byte (vnu77_2 q1))), (.int (nar .byte (vnu77_3 q1))), (.int (nar .byte (vnu77_4 q1))), u81, u82, u83, u84, u85, u86, u87, u88, u89, u90, u91, u92, u93, u94, u95, u96, u97, u98, u99, u100, u101, u102, u103, u104, u105, u106, u107, u108, u109, u110, u111, u112, u113, u114, u115, u116, u117, u118, u119, u120, u121, u122, u123, u124, u125, u126, u127] (.int (0 : Int32)) := Arv.set Ar50 qc50 S50 M50 Ha50 G50 (fits_nar_byte (vnu77_4 q1)) W52 80 rfl (Nat.le_of_ble_eq_true rfl)
  have N52 := Fr.snoc X52 N46 g_w1_buf
  have z53 : n0 ≤ h52.size := Nat.le_trans z47 (Keep.of_wr W52).1
  have hs54 : h0.size ≤ h52.size := Nat.le_trans hs48 (Keep.of_wr W52).1
  have k55 := ((k41.other W46 (Or.inr (slot_ne (Or.inl (hw _ (List.mem_of_getElem? (i := 11) rfl))) (Or.inl (hw _ (List.mem_of_getElem? (i := 18) rfl))) (by decide) (t := (.array .byte)) (t' := .int) (by decide) (by decide)))).other W52 (Or.inl (Ne.symm ne_w1_buf_o0)))
  obtain ⟨T56, X56, e56, st56⟩ := getF X52 hx hZ hown (host := "") (Or.inl (hw _ (List.mem_of_getElem? (i := 10) rfl))) Via.refl e52 k55 (g := (mkF m 14 #[.val (.ref o0), .val (.long q1), .second, .val (.int (24 : Int32))] [(.ref o0)])) rfl rfl (hb hby d6_14)
  have k57 := (Fw46.other W52 (Or.inl (Ne.symm ne_w1_buf_o0)))
  obtain ⟨T58, X58, e58, st58⟩ := getF X56 hx hZ hown (host := "") (Or.inl (hw _ (List.mem_of_getElem? (i := 17) rfl))) Via.refl e56 k57 (g := (mkF m 19 #[.val (.ref o0), .val (.long q1), .second, .val (.int (24 : Int32))] [(.ref o0), (.ref o0), (.ref w1_buf)])) rfl rfl (hb hby d6_19)
  have k59 := ((k45.wr W46).wr W52)
  obtain ⟨T60, h60, X60, e60, W60, st60⟩ := putF X58 hx hZ hown (host := "") (Or.inl (hw _ (List.mem_of_getElem? (i := 17) rfl))) Via.refl e58 k57 k59 (Or.inl (hw _ (List.mem_of_getElem? (i := 18) rfl))) (hw _ (List.mem_of_getElem? (i := 1) rfl)) (ty := .int) (by decide) rfl rfl (g := (mkF m 25 #[.val (.ref o0), .val (.long q1), .second, .val (.int (24 : Int32))] [(.int (82 : Int32)), (.ref o0), (.int (81 : Int32)), (.ref w1_buf)])) rfl rfl (hb hby d6_25)
  have Fw60 := k57.same W60
  have N60 := Fr.snoc X60 N52 g_o0
  have z61 : n0 ≤ h60.size := Nat.le_trans z53 (Keep.of_wr W60).1
  have hs62 : h0.size ≤ h60.size := Nat.le_trans hs54 (Keep.of_wr W60).1
  have k63 := (V52.other W60 ne_w1_buf_o0)
  obtain ⟨cl64, Ar64, qc64, S64, M64, Ha64, G64⟩ := id k63
  have hin65 : ¬ ((81 : Int32) < 0 ∨ cl64.slots.size ≤ ((81 : Int32)).toNatClampNeg) := inb_of S64 ⟨by decide, by decide⟩
  obtain ⟨T66, h66, X66, e66, W66, st66⟩ := stB X60 hx hZ e60 Ar64 (j := (81 : Int32)) hin65 (g := (mkF m 33 #[.val (.ref o0), .val (.long q1), .second, .val (.int (24 : Int32))] [(.int (((XT.ushrL q1 (24 : Int32)).toInt32).toInt8.toInt32)), (.int (81 : Int32)), (.ref w1_buf)])) rfl rfl (hb hby d6_33)
  have V66 : Arv Z h66 w1_buf kA .byte (128 : Int32) [u0, u1, u2, u3, u4, u5, u6, u7, u8, u9, u10, u11, u12, u13, u14, u15, u16, u17, u18, u19, u20, u21, u22, u23, u24, u25, u26, u27, u28, u29, u30, u31, u32, u33, u34, u35, u36, u37, u38, u39, u40, u41, u42, u43, u44, u45, u46, u47, u48, u49, u50, u51, u52, u53, u54, u55, u56, u57, u58, u59, u60, u61, u62, u63, u64, u65, u66, u67, u68, u69, u70, u71, u72, u73, u74, u75, u76, (.int (nar .byte (vnu77_1 q1))), (.int (nar .byte (vnu77_2 q1))), (.int (nar .byte (vnu77_3 q1))), (.int (nar .byte (vnu77_4 q1))), (.int (nar .byte (vnu77_5 q1))), u82, u83, u84, u85, u86, u87, u88, u89, u90, u91, u92, u93, u94, u95, u96, u97, u98, u99, u100, u101, u102, u103, u104, u105, u106, u107, u108, u109, u110, u111, u112, u113, u114, u115, u116, u117, u118, u119, u120, u121, u122, u123, u124, u125, u126, u127] (.int (0 : Int32)) := Arv.set Ar64 qc64 S64 M64 Ha64 G64 (fits_nar_byte (vnu77_5 q1)) W66 81 rfl (Nat.le_of_ble_eq_true rfl)
  have N66 := Fr.snoc X66 N60 g_w1_buf
  have z67 : n0 ≤ h66.size := Nat.le_trans z61 (Keep.of_wr W66).1
  have hs68 : h0.size ≤ h66.size := Nat.le_trans hs62 (Keep.of_wr W66).1
  have k69 := ((k55.other W60 (Or.inr (slot_ne (Or.inl (hw _ (List.mem_of_getElem? (i := 11) rfl))) (Or.inl (hw _ (List.mem_of_getElem? (i := 18) rfl))) (by decide) (t := (.array .byte)) (t' := .int) (by decide) (by decide)))).other W66 (Or.inl (Ne.symm ne_w1_buf_o0)))
  obtain ⟨T70, X70, e70, st70⟩ := getF X66 hx hZ hown (host := "") (Or.inl (hw _ (List.mem_of_getElem? (i := 10) rfl))) Via.refl e66 k69 (g := (mkF m 14 #[.val (.ref o0), .val (.long q1), .second, .val (.int (16 : Int32))] [(.ref o0)])) rfl rfl (hb hby d6_14)
  have k71 := (Fw60.other W66 (Or.inl (Ne.symm ne_w1_buf_o0)))
  obtain ⟨T72, X72, e72, st72⟩ := getF X70 hx hZ hown (host := "") (Or.inl (hw _ (List.mem_of_getElem? (i := 17) rfl))) Via.refl e70 k71 (g := (mkF m 19 #[.val (.ref o0), .val (.long q1), .second, .val (.int (16 : Int32))] [(.ref o0), (.ref o0), (.ref w1_buf)])) rfl rfl (hb hby d6_19)
  have k73 := ((k59.wr W60).wr W66)
  obtain ⟨T74, h74, X74, e74, W74, st74⟩ := putF X72 hx hZ hown (host := "") (Or.inl (hw _ (List.mem_of_getElem? (i := 17) rfl))) Via.refl e72 k71 k73 (Or.inl (hw _ (List.mem_of_getElem? (i := 18) rfl))) (hw _ (List.mem_of_getElem? (i := 1) rfl)) (ty := .int) (by decide) rfl rfl (g := (mkF m 25 #[.val (.ref o0), .val (.long q1), .second, .val (.int (16 : Int32))] [(.int (83 : Int32)), (.ref o0), (.int (82 : Int32)), (.ref w1_buf)])) rfl rfl (hb hby d6_25)
  have Fw74 := k71.same W74
  have N74 := Fr.snoc X74 N66 g_o0
  have z75 : n0 ≤ h74.size := Nat.le_trans z67 (Keep.of_wr W74).1
  have hs76 : h0.size ≤ h74.size := Nat.le_trans hs68 (Keep.of_wr W74).1
  have k77 := (V66.other W74 ne_w1_buf_o0)
  obtain ⟨cl78, Ar78, qc78, S78, M78, Ha78, G78⟩ := id k77
  have hin79 : ¬ ((82 : Int32) < 0 ∨ cl78.slots.size ≤ ((82 : Int32)).toNatClampNeg) := inb_of S78 ⟨by decide, by decide⟩
  obtain ⟨T80, h80, X80, e80, W80, st80⟩ := stB X74 hx hZ e74 Ar78 (j := (82 : Int32)) hin79 (g := (mkF m 33 #[.val (.ref o0), .val (.long q1), .second, .val (.int (16 : Int32))] [(.int (((XT.ushrL q1 (16 : Int32)).toInt32).toInt8.toInt32)), (.int (82 : Int32)), (.ref w1_buf)])) rfl rfl (hb hby d6_33)
  have V80 : Arv Z h80 w1_buf kA .byte (128 : Int32) [u0, u1, u2, u3, u4, u5, u6, u7, u8, u9, u10, u11, u12, u13, u14, u15, u16, u17, u18, u19, u20, u21, u22, u23, u24, u25, u26, u27, u28, u29, u30, u31, u32, u33, u34, u35, u36, u37, u38, u39, u40, u41, u42, u43, u44, u45, u46, u47, u48, u49, u50, u51, u52, u53, u54, u55, u56, u57, u58, u59, u60, u61, u62, u63, u64, u65, u66, u67, u68, u69, u70, u71, u72, u73, u74, u75, u76, (.int (nar .byte (vnu77_1 q1))), (.int (nar .byte (vnu77_2 q1))), (.int (nar .byte (vnu77_3 q1))), (.int (nar .byte (vnu77_4 q1))), (.int (nar .byte (vnu77_5 q1))), (.int (nar .byte (vnu77_6 q1))), u83, u84, u85, u86, u87, u88, u89, u90, u91, u92, u93, u94, u95, u96, u97, u98, u99, u100, u101, u102, u103, u104, u105, u106, u107, u108, u109, u110, u111, u112, u113, u114, u115, u116, u117, u118, u119, u120, u121, u122, u123, u124, u125, u126, u127] (.int (0 : Int32)) := Arv.set Ar78 qc78 S78 M78 Ha78 G78 (fits_nar_byte (vnu77_6 q1)) W80 82 rfl (Nat.le_of_ble_eq_true rfl)
  have N80 := Fr.snoc X80 N74 g_w1_buf
  have z81 : n0 ≤ h80.size := Nat.le_trans z75 (Keep.of_wr W80).1
  have hs82 : h0.size ≤ h80.size := Nat.le_trans hs76 (Keep.of_wr W80).1
  have k83 := ((k69.other W74 (Or.inr (slot_ne (Or.inl (hw _ (List.mem_of_getElem? (i := 11) rfl))) (Or.inl (hw _ (List.mem_of_getElem? (i := 18) rfl))) (by decide) (t := (.array .byte)) (t' := .int) (by decide) (by decide)))).other W80 (Or.inl (Ne.symm ne_w1_buf_o0)))
  obtain ⟨T84, X84, e84, st84⟩ := getF X80 hx hZ hown (host := "") (Or.inl (hw _ (List.mem_of_getElem? (i := 10) rfl))) Via.refl e80 k83 (g := (mkF m 14 #[.val (.ref o0), .val (.long q1), .second, .val (.int (8 : Int32))] [(.ref o0)])) rfl rfl (hb hby d6_14)
  have k85 := (Fw74.other W80 (Or.inl (Ne.symm ne_w1_buf_o0)))
  obtain ⟨T86, X86, e86, st86⟩ := getF X84 hx hZ hown (host := "") (Or.inl (hw _ (List.mem_of_getElem? (i := 17) rfl))) Via.refl e84 k85 (g := (mkF m 19 #[.val (.ref o0), .val (.long q1), .second, .val (.int (8 : Int32))] [(.ref o0), (.ref o0), (.ref w1_buf)])) rfl rfl (hb hby d6_19)
  have k87 := ((k73.wr W74).wr W80)
  obtain ⟨T88, h88, X88, e88, W88, st88⟩ := putF X86 hx hZ hown (host := "") (Or.inl (hw _ (List.mem_of_getElem? (i := 17) rfl))) Via.refl e86 k85 k87 (Or.inl (hw _ (List.mem_of_getElem? (i := 18) rfl))) (hw _ (List.mem_of_getElem? (i := 1) rfl)) (ty := .int) (by decide) rfl rfl (g := (mkF m 25 #[.val (.ref o0), .val (.long q1), .second, .val (.int (8 : Int32))] [(.int (84 : Int32)), (.ref o0), (.int (83 : Int32)), (.ref w1_buf)])) rfl rfl (hb hby d6_25)
  have Fw88 := k85.same W88
  have N88 := Fr.snoc X88 N80 g_o0
  have z89 : n0 ≤ h88.size := Nat.le_trans z81 (Keep.of_wr W88).1
  have hs90 : h0.size ≤ h88.size := Nat.le_trans hs82 (Keep.of_wr W88).1
  have k91 := (V80.other W88 ne_w1_buf_o0)
  obtain ⟨cl92, Ar92, qc92, S92, M92, Ha92, G92⟩ := id k91
  have hin93 : ¬ ((83 : Int32) < 0 ∨ cl92.slots.size ≤ ((83 : Int32)).toNatClampNeg) := inb_of S92 ⟨by decide, by decide⟩
  obtain ⟨T94, h94, X94, e94, W94, st94⟩ := stB X88 hx hZ e88 Ar92 (j := (83 : Int32)) hin93 (g := (mkF m 33 #[.val (.ref o0), .val (.long q1), .second, .val (.int (8 : Int32))] [(.int (((XT.ushrL q1 (8 : Int32)).toInt32).toInt8.toInt32)), (.int (83 : Int32)), (.ref w1_buf)])) rfl rfl (hb hby d6_33)
  have V94 : Arv Z h94 w1_buf kA .byte (128 : Int32) [u0, u1, u2, u3, u4, u5, u6, u7, u8, u9, u10, u11, u12, u13, u14, u15, u16, u17, u18, u19, u20, u21, u22, u23, u24, u25, u26, u27, u28, u29, u30, u31, u32, u33, u34, u35, u36, u37, u38, u39, u40, u41, u42, u43, u44, u45, u46, u47, u48, u49, u50, u51, u52, u53, u54, u55, u56, u57, u58, u59, u60, u61, u62, u63, u64, u65, u66, u67, u68, u69, u70, u71, u72, u73, u74, u75, u76, (.int (nar .byte (vnu77_1 q1))), (.int (nar .byte (vnu77_2 q1))), (.int (nar .byte (vnu77_3 q1))), (.int (nar .byte (vnu77_4 q1))), (.int (nar .byte (vnu77_5 q1))), (.int (nar .byte (vnu77_6 q1))), (.int (nar .byte (vnu77_7 q1))), u84, u85, u86, u87, u88, u89, u90, u91, u92, u93, u94, u95, u96, u97, u98, u99, u100, u101, u102, u103, u104, u105, u106, u107, u108, u109, u110, u111, u112, u113, u114, u115, u116, u117, u118, u119, u120, u121, u122, u123, u124, u125, u126, u127] (.int (0 : Int32)) := Arv.set Ar92 qc92 S92 M92 Ha92 G92 (fits_nar_byte (vnu77_7 q1)) W94 83 rfl (Nat.le_of_ble_eq_true rfl)
  have N94 := Fr.snoc X94 N88 g_w1_buf
  have z95 : n0 ≤ h94.size := Nat.le_trans z89 (Keep.of_wr W94).1
  have hs96 : h0.size ≤ h94.size := Nat.le_trans hs90 (Keep.of_wr W94).1
  have k97 := ((k83.other W88 (Or.inr (slot_ne (Or.inl (hw _ (List.mem_of_getElem? (i := 11) rfl))) (Or.inl (hw _ (List.mem_of_getElem? (i := 18) rfl))) (by decide) (t := (.array .byte)) (t' := .int) (by decide) (by decide)))).other W94 (Or.inl (Ne.symm ne_w1_buf_o0)))
  obtain ⟨T98, X98, e98, st98⟩ := getF X94 hx hZ hown (host := "") (Or.inl (hw _ (List.mem_of_getElem? (i := 10) rfl))) Via.refl e94 k97 (g := (mkF m 14 #[.val (.ref o0), .val (.long q1), .second, .val (.int (0 : Int32))] [(.ref o0)])) rfl rfl (hb hby d6_14)
  have k99 := (Fw88.other W94 (Or.inl (Ne.symm ne_w1_buf_o0)))
  obtain ⟨T100, X100, e100, st100⟩ := getF X98 hx hZ hown (host := "") (Or.inl (hw _ (List.mem_of_getElem? (i := 17) rfl))) Via.refl e98 k99 (g := (mkF m 19 #[.val (.ref o0), .val (.long q1), .second, .val (.int (0 : Int32))] [(.ref o0), (.ref o0), (.ref w1_buf)])) rfl rfl (hb hby d6_19)
  have k101 := ((k87.wr W88).wr W94)
  obtain ⟨T102, h102, X102, e102, W102, st102⟩ := putF X100 hx hZ hown (host := "") (Or.inl (hw _ (List.mem_of_getElem? (i := 17) rfl))) Via.refl e100 k99 k101 (Or.inl (hw _ (List.mem_of_getElem? (i := 18) rfl))) (hw _ (List.mem_of_getElem? (i := 1) rfl)) (ty := .int) (by decide) rfl rfl (g := (mkF m 25 #[.val (.ref o0), .val (.long q1), .second, .val (.int (0 : Int32))] [(.int (85 : Int32)), (.ref o0), (.int (84 : Int32)), (.ref w1_buf)])) rfl rfl (hb hby d6_25)
  have Fw102 := k99.same W102
  have N102 := Fr.snoc X102 N94 g_o0
  have z103 : n0 ≤ h102.size := Nat.le_trans z95 (Keep.of_wr W102).1
  have hs104 : h0.size ≤ h102.size := Nat.le_trans hs96 (Keep.of_wr W102).1
  have k105 := (V94.other W102 ne_w1_buf_o0)
  obtain ⟨cl106, Ar106, qc106, S106, M106, Ha106, G106⟩ := id k105
  have hin107 : ¬ ((84 : Int32) < 0 ∨ cl106.slots.size ≤ ((84 : Int32)).toNatClampNeg) := inb_of S106 ⟨by decide, by decide⟩
  obtain ⟨T108, h108, X108, e108, W108, st108⟩ := stB X102 hx hZ e102 Ar106 (j := (84 : Int32)) hin107 (g := (mkF m 33 #[.val (.ref o0), .val (.long q1), .second, .val (.int (0 : Int32))] [(.int (((XT.ushrL q1 (0 : Int32)).toInt32).toInt8.toInt32)), (.int (84 : Int32)), (.ref w1_buf)])) rfl rfl (hb hby d6_33)
  have V108 : Arv Z h108 w1_buf kA .byte (128 : Int32) [u0, u1, u2, u3, u4, u5, u6, u7, u8, u9, u10, u11, u12, u13, u14, u15, u16, u17, u18, u19, u20, u21, u22, u23, u24, u25, u26, u27, u28, u29, u30, u31, u32, u33, u34, u35, u36, u37, u38, u39, u40, u41, u42, u43, u44, u45, u46, u47, u48, u49, u50, u51, u52, u53, u54, u55, u56, u57, u58, u59, u60, u61, u62, u63, u64, u65, u66, u67, u68, u69, u70, u71, u72, u73, u74, u75, u76, (.int (nar .byte (vnu77_1 q1))), (.int (nar .byte (vnu77_2 q1))), (.int (nar .byte (vnu77_3 q1))), (.int (nar .byte (vnu77_4 q1))), (.int (nar .byte (vnu77_5 q1))), (.int (nar .byte (vnu77_6 q1))), (.int (nar .byte (vnu77_7 q1))), (.int (nar .byte (vnu77_8 q1))), u85, u86, u87, u88, u89, u90, u91, u92, u93, u94, u95, u96, u97, u98, u99, u100, u101, u102, u103, u104, u105, u106, u107, u108, u109, u110, u111, u112, u113, u114, u115, u116, u117, u118, u119, u120, u121, u122, u123, u124, u125, u126, u127] (.int (0 : Int32)) := Arv.set Ar106 qc106 S106 M106 Ha106 G106 (fits_nar_byte (vnu77_8 q1)) W108 84 rfl (Nat.le_of_ble_eq_true rfl)
  have N108 := Fr.snoc X108 N102 g_w1_buf
  have z109 : n0 ≤ h108.size := Nat.le_trans z103 (Keep.of_wr W108).1
  have hs110 : h0.size ≤ h108.size := Nat.le_trans hs104 (Keep.of_wr W108).1
  obtain ⟨fs, hr, hrun, hended, hW, hsame⟩ := X108.leave (v := some (.ref o0)) (fun h => by rw [Bd.returns] at h; cases h) hlk
  refine ⟨_, _, pre0 _ ?_, hrun, hended, _, _, rfl, ?_, ⟨_, rfl⟩, hW, hsame.mono (by decide) (by decide)⟩
  · skip
    show Steps p.tables e below (s₁.setTop (mkF m 0 #[.val (.ref o0), .val (.long q1), .second, .unset] [])) _
    refine XS.aloadN X0.here hx rfl (hb hby d6_0) rfl rfl ?_
    show Steps p.tables e below (s₁.setTop (mkF m 1 #[.val (.ref o0), .val (.long q1), .second, .unset] [(.ref o0)])) _
    refine XT.bipushV X0.here hx rfl (8 : Int32) (hb hby d6_1) (by decide) ?_
    show Steps p.tables e below (s₁.setTop (mkF m 3 #[.val (.ref o0), .val (.long q1), .second, .unset] [(.int (8 : Int32)), (.ref o0)])) _
    refine st1.trans ?_
    show Steps p.tables e below (T1.setTop (mkF m 6 #[.val (.ref o0), .val (.long q1), .second, .unset] [])) _
    refine XT.bipushV X1.here hx rfl (56 : Int32) (hb hby d6_6) (by decide) ?_
    show Steps p.tables e below (T1.setTop (mkF m 8 #[.val (.ref o0), .val (.long q1), .second, .unset] [(.int (56 : Int32))])) _
    refine XS.istoreN X1.here hx rfl (hb hby d6_8) rfl (l' := #[.val (.ref o0), .val (.long q1), .second, .val (.int (56 : Int32))]) rfl ?_
    show Steps p.tables e below (T1.setTop (mkF m 9 #[.val (.ref o0), .val (.long q1), .second, .val (.int (56 : Int32))] [])) _
    refine XS.iloadN X1.here hx rfl (hb hby d6_9) rfl ?_
    show Steps p.tables e below (T1.setTop (mkF m 10 #[.val (.ref o0), .val (.long q1), .second, .val (.int (56 : Int32))] [(.int (56 : Int32))])) _
    refine XS.ifNo X1.here hx rfl (hb hby d6_10) rfl (XT.i0_lt_f (by decide)) ?_
    show Steps p.tables e below (T1.setTop (mkF m 13 #[.val (.ref o0), .val (.long q1), .second, .val (.int (56 : Int32))] [])) _
    refine XS.aloadN X1.here hx rfl (hb hby d6_13) rfl rfl ?_
    show Steps p.tables e below (T1.setTop (mkF m 14 #[.val (.ref o0), .val (.long q1), .second, .val (.int (56 : Int32))] [(.ref o0)])) _
    refine st2 _ ?_
    show Steps p.tables e below (T2.setTop (mkF m 17 #[.val (.ref o0), .val (.long q1), .second, .val (.int (56 : Int32))] [(.ref w1_buf)])) _
    refine XS.aloadN X2.here hx rfl (hb hby d6_17) rfl rfl ?_
    show Steps p.tables e below (T2.setTop (mkF m 18 #[.val (.ref o0), .val (.long q1), .second, .val (.int (56 : Int32))] [(.ref o0), (.ref w1_buf)])) _
    refine XS.dup X2.here hx rfl (hb hby d6_18) rfl rfl ?_
    show Steps p.tables e below (T2.setTop (mkF m 19 #[.val (.ref o0), .val (.long q1), .second, .val (.int (56 : Int32))] [(.ref o0), (.ref o0), (.ref w1_buf)])) _
    refine st3 _ ?_
    show Steps p.tables e below (T3.setTop (mkF m 22 #[.val (.ref o0), .val (.long q1), .second, .val (.int (56 : Int32))] [(.int (77 : Int32)), (.ref o0), (.ref w1_buf)])) _
    refine XT.dupX1 X3.here hx rfl (hb hby d6_22) rfl rfl rfl ?_
    show Steps p.tables e below (T3.setTop (mkF m 23 #[.val (.ref o0), .val (.long q1), .second, .val (.int (56 : Int32))] [(.int (77 : Int32)), (.ref o0), (.int (77 : Int32)), (.ref w1_buf)])) _
    refine XT.iconstV X3.here hx rfl (1 : Int32) (hb hby d6_23) (by decide) ?_
    show Steps p.tables e below (T3.setTop (mkF m 24 #[.val (.ref o0), .val (.long q1), .second, .val (.int (56 : Int32))] [(.int (1 : Int32)), (.int (77 : Int32)), (.ref o0), (.int (77 : Int32)), (.ref w1_buf)])) _
    refine XS.iadd X3.here hx rfl (hb hby d6_24) rfl ?_
    show Steps p.tables e below (T3.setTop (mkF m 25 #[.val (.ref o0), .val (.long q1), .second, .val (.int (56 : Int32))] [(.int (78 : Int32)), (.ref o0), (.int (77 : Int32)), (.ref w1_buf)])) _
    refine st4 _ ?_
    show Steps p.tables e below (T4.setTop (mkF m 28 #[.val (.ref o0), .val (.long q1), .second, .val (.int (56 : Int32))] [(.int (77 : Int32)), (.ref w1_buf)])) _
    refine XT.lloadN X4.here hx rfl (hb hby d6_28) rfl ?_
    show Steps p.tables e below (T4.setTop (mkF m 29 #[.val (.ref o0), .val (.long q1), .second, .val (.int (56 : Int32))] [(.long q1), (.int (77 : Int32)), (.ref w1_buf)])) _
    refine XS.iloadN X4.here hx rfl (hb hby d6_29) rfl ?_
    show Steps p.tables e below (T4.setTop (mkF m 30 #[.val (.ref o0), .val (.long q1), .second, .val (.int (56 : Int32))] [(.int (56 : Int32)), (.long q1), (.int (77 : Int32)), (.ref w1_buf)])) _
    refine XT.lushr X4.here hx rfl (hb hby d6_30) rfl ?_
    show Steps p.tables e below (T4.setTop (mkF m 31 #[.val (.ref o0), .val (.long q1), .second, .val (.int (56 : Int32))] [(.long (XT.ushrL q1 (56 : Int32))), (.int (77 : Int32)), (.ref w1_buf)])) _
    refine XT.l2i X4.here hx rfl (hb hby d6_31) rfl ?_
    show Steps p.tables e below (T4.setTop (mkF m 32 #[.val (.ref o0), .val (.long q1), .second, .val (.int (56 : Int32))] [(.int ((XT.ushrL q1 (56 : Int32)).toInt32)), (.int (77 : Int32)), (.ref w1_buf)])) _
    refine XT.i2b X4.here hx rfl (hb hby d6_32) rfl ?_
    show Steps p.tables e below (T4.setTop (mkF m 33 #[.val (.ref o0), .val (.long q1), .second, .val (.int (56 : Int32))] [(.int (((XT.ushrL q1 (56 : Int32)).toInt32).toInt8.toInt32)), (.int (77 : Int32)), (.ref w1_buf)])) _
    refine st10 _ ?_
    show Steps p.tables e below (T10.setTop (mkF m 34 #[.val (.ref o0), .val (.long q1), .second, .val (.int (56 : Int32))] [])) _
    refine XT.iincV X10.here hx rfl (-8 : Int32) (hb hby d6_34) (by decide) rfl (l' := #[.val (.ref o0), .val (.long q1), .second, .val (.int (48 : Int32))]) rfl ?_
    show Steps p.tables e below (T10.setTop (mkF m 37 #[.val (.ref o0), .val (.long q1), .second, .val (.int (48 : Int32))] [])) _
    refine XS.goto X10.here hx rfl (pc0 := 37) (pc' := 9) rfl (hb hby d6_37) (by decide) (by decide) ?_
    show Steps p.tables e below (T10.setTop (mkF m 9 #[.val (.ref o0), .val (.long q1), .second, .val (.int (48 : Int32))] [])) _
    refine XS.iloadN X10.here hx rfl (hb hby d6_9) rfl ?_
    show Steps p.tables e below (T10.setTop (mkF m 10 #[.val (.ref o0), .val (.long q1), .second, .val (.int (48 : Int32))] [(.int (48 : Int32))])) _
    refine XS.ifNo X10.here hx rfl (hb hby d6_10) rfl (XT.i0_lt_f (by decide)) ?_
    show Steps p.tables e below (T10.setTop (mkF m 13 #[.val (.ref o0), .val (.long q1), .second, .val (.int (48 : Int32))] [])) _
    refine XS.aloadN X10.here hx rfl (hb hby d6_13) rfl rfl ?_
    show Steps p.tables e below (T10.setTop (mkF m 14 #[.val (.ref o0), .val (.long q1), .second, .val (.int (48 : Int32))] [(.ref o0)])) _
    refine st14 _ ?_
    show Steps p.tables e below (T14.setTop (mkF m 17 #[.val (.ref o0), .val (.long q1), .second, .val (.int (48 : Int32))] [(.ref w1_buf)])) _
    refine XS.aloadN X14.here hx rfl (hb hby d6_17) rfl rfl ?_
    show Steps p.tables e below (T14.setTop (mkF m 18 #[.val (.ref o0), .val (.long q1), .second, .val (.int (48 : Int32))] [(.ref o0), (.ref w1_buf)])) _
    refine XS.dup X14.here hx rfl (hb hby d6_18) rfl rfl ?_
    show Steps p.tables e below (T14.setTop (mkF m 19 #[.val (.ref o0), .val (.long q1), .second, .val (.int (48 : Int32))] [(.ref o0), (.ref o0), (.ref w1_buf)])) _
    refine st16 _ ?_
    show Steps p.tables e below (T16.setTop (mkF m 22 #[.val (.ref o0), .val (.long q1), .second, .val (.int (48 : Int32))] [(.int (78 : Int32)), (.ref o0), (.ref w1_buf)])) _
    refine XT.dupX1 X16.here hx rfl (hb hby d6_22) rfl rfl rfl ?_
    show Steps p.tables e below (T16.setTop (mkF m 23 #[.val (.ref o0), .val (.long q1), .second, .val (.int (48 : Int32))] [(.int (78 : Int32)), (.ref o0), (.int (78 : Int32)), (.ref w1_buf)])) _
    refine XT.iconstV X16.here hx rfl (1 : Int32) (hb hby d6_23) (by decide) ?_
    show Steps p.tables e below (T16.setTop (mkF m 24 #[.val (.ref o0), .val (.long q1), .second, .val (.int (48 : Int32))] [(.int (1 : Int32)), (.int (78 : Int32)), (.ref o0), (.int (78 : Int32)), (.ref w1_buf)])) _
    refine XS.iadd X16.here hx rfl (hb hby d6_24) rfl ?_
    show Steps p.tables e below (T16.setTop (mkF m 25 #[.val (.ref o0), .val (.long q1), .second, .val (.int (48 : Int32))] [(.int (79 : Int32)), (.ref o0), (.int (78 : Int32)), (.ref w1_buf)])) _
    refine st18 _ ?_
    show Steps p.tables e below (T18.setTop (mkF m 28 #[.val (.ref o0), .val (.long q1), .second, .val (.int (48 : Int32))] [(.int (78 : Int32)), (.ref w1_buf)])) _
    refine XT.lloadN X18.here hx rfl (hb hby d6_28) rfl ?_
    show Steps p.tables e below (T18.setTop (mkF m 29 #[.val (.ref o0), .val (.long q1), .second, .val (.int (48 : Int32))] [(.long q1), (.int (78 : Int32)), (.ref w1_buf)])) _
    refine XS.iloadN X18.here hx rfl (hb hby d6_29) rfl ?_
    show Steps p.tables e below (T18.setTop (mkF m 30 #[.val (.ref o0), .val (.long q1), .second, .val (.int (48 : Int32))] [(.int (48 : Int32)), (.long q1), (.int (78 : Int32)), (.ref w1_buf)])) _
    refine XT.lushr X18.here hx rfl (hb hby d6_30) rfl ?_
    show Steps p.tables e below (T18.setTop (mkF m 31 #[.val (.ref o0), .val (.long q1), .second, .val (.int (48 : Int32))] [(.long (XT.ushrL q1 (48 : Int32))), (.int (78 : Int32)), (.ref w1_buf)])) _
    refine XT.l2i X18.here hx rfl (hb hby d6_31) rfl ?_
    show Steps p.tables e below (T18.setTop (mkF m 32 #[.val (.ref o0), .val (.long q1), .second, .val (.int (48 : Int32))] [(.int ((XT.ushrL q1 (48 : Int32)).toInt32)), (.int (78 : Int32)), (.ref w1_buf)])) _
    refine XT.i2b X18.here hx rfl (hb hby d6_32) rfl ?_
    show Steps p.tables e below (T18.setTop (mkF m 33 #[.val (.ref o0), .val (.long q1), .second, .val (.int (48 : Int32))] [(.int (((XT.ushrL q1 (48 : Int32)).toInt32).toInt8.toInt32)), (.int (78 : Int32)), (.ref w1_buf)])) _
    refine st24 _ ?_
    show Steps p.tables e below (T24.setTop (mkF m 34 #[.val (.ref o0), .val (.long q1), .second, .val (.int (48 : Int32))] [])) _
    refine XT.iincV X24.here hx rfl (-8 : Int32) (hb hby d6_34) (by decide) rfl (l' := #[.val (.ref o0), .val (.long q1), .second, .val (.int (40 : Int32))]) rfl ?_
    show Steps p.tables e below (T24.setTop (mkF m 37 #[.val (.ref o0), .val (.long q1), .second, .val (.int (40 : Int32))] [])) _
    refine XS.goto X24.here hx rfl (pc0 := 37) (pc' := 9) rfl (hb hby d6_37) (by decide) (by decide) ?_
    show Steps p.tables e below (T24.setTop (mkF m 9 #[.val (.ref o0), .val (.long q1), .second, .val (.int (40 : Int32))] [])) _
    refine XS.iloadN X24.here hx rfl (hb hby d6_9) rfl ?_
    show Steps p.tables e below (T24.setTop (mkF m 10 #[.val (.ref o0), .val (.long q1), .second, .val (.int (40 : Int32))] [(.int (40 : Int32))])) _
    refine XS.ifNo X24.here hx rfl (hb hby d6_10) rfl (XT.i0_lt_f (by decide)) ?_
    show Steps p.tables e below (T24.setTop (mkF m 13 #[.val (.ref o0), .val (.long q1), .second, .val (.int (40 : Int32))] [])) _
    refine XS.aloadN X24.here hx rfl (hb hby d6_13) rfl rfl ?_
    show Steps p.tables e below (T24.setTop (mkF m 14 #[.val (.ref o0), .val (.long q1), .second, .val (.int (40 : Int32))] [(.ref o0)])) _
    refine st28 _ ?_
    show Steps p.tables e below (T28.setTop (mkF m 17 #[.val (.ref o0), .val (.long q1), .second, .val (.int (40 : Int32))] [(.ref w1_buf)])) _
    refine XS.aloadN X28.here hx rfl (hb hby d6_17) rfl rfl ?_
    show Steps p.tables e below (T28.setTop (mkF m 18 #[.val (.ref o0), .val (.long q1), .second, .val (.int (40 : Int32))] [(.ref o0), (.ref w1_buf)])) _
    refine XS.dup X28.here hx rfl (hb hby d6_18) rfl rfl ?_
    show Steps p.tables e below (T28.setTop (mkF m 19 #[.val (.ref o0), .val (.long q1), .second, .val (.int (40 : Int32))] [(.ref o0), (.ref o0), (.ref w1_buf)])) _
    refine st30 _ ?_
    show Steps p.tables e below (T30.setTop (mkF m 22 #[.val (.ref o0), .val (.long q1), .second, .val (.int (40 : Int32))] [(.int (79 : Int32)), (.ref o0), (.ref w1_buf)])) _
    refine XT.dupX1 X30.here hx rfl (hb hby d6_22) rfl rfl rfl ?_
    show Steps p.tables e below (T30.setTop (mkF m 23 #[.val (.ref o0), .val (.long q1), .second, .val (.int (40 : Int32))] [(.int (79 : Int32)), (.ref o0), (.int (79 : Int32)), (.ref w1_buf)])) _
    refine XT.iconstV X30.here hx rfl (1 : Int32) (hb hby d6_23) (by decide) ?_
    show Steps p.tables e below (T30.setTop (mkF m 24 #[.val (.ref o0), .val (.long q1), .second, .val (.int (40 : Int32))] [(.int (1 : Int32)), (.int (79 : Int32)), (.ref o0), (.int (79 : Int32)), (.ref w1_buf)])) _
    refine XS.iadd X30.here hx rfl (hb hby d6_24) rfl ?_
    show Steps p.tables e below (T30.setTop (mkF m 25 #[.val (.ref o0), .val (.long q1), .second, .val (.int (40 : Int32))] [(.int (80 : Int32)), (.ref o0), (.int (79 : Int32)), (.ref w1_buf)])) _
    refine st32 _ ?_
    show Steps p.tables e below (T32.setTop (mkF m 28 #[.val (.ref o0), .val (.long q1), .second, .val (.int (40 : Int32))] [(.int (79 : Int32)), (.ref w1_buf)])) _
    refine XT.lloadN X32.here hx rfl (hb hby d6_28) rfl ?_
    show Steps p.tables e below (T32.setTop (mkF m 29 #[.val (.ref o0), .val (.long q1), .second, .val (.int (40 : Int32))] [(.long q1), (.int (79 : Int32)), (.ref w1_buf)])) _
    refine XS.iloadN X32.here hx rfl (hb hby d6_29) rfl ?_
    show Steps p.tables e below (T32.setTop (mkF m 30 #[.val (.ref o0), .val (.long q1), .second, .val (.int (40 : Int32))] [(.int (40 : Int32)), (.long q1), (.int (79 : Int32)), (.ref w1_buf)])) _
    refine XT.lushr X32.here hx rfl (hb hby d6_30) rfl ?_
    show Steps p.tables e below (T32.setTop (mkF m 31 #[.val (.ref o0), .val (.long q1), .second, .val (.int (40 : Int32))] [(.long (XT.ushrL q1 (40 : Int32))), (.int (79 : Int32)), (.ref w1_buf)])) _
    refine XT.l2i X32.here hx rfl (hb hby d6_31) rfl ?_
    show Steps p.tables e below (T32.setTop (mkF m 32 #[.val (.ref o0), .val (.long q1), .second, .val (.int (40 : Int32))] [(.int ((XT.ushrL q1 (40 : Int32)).toInt32)), (.int (79 : Int32)), (.ref w1_buf)])) _
    refine XT.i2b X32.here hx rfl (hb hby d6_32) rfl ?_
    show Steps p.tables e below (T32.setTop (mkF m 33 #[.val (.ref o0), .val (.long q1), .second, .val (.int (40 : Int32))] [(.int (((XT.ushrL q1 (40 : Int32)).toInt32).toInt8.toInt32)), (.int (79 : Int32)), (.ref w1_buf)])) _
    refine st38 _ ?_
    show Steps p.tables e below (T38.setTop (mkF m 34 #[.val (.ref o0), .val (.long q1), .second, .val (.int (40 : Int32))] [])) _
    refine XT.iincV X38.here hx rfl (-8 : Int32) (hb hby d6_34) (by decide) rfl (l' := #[.val (.ref o0), .val (.long q1), .second, .val (.int (32 : Int32))]) rfl ?_
    show Steps p.tables e below (T38.setTop (mkF m 37 #[.val (.ref o0), .val (.long q1), .second, .val (.int (32 : Int32))] [])) _
    refine XS.goto X38.here hx rfl (pc0 := 37) (pc' := 9) rfl (hb hby d6_37) (by decide) (by decide) ?_
    show Steps p.tables e below (T38.setTop (mkF m 9 #[.val (.ref o0), .val (.long q1), .second, .val (.int (32 : Int32))] [])) _
    refine XS.iloadN X38.here hx rfl (hb hby d6_9) rfl ?_
    show Steps p.tables e below (T38.setTop (mkF m 10 #[.val (.ref o0), .val (.long q1), .second, .val (.int (32 : Int32))] [(.int (32 : Int32))])) _
    refine XS.ifNo X38.here hx rfl (hb hby d6_10) rfl (XT.i0_lt_f (by decide)) ?_
    show Steps p.tables e below (T38.setTop (mkF m 13 #[.val (.ref o0), .val (.long q1), .second, .val (.int (32 : Int32))] [])) _
    refine XS.aloadN X38.here hx rfl (hb hby d6_13) rfl rfl ?_
    show Steps p.tables e below (T38.setTop (mkF m 14 #[.val (.ref o0), .val (.long q1), .second, .val (.int (32 : Int32))] [(.ref o0)])) _
    refine st42 _ ?_
    show Steps p.tables e below (T42.setTop (mkF m 17 #[.val (.ref o0), .val (.long q1), .second, .val (.int (32 : Int32))] [(.ref w1_buf)])) _
    refine XS.aloadN X42.here hx rfl (hb hby d6_17) rfl rfl ?_
    show Steps p.tables e below (T42.setTop (mkF m 18 #[.val (.ref o0), .val (.long q1), .second, .val (.int (32 : Int32))] [(.ref o0), (.ref w1_buf)])) _
    refine XS.dup X42.here hx rfl (hb hby d6_18) rfl rfl ?_
    show Steps p.tables e below (T42.setTop (mkF m 19 #[.val (.ref o0), .val (.long q1), .second, .val (.int (32 : Int32))] [(.ref o0), (.ref o0), (.ref w1_buf)])) _
    refine st44 _ ?_
    show Steps p.tables e below (T44.setTop (mkF m 22 #[.val (.ref o0), .val (.long q1), .second, .val (.int (32 : Int32))] [(.int (80 : Int32)), (.ref o0), (.ref w1_buf)])) _
    refine XT.dupX1 X44.here hx rfl (hb hby d6_22) rfl rfl rfl ?_
    show Steps p.tables e below (T44.setTop (mkF m 23 #[.val (.ref o0), .val (.long q1), .second, .val (.int (32 : Int32))] [(.int (80 : Int32)), (.ref o0), (.int (80 : Int32)), (.ref w1_buf)])) _
    refine XT.iconstV X44.here hx rfl (1 : Int32) (hb hby d6_23) (by decide) ?_
    show Steps p.tables e below (T44.setTop (mkF m 24 #[.val (.ref o0), .val (.long q1), .second, .val (.int (32 : Int32))] [(.int (1 : Int32)), (.int (80 : Int32)), (.ref o0), (.int (80 : Int32)), (.ref w1_buf)])) _
    refine XS.iadd X44.here hx rfl (hb hby d6_24) rfl ?_
    show Steps p.tables e below (T44.setTop (mkF m 25 #[.val (.ref o0), .val (.long q1), .second, .val (.int (32 : Int32))] [(.int (81 : Int32)), (.ref o0), (.int (80 : Int32)), (.ref w1_buf)])) _
    refine st46 _ ?_
    show Steps p.tables e below (T46.setTop (mkF m 28 #[.val (.ref o0), .val (.long q1), .second, .val (.int (32 : Int32))] [(.int (80 : Int32)), (.ref w1_buf)])) _
    refine XT.lloadN X46.here hx rfl (hb hby d6_28) rfl ?_
    show Steps p.tables e below (T46.setTop (mkF m 29 #[.val (.ref o0), .val (.long q1), .second, .val (.int (32 : Int32))] [(.long q1), (.int (80 : Int32)), (.ref w1_buf)])) _
    refine XS.iloadN X46.here hx rfl (hb hby d6_29) rfl ?_
    show Steps p.tables e below (T46.setTop (mkF m 30 #[.val (.ref o0), .val (.long q1), .second, .val (.int (32 : Int32))] [(.int (32 : Int32)), (.long q1), (.int (80 : Int32)), (.ref w1_buf)])) _
    refine XT.lushr X46.here hx rfl (hb hby d6_30) rfl ?_
    show Steps p.tables e below (T46.setTop (mkF m 31 #[.val (.ref o0), .val (.long q1), .second, .val (.int (32 : Int32))] [(.long (XT.ushrL q1 (32 : Int32))), (.int (80 : Int32)), (.ref w1_buf)])) _
    refine XT.l2i X46.here hx rfl (hb hby d6_31) rfl ?_
    show Steps p.tables e below (T46.setTop (mkF m 32 #[.val (.ref o0), .val (.long q1), .second, .val (.int (32 : Int32))] [(.int ((XT.ushrL q1 (32 : Int32)).toInt32)), (.int (80 : Int32)), (.ref w1_buf)])) _
    refine XT.i2b X46.here hx rfl (hb hby d6_32) rfl ?_
    show Steps p.tables e below (T46.setTop (mkF m 33 #[.val (.ref o0), .val (.long q1), .second, .val (.int (32 : Int32))] [(.int (((XT.ushrL q1 (32 : Int32)).toInt32).toInt8.toInt32)), (.int (80 : Int32)), (.ref w1_buf)])) _
    refine st52 _ ?_
    show Steps p.tables e below (T52.setTop (mkF m 34 #[.val (.ref o0), .val (.long q1), .second, .val (.int (32 : Int32))] [])) _
    refine XT.iincV X52.here hx rfl (-8 : Int32) (hb hby d6_34) (by decide) rfl (l' := #[.val (.ref o0), .val (.long q1), .second, .val (.int (24 : Int32))]) rfl ?_
    show Steps p.tables e below (T52.setTop (mkF m 37 #[.val (.ref o0), .val (.long q1), .second, .val (.int (24 : Int32))] [])) _
    refine XS.goto X52.here hx rfl (pc0 := 37) (pc' := 9) rfl (hb hby d6_37) (by decide) (by decide) ?_
    show Steps p.tables e below (T52.setTop (mkF m 9 #[.val (.ref o0), .val (.long q1), .second, .val (.int (24 : Int32))] [])) _
    refine XS.iloadN X52.here hx rfl (hb hby d6_9) rfl ?_
    show Steps p.tables e below (T52.setTop (mkF m 10 #[.val (.ref o0), .val (.long q1), .second, .val (.int (24 : Int32))] [(.int (24 : Int32))])) _
    refine XS.ifNo X52.here hx rfl (hb hby d6_10) rfl (XT.i0_lt_f (by decide)) ?_
    show Steps p.tables e below (T52.setTop (mkF m 13 #[.val (.ref o0), .val (.long q1), .second, .val (.int (24 : Int32))] [])) _
    refine XS.aloadN X52.here hx rfl (hb hby d6_13) rfl rfl ?_
    show Steps p.tables e below (T52.setTop (mkF m 14 #[.val (.ref o0), .val (.long q1), .second, .val (.int (24 : Int32))] [(.ref o0)])) _
    refine st56 _ ?_
    show Steps p.tables e below (T56.setTop (mkF m 17 #[.val (.ref o0), .val (.long q1), .second, .val (.int (24 : Int32))] [(.ref w1_buf)])) _
    refine XS.aloadN X56.here hx rfl (hb hby d6_17) rfl rfl ?_
    show Steps p.tables e below (T56.setTop (mkF m 18 #[.val (.ref o0), .val (.long q1), .second, .val (.int (24 : Int32))] [(.ref o0), (.ref w1_buf)])) _
    refine XS.dup X56.here hx rfl (hb hby d6_18) rfl rfl ?_
    show Steps p.tables e below (T56.setTop (mkF m 19 #[.val (.ref o0), .val (.long q1), .second, .val (.int (24 : Int32))] [(.ref o0), (.ref o0), (.ref w1_buf)])) _
    refine st58 _ ?_
    show Steps p.tables e below (T58.setTop (mkF m 22 #[.val (.ref o0), .val (.long q1), .second, .val (.int (24 : Int32))] [(.int (81 : Int32)), (.ref o0), (.ref w1_buf)])) _
    refine XT.dupX1 X58.here hx rfl (hb hby d6_22) rfl rfl rfl ?_
    show Steps p.tables e below (T58.setTop (mkF m 23 #[.val (.ref o0), .val (.long q1), .second, .val (.int (24 : Int32))] [(.int (81 : Int32)), (.ref o0), (.int (81 : Int32)), (.ref w1_buf)])) _
    refine XT.iconstV X58.here hx rfl (1 : Int32) (hb hby d6_23) (by decide) ?_
    show Steps p.tables e below (T58.setTop (mkF m 24 #[.val (.ref o0), .val (.long q1), .second, .val (.int (24 : Int32))] [(.int (1 : Int32)), (.int (81 : Int32)), (.ref o0), (.int (81 : Int32)), (.ref w1_buf)])) _
    refine XS.iadd X58.here hx rfl (hb hby d6_24) rfl ?_
    show Steps p.tables e below (T58.setTop (mkF m 25 #[.val (.ref o0), .val (.long q1), .second, .val (.int (24 : Int32))] [(.int (82 : Int32)), (.ref o0), (.int (81 : Int32)), (.ref w1_buf)])) _
    refine st60 _ ?_
    show Steps p.tables e below (T60.setTop (mkF m 28 #[.val (.ref o0), .val (.long q1), .second, .val (.int (24 : Int32))] [(.int (81 : Int32)), (.ref w1_buf)])) _
    refine XT.lloadN X60.here hx rfl (hb hby d6_28) rfl ?_
    show Steps p.tables e below (T60.setTop (mkF m 29 #[.val (.ref o0), .val (.long q1), .second, .val (.int (24 : Int32))] [(.long q1), (.int (81 : Int32)), (.ref w1_buf)])) _
    refine XS.iloadN X60.here hx rfl (hb hby d6_29) rfl ?_
    show Steps p.tables e below (T60.setTop (mkF m 30 #[.val (.ref o0), .val (.long q1), .second, .val (.int (24 : Int32))] [(.int (24 : Int32)), (.long q1), (.int (81 : Int32)), (.ref w1_buf)])) _
    refine XT.lushr X60.here hx rfl (hb hby d6_30) rfl ?_
    show Steps p.tables e below (T60.setTop (mkF m 31 #[.val (.ref o0), .val (.long q1), .second, .val (.int (24 : Int32))] [(.long (XT.ushrL q1 (24 : Int32))), (.int (81 : Int32)), (.ref w1_buf)])) _
    refine XT.l2i X60.here hx rfl (hb hby d6_31) rfl ?_
    show Steps p.tables e below (T60.setTop (mkF m 32 #[.val (.ref o0), .val (.long q1), .second, .val (.int (24 : Int32))] [(.int ((XT.ushrL q1 (24 : Int32)).toInt32)), (.int (81 : Int32)), (.ref w1_buf)])) _
    refine XT.i2b X60.here hx rfl (hb hby d6_32) rfl ?_
    show Steps p.tables e below (T60.setTop (mkF m 33 #[.val (.ref o0), .val (.long q1), .second, .val (.int (24 : Int32))] [(.int (((XT.ushrL q1 (24 : Int32)).toInt32).toInt8.toInt32)), (.int (81 : Int32)), (.ref w1_buf)])) _
    refine st66 _ ?_
    show Steps p.tables e below (T66.setTop (mkF m 34 #[.val (.ref o0), .val (.long q1), .second, .val (.int (24 : Int32))] [])) _
    refine XT.iincV X66.here hx rfl (-8 : Int32) (hb hby d6_34) (by decide) rfl (l' := #[.val (.ref o0), .val (.long q1), .second, .val (.int (16 : Int32))]) rfl ?_
    show Steps p.tables e below (T66.setTop (mkF m 37 #[.val (.ref o0), .val (.long q1), .second, .val (.int (16 : Int32))] [])) _
    refine XS.goto X66.here hx rfl (pc0 := 37) (pc' := 9) rfl (hb hby d6_37) (by decide) (by decide) ?_
    show Steps p.tables e below (T66.setTop (mkF m 9 #[.val (.ref o0), .val (.long q1), .second, .val (.int (16 : Int32))] [])) _
    refine XS.iloadN X66.here hx rfl (hb hby d6_9) rfl ?_
    show Steps p.tables e below (T66.setTop (mkF m 10 #[.val (.ref o0), .val (.long q1), .second, .val (.int (16 : Int32))] [(.int (16 : Int32))])) _
    refine XS.ifNo X66.here hx rfl (hb hby d6_10) rfl (XT.i0_lt_f (by decide)) ?_
    show Steps p.tables e below (T66.setTop (mkF m 13 #[.val (.ref o0), .val (.long q1), .second, .val (.int (16 : Int32))] [])) _
    refine XS.aloadN X66.here hx rfl (hb hby d6_13) rfl rfl ?_
    show Steps p.tables e below (T66.setTop (mkF m 14 #[.val (.ref o0), .val (.long q1), .second, .val (.int (16 : Int32))] [(.ref o0)])) _
    refine st70 _ ?_
    show Steps p.tables e below (T70.setTop (mkF m 17 #[.val (.ref o0), .val (.long q1), .second, .val (.int (16 : Int32))] [(.ref w1_buf)])) _
    refine XS.aloadN X70.here hx rfl (hb hby d6_17) rfl rfl ?_
    show Steps p.tables e below (T70.setTop (mkF m 18 #[.val (.ref o0), .val (.long q1), .second, .val (.int (16 : Int32))] [(.ref o0), (.ref w1_buf)])) _
    refine XS.dup X70.here hx rfl (hb hby d6_18) rfl rfl ?_
    show Steps p.tables e below (T70.setTop (mkF m 19 #[.val (.ref o0), .val (.long q1), .second, .val (.int (16 : Int32))] [(.ref o0), (.ref o0), (.ref w1_buf)])) _
    refine st72 _ ?_
    show Steps p.tables e below (T72.setTop (mkF m 22 #[.val (.ref o0), .val (.long q1), .second, .val (.int (16 : Int32))] [(.int (82 : Int32)), (.ref o0), (.ref w1_buf)])) _
    refine XT.dupX1 X72.here hx rfl (hb hby d6_22) rfl rfl rfl ?_
    show Steps p.tables e below (T72.setTop (mkF m 23 #[.val (.ref o0), .val (.long q1), .second, .val (.int (16 : Int32))] [(.int (82 : Int32)), (.ref o0), (.int (82 : Int32)), (.ref w1_buf)])) _
    refine XT.iconstV X72.here hx rfl (1 : Int32) (hb hby d6_23) (by decide) ?_
    show Steps p.tables e below (T72.setTop (mkF m 24 #[.val (.ref o0), .val (.long q1), .second, .val (.int (16 : Int32))] [(.int (1 : Int32)), (.int (82 : Int32)), (.ref o0), (.int (82 : Int32)), (.ref w1_buf)])) _
    refine XS.iadd X72.here hx rfl (hb hby d6_24) rfl ?_
    show Steps p.tables e below (T72.setTop (mkF m 25 #[.val (.ref o0), .val (.long q1), .second, .val (.int (16 : Int32))] [(.int (83 : Int32)), (.ref o0), (.int (82 : Int32)), (.ref w1_buf)])) _
    refine st74 _ ?_
    show Steps p.tables e below (T74.setTop (mkF m 28 #[.val (.ref o0), .val (.long q1), .second, .val (.int (16 : Int32))] [(.int (82 : Int32)), (.ref w1_buf)])) _
    refine XT.lloadN X74.here hx rfl (hb hby d6_28) rfl ?_
    show Steps p.tables e below (T74.setTop (mkF m 29 #[.val (.ref o0), .val (.long q1), .second, .val (.int (16 : Int32))] [(.long q1), (.int (82 : Int32)), (.ref w1_buf)])) _
    refine XS.iloadN X74.here hx rfl (hb hby d6_29) rfl ?_
    show Steps p.tables e below (T74.setTop (mkF m 30 #[.val (.ref o0), .val (.long q1), .second, .val (.int (16 : Int32))] [(.int (16 : Int32)), (.long q1), (.int (82 : Int32)), (.ref w1_buf)])) _
    refine XT.lushr X74.here hx rfl (hb hby d6_30) rfl ?_
    show Steps p.tables e below (T74.setTop (mkF m 31 #[.val (.ref o0), .val (.long q1), .second, .val (.int (16 : Int32))] [(.long (XT.ushrL q1 (16 : Int32))), (.int (82 : Int32)), (.ref w1_buf)])) _
    refine XT.l2i X74.here hx rfl (hb hby d6_31) rfl ?_
    show Steps p.tables e below (T74.setTop (mkF m 32 #[.val (.ref o0), .val (.long q1), .second, .val (.int (16 : Int32))] [(.int ((XT.ushrL q1 (16 : Int32)).toInt32)), (.int (82 : Int32)), (.ref w1_buf)])) _
    refine XT.i2b X74.here hx rfl (hb hby d6_32) rfl ?_
    show Steps p.tables e below (T74.setTop (mkF m 33 #[.val (.ref o0), .val (.long q1), .second, .val (.int (16 : Int32))] [(.int (((XT.ushrL q1 (16 : Int32)).toInt32).toInt8.toInt32)), (.int (82 : Int32)), (.ref w1_buf)])) _
    refine st80 _ ?_
    show Steps p.tables e below (T80.setTop (mkF m 34 #[.val (.ref o0), .val (.long q1), .second, .val (.int (16 : Int32))] [])) _
    refine XT.iincV X80.here hx rfl (-8 : Int32) (hb hby d6_34) (by decide) rfl (l' := #[.val (.ref o0), .val (.long q1), .second, .val (.int (8 : Int32))]) rfl ?_
    show Steps p.tables e below (T80.setTop (mkF m 37 #[.val (.ref o0), .val (.long q1), .second, .val (.int (8 : Int32))] [])) _
    refine XS.goto X80.here hx rfl (pc0 := 37) (pc' := 9) rfl (hb hby d6_37) (by decide) (by decide) ?_
    show Steps p.tables e below (T80.setTop (mkF m 9 #[.val (.ref o0), .val (.long q1), .second, .val (.int (8 : Int32))] [])) _
    refine XS.iloadN X80.here hx rfl (hb hby d6_9) rfl ?_
    show Steps p.tables e below (T80.setTop (mkF m 10 #[.val (.ref o0), .val (.long q1), .second, .val (.int (8 : Int32))] [(.int (8 : Int32))])) _
    refine XS.ifNo X80.here hx rfl (hb hby d6_10) rfl (XT.i0_lt_f (by decide)) ?_
    show Steps p.tables e below (T80.setTop (mkF m 13 #[.val (.ref o0), .val (.long q1), .second, .val (.int (8 : Int32))] [])) _
    refine XS.aloadN X80.here hx rfl (hb hby d6_13) rfl rfl ?_
    show Steps p.tables e below (T80.setTop (mkF m 14 #[.val (.ref o0), .val (.long q1), .second, .val (.int (8 : Int32))] [(.ref o0)])) _
    refine st84 _ ?_
    show Steps p.tables e below (T84.setTop (mkF m 17 #[.val (.ref o0), .val (.long q1), .second, .val (.int (8 : Int32))] [(.ref w1_buf)])) _
    refine XS.aloadN X84.here hx rfl (hb hby d6_17) rfl rfl ?_
    show Steps p.tables e below (T84.setTop (mkF m 18 #[.val (.ref o0), .val (.long q1), .second, .val (.int (8 : Int32))] [(.ref o0), (.ref w1_buf)])) _
    refine XS.dup X84.here hx rfl (hb hby d6_18) rfl rfl ?_
    show Steps p.tables e below (T84.setTop (mkF m 19 #[.val (.ref o0), .val (.long q1), .second, .val (.int (8 : Int32))] [(.ref o0), (.ref o0), (.ref w1_buf)])) _
    refine st86 _ ?_
    show Steps p.tables e below (T86.setTop (mkF m 22 #[.val (.ref o0), .val (.long q1), .second, .val (.int (8 : Int32))] [(.int (83 : Int32)), (.ref o0), (.ref w1_buf)])) _
    refine XT.dupX1 X86.here hx rfl (hb hby d6_22) rfl rfl rfl ?_
    show Steps p.tables e below (T86.setTop (mkF m 23 #[.val (.ref o0), .val (.long q1), .second, .val (.int (8 : Int32))] [(.int (83 : Int32)), (.ref o0), (.int (83 : Int32)), (.ref w1_buf)])) _
    refine XT.iconstV X86.here hx rfl (1 : Int32) (hb hby d6_23) (by decide) ?_
    show Steps p.tables e below (T86.setTop (mkF m 24 #[.val (.ref o0), .val (.long q1), .second, .val (.int (8 : Int32))] [(.int (1 : Int32)), (.int (83 : Int32)), (.ref o0), (.int (83 : Int32)), (.ref w1_buf)])) _
    refine XS.iadd X86.here hx rfl (hb hby d6_24) rfl ?_
    show Steps p.tables e below (T86.setTop (mkF m 25 #[.val (.ref o0), .val (.long q1), .second, .val (.int (8 : Int32))] [(.int (84 : Int32)), (.ref o0), (.int (83 : Int32)), (.ref w1_buf)])) _
    refine st88 _ ?_
    show Steps p.tables e below (T88.setTop (mkF m 28 #[.val (.ref o0), .val (.long q1), .second, .val (.int (8 : Int32))] [(.int (83 : Int32)), (.ref w1_buf)])) _
    refine XT.lloadN X88.here hx rfl (hb hby d6_28) rfl ?_
    show Steps p.tables e below (T88.setTop (mkF m 29 #[.val (.ref o0), .val (.long q1), .second, .val (.int (8 : Int32))] [(.long q1), (.int (83 : Int32)), (.ref w1_buf)])) _
    refine XS.iloadN X88.here hx rfl (hb hby d6_29) rfl ?_
    show Steps p.tables e below (T88.setTop (mkF m 30 #[.val (.ref o0), .val (.long q1), .second, .val (.int (8 : Int32))] [(.int (8 : Int32)), (.long q1), (.int (83 : Int32)), (.ref w1_buf)])) _
    refine XT.lushr X88.here hx rfl (hb hby d6_30) rfl ?_
    show Steps p.tables e below (T88.setTop (mkF m 31 #[.val (.ref o0), .val (.long q1), .second, .val (.int (8 : Int32))] [(.long (XT.ushrL q1 (8 : Int32))), (.int (83 : Int32)), (.ref w1_buf)])) _
    refine XT.l2i X88.here hx rfl (hb hby d6_31) rfl ?_
    show Steps p.tables e below (T88.setTop (mkF m 32 #[.val (.ref o0), .val (.long q1), .second, .val (.int (8 : Int32))] [(.int ((XT.ushrL q1 (8 : Int32)).toInt32)), (.int (83 : Int32)), (.ref w1_buf)])) _
    refine XT.i2b X88.here hx rfl (hb hby d6_32) rfl ?_
    show Steps p.tables e below (T88.setTop (mkF m 33 #[.val (.ref o0), .val (.long q1), .second, .val (.int (8 : Int32))] [(.int (((XT.ushrL q1 (8 : Int32)).toInt32).toInt8.toInt32)), (.int (83 : Int32)), (.ref w1_buf)])) _
    refine st94 _ ?_
    show Steps p.tables e below (T94.setTop (mkF m 34 #[.val (.ref o0), .val (.long q1), .second, .val (.int (8 : Int32))] [])) _
    refine XT.iincV X94.here hx rfl (-8 : Int32) (hb hby d6_34) (by decide) rfl (l' := #[.val (.ref o0), .val (.long q1), .second, .val (.int (0 : Int32))]) rfl ?_
    show Steps p.tables e below (T94.setTop (mkF m 37 #[.val (.ref o0), .val (.long q1), .second, .val (.int (0 : Int32))] [])) _
    refine XS.goto X94.here hx rfl (pc0 := 37) (pc' := 9) rfl (hb hby d6_37) (by decide) (by decide) ?_
    show Steps p.tables e below (T94.setTop (mkF m 9 #[.val (.ref o0), .val (.long q1), .second, .val (.int (0 : Int32))] [])) _
    refine XS.iloadN X94.here hx rfl (hb hby d6_9) rfl ?_
    show Steps p.tables e below (T94.setTop (mkF m 10 #[.val (.ref o0), .val (.long q1), .second, .val (.int (0 : Int32))] [(.int (0 : Int32))])) _
    refine XS.ifNo X94.here hx rfl (hb hby d6_10) rfl (XT.i0_lt_f (by decide)) ?_
    show Steps p.tables e below (T94.setTop (mkF m 13 #[.val (.ref o0), .val (.long q1), .second, .val (.int (0 : Int32))] [])) _
    refine XS.aloadN X94.here hx rfl (hb hby d6_13) rfl rfl ?_
    show Steps p.tables e below (T94.setTop (mkF m 14 #[.val (.ref o0), .val (.long q1), .second, .val (.int (0 : Int32))] [(.ref o0)])) _
    refine st98 _ ?_
    show Steps p.tables e below (T98.setTop (mkF m 17 #[.val (.ref o0), .val (.long q1), .second, .val (.int (0 : Int32))] [(.ref w1_buf)])) _
    refine XS.aloadN X98.here hx rfl (hb hby d6_17) rfl rfl ?_
    show Steps p.tables e below (T98.setTop (mkF m 18 #[.val (.ref o0), .val (.long q1), .second, .val (.int (0 : Int32))] [(.ref o0), (.ref w1_buf)])) _
    refine XS.dup X98.here hx rfl (hb hby d6_18) rfl rfl ?_
    show Steps p.tables e below (T98.setTop (mkF m 19 #[.val (.ref o0), .val (.long q1), .second, .val (.int (0 : Int32))] [(.ref o0), (.ref o0), (.ref w1_buf)])) _
    refine st100 _ ?_
    show Steps p.tables e below (T100.setTop (mkF m 22 #[.val (.ref o0), .val (.long q1), .second, .val (.int (0 : Int32))] [(.int (84 : Int32)), (.ref o0), (.ref w1_buf)])) _
    refine XT.dupX1 X100.here hx rfl (hb hby d6_22) rfl rfl rfl ?_
    show Steps p.tables e below (T100.setTop (mkF m 23 #[.val (.ref o0), .val (.long q1), .second, .val (.int (0 : Int32))] [(.int (84 : Int32)), (.ref o0), (.int (84 : Int32)), (.ref w1_buf)])) _
    refine XT.iconstV X100.here hx rfl (1 : Int32) (hb hby d6_23) (by decide) ?_
    show Steps p.tables e below (T100.setTop (mkF m 24 #[.val (.ref o0), .val (.long q1), .second, .val (.int (0 : Int32))] [(.int (1 : Int32)), (.int (84 : Int32)), (.ref o0), (.int (84 : Int32)), (.ref w1_buf)])) _
    refine XS.iadd X100.here hx rfl (hb hby d6_24) rfl ?_
    show Steps p.tables e below (T100.setTop (mkF m 25 #[.val (.ref o0), .val (.long q1), .second, .val (.int (0 : Int32))] [(.int (85 : Int32)), (.ref o0), (.int (84 : Int32)), (.ref w1_buf)])) _
    refine st102 _ ?_
    show Steps p.tables e below (T102.setTop (mkF m 28 #[.val (.ref o0), .val (.long q1), .second, .val (.int (0 : Int32))] [(.int (84 : Int32)), (.ref w1_buf)])) _
    refine XT.lloadN X102.here hx rfl (hb hby d6_28) rfl ?_
    show Steps p.tables e below (T102.setTop (mkF m 29 #[.val (.ref o0), .val (.long q1), .second, .val (.int (0 : Int32))] [(.long q1), (.int (84 : Int32)), (.ref w1_buf)])) _
    refine XS.iloadN X102.here hx rfl (hb hby d6_29) rfl ?_
    show Steps p.tables e below (T102.setTop (mkF m 30 #[.val (.ref o0), .val (.long q1), .second, .val (.int (0 : Int32))] [(.int (0 : Int32)), (.long q1), (.int (84 : Int32)), (.ref w1_buf)])) _
    refine XT.lushr X102.here hx rfl (hb hby d6_30) rfl ?_
    show Steps p.tables e below (T102.setTop (mkF m 31 #[.val (.ref o0), .val (.long q1), .second, .val (.int (0 : Int32))] [(.long (XT.ushrL q1 (0 : Int32))), (.int (84 : Int32)), (.ref w1_buf)])) _
    refine XT.l2i X102.here hx rfl (hb hby d6_31) rfl ?_
    show Steps p.tables e below (T102.setTop (mkF m 32 #[.val (.ref o0), .val (.long q1), .second, .val (.int (0 : Int32))] [(.int ((XT.ushrL q1 (0 : Int32)).toInt32)), (.int (84 : Int32)), (.ref w1_buf)])) _
    refine XT.i2b X102.here hx rfl (hb hby d6_32) rfl ?_
    show Steps p.tables e below (T102.setTop (mkF m 33 #[.val (.ref o0), .val (.long q1), .second, .val (.int (0 : Int32))] [(.int (((XT.ushrL q1 (0 : Int32)).toInt32).toInt8.toInt32)), (.int (84 : Int32)), (.ref w1_buf)])) _
    refine st108 _ ?_
    show Steps p.tables e below (T108.setTop (mkF m 34 #[.val (.ref o0), .val (.long q1), .second, .val (.int (0 : Int32))] [])) _
    refine XT.iincV X108.here hx rfl (-8 : Int32) (hb hby d6_34) (by decide) rfl (l' := #[.val (.ref o0), .val (.long q1), .second, .val (.int (-8 : Int32))]) rfl ?_
    show Steps p.tables e below (T108.setTop (mkF m 37 #[.val (.ref o0), .val (.long q1), .second, .val (.int (-8 : Int32))] [])) _
    refine XS.goto X108.here hx rfl (pc0 := 37) (pc' := 9) rfl (hb hby d6_37) (by decide) (by decide) ?_
    show Steps p.tables e below (T108.setTop (mkF m 9 #[.val (.ref o0), .val (.long q1), .second, .val (.int (-8 : Int32))] [])) _
    refine XS.iloadN X108.here hx rfl (hb hby d6_9) rfl ?_
    show Steps p.tables e below (T108.setTop (mkF m 10 #[.val (.ref o0), .val (.long q1), .second, .val (.int (-8 : Int32))] [(.int (-8 : Int32))])) _
    refine XS.ifYes X108.here hx rfl (pc0 := 10) (pc' := 40) rfl (hb hby d6_10) rfl (XT.i0_lt_t (by decide)) (by decide) (by decide) ?_
    show Steps p.tables e below (T108.setTop (mkF m 40 #[.val (.ref o0), .val (.long q1), .second, .val (.int (-8 : Int32))] [])) _
    refine XS.aloadN X108.here hx rfl (hb hby d6_40) rfl rfl ?_
    show Steps p.tables e below (T108.setTop (mkF m 41 #[.val (.ref o0), .val (.long q1), .second, .val (.int (-8 : Int32))] [(.ref o0)])) _
    exact X108.areturnOut hx rfl Bd.returns rfl (hb hby d6_41) hr
  · skip
    show Qnu77 Z o0 q1 w1_buf u0 u1 u2 u3 u4 u5 u6 u7 u8 u9 u10 u11 u12 u13 u14 u15 u16 u17 u18 u19 u20 u21 u22 u23 u24 u25 u26 u27 u28 u29 u30 u31 u32 u33 u34 u35 u36 u37 u38 u39 u40 u41 u42 u43 u44 u45 u46 u47 u48 u49 u50 u51 u52 u53 u54 u55 u56 u57 u58 u59 u60 u61 u62 u63 u64 u65 u66 u67 u68 u69 u70 u71 u72 u73 u74 u75 u76 u77 u78 u79 u80 u81 u82 u83 u84 u85 u86 u87 u88 u89 u90 u91 u92 u93 u94 u95 u96 u97 u98 u99 u100 u101 u102 u103 u104 u105 u106 u107 u108 u109 u110 u111 u112 u113 u114 u115 u116 u117 u118 u119 u120 u121 u122 u123 u124 u125 u126 u127 kA h0 n0 _ T108.heap _
    rw [e108]
    have k111 := ((k101.wr W102).wr W108)
    have k112 := (Fw102.other W108 (Or.inl (Ne.symm ne_w1_buf_o0)))
    have k113 := ((k97.other W102 (Or.inr (slot_ne (Or.inl (hw _ (List.mem_of_getElem? (i := 11) rfl))) (Or.inl (hw _ (List.mem_of_getElem? (i := 18) rfl))) (by decide) (t := (.array .byte)) (t' := .int) (by decide) (by decide)))).other W108 (Or.inl (Ne.symm ne_w1_buf_o0)))
    exact ⟨N108, rfl, (((((((((((((((((Keep.refl h0 [o0, w1_buf]).wr W4 (Or.inl (List.mem_of_getElem? (i := 0) rfl))).wr W10 (Or.inl (List.mem_of_getElem? (i := 1) rfl))).wr W18 (Or.inl (List.mem_of_getElem? (i := 0) rfl))).wr W24 (Or.inl (List.mem_of_getElem? (i := 1) rfl))).wr W32 (Or.inl (List.mem_of_getElem? (i := 0) rfl))).wr W38 (Or.inl (List.mem_of_getElem? (i := 1) rfl))).wr W46 (Or.inl (List.mem_of_getElem? (i := 0) rfl))).wr W52 (Or.inl (List.mem_of_getElem? (i := 1) rfl))).wr W60 (Or.inl (List.mem_of_getElem? (i := 0) rfl))).wr W66 (Or.inl (List.mem_of_getElem? (i := 1) rfl))).wr W74 (Or.inl (List.mem_of_getElem? (i := 0) rfl))).wr W80 (Or.inl (List.mem_of_getElem? (i := 1) rfl))).wr W88 (Or.inl (List.mem_of_getElem? (i := 0) rfl))).wr W94 (Or.inl (List.mem_of_getElem? (i := 1) rfl))).wr W102 (Or.inl (List.mem_of_getElem? (i := 0) rfl))).wr W108 (Or.inl (List.mem_of_getElem? (i := 1) rfl))), k111, k112, k113, V108⟩
theorem d8_0 : decode prog_35_method_4_code 0 = .ok (.aload_n 0, 1) := by decide +kernel
theorem d8_1 : decode prog_35_method_4_code 1 = .ok (.iconst 1, 1) := by decide +kernel
theorem d8_2 : decode prog_35_method_4_code 2 = .ok (.invokevirtual 28, 3) := by decide +kernel
theorem d8_5 : decode prog_35_method_4_code 5 = .ok (.aload_n 0, 1) := by decide +kernel
theorem d8_6 : decode prog_35_method_4_code 6 = .ok (.getfield 7, 3) := by decide +kernel
theorem d8_9 : decode prog_35_method_4_code 9 = .ok (.aload_n 0, 1) := by decide +kernel
theorem d8_10 : decode prog_35_method_4_code 10 = .ok (.dup, 1) := by decide +kernel
theorem d8_11 : decode prog_35_method_4_code 11 = .ok (.getfield 34, 3) := by decide +kernel
theorem d8_14 : decode prog_35_method_4_code 14 = .ok (.dup_x1, 1) := by decide +kernel
theorem d8_15 : decode prog_35_method_4_code 15 = .ok (.iconst 1, 1) := by decide +kernel
theorem d8_16 : decode prog_35_method_4_code 16 = .ok (.iadd, 1) := by decide +kernel
theorem d8_17 : decode prog_35_method_4_code 17 = .ok (.putfield 34, 3) := by decide +kernel
theorem d8_20 : decode prog_35_method_4_code 20 = .ok (.iload_n 1, 1) := by decide +kernel
theorem d8_21 : decode prog_35_method_4_code 21 = .ok (.ifCond .eq 7, 3) := by decide +kernel
theorem d8_24 : decode prog_35_method_4_code 24 = .ok (.iconst 1, 1) := by decide +kernel
theorem d8_25 : decode prog_35_method_4_code 25 = .ok (.goto 4, 3) := by decide +kernel
theorem d8_28 : decode prog_35_method_4_code 28 = .ok (.iconst 0, 1) := by decide +kernel
theorem d8_29 : decode prog_35_method_4_code 29 = .ok (.i2b, 1) := by decide +kernel
theorem d8_30 : decode prog_35_method_4_code 30 = .ok (.bastore, 1) := by decide +kernel
theorem d8_31 : decode prog_35_method_4_code 31 = .ok (.aload_n 0, 1) := by decide +kernel
theorem d8_32 : decode prog_35_method_4_code 32 = .ok (.areturn, 1) := by decide +kernel
theorem ef_8 (m : MethodId) (o0 : Addr) (p1 : Int32) : entryFrame m #[(.ref o0), (.int p1)] 2 = mkF m 0 #[.val (.ref o0), .val (.int p1)] [] := by first | (simp [entryFrame, mkF, argsToLocals, Value.category]; done) | rfl
def v8_1 (p1 : Int32) : Int32 := (if p1 = (0 : Int32) then (0 : Int32) else (1 : Int32))
def v8_2 (p1 : Int32) : Int32 := ((v8_1 p1).toInt8.toInt32)
def Q8 (Z : State) (o0 : Addr) (p1 : Int32) (w1_buf : Addr) (u0 : Value) (u1 : Value) (u2 : Value) (u3 : Value) (u4 : Value) (u5 : Value) (u6 : Value) (u7 : Value) (u8 : Value) (u9 : Value) (u10 : Value) (u11 : Value) (u12 : Value) (u13 : Value) (u14 : Value) (u15 : Value) (u16 : Value) (u17 : Value) (u18 : Value) (u19 : Value) (u20 : Value) (u21 : Value) (u22 : Value) (u23 : Value) (u24 : Value) (u25 : Value) (u26 : Value) (u27 : Value) (u28 : Value) (u29 : Value) (u30 : Value) (u31 : Value) (u32 : Value) (u33 : Value) (u34 : Value) (u35 : Value) (u36 : Value) (u37 : Value) (u38 : Value) (u39 : Value) (u40 : Value) (u41 : Value) (u42 : Value) (u43 : Value) (u44 : Value) (u45 : Value) (u46 : Value) (u47 : Value) (u48 : Value) (u49 : Value) (u50 : Value) (u51 : Value) (u52 : Value) (u53 : Value) (u54 : Value) (u55 : Value) (u56 : Value) (u57 : Value) (u58 : Value) (u59 : Value) (u60 : Value) (u61 : Value) (u62 : Value) (u63 : Value) (kA : ClassId) (h0 : Heap) (n0 : Nat) (v : Option Value) (h : Heap) (L : List Loc) : Prop := Fr n0 L ∧ v = some (.ref o0) ∧ Keep h0 h [o0, w1_buf] ∧ Exa Z h o0 "com/example/dispatch_by_catalog/dispatchbycatalog/store/RecordWriter" ∧ Fld Z h o0 "com/example/dispatch_by_catalog/dispatchbycatalog/store/RecordWriter" "size" "I" (.int (9 : Int32)) ∧ Fld Z h o0 "com/example/dispatch_by_catalog/dispatchbycatalog/store/RecordWriter" "written" "[B" (.ref w1_buf) ∧ Arv Z h w1_buf kA .byte (64 : Int32) [u0, u1, u2, u3, u4, u5, u6, u7, (.int (nar .byte (v8_2 p1))), u9, u10, u11, u12, u13, u14, u15, u16, u17, u18, u19, u20, u21, u22, u23, u24, u25, u26, u27, u28, u29, u30, u31, u32, u33, u34, u35, u36, u37, u38, u39, u40, u41, u42, u43, u44, u45, u46, u47, u48, u49, u50, u51, u52, u53, u54, u55, u56, u57, u58, u59, u60, u61, u62, u63] (.int (0 : Int32))
set_option maxRecDepth 65536 in
set_option maxHeartbeats 40000000 in
theorem rm8 (l : Launch) (Z : State) (a0 : Array Value) (hw : ∀ d ∈ tables_1, d.before a0 Z = true) (ws : List Jvm.Cond) (o0 : Addr) (p1 : Int32) (w1_buf : Addr) (u0 : Value) (u1 : Value) (u2 : Value) (u3 : Value) (u4 : Value) (u5 : Value) (u6 : Value) (u7 : Value) (u8 : Value) (u9 : Value) (u10 : Value) (u11 : Value) (u12 : Value) (u13 : Value) (u14 : Value) (u15 : Value) (u16 : Value) (u17 : Value) (u18 : Value) (u19 : Value) (u20 : Value) (u21 : Value) (u22 : Value) (u23 : Value) (u24 : Value) (u25 : Value) (u26 : Value) (u27 : Value) (u28 : Value) (u29 : Value) (u30 : Value) (u31 : Value) (u32 : Value) (u33 : Value) (u34 : Value) (u35 : Value) (u36 : Value) (u37 : Value) (u38 : Value) (u39 : Value) (u40 : Value) (u41 : Value) (u42 : Value) (u43 : Value) (u44 : Value) (u45 : Value) (u46 : Value) (u47 : Value) (u48 : Value) (u49 : Value) (u50 : Value) (u51 : Value) (u52 : Value) (u53 : Value) (u54 : Value) (u55 : Value) (u56 : Value) (u57 : Value) (u58 : Value) (u59 : Value) (u60 : Value) (u61 : Value) (u62 : Value) (u63 : Value) (kA : ClassId) (h0 : Heap) (n0 : Nat) (Z0 : n0 ≤ h0.size) (E_o0 : Exa Z h0 o0 "com/example/dispatch_by_catalog/dispatchbycatalog/store/RecordWriter") (F_size_o0 : Fld Z h0 o0 "com/example/dispatch_by_catalog/dispatchbycatalog/store/RecordWriter" "size" "I" (.int (8 : Int32))) (F_written_o0 : Fld Z h0 o0 "com/example/dispatch_by_catalog/dispatchbycatalog/store/RecordWriter" "written" "[B" (.ref w1_buf)) (V_w1_buf : Arv Z h0 w1_buf kA .byte (64 : Int32) [u0, u1, u2, u3, u4, u5, u6, u7, u8, u9, u10, u11, u12, u13, u14, u15, u16, u17, u18, u19, u20, u21, u22, u23, u24, u25, u26, u27, u28, u29, u30, u31, u32, u33, u34, u35, u36, u37, u38, u39, u40, u41, u42, u43, u44, u45, u46, u47, u48, u49, u50, u51, u52, u53, u54, u55, u56, u57, u58, u59, u60, u61, u62, u63] (.int (0 : Int32))) (g_o0 : n0 ≤ o0) (ne_w1_buf_o0 : w1_buf ≠ o0) (g_w1_buf : n0 ≤ w1_buf) :
    MetFree l (⟨"com/example/dispatch_by_catalog/dispatchbycatalog/store/RecordWriter", "flag", "(Z)Lcom/example/dispatch_by_catalog/dispatchbycatalog/store/RecordWriter;"⟩ : MethodName) (head1 (Jvm.Cond.code (⟨"com/example/dispatch_by_catalog/dispatchbycatalog/store/RecordWriter", "flag", "(Z)Lcom/example/dispatch_by_catalog/dispatchbycatalog/store/RecordWriter;"⟩ : MethodName) prog_35_method_4_code 2 (some (.object "com/example/dispatch_by_catalog/dispatchbycatalog/store/RecordWriter")) :: ws) ({ frames := 1, cells := 0, slots := 0, locals := 13 } : Room)) (fun a U => a = #[(.ref o0), (.int p1)] ∧ Z.Warmed39 U.vm ∧ U.heap = h0) (fun _ _ _ _ _ => True) (fun _ U o U' => ∃ v L, o = .returned v ∧ Q8 Z o0 p1 w1_buf u0 u1 u2 u3 u4 u5 u6 u7 u8 u9 u10 u11 u12 u13 u14 u15 u16 u17 u18 u19 u20 u21 u22 u23 u24 u25 u26 u27 u28 u29 u30 u31 u32 u33 u34 u35 u36 u37 u38 u39 u40 u41 u42 u43 u44 u45 u46 u47 u48 u49 u50 u51 u52 u53 u54 u55 u56 u57 u58 u59 u60 u61 u62 u63 kA h0 n0 v U'.heap L ∧ FrameEnd U o U' L ({ frames := 1, cells := 0, slots := 0, locals := 13 } : Room).cells ({ frames := 1, cells := 0, slots := 0, locals := 13 } : Room).slots) := by
  refine MetFree.of_bodySF (plainFor_of_name pn_com_example_dispatch_by_catalog_dispatchbycatalog_store_RecordWriter) hisR ?_
  intro p e s m args below meth c s₁ Bd hml0 hP hK
  obtain ⟨rfl, hZ, hh⟩ := hP
  have hx := Bd.exec
  have hby := Bd.bytes
  have hml : c.maxLocals = 2 := hml0
  have hown : s.vm.findClass "com/example/dispatch_by_catalog/dispatchbycatalog/store/RecordWriter" = some m.cls := findClass_of_methodNamed Bd.named
  have hnm := (name_of_methodNamed Bd.named Bd.method).1
  have hlk := BodyLoose.notSynchronized Bd
  have X0 : Stand p l e ({ frames := 1, cells := 0, slots := 0, locals := 13 } : Room) s m #[(.ref o0), (.int p1)] below meth c s₁ [] 0 0 := Stand.of_body Bd
  have e0 : s₁.heap = h0 := by rw [← hh, Bd.state]; rfl
  have N0 := Fr.nil n0
  have pre0 : ∀ t, Steps p.tables e below (s₁.setTop (mkF m 0 #[.val (.ref o0), .val (.int p1)] [])) t → Steps p.tables e below (s₁.setTop (entryFrame m #[(.ref o0), (.int p1)] 2)) t := fun t k => castTop (ef_8 m o0 p1) k
  obtain ⟨cq1, qp1, qp1'⟩ := E_o0.cell
  obtain ⟨ci1, ki1, hi1a, hi1b, -, hi1c, -, -⟩ := Cond.instantiable_spec (mv hZ (hw _ (List.mem_of_getElem? (i := 1) rfl)) (args := #[]))
  obtain ⟨vr1, _, ⟨T1, L1, k1, n1⟩, -, X1, ⟨Lc1, hQ1, l1, y1, z1⟩, st1⟩ := X0.privateBack hx (y := (⟨"com/example/dispatch_by_catalog/dispatchbycatalog/store/RecordWriter", "room", "(I)V"⟩ : MethodName)) hown (mvT hZ (hw _ (List.mem_of_getElem? (i := 36) rfl))) (mvT hZ (hw _ (List.mem_of_getElem? (i := 37) rfl))) (Jvm.Stand.selects_self_of_private hi1a hi1b (Bool.or_eq_false_iff.mp hi1c).1 (Cond.privateMethod_at (mvP hZ (hw _ (List.mem_of_getElem? (i := 38) rfl)) (args := #[]))) (mvT hZ (hw _ (List.mem_of_getElem? (i := 37) rfl))) (by decide)) (Cond.privateMethod_at (mvP hZ (hw _ (List.mem_of_getElem? (i := 38) rfl)) (args := #[]))) (mvT hZ (hw _ (List.mem_of_getElem? (i := 39) rfl))) (by decide) (backOf (W := 0) (rmrm8_1 l Z a0 hw [] o0 w1_buf u0 u1 u2 u3 u4 u5 u6 u7 u8 u9 u10 u11 u12 u13 u14 u15 u16 u17 u18 u19 u20 u21 u22 u23 u24 u25 u26 u27 u28 u29 u30 u31 u32 u33 u34 u35 u36 u37 u38 u39 u40 u41 u42 u43 u44 u45 u46 u47 u48 u49 u50 u51 u52 u53 u54 u55 u56 u57 u58 u59 u60 u61 u62 u63 kA h0 n0 Z0 E_o0 F_size_o0 F_written_o0 V_w1_buf) hZ (hw _ (List.mem_of_getElem? (i := 39) rfl)) (hw _ (List.mem_of_getElem? (i := 2) rfl)) (by decide) (by decide)) (g := (mkF m 2 #[.val (.ref o0), .val (.int p1)] [(.int (1 : Int32)), (.ref o0)])) rfl (by rw [hml]; rfl) (Steps.refl _) (a := o0) (by rw [e0]; exact qp1) qp1' (argsL := [(.int (1 : Int32))]) (rest := []) (lenOf pd__I_V rfl) rfl (by show 2 * 0 + _ ≤ _; exact Nat.le_of_eq rfl) (hb hby d8_2) (fun _ _ => ⟨rfl, e0, (by decide : 0 + 0 ≤ _), (by decide : 0 + 0 ≤ _)⟩)
  dsimp only [Pt.U, Pt.locs, Pt.cells, Pt.slots] at X1 l1 y1 z1 st1 hQ1
  subst l1 y1 z1
  have N1q := (show _ ∧ _ ∧ _ from hQ1).1
  have hv1 := (show _ ∧ _ ∧ _ from hQ1).2.1
  have e1 := (show _ ∧ _ ∧ _ from hQ1).2.2
  clear hQ1
  subst hv1
  have N1 := Fr.app N0 N1q
  obtain ⟨T2, X2, e2, st2⟩ := getF X1 hx hZ hown (host := "") (Or.inl (hw _ (List.mem_of_getElem? (i := 10) rfl))) Via.refl e1 F_written_o0 (g := (mkF m 6 #[.val (.ref o0), .val (.int p1)] [(.ref o0)])) rfl rfl (hb hby d8_6)
  obtain ⟨T3, X3, e3, st3⟩ := getF X2 hx hZ hown (host := "") (Or.inl (hw _ (List.mem_of_getElem? (i := 17) rfl))) Via.refl e2 F_size_o0 (g := (mkF m 11 #[.val (.ref o0), .val (.int p1)] [(.ref o0), (.ref o0), (.ref w1_buf)])) rfl rfl (hb hby d8_11)
  obtain ⟨T4, h4, X4, e4, W4, st4⟩ := putF X3 hx hZ hown (host := "") (Or.inl (hw _ (List.mem_of_getElem? (i := 17) rfl))) Via.refl e3 F_size_o0 E_o0 (Or.inl (hw _ (List.mem_of_getElem? (i := 18) rfl))) (hw _ (List.mem_of_getElem? (i := 1) rfl)) (ty := .int) (by decide) rfl rfl (g := (mkF m 17 #[.val (.ref o0), .val (.int p1)] [(.int (9 : Int32)), (.ref o0), (.int (8 : Int32)), (.ref w1_buf)])) rfl rfl (hb hby d8_17)
  have Fw4 := F_size_o0.same W4
  have N4 := Fr.snoc X4 N1 g_o0
  have z5 : n0 ≤ h4.size := Nat.le_trans Z0 (Keep.of_wr W4).1
  have hs6 : h0.size ≤ h4.size := Nat.le_trans (Nat.le_refl h0.size) (Keep.of_wr W4).1
  have pre7 : ∀ t, Steps p.tables e below (T4.setTop (mkF m 21 #[.val (.ref o0), .val (.int p1)] [(.int p1), (.int (8 : Int32)), (.ref w1_buf)])) t → Steps p.tables e below (s₁.setTop (entryFrame m #[(.ref o0), (.int p1)] 2)) t := by
    intro t k
    refine pre0 t ?_
    show Steps p.tables e below (s₁.setTop (mkF m 0 #[.val (.ref o0), .val (.int p1)] [])) _
    refine XS.aloadN X0.here hx rfl (hb hby d8_0) rfl rfl ?_
    show Steps p.tables e below (s₁.setTop (mkF m 1 #[.val (.ref o0), .val (.int p1)] [(.ref o0)])) _
    refine XT.iconstV X0.here hx rfl (1 : Int32) (hb hby d8_1) (by decide) ?_
    show Steps p.tables e below (s₁.setTop (mkF m 2 #[.val (.ref o0), .val (.int p1)] [(.int (1 : Int32)), (.ref o0)])) _
    refine st1.trans ?_
    show Steps p.tables e below (T1.setTop (mkF m 5 #[.val (.ref o0), .val (.int p1)] [])) _
    refine XS.aloadN X1.here hx rfl (hb hby d8_5) rfl rfl ?_
    show Steps p.tables e below (T1.setTop (mkF m 6 #[.val (.ref o0), .val (.int p1)] [(.ref o0)])) _
    refine st2 _ ?_
    show Steps p.tables e below (T2.setTop (mkF m 9 #[.val (.ref o0), .val (.int p1)] [(.ref w1_buf)])) _
    refine XS.aloadN X2.here hx rfl (hb hby d8_9) rfl rfl ?_
    show Steps p.tables e below (T2.setTop (mkF m 10 #[.val (.ref o0), .val (.int p1)] [(.ref o0), (.ref w1_buf)])) _
    refine XS.dup X2.here hx rfl (hb hby d8_10) rfl rfl ?_
    show Steps p.tables e below (T2.setTop (mkF m 11 #[.val (.ref o0), .val (.int p1)] [(.ref o0), (.ref o0), (.ref w1_buf)])) _
    refine st3 _ ?_
    show Steps p.tables e below (T3.setTop (mkF m 14 #[.val (.ref o0), .val (.int p1)] [(.int (8 : Int32)), (.ref o0), (.ref w1_buf)])) _
    refine XT.dupX1 X3.here hx rfl (hb hby d8_14) rfl rfl rfl ?_
    show Steps p.tables e below (T3.setTop (mkF m 15 #[.val (.ref o0), .val (.int p1)] [(.int (8 : Int32)), (.ref o0), (.int (8 : Int32)), (.ref w1_buf)])) _
    refine XT.iconstV X3.here hx rfl (1 : Int32) (hb hby d8_15) (by decide) ?_
    show Steps p.tables e below (T3.setTop (mkF m 16 #[.val (.ref o0), .val (.int p1)] [(.int (1 : Int32)), (.int (8 : Int32)), (.ref o0), (.int (8 : Int32)), (.ref w1_buf)])) _
    refine XS.iadd X3.here hx rfl (hb hby d8_16) rfl ?_
    show Steps p.tables e below (T3.setTop (mkF m 17 #[.val (.ref o0), .val (.int p1)] [(.int (9 : Int32)), (.ref o0), (.int (8 : Int32)), (.ref w1_buf)])) _
    refine st4 _ ?_
    show Steps p.tables e below (T4.setTop (mkF m 20 #[.val (.ref o0), .val (.int p1)] [(.int (8 : Int32)), (.ref w1_buf)])) _
    refine XS.iloadN X4.here hx rfl (hb hby d8_20) rfl ?_
    exact k
  clear pre0 st1 st2 st3 st4
  have pre9 : ∀ t, Steps p.tables e below (T4.setTop (mkF m 29 #[.val (.ref o0), .val (.int p1)] [(.int (v8_1 p1)), (.int (8 : Int32)), (.ref w1_buf)])) t → Steps p.tables e below (s₁.setTop (entryFrame m #[(.ref o0), (.int p1)] 2)) t := by
    intro t k
    by_cases c8 : p1 = (0 : Int32)
    · skip
      rw [show (v8_1 p1) = (0 : Int32) from (if_pos c8)] at k
      refine pre7 t ?_
      show Steps p.tables e below (T4.setTop (mkF m 21 #[.val (.ref o0), .val (.int p1)] [(.int p1), (.int (8 : Int32)), (.ref w1_buf)])) _
      refine XS.ifYes X4.here hx rfl (pc0 := 21) (pc' := 28) rfl (hb hby d8_21) rfl (XT.i0_eq_t c8) (by decide) (by decide) ?_
      show Steps p.tables e below (T4.setTop (mkF m 28 #[.val (.ref o0), .val (.int p1)] [(.int (8 : Int32)), (.ref w1_buf)])) _
      refine XT.iconstV X4.here hx rfl (0 : Int32) (hb hby d8_28) (by decide) ?_
      exact k
    · skip
      rw [show (v8_1 p1) = (1 : Int32) from (if_neg c8)] at k
      refine pre7 t ?_
      show Steps p.tables e below (T4.setTop (mkF m 21 #[.val (.ref o0), .val (.int p1)] [(.int p1), (.int (8 : Int32)), (.ref w1_buf)])) _
      refine XS.ifNo X4.here hx rfl (hb hby d8_21) rfl (XT.i0_eq_f c8) ?_
      show Steps p.tables e below (T4.setTop (mkF m 24 #[.val (.ref o0), .val (.int p1)] [(.int (8 : Int32)), (.ref w1_buf)])) _
      refine XT.iconstV X4.here hx rfl (1 : Int32) (hb hby d8_24) (by decide) ?_
      show Steps p.tables e below (T4.setTop (mkF m 25 #[.val (.ref o0), .val (.int p1)] [(.int (1 : Int32)), (.int (8 : Int32)), (.ref w1_buf)])) _
      refine XS.goto X4.here hx rfl (pc0 := 25) (pc' := 29) rfl (hb hby d8_25) (by decide) (by decide) ?_
      exact k
  have k10 := (V_w1_buf.other W4 ne_w1_buf_o0)
  obtain ⟨cl11, Ar11, qc11, S11, M11, Ha11, G11⟩ := id k10
  have hin12 : ¬ ((8 : Int32) < 0 ∨ cl11.slots.size ≤ ((8 : Int32)).toNatClampNeg) := inb_of S11 ⟨by decide, by decide⟩
  obtain ⟨T13, h13, X13, e13, W13, st13⟩ := stB X4 hx hZ e4 Ar11 (j := (8 : Int32)) hin12 (g := (mkF m 30 #[.val (.ref o0), .val (.int p1)] [(.int ((v8_1 p1).toInt8.toInt32)), (.int (8 : Int32)), (.ref w1_buf)])) rfl rfl (hb hby d8_30)
  have V13 : Arv Z h13 w1_buf kA .byte (64 : Int32) [u0, u1, u2, u3, u4, u5, u6, u7, (.int (nar .byte (v8_2 p1))), u9, u10, u11, u12, u13, u14, u15, u16, u17, u18, u19, u20, u21, u22, u23, u24, u25, u26, u27, u28, u29, u30, u31, u32, u33, u34, u35, u36, u37, u38, u39, u40, u41, u42, u43, u44, u45, u46, u47, u48, u49, u50, u51, u52, u53, u54, u55, u56, u57, u58, u59, u60, u61, u62, u63] (.int (0 : Int32)) := Arv.set Ar11 qc11 S11 M11 Ha11 G11 (fits_nar_byte (v8_2 p1)) W13 8 rfl (Nat.le_of_ble_eq_true rfl)
  have N13 := Fr.snoc X13 N4 g_w1_buf
  have z14 : n0 ≤ h13.size := Nat.le_trans z5 (Keep.of_wr W13).1
  have hs15 : h0.size ≤ h13.size := Nat.le_trans hs6 (Keep.of_wr W13).1
  obtain ⟨fs, hr, hrun, hended, hW, hsame⟩ := X13.leave (v := some (.ref o0)) (fun h => by rw [Bd.returns] at h; cases h) hlk
  refine ⟨_, _, pre9 _ ?_, hrun, hended, _, _, rfl, ?_, ⟨_, rfl⟩, hW, hsame.mono (by decide) (by decide)⟩
  · skip
    show Steps p.tables e below (T4.setTop (mkF m 29 #[.val (.ref o0), .val (.int p1)] [(.int (v8_1 p1)), (.int (8 : Int32)), (.ref w1_buf)])) _
    refine XT.i2b X4.here hx rfl (hb hby d8_29) rfl ?_
    show Steps p.tables e below (T4.setTop (mkF m 30 #[.val (.ref o0), .val (.int p1)] [(.int ((v8_1 p1).toInt8.toInt32)), (.int (8 : Int32)), (.ref w1_buf)])) _
    refine st13 _ ?_
    show Steps p.tables e below (T13.setTop (mkF m 31 #[.val (.ref o0), .val (.int p1)] [])) _
    refine XS.aloadN X13.here hx rfl (hb hby d8_31) rfl rfl ?_
    show Steps p.tables e below (T13.setTop (mkF m 32 #[.val (.ref o0), .val (.int p1)] [(.ref o0)])) _
    exact X13.areturnOut hx rfl Bd.returns rfl (hb hby d8_32) hr
  · skip
    show Q8 Z o0 p1 w1_buf u0 u1 u2 u3 u4 u5 u6 u7 u8 u9 u10 u11 u12 u13 u14 u15 u16 u17 u18 u19 u20 u21 u22 u23 u24 u25 u26 u27 u28 u29 u30 u31 u32 u33 u34 u35 u36 u37 u38 u39 u40 u41 u42 u43 u44 u45 u46 u47 u48 u49 u50 u51 u52 u53 u54 u55 u56 u57 u58 u59 u60 u61 u62 u63 kA h0 n0 _ T13.heap _
    rw [e13]
    have k16 := ((E_o0.wr W4).wr W13)
    have k17 := (Fw4.other W13 (Or.inl (Ne.symm ne_w1_buf_o0)))
    have k18 := ((F_written_o0.other W4 (Or.inr (slot_ne (Or.inl (hw _ (List.mem_of_getElem? (i := 11) rfl))) (Or.inl (hw _ (List.mem_of_getElem? (i := 18) rfl))) (by decide) (t := (.array .byte)) (t' := .int) (by decide) (by decide)))).other W13 (Or.inl (Ne.symm ne_w1_buf_o0)))
    exact ⟨N13, rfl, (((Keep.refl h0 [o0, w1_buf]).wr W4 (Or.inl (List.mem_of_getElem? (i := 0) rfl))).wr W13 (Or.inl (List.mem_of_getElem? (i := 1) rfl))), k16, k17, k18, V13⟩
theorem pd_h962988 : parseMethodDescriptor "(J)Lcom/example/dispatch_by_catalog/dispatchbycatalog/store/RecordWriter;" = some ⟨[.long], some (.object "com/example/dispatch_by_catalog/dispatchbycatalog/store/RecordWriter")⟩ := by decide +kernel
theorem d10_0 : decode prog_35_method_6_code 0 = .ok (.aload_n 0, 1) := by decide +kernel
theorem d10_1 : decode prog_35_method_6_code 1 = .ok (.aload_n 1, 1) := by decide +kernel
theorem d10_2 : decode prog_35_method_6_code 2 = .ok (.arraylength, 1) := by decide +kernel
theorem d10_3 : decode prog_35_method_6_code 3 = .ok (.i2l, 1) := by decide +kernel
theorem d10_4 : decode prog_35_method_6_code 4 = .ok (.invokevirtual 19, 3) := by decide +kernel
theorem d10_7 : decode prog_35_method_6_code 7 = .ok (.pop, 1) := by decide +kernel
theorem d10_8 : decode prog_35_method_6_code 8 = .ok (.aload_n 0, 1) := by decide +kernel
theorem d10_9 : decode prog_35_method_6_code 9 = .ok (.aload_n 1, 1) := by decide +kernel
theorem d10_10 : decode prog_35_method_6_code 10 = .ok (.arraylength, 1) := by decide +kernel
theorem d10_11 : decode prog_35_method_6_code 11 = .ok (.invokevirtual 28, 3) := by decide +kernel
theorem d10_14 : decode prog_35_method_6_code 14 = .ok (.aload_n 1, 1) := by decide +kernel
theorem d10_15 : decode prog_35_method_6_code 15 = .ok (.iconst 0, 1) := by decide +kernel
theorem d10_16 : decode prog_35_method_6_code 16 = .ok (.aload_n 0, 1) := by decide +kernel
theorem d10_17 : decode prog_35_method_6_code 17 = .ok (.getfield 7, 3) := by decide +kernel
theorem d10_20 : decode prog_35_method_6_code 20 = .ok (.aload_n 0, 1) := by decide +kernel
theorem d10_21 : decode prog_35_method_6_code 21 = .ok (.getfield 34, 3) := by decide +kernel
theorem d10_24 : decode prog_35_method_6_code 24 = .ok (.aload_n 1, 1) := by decide +kernel
theorem d10_25 : decode prog_35_method_6_code 25 = .ok (.arraylength, 1) := by decide +kernel
theorem d10_26 : decode prog_35_method_6_code 26 = .ok (.invokestatic 54, 3) := by decide +kernel
theorem d10_29 : decode prog_35_method_6_code 29 = .ok (.aload_n 0, 1) := by decide +kernel
theorem d10_30 : decode prog_35_method_6_code 30 = .ok (.dup, 1) := by decide +kernel
theorem d10_31 : decode prog_35_method_6_code 31 = .ok (.getfield 34, 3) := by decide +kernel
theorem d10_34 : decode prog_35_method_6_code 34 = .ok (.aload_n 1, 1) := by decide +kernel
theorem d10_35 : decode prog_35_method_6_code 35 = .ok (.arraylength, 1) := by decide +kernel
theorem d10_36 : decode prog_35_method_6_code 36 = .ok (.iadd, 1) := by decide +kernel
theorem d10_37 : decode prog_35_method_6_code 37 = .ok (.putfield 34, 3) := by decide +kernel
theorem d10_40 : decode prog_35_method_6_code 40 = .ok (.aload_n 0, 1) := by decide +kernel
theorem d10_41 : decode prog_35_method_6_code 41 = .ok (.areturn, 1) := by decide +kernel
theorem ef_10 (m : MethodId) (o0 : Addr) (o1 : Addr) : entryFrame m #[(.ref o0), (.ref o1)] 2 = mkF m 0 #[.val (.ref o0), .val (.ref o1)] [] := by first | (simp [entryFrame, mkF, argsToLocals, Value.category]; done) | rfl
def v10_1 : Int64 := ((60 : Int32).toInt64)
def Q10 (Z : State) (o0 : Addr) (o1 : Addr) (w1_buf : Addr) (u0 : Value) (u1 : Value) (u2 : Value) (u3 : Value) (u4 : Value) (u5 : Value) (u6 : Value) (u7 : Value) (u8 : Value) (u9 : Value) (u10 : Value) (u11 : Value) (u12 : Value) (u13 : Value) (u14 : Value) (u15 : Value) (u16 : Value) (u17 : Value) (u18 : Value) (u19 : Value) (u20 : Value) (u21 : Value) (u22 : Value) (u23 : Value) (u24 : Value) (u25 : Value) (u26 : Value) (u27 : Value) (u28 : Value) (u29 : Value) (u30 : Value) (u31 : Value) (u32 : Value) (u33 : Value) (u34 : Value) (u35 : Value) (u36 : Value) (u37 : Value) (u38 : Value) (u39 : Value) (u40 : Value) (u41 : Value) (u42 : Value) (u43 : Value) (u44 : Value) (u45 : Value) (u46 : Value) (u47 : Value) (u48 : Value) (u49 : Value) (u50 : Value) (u51 : Value) (u52 : Value) (u53 : Value) (u54 : Value) (u55 : Value) (u56 : Value) (u57 : Value) (u58 : Value) (u59 : Value) (u60 : Value) (u61 : Value) (u62 : Value) (u63 : Value) (kA : ClassId) (u200 : Value) (u201 : Value) (u202 : Value) (u203 : Value) (u204 : Value) (u205 : Value) (u206 : Value) (u207 : Value) (u208 : Value) (u209 : Value) (u210 : Value) (u211 : Value) (u212 : Value) (u213 : Value) (u214 : Value) (u215 : Value) (u216 : Value) (u217 : Value) (u218 : Value) (u219 : Value) (u220 : Value) (u221 : Value) (u222 : Value) (u223 : Value) (u224 : Value) (u225 : Value) (u226 : Value) (u227 : Value) (u228 : Value) (u229 : Value) (u230 : Value) (u231 : Value) (u232 : Value) (u233 : Value) (u234 : Value) (u235 : Value) (u236 : Value) (u237 : Value) (u238 : Value) (u239 : Value) (u240 : Value) (u241 : Value) (u242 : Value) (u243 : Value) (u244 : Value) (u245 : Value) (u246 : Value) (u247 : Value) (u248 : Value) (u249 : Value) (u250 : Value) (u251 : Value) (u252 : Value) (u253 : Value) (u254 : Value) (u255 : Value) (u256 : Value) (u257 : Value) (u258 : Value) (u259 : Value) (kB : ClassId) (h0 : Heap) (n0 : Nat) (v : Option Value) (h : Heap) (L : List Loc) : Prop := Fr n0 L ∧ ∃ (x10_0 : Addr) (k10_1 : ClassId), v = some (.ref o0) ∧ h0.size ≤ x10_0 ∧ Keep h0 h [o0, w1_buf] ∧ Exa Z h o0 "com/example/dispatch_by_catalog/dispatchbycatalog/store/RecordWriter" ∧ Fld Z h o0 "com/example/dispatch_by_catalog/dispatchbycatalog/store/RecordWriter" "size" "I" (.int (77 : Int32)) ∧ Fld Z h o0 "com/example/dispatch_by_catalog/dispatchbycatalog/store/RecordWriter" "written" "[B" (.ref x10_0) ∧ Arv Z h w1_buf kA .byte (64 : Int32) [u0, u1, u2, u3, u4, u5, u6, u7, u8, (.int (nar .byte (vnu9_1 v10_1))), (.int (nar .byte (vnu9_2 v10_1))), (.int (nar .byte (vnu9_3 v10_1))), (.int (nar .byte (vnu9_4 v10_1))), (.int (nar .byte (vnu9_5 v10_1))), (.int (nar .byte (vnu9_6 v10_1))), (.int (nar .byte (vnu9_7 v10_1))), (.int (nar .byte (vnu9_8 v10_1))), u17, u18, u19, u20, u21, u22, u23, u24, u25, u26, u27, u28, u29, u30, u31, u32, u33, u34, u35, u36, u37, u38, u39, u40, u41, u42, u43, u44, u45, u46, u47, u48, u49, u50, u51, u52, u53, u54, u55, u56, u57, u58, u59, u60, u61, u62, u63] (.int (0 : Int32)) ∧ Arv Z h x10_0 k10_1 .byte (128 : Int32) [u0, u1, u2, u3, u4, u5, u6, u7, u8, (.int (nar .byte (vnu9_1 v10_1))), (.int (nar .byte (vnu9_2 v10_1))), (.int (nar .byte (vnu9_3 v10_1))), (.int (nar .byte (vnu9_4 v10_1))), (.int (nar .byte (vnu9_5 v10_1))), (.int (nar .byte (vnu9_6 v10_1))), (.int (nar .byte (vnu9_7 v10_1))), (.int (nar .byte (vnu9_8 v10_1))), u200, u201, u202, u203, u204, u205, u206, u207, u208, u209, u210, u211, u212, u213, u214, u215, u216, u217, u218, u219, u220, u221, u222, u223, u224, u225, u226, u227, u228, u229, u230, u231, u232, u233, u234, u235, u236, u237, u238, u239, u240, u241, u242, u243, u244, u245, u246, u247, u248, u249, u250, u251, u252, u253, u254, u255, u256, u257, u258, u259, (.int (0 : Int32)), (.int (0 : Int32)), (.int (0 : Int32)), (.int (0 : Int32)), (.int (0 : Int32)), (.int (0 : Int32)), (.int (0 : Int32)), (.int (0 : Int32)), (.int (0 : Int32)), (.int (0 : Int32)), (.int (0 : Int32)), (.int (0 : Int32)), (.int (0 : Int32)), (.int (0 : Int32)), (.int (0 : Int32)), (.int (0 : Int32)), (.int (0 : Int32)), (.int (0 : Int32)), (.int (0 : Int32)), (.int (0 : Int32)), (.int (0 : Int32)), (.int (0 : Int32)), (.int (0 : Int32)), (.int (0 : Int32)), (.int (0 : Int32)), (.int (0 : Int32)), (.int (0 : Int32)), (.int (0 : Int32)), (.int (0 : Int32)), (.int (0 : Int32)), (.int (0 : Int32)), (.int (0 : Int32)), (.int (0 : Int32)), (.int (0 : Int32)), (.int (0 : Int32)), (.int (0 : Int32)), (.int (0 : Int32)), (.int (0 : Int32)), (.int (0 : Int32)), (.int (0 : Int32)), (.int (0 : Int32)), (.int (0 : Int32)), (.int (0 : Int32)), (.int (0 : Int32)), (.int (0 : Int32)), (.int (0 : Int32)), (.int (0 : Int32)), (.int (0 : Int32)), (.int (0 : Int32)), (.int (0 : Int32)), (.int (0 : Int32))] (.int (0 : Int32))
set_option maxRecDepth 65536 in
set_option maxHeartbeats 40000000 in
theorem rm10 (l : Launch) (Z : State) (a0 : Array Value) (hw : ∀ d ∈ tables_1, d.before a0 Z = true) (ws : List Jvm.Cond) (o0 : Addr) (o1 : Addr) (w1_buf : Addr) (u0 : Value) (u1 : Value) (u2 : Value) (u3 : Value) (u4 : Value) (u5 : Value) (u6 : Value) (u7 : Value) (u8 : Value) (u9 : Value) (u10 : Value) (u11 : Value) (u12 : Value) (u13 : Value) (u14 : Value) (u15 : Value) (u16 : Value) (u17 : Value) (u18 : Value) (u19 : Value) (u20 : Value) (u21 : Value) (u22 : Value) (u23 : Value) (u24 : Value) (u25 : Value) (u26 : Value) (u27 : Value) (u28 : Value) (u29 : Value) (u30 : Value) (u31 : Value) (u32 : Value) (u33 : Value) (u34 : Value) (u35 : Value) (u36 : Value) (u37 : Value) (u38 : Value) (u39 : Value) (u40 : Value) (u41 : Value) (u42 : Value) (u43 : Value) (u44 : Value) (u45 : Value) (u46 : Value) (u47 : Value) (u48 : Value) (u49 : Value) (u50 : Value) (u51 : Value) (u52 : Value) (u53 : Value) (u54 : Value) (u55 : Value) (u56 : Value) (u57 : Value) (u58 : Value) (u59 : Value) (u60 : Value) (u61 : Value) (u62 : Value) (u63 : Value) (kA : ClassId) (u200 : Value) (u201 : Value) (u202 : Value) (u203 : Value) (u204 : Value) (u205 : Value) (u206 : Value) (u207 : Value) (u208 : Value) (u209 : Value) (u210 : Value) (u211 : Value) (u212 : Value) (u213 : Value) (u214 : Value) (u215 : Value) (u216 : Value) (u217 : Value) (u218 : Value) (u219 : Value) (u220 : Value) (u221 : Value) (u222 : Value) (u223 : Value) (u224 : Value) (u225 : Value) (u226 : Value) (u227 : Value) (u228 : Value) (u229 : Value) (u230 : Value) (u231 : Value) (u232 : Value) (u233 : Value) (u234 : Value) (u235 : Value) (u236 : Value) (u237 : Value) (u238 : Value) (u239 : Value) (u240 : Value) (u241 : Value) (u242 : Value) (u243 : Value) (u244 : Value) (u245 : Value) (u246 : Value) (u247 : Value) (u248 : Value) (u249 : Value) (u250 : Value) (u251 : Value) (u252 : Value) (u253 : Value) (u254 : Value) (u255 : Value) (u256 : Value) (u257 : Value) (u258 : Value) (u259 : Value) (kB : ClassId) (h0 : Heap) (n0 : Nat) (Z0 : n0 ≤ h0.size) (E_o0 : Exa Z h0 o0 "com/example/dispatch_by_catalog/dispatchbycatalog/store/RecordWriter") (F_size_o0 : Fld Z h0 o0 "com/example/dispatch_by_catalog/dispatchbycatalog/store/RecordWriter" "size" "I" (.int (9 : Int32))) (F_written_o0 : Fld Z h0 o0 "com/example/dispatch_by_catalog/dispatchbycatalog/store/RecordWriter" "written" "[B" (.ref w1_buf)) (V_w1_buf : Arv Z h0 w1_buf kA .byte (64 : Int32) [u0, u1, u2, u3, u4, u5, u6, u7, u8, u9, u10, u11, u12, u13, u14, u15, u16, u17, u18, u19, u20, u21, u22, u23, u24, u25, u26, u27, u28, u29, u30, u31, u32, u33, u34, u35, u36, u37, u38, u39, u40, u41, u42, u43, u44, u45, u46, u47, u48, u49, u50, u51, u52, u53, u54, u55, u56, u57, u58, u59, u60, u61, u62, u63] (.int (0 : Int32))) (V_o1 : Arv Z h0 o1 kB .byte (60 : Int32) [u200, u201, u202, u203, u204, u205, u206, u207, u208, u209, u210, u211, u212, u213, u214, u215, u216, u217, u218, u219, u220, u221, u222, u223, u224, u225, u226, u227, u228, u229, u230, u231, u232, u233, u234, u235, u236, u237, u238, u239, u240, u241, u242, u243, u244, u245, u246, u247, u248, u249, u250, u251, u252, u253, u254, u255, u256, u257, u258, u259] (.int (0 : Int32))) (g_o0 : n0 ≤ o0) (ne_w1_buf_o0 : w1_buf ≠ o0) (g_w1_buf : n0 ≤ w1_buf) (ne_o1_w1_buf : o1 ≠ w1_buf) (ne_o1_o0 : o1 ≠ o0) :
    MetFree l (⟨"com/example/dispatch_by_catalog/dispatchbycatalog/store/RecordWriter", "bytes", "([B)Lcom/example/dispatch_by_catalog/dispatchbycatalog/store/RecordWriter;"⟩ : MethodName) (head1 (Jvm.Cond.code (⟨"com/example/dispatch_by_catalog/dispatchbycatalog/store/RecordWriter", "bytes", "([B)Lcom/example/dispatch_by_catalog/dispatchbycatalog/store/RecordWriter;"⟩ : MethodName) prog_35_method_6_code 2 (some (.object "com/example/dispatch_by_catalog/dispatchbycatalog/store/RecordWriter")) :: ws) ({ frames := 3, cells := 1, slots := 128, locals := 46 } : Room)) (fun a U => a = #[(.ref o0), (.ref o1)] ∧ Z.Warmed39 U.vm ∧ U.heap = h0) (fun _ _ _ _ _ => True) (fun _ U o U' => ∃ v L, o = .returned v ∧ Q10 Z o0 o1 w1_buf u0 u1 u2 u3 u4 u5 u6 u7 u8 u9 u10 u11 u12 u13 u14 u15 u16 u17 u18 u19 u20 u21 u22 u23 u24 u25 u26 u27 u28 u29 u30 u31 u32 u33 u34 u35 u36 u37 u38 u39 u40 u41 u42 u43 u44 u45 u46 u47 u48 u49 u50 u51 u52 u53 u54 u55 u56 u57 u58 u59 u60 u61 u62 u63 kA u200 u201 u202 u203 u204 u205 u206 u207 u208 u209 u210 u211 u212 u213 u214 u215 u216 u217 u218 u219 u220 u221 u222 u223 u224 u225 u226 u227 u228 u229 u230 u231 u232 u233 u234 u235 u236 u237 u238 u239 u240 u241 u242 u243 u244 u245 u246 u247 u248 u249 u250 u251 u252 u253 u254 u255 u256 u257 u258 u259 kB h0 n0 v U'.heap L ∧ FrameEnd U o U' L ({ frames := 3, cells := 1, slots := 128, locals := 46 } : Room).cells ({ frames := 3, cells := 1, slots := 128, locals := 46 } : Room).slots) := by
  refine MetFree.of_bodySF (plainFor_of_name pn_com_example_dispatch_by_catalog_dispatchbycatalog_store_RecordWriter) hisR ?_
  intro p e s m args below meth c s₁ Bd hml0 hP hK
  obtain ⟨rfl, hZ, hh⟩ := hP
  have hx := Bd.exec
  have hby := Bd.bytes
  have hml : c.maxLocals = 2 := hml0
  have hown : s.vm.findClass "com/example/dispatch_by_catalog/dispatchbycatalog/store/RecordWriter" = some m.cls := findClass_of_methodNamed Bd.named
  have hnm := (name_of_methodNamed Bd.named Bd.method).1
  have hlk := BodyLoose.notSynchronized Bd
  have X0 : Stand p l e ({ frames := 3, cells := 1, slots := 128, locals := 46 } : Room) s m #[(.ref o0), (.ref o1)] below meth c s₁ [] 0 0 := Stand.of_body Bd
  have e0 : s₁.heap = h0 := by rw [← hh, Bd.state]; rfl
  have N0 := Fr.nil n0
  have pre0 : ∀ t, Steps p.tables e below (s₁.setTop (mkF m 0 #[.val (.ref o0), .val (.ref o1)] [])) t → Steps p.tables e below (s₁.setTop (entryFrame m #[(.ref o0), (.ref o1)] 2)) t := fun t k => castTop (ef_10 m o0 o1) k
  obtain ⟨cl1, Ar1, qc1, S1, M1, Ha1, G1⟩ := id V_o1
  obtain ⟨cq2, kq2, q2a, q2b, q2c⟩ := isOf hZ e0 E_o0
  obtain ⟨vr2, _, ⟨T2, L2, k2, n2⟩, -, X2, ⟨Lc2, hQ2, l2, y2, z2⟩, st2⟩ := X0.virtualBack hx (y := (⟨"com/example/dispatch_by_catalog/dispatchbycatalog/store/RecordWriter", "number", "(J)Lcom/example/dispatch_by_catalog/dispatchbycatalog/store/RecordWriter;"⟩ : MethodName)) (z := (⟨"com/example/dispatch_by_catalog/dispatchbycatalog/store/RecordWriter", "number", "(J)Lcom/example/dispatch_by_catalog/dispatchbycatalog/store/RecordWriter;"⟩ : MethodName)) hown (mvT hZ (hw _ (List.mem_of_getElem? (i := 54) rfl))) (mvT hZ (hw _ (List.mem_of_getElem? (i := 32) rfl))) (notFace_of_selects (args := #[]) (mvT hZ (hw _ (List.mem_of_getElem? (i := 34) rfl)))) (mvT hZ (hw _ (List.mem_of_getElem? (i := 34) rfl))) (mvT hZ (hw _ (List.mem_of_getElem? (i := 33) rfl))) (by decide) (backOf (W := 0) (rmnu9 l Z a0 hw [] o0 v10_1 w1_buf u0 u1 u2 u3 u4 u5 u6 u7 u8 u9 u10 u11 u12 u13 u14 u15 u16 u17 u18 u19 u20 u21 u22 u23 u24 u25 u26 u27 u28 u29 u30 u31 u32 u33 u34 u35 u36 u37 u38 u39 u40 u41 u42 u43 u44 u45 u46 u47 u48 u49 u50 u51 u52 u53 u54 u55 u56 u57 u58 u59 u60 u61 u62 u63 kA h0 n0 Z0 E_o0 F_size_o0 F_written_o0 V_w1_buf g_o0 ne_w1_buf_o0 g_w1_buf) hZ (hw _ (List.mem_of_getElem? (i := 35) rfl)) (hw _ (List.mem_of_getElem? (i := 2) rfl)) (by decide) (by decide)) q2a q2c (g := (mkF m 4 #[.val (.ref o0), .val (.ref o1)] [(.long v10_1), (.ref o0)])) rfl (by rw [hml]; rfl) (Steps.refl _) (argsL := [(.long v10_1)]) (rest := []) (lenOf pd_h962988 rfl) rfl (by show 2 * 0 + _ ≤ _; exact Nat.le_of_eq rfl) (hb hby d10_4) (fun _ _ => ⟨rfl, e0, (by decide : 0 + 0 ≤ _), (by decide : 0 + 0 ≤ _)⟩)
  dsimp only [Pt.U, Pt.locs, Pt.cells, Pt.slots] at X2 l2 y2 z2 st2 hQ2
  subst l2 y2 z2
  have N2q := (show _ ∧ _ from hQ2).1
  have hq2 := (show _ ∧ _ from hQ2).2
  clear hQ2
  have hv2 := hq2.1
  have K2 := hq2.2.1
  have po2_0 := hq2.2.2.1
  have po2_1 := hq2.2.2.2.1
  have po2_2 := hq2.2.2.2.2.1
  have po2_3 := hq2.2.2.2.2.2
  clear hq2
  subst hv2
  have z3 : n0 ≤ T2.heap.size := Nat.le_trans Z0 K2.1
  have hs4 : h0.size ≤ T2.heap.size := Nat.le_trans (Nat.le_refl h0.size) K2.1
  have N2 := Fr.app N0 N2q
  have k5 := (V_o1.keep K2 (ninS ne_o1_o0 (ninS ne_o1_w1_buf nin0)))
  obtain ⟨cl6, Ar6, qc6, S6, M6, Ha6, G6⟩ := id k5
  obtain ⟨cq7, qp7, qp7'⟩ := po2_0.cell
  obtain ⟨ci7, ki7, hi7a, hi7b, -, hi7c, -, -⟩ := Cond.instantiable_spec (mv hZ (hw _ (List.mem_of_getElem? (i := 1) rfl)) (args := #[]))
  obtain ⟨vr7, _, ⟨T7, L7, k7, n7⟩, -, X7, ⟨Lc7, hQ7, l7, y7, z7⟩, st7⟩ := X2.privateBack hx (y := (⟨"com/example/dispatch_by_catalog/dispatchbycatalog/store/RecordWriter", "room", "(I)V"⟩ : MethodName)) hown (mvT hZ (hw _ (List.mem_of_getElem? (i := 36) rfl))) (mvT hZ (hw _ (List.mem_of_getElem? (i := 37) rfl))) (Jvm.Stand.selects_self_of_private hi7a hi7b (Bool.or_eq_false_iff.mp hi7c).1 (Cond.privateMethod_at (mvP hZ (hw _ (List.mem_of_getElem? (i := 38) rfl)) (args := #[]))) (mvT hZ (hw _ (List.mem_of_getElem? (i := 37) rfl))) (by decide)) (Cond.privateMethod_at (mvP hZ (hw _ (List.mem_of_getElem? (i := 38) rfl)) (args := #[]))) (mvT hZ (hw _ (List.mem_of_getElem? (i := 39) rfl))) (by decide) (backOf (W := 0) (rmrm17_60 l Z a0 hw [] o0 w1_buf u0 u1 u2 u3 u4 u5 u6 u7 u8 (.int (nar .byte (vnu9_1 v10_1))) (.int (nar .byte (vnu9_2 v10_1))) (.int (nar .byte (vnu9_3 v10_1))) (.int (nar .byte (vnu9_4 v10_1))) (.int (nar .byte (vnu9_5 v10_1))) (.int (nar .byte (vnu9_6 v10_1))) (.int (nar .byte (vnu9_7 v10_1))) (.int (nar .byte (vnu9_8 v10_1))) u17 u18 u19 u20 u21 u22 u23 u24 u25 u26 u27 u28 u29 u30 u31 u32 u33 u34 u35 u36 u37 u38 u39 u40 u41 u42 u43 u44 u45 u46 u47 u48 u49 u50 u51 u52 u53 u54 u55 u56 u57 u58 u59 u60 u61 u62 u63 kA T2.heap n0 z3 po2_0 po2_1 po2_2 po2_3 g_o0) hZ (hw _ (List.mem_of_getElem? (i := 39) rfl)) (hw _ (List.mem_of_getElem? (i := 2) rfl)) (by decide) (by decide)) (g := (mkF m 11 #[.val (.ref o0), .val (.ref o1)] [(.int (60 : Int32)), (.ref o0)])) rfl (by rw [hml]; rfl) (Steps.refl _) (a := o0) qp7 qp7' (argsL := [(.int (60 : Int32))]) (rest := []) (lenOf pd__I_V rfl) rfl (by show 2 * 0 + _ ≤ _; exact Nat.le_of_eq rfl) (hb hby d10_11) (fun _ _ => ⟨rfl, rfl, (by decide : 0 + 1 ≤ _), (by decide : 0 + 128 ≤ _)⟩)
  dsimp only [Pt.U, Pt.locs, Pt.cells, Pt.slots] at X7 l7 y7 z7 st7 hQ7
  subst l7 y7 z7
  have N7q := (show _ ∧ _ from hQ7).1
  have hq7 := (show _ ∧ _ from hQ7).2
  clear hQ7
  obtain ⟨xrm17_60_0_7, krm17_60_1_7, hq7x⟩ := hq7
  have hv7 := hq7x.1
  have szxrm17_60_0_7 := hq7x.2.1
  have K7 := hq7x.2.2.1
  have po7_0 := hq7x.2.2.2.1
  have po7_1 := hq7x.2.2.2.2.1
  have po7_2 := hq7x.2.2.2.2.2.1
  have po7_3 := hq7x.2.2.2.2.2.2
  clear hq7x
  subst hv7
  have ne8 : o0 ≠ xrm17_60_0_7 := Nat.ne_of_lt (Nat.lt_of_lt_of_le po2_0.lt szxrm17_60_0_7)
  have ne9 : o1 ≠ xrm17_60_0_7 := Nat.ne_of_lt (Nat.lt_of_lt_of_le k5.lt szxrm17_60_0_7)
  have ne10 : w1_buf ≠ xrm17_60_0_7 := Nat.ne_of_lt (Nat.lt_of_lt_of_le po2_3.lt szxrm17_60_0_7)
  have g11 : n0 ≤ xrm17_60_0_7 := Nat.le_trans z3 szxrm17_60_0_7
  have sz12 : h0.size ≤ xrm17_60_0_7 := Nat.le_trans hs4 szxrm17_60_0_7
  have z13 : n0 ≤ T7.heap.size := Nat.le_trans z3 K7.1
  have hs14 : h0.size ≤ T7.heap.size := Nat.le_trans hs4 K7.1
  have N7 := Fr.app N2 N7q
  obtain ⟨T15, X15, e15, st15⟩ := getF X7 hx hZ hown (host := "") (Or.inl (hw _ (List.mem_of_getElem? (i := 10) rfl))) Via.refl rfl po7_2 (g := (mkF m 17 #[.val (.ref o0), .val (.ref o1)] [(.ref o0), (.int (0 : Int32)), (.ref o1)])) rfl rfl (hb hby d10_17)
  obtain ⟨T16, X16, e16, st16⟩ := getF X15 hx hZ hown (host := "") (Or.inl (hw _ (List.mem_of_getElem? (i := 17) rfl))) Via.refl e15 po7_1 (g := (mkF m 21 #[.val (.ref o0), .val (.ref o1)] [(.ref o0), (.ref xrm17_60_0_7), (.int (0 : Int32)), (.ref o1)])) rfl rfl (hb hby d10_21)
  have k17 := (k5.keep K7 (ninS ne_o1_o0 nin0))
  obtain ⟨cl18, Ar18, qc18, S18, M18, Ha18, G18⟩ := id k17
  obtain ⟨T19, h19, L19, X19, e19, N19, K19, V19r, st19⟩ := cpA X16 hx hZ hown (hw _ (List.mem_of_getElem? (i := 58) rfl)) (hw _ (List.mem_of_getElem? (i := 30) rfl)) (hw _ (List.mem_of_getElem? (i := 28) rfl)) (hw _ (List.mem_of_getElem? (i := 29) rfl)) e16 k17 po7_3 (us := [u200, u201, u202, u203, u204, u205, u206, u207, u208, u209, u210, u211, u212, u213, u214, u215, u216, u217, u218, u219, u220, u221, u222, u223, u224, u225, u226, u227, u228, u229, u230, u231, u232, u233, u234, u235, u236, u237, u238, u239, u240, u241, u242, u243, u244, u245, u246, u247, u248, u249, u250, u251, u252, u253, u254, u255, u256, u257, u258, u259]) (Or.inl ⟨rfl, rfl⟩) (by decide) (by decide) (by decide) (Nat.le_of_ble_eq_true rfl) (Nat.le_of_ble_eq_true rfl) rfl (Nat.le_of_ble_eq_true rfl) N7 g11 (g := (mkF m 26 #[.val (.ref o0), .val (.ref o1)] [(.int (60 : Int32)), (.int (17 : Int32)), (.ref xrm17_60_0_7), (.int (0 : Int32)), (.ref o1)])) rfl (by rw [hml]; rfl) rfl (hb hby d10_26) (by decide) (W := 0) (by show 2 * 0 + _ ≤ _; exact Nat.le_of_eq rfl) (by decide)
  have V19 : Arv Z h19 xrm17_60_0_7 krm17_60_1_7 .byte (128 : Int32) [u0, u1, u2, u3, u4, u5, u6, u7, u8, (.int (nar .byte (vnu9_1 v10_1))), (.int (nar .byte (vnu9_2 v10_1))), (.int (nar .byte (vnu9_3 v10_1))), (.int (nar .byte (vnu9_4 v10_1))), (.int (nar .byte (vnu9_5 v10_1))), (.int (nar .byte (vnu9_6 v10_1))), (.int (nar .byte (vnu9_7 v10_1))), (.int (nar .byte (vnu9_8 v10_1))), u200, u201, u202, u203, u204, u205, u206, u207, u208, u209, u210, u211, u212, u213, u214, u215, u216, u217, u218, u219, u220, u221, u222, u223, u224, u225, u226, u227, u228, u229, u230, u231, u232, u233, u234, u235, u236, u237, u238, u239, u240, u241, u242, u243, u244, u245, u246, u247, u248, u249, u250, u251, u252, u253, u254, u255, u256, u257, u258, u259, (.int (0 : Int32)), (.int (0 : Int32)), (.int (0 : Int32)), (.int (0 : Int32)), (.int (0 : Int32)), (.int (0 : Int32)), (.int (0 : Int32)), (.int (0 : Int32)), (.int (0 : Int32)), (.int (0 : Int32)), (.int (0 : Int32)), (.int (0 : Int32)), (.int (0 : Int32)), (.int (0 : Int32)), (.int (0 : Int32)), (.int (0 : Int32)), (.int (0 : Int32)), (.int (0 : Int32)), (.int (0 : Int32)), (.int (0 : Int32)), (.int (0 : Int32)), (.int (0 : Int32)), (.int (0 : Int32)), (.int (0 : Int32)), (.int (0 : Int32)), (.int (0 : Int32)), (.int (0 : Int32)), (.int (0 : Int32)), (.int (0 : Int32)), (.int (0 : Int32)), (.int (0 : Int32)), (.int (0 : Int32)), (.int (0 : Int32)), (.int (0 : Int32)), (.int (0 : Int32)), (.int (0 : Int32)), (.int (0 : Int32)), (.int (0 : Int32)), (.int (0 : Int32)), (.int (0 : Int32)), (.int (0 : Int32)), (.int (0 : Int32)), (.int (0 : Int32)), (.int (0 : Int32)), (.int (0 : Int32)), (.int (0 : Int32)), (.int (0 : Int32)), (.int (0 : Int32)), (.int (0 : Int32)), (.int (0 : Int32)), (.int (0 : Int32))] (.int (0 : Int32)) := V19r
  have z20 : n0 ≤ h19.size := Nat.le_trans z13 K19.1
  have hs21 : h0.size ≤ h19.size := Nat.le_trans hs14 K19.1
  have k22 := (po7_1.keep K19 (ninS ne8 nin0))
  obtain ⟨T23, X23, e23, st23⟩ := getF X19 hx hZ hown (host := "") (Or.inl (hw _ (List.mem_of_getElem? (i := 17) rfl))) Via.refl e19 k22 (g := (mkF m 31 #[.val (.ref o0), .val (.ref o1)] [(.ref o0), (.ref o0)])) rfl rfl (hb hby d10_31)
  have k24 := (k17.keep K19 (ninS ne9 nin0))
  obtain ⟨cl25, Ar25, qc25, S25, M25, Ha25, G25⟩ := id k24
  have k26 := (po7_0.keep K19)
  obtain ⟨T27, h27, X27, e27, W27, st27⟩ := putF X23 hx hZ hown (host := "") (Or.inl (hw _ (List.mem_of_getElem? (i := 17) rfl))) Via.refl e23 k22 k26 (Or.inl (hw _ (List.mem_of_getElem? (i := 18) rfl))) (hw _ (List.mem_of_getElem? (i := 1) rfl)) (ty := .int) (by decide) rfl rfl (g := (mkF m 37 #[.val (.ref o0), .val (.ref o1)] [(.int (77 : Int32)), (.ref o0)])) rfl rfl (hb hby d10_37)
  have Fw27 := k22.same W27
  have N27 := Fr.snoc X27 N19 g_o0
  have z28 : n0 ≤ h27.size := Nat.le_trans z20 (Keep.of_wr W27).1
  have hs29 : h0.size ≤ h27.size := Nat.le_trans hs21 (Keep.of_wr W27).1
  obtain ⟨fs, hr, hrun, hended, hW, hsame⟩ := X27.leave (v := some (.ref o0)) (fun h => by rw [Bd.returns] at h; cases h) hlk
  refine ⟨_, _, pre0 _ ?_, hrun, hended, _, _, rfl, ?_, ⟨_, rfl⟩, hW, hsame.mono (by decide) (by decide)⟩
  · skip
    show Steps p.tables e below (s₁.setTop (mkF m 0 #[.val (.ref o0), .val (.ref o1)] [])) _
    refine XS.aloadN X0.here hx rfl (hb hby d10_0) rfl rfl ?_
    show Steps p.tables e below (s₁.setTop (mkF m 1 #[.val (.ref o0), .val (.ref o1)] [(.ref o0)])) _
    refine XS.aloadN X0.here hx rfl (hb hby d10_1) rfl rfl ?_
    show Steps p.tables e below (s₁.setTop (mkF m 2 #[.val (.ref o0), .val (.ref o1)] [(.ref o1), (.ref o0)])) _
    refine X0.arraylength hx (by rw [e0]; exact Ar1.1) (State.isArrayOf_alike hZ.alike Ar1.2.1) (g := (mkF m 2 #[.val (.ref o0), .val (.ref o1)] [(.ref o1), (.ref o0)])) rfl rfl (hb hby d10_2) _ ?_
    rw [len_of S1 M1]
    show Steps p.tables e below (s₁.setTop (mkF m 3 #[.val (.ref o0), .val (.ref o1)] [(.int (60 : Int32)), (.ref o0)])) _
    refine XT.i2l X0.here hx rfl (hb hby d10_3) rfl ?_
    show Steps p.tables e below (s₁.setTop (mkF m 4 #[.val (.ref o0), .val (.ref o1)] [(.long ((60 : Int32).toInt64)), (.ref o0)])) _
    refine st2.trans ?_
    show Steps p.tables e below (T2.setTop (mkF m 7 #[.val (.ref o0), .val (.ref o1)] [(.ref o0)])) _
    refine XT.pop X2.here hx rfl (hb hby d10_7) rfl rfl ?_
    show Steps p.tables e below (T2.setTop (mkF m 8 #[.val (.ref o0), .val (.ref o1)] [])) _
    refine XS.aloadN X2.here hx rfl (hb hby d10_8) rfl rfl ?_
    show Steps p.tables e below (T2.setTop (mkF m 9 #[.val (.ref o0), .val (.ref o1)] [(.ref o0)])) _
    refine XS.aloadN X2.here hx rfl (hb hby d10_9) rfl rfl ?_
    show Steps p.tables e below (T2.setTop (mkF m 10 #[.val (.ref o0), .val (.ref o1)] [(.ref o1), (.ref o0)])) _
    refine X2.arraylength hx Ar6.1 (State.isArrayOf_alike hZ.alike Ar6.2.1) (g := (mkF m 10 #[.val (.ref o0), .val (.ref o1)] [(.ref o1), (.ref o0)])) rfl rfl (hb hby d10_10) _ ?_
    rw [len_of S6 M6]
    show Steps p.tables e below (T2.setTop (mkF m 11 #[.val (.ref o0), .val (.ref o1)] [(.int (60 : Int32)), (.ref o0)])) _
    refine st7.trans ?_
    show Steps p.tables e below (T7.setTop (mkF m 14 #[.val (.ref o0), .val (.ref o1)] [])) _
    refine XS.aloadN X7.here hx rfl (hb hby d10_14) rfl rfl ?_
    show Steps p.tables e below (T7.setTop (mkF m 15 #[.val (.ref o0), .val (.ref o1)] [(.ref o1)])) _
    refine XT.iconstV X7.here hx rfl (0 : Int32) (hb hby d10_15) (by decide) ?_
    show Steps p.tables e below (T7.setTop (mkF m 16 #[.val (.ref o0), .val (.ref o1)] [(.int (0 : Int32)), (.ref o1)])) _
    refine XS.aloadN X7.here hx rfl (hb hby d10_16) rfl rfl ?_
    show Steps p.tables e below (T7.setTop (mkF m 17 #[.val (.ref o0), .val (.ref o1)] [(.ref o0), (.int (0 : Int32)), (.ref o1)])) _
    refine st15 _ ?_
    show Steps p.tables e below (T15.setTop (mkF m 20 #[.val (.ref o0), .val (.ref o1)] [(.ref xrm17_60_0_7), (.int (0 : Int32)), (.ref o1)])) _
    refine XS.aloadN X15.here hx rfl (hb hby d10_20) rfl rfl ?_
    show Steps p.tables e below (T15.setTop (mkF m 21 #[.val (.ref o0), .val (.ref o1)] [(.ref o0), (.ref xrm17_60_0_7), (.int (0 : Int32)), (.ref o1)])) _
    refine st16 _ ?_
    show Steps p.tables e below (T16.setTop (mkF m 24 #[.val (.ref o0), .val (.ref o1)] [(.int (17 : Int32)), (.ref xrm17_60_0_7), (.int (0 : Int32)), (.ref o1)])) _
    refine XS.aloadN X16.here hx rfl (hb hby d10_24) rfl rfl ?_
    show Steps p.tables e below (T16.setTop (mkF m 25 #[.val (.ref o0), .val (.ref o1)] [(.ref o1), (.int (17 : Int32)), (.ref xrm17_60_0_7), (.int (0 : Int32)), (.ref o1)])) _
    refine X16.arraylength hx (by rw [e16]; exact Ar18.1) (State.isArrayOf_alike hZ.alike Ar18.2.1) (g := (mkF m 25 #[.val (.ref o0), .val (.ref o1)] [(.ref o1), (.int (17 : Int32)), (.ref xrm17_60_0_7), (.int (0 : Int32)), (.ref o1)])) rfl rfl (hb hby d10_25) _ ?_
    rw [len_of S18 M18]
    show Steps p.tables e below (T16.setTop (mkF m 26 #[.val (.ref o0), .val (.ref o1)] [(.int (60 : Int32)), (.int (17 : Int32)), (.ref xrm17_60_0_7), (.int (0 : Int32)), (.ref o1)])) _
    refine st19 _ ?_
    show Steps p.tables e below (T19.setTop (mkF m 29 #[.val (.ref o0), .val (.ref o1)] [])) _
    refine XS.aloadN X19.here hx rfl (hb hby d10_29) rfl rfl ?_
    show Steps p.tables e below (T19.setTop (mkF m 30 #[.val (.ref o0), .val (.ref o1)] [(.ref o0)])) _
    refine XS.dup X19.here hx rfl (hb hby d10_30) rfl rfl ?_
    show Steps p.tables e below (T19.setTop (mkF m 31 #[.val (.ref o0), .val (.ref o1)] [(.ref o0), (.ref o0)])) _
    refine st23 _ ?_
    show Steps p.tables e below (T23.setTop (mkF m 34 #[.val (.ref o0), .val (.ref o1)] [(.int (17 : Int32)), (.ref o0)])) _
    refine XS.aloadN X23.here hx rfl (hb hby d10_34) rfl rfl ?_
    show Steps p.tables e below (T23.setTop (mkF m 35 #[.val (.ref o0), .val (.ref o1)] [(.ref o1), (.int (17 : Int32)), (.ref o0)])) _
    refine X23.arraylength hx (by rw [e23]; exact Ar25.1) (State.isArrayOf_alike hZ.alike Ar25.2.1) (g := (mkF m 35 #[.val (.ref o0), .val (.ref o1)] [(.ref o1), (.int (17 : Int32)), (.ref o0)])) rfl rfl (hb hby d10_35) _ ?_
    rw [len_of S25 M25]
    show Steps p.tables e below (T23.setTop (mkF m 36 #[.val (.ref o0), .val (.ref o1)] [(.int (60 : Int32)), (.int (17 : Int32)), (.ref o0)])) _
    refine XS.iadd X23.here hx rfl (hb hby d10_36) rfl ?_
    show Steps p.tables e below (T23.setTop (mkF m 37 #[.val (.ref o0), .val (.ref o1)] [(.int (77 : Int32)), (.ref o0)])) _
    refine st27 _ ?_
    show Steps p.tables e below (T27.setTop (mkF m 40 #[.val (.ref o0), .val (.ref o1)] [])) _
    refine XS.aloadN X27.here hx rfl (hb hby d10_40) rfl rfl ?_
    show Steps p.tables e below (T27.setTop (mkF m 41 #[.val (.ref o0), .val (.ref o1)] [(.ref o0)])) _
    exact X27.areturnOut hx rfl Bd.returns rfl (hb hby d10_41) hr
  · skip
    show Q10 Z o0 o1 w1_buf u0 u1 u2 u3 u4 u5 u6 u7 u8 u9 u10 u11 u12 u13 u14 u15 u16 u17 u18 u19 u20 u21 u22 u23 u24 u25 u26 u27 u28 u29 u30 u31 u32 u33 u34 u35 u36 u37 u38 u39 u40 u41 u42 u43 u44 u45 u46 u47 u48 u49 u50 u51 u52 u53 u54 u55 u56 u57 u58 u59 u60 u61 u62 u63 kA u200 u201 u202 u203 u204 u205 u206 u207 u208 u209 u210 u211 u212 u213 u214 u215 u216 u217 u218 u219 u220 u221 u222 u223 u224 u225 u226 u227 u228 u229 u230 u231 u232 u233 u234 u235 u236 u237 u238 u239 u240 u241 u242 u243 u244 u245 u246 u247 u248 u249 u250 u251 u252 u253 u254 u255 u256 u257 u258 u259 kB h0 n0 _ T27.heap _
    rw [e27]
    have k30 := (k26.wr W27)
    have k31 := ((po7_2.keep K19 (ninS ne8 nin0)).other W27 (Or.inr (slot_ne (Or.inl (hw _ (List.mem_of_getElem? (i := 11) rfl))) (Or.inl (hw _ (List.mem_of_getElem? (i := 18) rfl))) (by decide) (t := (.array .byte)) (t' := .int) (by decide) (by decide))))
    have k32 := (((po2_3.keep K7 (ninS ne_w1_buf_o0 nin0)).keep K19 (ninS ne10 nin0)).other W27 ne_w1_buf_o0)
    have k33 := (V19.other W27 (Ne.symm ne8))
    exact ⟨N27, xrm17_60_0_7, krm17_60_1_7, rfl, sz12, (((((Keep.refl h0 [o0, w1_buf]).trans K2 (allS (Or.inl (List.mem_of_getElem? (i := 0) rfl)) (allS (Or.inl (List.mem_of_getElem? (i := 1) rfl)) all0))).trans K7 (allS (Or.inl (List.mem_of_getElem? (i := 0) rfl)) all0)).trans K19 (allS (Or.inr sz12) all0)).wr W27 (Or.inl (List.mem_of_getElem? (i := 0) rfl))), k30, Fw27, k31, k32, k33⟩
theorem d3_0 : decode prog_35_method_7_code 0 = .ok (.aload_n 0, 1) := by decide +kernel
theorem d3_1 : decode prog_35_method_7_code 1 = .ok (.getfield 7, 3) := by decide +kernel
theorem d3_4 : decode prog_35_method_7_code 4 = .ok (.aload_n 0, 1) := by decide +kernel
theorem d3_5 : decode prog_35_method_7_code 5 = .ok (.getfield 34, 3) := by decide +kernel
theorem d3_8 : decode prog_35_method_7_code 8 = .ok (.invokestatic 60, 3) := by decide +kernel
theorem d3_11 : decode prog_35_method_7_code 11 = .ok (.areturn, 1) := by decide +kernel
theorem ef_tb0 (m : MethodId) (o0 : Addr) : entryFrame m #[(.ref o0)] 1 = mkF m 0 #[.val (.ref o0)] [] := by first | (simp [entryFrame, mkF, argsToLocals, Value.category]; done) | rfl
def Qtb0 (Z : State) (o0 : Addr) (w1_buf : Addr) (u0 : Value) (u1 : Value) (u2 : Value) (u3 : Value) (u4 : Value) (u5 : Value) (u6 : Value) (u7 : Value) (u8 : Value) (u9 : Value) (u10 : Value) (u11 : Value) (u12 : Value) (u13 : Value) (u14 : Value) (u15 : Value) (u16 : Value) (u17 : Value) (u18 : Value) (u19 : Value) (u20 : Value) (u21 : Value) (u22 : Value) (u23 : Value) (u24 : Value) (u25 : Value) (u26 : Value) (u27 : Value) (u28 : Value) (u29 : Value) (u30 : Value) (u31 : Value) (u32 : Value) (u33 : Value) (u34 : Value) (u35 : Value) (u36 : Value) (u37 : Value) (u38 : Value) (u39 : Value) (u40 : Value) (u41 : Value) (u42 : Value) (u43 : Value) (u44 : Value) (u45 : Value) (u46 : Value) (u47 : Value) (u48 : Value) (u49 : Value) (u50 : Value) (u51 : Value) (u52 : Value) (u53 : Value) (u54 : Value) (u55 : Value) (u56 : Value) (u57 : Value) (u58 : Value) (u59 : Value) (u60 : Value) (u61 : Value) (u62 : Value) (u63 : Value) (kA : ClassId) (h0 : Heap) (n0 : Nat) (v : Option Value) (h : Heap) (L : List Loc) : Prop := Fr n0 L ∧ ∃ (xtb0_0 : Addr) (ktb0_1 : ClassId), v = some (.ref xtb0_0) ∧ h0.size ≤ xtb0_0 ∧ Keep h0 h [] ∧ Arv Z h xtb0_0 ktb0_1 .byte (0 : Int32) [] (.int (0 : Int32))
set_option maxRecDepth 65536 in
set_option maxHeartbeats 40000000 in
theorem rmtb0 (l : Launch) (Z : State) (a0 : Array Value) (hw : ∀ d ∈ tables_1, d.before a0 Z = true) (ws : List Jvm.Cond) (o0 : Addr) (w1_buf : Addr) (u0 : Value) (u1 : Value) (u2 : Value) (u3 : Value) (u4 : Value) (u5 : Value) (u6 : Value) (u7 : Value) (u8 : Value) (u9 : Value) (u10 : Value) (u11 : Value) (u12 : Value) (u13 : Value) (u14 : Value) (u15 : Value) (u16 : Value) (u17 : Value) (u18 : Value) (u19 : Value) (u20 : Value) (u21 : Value) (u22 : Value) (u23 : Value) (u24 : Value) (u25 : Value) (u26 : Value) (u27 : Value) (u28 : Value) (u29 : Value) (u30 : Value) (u31 : Value) (u32 : Value) (u33 : Value) (u34 : Value) (u35 : Value) (u36 : Value) (u37 : Value) (u38 : Value) (u39 : Value) (u40 : Value) (u41 : Value) (u42 : Value) (u43 : Value) (u44 : Value) (u45 : Value) (u46 : Value) (u47 : Value) (u48 : Value) (u49 : Value) (u50 : Value) (u51 : Value) (u52 : Value) (u53 : Value) (u54 : Value) (u55 : Value) (u56 : Value) (u57 : Value) (u58 : Value) (u59 : Value) (u60 : Value) (u61 : Value) (u62 : Value) (u63 : Value) (kA : ClassId) (h0 : Heap) (n0 : Nat) (Z0 : n0 ≤ h0.size) (E_o0 : Exa Z h0 o0 "com/example/dispatch_by_catalog/dispatchbycatalog/store/RecordWriter") (F_size_o0 : Fld Z h0 o0 "com/example/dispatch_by_catalog/dispatchbycatalog/store/RecordWriter" "size" "I" (.int (0 : Int32))) (F_written_o0 : Fld Z h0 o0 "com/example/dispatch_by_catalog/dispatchbycatalog/store/RecordWriter" "written" "[B" (.ref w1_buf)) (V_w1_buf : Arv Z h0 w1_buf kA .byte (64 : Int32) [u0, u1, u2, u3, u4, u5, u6, u7, u8, u9, u10, u11, u12, u13, u14, u15, u16, u17, u18, u19, u20, u21, u22, u23, u24, u25, u26, u27, u28, u29, u30, u31, u32, u33, u34, u35, u36, u37, u38, u39, u40, u41, u42, u43, u44, u45, u46, u47, u48, u49, u50, u51, u52, u53, u54, u55, u56, u57, u58, u59, u60, u61, u62, u63] (.int (0 : Int32))) :
    MetFree l (⟨"com/example/dispatch_by_catalog/dispatchbycatalog/store/RecordWriter", "toBytes", "()[B"⟩ : MethodName) (head1 (Jvm.Cond.code (⟨"com/example/dispatch_by_catalog/dispatchbycatalog/store/RecordWriter", "toBytes", "()[B"⟩ : MethodName) prog_35_method_7_code 1 (some (.array .byte)) :: ws) ({ frames := 2, cells := 1, slots := 0, locals := 32 } : Room)) (fun a U => a = #[(.ref o0)] ∧ Z.Warmed39 U.vm ∧ U.heap = h0) (fun _ _ _ _ _ => True) (fun _ U o U' => ∃ v L, o = .returned v ∧ Qtb0 Z o0 w1_buf u0 u1 u2 u3 u4 u5 u6 u7 u8 u9 u10 u11 u12 u13 u14 u15 u16 u17 u18 u19 u20 u21 u22 u23 u24 u25 u26 u27 u28 u29 u30 u31 u32 u33 u34 u35 u36 u37 u38 u39 u40 u41 u42 u43 u44 u45 u46 u47 u48 u49 u50 u51 u52 u53 u54 u55 u56 u57 u58 u59 u60 u61 u62 u63 kA h0 n0 v U'.heap L ∧ FrameEnd U o U' L ({ frames := 2, cells := 1, slots := 0, locals := 32 } : Room).cells ({ frames := 2, cells := 1, slots := 0, locals := 32 } : Room).slots) := by
  refine MetFree.of_bodySF (plainFor_of_name pn_com_example_dispatch_by_catalog_dispatchbycatalog_store_RecordWriter) hisR ?_
  intro p e s m args below meth c s₁ Bd hml0 hP hK
  obtain ⟨rfl, hZ, hh⟩ := hP
  have hx := Bd.exec
  have hby := Bd.bytes
  have hml : c.maxLocals = 1 := hml0
  have hown : s.vm.findClass "com/example/dispatch_by_catalog/dispatchbycatalog/store/RecordWriter" = some m.cls := findClass_of_methodNamed Bd.named
  have hnm := (name_of_methodNamed Bd.named Bd.method).1
  have hlk := BodyLoose.notSynchronized Bd
  have X0 : Stand p l e ({ frames := 2, cells := 1, slots := 0, locals := 32 } : Room) s m #[(.ref o0)] below meth c s₁ [] 0 0 := Stand.of_body Bd
  have e0 : s₁.heap = h0 := by rw [← hh, Bd.state]; rfl
  have N0 := Fr.nil n0
  have pre0 : ∀ t, Steps p.tables e below (s₁.setTop (mkF m 0 #[.val (.ref o0)] [])) t → Steps p.tables e below (s₁.setTop (entryFrame m #[(.ref o0)] 1)) t := fun t k => castTop (ef_tb0 m o0) k
  obtain ⟨T1, X1, e1, st1⟩ := getF X0 hx hZ hown (host := "") (Or.inl (hw _ (List.mem_of_getElem? (i := 10) rfl))) Via.refl e0 F_written_o0 (g := (mkF m 1 #[.val (.ref o0)] [(.ref o0)])) rfl rfl (hb hby d3_1)
  obtain ⟨T2, X2, e2, st2⟩ := getF X1 hx hZ hown (host := "") (Or.inl (hw _ (List.mem_of_getElem? (i := 17) rfl))) Via.refl e1 F_size_o0 (g := (mkF m 5 #[.val (.ref o0)] [(.ref o0), (.ref w1_buf)])) rfl rfl (hb hby d3_5)
  obtain ⟨vr3, _, ⟨T3, L3, k3, n3⟩, -, X3, ⟨Lc3, hQ3, l3, y3, z3⟩, st3⟩ := Jvm.LawKit.callS X2 hx (y := (⟨"java/util/Arrays", "copyOf", "([BI)[B"⟩ : MethodName)) hown (mvT hZ (hw _ (List.mem_of_getElem? (i := 19) rfl))) (mvT hZ (hw _ (List.mem_of_getElem? (i := 20) rfl))) (mvT hZ (hw _ (List.mem_of_getElem? (i := 21) rfl))) (mvT hZ (hw _ (List.mem_of_getElem? (i := 22) rfl))) (by decide) (backOf (W := 0) (rmcp64_0 l Z a0 hw [] w1_buf u0 u1 u2 u3 u4 u5 u6 u7 u8 u9 u10 u11 u12 u13 u14 u15 u16 u17 u18 u19 u20 u21 u22 u23 u24 u25 u26 u27 u28 u29 u30 u31 u32 u33 u34 u35 u36 u37 u38 u39 u40 u41 u42 u43 u44 u45 u46 u47 u48 u49 u50 u51 u52 u53 u54 u55 u56 u57 u58 u59 u60 u61 u62 u63 kA h0 n0 Z0 V_w1_buf) hZ (hw _ (List.mem_of_getElem? (i := 22) rfl)) (hw _ (List.mem_of_getElem? (i := 21) rfl)) (by decide) (by decide)) (g := (mkF m 8 #[.val (.ref o0)] [(.int (0 : Int32)), (.ref w1_buf)])) rfl (by rw [hml]; rfl) (argsL := [(.ref w1_buf), (.int (0 : Int32))]) (rest := []) (lenOf pd___BI__B rfl) rfl (by show 2 * 0 + _ ≤ _; exact Nat.le_of_eq rfl) (hb hby d3_8) (fun _ _ => ⟨rfl, e2, (by decide : 0 + 1 ≤ _), (by decide : 0 + 0 ≤ _)⟩)
  dsimp only [Pt.U, Pt.locs, Pt.cells, Pt.slots] at X3 l3 y3 z3 st3 hQ3
  subst l3 y3 z3
  have N3q := (show _ ∧ _ from hQ3).1
  have hq3 := (show _ ∧ _ from hQ3).2
  clear hQ3
  obtain ⟨xcp64_0_0_3, kcp64_0_1_3, hq3x⟩ := hq3
  have hv3 := hq3x.1
  have szxcp64_0_0_3 := hq3x.2.1
  have K3 := hq3x.2.2.1
  have po3_0 := hq3x.2.2.2
  clear hq3x
  subst hv3
  have ne4 : o0 ≠ xcp64_0_0_3 := Nat.ne_of_lt (Nat.lt_of_lt_of_le E_o0.lt szxcp64_0_0_3)
  have ne5 : w1_buf ≠ xcp64_0_0_3 := Nat.ne_of_lt (Nat.lt_of_lt_of_le V_w1_buf.lt szxcp64_0_0_3)
  have g6 : n0 ≤ xcp64_0_0_3 := Nat.le_trans Z0 szxcp64_0_0_3
  have sz7 : h0.size ≤ xcp64_0_0_3 := Nat.le_trans (Nat.le_refl h0.size) szxcp64_0_0_3
  have z8 : n0 ≤ T3.heap.size := Nat.le_trans Z0 K3.1
  have hs9 : h0.size ≤ T3.heap.size := Nat.le_trans (Nat.le_refl h0.size) K3.1
  have N3 := Fr.app N0 N3q
  obtain ⟨fs, hr, hrun, hended, hW, hsame⟩ := X3.leave (v := some (.ref xcp64_0_0_3)) (fun h => by rw [Bd.returns] at h; cases h) hlk
  refine ⟨_, _, pre0 _ ?_, hrun, hended, _, _, rfl, ?_, ⟨_, rfl⟩, hW, hsame.mono (by decide) (by decide)⟩
  · skip
    show Steps p.tables e below (s₁.setTop (mkF m 0 #[.val (.ref o0)] [])) _
    refine XS.aloadN X0.here hx rfl (hb hby d3_0) rfl rfl ?_
    show Steps p.tables e below (s₁.setTop (mkF m 1 #[.val (.ref o0)] [(.ref o0)])) _
    refine st1 _ ?_
    show Steps p.tables e below (T1.setTop (mkF m 4 #[.val (.ref o0)] [(.ref w1_buf)])) _
    refine XS.aloadN X1.here hx rfl (hb hby d3_4) rfl rfl ?_
    show Steps p.tables e below (T1.setTop (mkF m 5 #[.val (.ref o0)] [(.ref o0), (.ref w1_buf)])) _
    refine st2 _ ?_
    show Steps p.tables e below (T2.setTop (mkF m 8 #[.val (.ref o0)] [(.int (0 : Int32)), (.ref w1_buf)])) _
    refine st3 _ ?_
    show Steps p.tables e below (T3.setTop (mkF m 11 #[.val (.ref o0)] [(.ref xcp64_0_0_3)])) _
    exact X3.areturnOut hx rfl Bd.returns rfl (hb hby d3_11) hr
  · skip
    show Qtb0 Z o0 w1_buf u0 u1 u2 u3 u4 u5 u6 u7 u8 u9 u10 u11 u12 u13 u14 u15 u16 u17 u18 u19 u20 u21 u22 u23 u24 u25 u26 u27 u28 u29 u30 u31 u32 u33 u34 u35 u36 u37 u38 u39 u40 u41 u42 u43 u44 u45 u46 u47 u48 u49 u50 u51 u52 u53 u54 u55 u56 u57 u58 u59 u60 u61 u62 u63 kA h0 n0 _ T3.heap _
    exact ⟨N3, xcp64_0_0_3, kcp64_0_1_3, rfl, sz7, ((Keep.refl h0 []).trans K3 all0), po3_0⟩
theorem ef_tb17 (m : MethodId) (o0 : Addr) : entryFrame m #[(.ref o0)] 1 = mkF m 0 #[.val (.ref o0)] [] := by first | (simp [entryFrame, mkF, argsToLocals, Value.category]; done) | rfl
def Qtb17 (Z : State) (o0 : Addr) (w1_buf : Addr) (u0 : Value) (u1 : Value) (u2 : Value) (u3 : Value) (u4 : Value) (u5 : Value) (u6 : Value) (u7 : Value) (u8 : Value) (u9 : Value) (u10 : Value) (u11 : Value) (u12 : Value) (u13 : Value) (u14 : Value) (u15 : Value) (u16 : Value) (u17 : Value) (u18 : Value) (u19 : Value) (u20 : Value) (u21 : Value) (u22 : Value) (u23 : Value) (u24 : Value) (u25 : Value) (u26 : Value) (u27 : Value) (u28 : Value) (u29 : Value) (u30 : Value) (u31 : Value) (u32 : Value) (u33 : Value) (u34 : Value) (u35 : Value) (u36 : Value) (u37 : Value) (u38 : Value) (u39 : Value) (u40 : Value) (u41 : Value) (u42 : Value) (u43 : Value) (u44 : Value) (u45 : Value) (u46 : Value) (u47 : Value) (u48 : Value) (u49 : Value) (u50 : Value) (u51 : Value) (u52 : Value) (u53 : Value) (u54 : Value) (u55 : Value) (u56 : Value) (u57 : Value) (u58 : Value) (u59 : Value) (u60 : Value) (u61 : Value) (u62 : Value) (u63 : Value) (kA : ClassId) (h0 : Heap) (n0 : Nat) (v : Option Value) (h : Heap) (L : List Loc) : Prop := Fr n0 L ∧ ∃ (xtb17_0 : Addr) (ktb17_1 : ClassId), v = some (.ref xtb17_0) ∧ h0.size ≤ xtb17_0 ∧ Keep h0 h [] ∧ Arv Z h xtb17_0 ktb17_1 .byte (17 : Int32) [u0, u1, u2, u3, u4, u5, u6, u7, u8, u9, u10, u11, u12, u13, u14, u15, u16] (.int (0 : Int32))
set_option maxRecDepth 65536 in
set_option maxHeartbeats 40000000 in
theorem rmtb17 (l : Launch) (Z : State) (a0 : Array Value) (hw : ∀ d ∈ tables_1, d.before a0 Z = true) (ws : List Jvm.Cond) (o0 : Addr) (w1_buf : Addr) (u0 : Value) (u1 : Value) (u2 : Value) (u3 : Value) (u4 : Value) (u5 : Value) (u6 : Value) (u7 : Value) (u8 : Value) (u9 : Value) (u10 : Value) (u11 : Value) (u12 : Value) (u13 : Value) (u14 : Value) (u15 : Value) (u16 : Value) (u17 : Value) (u18 : Value) (u19 : Value) (u20 : Value) (u21 : Value) (u22 : Value) (u23 : Value) (u24 : Value) (u25 : Value) (u26 : Value) (u27 : Value) (u28 : Value) (u29 : Value) (u30 : Value) (u31 : Value) (u32 : Value) (u33 : Value) (u34 : Value) (u35 : Value) (u36 : Value) (u37 : Value) (u38 : Value) (u39 : Value) (u40 : Value) (u41 : Value) (u42 : Value) (u43 : Value) (u44 : Value) (u45 : Value) (u46 : Value) (u47 : Value) (u48 : Value) (u49 : Value) (u50 : Value) (u51 : Value) (u52 : Value) (u53 : Value) (u54 : Value) (u55 : Value) (u56 : Value) (u57 : Value) (u58 : Value) (u59 : Value) (u60 : Value) (u61 : Value) (u62 : Value) (u63 : Value) (kA : ClassId) (h0 : Heap) (n0 : Nat) (Z0 : n0 ≤ h0.size) (E_o0 : Exa Z h0 o0 "com/example/dispatch_by_catalog/dispatchbycatalog/store/RecordWriter") (F_size_o0 : Fld Z h0 o0 "com/example/dispatch_by_catalog/dispatchbycatalog/store/RecordWriter" "size" "I" (.int (17 : Int32))) (F_written_o0 : Fld Z h0 o0 "com/example/dispatch_by_catalog/dispatchbycatalog/store/RecordWriter" "written" "[B" (.ref w1_buf)) (V_w1_buf : Arv Z h0 w1_buf kA .byte (64 : Int32) [u0, u1, u2, u3, u4, u5, u6, u7, u8, u9, u10, u11, u12, u13, u14, u15, u16, u17, u18, u19, u20, u21, u22, u23, u24, u25, u26, u27, u28, u29, u30, u31, u32, u33, u34, u35, u36, u37, u38, u39, u40, u41, u42, u43, u44, u45, u46, u47, u48, u49, u50, u51, u52, u53, u54, u55, u56, u57, u58, u59, u60, u61, u62, u63] (.int (0 : Int32))) :
    MetFree l (⟨"com/example/dispatch_by_catalog/dispatchbycatalog/store/RecordWriter", "toBytes", "()[B"⟩ : MethodName) (head1 (Jvm.Cond.code (⟨"com/example/dispatch_by_catalog/dispatchbycatalog/store/RecordWriter", "toBytes", "()[B"⟩ : MethodName) prog_35_method_7_code 1 (some (.array .byte)) :: ws) ({ frames := 2, cells := 1, slots := 17, locals := 32 } : Room)) (fun a U => a = #[(.ref o0)] ∧ Z.Warmed39 U.vm ∧ U.heap = h0) (fun _ _ _ _ _ => True) (fun _ U o U' => ∃ v L, o = .returned v ∧ Qtb17 Z o0 w1_buf u0 u1 u2 u3 u4 u5 u6 u7 u8 u9 u10 u11 u12 u13 u14 u15 u16 u17 u18 u19 u20 u21 u22 u23 u24 u25 u26 u27 u28 u29 u30 u31 u32 u33 u34 u35 u36 u37 u38 u39 u40 u41 u42 u43 u44 u45 u46 u47 u48 u49 u50 u51 u52 u53 u54 u55 u56 u57 u58 u59 u60 u61 u62 u63 kA h0 n0 v U'.heap L ∧ FrameEnd U o U' L ({ frames := 2, cells := 1, slots := 17, locals := 32 } : Room).cells ({ frames := 2, cells := 1, slots := 17, locals := 32 } : Room).slots) := by
  refine MetFree.of_bodySF (plainFor_of_name pn_com_example_dispatch_by_catalog_dispatchbycatalog_store_RecordWriter) hisR ?_
  intro p e s m args below meth c s₁ Bd hml0 hP hK
  obtain ⟨rfl, hZ, hh⟩ := hP
  have hx := Bd.exec
  have hby := Bd.bytes
  have hml : c.maxLocals = 1 := hml0
  have hown : s.vm.findClass "com/example/dispatch_by_catalog/dispatchbycatalog/store/RecordWriter" = some m.cls := findClass_of_methodNamed Bd.named
  have hnm := (name_of_methodNamed Bd.named Bd.method).1
  have hlk := BodyLoose.notSynchronized Bd
  have X0 : Stand p l e ({ frames := 2, cells := 1, slots := 17, locals := 32 } : Room) s m #[(.ref o0)] below meth c s₁ [] 0 0 := Stand.of_body Bd
  have e0 : s₁.heap = h0 := by rw [← hh, Bd.state]; rfl
  have N0 := Fr.nil n0
  have pre0 : ∀ t, Steps p.tables e below (s₁.setTop (mkF m 0 #[.val (.ref o0)] [])) t → Steps p.tables e below (s₁.setTop (entryFrame m #[(.ref o0)] 1)) t := fun t k => castTop (ef_tb17 m o0) k
  obtain ⟨T1, X1, e1, st1⟩ := getF X0 hx hZ hown (host := "") (Or.inl (hw _ (List.mem_of_getElem? (i := 10) rfl))) Via.refl e0 F_written_o0 (g := (mkF m 1 #[.val (.ref o0)] [(.ref o0)])) rfl rfl (hb hby d3_1)
  obtain ⟨T2, X2, e2, st2⟩ := getF X1 hx hZ hown (host := "") (Or.inl (hw _ (List.mem_of_getElem? (i := 17) rfl))) Via.refl e1 F_size_o0 (g := (mkF m 5 #[.val (.ref o0)] [(.ref o0), (.ref w1_buf)])) rfl rfl (hb hby d3_5)
  obtain ⟨vr3, _, ⟨T3, L3, k3, n3⟩, -, X3, ⟨Lc3, hQ3, l3, y3, z3⟩, st3⟩ := Jvm.LawKit.callS X2 hx (y := (⟨"java/util/Arrays", "copyOf", "([BI)[B"⟩ : MethodName)) hown (mvT hZ (hw _ (List.mem_of_getElem? (i := 19) rfl))) (mvT hZ (hw _ (List.mem_of_getElem? (i := 20) rfl))) (mvT hZ (hw _ (List.mem_of_getElem? (i := 21) rfl))) (mvT hZ (hw _ (List.mem_of_getElem? (i := 22) rfl))) (by decide) (backOf (W := 0) (rmcp64_17 l Z a0 hw [] w1_buf u0 u1 u2 u3 u4 u5 u6 u7 u8 u9 u10 u11 u12 u13 u14 u15 u16 u17 u18 u19 u20 u21 u22 u23 u24 u25 u26 u27 u28 u29 u30 u31 u32 u33 u34 u35 u36 u37 u38 u39 u40 u41 u42 u43 u44 u45 u46 u47 u48 u49 u50 u51 u52 u53 u54 u55 u56 u57 u58 u59 u60 u61 u62 u63 kA h0 n0 Z0 V_w1_buf) hZ (hw _ (List.mem_of_getElem? (i := 22) rfl)) (hw _ (List.mem_of_getElem? (i := 21) rfl)) (by decide) (by decide)) (g := (mkF m 8 #[.val (.ref o0)] [(.int (17 : Int32)), (.ref w1_buf)])) rfl (by rw [hml]; rfl) (argsL := [(.ref w1_buf), (.int (17 : Int32))]) (rest := []) (lenOf pd___BI__B rfl) rfl (by show 2 * 0 + _ ≤ _; exact Nat.le_of_eq rfl) (hb hby d3_8) (fun _ _ => ⟨rfl, e2, (by decide : 0 + 1 ≤ _), (by decide : 0 + 17 ≤ _)⟩)
  dsimp only [Pt.U, Pt.locs, Pt.cells, Pt.slots] at X3 l3 y3 z3 st3 hQ3
  subst l3 y3 z3
  have N3q := (show _ ∧ _ from hQ3).1
  have hq3 := (show _ ∧ _ from hQ3).2
  clear hQ3
  obtain ⟨xcp64_17_0_3, kcp64_17_1_3, hq3x⟩ := hq3
  have hv3 := hq3x.1
  have szxcp64_17_0_3 := hq3x.2.1
  have K3 := hq3x.2.2.1
  have po3_0 := hq3x.2.2.2
  clear hq3x
  subst hv3
  have ne4 : o0 ≠ xcp64_17_0_3 := Nat.ne_of_lt (Nat.lt_of_lt_of_le E_o0.lt szxcp64_17_0_3)
  have ne5 : w1_buf ≠ xcp64_17_0_3 := Nat.ne_of_lt (Nat.lt_of_lt_of_le V_w1_buf.lt szxcp64_17_0_3)
  have g6 : n0 ≤ xcp64_17_0_3 := Nat.le_trans Z0 szxcp64_17_0_3
  have sz7 : h0.size ≤ xcp64_17_0_3 := Nat.le_trans (Nat.le_refl h0.size) szxcp64_17_0_3
  have z8 : n0 ≤ T3.heap.size := Nat.le_trans Z0 K3.1
  have hs9 : h0.size ≤ T3.heap.size := Nat.le_trans (Nat.le_refl h0.size) K3.1
  have N3 := Fr.app N0 N3q
  obtain ⟨fs, hr, hrun, hended, hW, hsame⟩ := X3.leave (v := some (.ref xcp64_17_0_3)) (fun h => by rw [Bd.returns] at h; cases h) hlk
  refine ⟨_, _, pre0 _ ?_, hrun, hended, _, _, rfl, ?_, ⟨_, rfl⟩, hW, hsame.mono (by decide) (by decide)⟩
  · skip
    show Steps p.tables e below (s₁.setTop (mkF m 0 #[.val (.ref o0)] [])) _
    refine XS.aloadN X0.here hx rfl (hb hby d3_0) rfl rfl ?_
    show Steps p.tables e below (s₁.setTop (mkF m 1 #[.val (.ref o0)] [(.ref o0)])) _
    refine st1 _ ?_
    show Steps p.tables e below (T1.setTop (mkF m 4 #[.val (.ref o0)] [(.ref w1_buf)])) _
    refine XS.aloadN X1.here hx rfl (hb hby d3_4) rfl rfl ?_
    show Steps p.tables e below (T1.setTop (mkF m 5 #[.val (.ref o0)] [(.ref o0), (.ref w1_buf)])) _
    refine st2 _ ?_
    show Steps p.tables e below (T2.setTop (mkF m 8 #[.val (.ref o0)] [(.int (17 : Int32)), (.ref w1_buf)])) _
    refine st3 _ ?_
    show Steps p.tables e below (T3.setTop (mkF m 11 #[.val (.ref o0)] [(.ref xcp64_17_0_3)])) _
    exact X3.areturnOut hx rfl Bd.returns rfl (hb hby d3_11) hr
  · skip
    show Qtb17 Z o0 w1_buf u0 u1 u2 u3 u4 u5 u6 u7 u8 u9 u10 u11 u12 u13 u14 u15 u16 u17 u18 u19 u20 u21 u22 u23 u24 u25 u26 u27 u28 u29 u30 u31 u32 u33 u34 u35 u36 u37 u38 u39 u40 u41 u42 u43 u44 u45 u46 u47 u48 u49 u50 u51 u52 u53 u54 u55 u56 u57 u58 u59 u60 u61 u62 u63 kA h0 n0 _ T3.heap _
    exact ⟨N3, xcp64_17_0_3, kcp64_17_1_3, rfl, sz7, ((Keep.refl h0 []).trans K3 all0), po3_0⟩
theorem ef_tb85 (m : MethodId) (o0 : Addr) : entryFrame m #[(.ref o0)] 1 = mkF m 0 #[.val (.ref o0)] [] := by first | (simp [entryFrame, mkF, argsToLocals, Value.category]; done) | rfl
def Qtb85 (Z : State) (o0 : Addr) (w1_buf : Addr) (u0 : Value) (u1 : Value) (u2 : Value) (u3 : Value) (u4 : Value) (u5 : Value) (u6 : Value) (u7 : Value) (u8 : Value) (u9 : Value) (u10 : Value) (u11 : Value) (u12 : Value) (u13 : Value) (u14 : Value) (u15 : Value) (u16 : Value) (u17 : Value) (u18 : Value) (u19 : Value) (u20 : Value) (u21 : Value) (u22 : Value) (u23 : Value) (u24 : Value) (u25 : Value) (u26 : Value) (u27 : Value) (u28 : Value) (u29 : Value) (u30 : Value) (u31 : Value) (u32 : Value) (u33 : Value) (u34 : Value) (u35 : Value) (u36 : Value) (u37 : Value) (u38 : Value) (u39 : Value) (u40 : Value) (u41 : Value) (u42 : Value) (u43 : Value) (u44 : Value) (u45 : Value) (u46 : Value) (u47 : Value) (u48 : Value) (u49 : Value) (u50 : Value) (u51 : Value) (u52 : Value) (u53 : Value) (u54 : Value) (u55 : Value) (u56 : Value) (u57 : Value) (u58 : Value) (u59 : Value) (u60 : Value) (u61 : Value) (u62 : Value) (u63 : Value) (u64 : Value) (u65 : Value) (u66 : Value) (u67 : Value) (u68 : Value) (u69 : Value) (u70 : Value) (u71 : Value) (u72 : Value) (u73 : Value) (u74 : Value) (u75 : Value) (u76 : Value) (u77 : Value) (u78 : Value) (u79 : Value) (u80 : Value) (u81 : Value) (u82 : Value) (u83 : Value) (u84 : Value) (u85 : Value) (u86 : Value) (u87 : Value) (u88 : Value) (u89 : Value) (u90 : Value) (u91 : Value) (u92 : Value) (u93 : Value) (u94 : Value) (u95 : Value) (u96 : Value) (u97 : Value) (u98 : Value) (u99 : Value) (u100 : Value) (u101 : Value) (u102 : Value) (u103 : Value) (u104 : Value) (u105 : Value) (u106 : Value) (u107 : Value) (u108 : Value) (u109 : Value) (u110 : Value) (u111 : Value) (u112 : Value) (u113 : Value) (u114 : Value) (u115 : Value) (u116 : Value) (u117 : Value) (u118 : Value) (u119 : Value) (u120 : Value) (u121 : Value) (u122 : Value) (u123 : Value) (u124 : Value) (u125 : Value) (u126 : Value) (u127 : Value) (kA : ClassId) (h0 : Heap) (n0 : Nat) (v : Option Value) (h : Heap) (L : List Loc) : Prop := Fr n0 L ∧ ∃ (xtb85_0 : Addr) (ktb85_1 : ClassId), v = some (.ref xtb85_0) ∧ h0.size ≤ xtb85_0 ∧ Keep h0 h [] ∧ Arv Z h xtb85_0 ktb85_1 .byte (85 : Int32) [u0, u1, u2, u3, u4, u5, u6, u7, u8, u9, u10, u11, u12, u13, u14, u15, u16, u17, u18, u19, u20, u21, u22, u23, u24, u25, u26, u27, u28, u29, u30, u31, u32, u33, u34, u35, u36, u37, u38, u39, u40, u41, u42, u43, u44, u45, u46, u47, u48, u49, u50, u51, u52, u53, u54, u55, u56, u57, u58, u59, u60, u61, u62, u63, u64, u65, u66, u67, u68, u69, u70, u71, u72, u73, u74, u75, u76, u77, u78, u79, u80, u81, u82, u83, u84] (.int (0 : Int32))
set_option maxRecDepth 65536 in
set_option maxHeartbeats 40000000 in
theorem rmtb85 (l : Launch) (Z : State) (a0 : Array Value) (hw : ∀ d ∈ tables_1, d.before a0 Z = true) (ws : List Jvm.Cond) (o0 : Addr) (w1_buf : Addr) (u0 : Value) (u1 : Value) (u2 : Value) (u3 : Value) (u4 : Value) (u5 : Value) (u6 : Value) (u7 : Value) (u8 : Value) (u9 : Value) (u10 : Value) (u11 : Value) (u12 : Value) (u13 : Value) (u14 : Value) (u15 : Value) (u16 : Value) (u17 : Value) (u18 : Value) (u19 : Value) (u20 : Value) (u21 : Value) (u22 : Value) (u23 : Value) (u24 : Value) (u25 : Value) (u26 : Value) (u27 : Value) (u28 : Value) (u29 : Value) (u30 : Value) (u31 : Value) (u32 : Value) (u33 : Value) (u34 : Value) (u35 : Value) (u36 : Value) (u37 : Value) (u38 : Value) (u39 : Value) (u40 : Value) (u41 : Value) (u42 : Value) (u43 : Value) (u44 : Value) (u45 : Value) (u46 : Value) (u47 : Value) (u48 : Value) (u49 : Value) (u50 : Value) (u51 : Value) (u52 : Value) (u53 : Value) (u54 : Value) (u55 : Value) (u56 : Value) (u57 : Value) (u58 : Value) (u59 : Value) (u60 : Value) (u61 : Value) (u62 : Value) (u63 : Value) (u64 : Value) (u65 : Value) (u66 : Value) (u67 : Value) (u68 : Value) (u69 : Value) (u70 : Value) (u71 : Value) (u72 : Value) (u73 : Value) (u74 : Value) (u75 : Value) (u76 : Value) (u77 : Value) (u78 : Value) (u79 : Value) (u80 : Value) (u81 : Value) (u82 : Value) (u83 : Value) (u84 : Value) (u85 : Value) (u86 : Value) (u87 : Value) (u88 : Value) (u89 : Value) (u90 : Value) (u91 : Value) (u92 : Value) (u93 : Value) (u94 : Value) (u95 : Value) (u96 : Value) (u97 : Value) (u98 : Value) (u99 : Value) (u100 : Value) (u101 : Value) (u102 : Value) (u103 : Value) (u104 : Value) (u105 : Value) (u106 : Value) (u107 : Value) (u108 : Value) (u109 : Value) (u110 : Value) (u111 : Value) (u112 : Value) (u113 : Value) (u114 : Value) (u115 : Value) (u116 : Value) (u117 : Value) (u118 : Value) (u119 : Value) (u120 : Value) (u121 : Value) (u122 : Value) (u123 : Value) (u124 : Value) (u125 : Value) (u126 : Value) (u127 : Value) (kA : ClassId) (h0 : Heap) (n0 : Nat) (Z0 : n0 ≤ h0.size) (E_o0 : Exa Z h0 o0 "com/example/dispatch_by_catalog/dispatchbycatalog/store/RecordWriter") (F_size_o0 : Fld Z h0 o0 "com/example/dispatch_by_catalog/dispatchbycatalog/store/RecordWriter" "size" "I" (.int (85 : Int32))) (F_written_o0 : Fld Z h0 o0 "com/example/dispatch_by_catalog/dispatchbycatalog/store/RecordWriter" "written" "[B" (.ref w1_buf)) (V_w1_buf : Arv Z h0 w1_buf kA .byte (128 : Int32) [u0, u1, u2, u3, u4, u5, u6, u7, u8, u9, u10, u11, u12, u13, u14, u15, u16, u17, u18, u19, u20, u21, u22, u23, u24, u25, u26, u27, u28, u29, u30, u31, u32, u33, u34, u35, u36, u37, u38, u39, u40, u41, u42, u43, u44, u45, u46, u47, u48, u49, u50, u51, u52, u53, u54, u55, u56, u57, u58, u59, u60, u61, u62, u63, u64, u65, u66, u67, u68, u69, u70, u71, u72, u73, u74, u75, u76, u77, u78, u79, u80, u81, u82, u83, u84, u85, u86, u87, u88, u89, u90, u91, u92, u93, u94, u95, u96, u97, u98, u99, u100, u101, u102, u103, u104, u105, u106, u107, u108, u109, u110, u111, u112, u113, u114, u115, u116, u117, u118, u119, u120, u121, u122, u123, u124, u125, u126, u127] (.int (0 : Int32))) :
    MetFree l (⟨"com/example/dispatch_by_catalog/dispatchbycatalog/store/RecordWriter", "toBytes", "()[B"⟩ : MethodName) (head1 (Jvm.Cond.code (⟨"com/example/dispatch_by_catalog/dispatchbycatalog/store/RecordWriter", "toBytes", "()[B"⟩ : MethodName) prog_35_method_7_code 1 (some (.array .byte)) :: ws) ({ frames := 2, cells := 1, slots := 85, locals := 32 } : Room)) (fun a U => a = #[(.ref o0)] ∧ Z.Warmed39 U.vm ∧ U.heap = h0) (fun _ _ _ _ _ => True) (fun _ U o U' => ∃ v L, o = .returned v ∧ Qtb85 Z o0 w1_buf u0 u1 u2 u3 u4 u5 u6 u7 u8 u9 u10 u11 u12 u13 u14 u15 u16 u17 u18 u19 u20 u21 u22 u23 u24 u25 u26 u27 u28 u29 u30 u31 u32 u33 u34 u35 u36 u37 u38 u39 u40 u41 u42 u43 u44 u45 u46 u47 u48 u49 u50 u51 u52 u53 u54 u55 u56 u57 u58 u59 u60 u61 u62 u63 u64 u65 u66 u67 u68 u69 u70 u71 u72 u73 u74 u75 u76 u77 u78 u79 u80 u81 u82 u83 u84 u85 u86 u87 u88 u89 u90 u91 u92 u93 u94 u95 u96 u97 u98 u99 u100 u101 u102 u103 u104 u105 u106 u107 u108 u109 u110 u111 u112 u113 u114 u115 u116 u117 u118 u119 u120 u121 u122 u123 u124 u125 u126 u127 kA h0 n0 v U'.heap L ∧ FrameEnd U o U' L ({ frames := 2, cells := 1, slots := 85, locals := 32 } : Room).cells ({ frames := 2, cells := 1, slots := 85, locals := 32 } : Room).slots) := by
  refine MetFree.of_bodySF (plainFor_of_name pn_com_example_dispatch_by_catalog_dispatchbycatalog_store_RecordWriter) hisR ?_
  intro p e s m args below meth c s₁ Bd hml0 hP hK
  obtain ⟨rfl, hZ, hh⟩ := hP
  have hx := Bd.exec
  have hby := Bd.bytes
  have hml : c.maxLocals = 1 := hml0
  have hown : s.vm.findClass "com/example/dispatch_by_catalog/dispatchbycatalog/store/RecordWriter" = some m.cls := findClass_of_methodNamed Bd.named
  have hnm := (name_of_methodNamed Bd.named Bd.method).1
  have hlk := BodyLoose.notSynchronized Bd
  have X0 : Stand p l e ({ frames := 2, cells := 1, slots := 85, locals := 32 } : Room) s m #[(.ref o0)] below meth c s₁ [] 0 0 := Stand.of_body Bd
  have e0 : s₁.heap = h0 := by rw [← hh, Bd.state]; rfl
  have N0 := Fr.nil n0
  have pre0 : ∀ t, Steps p.tables e below (s₁.setTop (mkF m 0 #[.val (.ref o0)] [])) t → Steps p.tables e below (s₁.setTop (entryFrame m #[(.ref o0)] 1)) t := fun t k => castTop (ef_tb85 m o0) k
  obtain ⟨T1, X1, e1, st1⟩ := getF X0 hx hZ hown (host := "") (Or.inl (hw _ (List.mem_of_getElem? (i := 10) rfl))) Via.refl e0 F_written_o0 (g := (mkF m 1 #[.val (.ref o0)] [(.ref o0)])) rfl rfl (hb hby d3_1)
  obtain ⟨T2, X2, e2, st2⟩ := getF X1 hx hZ hown (host := "") (Or.inl (hw _ (List.mem_of_getElem? (i := 17) rfl))) Via.refl e1 F_size_o0 (g := (mkF m 5 #[.val (.ref o0)] [(.ref o0), (.ref w1_buf)])) rfl rfl (hb hby d3_5)
  obtain ⟨vr3, _, ⟨T3, L3, k3, n3⟩, -, X3, ⟨Lc3, hQ3, l3, y3, z3⟩, st3⟩ := Jvm.LawKit.callS X2 hx (y := (⟨"java/util/Arrays", "copyOf", "([BI)[B"⟩ : MethodName)) hown (mvT hZ (hw _ (List.mem_of_getElem? (i := 19) rfl))) (mvT hZ (hw _ (List.mem_of_getElem? (i := 20) rfl))) (mvT hZ (hw _ (List.mem_of_getElem? (i := 21) rfl))) (mvT hZ (hw _ (List.mem_of_getElem? (i := 22) rfl))) (by decide) (backOf (W := 0) (rmcp128_85 l Z a0 hw [] w1_buf u0 u1 u2 u3 u4 u5 u6 u7 u8 u9 u10 u11 u12 u13 u14 u15 u16 u17 u18 u19 u20 u21 u22 u23 u24 u25 u26 u27 u28 u29 u30 u31 u32 u33 u34 u35 u36 u37 u38 u39 u40 u41 u42 u43 u44 u45 u46 u47 u48 u49 u50 u51 u52 u53 u54 u55 u56 u57 u58 u59 u60 u61 u62 u63 u64 u65 u66 u67 u68 u69 u70 u71 u72 u73 u74 u75 u76 u77 u78 u79 u80 u81 u82 u83 u84 u85 u86 u87 u88 u89 u90 u91 u92 u93 u94 u95 u96 u97 u98 u99 u100 u101 u102 u103 u104 u105 u106 u107 u108 u109 u110 u111 u112 u113 u114 u115 u116 u117 u118 u119 u120 u121 u122 u123 u124 u125 u126 u127 kA h0 n0 Z0 V_w1_buf) hZ (hw _ (List.mem_of_getElem? (i := 22) rfl)) (hw _ (List.mem_of_getElem? (i := 21) rfl)) (by decide) (by decide)) (g := (mkF m 8 #[.val (.ref o0)] [(.int (85 : Int32)), (.ref w1_buf)])) rfl (by rw [hml]; rfl) (argsL := [(.ref w1_buf), (.int (85 : Int32))]) (rest := []) (lenOf pd___BI__B rfl) rfl (by show 2 * 0 + _ ≤ _; exact Nat.le_of_eq rfl) (hb hby d3_8) (fun _ _ => ⟨rfl, e2, (by decide : 0 + 1 ≤ _), (by decide : 0 + 85 ≤ _)⟩)
  dsimp only [Pt.U, Pt.locs, Pt.cells, Pt.slots] at X3 l3 y3 z3 st3 hQ3
  subst l3 y3 z3
  have N3q := (show _ ∧ _ from hQ3).1
  have hq3 := (show _ ∧ _ from hQ3).2
  clear hQ3
  obtain ⟨xcp128_85_0_3, kcp128_85_1_3, hq3x⟩ := hq3
  have hv3 := hq3x.1
  have szxcp128_85_0_3 := hq3x.2.1
  have K3 := hq3x.2.2.1
  have po3_0 := hq3x.2.2.2
  clear hq3x
  subst hv3
  have ne4 : o0 ≠ xcp128_85_0_3 := Nat.ne_of_lt (Nat.lt_of_lt_of_le E_o0.lt szxcp128_85_0_3)
  have ne5 : w1_buf ≠ xcp128_85_0_3 := Nat.ne_of_lt (Nat.lt_of_lt_of_le V_w1_buf.lt szxcp128_85_0_3)
  have g6 : n0 ≤ xcp128_85_0_3 := Nat.le_trans Z0 szxcp128_85_0_3
  have sz7 : h0.size ≤ xcp128_85_0_3 := Nat.le_trans (Nat.le_refl h0.size) szxcp128_85_0_3
  have z8 : n0 ≤ T3.heap.size := Nat.le_trans Z0 K3.1
  have hs9 : h0.size ≤ T3.heap.size := Nat.le_trans (Nat.le_refl h0.size) K3.1
  have N3 := Fr.app N0 N3q
  obtain ⟨fs, hr, hrun, hended, hW, hsame⟩ := X3.leave (v := some (.ref xcp128_85_0_3)) (fun h => by rw [Bd.returns] at h; cases h) hlk
  refine ⟨_, _, pre0 _ ?_, hrun, hended, _, _, rfl, ?_, ⟨_, rfl⟩, hW, hsame.mono (by decide) (by decide)⟩
  · skip
    show Steps p.tables e below (s₁.setTop (mkF m 0 #[.val (.ref o0)] [])) _
    refine XS.aloadN X0.here hx rfl (hb hby d3_0) rfl rfl ?_
    show Steps p.tables e below (s₁.setTop (mkF m 1 #[.val (.ref o0)] [(.ref o0)])) _
    refine st1 _ ?_
    show Steps p.tables e below (T1.setTop (mkF m 4 #[.val (.ref o0)] [(.ref w1_buf)])) _
    refine XS.aloadN X1.here hx rfl (hb hby d3_4) rfl rfl ?_
    show Steps p.tables e below (T1.setTop (mkF m 5 #[.val (.ref o0)] [(.ref o0), (.ref w1_buf)])) _
    refine st2 _ ?_
    show Steps p.tables e below (T2.setTop (mkF m 8 #[.val (.ref o0)] [(.int (85 : Int32)), (.ref w1_buf)])) _
    refine st3 _ ?_
    show Steps p.tables e below (T3.setTop (mkF m 11 #[.val (.ref o0)] [(.ref xcp128_85_0_3)])) _
    exact X3.areturnOut hx rfl Bd.returns rfl (hb hby d3_11) hr
  · skip
    show Qtb85 Z o0 w1_buf u0 u1 u2 u3 u4 u5 u6 u7 u8 u9 u10 u11 u12 u13 u14 u15 u16 u17 u18 u19 u20 u21 u22 u23 u24 u25 u26 u27 u28 u29 u30 u31 u32 u33 u34 u35 u36 u37 u38 u39 u40 u41 u42 u43 u44 u45 u46 u47 u48 u49 u50 u51 u52 u53 u54 u55 u56 u57 u58 u59 u60 u61 u62 u63 u64 u65 u66 u67 u68 u69 u70 u71 u72 u73 u74 u75 u76 u77 u78 u79 u80 u81 u82 u83 u84 u85 u86 u87 u88 u89 u90 u91 u92 u93 u94 u95 u96 u97 u98 u99 u100 u101 u102 u103 u104 u105 u106 u107 u108 u109 u110 u111 u112 u113 u114 u115 u116 u117 u118 u119 u120 u121 u122 u123 u124 u125 u126 u127 kA h0 n0 _ T3.heap _
    exact ⟨N3, xcp128_85_0_3, kcp128_85_1_3, rfl, sz7, ((Keep.refl h0 []).trans K3 all0), po3_0⟩
theorem d9_0 : decode method_3_code 0 = .ok (.aload_n 0, 1) := by decide +kernel
theorem d9_1 : decode method_3_code 1 = .ok (.iload_n 1, 1) := by decide +kernel
theorem d9_2 : decode method_3_code 2 = .ok (.baload, 1) := by decide +kernel
theorem d9_3 : decode method_3_code 3 = .ok (.lload_n 2, 1) := by decide +kernel
theorem d9_4 : decode method_3_code 4 = .ok (.bipush 56, 2) := by decide +kernel
theorem d9_6 : decode method_3_code 6 = .ok (.lushr, 1) := by decide +kernel
theorem d9_7 : decode method_3_code 7 = .ok (.l2i, 1) := by decide +kernel
theorem d9_8 : decode method_3_code 8 = .ok (.i2b, 1) := by decide +kernel
theorem d9_9 : decode method_3_code 9 = .ok (.if_icmp .ne 104, 3) := by decide +kernel
theorem d9_12 : decode method_3_code 12 = .ok (.aload_n 0, 1) := by decide +kernel
theorem d9_13 : decode method_3_code 13 = .ok (.iload_n 1, 1) := by decide +kernel
theorem d9_14 : decode method_3_code 14 = .ok (.iconst 1, 1) := by decide +kernel
theorem d9_15 : decode method_3_code 15 = .ok (.iadd, 1) := by decide +kernel
theorem d9_16 : decode method_3_code 16 = .ok (.baload, 1) := by decide +kernel
theorem d9_17 : decode method_3_code 17 = .ok (.lload_n 2, 1) := by decide +kernel
theorem d9_18 : decode method_3_code 18 = .ok (.bipush 48, 2) := by decide +kernel
theorem d9_20 : decode method_3_code 20 = .ok (.lushr, 1) := by decide +kernel
theorem d9_21 : decode method_3_code 21 = .ok (.l2i, 1) := by decide +kernel
theorem d9_22 : decode method_3_code 22 = .ok (.i2b, 1) := by decide +kernel
theorem d9_23 : decode method_3_code 23 = .ok (.if_icmp .ne 90, 3) := by decide +kernel
theorem d9_26 : decode method_3_code 26 = .ok (.aload_n 0, 1) := by decide +kernel
theorem d9_27 : decode method_3_code 27 = .ok (.iload_n 1, 1) := by decide +kernel
theorem d9_28 : decode method_3_code 28 = .ok (.iconst 2, 1) := by decide +kernel
theorem d9_29 : decode method_3_code 29 = .ok (.iadd, 1) := by decide +kernel
theorem d9_30 : decode method_3_code 30 = .ok (.baload, 1) := by decide +kernel
theorem d9_31 : decode method_3_code 31 = .ok (.lload_n 2, 1) := by decide +kernel
theorem d9_32 : decode method_3_code 32 = .ok (.bipush 40, 2) := by decide +kernel
theorem d9_34 : decode method_3_code 34 = .ok (.lushr, 1) := by decide +kernel
theorem d9_35 : decode method_3_code 35 = .ok (.l2i, 1) := by decide +kernel
theorem d9_36 : decode method_3_code 36 = .ok (.i2b, 1) := by decide +kernel
theorem d9_37 : decode method_3_code 37 = .ok (.if_icmp .ne 76, 3) := by decide +kernel
theorem d9_40 : decode method_3_code 40 = .ok (.aload_n 0, 1) := by decide +kernel
theorem d9_41 : decode method_3_code 41 = .ok (.iload_n 1, 1) := by decide +kernel
theorem d9_42 : decode method_3_code 42 = .ok (.iconst 3, 1) := by decide +kernel
theorem d9_43 : decode method_3_code 43 = .ok (.iadd, 1) := by decide +kernel
theorem d9_44 : decode method_3_code 44 = .ok (.baload, 1) := by decide +kernel
theorem d9_45 : decode method_3_code 45 = .ok (.lload_n 2, 1) := by decide +kernel
theorem d9_46 : decode method_3_code 46 = .ok (.bipush 32, 2) := by decide +kernel
theorem d9_48 : decode method_3_code 48 = .ok (.lushr, 1) := by decide +kernel
theorem d9_49 : decode method_3_code 49 = .ok (.l2i, 1) := by decide +kernel
theorem d9_50 : decode method_3_code 50 = .ok (.i2b, 1) := by decide +kernel
theorem d9_51 : decode method_3_code 51 = .ok (.if_icmp .ne 62, 3) := by decide +kernel
theorem d9_54 : decode method_3_code 54 = .ok (.aload_n 0, 1) := by decide +kernel
theorem d9_55 : decode method_3_code 55 = .ok (.iload_n 1, 1) := by decide +kernel
theorem d9_56 : decode method_3_code 56 = .ok (.iconst 4, 1) := by decide +kernel
theorem d9_57 : decode method_3_code 57 = .ok (.iadd, 1) := by decide +kernel
theorem d9_58 : decode method_3_code 58 = .ok (.baload, 1) := by decide +kernel
theorem d9_59 : decode method_3_code 59 = .ok (.lload_n 2, 1) := by decide +kernel
theorem d9_60 : decode method_3_code 60 = .ok (.bipush 24, 2) := by decide +kernel
theorem d9_62 : decode method_3_code 62 = .ok (.lushr, 1) := by decide +kernel
theorem d9_63 : decode method_3_code 63 = .ok (.l2i, 1) := by decide +kernel
theorem d9_64 : decode method_3_code 64 = .ok (.i2b, 1) := by decide +kernel
theorem d9_65 : decode method_3_code 65 = .ok (.if_icmp .ne 48, 3) := by decide +kernel
theorem d9_68 : decode method_3_code 68 = .ok (.aload_n 0, 1) := by decide +kernel
theorem d9_69 : decode method_3_code 69 = .ok (.iload_n 1, 1) := by decide +kernel
theorem d9_70 : decode method_3_code 70 = .ok (.iconst 5, 1) := by decide +kernel
theorem d9_71 : decode method_3_code 71 = .ok (.iadd, 1) := by decide +kernel
theorem d9_72 : decode method_3_code 72 = .ok (.baload, 1) := by decide +kernel
theorem d9_73 : decode method_3_code 73 = .ok (.lload_n 2, 1) := by decide +kernel
theorem d9_74 : decode method_3_code 74 = .ok (.bipush 16, 2) := by decide +kernel
theorem d9_76 : decode method_3_code 76 = .ok (.lushr, 1) := by decide +kernel
theorem d9_77 : decode method_3_code 77 = .ok (.l2i, 1) := by decide +kernel
theorem d9_78 : decode method_3_code 78 = .ok (.i2b, 1) := by decide +kernel
theorem d9_79 : decode method_3_code 79 = .ok (.if_icmp .ne 34, 3) := by decide +kernel
theorem d9_82 : decode method_3_code 82 = .ok (.aload_n 0, 1) := by decide +kernel
theorem d9_83 : decode method_3_code 83 = .ok (.iload_n 1, 1) := by decide +kernel
theorem d9_84 : decode method_3_code 84 = .ok (.bipush 6, 2) := by decide +kernel
theorem d9_86 : decode method_3_code 86 = .ok (.iadd, 1) := by decide +kernel
theorem d9_87 : decode method_3_code 87 = .ok (.baload, 1) := by decide +kernel
theorem d9_88 : decode method_3_code 88 = .ok (.lload_n 2, 1) := by decide +kernel
theorem d9_89 : decode method_3_code 89 = .ok (.bipush 8, 2) := by decide +kernel
theorem d9_91 : decode method_3_code 91 = .ok (.lushr, 1) := by decide +kernel
theorem d9_92 : decode method_3_code 92 = .ok (.l2i, 1) := by decide +kernel
theorem d9_93 : decode method_3_code 93 = .ok (.i2b, 1) := by decide +kernel
theorem d9_94 : decode method_3_code 94 = .ok (.if_icmp .ne 19, 3) := by decide +kernel
theorem d9_97 : decode method_3_code 97 = .ok (.aload_n 0, 1) := by decide +kernel
theorem d9_98 : decode method_3_code 98 = .ok (.iload_n 1, 1) := by decide +kernel
theorem d9_99 : decode method_3_code 99 = .ok (.bipush 7, 2) := by decide +kernel
theorem d9_101 : decode method_3_code 101 = .ok (.iadd, 1) := by decide +kernel
theorem d9_102 : decode method_3_code 102 = .ok (.baload, 1) := by decide +kernel
theorem d9_103 : decode method_3_code 103 = .ok (.lload_n 2, 1) := by decide +kernel
theorem d9_104 : decode method_3_code 104 = .ok (.l2i, 1) := by decide +kernel
theorem d9_105 : decode method_3_code 105 = .ok (.i2b, 1) := by decide +kernel
theorem d9_106 : decode method_3_code 106 = .ok (.if_icmp .ne 7, 3) := by decide +kernel
theorem d9_109 : decode method_3_code 109 = .ok (.iconst 1, 1) := by decide +kernel
theorem d9_110 : decode method_3_code 110 = .ok (.goto 4, 3) := by decide +kernel
theorem d9_113 : decode method_3_code 113 = .ok (.iconst 0, 1) := by decide +kernel
theorem d9_114 : decode method_3_code 114 = .ok (.ireturn, 1) := by decide +kernel
theorem pn_com_example_dispatch_by_catalog_dispatchbycatalog_store_RecordWriterToBytesPinLaw : plainName "com/example/dispatch_by_catalog/dispatchbycatalog/store/RecordWriterToBytesPinLaw" = true := by first | (simp [plainName, overriddenIn]; done) | decide +kernel
theorem ef_la17_0 (m : MethodId) (o0 : Addr) (q2 : Int64) : entryFrame m #[(.ref o0), (.int (0 : Int32)), (.long q2)] 4 = mkF m 0 #[.val (.ref o0), .val (.int (0 : Int32)), .val (.long q2), .second] [] := by first | (simp [entryFrame, mkF, argsToLocals, Value.category]; done) | rfl
def vla17_0_1 (q2 : Int64) (w10_b : Int32) (w11_b : Int32) (w12_b : Int32) (w13_b : Int32) (w14_b : Int32) (w15_b : Int32) (w16_b : Int32) (w17_b : Int32) : Int32 := (((XT.ushrL q2 (56 : Int32)).toInt32).toInt8.toInt32)
def vla17_0_2 (q2 : Int64) (w10_b : Int32) (w11_b : Int32) (w12_b : Int32) (w13_b : Int32) (w14_b : Int32) (w15_b : Int32) (w16_b : Int32) (w17_b : Int32) : Int32 := (((XT.ushrL q2 (48 : Int32)).toInt32).toInt8.toInt32)
def vla17_0_3 (q2 : Int64) (w10_b : Int32) (w11_b : Int32) (w12_b : Int32) (w13_b : Int32) (w14_b : Int32) (w15_b : Int32) (w16_b : Int32) (w17_b : Int32) : Int32 := (((XT.ushrL q2 (40 : Int32)).toInt32).toInt8.toInt32)
def vla17_0_4 (q2 : Int64) (w10_b : Int32) (w11_b : Int32) (w12_b : Int32) (w13_b : Int32) (w14_b : Int32) (w15_b : Int32) (w16_b : Int32) (w17_b : Int32) : Int32 := (((XT.ushrL q2 (32 : Int32)).toInt32).toInt8.toInt32)
def vla17_0_5 (q2 : Int64) (w10_b : Int32) (w11_b : Int32) (w12_b : Int32) (w13_b : Int32) (w14_b : Int32) (w15_b : Int32) (w16_b : Int32) (w17_b : Int32) : Int32 := (((XT.ushrL q2 (24 : Int32)).toInt32).toInt8.toInt32)
def vla17_0_6 (q2 : Int64) (w10_b : Int32) (w11_b : Int32) (w12_b : Int32) (w13_b : Int32) (w14_b : Int32) (w15_b : Int32) (w16_b : Int32) (w17_b : Int32) : Int32 := (((XT.ushrL q2 (16 : Int32)).toInt32).toInt8.toInt32)
def vla17_0_7 (q2 : Int64) (w10_b : Int32) (w11_b : Int32) (w12_b : Int32) (w13_b : Int32) (w14_b : Int32) (w15_b : Int32) (w16_b : Int32) (w17_b : Int32) : Int32 := (((XT.ushrL q2 (8 : Int32)).toInt32).toInt8.toInt32)
def vla17_0_8 (q2 : Int64) (w10_b : Int32) (w11_b : Int32) (w12_b : Int32) (w13_b : Int32) (w14_b : Int32) (w15_b : Int32) (w16_b : Int32) (w17_b : Int32) : Int32 := ((q2.toInt32).toInt8.toInt32)
def vla17_0_9 (q2 : Int64) (w10_b : Int32) (w11_b : Int32) (w12_b : Int32) (w13_b : Int32) (w14_b : Int32) (w15_b : Int32) (w16_b : Int32) (w17_b : Int32) : Int32 := (if w10_b = (vla17_0_1 q2 w10_b w11_b w12_b w13_b w14_b w15_b w16_b w17_b) then (if w11_b = (vla17_0_2 q2 w10_b w11_b w12_b w13_b w14_b w15_b w16_b w17_b) then (if w12_b = (vla17_0_3 q2 w10_b w11_b w12_b w13_b w14_b w15_b w16_b w17_b) then (if w13_b = (vla17_0_4 q2 w10_b w11_b w12_b w13_b w14_b w15_b w16_b w17_b) then (if w14_b = (vla17_0_5 q2 w10_b w11_b w12_b w13_b w14_b w15_b w16_b w17_b) then (if w15_b = (vla17_0_6 q2 w10_b w11_b w12_b w13_b w14_b w15_b w16_b w17_b) then (if w16_b = (vla17_0_7 q2 w10_b w11_b w12_b w13_b w14_b w15_b w16_b w17_b) then (if w17_b = (vla17_0_8 q2 w10_b w11_b w12_b w13_b w14_b w15_b w16_b w17_b) then (1 : Int32) else (0 : Int32)) else (0 : Int32)) else (0 : Int32)) else (0 : Int32)) else (0 : Int32)) else (0 : Int32)) else (0 : Int32)) else (0 : Int32))
def fla17_0 (q2 : Int64) (w10_b : Int32) (w11_b : Int32) (w12_b : Int32) (w13_b : Int32) (w14_b : Int32) (w15_b : Int32) (w16_b : Int32) (w17_b : Int32) : Int32 := (nar .boolean (vla17_0_9 q2 w10_b w11_b w12_b w13_b w14_b w15_b w16_b w17_b))
def Qla17_0 (Z : State) (o0 : Addr) (q2 : Int64) (w10_b : Int32) (w11_b : Int32) (w12_b : Int32) (w13_b : Int32) (w14_b : Int32) (w15_b : Int32) (w16_b : Int32) (w17_b : Int32) (u8 : Value) (u9 : Value) (u10 : Value) (u11 : Value) (u12 : Value) (u13 : Value) (u14 : Value) (u15 : Value) (u16 : Value) (kA : ClassId) (h0 : Heap) (n0 : Nat) (v : Option Value) (h : Heap) (L : List Loc) : Prop := Fr n0 L ∧ v = some (.int (fla17_0 q2 w10_b w11_b w12_b w13_b w14_b w15_b w16_b w17_b)) ∧ h = h0
set_option maxRecDepth 65536 in
set_option maxHeartbeats 40000000 in
theorem rmla17_0 (l : Launch) (Z : State) (a0 : Array Value) (hw : ∀ d ∈ tables_1, d.before a0 Z = true) (ws : List Jvm.Cond) (o0 : Addr) (q2 : Int64) (w10_b : Int32) (w11_b : Int32) (w12_b : Int32) (w13_b : Int32) (w14_b : Int32) (w15_b : Int32) (w16_b : Int32) (w17_b : Int32) (u8 : Value) (u9 : Value) (u10 : Value) (u11 : Value) (u12 : Value) (u13 : Value) (u14 : Value) (u15 : Value) (u16 : Value) (kA : ClassId) (h0 : Heap) (n0 : Nat) (Z0 : n0 ≤ h0.size) (V_o0 : Arv Z h0 o0 kA .byte (17 : Int32) [(.int w10_b), (.int w11_b), (.int w12_b), (.int w13_b), (.int w14_b), (.int w15_b), (.int w16_b), (.int w17_b), u8, u9, u10, u11, u12, u13, u14, u15, u16] (.int (0 : Int32))) :
    MetFree l (⟨"com/example/dispatch_by_catalog/dispatchbycatalog/store/RecordWriterToBytesPinLaw", "longAt", "([BIJ)Z"⟩ : MethodName) (head1 (Jvm.Cond.code (⟨"com/example/dispatch_by_catalog/dispatchbycatalog/store/RecordWriterToBytesPinLaw", "longAt", "([BIJ)Z"⟩ : MethodName) method_3_code 4 (some .boolean) :: ws) ({ frames := 0, cells := 0, slots := 0, locals := 0 } : Room)) (fun a U => a = #[(.ref o0), (.int (0 : Int32)), (.long q2)] ∧ Z.Warmed39 U.vm ∧ U.heap = h0) (fun _ _ _ _ _ => True) (fun _ U o U' => ∃ v L, o = .returned v ∧ Qla17_0 Z o0 q2 w10_b w11_b w12_b w13_b w14_b w15_b w16_b w17_b u8 u9 u10 u11 u12 u13 u14 u15 u16 kA h0 n0 v U'.heap L ∧ FrameEnd U o U' L ({ frames := 0, cells := 0, slots := 0, locals := 0 } : Room).cells ({ frames := 0, cells := 0, slots := 0, locals := 0 } : Room).slots) := by
  refine MetFree.of_bodySF (plainFor_of_name pn_com_example_dispatch_by_catalog_dispatchbycatalog_store_RecordWriterToBytesPinLaw) hisR ?_
  intro p e s m args below meth c s₁ Bd hml0 hP hK
  obtain ⟨rfl, hZ, hh⟩ := hP
  have hx := Bd.exec
  have hby := Bd.bytes
  have hml : c.maxLocals = 4 := hml0
  have hown : s.vm.findClass "com/example/dispatch_by_catalog/dispatchbycatalog/store/RecordWriterToBytesPinLaw" = some m.cls := findClass_of_methodNamed Bd.named
  have hnm := (name_of_methodNamed Bd.named Bd.method).1
  have hlk := BodyLoose.notSynchronized Bd
  have X0 : Stand p l e ({ frames := 0, cells := 0, slots := 0, locals := 0 } : Room) s m #[(.ref o0), (.int (0 : Int32)), (.long q2)] below meth c s₁ [] 0 0 := Stand.of_body Bd
  have e0 : s₁.heap = h0 := by rw [← hh, Bd.state]; rfl
  have N0 := Fr.nil n0
  have pre0 : ∀ t, Steps p.tables e below (s₁.setTop (mkF m 0 #[.val (.ref o0), .val (.int (0 : Int32)), .val (.long q2), .second] [])) t → Steps p.tables e below (s₁.setTop (entryFrame m #[(.ref o0), (.int (0 : Int32)), (.long q2)] 4)) t := fun t k => castTop (ef_la17_0 m o0 q2) k
  obtain ⟨cl1, Ar1, qc1, S1, M1, Ha1, G1⟩ := id V_o0
  have hin2 : ¬ ((0 : Int32) < 0 ∨ cl1.slots.size ≤ ((0 : Int32)).toNatClampNeg) := inb_of S1 ⟨by decide, by decide⟩
  have pre3 : ∀ t, Steps p.tables e below (s₁.setTop (mkF m 9 #[.val (.ref o0), .val (.int (0 : Int32)), .val (.long q2), .second] [(.int (((XT.ushrL q2 (56 : Int32)).toInt32).toInt8.toInt32)), (.int w10_b)])) t → Steps p.tables e below (s₁.setTop (entryFrame m #[(.ref o0), (.int (0 : Int32)), (.long q2)] 4)) t := by
    intro t k
    refine pre0 t ?_
    show Steps p.tables e below (s₁.setTop (mkF m 0 #[.val (.ref o0), .val (.int (0 : Int32)), .val (.long q2), .second] [])) _
    refine XS.aloadN X0.here hx rfl (hb hby d9_0) rfl rfl ?_
    show Steps p.tables e below (s₁.setTop (mkF m 1 #[.val (.ref o0), .val (.int (0 : Int32)), .val (.long q2), .second] [(.ref o0)])) _
    refine XS.iloadN X0.here hx rfl (hb hby d9_1) rfl ?_
    show Steps p.tables e below (s₁.setTop (mkF m 2 #[.val (.ref o0), .val (.int (0 : Int32)), .val (.long q2), .second] [(.int (0 : Int32)), (.ref o0)])) _
    refine X0.baloadBytes hx (j := (0 : Int32)) (v := (.int w10_b)) (by rw [e0]; exact Ar1.1) (State.isArrayOf_alike hZ.alike Ar1.2.1) Ar1.2.2 hin2 (Has.at Ha1 hin2 rfl) (g := (mkF m 2 #[.val (.ref o0), .val (.int (0 : Int32)), .val (.long q2), .second] [(.int (0 : Int32)), (.ref o0)])) rfl rfl (hb hby d9_2) _ ?_
    show Steps p.tables e below (s₁.setTop (mkF m 3 #[.val (.ref o0), .val (.int (0 : Int32)), .val (.long q2), .second] [(.int w10_b)])) _
    refine XT.lloadN X0.here hx rfl (hb hby d9_3) rfl ?_
    show Steps p.tables e below (s₁.setTop (mkF m 4 #[.val (.ref o0), .val (.int (0 : Int32)), .val (.long q2), .second] [(.long q2), (.int w10_b)])) _
    refine XT.bipushV X0.here hx rfl (56 : Int32) (hb hby d9_4) (by decide) ?_
    show Steps p.tables e below (s₁.setTop (mkF m 6 #[.val (.ref o0), .val (.int (0 : Int32)), .val (.long q2), .second] [(.int (56 : Int32)), (.long q2), (.int w10_b)])) _
    refine XT.lushr X0.here hx rfl (hb hby d9_6) rfl ?_
    show Steps p.tables e below (s₁.setTop (mkF m 7 #[.val (.ref o0), .val (.int (0 : Int32)), .val (.long q2), .second] [(.long (XT.ushrL q2 (56 : Int32))), (.int w10_b)])) _
    refine XT.l2i X0.here hx rfl (hb hby d9_7) rfl ?_
    show Steps p.tables e below (s₁.setTop (mkF m 8 #[.val (.ref o0), .val (.int (0 : Int32)), .val (.long q2), .second] [(.int ((XT.ushrL q2 (56 : Int32)).toInt32)), (.int w10_b)])) _
    refine XT.i2b X0.here hx rfl (hb hby d9_8) rfl ?_
    exact k
  clear pre0
  have pre26 : ∀ t, Steps p.tables e below (s₁.setTop (mkF m 114 #[.val (.ref o0), .val (.int (0 : Int32)), .val (.long q2), .second] [(.int (vla17_0_9 q2 w10_b w11_b w12_b w13_b w14_b w15_b w16_b w17_b))])) t → Steps p.tables e below (s₁.setTop (entryFrame m #[(.ref o0), (.int (0 : Int32)), (.long q2)] 4)) t := by
    intro t k
    by_cases c4 : w10_b = (vla17_0_1 q2 w10_b w11_b w12_b w13_b w14_b w15_b w16_b w17_b)
    · skip
      have hin5 : ¬ ((1 : Int32) < 0 ∨ cl1.slots.size ≤ ((1 : Int32)).toNatClampNeg) := inb_of S1 ⟨by decide, by decide⟩
      have pre6 : ∀ t, Steps p.tables e below (s₁.setTop (mkF m 23 #[.val (.ref o0), .val (.int (0 : Int32)), .val (.long q2), .second] [(.int (((XT.ushrL q2 (48 : Int32)).toInt32).toInt8.toInt32)), (.int w11_b)])) t → Steps p.tables e below (s₁.setTop (entryFrame m #[(.ref o0), (.int (0 : Int32)), (.long q2)] 4)) t := by
        intro t k
        refine pre3 t ?_
        show Steps p.tables e below (s₁.setTop (mkF m 9 #[.val (.ref o0), .val (.int (0 : Int32)), .val (.long q2), .second] [(.int (((XT.ushrL q2 (56 : Int32)).toInt32).toInt8.toInt32)), (.int w10_b)])) _
        refine XS.icmpNo X0.here hx rfl (hb hby d9_9) rfl (XT.ii_ne_f c4) ?_
        show Steps p.tables e below (s₁.setTop (mkF m 12 #[.val (.ref o0), .val (.int (0 : Int32)), .val (.long q2), .second] [])) _
        refine XS.aloadN X0.here hx rfl (hb hby d9_12) rfl rfl ?_
        show Steps p.tables e below (s₁.setTop (mkF m 13 #[.val (.ref o0), .val (.int (0 : Int32)), .val (.long q2), .second] [(.ref o0)])) _
        refine XS.iloadN X0.here hx rfl (hb hby d9_13) rfl ?_
        show Steps p.tables e below (s₁.setTop (mkF m 14 #[.val (.ref o0), .val (.int (0 : Int32)), .val (.long q2), .second] [(.int (0 : Int32)), (.ref o0)])) _
        refine XT.iconstV X0.here hx rfl (1 : Int32) (hb hby d9_14) (by decide) ?_
        show Steps p.tables e below (s₁.setTop (mkF m 15 #[.val (.ref o0), .val (.int (0 : Int32)), .val (.long q2), .second] [(.int (1 : Int32)), (.int (0 : Int32)), (.ref o0)])) _
        refine XS.iadd X0.here hx rfl (hb hby d9_15) rfl ?_
        show Steps p.tables e below (s₁.setTop (mkF m 16 #[.val (.ref o0), .val (.int (0 : Int32)), .val (.long q2), .second] [(.int (1 : Int32)), (.ref o0)])) _
        refine X0.baloadBytes hx (j := (1 : Int32)) (v := (.int w11_b)) (by rw [e0]; exact Ar1.1) (State.isArrayOf_alike hZ.alike Ar1.2.1) Ar1.2.2 hin5 (Has.at Ha1 hin5 rfl) (g := (mkF m 16 #[.val (.ref o0), .val (.int (0 : Int32)), .val (.long q2), .second] [(.int (1 : Int32)), (.ref o0)])) rfl rfl (hb hby d9_16) _ ?_
        show Steps p.tables e below (s₁.setTop (mkF m 17 #[.val (.ref o0), .val (.int (0 : Int32)), .val (.long q2), .second] [(.int w11_b)])) _
        refine XT.lloadN X0.here hx rfl (hb hby d9_17) rfl ?_
        show Steps p.tables e below (s₁.setTop (mkF m 18 #[.val (.ref o0), .val (.int (0 : Int32)), .val (.long q2), .second] [(.long q2), (.int w11_b)])) _
        refine XT.bipushV X0.here hx rfl (48 : Int32) (hb hby d9_18) (by decide) ?_
        show Steps p.tables e below (s₁.setTop (mkF m 20 #[.val (.ref o0), .val (.int (0 : Int32)), .val (.long q2), .second] [(.int (48 : Int32)), (.long q2), (.int w11_b)])) _
        refine XT.lushr X0.here hx rfl (hb hby d9_20) rfl ?_
        show Steps p.tables e below (s₁.setTop (mkF m 21 #[.val (.ref o0), .val (.int (0 : Int32)), .val (.long q2), .second] [(.long (XT.ushrL q2 (48 : Int32))), (.int w11_b)])) _
        refine XT.l2i X0.here hx rfl (hb hby d9_21) rfl ?_
        show Steps p.tables e below (s₁.setTop (mkF m 22 #[.val (.ref o0), .val (.int (0 : Int32)), .val (.long q2), .second] [(.int ((XT.ushrL q2 (48 : Int32)).toInt32)), (.int w11_b)])) _
        refine XT.i2b X0.here hx rfl (hb hby d9_22) rfl ?_
        exact k
      clear pre3
      by_cases c7 : w11_b = (vla17_0_2 q2 w10_b w11_b w12_b w13_b w14_b w15_b w16_b w17_b)
      · skip
        have hin8 : ¬ ((2 : Int32) < 0 ∨ cl1.slots.size ≤ ((2 : Int32)).toNatClampNeg) := inb_of S1 ⟨by decide, by decide⟩
        have pre9 : ∀ t, Steps p.tables e below (s₁.setTop (mkF m 37 #[.val (.ref o0), .val (.int (0 : Int32)), .val (.long q2), .second] [(.int (((XT.ushrL q2 (40 : Int32)).toInt32).toInt8.toInt32)), (.int w12_b)])) t → Steps p.tables e below (s₁.setTop (entryFrame m #[(.ref o0), (.int (0 : Int32)), (.long q2)] 4)) t := by
          intro t k
          refine pre6 t ?_
          show Steps p.tables e below (s₁.setTop (mkF m 23 #[.val (.ref o0), .val (.int (0 : Int32)), .val (.long q2), .second] [(.int (((XT.ushrL q2 (48 : Int32)).toInt32).toInt8.toInt32)), (.int w11_b)])) _
          refine XS.icmpNo X0.here hx rfl (hb hby d9_23) rfl (XT.ii_ne_f c7) ?_
          show Steps p.tables e below (s₁.setTop (mkF m 26 #[.val (.ref o0), .val (.int (0 : Int32)), .val (.long q2), .second] [])) _
          refine XS.aloadN X0.here hx rfl (hb hby d9_26) rfl rfl ?_
          show Steps p.tables e below (s₁.setTop (mkF m 27 #[.val (.ref o0), .val (.int (0 : Int32)), .val (.long q2), .second] [(.ref o0)])) _
          refine XS.iloadN X0.here hx rfl (hb hby d9_27) rfl ?_
          show Steps p.tables e below (s₁.setTop (mkF m 28 #[.val (.ref o0), .val (.int (0 : Int32)), .val (.long q2), .second] [(.int (0 : Int32)), (.ref o0)])) _
          refine XT.iconstV X0.here hx rfl (2 : Int32) (hb hby d9_28) (by decide) ?_
          show Steps p.tables e below (s₁.setTop (mkF m 29 #[.val (.ref o0), .val (.int (0 : Int32)), .val (.long q2), .second] [(.int (2 : Int32)), (.int (0 : Int32)), (.ref o0)])) _
          refine XS.iadd X0.here hx rfl (hb hby d9_29) rfl ?_
          show Steps p.tables e below (s₁.setTop (mkF m 30 #[.val (.ref o0), .val (.int (0 : Int32)), .val (.long q2), .second] [(.int (2 : Int32)), (.ref o0)])) _
          refine X0.baloadBytes hx (j := (2 : Int32)) (v := (.int w12_b)) (by rw [e0]; exact Ar1.1) (State.isArrayOf_alike hZ.alike Ar1.2.1) Ar1.2.2 hin8 (Has.at Ha1 hin8 rfl) (g := (mkF m 30 #[.val (.ref o0), .val (.int (0 : Int32)), .val (.long q2), .second] [(.int (2 : Int32)), (.ref o0)])) rfl rfl (hb hby d9_30) _ ?_
          show Steps p.tables e below (s₁.setTop (mkF m 31 #[.val (.ref o0), .val (.int (0 : Int32)), .val (.long q2), .second] [(.int w12_b)])) _
          refine XT.lloadN X0.here hx rfl (hb hby d9_31) rfl ?_
          show Steps p.tables e below (s₁.setTop (mkF m 32 #[.val (.ref o0), .val (.int (0 : Int32)), .val (.long q2), .second] [(.long q2), (.int w12_b)])) _
          refine XT.bipushV X0.here hx rfl (40 : Int32) (hb hby d9_32) (by decide) ?_
          show Steps p.tables e below (s₁.setTop (mkF m 34 #[.val (.ref o0), .val (.int (0 : Int32)), .val (.long q2), .second] [(.int (40 : Int32)), (.long q2), (.int w12_b)])) _
          refine XT.lushr X0.here hx rfl (hb hby d9_34) rfl ?_
          show Steps p.tables e below (s₁.setTop (mkF m 35 #[.val (.ref o0), .val (.int (0 : Int32)), .val (.long q2), .second] [(.long (XT.ushrL q2 (40 : Int32))), (.int w12_b)])) _
          refine XT.l2i X0.here hx rfl (hb hby d9_35) rfl ?_
          show Steps p.tables e below (s₁.setTop (mkF m 36 #[.val (.ref o0), .val (.int (0 : Int32)), .val (.long q2), .second] [(.int ((XT.ushrL q2 (40 : Int32)).toInt32)), (.int w12_b)])) _
          refine XT.i2b X0.here hx rfl (hb hby d9_36) rfl ?_
          exact k
        clear pre6
        by_cases c10 : w12_b = (vla17_0_3 q2 w10_b w11_b w12_b w13_b w14_b w15_b w16_b w17_b)
        · skip
          have hin11 : ¬ ((3 : Int32) < 0 ∨ cl1.slots.size ≤ ((3 : Int32)).toNatClampNeg) := inb_of S1 ⟨by decide, by decide⟩
          have pre12 : ∀ t, Steps p.tables e below (s₁.setTop (mkF m 51 #[.val (.ref o0), .val (.int (0 : Int32)), .val (.long q2), .second] [(.int (((XT.ushrL q2 (32 : Int32)).toInt32).toInt8.toInt32)), (.int w13_b)])) t → Steps p.tables e below (s₁.setTop (entryFrame m #[(.ref o0), (.int (0 : Int32)), (.long q2)] 4)) t := by
            intro t k
            refine pre9 t ?_
            show Steps p.tables e below (s₁.setTop (mkF m 37 #[.val (.ref o0), .val (.int (0 : Int32)), .val (.long q2), .second] [(.int (((XT.ushrL q2 (40 : Int32)).toInt32).toInt8.toInt32)), (.int w12_b)])) _
            refine XS.icmpNo X0.here hx rfl (hb hby d9_37) rfl (XT.ii_ne_f c10) ?_
            show Steps p.tables e below (s₁.setTop (mkF m 40 #[.val (.ref o0), .val (.int (0 : Int32)), .val (.long q2), .second] [])) _
            refine XS.aloadN X0.here hx rfl (hb hby d9_40) rfl rfl ?_
            show Steps p.tables e below (s₁.setTop (mkF m 41 #[.val (.ref o0), .val (.int (0 : Int32)), .val (.long q2), .second] [(.ref o0)])) _
            refine XS.iloadN X0.here hx rfl (hb hby d9_41) rfl ?_
            show Steps p.tables e below (s₁.setTop (mkF m 42 #[.val (.ref o0), .val (.int (0 : Int32)), .val (.long q2), .second] [(.int (0 : Int32)), (.ref o0)])) _
            refine XT.iconstV X0.here hx rfl (3 : Int32) (hb hby d9_42) (by decide) ?_
            show Steps p.tables e below (s₁.setTop (mkF m 43 #[.val (.ref o0), .val (.int (0 : Int32)), .val (.long q2), .second] [(.int (3 : Int32)), (.int (0 : Int32)), (.ref o0)])) _
            refine XS.iadd X0.here hx rfl (hb hby d9_43) rfl ?_
            show Steps p.tables e below (s₁.setTop (mkF m 44 #[.val (.ref o0), .val (.int (0 : Int32)), .val (.long q2), .second] [(.int (3 : Int32)), (.ref o0)])) _
            refine X0.baloadBytes hx (j := (3 : Int32)) (v := (.int w13_b)) (by rw [e0]; exact Ar1.1) (State.isArrayOf_alike hZ.alike Ar1.2.1) Ar1.2.2 hin11 (Has.at Ha1 hin11 rfl) (g := (mkF m 44 #[.val (.ref o0), .val (.int (0 : Int32)), .val (.long q2), .second] [(.int (3 : Int32)), (.ref o0)])) rfl rfl (hb hby d9_44) _ ?_
            show Steps p.tables e below (s₁.setTop (mkF m 45 #[.val (.ref o0), .val (.int (0 : Int32)), .val (.long q2), .second] [(.int w13_b)])) _
            refine XT.lloadN X0.here hx rfl (hb hby d9_45) rfl ?_
            show Steps p.tables e below (s₁.setTop (mkF m 46 #[.val (.ref o0), .val (.int (0 : Int32)), .val (.long q2), .second] [(.long q2), (.int w13_b)])) _
            refine XT.bipushV X0.here hx rfl (32 : Int32) (hb hby d9_46) (by decide) ?_
            show Steps p.tables e below (s₁.setTop (mkF m 48 #[.val (.ref o0), .val (.int (0 : Int32)), .val (.long q2), .second] [(.int (32 : Int32)), (.long q2), (.int w13_b)])) _
            refine XT.lushr X0.here hx rfl (hb hby d9_48) rfl ?_
            show Steps p.tables e below (s₁.setTop (mkF m 49 #[.val (.ref o0), .val (.int (0 : Int32)), .val (.long q2), .second] [(.long (XT.ushrL q2 (32 : Int32))), (.int w13_b)])) _
            refine XT.l2i X0.here hx rfl (hb hby d9_49) rfl ?_
            show Steps p.tables e below (s₁.setTop (mkF m 50 #[.val (.ref o0), .val (.int (0 : Int32)), .val (.long q2), .second] [(.int ((XT.ushrL q2 (32 : Int32)).toInt32)), (.int w13_b)])) _
            refine XT.i2b X0.here hx rfl (hb hby d9_50) rfl ?_
            exact k
          clear pre9
          by_cases c13 : w13_b = (vla17_0_4 q2 w10_b w11_b w12_b w13_b w14_b w15_b w16_b w17_b)
          · skip
            have hin14 : ¬ ((4 : Int32) < 0 ∨ cl1.slots.size ≤ ((4 : Int32)).toNatClampNeg) := inb_of S1 ⟨by decide, by decide⟩
            have pre15 : ∀ t, Steps p.tables e below (s₁.setTop (mkF m 65 #[.val (.ref o0), .val (.int (0 : Int32)), .val (.long q2), .second] [(.int (((XT.ushrL q2 (24 : Int32)).toInt32).toInt8.toInt32)), (.int w14_b)])) t → Steps p.tables e below (s₁.setTop (entryFrame m #[(.ref o0), (.int (0 : Int32)), (.long q2)] 4)) t := by
              intro t k
              refine pre12 t ?_
              show Steps p.tables e below (s₁.setTop (mkF m 51 #[.val (.ref o0), .val (.int (0 : Int32)), .val (.long q2), .second] [(.int (((XT.ushrL q2 (32 : Int32)).toInt32).toInt8.toInt32)), (.int w13_b)])) _
              refine XS.icmpNo X0.here hx rfl (hb hby d9_51) rfl (XT.ii_ne_f c13) ?_
              show Steps p.tables e below (s₁.setTop (mkF m 54 #[.val (.ref o0), .val (.int (0 : Int32)), .val (.long q2), .second] [])) _
              refine XS.aloadN X0.here hx rfl (hb hby d9_54) rfl rfl ?_
              show Steps p.tables e below (s₁.setTop (mkF m 55 #[.val (.ref o0), .val (.int (0 : Int32)), .val (.long q2), .second] [(.ref o0)])) _
              refine XS.iloadN X0.here hx rfl (hb hby d9_55) rfl ?_
              show Steps p.tables e below (s₁.setTop (mkF m 56 #[.val (.ref o0), .val (.int (0 : Int32)), .val (.long q2), .second] [(.int (0 : Int32)), (.ref o0)])) _
              refine XT.iconstV X0.here hx rfl (4 : Int32) (hb hby d9_56) (by decide) ?_
              show Steps p.tables e below (s₁.setTop (mkF m 57 #[.val (.ref o0), .val (.int (0 : Int32)), .val (.long q2), .second] [(.int (4 : Int32)), (.int (0 : Int32)), (.ref o0)])) _
              refine XS.iadd X0.here hx rfl (hb hby d9_57) rfl ?_
              show Steps p.tables e below (s₁.setTop (mkF m 58 #[.val (.ref o0), .val (.int (0 : Int32)), .val (.long q2), .second] [(.int (4 : Int32)), (.ref o0)])) _
              refine X0.baloadBytes hx (j := (4 : Int32)) (v := (.int w14_b)) (by rw [e0]; exact Ar1.1) (State.isArrayOf_alike hZ.alike Ar1.2.1) Ar1.2.2 hin14 (Has.at Ha1 hin14 rfl) (g := (mkF m 58 #[.val (.ref o0), .val (.int (0 : Int32)), .val (.long q2), .second] [(.int (4 : Int32)), (.ref o0)])) rfl rfl (hb hby d9_58) _ ?_
              show Steps p.tables e below (s₁.setTop (mkF m 59 #[.val (.ref o0), .val (.int (0 : Int32)), .val (.long q2), .second] [(.int w14_b)])) _
              refine XT.lloadN X0.here hx rfl (hb hby d9_59) rfl ?_
              show Steps p.tables e below (s₁.setTop (mkF m 60 #[.val (.ref o0), .val (.int (0 : Int32)), .val (.long q2), .second] [(.long q2), (.int w14_b)])) _
              refine XT.bipushV X0.here hx rfl (24 : Int32) (hb hby d9_60) (by decide) ?_
              show Steps p.tables e below (s₁.setTop (mkF m 62 #[.val (.ref o0), .val (.int (0 : Int32)), .val (.long q2), .second] [(.int (24 : Int32)), (.long q2), (.int w14_b)])) _
              refine XT.lushr X0.here hx rfl (hb hby d9_62) rfl ?_
              show Steps p.tables e below (s₁.setTop (mkF m 63 #[.val (.ref o0), .val (.int (0 : Int32)), .val (.long q2), .second] [(.long (XT.ushrL q2 (24 : Int32))), (.int w14_b)])) _
              refine XT.l2i X0.here hx rfl (hb hby d9_63) rfl ?_
              show Steps p.tables e below (s₁.setTop (mkF m 64 #[.val (.ref o0), .val (.int (0 : Int32)), .val (.long q2), .second] [(.int ((XT.ushrL q2 (24 : Int32)).toInt32)), (.int w14_b)])) _
              refine XT.i2b X0.here hx rfl (hb hby d9_64) rfl ?_
              exact k
            clear pre12
            by_cases c16 : w14_b = (vla17_0_5 q2 w10_b w11_b w12_b w13_b w14_b w15_b w16_b w17_b)
            · skip
              have hin17 : ¬ ((5 : Int32) < 0 ∨ cl1.slots.size ≤ ((5 : Int32)).toNatClampNeg) := inb_of S1 ⟨by decide, by decide⟩
              have pre18 : ∀ t, Steps p.tables e below (s₁.setTop (mkF m 79 #[.val (.ref o0), .val (.int (0 : Int32)), .val (.long q2), .second] [(.int (((XT.ushrL q2 (16 : Int32)).toInt32).toInt8.toInt32)), (.int w15_b)])) t → Steps p.tables e below (s₁.setTop (entryFrame m #[(.ref o0), (.int (0 : Int32)), (.long q2)] 4)) t := by
                intro t k
                refine pre15 t ?_
                show Steps p.tables e below (s₁.setTop (mkF m 65 #[.val (.ref o0), .val (.int (0 : Int32)), .val (.long q2), .second] [(.int (((XT.ushrL q2 (24 : Int32)).toInt32).toInt8.toInt32)), (.int w14_b)])) _
                refine XS.icmpNo X0.here hx rfl (hb hby d9_65) rfl (XT.ii_ne_f c16) ?_
                show Steps p.tables e below (s₁.setTop (mkF m 68 #[.val (.ref o0), .val (.int (0 : Int32)), .val (.long q2), .second] [])) _
                refine XS.aloadN X0.here hx rfl (hb hby d9_68) rfl rfl ?_
                show Steps p.tables e below (s₁.setTop (mkF m 69 #[.val (.ref o0), .val (.int (0 : Int32)), .val (.long q2), .second] [(.ref o0)])) _
                refine XS.iloadN X0.here hx rfl (hb hby d9_69) rfl ?_
                show Steps p.tables e below (s₁.setTop (mkF m 70 #[.val (.ref o0), .val (.int (0 : Int32)), .val (.long q2), .second] [(.int (0 : Int32)), (.ref o0)])) _
                refine XT.iconstV X0.here hx rfl (5 : Int32) (hb hby d9_70) (by decide) ?_
                show Steps p.tables e below (s₁.setTop (mkF m 71 #[.val (.ref o0), .val (.int (0 : Int32)), .val (.long q2), .second] [(.int (5 : Int32)), (.int (0 : Int32)), (.ref o0)])) _
                refine XS.iadd X0.here hx rfl (hb hby d9_71) rfl ?_
                show Steps p.tables e below (s₁.setTop (mkF m 72 #[.val (.ref o0), .val (.int (0 : Int32)), .val (.long q2), .second] [(.int (5 : Int32)), (.ref o0)])) _
                refine X0.baloadBytes hx (j := (5 : Int32)) (v := (.int w15_b)) (by rw [e0]; exact Ar1.1) (State.isArrayOf_alike hZ.alike Ar1.2.1) Ar1.2.2 hin17 (Has.at Ha1 hin17 rfl) (g := (mkF m 72 #[.val (.ref o0), .val (.int (0 : Int32)), .val (.long q2), .second] [(.int (5 : Int32)), (.ref o0)])) rfl rfl (hb hby d9_72) _ ?_
                show Steps p.tables e below (s₁.setTop (mkF m 73 #[.val (.ref o0), .val (.int (0 : Int32)), .val (.long q2), .second] [(.int w15_b)])) _
                refine XT.lloadN X0.here hx rfl (hb hby d9_73) rfl ?_
                show Steps p.tables e below (s₁.setTop (mkF m 74 #[.val (.ref o0), .val (.int (0 : Int32)), .val (.long q2), .second] [(.long q2), (.int w15_b)])) _
                refine XT.bipushV X0.here hx rfl (16 : Int32) (hb hby d9_74) (by decide) ?_
                show Steps p.tables e below (s₁.setTop (mkF m 76 #[.val (.ref o0), .val (.int (0 : Int32)), .val (.long q2), .second] [(.int (16 : Int32)), (.long q2), (.int w15_b)])) _
                refine XT.lushr X0.here hx rfl (hb hby d9_76) rfl ?_
                show Steps p.tables e below (s₁.setTop (mkF m 77 #[.val (.ref o0), .val (.int (0 : Int32)), .val (.long q2), .second] [(.long (XT.ushrL q2 (16 : Int32))), (.int w15_b)])) _
                refine XT.l2i X0.here hx rfl (hb hby d9_77) rfl ?_
                show Steps p.tables e below (s₁.setTop (mkF m 78 #[.val (.ref o0), .val (.int (0 : Int32)), .val (.long q2), .second] [(.int ((XT.ushrL q2 (16 : Int32)).toInt32)), (.int w15_b)])) _
                refine XT.i2b X0.here hx rfl (hb hby d9_78) rfl ?_
                exact k
              clear pre15
              by_cases c19 : w15_b = (vla17_0_6 q2 w10_b w11_b w12_b w13_b w14_b w15_b w16_b w17_b)
              · skip
                have hin20 : ¬ ((6 : Int32) < 0 ∨ cl1.slots.size ≤ ((6 : Int32)).toNatClampNeg) := inb_of S1 ⟨by decide, by decide⟩
                have pre21 : ∀ t, Steps p.tables e below (s₁.setTop (mkF m 94 #[.val (.ref o0), .val (.int (0 : Int32)), .val (.long q2), .second] [(.int (((XT.ushrL q2 (8 : Int32)).toInt32).toInt8.toInt32)), (.int w16_b)])) t → Steps p.tables e below (s₁.setTop (entryFrame m #[(.ref o0), (.int (0 : Int32)), (.long q2)] 4)) t := by
                  intro t k
                  refine pre18 t ?_
                  show Steps p.tables e below (s₁.setTop (mkF m 79 #[.val (.ref o0), .val (.int (0 : Int32)), .val (.long q2), .second] [(.int (((XT.ushrL q2 (16 : Int32)).toInt32).toInt8.toInt32)), (.int w15_b)])) _
                  refine XS.icmpNo X0.here hx rfl (hb hby d9_79) rfl (XT.ii_ne_f c19) ?_
                  show Steps p.tables e below (s₁.setTop (mkF m 82 #[.val (.ref o0), .val (.int (0 : Int32)), .val (.long q2), .second] [])) _
                  refine XS.aloadN X0.here hx rfl (hb hby d9_82) rfl rfl ?_
                  show Steps p.tables e below (s₁.setTop (mkF m 83 #[.val (.ref o0), .val (.int (0 : Int32)), .val (.long q2), .second] [(.ref o0)])) _
                  refine XS.iloadN X0.here hx rfl (hb hby d9_83) rfl ?_
                  show Steps p.tables e below (s₁.setTop (mkF m 84 #[.val (.ref o0), .val (.int (0 : Int32)), .val (.long q2), .second] [(.int (0 : Int32)), (.ref o0)])) _
                  refine XT.bipushV X0.here hx rfl (6 : Int32) (hb hby d9_84) (by decide) ?_
                  show Steps p.tables e below (s₁.setTop (mkF m 86 #[.val (.ref o0), .val (.int (0 : Int32)), .val (.long q2), .second] [(.int (6 : Int32)), (.int (0 : Int32)), (.ref o0)])) _
                  refine XS.iadd X0.here hx rfl (hb hby d9_86) rfl ?_
                  show Steps p.tables e below (s₁.setTop (mkF m 87 #[.val (.ref o0), .val (.int (0 : Int32)), .val (.long q2), .second] [(.int (6 : Int32)), (.ref o0)])) _
                  refine X0.baloadBytes hx (j := (6 : Int32)) (v := (.int w16_b)) (by rw [e0]; exact Ar1.1) (State.isArrayOf_alike hZ.alike Ar1.2.1) Ar1.2.2 hin20 (Has.at Ha1 hin20 rfl) (g := (mkF m 87 #[.val (.ref o0), .val (.int (0 : Int32)), .val (.long q2), .second] [(.int (6 : Int32)), (.ref o0)])) rfl rfl (hb hby d9_87) _ ?_
                  show Steps p.tables e below (s₁.setTop (mkF m 88 #[.val (.ref o0), .val (.int (0 : Int32)), .val (.long q2), .second] [(.int w16_b)])) _
                  refine XT.lloadN X0.here hx rfl (hb hby d9_88) rfl ?_
                  show Steps p.tables e below (s₁.setTop (mkF m 89 #[.val (.ref o0), .val (.int (0 : Int32)), .val (.long q2), .second] [(.long q2), (.int w16_b)])) _
                  refine XT.bipushV X0.here hx rfl (8 : Int32) (hb hby d9_89) (by decide) ?_
                  show Steps p.tables e below (s₁.setTop (mkF m 91 #[.val (.ref o0), .val (.int (0 : Int32)), .val (.long q2), .second] [(.int (8 : Int32)), (.long q2), (.int w16_b)])) _
                  refine XT.lushr X0.here hx rfl (hb hby d9_91) rfl ?_
                  show Steps p.tables e below (s₁.setTop (mkF m 92 #[.val (.ref o0), .val (.int (0 : Int32)), .val (.long q2), .second] [(.long (XT.ushrL q2 (8 : Int32))), (.int w16_b)])) _
                  refine XT.l2i X0.here hx rfl (hb hby d9_92) rfl ?_
                  show Steps p.tables e below (s₁.setTop (mkF m 93 #[.val (.ref o0), .val (.int (0 : Int32)), .val (.long q2), .second] [(.int ((XT.ushrL q2 (8 : Int32)).toInt32)), (.int w16_b)])) _
                  refine XT.i2b X0.here hx rfl (hb hby d9_93) rfl ?_
                  exact k
                clear pre18
                by_cases c22 : w16_b = (vla17_0_7 q2 w10_b w11_b w12_b w13_b w14_b w15_b w16_b w17_b)
                · skip
                  have hin23 : ¬ ((7 : Int32) < 0 ∨ cl1.slots.size ≤ ((7 : Int32)).toNatClampNeg) := inb_of S1 ⟨by decide, by decide⟩
                  have pre24 : ∀ t, Steps p.tables e below (s₁.setTop (mkF m 106 #[.val (.ref o0), .val (.int (0 : Int32)), .val (.long q2), .second] [(.int ((q2.toInt32).toInt8.toInt32)), (.int w17_b)])) t → Steps p.tables e below (s₁.setTop (entryFrame m #[(.ref o0), (.int (0 : Int32)), (.long q2)] 4)) t := by
                    intro t k
                    refine pre21 t ?_
                    show Steps p.tables e below (s₁.setTop (mkF m 94 #[.val (.ref o0), .val (.int (0 : Int32)), .val (.long q2), .second] [(.int (((XT.ushrL q2 (8 : Int32)).toInt32).toInt8.toInt32)), (.int w16_b)])) _
                    refine XS.icmpNo X0.here hx rfl (hb hby d9_94) rfl (XT.ii_ne_f c22) ?_
                    show Steps p.tables e below (s₁.setTop (mkF m 97 #[.val (.ref o0), .val (.int (0 : Int32)), .val (.long q2), .second] [])) _
                    refine XS.aloadN X0.here hx rfl (hb hby d9_97) rfl rfl ?_
                    show Steps p.tables e below (s₁.setTop (mkF m 98 #[.val (.ref o0), .val (.int (0 : Int32)), .val (.long q2), .second] [(.ref o0)])) _
                    refine XS.iloadN X0.here hx rfl (hb hby d9_98) rfl ?_
                    show Steps p.tables e below (s₁.setTop (mkF m 99 #[.val (.ref o0), .val (.int (0 : Int32)), .val (.long q2), .second] [(.int (0 : Int32)), (.ref o0)])) _
                    refine XT.bipushV X0.here hx rfl (7 : Int32) (hb hby d9_99) (by decide) ?_
                    show Steps p.tables e below (s₁.setTop (mkF m 101 #[.val (.ref o0), .val (.int (0 : Int32)), .val (.long q2), .second] [(.int (7 : Int32)), (.int (0 : Int32)), (.ref o0)])) _
                    refine XS.iadd X0.here hx rfl (hb hby d9_101) rfl ?_
                    show Steps p.tables e below (s₁.setTop (mkF m 102 #[.val (.ref o0), .val (.int (0 : Int32)), .val (.long q2), .second] [(.int (7 : Int32)), (.ref o0)])) _
                    refine X0.baloadBytes hx (j := (7 : Int32)) (v := (.int w17_b)) (by rw [e0]; exact Ar1.1) (State.isArrayOf_alike hZ.alike Ar1.2.1) Ar1.2.2 hin23 (Has.at Ha1 hin23 rfl) (g := (mkF m 102 #[.val (.ref o0), .val (.int (0 : Int32)), .val (.long q2), .second] [(.int (7 : Int32)), (.ref o0)])) rfl rfl (hb hby d9_102) _ ?_
                    show Steps p.tables e below (s₁.setTop (mkF m 103 #[.val (.ref o0), .val (.int (0 : Int32)), .val (.long q2), .second] [(.int w17_b)])) _
                    refine XT.lloadN X0.here hx rfl (hb hby d9_103) rfl ?_
                    show Steps p.tables e below (s₁.setTop (mkF m 104 #[.val (.ref o0), .val (.int (0 : Int32)), .val (.long q2), .second] [(.long q2), (.int w17_b)])) _
                    refine XT.l2i X0.here hx rfl (hb hby d9_104) rfl ?_
                    show Steps p.tables e below (s₁.setTop (mkF m 105 #[.val (.ref o0), .val (.int (0 : Int32)), .val (.long q2), .second] [(.int (q2.toInt32)), (.int w17_b)])) _
                    refine XT.i2b X0.here hx rfl (hb hby d9_105) rfl ?_
                    exact k
                  clear pre21
                  by_cases c25 : w17_b = (vla17_0_8 q2 w10_b w11_b w12_b w13_b w14_b w15_b w16_b w17_b)
                  · skip
                    rw [show (vla17_0_9 q2 w10_b w11_b w12_b w13_b w14_b w15_b w16_b w17_b) = (1 : Int32) from ((((((((if_pos c4).trans (if_pos c7)).trans (if_pos c10)).trans (if_pos c13)).trans (if_pos c16)).trans (if_pos c19)).trans (if_pos c22)).trans (if_pos c25))] at k
                    refine pre24 t ?_
                    show Steps p.tables e below (s₁.setTop (mkF m 106 #[.val (.ref o0), .val (.int (0 : Int32)), .val (.long q2), .second] [(.int ((q2.toInt32).toInt8.toInt32)), (.int w17_b)])) _
                    refine XS.icmpNo X0.here hx rfl (hb hby d9_106) rfl (XT.ii_ne_f c25) ?_
                    show Steps p.tables e below (s₁.setTop (mkF m 109 #[.val (.ref o0), .val (.int (0 : Int32)), .val (.long q2), .second] [])) _
                    refine XT.iconstV X0.here hx rfl (1 : Int32) (hb hby d9_109) (by decide) ?_
                    show Steps p.tables e below (s₁.setTop (mkF m 110 #[.val (.ref o0), .val (.int (0 : Int32)), .val (.long q2), .second] [(.int (1 : Int32))])) _
                    refine XS.goto X0.here hx rfl (pc0 := 110) (pc' := 114) rfl (hb hby d9_110) (by decide) (by decide) ?_
                    exact k
                  · skip
                    rw [show (vla17_0_9 q2 w10_b w11_b w12_b w13_b w14_b w15_b w16_b w17_b) = (0 : Int32) from ((((((((if_pos c4).trans (if_pos c7)).trans (if_pos c10)).trans (if_pos c13)).trans (if_pos c16)).trans (if_pos c19)).trans (if_pos c22)).trans (if_neg c25))] at k
                    refine pre24 t ?_
                    show Steps p.tables e below (s₁.setTop (mkF m 106 #[.val (.ref o0), .val (.int (0 : Int32)), .val (.long q2), .second] [(.int ((q2.toInt32).toInt8.toInt32)), (.int w17_b)])) _
                    refine XS.icmpYes X0.here hx rfl (pc0 := 106) (pc' := 113) rfl (hb hby d9_106) rfl (XT.ii_ne_t c25) (by decide) (by decide) ?_
                    show Steps p.tables e below (s₁.setTop (mkF m 113 #[.val (.ref o0), .val (.int (0 : Int32)), .val (.long q2), .second] [])) _
                    refine XT.iconstV X0.here hx rfl (0 : Int32) (hb hby d9_113) (by decide) ?_
                    exact k
                · skip
                  rw [show (vla17_0_9 q2 w10_b w11_b w12_b w13_b w14_b w15_b w16_b w17_b) = (0 : Int32) from (((((((if_pos c4).trans (if_pos c7)).trans (if_pos c10)).trans (if_pos c13)).trans (if_pos c16)).trans (if_pos c19)).trans (if_neg c22))] at k
                  refine pre21 t ?_
                  show Steps p.tables e below (s₁.setTop (mkF m 94 #[.val (.ref o0), .val (.int (0 : Int32)), .val (.long q2), .second] [(.int (((XT.ushrL q2 (8 : Int32)).toInt32).toInt8.toInt32)), (.int w16_b)])) _
                  refine XS.icmpYes X0.here hx rfl (pc0 := 94) (pc' := 113) rfl (hb hby d9_94) rfl (XT.ii_ne_t c22) (by decide) (by decide) ?_
                  show Steps p.tables e below (s₁.setTop (mkF m 113 #[.val (.ref o0), .val (.int (0 : Int32)), .val (.long q2), .second] [])) _
                  refine XT.iconstV X0.here hx rfl (0 : Int32) (hb hby d9_113) (by decide) ?_
                  exact k
              · skip
                rw [show (vla17_0_9 q2 w10_b w11_b w12_b w13_b w14_b w15_b w16_b w17_b) = (0 : Int32) from ((((((if_pos c4).trans (if_pos c7)).trans (if_pos c10)).trans (if_pos c13)).trans (if_pos c16)).trans (if_neg c19))] at k
                refine pre18 t ?_
                show Steps p.tables e below (s₁.setTop (mkF m 79 #[.val (.ref o0), .val (.int (0 : Int32)), .val (.long q2), .second] [(.int (((XT.ushrL q2 (16 : Int32)).toInt32).toInt8.toInt32)), (.int w15_b)])) _
                refine XS.icmpYes X0.here hx rfl (pc0 := 79) (pc' := 113) rfl (hb hby d9_79) rfl (XT.ii_ne_t c19) (by decide) (by decide) ?_
                show Steps p.tables e below (s₁.setTop (mkF m 113 #[.val (.ref o0), .val (.int (0 : Int32)), .val (.long q2), .second] [])) _
                refine XT.iconstV X0.here hx rfl (0 : Int32) (hb hby d9_113) (by decide) ?_
                exact k
            · skip
              rw [show (vla17_0_9 q2 w10_b w11_b w12_b w13_b w14_b w15_b w16_b w17_b) = (0 : Int32) from (((((if_pos c4).trans (if_pos c7)).trans (if_pos c10)).trans (if_pos c13)).trans (if_neg c16))] at k
              refine pre15 t ?_
              show Steps p.tables e below (s₁.setTop (mkF m 65 #[.val (.ref o0), .val (.int (0 : Int32)), .val (.long q2), .second] [(.int (((XT.ushrL q2 (24 : Int32)).toInt32).toInt8.toInt32)), (.int w14_b)])) _
              refine XS.icmpYes X0.here hx rfl (pc0 := 65) (pc' := 113) rfl (hb hby d9_65) rfl (XT.ii_ne_t c16) (by decide) (by decide) ?_
              show Steps p.tables e below (s₁.setTop (mkF m 113 #[.val (.ref o0), .val (.int (0 : Int32)), .val (.long q2), .second] [])) _
              refine XT.iconstV X0.here hx rfl (0 : Int32) (hb hby d9_113) (by decide) ?_
              exact k
          · skip
            rw [show (vla17_0_9 q2 w10_b w11_b w12_b w13_b w14_b w15_b w16_b w17_b) = (0 : Int32) from ((((if_pos c4).trans (if_pos c7)).trans (if_pos c10)).trans (if_neg c13))] at k
            refine pre12 t ?_
            show Steps p.tables e below (s₁.setTop (mkF m 51 #[.val (.ref o0), .val (.int (0 : Int32)), .val (.long q2), .second] [(.int (((XT.ushrL q2 (32 : Int32)).toInt32).toInt8.toInt32)), (.int w13_b)])) _
            refine XS.icmpYes X0.here hx rfl (pc0 := 51) (pc' := 113) rfl (hb hby d9_51) rfl (XT.ii_ne_t c13) (by decide) (by decide) ?_
            show Steps p.tables e below (s₁.setTop (mkF m 113 #[.val (.ref o0), .val (.int (0 : Int32)), .val (.long q2), .second] [])) _
            refine XT.iconstV X0.here hx rfl (0 : Int32) (hb hby d9_113) (by decide) ?_
            exact k
        · skip
          rw [show (vla17_0_9 q2 w10_b w11_b w12_b w13_b w14_b w15_b w16_b w17_b) = (0 : Int32) from (((if_pos c4).trans (if_pos c7)).trans (if_neg c10))] at k
          refine pre9 t ?_
          show Steps p.tables e below (s₁.setTop (mkF m 37 #[.val (.ref o0), .val (.int (0 : Int32)), .val (.long q2), .second] [(.int (((XT.ushrL q2 (40 : Int32)).toInt32).toInt8.toInt32)), (.int w12_b)])) _
          refine XS.icmpYes X0.here hx rfl (pc0 := 37) (pc' := 113) rfl (hb hby d9_37) rfl (XT.ii_ne_t c10) (by decide) (by decide) ?_
          show Steps p.tables e below (s₁.setTop (mkF m 113 #[.val (.ref o0), .val (.int (0 : Int32)), .val (.long q2), .second] [])) _
          refine XT.iconstV X0.here hx rfl (0 : Int32) (hb hby d9_113) (by decide) ?_
          exact k
      · skip
        rw [show (vla17_0_9 q2 w10_b w11_b w12_b w13_b w14_b w15_b w16_b w17_b) = (0 : Int32) from ((if_pos c4).trans (if_neg c7))] at k
        refine pre6 t ?_
        show Steps p.tables e below (s₁.setTop (mkF m 23 #[.val (.ref o0), .val (.int (0 : Int32)), .val (.long q2), .second] [(.int (((XT.ushrL q2 (48 : Int32)).toInt32).toInt8.toInt32)), (.int w11_b)])) _
        refine XS.icmpYes X0.here hx rfl (pc0 := 23) (pc' := 113) rfl (hb hby d9_23) rfl (XT.ii_ne_t c7) (by decide) (by decide) ?_
        show Steps p.tables e below (s₁.setTop (mkF m 113 #[.val (.ref o0), .val (.int (0 : Int32)), .val (.long q2), .second] [])) _
        refine XT.iconstV X0.here hx rfl (0 : Int32) (hb hby d9_113) (by decide) ?_
        exact k
    · skip
      rw [show (vla17_0_9 q2 w10_b w11_b w12_b w13_b w14_b w15_b w16_b w17_b) = (0 : Int32) from (if_neg c4)] at k
      refine pre3 t ?_
      show Steps p.tables e below (s₁.setTop (mkF m 9 #[.val (.ref o0), .val (.int (0 : Int32)), .val (.long q2), .second] [(.int (((XT.ushrL q2 (56 : Int32)).toInt32).toInt8.toInt32)), (.int w10_b)])) _
      refine XS.icmpYes X0.here hx rfl (pc0 := 9) (pc' := 113) rfl (hb hby d9_9) rfl (XT.ii_ne_t c4) (by decide) (by decide) ?_
      show Steps p.tables e below (s₁.setTop (mkF m 113 #[.val (.ref o0), .val (.int (0 : Int32)), .val (.long q2), .second] [])) _
      refine XT.iconstV X0.here hx rfl (0 : Int32) (hb hby d9_113) (by decide) ?_
      exact k
  obtain ⟨fs, hr, hrun, hended, hW, hsame⟩ := X0.leave (v := some (.int (nar .boolean (vla17_0_9 q2 w10_b w11_b w12_b w13_b w14_b w15_b w16_b w17_b)))) (fun h => by rw [Bd.returns] at h; cases h) hlk
  refine ⟨_, _, pre26 _ ?_, hrun, hended, _, _, rfl, ?_, ⟨_, rfl⟩, hW, hsame.mono (by decide) (by decide)⟩
  · skip
    show Steps p.tables e below (s₁.setTop (mkF m 114 #[.val (.ref o0), .val (.int (0 : Int32)), .val (.long q2), .second] [(.int (vla17_0_9 q2 w10_b w11_b w12_b w13_b w14_b w15_b w16_b w17_b))])) _
    exact retN X0 hx (t := .boolean) Bd.returns (by simp) (hb hby d9_114) hr
  · skip
    show Qla17_0 Z o0 q2 w10_b w11_b w12_b w13_b w14_b w15_b w16_b w17_b u8 u9 u10 u11 u12 u13 u14 u15 u16 kA h0 n0 _ s₁.heap _
    rw [e0]
    exact ⟨N0, rfl, rfl⟩
theorem ef_la17_9 (m : MethodId) (o0 : Addr) (q2 : Int64) : entryFrame m #[(.ref o0), (.int (9 : Int32)), (.long q2)] 4 = mkF m 0 #[.val (.ref o0), .val (.int (9 : Int32)), .val (.long q2), .second] [] := by first | (simp [entryFrame, mkF, argsToLocals, Value.category]; done) | rfl
def vla17_9_1 (q2 : Int64) (w10_b : Int32) (w11_b : Int32) (w12_b : Int32) (w13_b : Int32) (w14_b : Int32) (w15_b : Int32) (w16_b : Int32) (w17_b : Int32) : Int32 := (((XT.ushrL q2 (56 : Int32)).toInt32).toInt8.toInt32)
def vla17_9_2 (q2 : Int64) (w10_b : Int32) (w11_b : Int32) (w12_b : Int32) (w13_b : Int32) (w14_b : Int32) (w15_b : Int32) (w16_b : Int32) (w17_b : Int32) : Int32 := (((XT.ushrL q2 (48 : Int32)).toInt32).toInt8.toInt32)
def vla17_9_3 (q2 : Int64) (w10_b : Int32) (w11_b : Int32) (w12_b : Int32) (w13_b : Int32) (w14_b : Int32) (w15_b : Int32) (w16_b : Int32) (w17_b : Int32) : Int32 := (((XT.ushrL q2 (40 : Int32)).toInt32).toInt8.toInt32)
def vla17_9_4 (q2 : Int64) (w10_b : Int32) (w11_b : Int32) (w12_b : Int32) (w13_b : Int32) (w14_b : Int32) (w15_b : Int32) (w16_b : Int32) (w17_b : Int32) : Int32 := (((XT.ushrL q2 (32 : Int32)).toInt32).toInt8.toInt32)
def vla17_9_5 (q2 : Int64) (w10_b : Int32) (w11_b : Int32) (w12_b : Int32) (w13_b : Int32) (w14_b : Int32) (w15_b : Int32) (w16_b : Int32) (w17_b : Int32) : Int32 := (((XT.ushrL q2 (24 : Int32)).toInt32).toInt8.toInt32)
def vla17_9_6 (q2 : Int64) (w10_b : Int32) (w11_b : Int32) (w12_b : Int32) (w13_b : Int32) (w14_b : Int32) (w15_b : Int32) (w16_b : Int32) (w17_b : Int32) : Int32 := (((XT.ushrL q2 (16 : Int32)).toInt32).toInt8.toInt32)
def vla17_9_7 (q2 : Int64) (w10_b : Int32) (w11_b : Int32) (w12_b : Int32) (w13_b : Int32) (w14_b : Int32) (w15_b : Int32) (w16_b : Int32) (w17_b : Int32) : Int32 := (((XT.ushrL q2 (8 : Int32)).toInt32).toInt8.toInt32)
def vla17_9_8 (q2 : Int64) (w10_b : Int32) (w11_b : Int32) (w12_b : Int32) (w13_b : Int32) (w14_b : Int32) (w15_b : Int32) (w16_b : Int32) (w17_b : Int32) : Int32 := ((q2.toInt32).toInt8.toInt32)
def vla17_9_9 (q2 : Int64) (w10_b : Int32) (w11_b : Int32) (w12_b : Int32) (w13_b : Int32) (w14_b : Int32) (w15_b : Int32) (w16_b : Int32) (w17_b : Int32) : Int32 := (if w10_b = (vla17_9_1 q2 w10_b w11_b w12_b w13_b w14_b w15_b w16_b w17_b) then (if w11_b = (vla17_9_2 q2 w10_b w11_b w12_b w13_b w14_b w15_b w16_b w17_b) then (if w12_b = (vla17_9_3 q2 w10_b w11_b w12_b w13_b w14_b w15_b w16_b w17_b) then (if w13_b = (vla17_9_4 q2 w10_b w11_b w12_b w13_b w14_b w15_b w16_b w17_b) then (if w14_b = (vla17_9_5 q2 w10_b w11_b w12_b w13_b w14_b w15_b w16_b w17_b) then (if w15_b = (vla17_9_6 q2 w10_b w11_b w12_b w13_b w14_b w15_b w16_b w17_b) then (if w16_b = (vla17_9_7 q2 w10_b w11_b w12_b w13_b w14_b w15_b w16_b w17_b) then (if w17_b = (vla17_9_8 q2 w10_b w11_b w12_b w13_b w14_b w15_b w16_b w17_b) then (1 : Int32) else (0 : Int32)) else (0 : Int32)) else (0 : Int32)) else (0 : Int32)) else (0 : Int32)) else (0 : Int32)) else (0 : Int32)) else (0 : Int32))
def fla17_9 (q2 : Int64) (w10_b : Int32) (w11_b : Int32) (w12_b : Int32) (w13_b : Int32) (w14_b : Int32) (w15_b : Int32) (w16_b : Int32) (w17_b : Int32) : Int32 := (nar .boolean (vla17_9_9 q2 w10_b w11_b w12_b w13_b w14_b w15_b w16_b w17_b))
def Qla17_9 (Z : State) (o0 : Addr) (q2 : Int64) (u0 : Value) (u1 : Value) (u2 : Value) (u3 : Value) (u4 : Value) (u5 : Value) (u6 : Value) (u7 : Value) (u8 : Value) (w10_b : Int32) (w11_b : Int32) (w12_b : Int32) (w13_b : Int32) (w14_b : Int32) (w15_b : Int32) (w16_b : Int32) (w17_b : Int32) (kA : ClassId) (h0 : Heap) (n0 : Nat) (v : Option Value) (h : Heap) (L : List Loc) : Prop := Fr n0 L ∧ v = some (.int (fla17_9 q2 w10_b w11_b w12_b w13_b w14_b w15_b w16_b w17_b)) ∧ h = h0
set_option maxRecDepth 65536 in
set_option maxHeartbeats 40000000 in
theorem rmla17_9 (l : Launch) (Z : State) (a0 : Array Value) (hw : ∀ d ∈ tables_1, d.before a0 Z = true) (ws : List Jvm.Cond) (o0 : Addr) (q2 : Int64) (u0 : Value) (u1 : Value) (u2 : Value) (u3 : Value) (u4 : Value) (u5 : Value) (u6 : Value) (u7 : Value) (u8 : Value) (w10_b : Int32) (w11_b : Int32) (w12_b : Int32) (w13_b : Int32) (w14_b : Int32) (w15_b : Int32) (w16_b : Int32) (w17_b : Int32) (kA : ClassId) (h0 : Heap) (n0 : Nat) (Z0 : n0 ≤ h0.size) (V_o0 : Arv Z h0 o0 kA .byte (17 : Int32) [u0, u1, u2, u3, u4, u5, u6, u7, u8, (.int w10_b), (.int w11_b), (.int w12_b), (.int w13_b), (.int w14_b), (.int w15_b), (.int w16_b), (.int w17_b)] (.int (0 : Int32))) :
    MetFree l (⟨"com/example/dispatch_by_catalog/dispatchbycatalog/store/RecordWriterToBytesPinLaw", "longAt", "([BIJ)Z"⟩ : MethodName) (head1 (Jvm.Cond.code (⟨"com/example/dispatch_by_catalog/dispatchbycatalog/store/RecordWriterToBytesPinLaw", "longAt", "([BIJ)Z"⟩ : MethodName) method_3_code 4 (some .boolean) :: ws) ({ frames := 0, cells := 0, slots := 0, locals := 0 } : Room)) (fun a U => a = #[(.ref o0), (.int (9 : Int32)), (.long q2)] ∧ Z.Warmed39 U.vm ∧ U.heap = h0) (fun _ _ _ _ _ => True) (fun _ U o U' => ∃ v L, o = .returned v ∧ Qla17_9 Z o0 q2 u0 u1 u2 u3 u4 u5 u6 u7 u8 w10_b w11_b w12_b w13_b w14_b w15_b w16_b w17_b kA h0 n0 v U'.heap L ∧ FrameEnd U o U' L ({ frames := 0, cells := 0, slots := 0, locals := 0 } : Room).cells ({ frames := 0, cells := 0, slots := 0, locals := 0 } : Room).slots) := by
  refine MetFree.of_bodySF (plainFor_of_name pn_com_example_dispatch_by_catalog_dispatchbycatalog_store_RecordWriterToBytesPinLaw) hisR ?_
  intro p e s m args below meth c s₁ Bd hml0 hP hK
  obtain ⟨rfl, hZ, hh⟩ := hP
  have hx := Bd.exec
  have hby := Bd.bytes
  have hml : c.maxLocals = 4 := hml0
  have hown : s.vm.findClass "com/example/dispatch_by_catalog/dispatchbycatalog/store/RecordWriterToBytesPinLaw" = some m.cls := findClass_of_methodNamed Bd.named
  have hnm := (name_of_methodNamed Bd.named Bd.method).1
  have hlk := BodyLoose.notSynchronized Bd
  have X0 : Stand p l e ({ frames := 0, cells := 0, slots := 0, locals := 0 } : Room) s m #[(.ref o0), (.int (9 : Int32)), (.long q2)] below meth c s₁ [] 0 0 := Stand.of_body Bd
  have e0 : s₁.heap = h0 := by rw [← hh, Bd.state]; rfl
  have N0 := Fr.nil n0
  have pre0 : ∀ t, Steps p.tables e below (s₁.setTop (mkF m 0 #[.val (.ref o0), .val (.int (9 : Int32)), .val (.long q2), .second] [])) t → Steps p.tables e below (s₁.setTop (entryFrame m #[(.ref o0), (.int (9 : Int32)), (.long q2)] 4)) t := fun t k => castTop (ef_la17_9 m o0 q2) k
  obtain ⟨cl1, Ar1, qc1, S1, M1, Ha1, G1⟩ := id V_o0
  have hin2 : ¬ ((9 : Int32) < 0 ∨ cl1.slots.size ≤ ((9 : Int32)).toNatClampNeg) := inb_of S1 ⟨by decide, by decide⟩
  have pre3 : ∀ t, Steps p.tables e below (s₁.setTop (mkF m 9 #[.val (.ref o0), .val (.int (9 : Int32)), .val (.long q2), .second] [(.int (((XT.ushrL q2 (56 : Int32)).toInt32).toInt8.toInt32)), (.int w10_b)])) t → Steps p.tables e below (s₁.setTop (entryFrame m #[(.ref o0), (.int (9 : Int32)), (.long q2)] 4)) t := by
    intro t k
    refine pre0 t ?_
    show Steps p.tables e below (s₁.setTop (mkF m 0 #[.val (.ref o0), .val (.int (9 : Int32)), .val (.long q2), .second] [])) _
    refine XS.aloadN X0.here hx rfl (hb hby d9_0) rfl rfl ?_
    show Steps p.tables e below (s₁.setTop (mkF m 1 #[.val (.ref o0), .val (.int (9 : Int32)), .val (.long q2), .second] [(.ref o0)])) _
    refine XS.iloadN X0.here hx rfl (hb hby d9_1) rfl ?_
    show Steps p.tables e below (s₁.setTop (mkF m 2 #[.val (.ref o0), .val (.int (9 : Int32)), .val (.long q2), .second] [(.int (9 : Int32)), (.ref o0)])) _
    refine X0.baloadBytes hx (j := (9 : Int32)) (v := (.int w10_b)) (by rw [e0]; exact Ar1.1) (State.isArrayOf_alike hZ.alike Ar1.2.1) Ar1.2.2 hin2 (Has.at Ha1 hin2 rfl) (g := (mkF m 2 #[.val (.ref o0), .val (.int (9 : Int32)), .val (.long q2), .second] [(.int (9 : Int32)), (.ref o0)])) rfl rfl (hb hby d9_2) _ ?_
    show Steps p.tables e below (s₁.setTop (mkF m 3 #[.val (.ref o0), .val (.int (9 : Int32)), .val (.long q2), .second] [(.int w10_b)])) _
    refine XT.lloadN X0.here hx rfl (hb hby d9_3) rfl ?_
    show Steps p.tables e below (s₁.setTop (mkF m 4 #[.val (.ref o0), .val (.int (9 : Int32)), .val (.long q2), .second] [(.long q2), (.int w10_b)])) _
    refine XT.bipushV X0.here hx rfl (56 : Int32) (hb hby d9_4) (by decide) ?_
    show Steps p.tables e below (s₁.setTop (mkF m 6 #[.val (.ref o0), .val (.int (9 : Int32)), .val (.long q2), .second] [(.int (56 : Int32)), (.long q2), (.int w10_b)])) _
    refine XT.lushr X0.here hx rfl (hb hby d9_6) rfl ?_
    show Steps p.tables e below (s₁.setTop (mkF m 7 #[.val (.ref o0), .val (.int (9 : Int32)), .val (.long q2), .second] [(.long (XT.ushrL q2 (56 : Int32))), (.int w10_b)])) _
    refine XT.l2i X0.here hx rfl (hb hby d9_7) rfl ?_
    show Steps p.tables e below (s₁.setTop (mkF m 8 #[.val (.ref o0), .val (.int (9 : Int32)), .val (.long q2), .second] [(.int ((XT.ushrL q2 (56 : Int32)).toInt32)), (.int w10_b)])) _
    refine XT.i2b X0.here hx rfl (hb hby d9_8) rfl ?_
    exact k
  clear pre0
  have pre26 : ∀ t, Steps p.tables e below (s₁.setTop (mkF m 114 #[.val (.ref o0), .val (.int (9 : Int32)), .val (.long q2), .second] [(.int (vla17_9_9 q2 w10_b w11_b w12_b w13_b w14_b w15_b w16_b w17_b))])) t → Steps p.tables e below (s₁.setTop (entryFrame m #[(.ref o0), (.int (9 : Int32)), (.long q2)] 4)) t := by
    intro t k
    by_cases c4 : w10_b = (vla17_9_1 q2 w10_b w11_b w12_b w13_b w14_b w15_b w16_b w17_b)
    · skip
      have hin5 : ¬ ((10 : Int32) < 0 ∨ cl1.slots.size ≤ ((10 : Int32)).toNatClampNeg) := inb_of S1 ⟨by decide, by decide⟩
      have pre6 : ∀ t, Steps p.tables e below (s₁.setTop (mkF m 23 #[.val (.ref o0), .val (.int (9 : Int32)), .val (.long q2), .second] [(.int (((XT.ushrL q2 (48 : Int32)).toInt32).toInt8.toInt32)), (.int w11_b)])) t → Steps p.tables e below (s₁.setTop (entryFrame m #[(.ref o0), (.int (9 : Int32)), (.long q2)] 4)) t := by
        intro t k
        refine pre3 t ?_
        show Steps p.tables e below (s₁.setTop (mkF m 9 #[.val (.ref o0), .val (.int (9 : Int32)), .val (.long q2), .second] [(.int (((XT.ushrL q2 (56 : Int32)).toInt32).toInt8.toInt32)), (.int w10_b)])) _
        refine XS.icmpNo X0.here hx rfl (hb hby d9_9) rfl (XT.ii_ne_f c4) ?_
        show Steps p.tables e below (s₁.setTop (mkF m 12 #[.val (.ref o0), .val (.int (9 : Int32)), .val (.long q2), .second] [])) _
        refine XS.aloadN X0.here hx rfl (hb hby d9_12) rfl rfl ?_
        show Steps p.tables e below (s₁.setTop (mkF m 13 #[.val (.ref o0), .val (.int (9 : Int32)), .val (.long q2), .second] [(.ref o0)])) _
        refine XS.iloadN X0.here hx rfl (hb hby d9_13) rfl ?_
        show Steps p.tables e below (s₁.setTop (mkF m 14 #[.val (.ref o0), .val (.int (9 : Int32)), .val (.long q2), .second] [(.int (9 : Int32)), (.ref o0)])) _
        refine XT.iconstV X0.here hx rfl (1 : Int32) (hb hby d9_14) (by decide) ?_
        show Steps p.tables e below (s₁.setTop (mkF m 15 #[.val (.ref o0), .val (.int (9 : Int32)), .val (.long q2), .second] [(.int (1 : Int32)), (.int (9 : Int32)), (.ref o0)])) _
        refine XS.iadd X0.here hx rfl (hb hby d9_15) rfl ?_
        show Steps p.tables e below (s₁.setTop (mkF m 16 #[.val (.ref o0), .val (.int (9 : Int32)), .val (.long q2), .second] [(.int (10 : Int32)), (.ref o0)])) _
        refine X0.baloadBytes hx (j := (10 : Int32)) (v := (.int w11_b)) (by rw [e0]; exact Ar1.1) (State.isArrayOf_alike hZ.alike Ar1.2.1) Ar1.2.2 hin5 (Has.at Ha1 hin5 rfl) (g := (mkF m 16 #[.val (.ref o0), .val (.int (9 : Int32)), .val (.long q2), .second] [(.int (10 : Int32)), (.ref o0)])) rfl rfl (hb hby d9_16) _ ?_
        show Steps p.tables e below (s₁.setTop (mkF m 17 #[.val (.ref o0), .val (.int (9 : Int32)), .val (.long q2), .second] [(.int w11_b)])) _
        refine XT.lloadN X0.here hx rfl (hb hby d9_17) rfl ?_
        show Steps p.tables e below (s₁.setTop (mkF m 18 #[.val (.ref o0), .val (.int (9 : Int32)), .val (.long q2), .second] [(.long q2), (.int w11_b)])) _
        refine XT.bipushV X0.here hx rfl (48 : Int32) (hb hby d9_18) (by decide) ?_
        show Steps p.tables e below (s₁.setTop (mkF m 20 #[.val (.ref o0), .val (.int (9 : Int32)), .val (.long q2), .second] [(.int (48 : Int32)), (.long q2), (.int w11_b)])) _
        refine XT.lushr X0.here hx rfl (hb hby d9_20) rfl ?_
        show Steps p.tables e below (s₁.setTop (mkF m 21 #[.val (.ref o0), .val (.int (9 : Int32)), .val (.long q2), .second] [(.long (XT.ushrL q2 (48 : Int32))), (.int w11_b)])) _
        refine XT.l2i X0.here hx rfl (hb hby d9_21) rfl ?_
        show Steps p.tables e below (s₁.setTop (mkF m 22 #[.val (.ref o0), .val (.int (9 : Int32)), .val (.long q2), .second] [(.int ((XT.ushrL q2 (48 : Int32)).toInt32)), (.int w11_b)])) _
        refine XT.i2b X0.here hx rfl (hb hby d9_22) rfl ?_
        exact k
      clear pre3
      by_cases c7 : w11_b = (vla17_9_2 q2 w10_b w11_b w12_b w13_b w14_b w15_b w16_b w17_b)
      · skip
        have hin8 : ¬ ((11 : Int32) < 0 ∨ cl1.slots.size ≤ ((11 : Int32)).toNatClampNeg) := inb_of S1 ⟨by decide, by decide⟩
        have pre9 : ∀ t, Steps p.tables e below (s₁.setTop (mkF m 37 #[.val (.ref o0), .val (.int (9 : Int32)), .val (.long q2), .second] [(.int (((XT.ushrL q2 (40 : Int32)).toInt32).toInt8.toInt32)), (.int w12_b)])) t → Steps p.tables e below (s₁.setTop (entryFrame m #[(.ref o0), (.int (9 : Int32)), (.long q2)] 4)) t := by
          intro t k
          refine pre6 t ?_
          show Steps p.tables e below (s₁.setTop (mkF m 23 #[.val (.ref o0), .val (.int (9 : Int32)), .val (.long q2), .second] [(.int (((XT.ushrL q2 (48 : Int32)).toInt32).toInt8.toInt32)), (.int w11_b)])) _
          refine XS.icmpNo X0.here hx rfl (hb hby d9_23) rfl (XT.ii_ne_f c7) ?_
          show Steps p.tables e below (s₁.setTop (mkF m 26 #[.val (.ref o0), .val (.int (9 : Int32)), .val (.long q2), .second] [])) _
          refine XS.aloadN X0.here hx rfl (hb hby d9_26) rfl rfl ?_
          show Steps p.tables e below (s₁.setTop (mkF m 27 #[.val (.ref o0), .val (.int (9 : Int32)), .val (.long q2), .second] [(.ref o0)])) _
          refine XS.iloadN X0.here hx rfl (hb hby d9_27) rfl ?_
          show Steps p.tables e below (s₁.setTop (mkF m 28 #[.val (.ref o0), .val (.int (9 : Int32)), .val (.long q2), .second] [(.int (9 : Int32)), (.ref o0)])) _
          refine XT.iconstV X0.here hx rfl (2 : Int32) (hb hby d9_28) (by decide) ?_
          show Steps p.tables e below (s₁.setTop (mkF m 29 #[.val (.ref o0), .val (.int (9 : Int32)), .val (.long q2), .second] [(.int (2 : Int32)), (.int (9 : Int32)), (.ref o0)])) _
          refine XS.iadd X0.here hx rfl (hb hby d9_29) rfl ?_
          show Steps p.tables e below (s₁.setTop (mkF m 30 #[.val (.ref o0), .val (.int (9 : Int32)), .val (.long q2), .second] [(.int (11 : Int32)), (.ref o0)])) _
          refine X0.baloadBytes hx (j := (11 : Int32)) (v := (.int w12_b)) (by rw [e0]; exact Ar1.1) (State.isArrayOf_alike hZ.alike Ar1.2.1) Ar1.2.2 hin8 (Has.at Ha1 hin8 rfl) (g := (mkF m 30 #[.val (.ref o0), .val (.int (9 : Int32)), .val (.long q2), .second] [(.int (11 : Int32)), (.ref o0)])) rfl rfl (hb hby d9_30) _ ?_
          show Steps p.tables e below (s₁.setTop (mkF m 31 #[.val (.ref o0), .val (.int (9 : Int32)), .val (.long q2), .second] [(.int w12_b)])) _
          refine XT.lloadN X0.here hx rfl (hb hby d9_31) rfl ?_
          show Steps p.tables e below (s₁.setTop (mkF m 32 #[.val (.ref o0), .val (.int (9 : Int32)), .val (.long q2), .second] [(.long q2), (.int w12_b)])) _
          refine XT.bipushV X0.here hx rfl (40 : Int32) (hb hby d9_32) (by decide) ?_
          show Steps p.tables e below (s₁.setTop (mkF m 34 #[.val (.ref o0), .val (.int (9 : Int32)), .val (.long q2), .second] [(.int (40 : Int32)), (.long q2), (.int w12_b)])) _
          refine XT.lushr X0.here hx rfl (hb hby d9_34) rfl ?_
          show Steps p.tables e below (s₁.setTop (mkF m 35 #[.val (.ref o0), .val (.int (9 : Int32)), .val (.long q2), .second] [(.long (XT.ushrL q2 (40 : Int32))), (.int w12_b)])) _
          refine XT.l2i X0.here hx rfl (hb hby d9_35) rfl ?_
          show Steps p.tables e below (s₁.setTop (mkF m 36 #[.val (.ref o0), .val (.int (9 : Int32)), .val (.long q2), .second] [(.int ((XT.ushrL q2 (40 : Int32)).toInt32)), (.int w12_b)])) _
          refine XT.i2b X0.here hx rfl (hb hby d9_36) rfl ?_
          exact k
        clear pre6
        by_cases c10 : w12_b = (vla17_9_3 q2 w10_b w11_b w12_b w13_b w14_b w15_b w16_b w17_b)
        · skip
          have hin11 : ¬ ((12 : Int32) < 0 ∨ cl1.slots.size ≤ ((12 : Int32)).toNatClampNeg) := inb_of S1 ⟨by decide, by decide⟩
          have pre12 : ∀ t, Steps p.tables e below (s₁.setTop (mkF m 51 #[.val (.ref o0), .val (.int (9 : Int32)), .val (.long q2), .second] [(.int (((XT.ushrL q2 (32 : Int32)).toInt32).toInt8.toInt32)), (.int w13_b)])) t → Steps p.tables e below (s₁.setTop (entryFrame m #[(.ref o0), (.int (9 : Int32)), (.long q2)] 4)) t := by
            intro t k
            refine pre9 t ?_
            show Steps p.tables e below (s₁.setTop (mkF m 37 #[.val (.ref o0), .val (.int (9 : Int32)), .val (.long q2), .second] [(.int (((XT.ushrL q2 (40 : Int32)).toInt32).toInt8.toInt32)), (.int w12_b)])) _
            refine XS.icmpNo X0.here hx rfl (hb hby d9_37) rfl (XT.ii_ne_f c10) ?_
            show Steps p.tables e below (s₁.setTop (mkF m 40 #[.val (.ref o0), .val (.int (9 : Int32)), .val (.long q2), .second] [])) _
            refine XS.aloadN X0.here hx rfl (hb hby d9_40) rfl rfl ?_
            show Steps p.tables e below (s₁.setTop (mkF m 41 #[.val (.ref o0), .val (.int (9 : Int32)), .val (.long q2), .second] [(.ref o0)])) _
            refine XS.iloadN X0.here hx rfl (hb hby d9_41) rfl ?_
            show Steps p.tables e below (s₁.setTop (mkF m 42 #[.val (.ref o0), .val (.int (9 : Int32)), .val (.long q2), .second] [(.int (9 : Int32)), (.ref o0)])) _
            refine XT.iconstV X0.here hx rfl (3 : Int32) (hb hby d9_42) (by decide) ?_
            show Steps p.tables e below (s₁.setTop (mkF m 43 #[.val (.ref o0), .val (.int (9 : Int32)), .val (.long q2), .second] [(.int (3 : Int32)), (.int (9 : Int32)), (.ref o0)])) _
            refine XS.iadd X0.here hx rfl (hb hby d9_43) rfl ?_
            show Steps p.tables e below (s₁.setTop (mkF m 44 #[.val (.ref o0), .val (.int (9 : Int32)), .val (.long q2), .second] [(.int (12 : Int32)), (.ref o0)])) _
            refine X0.baloadBytes hx (j := (12 : Int32)) (v := (.int w13_b)) (by rw [e0]; exact Ar1.1) (State.isArrayOf_alike hZ.alike Ar1.2.1) Ar1.2.2 hin11 (Has.at Ha1 hin11 rfl) (g := (mkF m 44 #[.val (.ref o0), .val (.int (9 : Int32)), .val (.long q2), .second] [(.int (12 : Int32)), (.ref o0)])) rfl rfl (hb hby d9_44) _ ?_
            show Steps p.tables e below (s₁.setTop (mkF m 45 #[.val (.ref o0), .val (.int (9 : Int32)), .val (.long q2), .second] [(.int w13_b)])) _
            refine XT.lloadN X0.here hx rfl (hb hby d9_45) rfl ?_
            show Steps p.tables e below (s₁.setTop (mkF m 46 #[.val (.ref o0), .val (.int (9 : Int32)), .val (.long q2), .second] [(.long q2), (.int w13_b)])) _
            refine XT.bipushV X0.here hx rfl (32 : Int32) (hb hby d9_46) (by decide) ?_
            show Steps p.tables e below (s₁.setTop (mkF m 48 #[.val (.ref o0), .val (.int (9 : Int32)), .val (.long q2), .second] [(.int (32 : Int32)), (.long q2), (.int w13_b)])) _
            refine XT.lushr X0.here hx rfl (hb hby d9_48) rfl ?_
            show Steps p.tables e below (s₁.setTop (mkF m 49 #[.val (.ref o0), .val (.int (9 : Int32)), .val (.long q2), .second] [(.long (XT.ushrL q2 (32 : Int32))), (.int w13_b)])) _
            refine XT.l2i X0.here hx rfl (hb hby d9_49) rfl ?_
            show Steps p.tables e below (s₁.setTop (mkF m 50 #[.val (.ref o0), .val (.int (9 : Int32)), .val (.long q2), .second] [(.int ((XT.ushrL q2 (32 : Int32)).toInt32)), (.int w13_b)])) _
            refine XT.i2b X0.here hx rfl (hb hby d9_50) rfl ?_
            exact k
          clear pre9
          by_cases c13 : w13_b = (vla17_9_4 q2 w10_b w11_b w12_b w13_b w14_b w15_b w16_b w17_b)
          · skip
            have hin14 : ¬ ((13 : Int32) < 0 ∨ cl1.slots.size ≤ ((13 : Int32)).toNatClampNeg) := inb_of S1 ⟨by decide, by decide⟩
            have pre15 : ∀ t, Steps p.tables e below (s₁.setTop (mkF m 65 #[.val (.ref o0), .val (.int (9 : Int32)), .val (.long q2), .second] [(.int (((XT.ushrL q2 (24 : Int32)).toInt32).toInt8.toInt32)), (.int w14_b)])) t → Steps p.tables e below (s₁.setTop (entryFrame m #[(.ref o0), (.int (9 : Int32)), (.long q2)] 4)) t := by
              intro t k
              refine pre12 t ?_
              show Steps p.tables e below (s₁.setTop (mkF m 51 #[.val (.ref o0), .val (.int (9 : Int32)), .val (.long q2), .second] [(.int (((XT.ushrL q2 (32 : Int32)).toInt32).toInt8.toInt32)), (.int w13_b)])) _
              refine XS.icmpNo X0.here hx rfl (hb hby d9_51) rfl (XT.ii_ne_f c13) ?_
              show Steps p.tables e below (s₁.setTop (mkF m 54 #[.val (.ref o0), .val (.int (9 : Int32)), .val (.long q2), .second] [])) _
              refine XS.aloadN X0.here hx rfl (hb hby d9_54) rfl rfl ?_
              show Steps p.tables e below (s₁.setTop (mkF m 55 #[.val (.ref o0), .val (.int (9 : Int32)), .val (.long q2), .second] [(.ref o0)])) _
              refine XS.iloadN X0.here hx rfl (hb hby d9_55) rfl ?_
              show Steps p.tables e below (s₁.setTop (mkF m 56 #[.val (.ref o0), .val (.int (9 : Int32)), .val (.long q2), .second] [(.int (9 : Int32)), (.ref o0)])) _
              refine XT.iconstV X0.here hx rfl (4 : Int32) (hb hby d9_56) (by decide) ?_
              show Steps p.tables e below (s₁.setTop (mkF m 57 #[.val (.ref o0), .val (.int (9 : Int32)), .val (.long q2), .second] [(.int (4 : Int32)), (.int (9 : Int32)), (.ref o0)])) _
              refine XS.iadd X0.here hx rfl (hb hby d9_57) rfl ?_
              show Steps p.tables e below (s₁.setTop (mkF m 58 #[.val (.ref o0), .val (.int (9 : Int32)), .val (.long q2), .second] [(.int (13 : Int32)), (.ref o0)])) _
              refine X0.baloadBytes hx (j := (13 : Int32)) (v := (.int w14_b)) (by rw [e0]; exact Ar1.1) (State.isArrayOf_alike hZ.alike Ar1.2.1) Ar1.2.2 hin14 (Has.at Ha1 hin14 rfl) (g := (mkF m 58 #[.val (.ref o0), .val (.int (9 : Int32)), .val (.long q2), .second] [(.int (13 : Int32)), (.ref o0)])) rfl rfl (hb hby d9_58) _ ?_
              show Steps p.tables e below (s₁.setTop (mkF m 59 #[.val (.ref o0), .val (.int (9 : Int32)), .val (.long q2), .second] [(.int w14_b)])) _
              refine XT.lloadN X0.here hx rfl (hb hby d9_59) rfl ?_
              show Steps p.tables e below (s₁.setTop (mkF m 60 #[.val (.ref o0), .val (.int (9 : Int32)), .val (.long q2), .second] [(.long q2), (.int w14_b)])) _
              refine XT.bipushV X0.here hx rfl (24 : Int32) (hb hby d9_60) (by decide) ?_
              show Steps p.tables e below (s₁.setTop (mkF m 62 #[.val (.ref o0), .val (.int (9 : Int32)), .val (.long q2), .second] [(.int (24 : Int32)), (.long q2), (.int w14_b)])) _
              refine XT.lushr X0.here hx rfl (hb hby d9_62) rfl ?_
              show Steps p.tables e below (s₁.setTop (mkF m 63 #[.val (.ref o0), .val (.int (9 : Int32)), .val (.long q2), .second] [(.long (XT.ushrL q2 (24 : Int32))), (.int w14_b)])) _
              refine XT.l2i X0.here hx rfl (hb hby d9_63) rfl ?_
              show Steps p.tables e below (s₁.setTop (mkF m 64 #[.val (.ref o0), .val (.int (9 : Int32)), .val (.long q2), .second] [(.int ((XT.ushrL q2 (24 : Int32)).toInt32)), (.int w14_b)])) _
              refine XT.i2b X0.here hx rfl (hb hby d9_64) rfl ?_
              exact k
            clear pre12
            by_cases c16 : w14_b = (vla17_9_5 q2 w10_b w11_b w12_b w13_b w14_b w15_b w16_b w17_b)
            · skip
              have hin17 : ¬ ((14 : Int32) < 0 ∨ cl1.slots.size ≤ ((14 : Int32)).toNatClampNeg) := inb_of S1 ⟨by decide, by decide⟩
              have pre18 : ∀ t, Steps p.tables e below (s₁.setTop (mkF m 79 #[.val (.ref o0), .val (.int (9 : Int32)), .val (.long q2), .second] [(.int (((XT.ushrL q2 (16 : Int32)).toInt32).toInt8.toInt32)), (.int w15_b)])) t → Steps p.tables e below (s₁.setTop (entryFrame m #[(.ref o0), (.int (9 : Int32)), (.long q2)] 4)) t := by
                intro t k
                refine pre15 t ?_
                show Steps p.tables e below (s₁.setTop (mkF m 65 #[.val (.ref o0), .val (.int (9 : Int32)), .val (.long q2), .second] [(.int (((XT.ushrL q2 (24 : Int32)).toInt32).toInt8.toInt32)), (.int w14_b)])) _
                refine XS.icmpNo X0.here hx rfl (hb hby d9_65) rfl (XT.ii_ne_f c16) ?_
                show Steps p.tables e below (s₁.setTop (mkF m 68 #[.val (.ref o0), .val (.int (9 : Int32)), .val (.long q2), .second] [])) _
                refine XS.aloadN X0.here hx rfl (hb hby d9_68) rfl rfl ?_
                show Steps p.tables e below (s₁.setTop (mkF m 69 #[.val (.ref o0), .val (.int (9 : Int32)), .val (.long q2), .second] [(.ref o0)])) _
                refine XS.iloadN X0.here hx rfl (hb hby d9_69) rfl ?_
                show Steps p.tables e below (s₁.setTop (mkF m 70 #[.val (.ref o0), .val (.int (9 : Int32)), .val (.long q2), .second] [(.int (9 : Int32)), (.ref o0)])) _
                refine XT.iconstV X0.here hx rfl (5 : Int32) (hb hby d9_70) (by decide) ?_
                show Steps p.tables e below (s₁.setTop (mkF m 71 #[.val (.ref o0), .val (.int (9 : Int32)), .val (.long q2), .second] [(.int (5 : Int32)), (.int (9 : Int32)), (.ref o0)])) _
                refine XS.iadd X0.here hx rfl (hb hby d9_71) rfl ?_
                show Steps p.tables e below (s₁.setTop (mkF m 72 #[.val (.ref o0), .val (.int (9 : Int32)), .val (.long q2), .second] [(.int (14 : Int32)), (.ref o0)])) _
                refine X0.baloadBytes hx (j := (14 : Int32)) (v := (.int w15_b)) (by rw [e0]; exact Ar1.1) (State.isArrayOf_alike hZ.alike Ar1.2.1) Ar1.2.2 hin17 (Has.at Ha1 hin17 rfl) (g := (mkF m 72 #[.val (.ref o0), .val (.int (9 : Int32)), .val (.long q2), .second] [(.int (14 : Int32)), (.ref o0)])) rfl rfl (hb hby d9_72) _ ?_
                show Steps p.tables e below (s₁.setTop (mkF m 73 #[.val (.ref o0), .val (.int (9 : Int32)), .val (.long q2), .second] [(.int w15_b)])) _
                refine XT.lloadN X0.here hx rfl (hb hby d9_73) rfl ?_
                show Steps p.tables e below (s₁.setTop (mkF m 74 #[.val (.ref o0), .val (.int (9 : Int32)), .val (.long q2), .second] [(.long q2), (.int w15_b)])) _
                refine XT.bipushV X0.here hx rfl (16 : Int32) (hb hby d9_74) (by decide) ?_
                show Steps p.tables e below (s₁.setTop (mkF m 76 #[.val (.ref o0), .val (.int (9 : Int32)), .val (.long q2), .second] [(.int (16 : Int32)), (.long q2), (.int w15_b)])) _
                refine XT.lushr X0.here hx rfl (hb hby d9_76) rfl ?_
                show Steps p.tables e below (s₁.setTop (mkF m 77 #[.val (.ref o0), .val (.int (9 : Int32)), .val (.long q2), .second] [(.long (XT.ushrL q2 (16 : Int32))), (.int w15_b)])) _
                refine XT.l2i X0.here hx rfl (hb hby d9_77) rfl ?_
                show Steps p.tables e below (s₁.setTop (mkF m 78 #[.val (.ref o0), .val (.int (9 : Int32)), .val (.long q2), .second] [(.int ((XT.ushrL q2 (16 : Int32)).toInt32)), (.int w15_b)])) _
                refine XT.i2b X0.here hx rfl (hb hby d9_78) rfl ?_
                exact k
              clear pre15
              by_cases c19 : w15_b = (vla17_9_6 q2 w10_b w11_b w12_b w13_b w14_b w15_b w16_b w17_b)
              · skip
                have hin20 : ¬ ((15 : Int32) < 0 ∨ cl1.slots.size ≤ ((15 : Int32)).toNatClampNeg) := inb_of S1 ⟨by decide, by decide⟩
                have pre21 : ∀ t, Steps p.tables e below (s₁.setTop (mkF m 94 #[.val (.ref o0), .val (.int (9 : Int32)), .val (.long q2), .second] [(.int (((XT.ushrL q2 (8 : Int32)).toInt32).toInt8.toInt32)), (.int w16_b)])) t → Steps p.tables e below (s₁.setTop (entryFrame m #[(.ref o0), (.int (9 : Int32)), (.long q2)] 4)) t := by
                  intro t k
                  refine pre18 t ?_
                  show Steps p.tables e below (s₁.setTop (mkF m 79 #[.val (.ref o0), .val (.int (9 : Int32)), .val (.long q2), .second] [(.int (((XT.ushrL q2 (16 : Int32)).toInt32).toInt8.toInt32)), (.int w15_b)])) _
                  refine XS.icmpNo X0.here hx rfl (hb hby d9_79) rfl (XT.ii_ne_f c19) ?_
                  show Steps p.tables e below (s₁.setTop (mkF m 82 #[.val (.ref o0), .val (.int (9 : Int32)), .val (.long q2), .second] [])) _
                  refine XS.aloadN X0.here hx rfl (hb hby d9_82) rfl rfl ?_
                  show Steps p.tables e below (s₁.setTop (mkF m 83 #[.val (.ref o0), .val (.int (9 : Int32)), .val (.long q2), .second] [(.ref o0)])) _
                  refine XS.iloadN X0.here hx rfl (hb hby d9_83) rfl ?_
                  show Steps p.tables e below (s₁.setTop (mkF m 84 #[.val (.ref o0), .val (.int (9 : Int32)), .val (.long q2), .second] [(.int (9 : Int32)), (.ref o0)])) _
                  refine XT.bipushV X0.here hx rfl (6 : Int32) (hb hby d9_84) (by decide) ?_
                  show Steps p.tables e below (s₁.setTop (mkF m 86 #[.val (.ref o0), .val (.int (9 : Int32)), .val (.long q2), .second] [(.int (6 : Int32)), (.int (9 : Int32)), (.ref o0)])) _
                  refine XS.iadd X0.here hx rfl (hb hby d9_86) rfl ?_
                  show Steps p.tables e below (s₁.setTop (mkF m 87 #[.val (.ref o0), .val (.int (9 : Int32)), .val (.long q2), .second] [(.int (15 : Int32)), (.ref o0)])) _
                  refine X0.baloadBytes hx (j := (15 : Int32)) (v := (.int w16_b)) (by rw [e0]; exact Ar1.1) (State.isArrayOf_alike hZ.alike Ar1.2.1) Ar1.2.2 hin20 (Has.at Ha1 hin20 rfl) (g := (mkF m 87 #[.val (.ref o0), .val (.int (9 : Int32)), .val (.long q2), .second] [(.int (15 : Int32)), (.ref o0)])) rfl rfl (hb hby d9_87) _ ?_
                  show Steps p.tables e below (s₁.setTop (mkF m 88 #[.val (.ref o0), .val (.int (9 : Int32)), .val (.long q2), .second] [(.int w16_b)])) _
                  refine XT.lloadN X0.here hx rfl (hb hby d9_88) rfl ?_
                  show Steps p.tables e below (s₁.setTop (mkF m 89 #[.val (.ref o0), .val (.int (9 : Int32)), .val (.long q2), .second] [(.long q2), (.int w16_b)])) _
                  refine XT.bipushV X0.here hx rfl (8 : Int32) (hb hby d9_89) (by decide) ?_
                  show Steps p.tables e below (s₁.setTop (mkF m 91 #[.val (.ref o0), .val (.int (9 : Int32)), .val (.long q2), .second] [(.int (8 : Int32)), (.long q2), (.int w16_b)])) _
                  refine XT.lushr X0.here hx rfl (hb hby d9_91) rfl ?_
                  show Steps p.tables e below (s₁.setTop (mkF m 92 #[.val (.ref o0), .val (.int (9 : Int32)), .val (.long q2), .second] [(.long (XT.ushrL q2 (8 : Int32))), (.int w16_b)])) _
                  refine XT.l2i X0.here hx rfl (hb hby d9_92) rfl ?_
                  show Steps p.tables e below (s₁.setTop (mkF m 93 #[.val (.ref o0), .val (.int (9 : Int32)), .val (.long q2), .second] [(.int ((XT.ushrL q2 (8 : Int32)).toInt32)), (.int w16_b)])) _
                  refine XT.i2b X0.here hx rfl (hb hby d9_93) rfl ?_
                  exact k
                clear pre18
                by_cases c22 : w16_b = (vla17_9_7 q2 w10_b w11_b w12_b w13_b w14_b w15_b w16_b w17_b)
                · skip
                  have hin23 : ¬ ((16 : Int32) < 0 ∨ cl1.slots.size ≤ ((16 : Int32)).toNatClampNeg) := inb_of S1 ⟨by decide, by decide⟩
                  have pre24 : ∀ t, Steps p.tables e below (s₁.setTop (mkF m 106 #[.val (.ref o0), .val (.int (9 : Int32)), .val (.long q2), .second] [(.int ((q2.toInt32).toInt8.toInt32)), (.int w17_b)])) t → Steps p.tables e below (s₁.setTop (entryFrame m #[(.ref o0), (.int (9 : Int32)), (.long q2)] 4)) t := by
                    intro t k
                    refine pre21 t ?_
                    show Steps p.tables e below (s₁.setTop (mkF m 94 #[.val (.ref o0), .val (.int (9 : Int32)), .val (.long q2), .second] [(.int (((XT.ushrL q2 (8 : Int32)).toInt32).toInt8.toInt32)), (.int w16_b)])) _
                    refine XS.icmpNo X0.here hx rfl (hb hby d9_94) rfl (XT.ii_ne_f c22) ?_
                    show Steps p.tables e below (s₁.setTop (mkF m 97 #[.val (.ref o0), .val (.int (9 : Int32)), .val (.long q2), .second] [])) _
                    refine XS.aloadN X0.here hx rfl (hb hby d9_97) rfl rfl ?_
                    show Steps p.tables e below (s₁.setTop (mkF m 98 #[.val (.ref o0), .val (.int (9 : Int32)), .val (.long q2), .second] [(.ref o0)])) _
                    refine XS.iloadN X0.here hx rfl (hb hby d9_98) rfl ?_
                    show Steps p.tables e below (s₁.setTop (mkF m 99 #[.val (.ref o0), .val (.int (9 : Int32)), .val (.long q2), .second] [(.int (9 : Int32)), (.ref o0)])) _
                    refine XT.bipushV X0.here hx rfl (7 : Int32) (hb hby d9_99) (by decide) ?_
                    show Steps p.tables e below (s₁.setTop (mkF m 101 #[.val (.ref o0), .val (.int (9 : Int32)), .val (.long q2), .second] [(.int (7 : Int32)), (.int (9 : Int32)), (.ref o0)])) _
                    refine XS.iadd X0.here hx rfl (hb hby d9_101) rfl ?_
                    show Steps p.tables e below (s₁.setTop (mkF m 102 #[.val (.ref o0), .val (.int (9 : Int32)), .val (.long q2), .second] [(.int (16 : Int32)), (.ref o0)])) _
                    refine X0.baloadBytes hx (j := (16 : Int32)) (v := (.int w17_b)) (by rw [e0]; exact Ar1.1) (State.isArrayOf_alike hZ.alike Ar1.2.1) Ar1.2.2 hin23 (Has.at Ha1 hin23 rfl) (g := (mkF m 102 #[.val (.ref o0), .val (.int (9 : Int32)), .val (.long q2), .second] [(.int (16 : Int32)), (.ref o0)])) rfl rfl (hb hby d9_102) _ ?_
                    show Steps p.tables e below (s₁.setTop (mkF m 103 #[.val (.ref o0), .val (.int (9 : Int32)), .val (.long q2), .second] [(.int w17_b)])) _
                    refine XT.lloadN X0.here hx rfl (hb hby d9_103) rfl ?_
                    show Steps p.tables e below (s₁.setTop (mkF m 104 #[.val (.ref o0), .val (.int (9 : Int32)), .val (.long q2), .second] [(.long q2), (.int w17_b)])) _
                    refine XT.l2i X0.here hx rfl (hb hby d9_104) rfl ?_
                    show Steps p.tables e below (s₁.setTop (mkF m 105 #[.val (.ref o0), .val (.int (9 : Int32)), .val (.long q2), .second] [(.int (q2.toInt32)), (.int w17_b)])) _
                    refine XT.i2b X0.here hx rfl (hb hby d9_105) rfl ?_
                    exact k
                  clear pre21
                  by_cases c25 : w17_b = (vla17_9_8 q2 w10_b w11_b w12_b w13_b w14_b w15_b w16_b w17_b)
                  · skip
                    rw [show (vla17_9_9 q2 w10_b w11_b w12_b w13_b w14_b w15_b w16_b w17_b) = (1 : Int32) from ((((((((if_pos c4).trans (if_pos c7)).trans (if_pos c10)).trans (if_pos c13)).trans (if_pos c16)).trans (if_pos c19)).trans (if_pos c22)).trans (if_pos c25))] at k
                    refine pre24 t ?_
                    show Steps p.tables e below (s₁.setTop (mkF m 106 #[.val (.ref o0), .val (.int (9 : Int32)), .val (.long q2), .second] [(.int ((q2.toInt32).toInt8.toInt32)), (.int w17_b)])) _
                    refine XS.icmpNo X0.here hx rfl (hb hby d9_106) rfl (XT.ii_ne_f c25) ?_
                    show Steps p.tables e below (s₁.setTop (mkF m 109 #[.val (.ref o0), .val (.int (9 : Int32)), .val (.long q2), .second] [])) _
                    refine XT.iconstV X0.here hx rfl (1 : Int32) (hb hby d9_109) (by decide) ?_
                    show Steps p.tables e below (s₁.setTop (mkF m 110 #[.val (.ref o0), .val (.int (9 : Int32)), .val (.long q2), .second] [(.int (1 : Int32))])) _
                    refine XS.goto X0.here hx rfl (pc0 := 110) (pc' := 114) rfl (hb hby d9_110) (by decide) (by decide) ?_
                    exact k
                  · skip
                    rw [show (vla17_9_9 q2 w10_b w11_b w12_b w13_b w14_b w15_b w16_b w17_b) = (0 : Int32) from ((((((((if_pos c4).trans (if_pos c7)).trans (if_pos c10)).trans (if_pos c13)).trans (if_pos c16)).trans (if_pos c19)).trans (if_pos c22)).trans (if_neg c25))] at k
                    refine pre24 t ?_
                    show Steps p.tables e below (s₁.setTop (mkF m 106 #[.val (.ref o0), .val (.int (9 : Int32)), .val (.long q2), .second] [(.int ((q2.toInt32).toInt8.toInt32)), (.int w17_b)])) _
                    refine XS.icmpYes X0.here hx rfl (pc0 := 106) (pc' := 113) rfl (hb hby d9_106) rfl (XT.ii_ne_t c25) (by decide) (by decide) ?_
                    show Steps p.tables e below (s₁.setTop (mkF m 113 #[.val (.ref o0), .val (.int (9 : Int32)), .val (.long q2), .second] [])) _
                    refine XT.iconstV X0.here hx rfl (0 : Int32) (hb hby d9_113) (by decide) ?_
                    exact k
                · skip
                  rw [show (vla17_9_9 q2 w10_b w11_b w12_b w13_b w14_b w15_b w16_b w17_b) = (0 : Int32) from (((((((if_pos c4).trans (if_pos c7)).trans (if_pos c10)).trans (if_pos c13)).trans (if_pos c16)).trans (if_pos c19)).trans (if_neg c22))] at k
                  refine pre21 t ?_
                  show Steps p.tables e below (s₁.setTop (mkF m 94 #[.val (.ref o0), .val (.int (9 : Int32)), .val (.long q2), .second] [(.int (((XT.ushrL q2 (8 : Int32)).toInt32).toInt8.toInt32)), (.int w16_b)])) _
                  refine XS.icmpYes X0.here hx rfl (pc0 := 94) (pc' := 113) rfl (hb hby d9_94) rfl (XT.ii_ne_t c22) (by decide) (by decide) ?_
                  show Steps p.tables e below (s₁.setTop (mkF m 113 #[.val (.ref o0), .val (.int (9 : Int32)), .val (.long q2), .second] [])) _
                  refine XT.iconstV X0.here hx rfl (0 : Int32) (hb hby d9_113) (by decide) ?_
                  exact k
              · skip
                rw [show (vla17_9_9 q2 w10_b w11_b w12_b w13_b w14_b w15_b w16_b w17_b) = (0 : Int32) from ((((((if_pos c4).trans (if_pos c7)).trans (if_pos c10)).trans (if_pos c13)).trans (if_pos c16)).trans (if_neg c19))] at k
                refine pre18 t ?_
                show Steps p.tables e below (s₁.setTop (mkF m 79 #[.val (.ref o0), .val (.int (9 : Int32)), .val (.long q2), .second] [(.int (((XT.ushrL q2 (16 : Int32)).toInt32).toInt8.toInt32)), (.int w15_b)])) _
                refine XS.icmpYes X0.here hx rfl (pc0 := 79) (pc' := 113) rfl (hb hby d9_79) rfl (XT.ii_ne_t c19) (by decide) (by decide) ?_
                show Steps p.tables e below (s₁.setTop (mkF m 113 #[.val (.ref o0), .val (.int (9 : Int32)), .val (.long q2), .second] [])) _
                refine XT.iconstV X0.here hx rfl (0 : Int32) (hb hby d9_113) (by decide) ?_
                exact k
            · skip
              rw [show (vla17_9_9 q2 w10_b w11_b w12_b w13_b w14_b w15_b w16_b w17_b) = (0 : Int32) from (((((if_pos c4).trans (if_pos c7)).trans (if_pos c10)).trans (if_pos c13)).trans (if_neg c16))] at k
              refine pre15 t ?_
              show Steps p.tables e below (s₁.setTop (mkF m 65 #[.val (.ref o0), .val (.int (9 : Int32)), .val (.long q2), .second] [(.int (((XT.ushrL q2 (24 : Int32)).toInt32).toInt8.toInt32)), (.int w14_b)])) _
              refine XS.icmpYes X0.here hx rfl (pc0 := 65) (pc' := 113) rfl (hb hby d9_65) rfl (XT.ii_ne_t c16) (by decide) (by decide) ?_
              show Steps p.tables e below (s₁.setTop (mkF m 113 #[.val (.ref o0), .val (.int (9 : Int32)), .val (.long q2), .second] [])) _
              refine XT.iconstV X0.here hx rfl (0 : Int32) (hb hby d9_113) (by decide) ?_
              exact k
          · skip
            rw [show (vla17_9_9 q2 w10_b w11_b w12_b w13_b w14_b w15_b w16_b w17_b) = (0 : Int32) from ((((if_pos c4).trans (if_pos c7)).trans (if_pos c10)).trans (if_neg c13))] at k
            refine pre12 t ?_
            show Steps p.tables e below (s₁.setTop (mkF m 51 #[.val (.ref o0), .val (.int (9 : Int32)), .val (.long q2), .second] [(.int (((XT.ushrL q2 (32 : Int32)).toInt32).toInt8.toInt32)), (.int w13_b)])) _
            refine XS.icmpYes X0.here hx rfl (pc0 := 51) (pc' := 113) rfl (hb hby d9_51) rfl (XT.ii_ne_t c13) (by decide) (by decide) ?_
            show Steps p.tables e below (s₁.setTop (mkF m 113 #[.val (.ref o0), .val (.int (9 : Int32)), .val (.long q2), .second] [])) _
            refine XT.iconstV X0.here hx rfl (0 : Int32) (hb hby d9_113) (by decide) ?_
            exact k
        · skip
          rw [show (vla17_9_9 q2 w10_b w11_b w12_b w13_b w14_b w15_b w16_b w17_b) = (0 : Int32) from (((if_pos c4).trans (if_pos c7)).trans (if_neg c10))] at k
          refine pre9 t ?_
          show Steps p.tables e below (s₁.setTop (mkF m 37 #[.val (.ref o0), .val (.int (9 : Int32)), .val (.long q2), .second] [(.int (((XT.ushrL q2 (40 : Int32)).toInt32).toInt8.toInt32)), (.int w12_b)])) _
          refine XS.icmpYes X0.here hx rfl (pc0 := 37) (pc' := 113) rfl (hb hby d9_37) rfl (XT.ii_ne_t c10) (by decide) (by decide) ?_
          show Steps p.tables e below (s₁.setTop (mkF m 113 #[.val (.ref o0), .val (.int (9 : Int32)), .val (.long q2), .second] [])) _
          refine XT.iconstV X0.here hx rfl (0 : Int32) (hb hby d9_113) (by decide) ?_
          exact k
      · skip
        rw [show (vla17_9_9 q2 w10_b w11_b w12_b w13_b w14_b w15_b w16_b w17_b) = (0 : Int32) from ((if_pos c4).trans (if_neg c7))] at k
        refine pre6 t ?_
        show Steps p.tables e below (s₁.setTop (mkF m 23 #[.val (.ref o0), .val (.int (9 : Int32)), .val (.long q2), .second] [(.int (((XT.ushrL q2 (48 : Int32)).toInt32).toInt8.toInt32)), (.int w11_b)])) _
        refine XS.icmpYes X0.here hx rfl (pc0 := 23) (pc' := 113) rfl (hb hby d9_23) rfl (XT.ii_ne_t c7) (by decide) (by decide) ?_
        show Steps p.tables e below (s₁.setTop (mkF m 113 #[.val (.ref o0), .val (.int (9 : Int32)), .val (.long q2), .second] [])) _
        refine XT.iconstV X0.here hx rfl (0 : Int32) (hb hby d9_113) (by decide) ?_
        exact k
    · skip
      rw [show (vla17_9_9 q2 w10_b w11_b w12_b w13_b w14_b w15_b w16_b w17_b) = (0 : Int32) from (if_neg c4)] at k
      refine pre3 t ?_
      show Steps p.tables e below (s₁.setTop (mkF m 9 #[.val (.ref o0), .val (.int (9 : Int32)), .val (.long q2), .second] [(.int (((XT.ushrL q2 (56 : Int32)).toInt32).toInt8.toInt32)), (.int w10_b)])) _
      refine XS.icmpYes X0.here hx rfl (pc0 := 9) (pc' := 113) rfl (hb hby d9_9) rfl (XT.ii_ne_t c4) (by decide) (by decide) ?_
      show Steps p.tables e below (s₁.setTop (mkF m 113 #[.val (.ref o0), .val (.int (9 : Int32)), .val (.long q2), .second] [])) _
      refine XT.iconstV X0.here hx rfl (0 : Int32) (hb hby d9_113) (by decide) ?_
      exact k
  obtain ⟨fs, hr, hrun, hended, hW, hsame⟩ := X0.leave (v := some (.int (nar .boolean (vla17_9_9 q2 w10_b w11_b w12_b w13_b w14_b w15_b w16_b w17_b)))) (fun h => by rw [Bd.returns] at h; cases h) hlk
  refine ⟨_, _, pre26 _ ?_, hrun, hended, _, _, rfl, ?_, ⟨_, rfl⟩, hW, hsame.mono (by decide) (by decide)⟩
  · skip
    show Steps p.tables e below (s₁.setTop (mkF m 114 #[.val (.ref o0), .val (.int (9 : Int32)), .val (.long q2), .second] [(.int (vla17_9_9 q2 w10_b w11_b w12_b w13_b w14_b w15_b w16_b w17_b))])) _
    exact retN X0 hx (t := .boolean) Bd.returns (by simp) (hb hby d9_114) hr
  · skip
    show Qla17_9 Z o0 q2 u0 u1 u2 u3 u4 u5 u6 u7 u8 w10_b w11_b w12_b w13_b w14_b w15_b w16_b w17_b kA h0 n0 _ s₁.heap _
    rw [e0]
    exact ⟨N0, rfl, rfl⟩
theorem ef_la85_0 (m : MethodId) (o0 : Addr) (q2 : Int64) : entryFrame m #[(.ref o0), (.int (0 : Int32)), (.long q2)] 4 = mkF m 0 #[.val (.ref o0), .val (.int (0 : Int32)), .val (.long q2), .second] [] := by first | (simp [entryFrame, mkF, argsToLocals, Value.category]; done) | rfl
def vla85_0_1 (q2 : Int64) (w10_b : Int32) (w11_b : Int32) (w12_b : Int32) (w13_b : Int32) (w14_b : Int32) (w15_b : Int32) (w16_b : Int32) (w17_b : Int32) : Int32 := (((XT.ushrL q2 (56 : Int32)).toInt32).toInt8.toInt32)
def vla85_0_2 (q2 : Int64) (w10_b : Int32) (w11_b : Int32) (w12_b : Int32) (w13_b : Int32) (w14_b : Int32) (w15_b : Int32) (w16_b : Int32) (w17_b : Int32) : Int32 := (((XT.ushrL q2 (48 : Int32)).toInt32).toInt8.toInt32)
def vla85_0_3 (q2 : Int64) (w10_b : Int32) (w11_b : Int32) (w12_b : Int32) (w13_b : Int32) (w14_b : Int32) (w15_b : Int32) (w16_b : Int32) (w17_b : Int32) : Int32 := (((XT.ushrL q2 (40 : Int32)).toInt32).toInt8.toInt32)
def vla85_0_4 (q2 : Int64) (w10_b : Int32) (w11_b : Int32) (w12_b : Int32) (w13_b : Int32) (w14_b : Int32) (w15_b : Int32) (w16_b : Int32) (w17_b : Int32) : Int32 := (((XT.ushrL q2 (32 : Int32)).toInt32).toInt8.toInt32)
def vla85_0_5 (q2 : Int64) (w10_b : Int32) (w11_b : Int32) (w12_b : Int32) (w13_b : Int32) (w14_b : Int32) (w15_b : Int32) (w16_b : Int32) (w17_b : Int32) : Int32 := (((XT.ushrL q2 (24 : Int32)).toInt32).toInt8.toInt32)
def vla85_0_6 (q2 : Int64) (w10_b : Int32) (w11_b : Int32) (w12_b : Int32) (w13_b : Int32) (w14_b : Int32) (w15_b : Int32) (w16_b : Int32) (w17_b : Int32) : Int32 := (((XT.ushrL q2 (16 : Int32)).toInt32).toInt8.toInt32)
def vla85_0_7 (q2 : Int64) (w10_b : Int32) (w11_b : Int32) (w12_b : Int32) (w13_b : Int32) (w14_b : Int32) (w15_b : Int32) (w16_b : Int32) (w17_b : Int32) : Int32 := (((XT.ushrL q2 (8 : Int32)).toInt32).toInt8.toInt32)
def vla85_0_8 (q2 : Int64) (w10_b : Int32) (w11_b : Int32) (w12_b : Int32) (w13_b : Int32) (w14_b : Int32) (w15_b : Int32) (w16_b : Int32) (w17_b : Int32) : Int32 := ((q2.toInt32).toInt8.toInt32)
def vla85_0_9 (q2 : Int64) (w10_b : Int32) (w11_b : Int32) (w12_b : Int32) (w13_b : Int32) (w14_b : Int32) (w15_b : Int32) (w16_b : Int32) (w17_b : Int32) : Int32 := (if w10_b = (vla85_0_1 q2 w10_b w11_b w12_b w13_b w14_b w15_b w16_b w17_b) then (if w11_b = (vla85_0_2 q2 w10_b w11_b w12_b w13_b w14_b w15_b w16_b w17_b) then (if w12_b = (vla85_0_3 q2 w10_b w11_b w12_b w13_b w14_b w15_b w16_b w17_b) then (if w13_b = (vla85_0_4 q2 w10_b w11_b w12_b w13_b w14_b w15_b w16_b w17_b) then (if w14_b = (vla85_0_5 q2 w10_b w11_b w12_b w13_b w14_b w15_b w16_b w17_b) then (if w15_b = (vla85_0_6 q2 w10_b w11_b w12_b w13_b w14_b w15_b w16_b w17_b) then (if w16_b = (vla85_0_7 q2 w10_b w11_b w12_b w13_b w14_b w15_b w16_b w17_b) then (if w17_b = (vla85_0_8 q2 w10_b w11_b w12_b w13_b w14_b w15_b w16_b w17_b) then (1 : Int32) else (0 : Int32)) else (0 : Int32)) else (0 : Int32)) else (0 : Int32)) else (0 : Int32)) else (0 : Int32)) else (0 : Int32)) else (0 : Int32))
def fla85_0 (q2 : Int64) (w10_b : Int32) (w11_b : Int32) (w12_b : Int32) (w13_b : Int32) (w14_b : Int32) (w15_b : Int32) (w16_b : Int32) (w17_b : Int32) : Int32 := (nar .boolean (vla85_0_9 q2 w10_b w11_b w12_b w13_b w14_b w15_b w16_b w17_b))
def Qla85_0 (Z : State) (o0 : Addr) (q2 : Int64) (w10_b : Int32) (w11_b : Int32) (w12_b : Int32) (w13_b : Int32) (w14_b : Int32) (w15_b : Int32) (w16_b : Int32) (w17_b : Int32) (u8 : Value) (u9 : Value) (u10 : Value) (u11 : Value) (u12 : Value) (u13 : Value) (u14 : Value) (u15 : Value) (u16 : Value) (u17 : Value) (u18 : Value) (u19 : Value) (u20 : Value) (u21 : Value) (u22 : Value) (u23 : Value) (u24 : Value) (u25 : Value) (u26 : Value) (u27 : Value) (u28 : Value) (u29 : Value) (u30 : Value) (u31 : Value) (u32 : Value) (u33 : Value) (u34 : Value) (u35 : Value) (u36 : Value) (u37 : Value) (u38 : Value) (u39 : Value) (u40 : Value) (u41 : Value) (u42 : Value) (u43 : Value) (u44 : Value) (u45 : Value) (u46 : Value) (u47 : Value) (u48 : Value) (u49 : Value) (u50 : Value) (u51 : Value) (u52 : Value) (u53 : Value) (u54 : Value) (u55 : Value) (u56 : Value) (u57 : Value) (u58 : Value) (u59 : Value) (u60 : Value) (u61 : Value) (u62 : Value) (u63 : Value) (u64 : Value) (u65 : Value) (u66 : Value) (u67 : Value) (u68 : Value) (u69 : Value) (u70 : Value) (u71 : Value) (u72 : Value) (u73 : Value) (u74 : Value) (u75 : Value) (u76 : Value) (u77 : Value) (u78 : Value) (u79 : Value) (u80 : Value) (u81 : Value) (u82 : Value) (u83 : Value) (u84 : Value) (kA : ClassId) (h0 : Heap) (n0 : Nat) (v : Option Value) (h : Heap) (L : List Loc) : Prop := Fr n0 L ∧ v = some (.int (fla85_0 q2 w10_b w11_b w12_b w13_b w14_b w15_b w16_b w17_b)) ∧ h = h0
set_option maxRecDepth 65536 in
set_option maxHeartbeats 40000000 in
theorem rmla85_0 (l : Launch) (Z : State) (a0 : Array Value) (hw : ∀ d ∈ tables_1, d.before a0 Z = true) (ws : List Jvm.Cond) (o0 : Addr) (q2 : Int64) (w10_b : Int32) (w11_b : Int32) (w12_b : Int32) (w13_b : Int32) (w14_b : Int32) (w15_b : Int32) (w16_b : Int32) (w17_b : Int32) (u8 : Value) (u9 : Value) (u10 : Value) (u11 : Value) (u12 : Value) (u13 : Value) (u14 : Value) (u15 : Value) (u16 : Value) (u17 : Value) (u18 : Value) (u19 : Value) (u20 : Value) (u21 : Value) (u22 : Value) (u23 : Value) (u24 : Value) (u25 : Value) (u26 : Value) (u27 : Value) (u28 : Value) (u29 : Value) (u30 : Value) (u31 : Value) (u32 : Value) (u33 : Value) (u34 : Value) (u35 : Value) (u36 : Value) (u37 : Value) (u38 : Value) (u39 : Value) (u40 : Value) (u41 : Value) (u42 : Value) (u43 : Value) (u44 : Value) (u45 : Value) (u46 : Value) (u47 : Value) (u48 : Value) (u49 : Value) (u50 : Value) (u51 : Value) (u52 : Value) (u53 : Value) (u54 : Value) (u55 : Value) (u56 : Value) (u57 : Value) (u58 : Value) (u59 : Value) (u60 : Value) (u61 : Value) (u62 : Value) (u63 : Value) (u64 : Value) (u65 : Value) (u66 : Value) (u67 : Value) (u68 : Value) (u69 : Value) (u70 : Value) (u71 : Value) (u72 : Value) (u73 : Value) (u74 : Value) (u75 : Value) (u76 : Value) (u77 : Value) (u78 : Value) (u79 : Value) (u80 : Value) (u81 : Value) (u82 : Value) (u83 : Value) (u84 : Value) (kA : ClassId) (h0 : Heap) (n0 : Nat) (Z0 : n0 ≤ h0.size) (V_o0 : Arv Z h0 o0 kA .byte (85 : Int32) [(.int w10_b), (.int w11_b), (.int w12_b), (.int w13_b), (.int w14_b), (.int w15_b), (.int w16_b), (.int w17_b), u8, u9, u10, u11, u12, u13, u14, u15, u16, u17, u18, u19, u20, u21, u22, u23, u24, u25, u26, u27, u28, u29, u30, u31, u32, u33, u34, u35, u36, u37, u38, u39, u40, u41, u42, u43, u44, u45, u46, u47, u48, u49, u50, u51, u52, u53, u54, u55, u56, u57, u58, u59, u60, u61, u62, u63, u64, u65, u66, u67, u68, u69, u70, u71, u72, u73, u74, u75, u76, u77, u78, u79, u80, u81, u82, u83, u84] (.int (0 : Int32))) :
    MetFree l (⟨"com/example/dispatch_by_catalog/dispatchbycatalog/store/RecordWriterToBytesPinLaw", "longAt", "([BIJ)Z"⟩ : MethodName) (head1 (Jvm.Cond.code (⟨"com/example/dispatch_by_catalog/dispatchbycatalog/store/RecordWriterToBytesPinLaw", "longAt", "([BIJ)Z"⟩ : MethodName) method_3_code 4 (some .boolean) :: ws) ({ frames := 0, cells := 0, slots := 0, locals := 0 } : Room)) (fun a U => a = #[(.ref o0), (.int (0 : Int32)), (.long q2)] ∧ Z.Warmed39 U.vm ∧ U.heap = h0) (fun _ _ _ _ _ => True) (fun _ U o U' => ∃ v L, o = .returned v ∧ Qla85_0 Z o0 q2 w10_b w11_b w12_b w13_b w14_b w15_b w16_b w17_b u8 u9 u10 u11 u12 u13 u14 u15 u16 u17 u18 u19 u20 u21 u22 u23 u24 u25 u26 u27 u28 u29 u30 u31 u32 u33 u34 u35 u36 u37 u38 u39 u40 u41 u42 u43 u44 u45 u46 u47 u48 u49 u50 u51 u52 u53 u54 u55 u56 u57 u58 u59 u60 u61 u62 u63 u64 u65 u66 u67 u68 u69 u70 u71 u72 u73 u74 u75 u76 u77 u78 u79 u80 u81 u82 u83 u84 kA h0 n0 v U'.heap L ∧ FrameEnd U o U' L ({ frames := 0, cells := 0, slots := 0, locals := 0 } : Room).cells ({ frames := 0, cells := 0, slots := 0, locals := 0 } : Room).slots) := by
  refine MetFree.of_bodySF (plainFor_of_name pn_com_example_dispatch_by_catalog_dispatchbycatalog_store_RecordWriterToBytesPinLaw) hisR ?_
  intro p e s m args below meth c s₁ Bd hml0 hP hK
  obtain ⟨rfl, hZ, hh⟩ := hP
  have hx := Bd.exec
  have hby := Bd.bytes
  have hml : c.maxLocals = 4 := hml0
  have hown : s.vm.findClass "com/example/dispatch_by_catalog/dispatchbycatalog/store/RecordWriterToBytesPinLaw" = some m.cls := findClass_of_methodNamed Bd.named
  have hnm := (name_of_methodNamed Bd.named Bd.method).1
  have hlk := BodyLoose.notSynchronized Bd
  have X0 : Stand p l e ({ frames := 0, cells := 0, slots := 0, locals := 0 } : Room) s m #[(.ref o0), (.int (0 : Int32)), (.long q2)] below meth c s₁ [] 0 0 := Stand.of_body Bd
  have e0 : s₁.heap = h0 := by rw [← hh, Bd.state]; rfl
  have N0 := Fr.nil n0
  have pre0 : ∀ t, Steps p.tables e below (s₁.setTop (mkF m 0 #[.val (.ref o0), .val (.int (0 : Int32)), .val (.long q2), .second] [])) t → Steps p.tables e below (s₁.setTop (entryFrame m #[(.ref o0), (.int (0 : Int32)), (.long q2)] 4)) t := fun t k => castTop (ef_la85_0 m o0 q2) k
  obtain ⟨cl1, Ar1, qc1, S1, M1, Ha1, G1⟩ := id V_o0
  have hin2 : ¬ ((0 : Int32) < 0 ∨ cl1.slots.size ≤ ((0 : Int32)).toNatClampNeg) := inb_of S1 ⟨by decide, by decide⟩
  have pre3 : ∀ t, Steps p.tables e below (s₁.setTop (mkF m 9 #[.val (.ref o0), .val (.int (0 : Int32)), .val (.long q2), .second] [(.int (((XT.ushrL q2 (56 : Int32)).toInt32).toInt8.toInt32)), (.int w10_b)])) t → Steps p.tables e below (s₁.setTop (entryFrame m #[(.ref o0), (.int (0 : Int32)), (.long q2)] 4)) t := by
    intro t k
    refine pre0 t ?_
    show Steps p.tables e below (s₁.setTop (mkF m 0 #[.val (.ref o0), .val (.int (0 : Int32)), .val (.long q2), .second] [])) _
    refine XS.aloadN X0.here hx rfl (hb hby d9_0) rfl rfl ?_
    show Steps p.tables e below (s₁.setTop (mkF m 1 #[.val (.ref o0), .val (.int (0 : Int32)), .val (.long q2), .second] [(.ref o0)])) _
    refine XS.iloadN X0.here hx rfl (hb hby d9_1) rfl ?_
    show Steps p.tables e below (s₁.setTop (mkF m 2 #[.val (.ref o0), .val (.int (0 : Int32)), .val (.long q2), .second] [(.int (0 : Int32)), (.ref o0)])) _
    refine X0.baloadBytes hx (j := (0 : Int32)) (v := (.int w10_b)) (by rw [e0]; exact Ar1.1) (State.isArrayOf_alike hZ.alike Ar1.2.1) Ar1.2.2 hin2 (Has.at Ha1 hin2 rfl) (g := (mkF m 2 #[.val (.ref o0), .val (.int (0 : Int32)), .val (.long q2), .second] [(.int (0 : Int32)), (.ref o0)])) rfl rfl (hb hby d9_2) _ ?_
    show Steps p.tables e below (s₁.setTop (mkF m 3 #[.val (.ref o0), .val (.int (0 : Int32)), .val (.long q2), .second] [(.int w10_b)])) _
    refine XT.lloadN X0.here hx rfl (hb hby d9_3) rfl ?_
    show Steps p.tables e below (s₁.setTop (mkF m 4 #[.val (.ref o0), .val (.int (0 : Int32)), .val (.long q2), .second] [(.long q2), (.int w10_b)])) _
    refine XT.bipushV X0.here hx rfl (56 : Int32) (hb hby d9_4) (by decide) ?_
    show Steps p.tables e below (s₁.setTop (mkF m 6 #[.val (.ref o0), .val (.int (0 : Int32)), .val (.long q2), .second] [(.int (56 : Int32)), (.long q2), (.int w10_b)])) _
    refine XT.lushr X0.here hx rfl (hb hby d9_6) rfl ?_
    show Steps p.tables e below (s₁.setTop (mkF m 7 #[.val (.ref o0), .val (.int (0 : Int32)), .val (.long q2), .second] [(.long (XT.ushrL q2 (56 : Int32))), (.int w10_b)])) _
    refine XT.l2i X0.here hx rfl (hb hby d9_7) rfl ?_
    show Steps p.tables e below (s₁.setTop (mkF m 8 #[.val (.ref o0), .val (.int (0 : Int32)), .val (.long q2), .second] [(.int ((XT.ushrL q2 (56 : Int32)).toInt32)), (.int w10_b)])) _
    refine XT.i2b X0.here hx rfl (hb hby d9_8) rfl ?_
    exact k
  clear pre0
  have pre26 : ∀ t, Steps p.tables e below (s₁.setTop (mkF m 114 #[.val (.ref o0), .val (.int (0 : Int32)), .val (.long q2), .second] [(.int (vla85_0_9 q2 w10_b w11_b w12_b w13_b w14_b w15_b w16_b w17_b))])) t → Steps p.tables e below (s₁.setTop (entryFrame m #[(.ref o0), (.int (0 : Int32)), (.long q2)] 4)) t := by
    intro t k
    by_cases c4 : w10_b = (vla85_0_1 q2 w10_b w11_b w12_b w13_b w14_b w15_b w16_b w17_b)
    · skip
      have hin5 : ¬ ((1 : Int32) < 0 ∨ cl1.slots.size ≤ ((1 : Int32)).toNatClampNeg) := inb_of S1 ⟨by decide, by decide⟩
      have pre6 : ∀ t, Steps p.tables e below (s₁.setTop (mkF m 23 #[.val (.ref o0), .val (.int (0 : Int32)), .val (.long q2), .second] [(.int (((XT.ushrL q2 (48 : Int32)).toInt32).toInt8.toInt32)), (.int w11_b)])) t → Steps p.tables e below (s₁.setTop (entryFrame m #[(.ref o0), (.int (0 : Int32)), (.long q2)] 4)) t := by
        intro t k
        refine pre3 t ?_
        show Steps p.tables e below (s₁.setTop (mkF m 9 #[.val (.ref o0), .val (.int (0 : Int32)), .val (.long q2), .second] [(.int (((XT.ushrL q2 (56 : Int32)).toInt32).toInt8.toInt32)), (.int w10_b)])) _
        refine XS.icmpNo X0.here hx rfl (hb hby d9_9) rfl (XT.ii_ne_f c4) ?_
        show Steps p.tables e below (s₁.setTop (mkF m 12 #[.val (.ref o0), .val (.int (0 : Int32)), .val (.long q2), .second] [])) _
        refine XS.aloadN X0.here hx rfl (hb hby d9_12) rfl rfl ?_
        show Steps p.tables e below (s₁.setTop (mkF m 13 #[.val (.ref o0), .val (.int (0 : Int32)), .val (.long q2), .second] [(.ref o0)])) _
        refine XS.iloadN X0.here hx rfl (hb hby d9_13) rfl ?_
        show Steps p.tables e below (s₁.setTop (mkF m 14 #[.val (.ref o0), .val (.int (0 : Int32)), .val (.long q2), .second] [(.int (0 : Int32)), (.ref o0)])) _
        refine XT.iconstV X0.here hx rfl (1 : Int32) (hb hby d9_14) (by decide) ?_
        show Steps p.tables e below (s₁.setTop (mkF m 15 #[.val (.ref o0), .val (.int (0 : Int32)), .val (.long q2), .second] [(.int (1 : Int32)), (.int (0 : Int32)), (.ref o0)])) _
        refine XS.iadd X0.here hx rfl (hb hby d9_15) rfl ?_
        show Steps p.tables e below (s₁.setTop (mkF m 16 #[.val (.ref o0), .val (.int (0 : Int32)), .val (.long q2), .second] [(.int (1 : Int32)), (.ref o0)])) _
        refine X0.baloadBytes hx (j := (1 : Int32)) (v := (.int w11_b)) (by rw [e0]; exact Ar1.1) (State.isArrayOf_alike hZ.alike Ar1.2.1) Ar1.2.2 hin5 (Has.at Ha1 hin5 rfl) (g := (mkF m 16 #[.val (.ref o0), .val (.int (0 : Int32)), .val (.long q2), .second] [(.int (1 : Int32)), (.ref o0)])) rfl rfl (hb hby d9_16) _ ?_
        show Steps p.tables e below (s₁.setTop (mkF m 17 #[.val (.ref o0), .val (.int (0 : Int32)), .val (.long q2), .second] [(.int w11_b)])) _
        refine XT.lloadN X0.here hx rfl (hb hby d9_17) rfl ?_
        show Steps p.tables e below (s₁.setTop (mkF m 18 #[.val (.ref o0), .val (.int (0 : Int32)), .val (.long q2), .second] [(.long q2), (.int w11_b)])) _
        refine XT.bipushV X0.here hx rfl (48 : Int32) (hb hby d9_18) (by decide) ?_
        show Steps p.tables e below (s₁.setTop (mkF m 20 #[.val (.ref o0), .val (.int (0 : Int32)), .val (.long q2), .second] [(.int (48 : Int32)), (.long q2), (.int w11_b)])) _
        refine XT.lushr X0.here hx rfl (hb hby d9_20) rfl ?_
        show Steps p.tables e below (s₁.setTop (mkF m 21 #[.val (.ref o0), .val (.int (0 : Int32)), .val (.long q2), .second] [(.long (XT.ushrL q2 (48 : Int32))), (.int w11_b)])) _
        refine XT.l2i X0.here hx rfl (hb hby d9_21) rfl ?_
        show Steps p.tables e below (s₁.setTop (mkF m 22 #[.val (.ref o0), .val (.int (0 : Int32)), .val (.long q2), .second] [(.int ((XT.ushrL q2 (48 : Int32)).toInt32)), (.int w11_b)])) _
        refine XT.i2b X0.here hx rfl (hb hby d9_22) rfl ?_
        exact k
      clear pre3
      by_cases c7 : w11_b = (vla85_0_2 q2 w10_b w11_b w12_b w13_b w14_b w15_b w16_b w17_b)
      · skip
        have hin8 : ¬ ((2 : Int32) < 0 ∨ cl1.slots.size ≤ ((2 : Int32)).toNatClampNeg) := inb_of S1 ⟨by decide, by decide⟩
        have pre9 : ∀ t, Steps p.tables e below (s₁.setTop (mkF m 37 #[.val (.ref o0), .val (.int (0 : Int32)), .val (.long q2), .second] [(.int (((XT.ushrL q2 (40 : Int32)).toInt32).toInt8.toInt32)), (.int w12_b)])) t → Steps p.tables e below (s₁.setTop (entryFrame m #[(.ref o0), (.int (0 : Int32)), (.long q2)] 4)) t := by
          intro t k
          refine pre6 t ?_
          show Steps p.tables e below (s₁.setTop (mkF m 23 #[.val (.ref o0), .val (.int (0 : Int32)), .val (.long q2), .second] [(.int (((XT.ushrL q2 (48 : Int32)).toInt32).toInt8.toInt32)), (.int w11_b)])) _
          refine XS.icmpNo X0.here hx rfl (hb hby d9_23) rfl (XT.ii_ne_f c7) ?_
          show Steps p.tables e below (s₁.setTop (mkF m 26 #[.val (.ref o0), .val (.int (0 : Int32)), .val (.long q2), .second] [])) _
          refine XS.aloadN X0.here hx rfl (hb hby d9_26) rfl rfl ?_
          show Steps p.tables e below (s₁.setTop (mkF m 27 #[.val (.ref o0), .val (.int (0 : Int32)), .val (.long q2), .second] [(.ref o0)])) _
          refine XS.iloadN X0.here hx rfl (hb hby d9_27) rfl ?_
          show Steps p.tables e below (s₁.setTop (mkF m 28 #[.val (.ref o0), .val (.int (0 : Int32)), .val (.long q2), .second] [(.int (0 : Int32)), (.ref o0)])) _
          refine XT.iconstV X0.here hx rfl (2 : Int32) (hb hby d9_28) (by decide) ?_
          show Steps p.tables e below (s₁.setTop (mkF m 29 #[.val (.ref o0), .val (.int (0 : Int32)), .val (.long q2), .second] [(.int (2 : Int32)), (.int (0 : Int32)), (.ref o0)])) _
          refine XS.iadd X0.here hx rfl (hb hby d9_29) rfl ?_
          show Steps p.tables e below (s₁.setTop (mkF m 30 #[.val (.ref o0), .val (.int (0 : Int32)), .val (.long q2), .second] [(.int (2 : Int32)), (.ref o0)])) _
          refine X0.baloadBytes hx (j := (2 : Int32)) (v := (.int w12_b)) (by rw [e0]; exact Ar1.1) (State.isArrayOf_alike hZ.alike Ar1.2.1) Ar1.2.2 hin8 (Has.at Ha1 hin8 rfl) (g := (mkF m 30 #[.val (.ref o0), .val (.int (0 : Int32)), .val (.long q2), .second] [(.int (2 : Int32)), (.ref o0)])) rfl rfl (hb hby d9_30) _ ?_
          show Steps p.tables e below (s₁.setTop (mkF m 31 #[.val (.ref o0), .val (.int (0 : Int32)), .val (.long q2), .second] [(.int w12_b)])) _
          refine XT.lloadN X0.here hx rfl (hb hby d9_31) rfl ?_
          show Steps p.tables e below (s₁.setTop (mkF m 32 #[.val (.ref o0), .val (.int (0 : Int32)), .val (.long q2), .second] [(.long q2), (.int w12_b)])) _
          refine XT.bipushV X0.here hx rfl (40 : Int32) (hb hby d9_32) (by decide) ?_
          show Steps p.tables e below (s₁.setTop (mkF m 34 #[.val (.ref o0), .val (.int (0 : Int32)), .val (.long q2), .second] [(.int (40 : Int32)), (.long q2), (.int w12_b)])) _
          refine XT.lushr X0.here hx rfl (hb hby d9_34) rfl ?_
          show Steps p.tables e below (s₁.setTop (mkF m 35 #[.val (.ref o0), .val (.int (0 : Int32)), .val (.long q2), .second] [(.long (XT.ushrL q2 (40 : Int32))), (.int w12_b)])) _
          refine XT.l2i X0.here hx rfl (hb hby d9_35) rfl ?_
          show Steps p.tables e below (s₁.setTop (mkF m 36 #[.val (.ref o0), .val (.int (0 : Int32)), .val (.long q2), .second] [(.int ((XT.ushrL q2 (40 : Int32)).toInt32)), (.int w12_b)])) _
          refine XT.i2b X0.here hx rfl (hb hby d9_36) rfl ?_
          exact k
        clear pre6
        by_cases c10 : w12_b = (vla85_0_3 q2 w10_b w11_b w12_b w13_b w14_b w15_b w16_b w17_b)
        · skip
          have hin11 : ¬ ((3 : Int32) < 0 ∨ cl1.slots.size ≤ ((3 : Int32)).toNatClampNeg) := inb_of S1 ⟨by decide, by decide⟩
          have pre12 : ∀ t, Steps p.tables e below (s₁.setTop (mkF m 51 #[.val (.ref o0), .val (.int (0 : Int32)), .val (.long q2), .second] [(.int (((XT.ushrL q2 (32 : Int32)).toInt32).toInt8.toInt32)), (.int w13_b)])) t → Steps p.tables e below (s₁.setTop (entryFrame m #[(.ref o0), (.int (0 : Int32)), (.long q2)] 4)) t := by
            intro t k
            refine pre9 t ?_
            show Steps p.tables e below (s₁.setTop (mkF m 37 #[.val (.ref o0), .val (.int (0 : Int32)), .val (.long q2), .second] [(.int (((XT.ushrL q2 (40 : Int32)).toInt32).toInt8.toInt32)), (.int w12_b)])) _
            refine XS.icmpNo X0.here hx rfl (hb hby d9_37) rfl (XT.ii_ne_f c10) ?_
            show Steps p.tables e below (s₁.setTop (mkF m 40 #[.val (.ref o0), .val (.int (0 : Int32)), .val (.long q2), .second] [])) _
            refine XS.aloadN X0.here hx rfl (hb hby d9_40) rfl rfl ?_
            show Steps p.tables e below (s₁.setTop (mkF m 41 #[.val (.ref o0), .val (.int (0 : Int32)), .val (.long q2), .second] [(.ref o0)])) _
            refine XS.iloadN X0.here hx rfl (hb hby d9_41) rfl ?_
            show Steps p.tables e below (s₁.setTop (mkF m 42 #[.val (.ref o0), .val (.int (0 : Int32)), .val (.long q2), .second] [(.int (0 : Int32)), (.ref o0)])) _
            refine XT.iconstV X0.here hx rfl (3 : Int32) (hb hby d9_42) (by decide) ?_
            show Steps p.tables e below (s₁.setTop (mkF m 43 #[.val (.ref o0), .val (.int (0 : Int32)), .val (.long q2), .second] [(.int (3 : Int32)), (.int (0 : Int32)), (.ref o0)])) _
            refine XS.iadd X0.here hx rfl (hb hby d9_43) rfl ?_
            show Steps p.tables e below (s₁.setTop (mkF m 44 #[.val (.ref o0), .val (.int (0 : Int32)), .val (.long q2), .second] [(.int (3 : Int32)), (.ref o0)])) _
            refine X0.baloadBytes hx (j := (3 : Int32)) (v := (.int w13_b)) (by rw [e0]; exact Ar1.1) (State.isArrayOf_alike hZ.alike Ar1.2.1) Ar1.2.2 hin11 (Has.at Ha1 hin11 rfl) (g := (mkF m 44 #[.val (.ref o0), .val (.int (0 : Int32)), .val (.long q2), .second] [(.int (3 : Int32)), (.ref o0)])) rfl rfl (hb hby d9_44) _ ?_
            show Steps p.tables e below (s₁.setTop (mkF m 45 #[.val (.ref o0), .val (.int (0 : Int32)), .val (.long q2), .second] [(.int w13_b)])) _
            refine XT.lloadN X0.here hx rfl (hb hby d9_45) rfl ?_
            show Steps p.tables e below (s₁.setTop (mkF m 46 #[.val (.ref o0), .val (.int (0 : Int32)), .val (.long q2), .second] [(.long q2), (.int w13_b)])) _
            refine XT.bipushV X0.here hx rfl (32 : Int32) (hb hby d9_46) (by decide) ?_
            show Steps p.tables e below (s₁.setTop (mkF m 48 #[.val (.ref o0), .val (.int (0 : Int32)), .val (.long q2), .second] [(.int (32 : Int32)), (.long q2), (.int w13_b)])) _
            refine XT.lushr X0.here hx rfl (hb hby d9_48) rfl ?_
            show Steps p.tables e below (s₁.setTop (mkF m 49 #[.val (.ref o0), .val (.int (0 : Int32)), .val (.long q2), .second] [(.long (XT.ushrL q2 (32 : Int32))), (.int w13_b)])) _
            refine XT.l2i X0.here hx rfl (hb hby d9_49) rfl ?_
            show Steps p.tables e below (s₁.setTop (mkF m 50 #[.val (.ref o0), .val (.int (0 : Int32)), .val (.long q2), .second] [(.int ((XT.ushrL q2 (32 : Int32)).toInt32)), (.int w13_b)])) _
            refine XT.i2b X0.here hx rfl (hb hby d9_50) rfl ?_
            exact k
          clear pre9
          by_cases c13 : w13_b = (vla85_0_4 q2 w10_b w11_b w12_b w13_b w14_b w15_b w16_b w17_b)
          · skip
            have hin14 : ¬ ((4 : Int32) < 0 ∨ cl1.slots.size ≤ ((4 : Int32)).toNatClampNeg) := inb_of S1 ⟨by decide, by decide⟩
            have pre15 : ∀ t, Steps p.tables e below (s₁.setTop (mkF m 65 #[.val (.ref o0), .val (.int (0 : Int32)), .val (.long q2), .second] [(.int (((XT.ushrL q2 (24 : Int32)).toInt32).toInt8.toInt32)), (.int w14_b)])) t → Steps p.tables e below (s₁.setTop (entryFrame m #[(.ref o0), (.int (0 : Int32)), (.long q2)] 4)) t := by
              intro t k
              refine pre12 t ?_
              show Steps p.tables e below (s₁.setTop (mkF m 51 #[.val (.ref o0), .val (.int (0 : Int32)), .val (.long q2), .second] [(.int (((XT.ushrL q2 (32 : Int32)).toInt32).toInt8.toInt32)), (.int w13_b)])) _
              refine XS.icmpNo X0.here hx rfl (hb hby d9_51) rfl (XT.ii_ne_f c13) ?_
              show Steps p.tables e below (s₁.setTop (mkF m 54 #[.val (.ref o0), .val (.int (0 : Int32)), .val (.long q2), .second] [])) _
              refine XS.aloadN X0.here hx rfl (hb hby d9_54) rfl rfl ?_
              show Steps p.tables e below (s₁.setTop (mkF m 55 #[.val (.ref o0), .val (.int (0 : Int32)), .val (.long q2), .second] [(.ref o0)])) _
              refine XS.iloadN X0.here hx rfl (hb hby d9_55) rfl ?_
              show Steps p.tables e below (s₁.setTop (mkF m 56 #[.val (.ref o0), .val (.int (0 : Int32)), .val (.long q2), .second] [(.int (0 : Int32)), (.ref o0)])) _
              refine XT.iconstV X0.here hx rfl (4 : Int32) (hb hby d9_56) (by decide) ?_
              show Steps p.tables e below (s₁.setTop (mkF m 57 #[.val (.ref o0), .val (.int (0 : Int32)), .val (.long q2), .second] [(.int (4 : Int32)), (.int (0 : Int32)), (.ref o0)])) _
              refine XS.iadd X0.here hx rfl (hb hby d9_57) rfl ?_
              show Steps p.tables e below (s₁.setTop (mkF m 58 #[.val (.ref o0), .val (.int (0 : Int32)), .val (.long q2), .second] [(.int (4 : Int32)), (.ref o0)])) _
              refine X0.baloadBytes hx (j := (4 : Int32)) (v := (.int w14_b)) (by rw [e0]; exact Ar1.1) (State.isArrayOf_alike hZ.alike Ar1.2.1) Ar1.2.2 hin14 (Has.at Ha1 hin14 rfl) (g := (mkF m 58 #[.val (.ref o0), .val (.int (0 : Int32)), .val (.long q2), .second] [(.int (4 : Int32)), (.ref o0)])) rfl rfl (hb hby d9_58) _ ?_
              show Steps p.tables e below (s₁.setTop (mkF m 59 #[.val (.ref o0), .val (.int (0 : Int32)), .val (.long q2), .second] [(.int w14_b)])) _
              refine XT.lloadN X0.here hx rfl (hb hby d9_59) rfl ?_
              show Steps p.tables e below (s₁.setTop (mkF m 60 #[.val (.ref o0), .val (.int (0 : Int32)), .val (.long q2), .second] [(.long q2), (.int w14_b)])) _
              refine XT.bipushV X0.here hx rfl (24 : Int32) (hb hby d9_60) (by decide) ?_
              show Steps p.tables e below (s₁.setTop (mkF m 62 #[.val (.ref o0), .val (.int (0 : Int32)), .val (.long q2), .second] [(.int (24 : Int32)), (.long q2), (.int w14_b)])) _
              refine XT.lushr X0.here hx rfl (hb hby d9_62) rfl ?_
              show Steps p.tables e below (s₁.setTop (mkF m 63 #[.val (.ref o0), .val (.int (0 : Int32)), .val (.long q2), .second] [(.long (XT.ushrL q2 (24 : Int32))), (.int w14_b)])) _
              refine XT.l2i X0.here hx rfl (hb hby d9_63) rfl ?_
              show Steps p.tables e below (s₁.setTop (mkF m 64 #[.val (.ref o0), .val (.int (0 : Int32)), .val (.long q2), .second] [(.int ((XT.ushrL q2 (24 : Int32)).toInt32)), (.int w14_b)])) _
              refine XT.i2b X0.here hx rfl (hb hby d9_64) rfl ?_
              exact k
            clear pre12
            by_cases c16 : w14_b = (vla85_0_5 q2 w10_b w11_b w12_b w13_b w14_b w15_b w16_b w17_b)
            · skip
              have hin17 : ¬ ((5 : Int32) < 0 ∨ cl1.slots.size ≤ ((5 : Int32)).toNatClampNeg) := inb_of S1 ⟨by decide, by decide⟩
              have pre18 : ∀ t, Steps p.tables e below (s₁.setTop (mkF m 79 #[.val (.ref o0), .val (.int (0 : Int32)), .val (.long q2), .second] [(.int (((XT.ushrL q2 (16 : Int32)).toInt32).toInt8.toInt32)), (.int w15_b)])) t → Steps p.tables e below (s₁.setTop (entryFrame m #[(.ref o0), (.int (0 : Int32)), (.long q2)] 4)) t := by
                intro t k
                refine pre15 t ?_
                show Steps p.tables e below (s₁.setTop (mkF m 65 #[.val (.ref o0), .val (.int (0 : Int32)), .val (.long q2), .second] [(.int (((XT.ushrL q2 (24 : Int32)).toInt32).toInt8.toInt32)), (.int w14_b)])) _
                refine XS.icmpNo X0.here hx rfl (hb hby d9_65) rfl (XT.ii_ne_f c16) ?_
                show Steps p.tables e below (s₁.setTop (mkF m 68 #[.val (.ref o0), .val (.int (0 : Int32)), .val (.long q2), .second] [])) _
                refine XS.aloadN X0.here hx rfl (hb hby d9_68) rfl rfl ?_
                show Steps p.tables e below (s₁.setTop (mkF m 69 #[.val (.ref o0), .val (.int (0 : Int32)), .val (.long q2), .second] [(.ref o0)])) _
                refine XS.iloadN X0.here hx rfl (hb hby d9_69) rfl ?_
                show Steps p.tables e below (s₁.setTop (mkF m 70 #[.val (.ref o0), .val (.int (0 : Int32)), .val (.long q2), .second] [(.int (0 : Int32)), (.ref o0)])) _
                refine XT.iconstV X0.here hx rfl (5 : Int32) (hb hby d9_70) (by decide) ?_
                show Steps p.tables e below (s₁.setTop (mkF m 71 #[.val (.ref o0), .val (.int (0 : Int32)), .val (.long q2), .second] [(.int (5 : Int32)), (.int (0 : Int32)), (.ref o0)])) _
                refine XS.iadd X0.here hx rfl (hb hby d9_71) rfl ?_
                show Steps p.tables e below (s₁.setTop (mkF m 72 #[.val (.ref o0), .val (.int (0 : Int32)), .val (.long q2), .second] [(.int (5 : Int32)), (.ref o0)])) _
                refine X0.baloadBytes hx (j := (5 : Int32)) (v := (.int w15_b)) (by rw [e0]; exact Ar1.1) (State.isArrayOf_alike hZ.alike Ar1.2.1) Ar1.2.2 hin17 (Has.at Ha1 hin17 rfl) (g := (mkF m 72 #[.val (.ref o0), .val (.int (0 : Int32)), .val (.long q2), .second] [(.int (5 : Int32)), (.ref o0)])) rfl rfl (hb hby d9_72) _ ?_
                show Steps p.tables e below (s₁.setTop (mkF m 73 #[.val (.ref o0), .val (.int (0 : Int32)), .val (.long q2), .second] [(.int w15_b)])) _
                refine XT.lloadN X0.here hx rfl (hb hby d9_73) rfl ?_
                show Steps p.tables e below (s₁.setTop (mkF m 74 #[.val (.ref o0), .val (.int (0 : Int32)), .val (.long q2), .second] [(.long q2), (.int w15_b)])) _
                refine XT.bipushV X0.here hx rfl (16 : Int32) (hb hby d9_74) (by decide) ?_
                show Steps p.tables e below (s₁.setTop (mkF m 76 #[.val (.ref o0), .val (.int (0 : Int32)), .val (.long q2), .second] [(.int (16 : Int32)), (.long q2), (.int w15_b)])) _
                refine XT.lushr X0.here hx rfl (hb hby d9_76) rfl ?_
                show Steps p.tables e below (s₁.setTop (mkF m 77 #[.val (.ref o0), .val (.int (0 : Int32)), .val (.long q2), .second] [(.long (XT.ushrL q2 (16 : Int32))), (.int w15_b)])) _
                refine XT.l2i X0.here hx rfl (hb hby d9_77) rfl ?_
                show Steps p.tables e below (s₁.setTop (mkF m 78 #[.val (.ref o0), .val (.int (0 : Int32)), .val (.long q2), .second] [(.int ((XT.ushrL q2 (16 : Int32)).toInt32)), (.int w15_b)])) _
                refine XT.i2b X0.here hx rfl (hb hby d9_78) rfl ?_
                exact k
              clear pre15
              by_cases c19 : w15_b = (vla85_0_6 q2 w10_b w11_b w12_b w13_b w14_b w15_b w16_b w17_b)
              · skip
                have hin20 : ¬ ((6 : Int32) < 0 ∨ cl1.slots.size ≤ ((6 : Int32)).toNatClampNeg) := inb_of S1 ⟨by decide, by decide⟩
                have pre21 : ∀ t, Steps p.tables e below (s₁.setTop (mkF m 94 #[.val (.ref o0), .val (.int (0 : Int32)), .val (.long q2), .second] [(.int (((XT.ushrL q2 (8 : Int32)).toInt32).toInt8.toInt32)), (.int w16_b)])) t → Steps p.tables e below (s₁.setTop (entryFrame m #[(.ref o0), (.int (0 : Int32)), (.long q2)] 4)) t := by
                  intro t k
                  refine pre18 t ?_
                  show Steps p.tables e below (s₁.setTop (mkF m 79 #[.val (.ref o0), .val (.int (0 : Int32)), .val (.long q2), .second] [(.int (((XT.ushrL q2 (16 : Int32)).toInt32).toInt8.toInt32)), (.int w15_b)])) _
                  refine XS.icmpNo X0.here hx rfl (hb hby d9_79) rfl (XT.ii_ne_f c19) ?_
                  show Steps p.tables e below (s₁.setTop (mkF m 82 #[.val (.ref o0), .val (.int (0 : Int32)), .val (.long q2), .second] [])) _
                  refine XS.aloadN X0.here hx rfl (hb hby d9_82) rfl rfl ?_
                  show Steps p.tables e below (s₁.setTop (mkF m 83 #[.val (.ref o0), .val (.int (0 : Int32)), .val (.long q2), .second] [(.ref o0)])) _
                  refine XS.iloadN X0.here hx rfl (hb hby d9_83) rfl ?_
                  show Steps p.tables e below (s₁.setTop (mkF m 84 #[.val (.ref o0), .val (.int (0 : Int32)), .val (.long q2), .second] [(.int (0 : Int32)), (.ref o0)])) _
                  refine XT.bipushV X0.here hx rfl (6 : Int32) (hb hby d9_84) (by decide) ?_
                  show Steps p.tables e below (s₁.setTop (mkF m 86 #[.val (.ref o0), .val (.int (0 : Int32)), .val (.long q2), .second] [(.int (6 : Int32)), (.int (0 : Int32)), (.ref o0)])) _
                  refine XS.iadd X0.here hx rfl (hb hby d9_86) rfl ?_
                  show Steps p.tables e below (s₁.setTop (mkF m 87 #[.val (.ref o0), .val (.int (0 : Int32)), .val (.long q2), .second] [(.int (6 : Int32)), (.ref o0)])) _
                  refine X0.baloadBytes hx (j := (6 : Int32)) (v := (.int w16_b)) (by rw [e0]; exact Ar1.1) (State.isArrayOf_alike hZ.alike Ar1.2.1) Ar1.2.2 hin20 (Has.at Ha1 hin20 rfl) (g := (mkF m 87 #[.val (.ref o0), .val (.int (0 : Int32)), .val (.long q2), .second] [(.int (6 : Int32)), (.ref o0)])) rfl rfl (hb hby d9_87) _ ?_
                  show Steps p.tables e below (s₁.setTop (mkF m 88 #[.val (.ref o0), .val (.int (0 : Int32)), .val (.long q2), .second] [(.int w16_b)])) _
                  refine XT.lloadN X0.here hx rfl (hb hby d9_88) rfl ?_
                  show Steps p.tables e below (s₁.setTop (mkF m 89 #[.val (.ref o0), .val (.int (0 : Int32)), .val (.long q2), .second] [(.long q2), (.int w16_b)])) _
                  refine XT.bipushV X0.here hx rfl (8 : Int32) (hb hby d9_89) (by decide) ?_
                  show Steps p.tables e below (s₁.setTop (mkF m 91 #[.val (.ref o0), .val (.int (0 : Int32)), .val (.long q2), .second] [(.int (8 : Int32)), (.long q2), (.int w16_b)])) _
                  refine XT.lushr X0.here hx rfl (hb hby d9_91) rfl ?_
                  show Steps p.tables e below (s₁.setTop (mkF m 92 #[.val (.ref o0), .val (.int (0 : Int32)), .val (.long q2), .second] [(.long (XT.ushrL q2 (8 : Int32))), (.int w16_b)])) _
                  refine XT.l2i X0.here hx rfl (hb hby d9_92) rfl ?_
                  show Steps p.tables e below (s₁.setTop (mkF m 93 #[.val (.ref o0), .val (.int (0 : Int32)), .val (.long q2), .second] [(.int ((XT.ushrL q2 (8 : Int32)).toInt32)), (.int w16_b)])) _
                  refine XT.i2b X0.here hx rfl (hb hby d9_93) rfl ?_
                  exact k
                clear pre18
                by_cases c22 : w16_b = (vla85_0_7 q2 w10_b w11_b w12_b w13_b w14_b w15_b w16_b w17_b)
                · skip
                  have hin23 : ¬ ((7 : Int32) < 0 ∨ cl1.slots.size ≤ ((7 : Int32)).toNatClampNeg) := inb_of S1 ⟨by decide, by decide⟩
                  have pre24 : ∀ t, Steps p.tables e below (s₁.setTop (mkF m 106 #[.val (.ref o0), .val (.int (0 : Int32)), .val (.long q2), .second] [(.int ((q2.toInt32).toInt8.toInt32)), (.int w17_b)])) t → Steps p.tables e below (s₁.setTop (entryFrame m #[(.ref o0), (.int (0 : Int32)), (.long q2)] 4)) t := by
                    intro t k
                    refine pre21 t ?_
                    show Steps p.tables e below (s₁.setTop (mkF m 94 #[.val (.ref o0), .val (.int (0 : Int32)), .val (.long q2), .second] [(.int (((XT.ushrL q2 (8 : Int32)).toInt32).toInt8.toInt32)), (.int w16_b)])) _
                    refine XS.icmpNo X0.here hx rfl (hb hby d9_94) rfl (XT.ii_ne_f c22) ?_
                    show Steps p.tables e below (s₁.setTop (mkF m 97 #[.val (.ref o0), .val (.int (0 : Int32)), .val (.long q2), .second] [])) _
                    refine XS.aloadN X0.here hx rfl (hb hby d9_97) rfl rfl ?_
                    show Steps p.tables e below (s₁.setTop (mkF m 98 #[.val (.ref o0), .val (.int (0 : Int32)), .val (.long q2), .second] [(.ref o0)])) _
                    refine XS.iloadN X0.here hx rfl (hb hby d9_98) rfl ?_
                    show Steps p.tables e below (s₁.setTop (mkF m 99 #[.val (.ref o0), .val (.int (0 : Int32)), .val (.long q2), .second] [(.int (0 : Int32)), (.ref o0)])) _
                    refine XT.bipushV X0.here hx rfl (7 : Int32) (hb hby d9_99) (by decide) ?_
                    show Steps p.tables e below (s₁.setTop (mkF m 101 #[.val (.ref o0), .val (.int (0 : Int32)), .val (.long q2), .second] [(.int (7 : Int32)), (.int (0 : Int32)), (.ref o0)])) _
                    refine XS.iadd X0.here hx rfl (hb hby d9_101) rfl ?_
                    show Steps p.tables e below (s₁.setTop (mkF m 102 #[.val (.ref o0), .val (.int (0 : Int32)), .val (.long q2), .second] [(.int (7 : Int32)), (.ref o0)])) _
                    refine X0.baloadBytes hx (j := (7 : Int32)) (v := (.int w17_b)) (by rw [e0]; exact Ar1.1) (State.isArrayOf_alike hZ.alike Ar1.2.1) Ar1.2.2 hin23 (Has.at Ha1 hin23 rfl) (g := (mkF m 102 #[.val (.ref o0), .val (.int (0 : Int32)), .val (.long q2), .second] [(.int (7 : Int32)), (.ref o0)])) rfl rfl (hb hby d9_102) _ ?_
                    show Steps p.tables e below (s₁.setTop (mkF m 103 #[.val (.ref o0), .val (.int (0 : Int32)), .val (.long q2), .second] [(.int w17_b)])) _
                    refine XT.lloadN X0.here hx rfl (hb hby d9_103) rfl ?_
                    show Steps p.tables e below (s₁.setTop (mkF m 104 #[.val (.ref o0), .val (.int (0 : Int32)), .val (.long q2), .second] [(.long q2), (.int w17_b)])) _
                    refine XT.l2i X0.here hx rfl (hb hby d9_104) rfl ?_
                    show Steps p.tables e below (s₁.setTop (mkF m 105 #[.val (.ref o0), .val (.int (0 : Int32)), .val (.long q2), .second] [(.int (q2.toInt32)), (.int w17_b)])) _
                    refine XT.i2b X0.here hx rfl (hb hby d9_105) rfl ?_
                    exact k
                  clear pre21
                  by_cases c25 : w17_b = (vla85_0_8 q2 w10_b w11_b w12_b w13_b w14_b w15_b w16_b w17_b)
                  · skip
                    rw [show (vla85_0_9 q2 w10_b w11_b w12_b w13_b w14_b w15_b w16_b w17_b) = (1 : Int32) from ((((((((if_pos c4).trans (if_pos c7)).trans (if_pos c10)).trans (if_pos c13)).trans (if_pos c16)).trans (if_pos c19)).trans (if_pos c22)).trans (if_pos c25))] at k
                    refine pre24 t ?_
                    show Steps p.tables e below (s₁.setTop (mkF m 106 #[.val (.ref o0), .val (.int (0 : Int32)), .val (.long q2), .second] [(.int ((q2.toInt32).toInt8.toInt32)), (.int w17_b)])) _
                    refine XS.icmpNo X0.here hx rfl (hb hby d9_106) rfl (XT.ii_ne_f c25) ?_
                    show Steps p.tables e below (s₁.setTop (mkF m 109 #[.val (.ref o0), .val (.int (0 : Int32)), .val (.long q2), .second] [])) _
                    refine XT.iconstV X0.here hx rfl (1 : Int32) (hb hby d9_109) (by decide) ?_
                    show Steps p.tables e below (s₁.setTop (mkF m 110 #[.val (.ref o0), .val (.int (0 : Int32)), .val (.long q2), .second] [(.int (1 : Int32))])) _
                    refine XS.goto X0.here hx rfl (pc0 := 110) (pc' := 114) rfl (hb hby d9_110) (by decide) (by decide) ?_
                    exact k
                  · skip
                    rw [show (vla85_0_9 q2 w10_b w11_b w12_b w13_b w14_b w15_b w16_b w17_b) = (0 : Int32) from ((((((((if_pos c4).trans (if_pos c7)).trans (if_pos c10)).trans (if_pos c13)).trans (if_pos c16)).trans (if_pos c19)).trans (if_pos c22)).trans (if_neg c25))] at k
                    refine pre24 t ?_
                    show Steps p.tables e below (s₁.setTop (mkF m 106 #[.val (.ref o0), .val (.int (0 : Int32)), .val (.long q2), .second] [(.int ((q2.toInt32).toInt8.toInt32)), (.int w17_b)])) _
                    refine XS.icmpYes X0.here hx rfl (pc0 := 106) (pc' := 113) rfl (hb hby d9_106) rfl (XT.ii_ne_t c25) (by decide) (by decide) ?_
                    show Steps p.tables e below (s₁.setTop (mkF m 113 #[.val (.ref o0), .val (.int (0 : Int32)), .val (.long q2), .second] [])) _
                    refine XT.iconstV X0.here hx rfl (0 : Int32) (hb hby d9_113) (by decide) ?_
                    exact k
                · skip
                  rw [show (vla85_0_9 q2 w10_b w11_b w12_b w13_b w14_b w15_b w16_b w17_b) = (0 : Int32) from (((((((if_pos c4).trans (if_pos c7)).trans (if_pos c10)).trans (if_pos c13)).trans (if_pos c16)).trans (if_pos c19)).trans (if_neg c22))] at k
                  refine pre21 t ?_
                  show Steps p.tables e below (s₁.setTop (mkF m 94 #[.val (.ref o0), .val (.int (0 : Int32)), .val (.long q2), .second] [(.int (((XT.ushrL q2 (8 : Int32)).toInt32).toInt8.toInt32)), (.int w16_b)])) _
                  refine XS.icmpYes X0.here hx rfl (pc0 := 94) (pc' := 113) rfl (hb hby d9_94) rfl (XT.ii_ne_t c22) (by decide) (by decide) ?_
                  show Steps p.tables e below (s₁.setTop (mkF m 113 #[.val (.ref o0), .val (.int (0 : Int32)), .val (.long q2), .second] [])) _
                  refine XT.iconstV X0.here hx rfl (0 : Int32) (hb hby d9_113) (by decide) ?_
                  exact k
              · skip
                rw [show (vla85_0_9 q2 w10_b w11_b w12_b w13_b w14_b w15_b w16_b w17_b) = (0 : Int32) from ((((((if_pos c4).trans (if_pos c7)).trans (if_pos c10)).trans (if_pos c13)).trans (if_pos c16)).trans (if_neg c19))] at k
                refine pre18 t ?_
                show Steps p.tables e below (s₁.setTop (mkF m 79 #[.val (.ref o0), .val (.int (0 : Int32)), .val (.long q2), .second] [(.int (((XT.ushrL q2 (16 : Int32)).toInt32).toInt8.toInt32)), (.int w15_b)])) _
                refine XS.icmpYes X0.here hx rfl (pc0 := 79) (pc' := 113) rfl (hb hby d9_79) rfl (XT.ii_ne_t c19) (by decide) (by decide) ?_
                show Steps p.tables e below (s₁.setTop (mkF m 113 #[.val (.ref o0), .val (.int (0 : Int32)), .val (.long q2), .second] [])) _
                refine XT.iconstV X0.here hx rfl (0 : Int32) (hb hby d9_113) (by decide) ?_
                exact k
            · skip
              rw [show (vla85_0_9 q2 w10_b w11_b w12_b w13_b w14_b w15_b w16_b w17_b) = (0 : Int32) from (((((if_pos c4).trans (if_pos c7)).trans (if_pos c10)).trans (if_pos c13)).trans (if_neg c16))] at k
              refine pre15 t ?_
              show Steps p.tables e below (s₁.setTop (mkF m 65 #[.val (.ref o0), .val (.int (0 : Int32)), .val (.long q2), .second] [(.int (((XT.ushrL q2 (24 : Int32)).toInt32).toInt8.toInt32)), (.int w14_b)])) _
              refine XS.icmpYes X0.here hx rfl (pc0 := 65) (pc' := 113) rfl (hb hby d9_65) rfl (XT.ii_ne_t c16) (by decide) (by decide) ?_
              show Steps p.tables e below (s₁.setTop (mkF m 113 #[.val (.ref o0), .val (.int (0 : Int32)), .val (.long q2), .second] [])) _
              refine XT.iconstV X0.here hx rfl (0 : Int32) (hb hby d9_113) (by decide) ?_
              exact k
          · skip
            rw [show (vla85_0_9 q2 w10_b w11_b w12_b w13_b w14_b w15_b w16_b w17_b) = (0 : Int32) from ((((if_pos c4).trans (if_pos c7)).trans (if_pos c10)).trans (if_neg c13))] at k
            refine pre12 t ?_
            show Steps p.tables e below (s₁.setTop (mkF m 51 #[.val (.ref o0), .val (.int (0 : Int32)), .val (.long q2), .second] [(.int (((XT.ushrL q2 (32 : Int32)).toInt32).toInt8.toInt32)), (.int w13_b)])) _
            refine XS.icmpYes X0.here hx rfl (pc0 := 51) (pc' := 113) rfl (hb hby d9_51) rfl (XT.ii_ne_t c13) (by decide) (by decide) ?_
            show Steps p.tables e below (s₁.setTop (mkF m 113 #[.val (.ref o0), .val (.int (0 : Int32)), .val (.long q2), .second] [])) _
            refine XT.iconstV X0.here hx rfl (0 : Int32) (hb hby d9_113) (by decide) ?_
            exact k
        · skip
          rw [show (vla85_0_9 q2 w10_b w11_b w12_b w13_b w14_b w15_b w16_b w17_b) = (0 : Int32) from (((if_pos c4).trans (if_pos c7)).trans (if_neg c10))] at k
          refine pre9 t ?_
          show Steps p.tables e below (s₁.setTop (mkF m 37 #[.val (.ref o0), .val (.int (0 : Int32)), .val (.long q2), .second] [(.int (((XT.ushrL q2 (40 : Int32)).toInt32).toInt8.toInt32)), (.int w12_b)])) _
          refine XS.icmpYes X0.here hx rfl (pc0 := 37) (pc' := 113) rfl (hb hby d9_37) rfl (XT.ii_ne_t c10) (by decide) (by decide) ?_
          show Steps p.tables e below (s₁.setTop (mkF m 113 #[.val (.ref o0), .val (.int (0 : Int32)), .val (.long q2), .second] [])) _
          refine XT.iconstV X0.here hx rfl (0 : Int32) (hb hby d9_113) (by decide) ?_
          exact k
      · skip
        rw [show (vla85_0_9 q2 w10_b w11_b w12_b w13_b w14_b w15_b w16_b w17_b) = (0 : Int32) from ((if_pos c4).trans (if_neg c7))] at k
        refine pre6 t ?_
        show Steps p.tables e below (s₁.setTop (mkF m 23 #[.val (.ref o0), .val (.int (0 : Int32)), .val (.long q2), .second] [(.int (((XT.ushrL q2 (48 : Int32)).toInt32).toInt8.toInt32)), (.int w11_b)])) _
        refine XS.icmpYes X0.here hx rfl (pc0 := 23) (pc' := 113) rfl (hb hby d9_23) rfl (XT.ii_ne_t c7) (by decide) (by decide) ?_
        show Steps p.tables e below (s₁.setTop (mkF m 113 #[.val (.ref o0), .val (.int (0 : Int32)), .val (.long q2), .second] [])) _
        refine XT.iconstV X0.here hx rfl (0 : Int32) (hb hby d9_113) (by decide) ?_
        exact k
    · skip
      rw [show (vla85_0_9 q2 w10_b w11_b w12_b w13_b w14_b w15_b w16_b w17_b) = (0 : Int32) from (if_neg c4)] at k
      refine pre3 t ?_
      show Steps p.tables e below (s₁.setTop (mkF m 9 #[.val (.ref o0), .val (.int (0 : Int32)), .val (.long q2), .second] [(.int (((XT.ushrL q2 (56 : Int32)).toInt32).toInt8.toInt32)), (.int w10_b)])) _
      refine XS.icmpYes X0.here hx rfl (pc0 := 9) (pc' := 113) rfl (hb hby d9_9) rfl (XT.ii_ne_t c4) (by decide) (by decide) ?_
      show Steps p.tables e below (s₁.setTop (mkF m 113 #[.val (.ref o0), .val (.int (0 : Int32)), .val (.long q2), .second] [])) _
      refine XT.iconstV X0.here hx rfl (0 : Int32) (hb hby d9_113) (by decide) ?_
      exact k
  obtain ⟨fs, hr, hrun, hended, hW, hsame⟩ := X0.leave (v := some (.int (nar .boolean (vla85_0_9 q2 w10_b w11_b w12_b w13_b w14_b w15_b w16_b w17_b)))) (fun h => by rw [Bd.returns] at h; cases h) hlk
  refine ⟨_, _, pre26 _ ?_, hrun, hended, _, _, rfl, ?_, ⟨_, rfl⟩, hW, hsame.mono (by decide) (by decide)⟩
  · skip
    show Steps p.tables e below (s₁.setTop (mkF m 114 #[.val (.ref o0), .val (.int (0 : Int32)), .val (.long q2), .second] [(.int (vla85_0_9 q2 w10_b w11_b w12_b w13_b w14_b w15_b w16_b w17_b))])) _
    exact retN X0 hx (t := .boolean) Bd.returns (by simp) (hb hby d9_114) hr
  · skip
    show Qla85_0 Z o0 q2 w10_b w11_b w12_b w13_b w14_b w15_b w16_b w17_b u8 u9 u10 u11 u12 u13 u14 u15 u16 u17 u18 u19 u20 u21 u22 u23 u24 u25 u26 u27 u28 u29 u30 u31 u32 u33 u34 u35 u36 u37 u38 u39 u40 u41 u42 u43 u44 u45 u46 u47 u48 u49 u50 u51 u52 u53 u54 u55 u56 u57 u58 u59 u60 u61 u62 u63 u64 u65 u66 u67 u68 u69 u70 u71 u72 u73 u74 u75 u76 u77 u78 u79 u80 u81 u82 u83 u84 kA h0 n0 _ s₁.heap _
    rw [e0]
    exact ⟨N0, rfl, rfl⟩
theorem ef_la85_9 (m : MethodId) (o0 : Addr) (q2 : Int64) : entryFrame m #[(.ref o0), (.int (9 : Int32)), (.long q2)] 4 = mkF m 0 #[.val (.ref o0), .val (.int (9 : Int32)), .val (.long q2), .second] [] := by first | (simp [entryFrame, mkF, argsToLocals, Value.category]; done) | rfl
def vla85_9_1 (q2 : Int64) (w10_b : Int32) (w11_b : Int32) (w12_b : Int32) (w13_b : Int32) (w14_b : Int32) (w15_b : Int32) (w16_b : Int32) (w17_b : Int32) : Int32 := (((XT.ushrL q2 (56 : Int32)).toInt32).toInt8.toInt32)
def vla85_9_2 (q2 : Int64) (w10_b : Int32) (w11_b : Int32) (w12_b : Int32) (w13_b : Int32) (w14_b : Int32) (w15_b : Int32) (w16_b : Int32) (w17_b : Int32) : Int32 := (((XT.ushrL q2 (48 : Int32)).toInt32).toInt8.toInt32)
def vla85_9_3 (q2 : Int64) (w10_b : Int32) (w11_b : Int32) (w12_b : Int32) (w13_b : Int32) (w14_b : Int32) (w15_b : Int32) (w16_b : Int32) (w17_b : Int32) : Int32 := (((XT.ushrL q2 (40 : Int32)).toInt32).toInt8.toInt32)
def vla85_9_4 (q2 : Int64) (w10_b : Int32) (w11_b : Int32) (w12_b : Int32) (w13_b : Int32) (w14_b : Int32) (w15_b : Int32) (w16_b : Int32) (w17_b : Int32) : Int32 := (((XT.ushrL q2 (32 : Int32)).toInt32).toInt8.toInt32)
def vla85_9_5 (q2 : Int64) (w10_b : Int32) (w11_b : Int32) (w12_b : Int32) (w13_b : Int32) (w14_b : Int32) (w15_b : Int32) (w16_b : Int32) (w17_b : Int32) : Int32 := (((XT.ushrL q2 (24 : Int32)).toInt32).toInt8.toInt32)
def vla85_9_6 (q2 : Int64) (w10_b : Int32) (w11_b : Int32) (w12_b : Int32) (w13_b : Int32) (w14_b : Int32) (w15_b : Int32) (w16_b : Int32) (w17_b : Int32) : Int32 := (((XT.ushrL q2 (16 : Int32)).toInt32).toInt8.toInt32)
def vla85_9_7 (q2 : Int64) (w10_b : Int32) (w11_b : Int32) (w12_b : Int32) (w13_b : Int32) (w14_b : Int32) (w15_b : Int32) (w16_b : Int32) (w17_b : Int32) : Int32 := (((XT.ushrL q2 (8 : Int32)).toInt32).toInt8.toInt32)
def vla85_9_8 (q2 : Int64) (w10_b : Int32) (w11_b : Int32) (w12_b : Int32) (w13_b : Int32) (w14_b : Int32) (w15_b : Int32) (w16_b : Int32) (w17_b : Int32) : Int32 := ((q2.toInt32).toInt8.toInt32)
def vla85_9_9 (q2 : Int64) (w10_b : Int32) (w11_b : Int32) (w12_b : Int32) (w13_b : Int32) (w14_b : Int32) (w15_b : Int32) (w16_b : Int32) (w17_b : Int32) : Int32 := (if w10_b = (vla85_9_1 q2 w10_b w11_b w12_b w13_b w14_b w15_b w16_b w17_b) then (if w11_b = (vla85_9_2 q2 w10_b w11_b w12_b w13_b w14_b w15_b w16_b w17_b) then (if w12_b = (vla85_9_3 q2 w10_b w11_b w12_b w13_b w14_b w15_b w16_b w17_b) then (if w13_b = (vla85_9_4 q2 w10_b w11_b w12_b w13_b w14_b w15_b w16_b w17_b) then (if w14_b = (vla85_9_5 q2 w10_b w11_b w12_b w13_b w14_b w15_b w16_b w17_b) then (if w15_b = (vla85_9_6 q2 w10_b w11_b w12_b w13_b w14_b w15_b w16_b w17_b) then (if w16_b = (vla85_9_7 q2 w10_b w11_b w12_b w13_b w14_b w15_b w16_b w17_b) then (if w17_b = (vla85_9_8 q2 w10_b w11_b w12_b w13_b w14_b w15_b w16_b w17_b) then (1 : Int32) else (0 : Int32)) else (0 : Int32)) else (0 : Int32)) else (0 : Int32)) else (0 : Int32)) else (0 : Int32)) else (0 : Int32)) else (0 : Int32))
def fla85_9 (q2 : Int64) (w10_b : Int32) (w11_b : Int32) (w12_b : Int32) (w13_b : Int32) (w14_b : Int32) (w15_b : Int32) (w16_b : Int32) (w17_b : Int32) : Int32 := (nar .boolean (vla85_9_9 q2 w10_b w11_b w12_b w13_b w14_b w15_b w16_b w17_b))
def Qla85_9 (Z : State) (o0 : Addr) (q2 : Int64) (u0 : Value) (u1 : Value) (u2 : Value) (u3 : Value) (u4 : Value) (u5 : Value) (u6 : Value) (u7 : Value) (u8 : Value) (w10_b : Int32) (w11_b : Int32) (w12_b : Int32) (w13_b : Int32) (w14_b : Int32) (w15_b : Int32) (w16_b : Int32) (w17_b : Int32) (u17 : Value) (u18 : Value) (u19 : Value) (u20 : Value) (u21 : Value) (u22 : Value) (u23 : Value) (u24 : Value) (u25 : Value) (u26 : Value) (u27 : Value) (u28 : Value) (u29 : Value) (u30 : Value) (u31 : Value) (u32 : Value) (u33 : Value) (u34 : Value) (u35 : Value) (u36 : Value) (u37 : Value) (u38 : Value) (u39 : Value) (u40 : Value) (u41 : Value) (u42 : Value) (u43 : Value) (u44 : Value) (u45 : Value) (u46 : Value) (u47 : Value) (u48 : Value) (u49 : Value) (u50 : Value) (u51 : Value) (u52 : Value) (u53 : Value) (u54 : Value) (u55 : Value) (u56 : Value) (u57 : Value) (u58 : Value) (u59 : Value) (u60 : Value) (u61 : Value) (u62 : Value) (u63 : Value) (u64 : Value) (u65 : Value) (u66 : Value) (u67 : Value) (u68 : Value) (u69 : Value) (u70 : Value) (u71 : Value) (u72 : Value) (u73 : Value) (u74 : Value) (u75 : Value) (u76 : Value) (u77 : Value) (u78 : Value) (u79 : Value) (u80 : Value) (u81 : Value) (u82 : Value) (u83 : Value) (u84 : Value) (kA : ClassId) (h0 : Heap) (n0 : Nat) (v : Option Value) (h : Heap) (L : List Loc) : Prop := Fr n0 L ∧ v = some (.int (fla85_9 q2 w10_b w11_b w12_b w13_b w14_b w15_b w16_b w17_b)) ∧ h = h0
set_option maxRecDepth 65536 in
set_option maxHeartbeats 40000000 in
theorem rmla85_9 (l : Launch) (Z : State) (a0 : Array Value) (hw : ∀ d ∈ tables_1, d.before a0 Z = true) (ws : List Jvm.Cond) (o0 : Addr) (q2 : Int64) (u0 : Value) (u1 : Value) (u2 : Value) (u3 : Value) (u4 : Value) (u5 : Value) (u6 : Value) (u7 : Value) (u8 : Value) (w10_b : Int32) (w11_b : Int32) (w12_b : Int32) (w13_b : Int32) (w14_b : Int32) (w15_b : Int32) (w16_b : Int32) (w17_b : Int32) (u17 : Value) (u18 : Value) (u19 : Value) (u20 : Value) (u21 : Value) (u22 : Value) (u23 : Value) (u24 : Value) (u25 : Value) (u26 : Value) (u27 : Value) (u28 : Value) (u29 : Value) (u30 : Value) (u31 : Value) (u32 : Value) (u33 : Value) (u34 : Value) (u35 : Value) (u36 : Value) (u37 : Value) (u38 : Value) (u39 : Value) (u40 : Value) (u41 : Value) (u42 : Value) (u43 : Value) (u44 : Value) (u45 : Value) (u46 : Value) (u47 : Value) (u48 : Value) (u49 : Value) (u50 : Value) (u51 : Value) (u52 : Value) (u53 : Value) (u54 : Value) (u55 : Value) (u56 : Value) (u57 : Value) (u58 : Value) (u59 : Value) (u60 : Value) (u61 : Value) (u62 : Value) (u63 : Value) (u64 : Value) (u65 : Value) (u66 : Value) (u67 : Value) (u68 : Value) (u69 : Value) (u70 : Value) (u71 : Value) (u72 : Value) (u73 : Value) (u74 : Value) (u75 : Value) (u76 : Value) (u77 : Value) (u78 : Value) (u79 : Value) (u80 : Value) (u81 : Value) (u82 : Value) (u83 : Value) (u84 : Value) (kA : ClassId) (h0 : Heap) (n0 : Nat) (Z0 : n0 ≤ h0.size) (V_o0 : Arv Z h0 o0 kA .byte (85 : Int32) [u0, u1, u2, u3, u4, u5, u6, u7, u8, (.int w10_b), (.int w11_b), (.int w12_b), (.int w13_b), (.int w14_b), (.int w15_b), (.int w16_b), (.int w17_b), u17, u18, u19, u20, u21, u22, u23, u24, u25, u26, u27, u28, u29, u30, u31, u32, u33, u34, u35, u36, u37, u38, u39, u40, u41, u42, u43, u44, u45, u46, u47, u48, u49, u50, u51, u52, u53, u54, u55, u56, u57, u58, u59, u60, u61, u62, u63, u64, u65, u66, u67, u68, u69, u70, u71, u72, u73, u74, u75, u76, u77, u78, u79, u80, u81, u82, u83, u84] (.int (0 : Int32))) :
    MetFree l (⟨"com/example/dispatch_by_catalog/dispatchbycatalog/store/RecordWriterToBytesPinLaw", "longAt", "([BIJ)Z"⟩ : MethodName) (head1 (Jvm.Cond.code (⟨"com/example/dispatch_by_catalog/dispatchbycatalog/store/RecordWriterToBytesPinLaw", "longAt", "([BIJ)Z"⟩ : MethodName) method_3_code 4 (some .boolean) :: ws) ({ frames := 0, cells := 0, slots := 0, locals := 0 } : Room)) (fun a U => a = #[(.ref o0), (.int (9 : Int32)), (.long q2)] ∧ Z.Warmed39 U.vm ∧ U.heap = h0) (fun _ _ _ _ _ => True) (fun _ U o U' => ∃ v L, o = .returned v ∧ Qla85_9 Z o0 q2 u0 u1 u2 u3 u4 u5 u6 u7 u8 w10_b w11_b w12_b w13_b w14_b w15_b w16_b w17_b u17 u18 u19 u20 u21 u22 u23 u24 u25 u26 u27 u28 u29 u30 u31 u32 u33 u34 u35 u36 u37 u38 u39 u40 u41 u42 u43 u44 u45 u46 u47 u48 u49 u50 u51 u52 u53 u54 u55 u56 u57 u58 u59 u60 u61 u62 u63 u64 u65 u66 u67 u68 u69 u70 u71 u72 u73 u74 u75 u76 u77 u78 u79 u80 u81 u82 u83 u84 kA h0 n0 v U'.heap L ∧ FrameEnd U o U' L ({ frames := 0, cells := 0, slots := 0, locals := 0 } : Room).cells ({ frames := 0, cells := 0, slots := 0, locals := 0 } : Room).slots) := by
  refine MetFree.of_bodySF (plainFor_of_name pn_com_example_dispatch_by_catalog_dispatchbycatalog_store_RecordWriterToBytesPinLaw) hisR ?_
  intro p e s m args below meth c s₁ Bd hml0 hP hK
  obtain ⟨rfl, hZ, hh⟩ := hP
  have hx := Bd.exec
  have hby := Bd.bytes
  have hml : c.maxLocals = 4 := hml0
  have hown : s.vm.findClass "com/example/dispatch_by_catalog/dispatchbycatalog/store/RecordWriterToBytesPinLaw" = some m.cls := findClass_of_methodNamed Bd.named
  have hnm := (name_of_methodNamed Bd.named Bd.method).1
  have hlk := BodyLoose.notSynchronized Bd
  have X0 : Stand p l e ({ frames := 0, cells := 0, slots := 0, locals := 0 } : Room) s m #[(.ref o0), (.int (9 : Int32)), (.long q2)] below meth c s₁ [] 0 0 := Stand.of_body Bd
  have e0 : s₁.heap = h0 := by rw [← hh, Bd.state]; rfl
  have N0 := Fr.nil n0
  have pre0 : ∀ t, Steps p.tables e below (s₁.setTop (mkF m 0 #[.val (.ref o0), .val (.int (9 : Int32)), .val (.long q2), .second] [])) t → Steps p.tables e below (s₁.setTop (entryFrame m #[(.ref o0), (.int (9 : Int32)), (.long q2)] 4)) t := fun t k => castTop (ef_la85_9 m o0 q2) k
  obtain ⟨cl1, Ar1, qc1, S1, M1, Ha1, G1⟩ := id V_o0
  have hin2 : ¬ ((9 : Int32) < 0 ∨ cl1.slots.size ≤ ((9 : Int32)).toNatClampNeg) := inb_of S1 ⟨by decide, by decide⟩
  have pre3 : ∀ t, Steps p.tables e below (s₁.setTop (mkF m 9 #[.val (.ref o0), .val (.int (9 : Int32)), .val (.long q2), .second] [(.int (((XT.ushrL q2 (56 : Int32)).toInt32).toInt8.toInt32)), (.int w10_b)])) t → Steps p.tables e below (s₁.setTop (entryFrame m #[(.ref o0), (.int (9 : Int32)), (.long q2)] 4)) t := by
    intro t k
    refine pre0 t ?_
    show Steps p.tables e below (s₁.setTop (mkF m 0 #[.val (.ref o0), .val (.int (9 : Int32)), .val (.long q2), .second] [])) _
    refine XS.aloadN X0.here hx rfl (hb hby d9_0) rfl rfl ?_
    show Steps p.tables e below (s₁.setTop (mkF m 1 #[.val (.ref o0), .val (.int (9 : Int32)), .val (.long q2), .second] [(.ref o0)])) _
    refine XS.iloadN X0.here hx rfl (hb hby d9_1) rfl ?_
    show Steps p.tables e below (s₁.setTop (mkF m 2 #[.val (.ref o0), .val (.int (9 : Int32)), .val (.long q2), .second] [(.int (9 : Int32)), (.ref o0)])) _
    refine X0.baloadBytes hx (j := (9 : Int32)) (v := (.int w10_b)) (by rw [e0]; exact Ar1.1) (State.isArrayOf_alike hZ.alike Ar1.2.1) Ar1.2.2 hin2 (Has.at Ha1 hin2 rfl) (g := (mkF m 2 #[.val (.ref o0), .val (.int (9 : Int32)), .val (.long q2), .second] [(.int (9 : Int32)), (.ref o0)])) rfl rfl (hb hby d9_2) _ ?_
    show Steps p.tables e below (s₁.setTop (mkF m 3 #[.val (.ref o0), .val (.int (9 : Int32)), .val (.long q2), .second] [(.int w10_b)])) _
    refine XT.lloadN X0.here hx rfl (hb hby d9_3) rfl ?_
    show Steps p.tables e below (s₁.setTop (mkF m 4 #[.val (.ref o0), .val (.int (9 : Int32)), .val (.long q2), .second] [(.long q2), (.int w10_b)])) _
    refine XT.bipushV X0.here hx rfl (56 : Int32) (hb hby d9_4) (by decide) ?_
    show Steps p.tables e below (s₁.setTop (mkF m 6 #[.val (.ref o0), .val (.int (9 : Int32)), .val (.long q2), .second] [(.int (56 : Int32)), (.long q2), (.int w10_b)])) _
    refine XT.lushr X0.here hx rfl (hb hby d9_6) rfl ?_
    show Steps p.tables e below (s₁.setTop (mkF m 7 #[.val (.ref o0), .val (.int (9 : Int32)), .val (.long q2), .second] [(.long (XT.ushrL q2 (56 : Int32))), (.int w10_b)])) _
    refine XT.l2i X0.here hx rfl (hb hby d9_7) rfl ?_
    show Steps p.tables e below (s₁.setTop (mkF m 8 #[.val (.ref o0), .val (.int (9 : Int32)), .val (.long q2), .second] [(.int ((XT.ushrL q2 (56 : Int32)).toInt32)), (.int w10_b)])) _
    refine XT.i2b X0.here hx rfl (hb hby d9_8) rfl ?_
    exact k
  clear pre0
  have pre26 : ∀ t, Steps p.tables e below (s₁.setTop (mkF m 114 #[.val (.ref o0), .val (.int (9 : Int32)), .val (.long q2), .second] [(.int (vla85_9_9 q2 w10_b w11_b w12_b w13_b w14_b w15_b w16_b w17_b))])) t → Steps p.tables e below (s₁.setTop (entryFrame m #[(.ref o0), (.int (9 : Int32)), (.long q2)] 4)) t := by
    intro t k
    by_cases c4 : w10_b = (vla85_9_1 q2 w10_b w11_b w12_b w13_b w14_b w15_b w16_b w17_b)
    · skip
      have hin5 : ¬ ((10 : Int32) < 0 ∨ cl1.slots.size ≤ ((10 : Int32)).toNatClampNeg) := inb_of S1 ⟨by decide, by decide⟩
      have pre6 : ∀ t, Steps p.tables e below (s₁.setTop (mkF m 23 #[.val (.ref o0), .val (.int (9 : Int32)), .val (.long q2), .second] [(.int (((XT.ushrL q2 (48 : Int32)).toInt32).toInt8.toInt32)), (.int w11_b)])) t → Steps p.tables e below (s₁.setTop (entryFrame m #[(.ref o0), (.int (9 : Int32)), (.long q2)] 4)) t := by
        intro t k
        refine pre3 t ?_
        show Steps p.tables e below (s₁.setTop (mkF m 9 #[.val (.ref o0), .val (.int (9 : Int32)), .val (.long q2), .second] [(.int (((XT.ushrL q2 (56 : Int32)).toInt32).toInt8.toInt32)), (.int w10_b)])) _
        refine XS.icmpNo X0.here hx rfl (hb hby d9_9) rfl (XT.ii_ne_f c4) ?_
        show Steps p.tables e below (s₁.setTop (mkF m 12 #[.val (.ref o0), .val (.int (9 : Int32)), .val (.long q2), .second] [])) _
        refine XS.aloadN X0.here hx rfl (hb hby d9_12) rfl rfl ?_
        show Steps p.tables e below (s₁.setTop (mkF m 13 #[.val (.ref o0), .val (.int (9 : Int32)), .val (.long q2), .second] [(.ref o0)])) _
        refine XS.iloadN X0.here hx rfl (hb hby d9_13) rfl ?_
        show Steps p.tables e below (s₁.setTop (mkF m 14 #[.val (.ref o0), .val (.int (9 : Int32)), .val (.long q2), .second] [(.int (9 : Int32)), (.ref o0)])) _
        refine XT.iconstV X0.here hx rfl (1 : Int32) (hb hby d9_14) (by decide) ?_
        show Steps p.tables e below (s₁.setTop (mkF m 15 #[.val (.ref o0), .val (.int (9 : Int32)), .val (.long q2), .second] [(.int (1 : Int32)), (.int (9 : Int32)), (.ref o0)])) _
        refine XS.iadd X0.here hx rfl (hb hby d9_15) rfl ?_
        show Steps p.tables e below (s₁.setTop (mkF m 16 #[.val (.ref o0), .val (.int (9 : Int32)), .val (.long q2), .second] [(.int (10 : Int32)), (.ref o0)])) _
        refine X0.baloadBytes hx (j := (10 : Int32)) (v := (.int w11_b)) (by rw [e0]; exact Ar1.1) (State.isArrayOf_alike hZ.alike Ar1.2.1) Ar1.2.2 hin5 (Has.at Ha1 hin5 rfl) (g := (mkF m 16 #[.val (.ref o0), .val (.int (9 : Int32)), .val (.long q2), .second] [(.int (10 : Int32)), (.ref o0)])) rfl rfl (hb hby d9_16) _ ?_
        show Steps p.tables e below (s₁.setTop (mkF m 17 #[.val (.ref o0), .val (.int (9 : Int32)), .val (.long q2), .second] [(.int w11_b)])) _
        refine XT.lloadN X0.here hx rfl (hb hby d9_17) rfl ?_
        show Steps p.tables e below (s₁.setTop (mkF m 18 #[.val (.ref o0), .val (.int (9 : Int32)), .val (.long q2), .second] [(.long q2), (.int w11_b)])) _
        refine XT.bipushV X0.here hx rfl (48 : Int32) (hb hby d9_18) (by decide) ?_
        show Steps p.tables e below (s₁.setTop (mkF m 20 #[.val (.ref o0), .val (.int (9 : Int32)), .val (.long q2), .second] [(.int (48 : Int32)), (.long q2), (.int w11_b)])) _
        refine XT.lushr X0.here hx rfl (hb hby d9_20) rfl ?_
        show Steps p.tables e below (s₁.setTop (mkF m 21 #[.val (.ref o0), .val (.int (9 : Int32)), .val (.long q2), .second] [(.long (XT.ushrL q2 (48 : Int32))), (.int w11_b)])) _
        refine XT.l2i X0.here hx rfl (hb hby d9_21) rfl ?_
        show Steps p.tables e below (s₁.setTop (mkF m 22 #[.val (.ref o0), .val (.int (9 : Int32)), .val (.long q2), .second] [(.int ((XT.ushrL q2 (48 : Int32)).toInt32)), (.int w11_b)])) _
        refine XT.i2b X0.here hx rfl (hb hby d9_22) rfl ?_
        exact k
      clear pre3
      by_cases c7 : w11_b = (vla85_9_2 q2 w10_b w11_b w12_b w13_b w14_b w15_b w16_b w17_b)
      · skip
        have hin8 : ¬ ((11 : Int32) < 0 ∨ cl1.slots.size ≤ ((11 : Int32)).toNatClampNeg) := inb_of S1 ⟨by decide, by decide⟩
        have pre9 : ∀ t, Steps p.tables e below (s₁.setTop (mkF m 37 #[.val (.ref o0), .val (.int (9 : Int32)), .val (.long q2), .second] [(.int (((XT.ushrL q2 (40 : Int32)).toInt32).toInt8.toInt32)), (.int w12_b)])) t → Steps p.tables e below (s₁.setTop (entryFrame m #[(.ref o0), (.int (9 : Int32)), (.long q2)] 4)) t := by
          intro t k
          refine pre6 t ?_
          show Steps p.tables e below (s₁.setTop (mkF m 23 #[.val (.ref o0), .val (.int (9 : Int32)), .val (.long q2), .second] [(.int (((XT.ushrL q2 (48 : Int32)).toInt32).toInt8.toInt32)), (.int w11_b)])) _
          refine XS.icmpNo X0.here hx rfl (hb hby d9_23) rfl (XT.ii_ne_f c7) ?_
          show Steps p.tables e below (s₁.setTop (mkF m 26 #[.val (.ref o0), .val (.int (9 : Int32)), .val (.long q2), .second] [])) _
          refine XS.aloadN X0.here hx rfl (hb hby d9_26) rfl rfl ?_
          show Steps p.tables e below (s₁.setTop (mkF m 27 #[.val (.ref o0), .val (.int (9 : Int32)), .val (.long q2), .second] [(.ref o0)])) _
          refine XS.iloadN X0.here hx rfl (hb hby d9_27) rfl ?_
          show Steps p.tables e below (s₁.setTop (mkF m 28 #[.val (.ref o0), .val (.int (9 : Int32)), .val (.long q2), .second] [(.int (9 : Int32)), (.ref o0)])) _
          refine XT.iconstV X0.here hx rfl (2 : Int32) (hb hby d9_28) (by decide) ?_
          show Steps p.tables e below (s₁.setTop (mkF m 29 #[.val (.ref o0), .val (.int (9 : Int32)), .val (.long q2), .second] [(.int (2 : Int32)), (.int (9 : Int32)), (.ref o0)])) _
          refine XS.iadd X0.here hx rfl (hb hby d9_29) rfl ?_
          show Steps p.tables e below (s₁.setTop (mkF m 30 #[.val (.ref o0), .val (.int (9 : Int32)), .val (.long q2), .second] [(.int (11 : Int32)), (.ref o0)])) _
          refine X0.baloadBytes hx (j := (11 : Int32)) (v := (.int w12_b)) (by rw [e0]; exact Ar1.1) (State.isArrayOf_alike hZ.alike Ar1.2.1) Ar1.2.2 hin8 (Has.at Ha1 hin8 rfl) (g := (mkF m 30 #[.val (.ref o0), .val (.int (9 : Int32)), .val (.long q2), .second] [(.int (11 : Int32)), (.ref o0)])) rfl rfl (hb hby d9_30) _ ?_
          show Steps p.tables e below (s₁.setTop (mkF m 31 #[.val (.ref o0), .val (.int (9 : Int32)), .val (.long q2), .second] [(.int w12_b)])) _
          refine XT.lloadN X0.here hx rfl (hb hby d9_31) rfl ?_
          show Steps p.tables e below (s₁.setTop (mkF m 32 #[.val (.ref o0), .val (.int (9 : Int32)), .val (.long q2), .second] [(.long q2), (.int w12_b)])) _
          refine XT.bipushV X0.here hx rfl (40 : Int32) (hb hby d9_32) (by decide) ?_
          show Steps p.tables e below (s₁.setTop (mkF m 34 #[.val (.ref o0), .val (.int (9 : Int32)), .val (.long q2), .second] [(.int (40 : Int32)), (.long q2), (.int w12_b)])) _
          refine XT.lushr X0.here hx rfl (hb hby d9_34) rfl ?_
          show Steps p.tables e below (s₁.setTop (mkF m 35 #[.val (.ref o0), .val (.int (9 : Int32)), .val (.long q2), .second] [(.long (XT.ushrL q2 (40 : Int32))), (.int w12_b)])) _
          refine XT.l2i X0.here hx rfl (hb hby d9_35) rfl ?_
          show Steps p.tables e below (s₁.setTop (mkF m 36 #[.val (.ref o0), .val (.int (9 : Int32)), .val (.long q2), .second] [(.int ((XT.ushrL q2 (40 : Int32)).toInt32)), (.int w12_b)])) _
          refine XT.i2b X0.here hx rfl (hb hby d9_36) rfl ?_
          exact k
        clear pre6
        by_cases c10 : w12_b = (vla85_9_3 q2 w10_b w11_b w12_b w13_b w14_b w15_b w16_b w17_b)
        · skip
          have hin11 : ¬ ((12 : Int32) < 0 ∨ cl1.slots.size ≤ ((12 : Int32)).toNatClampNeg) := inb_of S1 ⟨by decide, by decide⟩
          have pre12 : ∀ t, Steps p.tables e below (s₁.setTop (mkF m 51 #[.val (.ref o0), .val (.int (9 : Int32)), .val (.long q2), .second] [(.int (((XT.ushrL q2 (32 : Int32)).toInt32).toInt8.toInt32)), (.int w13_b)])) t → Steps p.tables e below (s₁.setTop (entryFrame m #[(.ref o0), (.int (9 : Int32)), (.long q2)] 4)) t := by
            intro t k
            refine pre9 t ?_
            show Steps p.tables e below (s₁.setTop (mkF m 37 #[.val (.ref o0), .val (.int (9 : Int32)), .val (.long q2), .second] [(.int (((XT.ushrL q2 (40 : Int32)).toInt32).toInt8.toInt32)), (.int w12_b)])) _
            refine XS.icmpNo X0.here hx rfl (hb hby d9_37) rfl (XT.ii_ne_f c10) ?_
            show Steps p.tables e below (s₁.setTop (mkF m 40 #[.val (.ref o0), .val (.int (9 : Int32)), .val (.long q2), .second] [])) _
            refine XS.aloadN X0.here hx rfl (hb hby d9_40) rfl rfl ?_
            show Steps p.tables e below (s₁.setTop (mkF m 41 #[.val (.ref o0), .val (.int (9 : Int32)), .val (.long q2), .second] [(.ref o0)])) _
            refine XS.iloadN X0.here hx rfl (hb hby d9_41) rfl ?_
            show Steps p.tables e below (s₁.setTop (mkF m 42 #[.val (.ref o0), .val (.int (9 : Int32)), .val (.long q2), .second] [(.int (9 : Int32)), (.ref o0)])) _
            refine XT.iconstV X0.here hx rfl (3 : Int32) (hb hby d9_42) (by decide) ?_
            show Steps p.tables e below (s₁.setTop (mkF m 43 #[.val (.ref o0), .val (.int (9 : Int32)), .val (.long q2), .second] [(.int (3 : Int32)), (.int (9 : Int32)), (.ref o0)])) _
            refine XS.iadd X0.here hx rfl (hb hby d9_43) rfl ?_
            show Steps p.tables e below (s₁.setTop (mkF m 44 #[.val (.ref o0), .val (.int (9 : Int32)), .val (.long q2), .second] [(.int (12 : Int32)), (.ref o0)])) _
            refine X0.baloadBytes hx (j := (12 : Int32)) (v := (.int w13_b)) (by rw [e0]; exact Ar1.1) (State.isArrayOf_alike hZ.alike Ar1.2.1) Ar1.2.2 hin11 (Has.at Ha1 hin11 rfl) (g := (mkF m 44 #[.val (.ref o0), .val (.int (9 : Int32)), .val (.long q2), .second] [(.int (12 : Int32)), (.ref o0)])) rfl rfl (hb hby d9_44) _ ?_
            show Steps p.tables e below (s₁.setTop (mkF m 45 #[.val (.ref o0), .val (.int (9 : Int32)), .val (.long q2), .second] [(.int w13_b)])) _
            refine XT.lloadN X0.here hx rfl (hb hby d9_45) rfl ?_
            show Steps p.tables e below (s₁.setTop (mkF m 46 #[.val (.ref o0), .val (.int (9 : Int32)), .val (.long q2), .second] [(.long q2), (.int w13_b)])) _
            refine XT.bipushV X0.here hx rfl (32 : Int32) (hb hby d9_46) (by decide) ?_
            show Steps p.tables e below (s₁.setTop (mkF m 48 #[.val (.ref o0), .val (.int (9 : Int32)), .val (.long q2), .second] [(.int (32 : Int32)), (.long q2), (.int w13_b)])) _
            refine XT.lushr X0.here hx rfl (hb hby d9_48) rfl ?_
            show Steps p.tables e below (s₁.setTop (mkF m 49 #[.val (.ref o0), .val (.int (9 : Int32)), .val (.long q2), .second] [(.long (XT.ushrL q2 (32 : Int32))), (.int w13_b)])) _
            refine XT.l2i X0.here hx rfl (hb hby d9_49) rfl ?_
            show Steps p.tables e below (s₁.setTop (mkF m 50 #[.val (.ref o0), .val (.int (9 : Int32)), .val (.long q2), .second] [(.int ((XT.ushrL q2 (32 : Int32)).toInt32)), (.int w13_b)])) _
            refine XT.i2b X0.here hx rfl (hb hby d9_50) rfl ?_
            exact k
          clear pre9
          by_cases c13 : w13_b = (vla85_9_4 q2 w10_b w11_b w12_b w13_b w14_b w15_b w16_b w17_b)
          · skip
            have hin14 : ¬ ((13 : Int32) < 0 ∨ cl1.slots.size ≤ ((13 : Int32)).toNatClampNeg) := inb_of S1 ⟨by decide, by decide⟩
            have pre15 : ∀ t, Steps p.tables e below (s₁.setTop (mkF m 65 #[.val (.ref o0), .val (.int (9 : Int32)), .val (.long q2), .second] [(.int (((XT.ushrL q2 (24 : Int32)).toInt32).toInt8.toInt32)), (.int w14_b)])) t → Steps p.tables e below (s₁.setTop (entryFrame m #[(.ref o0), (.int (9 : Int32)), (.long q2)] 4)) t := by
              intro t k
              refine pre12 t ?_
              show Steps p.tables e below (s₁.setTop (mkF m 51 #[.val (.ref o0), .val (.int (9 : Int32)), .val (.long q2), .second] [(.int (((XT.ushrL q2 (32 : Int32)).toInt32).toInt8.toInt32)), (.int w13_b)])) _
              refine XS.icmpNo X0.here hx rfl (hb hby d9_51) rfl (XT.ii_ne_f c13) ?_
              show Steps p.tables e below (s₁.setTop (mkF m 54 #[.val (.ref o0), .val (.int (9 : Int32)), .val (.long q2), .second] [])) _
              refine XS.aloadN X0.here hx rfl (hb hby d9_54) rfl rfl ?_
              show Steps p.tables e below (s₁.setTop (mkF m 55 #[.val (.ref o0), .val (.int (9 : Int32)), .val (.long q2), .second] [(.ref o0)])) _
              refine XS.iloadN X0.here hx rfl (hb hby d9_55) rfl ?_
              show Steps p.tables e below (s₁.setTop (mkF m 56 #[.val (.ref o0), .val (.int (9 : Int32)), .val (.long q2), .second] [(.int (9 : Int32)), (.ref o0)])) _
              refine XT.iconstV X0.here hx rfl (4 : Int32) (hb hby d9_56) (by decide) ?_
              show Steps p.tables e below (s₁.setTop (mkF m 57 #[.val (.ref o0), .val (.int (9 : Int32)), .val (.long q2), .second] [(.int (4 : Int32)), (.int (9 : Int32)), (.ref o0)])) _
              refine XS.iadd X0.here hx rfl (hb hby d9_57) rfl ?_
              show Steps p.tables e below (s₁.setTop (mkF m 58 #[.val (.ref o0), .val (.int (9 : Int32)), .val (.long q2), .second] [(.int (13 : Int32)), (.ref o0)])) _
              refine X0.baloadBytes hx (j := (13 : Int32)) (v := (.int w14_b)) (by rw [e0]; exact Ar1.1) (State.isArrayOf_alike hZ.alike Ar1.2.1) Ar1.2.2 hin14 (Has.at Ha1 hin14 rfl) (g := (mkF m 58 #[.val (.ref o0), .val (.int (9 : Int32)), .val (.long q2), .second] [(.int (13 : Int32)), (.ref o0)])) rfl rfl (hb hby d9_58) _ ?_
              show Steps p.tables e below (s₁.setTop (mkF m 59 #[.val (.ref o0), .val (.int (9 : Int32)), .val (.long q2), .second] [(.int w14_b)])) _
              refine XT.lloadN X0.here hx rfl (hb hby d9_59) rfl ?_
              show Steps p.tables e below (s₁.setTop (mkF m 60 #[.val (.ref o0), .val (.int (9 : Int32)), .val (.long q2), .second] [(.long q2), (.int w14_b)])) _
              refine XT.bipushV X0.here hx rfl (24 : Int32) (hb hby d9_60) (by decide) ?_
              show Steps p.tables e below (s₁.setTop (mkF m 62 #[.val (.ref o0), .val (.int (9 : Int32)), .val (.long q2), .second] [(.int (24 : Int32)), (.long q2), (.int w14_b)])) _
              refine XT.lushr X0.here hx rfl (hb hby d9_62) rfl ?_
              show Steps p.tables e below (s₁.setTop (mkF m 63 #[.val (.ref o0), .val (.int (9 : Int32)), .val (.long q2), .second] [(.long (XT.ushrL q2 (24 : Int32))), (.int w14_b)])) _
              refine XT.l2i X0.here hx rfl (hb hby d9_63) rfl ?_
              show Steps p.tables e below (s₁.setTop (mkF m 64 #[.val (.ref o0), .val (.int (9 : Int32)), .val (.long q2), .second] [(.int ((XT.ushrL q2 (24 : Int32)).toInt32)), (.int w14_b)])) _
              refine XT.i2b X0.here hx rfl (hb hby d9_64) rfl ?_
              exact k
            clear pre12
            by_cases c16 : w14_b = (vla85_9_5 q2 w10_b w11_b w12_b w13_b w14_b w15_b w16_b w17_b)
            · skip
              have hin17 : ¬ ((14 : Int32) < 0 ∨ cl1.slots.size ≤ ((14 : Int32)).toNatClampNeg) := inb_of S1 ⟨by decide, by decide⟩
              have pre18 : ∀ t, Steps p.tables e below (s₁.setTop (mkF m 79 #[.val (.ref o0), .val (.int (9 : Int32)), .val (.long q2), .second] [(.int (((XT.ushrL q2 (16 : Int32)).toInt32).toInt8.toInt32)), (.int w15_b)])) t → Steps p.tables e below (s₁.setTop (entryFrame m #[(.ref o0), (.int (9 : Int32)), (.long q2)] 4)) t := by
                intro t k
                refine pre15 t ?_
                show Steps p.tables e below (s₁.setTop (mkF m 65 #[.val (.ref o0), .val (.int (9 : Int32)), .val (.long q2), .second] [(.int (((XT.ushrL q2 (24 : Int32)).toInt32).toInt8.toInt32)), (.int w14_b)])) _
                refine XS.icmpNo X0.here hx rfl (hb hby d9_65) rfl (XT.ii_ne_f c16) ?_
                show Steps p.tables e below (s₁.setTop (mkF m 68 #[.val (.ref o0), .val (.int (9 : Int32)), .val (.long q2), .second] [])) _
                refine XS.aloadN X0.here hx rfl (hb hby d9_68) rfl rfl ?_
                show Steps p.tables e below (s₁.setTop (mkF m 69 #[.val (.ref o0), .val (.int (9 : Int32)), .val (.long q2), .second] [(.ref o0)])) _
                refine XS.iloadN X0.here hx rfl (hb hby d9_69) rfl ?_
                show Steps p.tables e below (s₁.setTop (mkF m 70 #[.val (.ref o0), .val (.int (9 : Int32)), .val (.long q2), .second] [(.int (9 : Int32)), (.ref o0)])) _
                refine XT.iconstV X0.here hx rfl (5 : Int32) (hb hby d9_70) (by decide) ?_
                show Steps p.tables e below (s₁.setTop (mkF m 71 #[.val (.ref o0), .val (.int (9 : Int32)), .val (.long q2), .second] [(.int (5 : Int32)), (.int (9 : Int32)), (.ref o0)])) _
                refine XS.iadd X0.here hx rfl (hb hby d9_71) rfl ?_
                show Steps p.tables e below (s₁.setTop (mkF m 72 #[.val (.ref o0), .val (.int (9 : Int32)), .val (.long q2), .second] [(.int (14 : Int32)), (.ref o0)])) _
                refine X0.baloadBytes hx (j := (14 : Int32)) (v := (.int w15_b)) (by rw [e0]; exact Ar1.1) (State.isArrayOf_alike hZ.alike Ar1.2.1) Ar1.2.2 hin17 (Has.at Ha1 hin17 rfl) (g := (mkF m 72 #[.val (.ref o0), .val (.int (9 : Int32)), .val (.long q2), .second] [(.int (14 : Int32)), (.ref o0)])) rfl rfl (hb hby d9_72) _ ?_
                show Steps p.tables e below (s₁.setTop (mkF m 73 #[.val (.ref o0), .val (.int (9 : Int32)), .val (.long q2), .second] [(.int w15_b)])) _
                refine XT.lloadN X0.here hx rfl (hb hby d9_73) rfl ?_
                show Steps p.tables e below (s₁.setTop (mkF m 74 #[.val (.ref o0), .val (.int (9 : Int32)), .val (.long q2), .second] [(.long q2), (.int w15_b)])) _
                refine XT.bipushV X0.here hx rfl (16 : Int32) (hb hby d9_74) (by decide) ?_
                show Steps p.tables e below (s₁.setTop (mkF m 76 #[.val (.ref o0), .val (.int (9 : Int32)), .val (.long q2), .second] [(.int (16 : Int32)), (.long q2), (.int w15_b)])) _
                refine XT.lushr X0.here hx rfl (hb hby d9_76) rfl ?_
                show Steps p.tables e below (s₁.setTop (mkF m 77 #[.val (.ref o0), .val (.int (9 : Int32)), .val (.long q2), .second] [(.long (XT.ushrL q2 (16 : Int32))), (.int w15_b)])) _
                refine XT.l2i X0.here hx rfl (hb hby d9_77) rfl ?_
                show Steps p.tables e below (s₁.setTop (mkF m 78 #[.val (.ref o0), .val (.int (9 : Int32)), .val (.long q2), .second] [(.int ((XT.ushrL q2 (16 : Int32)).toInt32)), (.int w15_b)])) _
                refine XT.i2b X0.here hx rfl (hb hby d9_78) rfl ?_
                exact k
              clear pre15
              by_cases c19 : w15_b = (vla85_9_6 q2 w10_b w11_b w12_b w13_b w14_b w15_b w16_b w17_b)
              · skip
                have hin20 : ¬ ((15 : Int32) < 0 ∨ cl1.slots.size ≤ ((15 : Int32)).toNatClampNeg) := inb_of S1 ⟨by decide, by decide⟩
                have pre21 : ∀ t, Steps p.tables e below (s₁.setTop (mkF m 94 #[.val (.ref o0), .val (.int (9 : Int32)), .val (.long q2), .second] [(.int (((XT.ushrL q2 (8 : Int32)).toInt32).toInt8.toInt32)), (.int w16_b)])) t → Steps p.tables e below (s₁.setTop (entryFrame m #[(.ref o0), (.int (9 : Int32)), (.long q2)] 4)) t := by
                  intro t k
                  refine pre18 t ?_
                  show Steps p.tables e below (s₁.setTop (mkF m 79 #[.val (.ref o0), .val (.int (9 : Int32)), .val (.long q2), .second] [(.int (((XT.ushrL q2 (16 : Int32)).toInt32).toInt8.toInt32)), (.int w15_b)])) _
                  refine XS.icmpNo X0.here hx rfl (hb hby d9_79) rfl (XT.ii_ne_f c19) ?_
                  show Steps p.tables e below (s₁.setTop (mkF m 82 #[.val (.ref o0), .val (.int (9 : Int32)), .val (.long q2), .second] [])) _
                  refine XS.aloadN X0.here hx rfl (hb hby d9_82) rfl rfl ?_
                  show Steps p.tables e below (s₁.setTop (mkF m 83 #[.val (.ref o0), .val (.int (9 : Int32)), .val (.long q2), .second] [(.ref o0)])) _
                  refine XS.iloadN X0.here hx rfl (hb hby d9_83) rfl ?_
                  show Steps p.tables e below (s₁.setTop (mkF m 84 #[.val (.ref o0), .val (.int (9 : Int32)), .val (.long q2), .second] [(.int (9 : Int32)), (.ref o0)])) _
                  refine XT.bipushV X0.here hx rfl (6 : Int32) (hb hby d9_84) (by decide) ?_
                  show Steps p.tables e below (s₁.setTop (mkF m 86 #[.val (.ref o0), .val (.int (9 : Int32)), .val (.long q2), .second] [(.int (6 : Int32)), (.int (9 : Int32)), (.ref o0)])) _
                  refine XS.iadd X0.here hx rfl (hb hby d9_86) rfl ?_
                  show Steps p.tables e below (s₁.setTop (mkF m 87 #[.val (.ref o0), .val (.int (9 : Int32)), .val (.long q2), .second] [(.int (15 : Int32)), (.ref o0)])) _
                  refine X0.baloadBytes hx (j := (15 : Int32)) (v := (.int w16_b)) (by rw [e0]; exact Ar1.1) (State.isArrayOf_alike hZ.alike Ar1.2.1) Ar1.2.2 hin20 (Has.at Ha1 hin20 rfl) (g := (mkF m 87 #[.val (.ref o0), .val (.int (9 : Int32)), .val (.long q2), .second] [(.int (15 : Int32)), (.ref o0)])) rfl rfl (hb hby d9_87) _ ?_
                  show Steps p.tables e below (s₁.setTop (mkF m 88 #[.val (.ref o0), .val (.int (9 : Int32)), .val (.long q2), .second] [(.int w16_b)])) _
                  refine XT.lloadN X0.here hx rfl (hb hby d9_88) rfl ?_
                  show Steps p.tables e below (s₁.setTop (mkF m 89 #[.val (.ref o0), .val (.int (9 : Int32)), .val (.long q2), .second] [(.long q2), (.int w16_b)])) _
                  refine XT.bipushV X0.here hx rfl (8 : Int32) (hb hby d9_89) (by decide) ?_
                  show Steps p.tables e below (s₁.setTop (mkF m 91 #[.val (.ref o0), .val (.int (9 : Int32)), .val (.long q2), .second] [(.int (8 : Int32)), (.long q2), (.int w16_b)])) _
                  refine XT.lushr X0.here hx rfl (hb hby d9_91) rfl ?_
                  show Steps p.tables e below (s₁.setTop (mkF m 92 #[.val (.ref o0), .val (.int (9 : Int32)), .val (.long q2), .second] [(.long (XT.ushrL q2 (8 : Int32))), (.int w16_b)])) _
                  refine XT.l2i X0.here hx rfl (hb hby d9_92) rfl ?_
                  show Steps p.tables e below (s₁.setTop (mkF m 93 #[.val (.ref o0), .val (.int (9 : Int32)), .val (.long q2), .second] [(.int ((XT.ushrL q2 (8 : Int32)).toInt32)), (.int w16_b)])) _
                  refine XT.i2b X0.here hx rfl (hb hby d9_93) rfl ?_
                  exact k
                clear pre18
                by_cases c22 : w16_b = (vla85_9_7 q2 w10_b w11_b w12_b w13_b w14_b w15_b w16_b w17_b)
                · skip
                  have hin23 : ¬ ((16 : Int32) < 0 ∨ cl1.slots.size ≤ ((16 : Int32)).toNatClampNeg) := inb_of S1 ⟨by decide, by decide⟩
                  have pre24 : ∀ t, Steps p.tables e below (s₁.setTop (mkF m 106 #[.val (.ref o0), .val (.int (9 : Int32)), .val (.long q2), .second] [(.int ((q2.toInt32).toInt8.toInt32)), (.int w17_b)])) t → Steps p.tables e below (s₁.setTop (entryFrame m #[(.ref o0), (.int (9 : Int32)), (.long q2)] 4)) t := by
                    intro t k
                    refine pre21 t ?_
                    show Steps p.tables e below (s₁.setTop (mkF m 94 #[.val (.ref o0), .val (.int (9 : Int32)), .val (.long q2), .second] [(.int (((XT.ushrL q2 (8 : Int32)).toInt32).toInt8.toInt32)), (.int w16_b)])) _
                    refine XS.icmpNo X0.here hx rfl (hb hby d9_94) rfl (XT.ii_ne_f c22) ?_
                    show Steps p.tables e below (s₁.setTop (mkF m 97 #[.val (.ref o0), .val (.int (9 : Int32)), .val (.long q2), .second] [])) _
                    refine XS.aloadN X0.here hx rfl (hb hby d9_97) rfl rfl ?_
                    show Steps p.tables e below (s₁.setTop (mkF m 98 #[.val (.ref o0), .val (.int (9 : Int32)), .val (.long q2), .second] [(.ref o0)])) _
                    refine XS.iloadN X0.here hx rfl (hb hby d9_98) rfl ?_
                    show Steps p.tables e below (s₁.setTop (mkF m 99 #[.val (.ref o0), .val (.int (9 : Int32)), .val (.long q2), .second] [(.int (9 : Int32)), (.ref o0)])) _
                    refine XT.bipushV X0.here hx rfl (7 : Int32) (hb hby d9_99) (by decide) ?_
                    show Steps p.tables e below (s₁.setTop (mkF m 101 #[.val (.ref o0), .val (.int (9 : Int32)), .val (.long q2), .second] [(.int (7 : Int32)), (.int (9 : Int32)), (.ref o0)])) _
                    refine XS.iadd X0.here hx rfl (hb hby d9_101) rfl ?_
                    show Steps p.tables e below (s₁.setTop (mkF m 102 #[.val (.ref o0), .val (.int (9 : Int32)), .val (.long q2), .second] [(.int (16 : Int32)), (.ref o0)])) _
                    refine X0.baloadBytes hx (j := (16 : Int32)) (v := (.int w17_b)) (by rw [e0]; exact Ar1.1) (State.isArrayOf_alike hZ.alike Ar1.2.1) Ar1.2.2 hin23 (Has.at Ha1 hin23 rfl) (g := (mkF m 102 #[.val (.ref o0), .val (.int (9 : Int32)), .val (.long q2), .second] [(.int (16 : Int32)), (.ref o0)])) rfl rfl (hb hby d9_102) _ ?_
                    show Steps p.tables e below (s₁.setTop (mkF m 103 #[.val (.ref o0), .val (.int (9 : Int32)), .val (.long q2), .second] [(.int w17_b)])) _
                    refine XT.lloadN X0.here hx rfl (hb hby d9_103) rfl ?_
                    show Steps p.tables e below (s₁.setTop (mkF m 104 #[.val (.ref o0), .val (.int (9 : Int32)), .val (.long q2), .second] [(.long q2), (.int w17_b)])) _
                    refine XT.l2i X0.here hx rfl (hb hby d9_104) rfl ?_
                    show Steps p.tables e below (s₁.setTop (mkF m 105 #[.val (.ref o0), .val (.int (9 : Int32)), .val (.long q2), .second] [(.int (q2.toInt32)), (.int w17_b)])) _
                    refine XT.i2b X0.here hx rfl (hb hby d9_105) rfl ?_
                    exact k
                  clear pre21
                  by_cases c25 : w17_b = (vla85_9_8 q2 w10_b w11_b w12_b w13_b w14_b w15_b w16_b w17_b)
                  · skip
                    rw [show (vla85_9_9 q2 w10_b w11_b w12_b w13_b w14_b w15_b w16_b w17_b) = (1 : Int32) from ((((((((if_pos c4).trans (if_pos c7)).trans (if_pos c10)).trans (if_pos c13)).trans (if_pos c16)).trans (if_pos c19)).trans (if_pos c22)).trans (if_pos c25))] at k
                    refine pre24 t ?_
                    show Steps p.tables e below (s₁.setTop (mkF m 106 #[.val (.ref o0), .val (.int (9 : Int32)), .val (.long q2), .second] [(.int ((q2.toInt32).toInt8.toInt32)), (.int w17_b)])) _
                    refine XS.icmpNo X0.here hx rfl (hb hby d9_106) rfl (XT.ii_ne_f c25) ?_
                    show Steps p.tables e below (s₁.setTop (mkF m 109 #[.val (.ref o0), .val (.int (9 : Int32)), .val (.long q2), .second] [])) _
                    refine XT.iconstV X0.here hx rfl (1 : Int32) (hb hby d9_109) (by decide) ?_
                    show Steps p.tables e below (s₁.setTop (mkF m 110 #[.val (.ref o0), .val (.int (9 : Int32)), .val (.long q2), .second] [(.int (1 : Int32))])) _
                    refine XS.goto X0.here hx rfl (pc0 := 110) (pc' := 114) rfl (hb hby d9_110) (by decide) (by decide) ?_
                    exact k
                  · skip
                    rw [show (vla85_9_9 q2 w10_b w11_b w12_b w13_b w14_b w15_b w16_b w17_b) = (0 : Int32) from ((((((((if_pos c4).trans (if_pos c7)).trans (if_pos c10)).trans (if_pos c13)).trans (if_pos c16)).trans (if_pos c19)).trans (if_pos c22)).trans (if_neg c25))] at k
                    refine pre24 t ?_
                    show Steps p.tables e below (s₁.setTop (mkF m 106 #[.val (.ref o0), .val (.int (9 : Int32)), .val (.long q2), .second] [(.int ((q2.toInt32).toInt8.toInt32)), (.int w17_b)])) _
                    refine XS.icmpYes X0.here hx rfl (pc0 := 106) (pc' := 113) rfl (hb hby d9_106) rfl (XT.ii_ne_t c25) (by decide) (by decide) ?_
                    show Steps p.tables e below (s₁.setTop (mkF m 113 #[.val (.ref o0), .val (.int (9 : Int32)), .val (.long q2), .second] [])) _
                    refine XT.iconstV X0.here hx rfl (0 : Int32) (hb hby d9_113) (by decide) ?_
                    exact k
                · skip
                  rw [show (vla85_9_9 q2 w10_b w11_b w12_b w13_b w14_b w15_b w16_b w17_b) = (0 : Int32) from (((((((if_pos c4).trans (if_pos c7)).trans (if_pos c10)).trans (if_pos c13)).trans (if_pos c16)).trans (if_pos c19)).trans (if_neg c22))] at k
                  refine pre21 t ?_
                  show Steps p.tables e below (s₁.setTop (mkF m 94 #[.val (.ref o0), .val (.int (9 : Int32)), .val (.long q2), .second] [(.int (((XT.ushrL q2 (8 : Int32)).toInt32).toInt8.toInt32)), (.int w16_b)])) _
                  refine XS.icmpYes X0.here hx rfl (pc0 := 94) (pc' := 113) rfl (hb hby d9_94) rfl (XT.ii_ne_t c22) (by decide) (by decide) ?_
                  show Steps p.tables e below (s₁.setTop (mkF m 113 #[.val (.ref o0), .val (.int (9 : Int32)), .val (.long q2), .second] [])) _
                  refine XT.iconstV X0.here hx rfl (0 : Int32) (hb hby d9_113) (by decide) ?_
                  exact k
              · skip
                rw [show (vla85_9_9 q2 w10_b w11_b w12_b w13_b w14_b w15_b w16_b w17_b) = (0 : Int32) from ((((((if_pos c4).trans (if_pos c7)).trans (if_pos c10)).trans (if_pos c13)).trans (if_pos c16)).trans (if_neg c19))] at k
                refine pre18 t ?_
                show Steps p.tables e below (s₁.setTop (mkF m 79 #[.val (.ref o0), .val (.int (9 : Int32)), .val (.long q2), .second] [(.int (((XT.ushrL q2 (16 : Int32)).toInt32).toInt8.toInt32)), (.int w15_b)])) _
                refine XS.icmpYes X0.here hx rfl (pc0 := 79) (pc' := 113) rfl (hb hby d9_79) rfl (XT.ii_ne_t c19) (by decide) (by decide) ?_
                show Steps p.tables e below (s₁.setTop (mkF m 113 #[.val (.ref o0), .val (.int (9 : Int32)), .val (.long q2), .second] [])) _
                refine XT.iconstV X0.here hx rfl (0 : Int32) (hb hby d9_113) (by decide) ?_
                exact k
            · skip
              rw [show (vla85_9_9 q2 w10_b w11_b w12_b w13_b w14_b w15_b w16_b w17_b) = (0 : Int32) from (((((if_pos c4).trans (if_pos c7)).trans (if_pos c10)).trans (if_pos c13)).trans (if_neg c16))] at k
              refine pre15 t ?_
              show Steps p.tables e below (s₁.setTop (mkF m 65 #[.val (.ref o0), .val (.int (9 : Int32)), .val (.long q2), .second] [(.int (((XT.ushrL q2 (24 : Int32)).toInt32).toInt8.toInt32)), (.int w14_b)])) _
              refine XS.icmpYes X0.here hx rfl (pc0 := 65) (pc' := 113) rfl (hb hby d9_65) rfl (XT.ii_ne_t c16) (by decide) (by decide) ?_
              show Steps p.tables e below (s₁.setTop (mkF m 113 #[.val (.ref o0), .val (.int (9 : Int32)), .val (.long q2), .second] [])) _
              refine XT.iconstV X0.here hx rfl (0 : Int32) (hb hby d9_113) (by decide) ?_
              exact k
          · skip
            rw [show (vla85_9_9 q2 w10_b w11_b w12_b w13_b w14_b w15_b w16_b w17_b) = (0 : Int32) from ((((if_pos c4).trans (if_pos c7)).trans (if_pos c10)).trans (if_neg c13))] at k
            refine pre12 t ?_
            show Steps p.tables e below (s₁.setTop (mkF m 51 #[.val (.ref o0), .val (.int (9 : Int32)), .val (.long q2), .second] [(.int (((XT.ushrL q2 (32 : Int32)).toInt32).toInt8.toInt32)), (.int w13_b)])) _
            refine XS.icmpYes X0.here hx rfl (pc0 := 51) (pc' := 113) rfl (hb hby d9_51) rfl (XT.ii_ne_t c13) (by decide) (by decide) ?_
            show Steps p.tables e below (s₁.setTop (mkF m 113 #[.val (.ref o0), .val (.int (9 : Int32)), .val (.long q2), .second] [])) _
            refine XT.iconstV X0.here hx rfl (0 : Int32) (hb hby d9_113) (by decide) ?_
            exact k
        · skip
          rw [show (vla85_9_9 q2 w10_b w11_b w12_b w13_b w14_b w15_b w16_b w17_b) = (0 : Int32) from (((if_pos c4).trans (if_pos c7)).trans (if_neg c10))] at k
          refine pre9 t ?_
          show Steps p.tables e below (s₁.setTop (mkF m 37 #[.val (.ref o0), .val (.int (9 : Int32)), .val (.long q2), .second] [(.int (((XT.ushrL q2 (40 : Int32)).toInt32).toInt8.toInt32)), (.int w12_b)])) _
          refine XS.icmpYes X0.here hx rfl (pc0 := 37) (pc' := 113) rfl (hb hby d9_37) rfl (XT.ii_ne_t c10) (by decide) (by decide) ?_
          show Steps p.tables e below (s₁.setTop (mkF m 113 #[.val (.ref o0), .val (.int (9 : Int32)), .val (.long q2), .second] [])) _
          refine XT.iconstV X0.here hx rfl (0 : Int32) (hb hby d9_113) (by decide) ?_
          exact k
      · skip
        rw [show (vla85_9_9 q2 w10_b w11_b w12_b w13_b w14_b w15_b w16_b w17_b) = (0 : Int32) from ((if_pos c4).trans (if_neg c7))] at k
        refine pre6 t ?_
        show Steps p.tables e below (s₁.setTop (mkF m 23 #[.val (.ref o0), .val (.int (9 : Int32)), .val (.long q2), .second] [(.int (((XT.ushrL q2 (48 : Int32)).toInt32).toInt8.toInt32)), (.int w11_b)])) _
        refine XS.icmpYes X0.here hx rfl (pc0 := 23) (pc' := 113) rfl (hb hby d9_23) rfl (XT.ii_ne_t c7) (by decide) (by decide) ?_
        show Steps p.tables e below (s₁.setTop (mkF m 113 #[.val (.ref o0), .val (.int (9 : Int32)), .val (.long q2), .second] [])) _
        refine XT.iconstV X0.here hx rfl (0 : Int32) (hb hby d9_113) (by decide) ?_
        exact k
    · skip
      rw [show (vla85_9_9 q2 w10_b w11_b w12_b w13_b w14_b w15_b w16_b w17_b) = (0 : Int32) from (if_neg c4)] at k
      refine pre3 t ?_
      show Steps p.tables e below (s₁.setTop (mkF m 9 #[.val (.ref o0), .val (.int (9 : Int32)), .val (.long q2), .second] [(.int (((XT.ushrL q2 (56 : Int32)).toInt32).toInt8.toInt32)), (.int w10_b)])) _
      refine XS.icmpYes X0.here hx rfl (pc0 := 9) (pc' := 113) rfl (hb hby d9_9) rfl (XT.ii_ne_t c4) (by decide) (by decide) ?_
      show Steps p.tables e below (s₁.setTop (mkF m 113 #[.val (.ref o0), .val (.int (9 : Int32)), .val (.long q2), .second] [])) _
      refine XT.iconstV X0.here hx rfl (0 : Int32) (hb hby d9_113) (by decide) ?_
      exact k
  obtain ⟨fs, hr, hrun, hended, hW, hsame⟩ := X0.leave (v := some (.int (nar .boolean (vla85_9_9 q2 w10_b w11_b w12_b w13_b w14_b w15_b w16_b w17_b)))) (fun h => by rw [Bd.returns] at h; cases h) hlk
  refine ⟨_, _, pre26 _ ?_, hrun, hended, _, _, rfl, ?_, ⟨_, rfl⟩, hW, hsame.mono (by decide) (by decide)⟩
  · skip
    show Steps p.tables e below (s₁.setTop (mkF m 114 #[.val (.ref o0), .val (.int (9 : Int32)), .val (.long q2), .second] [(.int (vla85_9_9 q2 w10_b w11_b w12_b w13_b w14_b w15_b w16_b w17_b))])) _
    exact retN X0 hx (t := .boolean) Bd.returns (by simp) (hb hby d9_114) hr
  · skip
    show Qla85_9 Z o0 q2 u0 u1 u2 u3 u4 u5 u6 u7 u8 w10_b w11_b w12_b w13_b w14_b w15_b w16_b w17_b u17 u18 u19 u20 u21 u22 u23 u24 u25 u26 u27 u28 u29 u30 u31 u32 u33 u34 u35 u36 u37 u38 u39 u40 u41 u42 u43 u44 u45 u46 u47 u48 u49 u50 u51 u52 u53 u54 u55 u56 u57 u58 u59 u60 u61 u62 u63 u64 u65 u66 u67 u68 u69 u70 u71 u72 u73 u74 u75 u76 u77 u78 u79 u80 u81 u82 u83 u84 kA h0 n0 _ s₁.heap _
    rw [e0]
    exact ⟨N0, rfl, rfl⟩
theorem ef_la85_77 (m : MethodId) (o0 : Addr) (q2 : Int64) : entryFrame m #[(.ref o0), (.int (77 : Int32)), (.long q2)] 4 = mkF m 0 #[.val (.ref o0), .val (.int (77 : Int32)), .val (.long q2), .second] [] := by first | (simp [entryFrame, mkF, argsToLocals, Value.category]; done) | rfl
def vla85_77_1 (q2 : Int64) (w10_b : Int32) (w11_b : Int32) (w12_b : Int32) (w13_b : Int32) (w14_b : Int32) (w15_b : Int32) (w16_b : Int32) (w17_b : Int32) : Int32 := (((XT.ushrL q2 (56 : Int32)).toInt32).toInt8.toInt32)
def vla85_77_2 (q2 : Int64) (w10_b : Int32) (w11_b : Int32) (w12_b : Int32) (w13_b : Int32) (w14_b : Int32) (w15_b : Int32) (w16_b : Int32) (w17_b : Int32) : Int32 := (((XT.ushrL q2 (48 : Int32)).toInt32).toInt8.toInt32)
def vla85_77_3 (q2 : Int64) (w10_b : Int32) (w11_b : Int32) (w12_b : Int32) (w13_b : Int32) (w14_b : Int32) (w15_b : Int32) (w16_b : Int32) (w17_b : Int32) : Int32 := (((XT.ushrL q2 (40 : Int32)).toInt32).toInt8.toInt32)
def vla85_77_4 (q2 : Int64) (w10_b : Int32) (w11_b : Int32) (w12_b : Int32) (w13_b : Int32) (w14_b : Int32) (w15_b : Int32) (w16_b : Int32) (w17_b : Int32) : Int32 := (((XT.ushrL q2 (32 : Int32)).toInt32).toInt8.toInt32)
def vla85_77_5 (q2 : Int64) (w10_b : Int32) (w11_b : Int32) (w12_b : Int32) (w13_b : Int32) (w14_b : Int32) (w15_b : Int32) (w16_b : Int32) (w17_b : Int32) : Int32 := (((XT.ushrL q2 (24 : Int32)).toInt32).toInt8.toInt32)
def vla85_77_6 (q2 : Int64) (w10_b : Int32) (w11_b : Int32) (w12_b : Int32) (w13_b : Int32) (w14_b : Int32) (w15_b : Int32) (w16_b : Int32) (w17_b : Int32) : Int32 := (((XT.ushrL q2 (16 : Int32)).toInt32).toInt8.toInt32)
def vla85_77_7 (q2 : Int64) (w10_b : Int32) (w11_b : Int32) (w12_b : Int32) (w13_b : Int32) (w14_b : Int32) (w15_b : Int32) (w16_b : Int32) (w17_b : Int32) : Int32 := (((XT.ushrL q2 (8 : Int32)).toInt32).toInt8.toInt32)
def vla85_77_8 (q2 : Int64) (w10_b : Int32) (w11_b : Int32) (w12_b : Int32) (w13_b : Int32) (w14_b : Int32) (w15_b : Int32) (w16_b : Int32) (w17_b : Int32) : Int32 := ((q2.toInt32).toInt8.toInt32)
def vla85_77_9 (q2 : Int64) (w10_b : Int32) (w11_b : Int32) (w12_b : Int32) (w13_b : Int32) (w14_b : Int32) (w15_b : Int32) (w16_b : Int32) (w17_b : Int32) : Int32 := (if w10_b = (vla85_77_1 q2 w10_b w11_b w12_b w13_b w14_b w15_b w16_b w17_b) then (if w11_b = (vla85_77_2 q2 w10_b w11_b w12_b w13_b w14_b w15_b w16_b w17_b) then (if w12_b = (vla85_77_3 q2 w10_b w11_b w12_b w13_b w14_b w15_b w16_b w17_b) then (if w13_b = (vla85_77_4 q2 w10_b w11_b w12_b w13_b w14_b w15_b w16_b w17_b) then (if w14_b = (vla85_77_5 q2 w10_b w11_b w12_b w13_b w14_b w15_b w16_b w17_b) then (if w15_b = (vla85_77_6 q2 w10_b w11_b w12_b w13_b w14_b w15_b w16_b w17_b) then (if w16_b = (vla85_77_7 q2 w10_b w11_b w12_b w13_b w14_b w15_b w16_b w17_b) then (if w17_b = (vla85_77_8 q2 w10_b w11_b w12_b w13_b w14_b w15_b w16_b w17_b) then (1 : Int32) else (0 : Int32)) else (0 : Int32)) else (0 : Int32)) else (0 : Int32)) else (0 : Int32)) else (0 : Int32)) else (0 : Int32)) else (0 : Int32))
def fla85_77 (q2 : Int64) (w10_b : Int32) (w11_b : Int32) (w12_b : Int32) (w13_b : Int32) (w14_b : Int32) (w15_b : Int32) (w16_b : Int32) (w17_b : Int32) : Int32 := (nar .boolean (vla85_77_9 q2 w10_b w11_b w12_b w13_b w14_b w15_b w16_b w17_b))
def Qla85_77 (Z : State) (o0 : Addr) (q2 : Int64) (u0 : Value) (u1 : Value) (u2 : Value) (u3 : Value) (u4 : Value) (u5 : Value) (u6 : Value) (u7 : Value) (u8 : Value) (u9 : Value) (u10 : Value) (u11 : Value) (u12 : Value) (u13 : Value) (u14 : Value) (u15 : Value) (u16 : Value) (u17 : Value) (u18 : Value) (u19 : Value) (u20 : Value) (u21 : Value) (u22 : Value) (u23 : Value) (u24 : Value) (u25 : Value) (u26 : Value) (u27 : Value) (u28 : Value) (u29 : Value) (u30 : Value) (u31 : Value) (u32 : Value) (u33 : Value) (u34 : Value) (u35 : Value) (u36 : Value) (u37 : Value) (u38 : Value) (u39 : Value) (u40 : Value) (u41 : Value) (u42 : Value) (u43 : Value) (u44 : Value) (u45 : Value) (u46 : Value) (u47 : Value) (u48 : Value) (u49 : Value) (u50 : Value) (u51 : Value) (u52 : Value) (u53 : Value) (u54 : Value) (u55 : Value) (u56 : Value) (u57 : Value) (u58 : Value) (u59 : Value) (u60 : Value) (u61 : Value) (u62 : Value) (u63 : Value) (u64 : Value) (u65 : Value) (u66 : Value) (u67 : Value) (u68 : Value) (u69 : Value) (u70 : Value) (u71 : Value) (u72 : Value) (u73 : Value) (u74 : Value) (u75 : Value) (u76 : Value) (w10_b : Int32) (w11_b : Int32) (w12_b : Int32) (w13_b : Int32) (w14_b : Int32) (w15_b : Int32) (w16_b : Int32) (w17_b : Int32) (kA : ClassId) (h0 : Heap) (n0 : Nat) (v : Option Value) (h : Heap) (L : List Loc) : Prop := Fr n0 L ∧ v = some (.int (fla85_77 q2 w10_b w11_b w12_b w13_b w14_b w15_b w16_b w17_b)) ∧ h = h0
set_option maxRecDepth 65536 in
set_option maxHeartbeats 40000000 in
theorem rmla85_77 (l : Launch) (Z : State) (a0 : Array Value) (hw : ∀ d ∈ tables_1, d.before a0 Z = true) (ws : List Jvm.Cond) (o0 : Addr) (q2 : Int64) (u0 : Value) (u1 : Value) (u2 : Value) (u3 : Value) (u4 : Value) (u5 : Value) (u6 : Value) (u7 : Value) (u8 : Value) (u9 : Value) (u10 : Value) (u11 : Value) (u12 : Value) (u13 : Value) (u14 : Value) (u15 : Value) (u16 : Value) (u17 : Value) (u18 : Value) (u19 : Value) (u20 : Value) (u21 : Value) (u22 : Value) (u23 : Value) (u24 : Value) (u25 : Value) (u26 : Value) (u27 : Value) (u28 : Value) (u29 : Value) (u30 : Value) (u31 : Value) (u32 : Value) (u33 : Value) (u34 : Value) (u35 : Value) (u36 : Value) (u37 : Value) (u38 : Value) (u39 : Value) (u40 : Value) (u41 : Value) (u42 : Value) (u43 : Value) (u44 : Value) (u45 : Value) (u46 : Value) (u47 : Value) (u48 : Value) (u49 : Value) (u50 : Value) (u51 : Value) (u52 : Value) (u53 : Value) (u54 : Value) (u55 : Value) (u56 : Value) (u57 : Value) (u58 : Value) (u59 : Value) (u60 : Value) (u61 : Value) (u62 : Value) (u63 : Value) (u64 : Value) (u65 : Value) (u66 : Value) (u67 : Value) (u68 : Value) (u69 : Value) (u70 : Value) (u71 : Value) (u72 : Value) (u73 : Value) (u74 : Value) (u75 : Value) (u76 : Value) (w10_b : Int32) (w11_b : Int32) (w12_b : Int32) (w13_b : Int32) (w14_b : Int32) (w15_b : Int32) (w16_b : Int32) (w17_b : Int32) (kA : ClassId) (h0 : Heap) (n0 : Nat) (Z0 : n0 ≤ h0.size) (V_o0 : Arv Z h0 o0 kA .byte (85 : Int32) [u0, u1, u2, u3, u4, u5, u6, u7, u8, u9, u10, u11, u12, u13, u14, u15, u16, u17, u18, u19, u20, u21, u22, u23, u24, u25, u26, u27, u28, u29, u30, u31, u32, u33, u34, u35, u36, u37, u38, u39, u40, u41, u42, u43, u44, u45, u46, u47, u48, u49, u50, u51, u52, u53, u54, u55, u56, u57, u58, u59, u60, u61, u62, u63, u64, u65, u66, u67, u68, u69, u70, u71, u72, u73, u74, u75, u76, (.int w10_b), (.int w11_b), (.int w12_b), (.int w13_b), (.int w14_b), (.int w15_b), (.int w16_b), (.int w17_b)] (.int (0 : Int32))) :
    MetFree l (⟨"com/example/dispatch_by_catalog/dispatchbycatalog/store/RecordWriterToBytesPinLaw", "longAt", "([BIJ)Z"⟩ : MethodName) (head1 (Jvm.Cond.code (⟨"com/example/dispatch_by_catalog/dispatchbycatalog/store/RecordWriterToBytesPinLaw", "longAt", "([BIJ)Z"⟩ : MethodName) method_3_code 4 (some .boolean) :: ws) ({ frames := 0, cells := 0, slots := 0, locals := 0 } : Room)) (fun a U => a = #[(.ref o0), (.int (77 : Int32)), (.long q2)] ∧ Z.Warmed39 U.vm ∧ U.heap = h0) (fun _ _ _ _ _ => True) (fun _ U o U' => ∃ v L, o = .returned v ∧ Qla85_77 Z o0 q2 u0 u1 u2 u3 u4 u5 u6 u7 u8 u9 u10 u11 u12 u13 u14 u15 u16 u17 u18 u19 u20 u21 u22 u23 u24 u25 u26 u27 u28 u29 u30 u31 u32 u33 u34 u35 u36 u37 u38 u39 u40 u41 u42 u43 u44 u45 u46 u47 u48 u49 u50 u51 u52 u53 u54 u55 u56 u57 u58 u59 u60 u61 u62 u63 u64 u65 u66 u67 u68 u69 u70 u71 u72 u73 u74 u75 u76 w10_b w11_b w12_b w13_b w14_b w15_b w16_b w17_b kA h0 n0 v U'.heap L ∧ FrameEnd U o U' L ({ frames := 0, cells := 0, slots := 0, locals := 0 } : Room).cells ({ frames := 0, cells := 0, slots := 0, locals := 0 } : Room).slots) := by
  refine MetFree.of_bodySF (plainFor_of_name pn_com_example_dispatch_by_catalog_dispatchbycatalog_store_RecordWriterToBytesPinLaw) hisR ?_
  intro p e s m args below meth c s₁ Bd hml0 hP hK
  obtain ⟨rfl, hZ, hh⟩ := hP
  have hx := Bd.exec
  have hby := Bd.bytes
  have hml : c.maxLocals = 4 := hml0
  have hown : s.vm.findClass "com/example/dispatch_by_catalog/dispatchbycatalog/store/RecordWriterToBytesPinLaw" = some m.cls := findClass_of_methodNamed Bd.named
  have hnm := (name_of_methodNamed Bd.named Bd.method).1
  have hlk := BodyLoose.notSynchronized Bd
  have X0 : Stand p l e ({ frames := 0, cells := 0, slots := 0, locals := 0 } : Room) s m #[(.ref o0), (.int (77 : Int32)), (.long q2)] below meth c s₁ [] 0 0 := Stand.of_body Bd
  have e0 : s₁.heap = h0 := by rw [← hh, Bd.state]; rfl
  have N0 := Fr.nil n0
  have pre0 : ∀ t, Steps p.tables e below (s₁.setTop (mkF m 0 #[.val (.ref o0), .val (.int (77 : Int32)), .val (.long q2), .second] [])) t → Steps p.tables e below (s₁.setTop (entryFrame m #[(.ref o0), (.int (77 : Int32)), (.long q2)] 4)) t := fun t k => castTop (ef_la85_77 m o0 q2) k
  obtain ⟨cl1, Ar1, qc1, S1, M1, Ha1, G1⟩ := id V_o0
  have hin2 : ¬ ((77 : Int32) < 0 ∨ cl1.slots.size ≤ ((77 : Int32)).toNatClampNeg) := inb_of S1 ⟨by decide, by decide⟩
  have pre3 : ∀ t, Steps p.tables e below (s₁.setTop (mkF m 9 #[.val (.ref o0), .val (.int (77 : Int32)), .val (.long q2), .second] [(.int (((XT.ushrL q2 (56 : Int32)).toInt32).toInt8.toInt32)), (.int w10_b)])) t → Steps p.tables e below (s₁.setTop (entryFrame m #[(.ref o0), (.int (77 : Int32)), (.long q2)] 4)) t := by
    intro t k
    refine pre0 t ?_
    show Steps p.tables e below (s₁.setTop (mkF m 0 #[.val (.ref o0), .val (.int (77 : Int32)), .val (.long q2), .second] [])) _
    refine XS.aloadN X0.here hx rfl (hb hby d9_0) rfl rfl ?_
    show Steps p.tables e below (s₁.setTop (mkF m 1 #[.val (.ref o0), .val (.int (77 : Int32)), .val (.long q2), .second] [(.ref o0)])) _
    refine XS.iloadN X0.here hx rfl (hb hby d9_1) rfl ?_
    show Steps p.tables e below (s₁.setTop (mkF m 2 #[.val (.ref o0), .val (.int (77 : Int32)), .val (.long q2), .second] [(.int (77 : Int32)), (.ref o0)])) _
    refine X0.baloadBytes hx (j := (77 : Int32)) (v := (.int w10_b)) (by rw [e0]; exact Ar1.1) (State.isArrayOf_alike hZ.alike Ar1.2.1) Ar1.2.2 hin2 (Has.at Ha1 hin2 rfl) (g := (mkF m 2 #[.val (.ref o0), .val (.int (77 : Int32)), .val (.long q2), .second] [(.int (77 : Int32)), (.ref o0)])) rfl rfl (hb hby d9_2) _ ?_
    show Steps p.tables e below (s₁.setTop (mkF m 3 #[.val (.ref o0), .val (.int (77 : Int32)), .val (.long q2), .second] [(.int w10_b)])) _
    refine XT.lloadN X0.here hx rfl (hb hby d9_3) rfl ?_
    show Steps p.tables e below (s₁.setTop (mkF m 4 #[.val (.ref o0), .val (.int (77 : Int32)), .val (.long q2), .second] [(.long q2), (.int w10_b)])) _
    refine XT.bipushV X0.here hx rfl (56 : Int32) (hb hby d9_4) (by decide) ?_
    show Steps p.tables e below (s₁.setTop (mkF m 6 #[.val (.ref o0), .val (.int (77 : Int32)), .val (.long q2), .second] [(.int (56 : Int32)), (.long q2), (.int w10_b)])) _
    refine XT.lushr X0.here hx rfl (hb hby d9_6) rfl ?_
    show Steps p.tables e below (s₁.setTop (mkF m 7 #[.val (.ref o0), .val (.int (77 : Int32)), .val (.long q2), .second] [(.long (XT.ushrL q2 (56 : Int32))), (.int w10_b)])) _
    refine XT.l2i X0.here hx rfl (hb hby d9_7) rfl ?_
    show Steps p.tables e below (s₁.setTop (mkF m 8 #[.val (.ref o0), .val (.int (77 : Int32)), .val (.long q2), .second] [(.int ((XT.ushrL q2 (56 : Int32)).toInt32)), (.int w10_b)])) _
    refine XT.i2b X0.here hx rfl (hb hby d9_8) rfl ?_
    exact k
  clear pre0
  have pre26 : ∀ t, Steps p.tables e below (s₁.setTop (mkF m 114 #[.val (.ref o0), .val (.int (77 : Int32)), .val (.long q2), .second] [(.int (vla85_77_9 q2 w10_b w11_b w12_b w13_b w14_b w15_b w16_b w17_b))])) t → Steps p.tables e below (s₁.setTop (entryFrame m #[(.ref o0), (.int (77 : Int32)), (.long q2)] 4)) t := by
    intro t k
    by_cases c4 : w10_b = (vla85_77_1 q2 w10_b w11_b w12_b w13_b w14_b w15_b w16_b w17_b)
    · skip
      have hin5 : ¬ ((78 : Int32) < 0 ∨ cl1.slots.size ≤ ((78 : Int32)).toNatClampNeg) := inb_of S1 ⟨by decide, by decide⟩
      have pre6 : ∀ t, Steps p.tables e below (s₁.setTop (mkF m 23 #[.val (.ref o0), .val (.int (77 : Int32)), .val (.long q2), .second] [(.int (((XT.ushrL q2 (48 : Int32)).toInt32).toInt8.toInt32)), (.int w11_b)])) t → Steps p.tables e below (s₁.setTop (entryFrame m #[(.ref o0), (.int (77 : Int32)), (.long q2)] 4)) t := by
        intro t k
        refine pre3 t ?_
        show Steps p.tables e below (s₁.setTop (mkF m 9 #[.val (.ref o0), .val (.int (77 : Int32)), .val (.long q2), .second] [(.int (((XT.ushrL q2 (56 : Int32)).toInt32).toInt8.toInt32)), (.int w10_b)])) _
        refine XS.icmpNo X0.here hx rfl (hb hby d9_9) rfl (XT.ii_ne_f c4) ?_
        show Steps p.tables e below (s₁.setTop (mkF m 12 #[.val (.ref o0), .val (.int (77 : Int32)), .val (.long q2), .second] [])) _
        refine XS.aloadN X0.here hx rfl (hb hby d9_12) rfl rfl ?_
        show Steps p.tables e below (s₁.setTop (mkF m 13 #[.val (.ref o0), .val (.int (77 : Int32)), .val (.long q2), .second] [(.ref o0)])) _
        refine XS.iloadN X0.here hx rfl (hb hby d9_13) rfl ?_
        show Steps p.tables e below (s₁.setTop (mkF m 14 #[.val (.ref o0), .val (.int (77 : Int32)), .val (.long q2), .second] [(.int (77 : Int32)), (.ref o0)])) _
        refine XT.iconstV X0.here hx rfl (1 : Int32) (hb hby d9_14) (by decide) ?_
        show Steps p.tables e below (s₁.setTop (mkF m 15 #[.val (.ref o0), .val (.int (77 : Int32)), .val (.long q2), .second] [(.int (1 : Int32)), (.int (77 : Int32)), (.ref o0)])) _
        refine XS.iadd X0.here hx rfl (hb hby d9_15) rfl ?_
        show Steps p.tables e below (s₁.setTop (mkF m 16 #[.val (.ref o0), .val (.int (77 : Int32)), .val (.long q2), .second] [(.int (78 : Int32)), (.ref o0)])) _
        refine X0.baloadBytes hx (j := (78 : Int32)) (v := (.int w11_b)) (by rw [e0]; exact Ar1.1) (State.isArrayOf_alike hZ.alike Ar1.2.1) Ar1.2.2 hin5 (Has.at Ha1 hin5 rfl) (g := (mkF m 16 #[.val (.ref o0), .val (.int (77 : Int32)), .val (.long q2), .second] [(.int (78 : Int32)), (.ref o0)])) rfl rfl (hb hby d9_16) _ ?_
        show Steps p.tables e below (s₁.setTop (mkF m 17 #[.val (.ref o0), .val (.int (77 : Int32)), .val (.long q2), .second] [(.int w11_b)])) _
        refine XT.lloadN X0.here hx rfl (hb hby d9_17) rfl ?_
        show Steps p.tables e below (s₁.setTop (mkF m 18 #[.val (.ref o0), .val (.int (77 : Int32)), .val (.long q2), .second] [(.long q2), (.int w11_b)])) _
        refine XT.bipushV X0.here hx rfl (48 : Int32) (hb hby d9_18) (by decide) ?_
        show Steps p.tables e below (s₁.setTop (mkF m 20 #[.val (.ref o0), .val (.int (77 : Int32)), .val (.long q2), .second] [(.int (48 : Int32)), (.long q2), (.int w11_b)])) _
        refine XT.lushr X0.here hx rfl (hb hby d9_20) rfl ?_
        show Steps p.tables e below (s₁.setTop (mkF m 21 #[.val (.ref o0), .val (.int (77 : Int32)), .val (.long q2), .second] [(.long (XT.ushrL q2 (48 : Int32))), (.int w11_b)])) _
        refine XT.l2i X0.here hx rfl (hb hby d9_21) rfl ?_
        show Steps p.tables e below (s₁.setTop (mkF m 22 #[.val (.ref o0), .val (.int (77 : Int32)), .val (.long q2), .second] [(.int ((XT.ushrL q2 (48 : Int32)).toInt32)), (.int w11_b)])) _
        refine XT.i2b X0.here hx rfl (hb hby d9_22) rfl ?_
        exact k
      clear pre3
      by_cases c7 : w11_b = (vla85_77_2 q2 w10_b w11_b w12_b w13_b w14_b w15_b w16_b w17_b)
      · skip
        have hin8 : ¬ ((79 : Int32) < 0 ∨ cl1.slots.size ≤ ((79 : Int32)).toNatClampNeg) := inb_of S1 ⟨by decide, by decide⟩
        have pre9 : ∀ t, Steps p.tables e below (s₁.setTop (mkF m 37 #[.val (.ref o0), .val (.int (77 : Int32)), .val (.long q2), .second] [(.int (((XT.ushrL q2 (40 : Int32)).toInt32).toInt8.toInt32)), (.int w12_b)])) t → Steps p.tables e below (s₁.setTop (entryFrame m #[(.ref o0), (.int (77 : Int32)), (.long q2)] 4)) t := by
          intro t k
          refine pre6 t ?_
          show Steps p.tables e below (s₁.setTop (mkF m 23 #[.val (.ref o0), .val (.int (77 : Int32)), .val (.long q2), .second] [(.int (((XT.ushrL q2 (48 : Int32)).toInt32).toInt8.toInt32)), (.int w11_b)])) _
          refine XS.icmpNo X0.here hx rfl (hb hby d9_23) rfl (XT.ii_ne_f c7) ?_
          show Steps p.tables e below (s₁.setTop (mkF m 26 #[.val (.ref o0), .val (.int (77 : Int32)), .val (.long q2), .second] [])) _
          refine XS.aloadN X0.here hx rfl (hb hby d9_26) rfl rfl ?_
          show Steps p.tables e below (s₁.setTop (mkF m 27 #[.val (.ref o0), .val (.int (77 : Int32)), .val (.long q2), .second] [(.ref o0)])) _
          refine XS.iloadN X0.here hx rfl (hb hby d9_27) rfl ?_
          show Steps p.tables e below (s₁.setTop (mkF m 28 #[.val (.ref o0), .val (.int (77 : Int32)), .val (.long q2), .second] [(.int (77 : Int32)), (.ref o0)])) _
          refine XT.iconstV X0.here hx rfl (2 : Int32) (hb hby d9_28) (by decide) ?_
          show Steps p.tables e below (s₁.setTop (mkF m 29 #[.val (.ref o0), .val (.int (77 : Int32)), .val (.long q2), .second] [(.int (2 : Int32)), (.int (77 : Int32)), (.ref o0)])) _
          refine XS.iadd X0.here hx rfl (hb hby d9_29) rfl ?_
          show Steps p.tables e below (s₁.setTop (mkF m 30 #[.val (.ref o0), .val (.int (77 : Int32)), .val (.long q2), .second] [(.int (79 : Int32)), (.ref o0)])) _
          refine X0.baloadBytes hx (j := (79 : Int32)) (v := (.int w12_b)) (by rw [e0]; exact Ar1.1) (State.isArrayOf_alike hZ.alike Ar1.2.1) Ar1.2.2 hin8 (Has.at Ha1 hin8 rfl) (g := (mkF m 30 #[.val (.ref o0), .val (.int (77 : Int32)), .val (.long q2), .second] [(.int (79 : Int32)), (.ref o0)])) rfl rfl (hb hby d9_30) _ ?_
          show Steps p.tables e below (s₁.setTop (mkF m 31 #[.val (.ref o0), .val (.int (77 : Int32)), .val (.long q2), .second] [(.int w12_b)])) _
          refine XT.lloadN X0.here hx rfl (hb hby d9_31) rfl ?_
          show Steps p.tables e below (s₁.setTop (mkF m 32 #[.val (.ref o0), .val (.int (77 : Int32)), .val (.long q2), .second] [(.long q2), (.int w12_b)])) _
          refine XT.bipushV X0.here hx rfl (40 : Int32) (hb hby d9_32) (by decide) ?_
          show Steps p.tables e below (s₁.setTop (mkF m 34 #[.val (.ref o0), .val (.int (77 : Int32)), .val (.long q2), .second] [(.int (40 : Int32)), (.long q2), (.int w12_b)])) _
          refine XT.lushr X0.here hx rfl (hb hby d9_34) rfl ?_
          show Steps p.tables e below (s₁.setTop (mkF m 35 #[.val (.ref o0), .val (.int (77 : Int32)), .val (.long q2), .second] [(.long (XT.ushrL q2 (40 : Int32))), (.int w12_b)])) _
          refine XT.l2i X0.here hx rfl (hb hby d9_35) rfl ?_
          show Steps p.tables e below (s₁.setTop (mkF m 36 #[.val (.ref o0), .val (.int (77 : Int32)), .val (.long q2), .second] [(.int ((XT.ushrL q2 (40 : Int32)).toInt32)), (.int w12_b)])) _
          refine XT.i2b X0.here hx rfl (hb hby d9_36) rfl ?_
          exact k
        clear pre6
        by_cases c10 : w12_b = (vla85_77_3 q2 w10_b w11_b w12_b w13_b w14_b w15_b w16_b w17_b)
        · skip
          have hin11 : ¬ ((80 : Int32) < 0 ∨ cl1.slots.size ≤ ((80 : Int32)).toNatClampNeg) := inb_of S1 ⟨by decide, by decide⟩
          have pre12 : ∀ t, Steps p.tables e below (s₁.setTop (mkF m 51 #[.val (.ref o0), .val (.int (77 : Int32)), .val (.long q2), .second] [(.int (((XT.ushrL q2 (32 : Int32)).toInt32).toInt8.toInt32)), (.int w13_b)])) t → Steps p.tables e below (s₁.setTop (entryFrame m #[(.ref o0), (.int (77 : Int32)), (.long q2)] 4)) t := by
            intro t k
            refine pre9 t ?_
            show Steps p.tables e below (s₁.setTop (mkF m 37 #[.val (.ref o0), .val (.int (77 : Int32)), .val (.long q2), .second] [(.int (((XT.ushrL q2 (40 : Int32)).toInt32).toInt8.toInt32)), (.int w12_b)])) _
            refine XS.icmpNo X0.here hx rfl (hb hby d9_37) rfl (XT.ii_ne_f c10) ?_
            show Steps p.tables e below (s₁.setTop (mkF m 40 #[.val (.ref o0), .val (.int (77 : Int32)), .val (.long q2), .second] [])) _
            refine XS.aloadN X0.here hx rfl (hb hby d9_40) rfl rfl ?_
            show Steps p.tables e below (s₁.setTop (mkF m 41 #[.val (.ref o0), .val (.int (77 : Int32)), .val (.long q2), .second] [(.ref o0)])) _
            refine XS.iloadN X0.here hx rfl (hb hby d9_41) rfl ?_
            show Steps p.tables e below (s₁.setTop (mkF m 42 #[.val (.ref o0), .val (.int (77 : Int32)), .val (.long q2), .second] [(.int (77 : Int32)), (.ref o0)])) _
            refine XT.iconstV X0.here hx rfl (3 : Int32) (hb hby d9_42) (by decide) ?_
            show Steps p.tables e below (s₁.setTop (mkF m 43 #[.val (.ref o0), .val (.int (77 : Int32)), .val (.long q2), .second] [(.int (3 : Int32)), (.int (77 : Int32)), (.ref o0)])) _
            refine XS.iadd X0.here hx rfl (hb hby d9_43) rfl ?_
            show Steps p.tables e below (s₁.setTop (mkF m 44 #[.val (.ref o0), .val (.int (77 : Int32)), .val (.long q2), .second] [(.int (80 : Int32)), (.ref o0)])) _
            refine X0.baloadBytes hx (j := (80 : Int32)) (v := (.int w13_b)) (by rw [e0]; exact Ar1.1) (State.isArrayOf_alike hZ.alike Ar1.2.1) Ar1.2.2 hin11 (Has.at Ha1 hin11 rfl) (g := (mkF m 44 #[.val (.ref o0), .val (.int (77 : Int32)), .val (.long q2), .second] [(.int (80 : Int32)), (.ref o0)])) rfl rfl (hb hby d9_44) _ ?_
            show Steps p.tables e below (s₁.setTop (mkF m 45 #[.val (.ref o0), .val (.int (77 : Int32)), .val (.long q2), .second] [(.int w13_b)])) _
            refine XT.lloadN X0.here hx rfl (hb hby d9_45) rfl ?_
            show Steps p.tables e below (s₁.setTop (mkF m 46 #[.val (.ref o0), .val (.int (77 : Int32)), .val (.long q2), .second] [(.long q2), (.int w13_b)])) _
            refine XT.bipushV X0.here hx rfl (32 : Int32) (hb hby d9_46) (by decide) ?_
            show Steps p.tables e below (s₁.setTop (mkF m 48 #[.val (.ref o0), .val (.int (77 : Int32)), .val (.long q2), .second] [(.int (32 : Int32)), (.long q2), (.int w13_b)])) _
            refine XT.lushr X0.here hx rfl (hb hby d9_48) rfl ?_
            show Steps p.tables e below (s₁.setTop (mkF m 49 #[.val (.ref o0), .val (.int (77 : Int32)), .val (.long q2), .second] [(.long (XT.ushrL q2 (32 : Int32))), (.int w13_b)])) _
            refine XT.l2i X0.here hx rfl (hb hby d9_49) rfl ?_
            show Steps p.tables e below (s₁.setTop (mkF m 50 #[.val (.ref o0), .val (.int (77 : Int32)), .val (.long q2), .second] [(.int ((XT.ushrL q2 (32 : Int32)).toInt32)), (.int w13_b)])) _
            refine XT.i2b X0.here hx rfl (hb hby d9_50) rfl ?_
            exact k
          clear pre9
          by_cases c13 : w13_b = (vla85_77_4 q2 w10_b w11_b w12_b w13_b w14_b w15_b w16_b w17_b)
          · skip
            have hin14 : ¬ ((81 : Int32) < 0 ∨ cl1.slots.size ≤ ((81 : Int32)).toNatClampNeg) := inb_of S1 ⟨by decide, by decide⟩
            have pre15 : ∀ t, Steps p.tables e below (s₁.setTop (mkF m 65 #[.val (.ref o0), .val (.int (77 : Int32)), .val (.long q2), .second] [(.int (((XT.ushrL q2 (24 : Int32)).toInt32).toInt8.toInt32)), (.int w14_b)])) t → Steps p.tables e below (s₁.setTop (entryFrame m #[(.ref o0), (.int (77 : Int32)), (.long q2)] 4)) t := by
              intro t k
              refine pre12 t ?_
              show Steps p.tables e below (s₁.setTop (mkF m 51 #[.val (.ref o0), .val (.int (77 : Int32)), .val (.long q2), .second] [(.int (((XT.ushrL q2 (32 : Int32)).toInt32).toInt8.toInt32)), (.int w13_b)])) _
              refine XS.icmpNo X0.here hx rfl (hb hby d9_51) rfl (XT.ii_ne_f c13) ?_
              show Steps p.tables e below (s₁.setTop (mkF m 54 #[.val (.ref o0), .val (.int (77 : Int32)), .val (.long q2), .second] [])) _
              refine XS.aloadN X0.here hx rfl (hb hby d9_54) rfl rfl ?_
              show Steps p.tables e below (s₁.setTop (mkF m 55 #[.val (.ref o0), .val (.int (77 : Int32)), .val (.long q2), .second] [(.ref o0)])) _
              refine XS.iloadN X0.here hx rfl (hb hby d9_55) rfl ?_
              show Steps p.tables e below (s₁.setTop (mkF m 56 #[.val (.ref o0), .val (.int (77 : Int32)), .val (.long q2), .second] [(.int (77 : Int32)), (.ref o0)])) _
              refine XT.iconstV X0.here hx rfl (4 : Int32) (hb hby d9_56) (by decide) ?_
              show Steps p.tables e below (s₁.setTop (mkF m 57 #[.val (.ref o0), .val (.int (77 : Int32)), .val (.long q2), .second] [(.int (4 : Int32)), (.int (77 : Int32)), (.ref o0)])) _
              refine XS.iadd X0.here hx rfl (hb hby d9_57) rfl ?_
              show Steps p.tables e below (s₁.setTop (mkF m 58 #[.val (.ref o0), .val (.int (77 : Int32)), .val (.long q2), .second] [(.int (81 : Int32)), (.ref o0)])) _
              refine X0.baloadBytes hx (j := (81 : Int32)) (v := (.int w14_b)) (by rw [e0]; exact Ar1.1) (State.isArrayOf_alike hZ.alike Ar1.2.1) Ar1.2.2 hin14 (Has.at Ha1 hin14 rfl) (g := (mkF m 58 #[.val (.ref o0), .val (.int (77 : Int32)), .val (.long q2), .second] [(.int (81 : Int32)), (.ref o0)])) rfl rfl (hb hby d9_58) _ ?_
              show Steps p.tables e below (s₁.setTop (mkF m 59 #[.val (.ref o0), .val (.int (77 : Int32)), .val (.long q2), .second] [(.int w14_b)])) _
              refine XT.lloadN X0.here hx rfl (hb hby d9_59) rfl ?_
              show Steps p.tables e below (s₁.setTop (mkF m 60 #[.val (.ref o0), .val (.int (77 : Int32)), .val (.long q2), .second] [(.long q2), (.int w14_b)])) _
              refine XT.bipushV X0.here hx rfl (24 : Int32) (hb hby d9_60) (by decide) ?_
              show Steps p.tables e below (s₁.setTop (mkF m 62 #[.val (.ref o0), .val (.int (77 : Int32)), .val (.long q2), .second] [(.int (24 : Int32)), (.long q2), (.int w14_b)])) _
              refine XT.lushr X0.here hx rfl (hb hby d9_62) rfl ?_
              show Steps p.tables e below (s₁.setTop (mkF m 63 #[.val (.ref o0), .val (.int (77 : Int32)), .val (.long q2), .second] [(.long (XT.ushrL q2 (24 : Int32))), (.int w14_b)])) _
              refine XT.l2i X0.here hx rfl (hb hby d9_63) rfl ?_
              show Steps p.tables e below (s₁.setTop (mkF m 64 #[.val (.ref o0), .val (.int (77 : Int32)), .val (.long q2), .second] [(.int ((XT.ushrL q2 (24 : Int32)).toInt32)), (.int w14_b)])) _
              refine XT.i2b X0.here hx rfl (hb hby d9_64) rfl ?_
              exact k
            clear pre12
            by_cases c16 : w14_b = (vla85_77_5 q2 w10_b w11_b w12_b w13_b w14_b w15_b w16_b w17_b)
            · skip
              have hin17 : ¬ ((82 : Int32) < 0 ∨ cl1.slots.size ≤ ((82 : Int32)).toNatClampNeg) := inb_of S1 ⟨by decide, by decide⟩
              have pre18 : ∀ t, Steps p.tables e below (s₁.setTop (mkF m 79 #[.val (.ref o0), .val (.int (77 : Int32)), .val (.long q2), .second] [(.int (((XT.ushrL q2 (16 : Int32)).toInt32).toInt8.toInt32)), (.int w15_b)])) t → Steps p.tables e below (s₁.setTop (entryFrame m #[(.ref o0), (.int (77 : Int32)), (.long q2)] 4)) t := by
                intro t k
                refine pre15 t ?_
                show Steps p.tables e below (s₁.setTop (mkF m 65 #[.val (.ref o0), .val (.int (77 : Int32)), .val (.long q2), .second] [(.int (((XT.ushrL q2 (24 : Int32)).toInt32).toInt8.toInt32)), (.int w14_b)])) _
                refine XS.icmpNo X0.here hx rfl (hb hby d9_65) rfl (XT.ii_ne_f c16) ?_
                show Steps p.tables e below (s₁.setTop (mkF m 68 #[.val (.ref o0), .val (.int (77 : Int32)), .val (.long q2), .second] [])) _
                refine XS.aloadN X0.here hx rfl (hb hby d9_68) rfl rfl ?_
                show Steps p.tables e below (s₁.setTop (mkF m 69 #[.val (.ref o0), .val (.int (77 : Int32)), .val (.long q2), .second] [(.ref o0)])) _
                refine XS.iloadN X0.here hx rfl (hb hby d9_69) rfl ?_
                show Steps p.tables e below (s₁.setTop (mkF m 70 #[.val (.ref o0), .val (.int (77 : Int32)), .val (.long q2), .second] [(.int (77 : Int32)), (.ref o0)])) _
                refine XT.iconstV X0.here hx rfl (5 : Int32) (hb hby d9_70) (by decide) ?_
                show Steps p.tables e below (s₁.setTop (mkF m 71 #[.val (.ref o0), .val (.int (77 : Int32)), .val (.long q2), .second] [(.int (5 : Int32)), (.int (77 : Int32)), (.ref o0)])) _
                refine XS.iadd X0.here hx rfl (hb hby d9_71) rfl ?_
                show Steps p.tables e below (s₁.setTop (mkF m 72 #[.val (.ref o0), .val (.int (77 : Int32)), .val (.long q2), .second] [(.int (82 : Int32)), (.ref o0)])) _
                refine X0.baloadBytes hx (j := (82 : Int32)) (v := (.int w15_b)) (by rw [e0]; exact Ar1.1) (State.isArrayOf_alike hZ.alike Ar1.2.1) Ar1.2.2 hin17 (Has.at Ha1 hin17 rfl) (g := (mkF m 72 #[.val (.ref o0), .val (.int (77 : Int32)), .val (.long q2), .second] [(.int (82 : Int32)), (.ref o0)])) rfl rfl (hb hby d9_72) _ ?_
                show Steps p.tables e below (s₁.setTop (mkF m 73 #[.val (.ref o0), .val (.int (77 : Int32)), .val (.long q2), .second] [(.int w15_b)])) _
                refine XT.lloadN X0.here hx rfl (hb hby d9_73) rfl ?_
                show Steps p.tables e below (s₁.setTop (mkF m 74 #[.val (.ref o0), .val (.int (77 : Int32)), .val (.long q2), .second] [(.long q2), (.int w15_b)])) _
                refine XT.bipushV X0.here hx rfl (16 : Int32) (hb hby d9_74) (by decide) ?_
                show Steps p.tables e below (s₁.setTop (mkF m 76 #[.val (.ref o0), .val (.int (77 : Int32)), .val (.long q2), .second] [(.int (16 : Int32)), (.long q2), (.int w15_b)])) _
                refine XT.lushr X0.here hx rfl (hb hby d9_76) rfl ?_
                show Steps p.tables e below (s₁.setTop (mkF m 77 #[.val (.ref o0), .val (.int (77 : Int32)), .val (.long q2), .second] [(.long (XT.ushrL q2 (16 : Int32))), (.int w15_b)])) _
                refine XT.l2i X0.here hx rfl (hb hby d9_77) rfl ?_
                show Steps p.tables e below (s₁.setTop (mkF m 78 #[.val (.ref o0), .val (.int (77 : Int32)), .val (.long q2), .second] [(.int ((XT.ushrL q2 (16 : Int32)).toInt32)), (.int w15_b)])) _
                refine XT.i2b X0.here hx rfl (hb hby d9_78) rfl ?_
                exact k
              clear pre15
              by_cases c19 : w15_b = (vla85_77_6 q2 w10_b w11_b w12_b w13_b w14_b w15_b w16_b w17_b)
              · skip
                have hin20 : ¬ ((83 : Int32) < 0 ∨ cl1.slots.size ≤ ((83 : Int32)).toNatClampNeg) := inb_of S1 ⟨by decide, by decide⟩
                have pre21 : ∀ t, Steps p.tables e below (s₁.setTop (mkF m 94 #[.val (.ref o0), .val (.int (77 : Int32)), .val (.long q2), .second] [(.int (((XT.ushrL q2 (8 : Int32)).toInt32).toInt8.toInt32)), (.int w16_b)])) t → Steps p.tables e below (s₁.setTop (entryFrame m #[(.ref o0), (.int (77 : Int32)), (.long q2)] 4)) t := by
                  intro t k
                  refine pre18 t ?_
                  show Steps p.tables e below (s₁.setTop (mkF m 79 #[.val (.ref o0), .val (.int (77 : Int32)), .val (.long q2), .second] [(.int (((XT.ushrL q2 (16 : Int32)).toInt32).toInt8.toInt32)), (.int w15_b)])) _
                  refine XS.icmpNo X0.here hx rfl (hb hby d9_79) rfl (XT.ii_ne_f c19) ?_
                  show Steps p.tables e below (s₁.setTop (mkF m 82 #[.val (.ref o0), .val (.int (77 : Int32)), .val (.long q2), .second] [])) _
                  refine XS.aloadN X0.here hx rfl (hb hby d9_82) rfl rfl ?_
                  show Steps p.tables e below (s₁.setTop (mkF m 83 #[.val (.ref o0), .val (.int (77 : Int32)), .val (.long q2), .second] [(.ref o0)])) _
                  refine XS.iloadN X0.here hx rfl (hb hby d9_83) rfl ?_
                  show Steps p.tables e below (s₁.setTop (mkF m 84 #[.val (.ref o0), .val (.int (77 : Int32)), .val (.long q2), .second] [(.int (77 : Int32)), (.ref o0)])) _
                  refine XT.bipushV X0.here hx rfl (6 : Int32) (hb hby d9_84) (by decide) ?_
                  show Steps p.tables e below (s₁.setTop (mkF m 86 #[.val (.ref o0), .val (.int (77 : Int32)), .val (.long q2), .second] [(.int (6 : Int32)), (.int (77 : Int32)), (.ref o0)])) _
                  refine XS.iadd X0.here hx rfl (hb hby d9_86) rfl ?_
                  show Steps p.tables e below (s₁.setTop (mkF m 87 #[.val (.ref o0), .val (.int (77 : Int32)), .val (.long q2), .second] [(.int (83 : Int32)), (.ref o0)])) _
                  refine X0.baloadBytes hx (j := (83 : Int32)) (v := (.int w16_b)) (by rw [e0]; exact Ar1.1) (State.isArrayOf_alike hZ.alike Ar1.2.1) Ar1.2.2 hin20 (Has.at Ha1 hin20 rfl) (g := (mkF m 87 #[.val (.ref o0), .val (.int (77 : Int32)), .val (.long q2), .second] [(.int (83 : Int32)), (.ref o0)])) rfl rfl (hb hby d9_87) _ ?_
                  show Steps p.tables e below (s₁.setTop (mkF m 88 #[.val (.ref o0), .val (.int (77 : Int32)), .val (.long q2), .second] [(.int w16_b)])) _
                  refine XT.lloadN X0.here hx rfl (hb hby d9_88) rfl ?_
                  show Steps p.tables e below (s₁.setTop (mkF m 89 #[.val (.ref o0), .val (.int (77 : Int32)), .val (.long q2), .second] [(.long q2), (.int w16_b)])) _
                  refine XT.bipushV X0.here hx rfl (8 : Int32) (hb hby d9_89) (by decide) ?_
                  show Steps p.tables e below (s₁.setTop (mkF m 91 #[.val (.ref o0), .val (.int (77 : Int32)), .val (.long q2), .second] [(.int (8 : Int32)), (.long q2), (.int w16_b)])) _
                  refine XT.lushr X0.here hx rfl (hb hby d9_91) rfl ?_
                  show Steps p.tables e below (s₁.setTop (mkF m 92 #[.val (.ref o0), .val (.int (77 : Int32)), .val (.long q2), .second] [(.long (XT.ushrL q2 (8 : Int32))), (.int w16_b)])) _
                  refine XT.l2i X0.here hx rfl (hb hby d9_92) rfl ?_
                  show Steps p.tables e below (s₁.setTop (mkF m 93 #[.val (.ref o0), .val (.int (77 : Int32)), .val (.long q2), .second] [(.int ((XT.ushrL q2 (8 : Int32)).toInt32)), (.int w16_b)])) _
                  refine XT.i2b X0.here hx rfl (hb hby d9_93) rfl ?_
                  exact k
                clear pre18
                by_cases c22 : w16_b = (vla85_77_7 q2 w10_b w11_b w12_b w13_b w14_b w15_b w16_b w17_b)
                · skip
                  have hin23 : ¬ ((84 : Int32) < 0 ∨ cl1.slots.size ≤ ((84 : Int32)).toNatClampNeg) := inb_of S1 ⟨by decide, by decide⟩
                  have pre24 : ∀ t, Steps p.tables e below (s₁.setTop (mkF m 106 #[.val (.ref o0), .val (.int (77 : Int32)), .val (.long q2), .second] [(.int ((q2.toInt32).toInt8.toInt32)), (.int w17_b)])) t → Steps p.tables e below (s₁.setTop (entryFrame m #[(.ref o0), (.int (77 : Int32)), (.long q2)] 4)) t := by
                    intro t k
                    refine pre21 t ?_
                    show Steps p.tables e below (s₁.setTop (mkF m 94 #[.val (.ref o0), .val (.int (77 : Int32)), .val (.long q2), .second] [(.int (((XT.ushrL q2 (8 : Int32)).toInt32).toInt8.toInt32)), (.int w16_b)])) _
                    refine XS.icmpNo X0.here hx rfl (hb hby d9_94) rfl (XT.ii_ne_f c22) ?_
                    show Steps p.tables e below (s₁.setTop (mkF m 97 #[.val (.ref o0), .val (.int (77 : Int32)), .val (.long q2), .second] [])) _
                    refine XS.aloadN X0.here hx rfl (hb hby d9_97) rfl rfl ?_
                    show Steps p.tables e below (s₁.setTop (mkF m 98 #[.val (.ref o0), .val (.int (77 : Int32)), .val (.long q2), .second] [(.ref o0)])) _
                    refine XS.iloadN X0.here hx rfl (hb hby d9_98) rfl ?_
                    show Steps p.tables e below (s₁.setTop (mkF m 99 #[.val (.ref o0), .val (.int (77 : Int32)), .val (.long q2), .second] [(.int (77 : Int32)), (.ref o0)])) _
                    refine XT.bipushV X0.here hx rfl (7 : Int32) (hb hby d9_99) (by decide) ?_
                    show Steps p.tables e below (s₁.setTop (mkF m 101 #[.val (.ref o0), .val (.int (77 : Int32)), .val (.long q2), .second] [(.int (7 : Int32)), (.int (77 : Int32)), (.ref o0)])) _
                    refine XS.iadd X0.here hx rfl (hb hby d9_101) rfl ?_
                    show Steps p.tables e below (s₁.setTop (mkF m 102 #[.val (.ref o0), .val (.int (77 : Int32)), .val (.long q2), .second] [(.int (84 : Int32)), (.ref o0)])) _
                    refine X0.baloadBytes hx (j := (84 : Int32)) (v := (.int w17_b)) (by rw [e0]; exact Ar1.1) (State.isArrayOf_alike hZ.alike Ar1.2.1) Ar1.2.2 hin23 (Has.at Ha1 hin23 rfl) (g := (mkF m 102 #[.val (.ref o0), .val (.int (77 : Int32)), .val (.long q2), .second] [(.int (84 : Int32)), (.ref o0)])) rfl rfl (hb hby d9_102) _ ?_
                    show Steps p.tables e below (s₁.setTop (mkF m 103 #[.val (.ref o0), .val (.int (77 : Int32)), .val (.long q2), .second] [(.int w17_b)])) _
                    refine XT.lloadN X0.here hx rfl (hb hby d9_103) rfl ?_
                    show Steps p.tables e below (s₁.setTop (mkF m 104 #[.val (.ref o0), .val (.int (77 : Int32)), .val (.long q2), .second] [(.long q2), (.int w17_b)])) _
                    refine XT.l2i X0.here hx rfl (hb hby d9_104) rfl ?_
                    show Steps p.tables e below (s₁.setTop (mkF m 105 #[.val (.ref o0), .val (.int (77 : Int32)), .val (.long q2), .second] [(.int (q2.toInt32)), (.int w17_b)])) _
                    refine XT.i2b X0.here hx rfl (hb hby d9_105) rfl ?_
                    exact k
                  clear pre21
                  by_cases c25 : w17_b = (vla85_77_8 q2 w10_b w11_b w12_b w13_b w14_b w15_b w16_b w17_b)
                  · skip
                    rw [show (vla85_77_9 q2 w10_b w11_b w12_b w13_b w14_b w15_b w16_b w17_b) = (1 : Int32) from ((((((((if_pos c4).trans (if_pos c7)).trans (if_pos c10)).trans (if_pos c13)).trans (if_pos c16)).trans (if_pos c19)).trans (if_pos c22)).trans (if_pos c25))] at k
                    refine pre24 t ?_
                    show Steps p.tables e below (s₁.setTop (mkF m 106 #[.val (.ref o0), .val (.int (77 : Int32)), .val (.long q2), .second] [(.int ((q2.toInt32).toInt8.toInt32)), (.int w17_b)])) _
                    refine XS.icmpNo X0.here hx rfl (hb hby d9_106) rfl (XT.ii_ne_f c25) ?_
                    show Steps p.tables e below (s₁.setTop (mkF m 109 #[.val (.ref o0), .val (.int (77 : Int32)), .val (.long q2), .second] [])) _
                    refine XT.iconstV X0.here hx rfl (1 : Int32) (hb hby d9_109) (by decide) ?_
                    show Steps p.tables e below (s₁.setTop (mkF m 110 #[.val (.ref o0), .val (.int (77 : Int32)), .val (.long q2), .second] [(.int (1 : Int32))])) _
                    refine XS.goto X0.here hx rfl (pc0 := 110) (pc' := 114) rfl (hb hby d9_110) (by decide) (by decide) ?_
                    exact k
                  · skip
                    rw [show (vla85_77_9 q2 w10_b w11_b w12_b w13_b w14_b w15_b w16_b w17_b) = (0 : Int32) from ((((((((if_pos c4).trans (if_pos c7)).trans (if_pos c10)).trans (if_pos c13)).trans (if_pos c16)).trans (if_pos c19)).trans (if_pos c22)).trans (if_neg c25))] at k
                    refine pre24 t ?_
                    show Steps p.tables e below (s₁.setTop (mkF m 106 #[.val (.ref o0), .val (.int (77 : Int32)), .val (.long q2), .second] [(.int ((q2.toInt32).toInt8.toInt32)), (.int w17_b)])) _
                    refine XS.icmpYes X0.here hx rfl (pc0 := 106) (pc' := 113) rfl (hb hby d9_106) rfl (XT.ii_ne_t c25) (by decide) (by decide) ?_
                    show Steps p.tables e below (s₁.setTop (mkF m 113 #[.val (.ref o0), .val (.int (77 : Int32)), .val (.long q2), .second] [])) _
                    refine XT.iconstV X0.here hx rfl (0 : Int32) (hb hby d9_113) (by decide) ?_
                    exact k
                · skip
                  rw [show (vla85_77_9 q2 w10_b w11_b w12_b w13_b w14_b w15_b w16_b w17_b) = (0 : Int32) from (((((((if_pos c4).trans (if_pos c7)).trans (if_pos c10)).trans (if_pos c13)).trans (if_pos c16)).trans (if_pos c19)).trans (if_neg c22))] at k
                  refine pre21 t ?_
                  show Steps p.tables e below (s₁.setTop (mkF m 94 #[.val (.ref o0), .val (.int (77 : Int32)), .val (.long q2), .second] [(.int (((XT.ushrL q2 (8 : Int32)).toInt32).toInt8.toInt32)), (.int w16_b)])) _
                  refine XS.icmpYes X0.here hx rfl (pc0 := 94) (pc' := 113) rfl (hb hby d9_94) rfl (XT.ii_ne_t c22) (by decide) (by decide) ?_
                  show Steps p.tables e below (s₁.setTop (mkF m 113 #[.val (.ref o0), .val (.int (77 : Int32)), .val (.long q2), .second] [])) _
                  refine XT.iconstV X0.here hx rfl (0 : Int32) (hb hby d9_113) (by decide) ?_
                  exact k
              · skip
                rw [show (vla85_77_9 q2 w10_b w11_b w12_b w13_b w14_b w15_b w16_b w17_b) = (0 : Int32) from ((((((if_pos c4).trans (if_pos c7)).trans (if_pos c10)).trans (if_pos c13)).trans (if_pos c16)).trans (if_neg c19))] at k
                refine pre18 t ?_
                show Steps p.tables e below (s₁.setTop (mkF m 79 #[.val (.ref o0), .val (.int (77 : Int32)), .val (.long q2), .second] [(.int (((XT.ushrL q2 (16 : Int32)).toInt32).toInt8.toInt32)), (.int w15_b)])) _
                refine XS.icmpYes X0.here hx rfl (pc0 := 79) (pc' := 113) rfl (hb hby d9_79) rfl (XT.ii_ne_t c19) (by decide) (by decide) ?_
                show Steps p.tables e below (s₁.setTop (mkF m 113 #[.val (.ref o0), .val (.int (77 : Int32)), .val (.long q2), .second] [])) _
                refine XT.iconstV X0.here hx rfl (0 : Int32) (hb hby d9_113) (by decide) ?_
                exact k
            · skip
              rw [show (vla85_77_9 q2 w10_b w11_b w12_b w13_b w14_b w15_b w16_b w17_b) = (0 : Int32) from (((((if_pos c4).trans (if_pos c7)).trans (if_pos c10)).trans (if_pos c13)).trans (if_neg c16))] at k
              refine pre15 t ?_
              show Steps p.tables e below (s₁.setTop (mkF m 65 #[.val (.ref o0), .val (.int (77 : Int32)), .val (.long q2), .second] [(.int (((XT.ushrL q2 (24 : Int32)).toInt32).toInt8.toInt32)), (.int w14_b)])) _
              refine XS.icmpYes X0.here hx rfl (pc0 := 65) (pc' := 113) rfl (hb hby d9_65) rfl (XT.ii_ne_t c16) (by decide) (by decide) ?_
              show Steps p.tables e below (s₁.setTop (mkF m 113 #[.val (.ref o0), .val (.int (77 : Int32)), .val (.long q2), .second] [])) _
              refine XT.iconstV X0.here hx rfl (0 : Int32) (hb hby d9_113) (by decide) ?_
              exact k
          · skip
            rw [show (vla85_77_9 q2 w10_b w11_b w12_b w13_b w14_b w15_b w16_b w17_b) = (0 : Int32) from ((((if_pos c4).trans (if_pos c7)).trans (if_pos c10)).trans (if_neg c13))] at k
            refine pre12 t ?_
            show Steps p.tables e below (s₁.setTop (mkF m 51 #[.val (.ref o0), .val (.int (77 : Int32)), .val (.long q2), .second] [(.int (((XT.ushrL q2 (32 : Int32)).toInt32).toInt8.toInt32)), (.int w13_b)])) _
            refine XS.icmpYes X0.here hx rfl (pc0 := 51) (pc' := 113) rfl (hb hby d9_51) rfl (XT.ii_ne_t c13) (by decide) (by decide) ?_
            show Steps p.tables e below (s₁.setTop (mkF m 113 #[.val (.ref o0), .val (.int (77 : Int32)), .val (.long q2), .second] [])) _
            refine XT.iconstV X0.here hx rfl (0 : Int32) (hb hby d9_113) (by decide) ?_
            exact k
        · skip
          rw [show (vla85_77_9 q2 w10_b w11_b w12_b w13_b w14_b w15_b w16_b w17_b) = (0 : Int32) from (((if_pos c4).trans (if_pos c7)).trans (if_neg c10))] at k
          refine pre9 t ?_
          show Steps p.tables e below (s₁.setTop (mkF m 37 #[.val (.ref o0), .val (.int (77 : Int32)), .val (.long q2), .second] [(.int (((XT.ushrL q2 (40 : Int32)).toInt32).toInt8.toInt32)), (.int w12_b)])) _
          refine XS.icmpYes X0.here hx rfl (pc0 := 37) (pc' := 113) rfl (hb hby d9_37) rfl (XT.ii_ne_t c10) (by decide) (by decide) ?_
          show Steps p.tables e below (s₁.setTop (mkF m 113 #[.val (.ref o0), .val (.int (77 : Int32)), .val (.long q2), .second] [])) _
          refine XT.iconstV X0.here hx rfl (0 : Int32) (hb hby d9_113) (by decide) ?_
          exact k
      · skip
        rw [show (vla85_77_9 q2 w10_b w11_b w12_b w13_b w14_b w15_b w16_b w17_b) = (0 : Int32) from ((if_pos c4).trans (if_neg c7))] at k
        refine pre6 t ?_
        show Steps p.tables e below (s₁.setTop (mkF m 23 #[.val (.ref o0), .val (.int (77 : Int32)), .val (.long q2), .second] [(.int (((XT.ushrL q2 (48 : Int32)).toInt32).toInt8.toInt32)), (.int w11_b)])) _
        refine XS.icmpYes X0.here hx rfl (pc0 := 23) (pc' := 113) rfl (hb hby d9_23) rfl (XT.ii_ne_t c7) (by decide) (by decide) ?_
        show Steps p.tables e below (s₁.setTop (mkF m 113 #[.val (.ref o0), .val (.int (77 : Int32)), .val (.long q2), .second] [])) _
        refine XT.iconstV X0.here hx rfl (0 : Int32) (hb hby d9_113) (by decide) ?_
        exact k
    · skip
      rw [show (vla85_77_9 q2 w10_b w11_b w12_b w13_b w14_b w15_b w16_b w17_b) = (0 : Int32) from (if_neg c4)] at k
      refine pre3 t ?_
      show Steps p.tables e below (s₁.setTop (mkF m 9 #[.val (.ref o0), .val (.int (77 : Int32)), .val (.long q2), .second] [(.int (((XT.ushrL q2 (56 : Int32)).toInt32).toInt8.toInt32)), (.int w10_b)])) _
      refine XS.icmpYes X0.here hx rfl (pc0 := 9) (pc' := 113) rfl (hb hby d9_9) rfl (XT.ii_ne_t c4) (by decide) (by decide) ?_
      show Steps p.tables e below (s₁.setTop (mkF m 113 #[.val (.ref o0), .val (.int (77 : Int32)), .val (.long q2), .second] [])) _
      refine XT.iconstV X0.here hx rfl (0 : Int32) (hb hby d9_113) (by decide) ?_
      exact k
  obtain ⟨fs, hr, hrun, hended, hW, hsame⟩ := X0.leave (v := some (.int (nar .boolean (vla85_77_9 q2 w10_b w11_b w12_b w13_b w14_b w15_b w16_b w17_b)))) (fun h => by rw [Bd.returns] at h; cases h) hlk
  refine ⟨_, _, pre26 _ ?_, hrun, hended, _, _, rfl, ?_, ⟨_, rfl⟩, hW, hsame.mono (by decide) (by decide)⟩
  · skip
    show Steps p.tables e below (s₁.setTop (mkF m 114 #[.val (.ref o0), .val (.int (77 : Int32)), .val (.long q2), .second] [(.int (vla85_77_9 q2 w10_b w11_b w12_b w13_b w14_b w15_b w16_b w17_b))])) _
    exact retN X0 hx (t := .boolean) Bd.returns (by simp) (hb hby d9_114) hr
  · skip
    show Qla85_77 Z o0 q2 u0 u1 u2 u3 u4 u5 u6 u7 u8 u9 u10 u11 u12 u13 u14 u15 u16 u17 u18 u19 u20 u21 u22 u23 u24 u25 u26 u27 u28 u29 u30 u31 u32 u33 u34 u35 u36 u37 u38 u39 u40 u41 u42 u43 u44 u45 u46 u47 u48 u49 u50 u51 u52 u53 u54 u55 u56 u57 u58 u59 u60 u61 u62 u63 u64 u65 u66 u67 u68 u69 u70 u71 u72 u73 u74 u75 u76 w10_b w11_b w12_b w13_b w14_b w15_b w16_b w17_b kA h0 n0 _ s₁.heap _
    rw [e0]
    exact ⟨N0, rfl, rfl⟩
theorem pd___V : parseMethodDescriptor "()V" = some ⟨[], none⟩ := by decide +kernel
theorem pd____B : parseMethodDescriptor "()[B" = some ⟨[], some (.array .byte)⟩ := by decide +kernel
theorem pd_h860293 : parseMethodDescriptor "(Z)Lcom/example/dispatch_by_catalog/dispatchbycatalog/store/RecordWriter;" = some ⟨[.boolean], some (.object "com/example/dispatch_by_catalog/dispatchbycatalog/store/RecordWriter")⟩ := by decide +kernel
theorem pd___BIJ_Z : parseMethodDescriptor "([BIJ)Z" = some ⟨[(.array .byte), .int, .long], some .boolean⟩ := by decide +kernel
theorem pd_h705318 : parseMethodDescriptor "([B)Lcom/example/dispatch_by_catalog/dispatchbycatalog/store/RecordWriter;" = some ⟨[(.array .byte)], some (.object "com/example/dispatch_by_catalog/dispatchbycatalog/store/RecordWriter")⟩ := by decide +kernel
theorem ef_0 (m : MethodId) (q0 : Int64) (q1 : Int64) (p2 : Int32) (p3 : Int32) : entryFrame m #[(.long q0), (.long q1), (.int p2), (.int p3)] maxLocals = mkF m 0 #[.val (.long q0), .second, .val (.long q1), .second, .val (.int p2), .val (.int p3), .unset, .unset, .unset, .unset, .unset, .unset, .unset, .unset] [] := by first | (simp [entryFrame, mkF, argsToLocals, Value.category, maxLocals]; done) | rfl
def v0_1 (q0 : Int64) (q1 : Int64) (p2 : Int32) (p3 : Int32) : Int32 := (p2 &&& (1 : Int32))
def v0_2 (q0 : Int64) (q1 : Int64) (p2 : Int32) (p3 : Int32) : Int32 := (if (v0_1 q0 q1 p2 p3) = (0 : Int32) then (0 : Int32) else (1 : Int32))
def v0_3 (q0 : Int64) (q1 : Int64) (p2 : Int32) (p3 : Int32) : Int32 := (p2 &&& (2 : Int32))
def v0_4 (q0 : Int64) (q1 : Int64) (p2 : Int32) (p3 : Int32) : Int32 := (p3.toInt8.toInt32)
def v0_5 (q0 : Int64) (q1 : Int64) (p2 : Int32) (p3 : Int32) : Int32 := ((XT.ushr p3 (8 : Int32)).toInt8.toInt32)
def v0_6 (q0 : Int64) (q1 : Int64) (p2 : Int32) (p3 : Int32) : Int32 := (fla17_0 q0 (nar .byte (vnu0_1 q0)) (nar .byte (vnu0_2 q0)) (nar .byte (vnu0_3 q0)) (nar .byte (vnu0_4 q0)) (nar .byte (vnu0_5 q0)) (nar .byte (vnu0_6 q0)) (nar .byte (vnu0_7 q0)) (nar .byte (vnu0_8 q0)))
def v0_7 (q0 : Int64) (q1 : Int64) (p2 : Int32) (p3 : Int32) : Int32 := (if (v0_2 q0 q1 p2 p3) = (0 : Int32) then (0 : Int32) else (1 : Int32))
def v0_8 (q0 : Int64) (q1 : Int64) (p2 : Int32) (p3 : Int32) : Int32 := (nar .byte (v8_2 (v0_2 q0 q1 p2 p3)))
def v0_9 (q0 : Int64) (q1 : Int64) (p2 : Int32) (p3 : Int32) : Int32 := (fla17_9 q1 (nar .byte (vnu9_1 q1)) (nar .byte (vnu9_2 q1)) (nar .byte (vnu9_3 q1)) (nar .byte (vnu9_4 q1)) (nar .byte (vnu9_5 q1)) (nar .byte (vnu9_6 q1)) (nar .byte (vnu9_7 q1)) (nar .byte (vnu9_8 q1)))
def v0_10 (q0 : Int64) (q1 : Int64) (p2 : Int32) (p3 : Int32) : Int32 := (((nar .byte (vnu0_1 q0)) ^^^ (-1 : Int32)).toInt8.toInt32)
def v0_11 (q0 : Int64) (q1 : Int64) (p2 : Int32) (p3 : Int32) : Int32 := (((nar .byte (vnu9_8 q1)) ^^^ (-1 : Int32)).toInt8.toInt32)
def v0_12 (q0 : Int64) (q1 : Int64) (p2 : Int32) (p3 : Int32) : Int32 := (fla17_0 q0 (nar .byte (vnu0_1 q0)) (nar .byte (vnu0_2 q0)) (nar .byte (vnu0_3 q0)) (nar .byte (vnu0_4 q0)) (nar .byte (vnu0_5 q0)) (nar .byte (vnu0_6 q0)) (nar .byte (vnu0_7 q0)) (nar .byte (vnu0_8 q0)))
def v0_13 (q0 : Int64) (q1 : Int64) (p2 : Int32) (p3 : Int32) : Int32 := (fla17_9 q1 (nar .byte (vnu9_1 q1)) (nar .byte (vnu9_2 q1)) (nar .byte (vnu9_3 q1)) (nar .byte (vnu9_4 q1)) (nar .byte (vnu9_5 q1)) (nar .byte (vnu9_6 q1)) (nar .byte (vnu9_7 q1)) (nar .byte (vnu9_8 q1)))
def v0_14 (q0 : Int64) (q1 : Int64) (p2 : Int32) (p3 : Int32) : Int32 := (if (v0_12 q0 q1 p2 p3) = (0 : Int32) then (0 : Int32) else (if (v0_13 q0 q1 p2 p3) = (0 : Int32) then (0 : Int32) else (1 : Int32)))
def v0_15 (q0 : Int64) (q1 : Int64) (p2 : Int32) (p3 : Int32) : Int32 := (p3.toInt8.toInt32)
def v0_16 (q0 : Int64) (q1 : Int64) (p2 : Int32) (p3 : Int32) : Int32 := ((XT.ushr p3 (8 : Int32)).toInt8.toInt32)
def v0_17 (q0 : Int64) (q1 : Int64) (p2 : Int32) (p3 : Int32) : Int32 := (fla85_0 q0 (nar .byte (vnu0_1 q0)) (nar .byte (vnu0_2 q0)) (nar .byte (vnu0_3 q0)) (nar .byte (vnu0_4 q0)) (nar .byte (vnu0_5 q0)) (nar .byte (vnu0_6 q0)) (nar .byte (vnu0_7 q0)) (nar .byte (vnu0_8 q0)))
def v0_18 (q0 : Int64) (q1 : Int64) (p2 : Int32) (p3 : Int32) : Int32 := (if (v0_2 q0 q1 p2 p3) = (0 : Int32) then (0 : Int32) else (1 : Int32))
def v0_19 (q0 : Int64) (q1 : Int64) (p2 : Int32) (p3 : Int32) : Int32 := (nar .byte (v8_2 (v0_2 q0 q1 p2 p3)))
def v0_20 (q0 : Int64) (q1 : Int64) (p2 : Int32) (p3 : Int32) : Int32 := (fla85_9 (60 : Int64) (nar .byte (vnu9_1 v10_1)) (nar .byte (vnu9_2 v10_1)) (nar .byte (vnu9_3 v10_1)) (nar .byte (vnu9_4 v10_1)) (nar .byte (vnu9_5 v10_1)) (nar .byte (vnu9_6 v10_1)) (nar .byte (vnu9_7 v10_1)) (nar .byte (vnu9_8 v10_1)))
def v0_21 (q0 : Int64) (q1 : Int64) (p2 : Int32) (p3 : Int32) : Int32 := (nar .byte (v0_15 q0 q1 p2 p3))
def v0_22 (q0 : Int64) (q1 : Int64) (p2 : Int32) (p3 : Int32) : Int32 := (p3.toInt8.toInt32)
def v0_23 (q0 : Int64) (q1 : Int64) (p2 : Int32) (p3 : Int32) : Int32 := (nar .byte (v0_16 q0 q1 p2 p3))
def v0_24 (q0 : Int64) (q1 : Int64) (p2 : Int32) (p3 : Int32) : Int32 := ((XT.ushr p3 (8 : Int32)).toInt8.toInt32)
def v0_25 (q0 : Int64) (q1 : Int64) (p2 : Int32) (p3 : Int32) : Int32 := (fla85_77 q1 (nar .byte (vnu77_1 q1)) (nar .byte (vnu77_2 q1)) (nar .byte (vnu77_3 q1)) (nar .byte (vnu77_4 q1)) (nar .byte (vnu77_5 q1)) (nar .byte (vnu77_6 q1)) (nar .byte (vnu77_7 q1)) (nar .byte (vnu77_8 q1)))
def v0_26 (q0 : Int64) (q1 : Int64) (p2 : Int32) (p3 : Int32) : Int32 := (((nar .byte (vnu0_1 q0)) ^^^ (-1 : Int32)).toInt8.toInt32)
def v0_27 (q0 : Int64) (q1 : Int64) (p2 : Int32) (p3 : Int32) : Int32 := (((nar .byte (vnu77_8 q1)) ^^^ (-1 : Int32)).toInt8.toInt32)
def v0_28 (q0 : Int64) (q1 : Int64) (p2 : Int32) (p3 : Int32) : Int32 := (fla85_0 q0 (nar .byte (vnu0_1 q0)) (nar .byte (vnu0_2 q0)) (nar .byte (vnu0_3 q0)) (nar .byte (vnu0_4 q0)) (nar .byte (vnu0_5 q0)) (nar .byte (vnu0_6 q0)) (nar .byte (vnu0_7 q0)) (nar .byte (vnu0_8 q0)))
def v0_29 (q0 : Int64) (q1 : Int64) (p2 : Int32) (p3 : Int32) : Int32 := (fla85_77 q1 (nar .byte (vnu77_1 q1)) (nar .byte (vnu77_2 q1)) (nar .byte (vnu77_3 q1)) (nar .byte (vnu77_4 q1)) (nar .byte (vnu77_5 q1)) (nar .byte (vnu77_6 q1)) (nar .byte (vnu77_7 q1)) (nar .byte (vnu77_8 q1)))
def v0_30 (q0 : Int64) (q1 : Int64) (p2 : Int32) (p3 : Int32) : Int32 := (if (v0_28 q0 q1 p2 p3) = (0 : Int32) then (0 : Int32) else (if (v0_29 q0 q1 p2 p3) = (0 : Int32) then (0 : Int32) else (1 : Int32)))
/-own-/
theorem own_nb (x : Int32) : nar .byte (x.toInt8.toInt32) = x.toInt8.toInt32 := by
  show (x.toInt8.toInt32).toInt8.toInt32 = _
  rw [Int8.toInt8_toInt32]
theorem own_u0 (q : Int64) : XT.ushrL q (0 : Int32) = q := by
  apply Int64.toBitVec_inj.mp
  show q.toBitVec >>> 0 = q.toBitVec
  simp
theorem own_nb8 (q : Int64) : nar .byte ((((XT.ushrL q (0 : Int32)).toInt32).toInt8.toInt32)) = ((q.toInt32).toInt8.toInt32) := by
  rw [own_nb, own_u0]
theorem own_la17_0 (q : Int64) (b0 b1 b2 b3 b4 b5 b6 b7 : Int32) (h0 : b0 = (((XT.ushrL q (56 : Int32)).toInt32).toInt8.toInt32)) (h1 : b1 = (((XT.ushrL q (48 : Int32)).toInt32).toInt8.toInt32)) (h2 : b2 = (((XT.ushrL q (40 : Int32)).toInt32).toInt8.toInt32)) (h3 : b3 = (((XT.ushrL q (32 : Int32)).toInt32).toInt8.toInt32)) (h4 : b4 = (((XT.ushrL q (24 : Int32)).toInt32).toInt8.toInt32)) (h5 : b5 = (((XT.ushrL q (16 : Int32)).toInt32).toInt8.toInt32)) (h6 : b6 = (((XT.ushrL q (8 : Int32)).toInt32).toInt8.toInt32)) (h7 : b7 = ((q.toInt32).toInt8.toInt32)) : fla17_0 q b0 b1 b2 b3 b4 b5 b6 b7 = 1 := by
  have k : vla17_0_9 q b0 b1 b2 b3 b4 b5 b6 b7 = 1 := ((if_pos h0).trans ((if_pos h1).trans ((if_pos h2).trans ((if_pos h3).trans ((if_pos h4).trans ((if_pos h5).trans ((if_pos h6).trans (if_pos h7))))))))
  show nar .boolean (vla17_0_9 q b0 b1 b2 b3 b4 b5 b6 b7) = 1
  rw [k]; decide
theorem own_la17_9 (q : Int64) (b0 b1 b2 b3 b4 b5 b6 b7 : Int32) (h0 : b0 = (((XT.ushrL q (56 : Int32)).toInt32).toInt8.toInt32)) (h1 : b1 = (((XT.ushrL q (48 : Int32)).toInt32).toInt8.toInt32)) (h2 : b2 = (((XT.ushrL q (40 : Int32)).toInt32).toInt8.toInt32)) (h3 : b3 = (((XT.ushrL q (32 : Int32)).toInt32).toInt8.toInt32)) (h4 : b4 = (((XT.ushrL q (24 : Int32)).toInt32).toInt8.toInt32)) (h5 : b5 = (((XT.ushrL q (16 : Int32)).toInt32).toInt8.toInt32)) (h6 : b6 = (((XT.ushrL q (8 : Int32)).toInt32).toInt8.toInt32)) (h7 : b7 = ((q.toInt32).toInt8.toInt32)) : fla17_9 q b0 b1 b2 b3 b4 b5 b6 b7 = 1 := by
  have k : vla17_9_9 q b0 b1 b2 b3 b4 b5 b6 b7 = 1 := ((if_pos h0).trans ((if_pos h1).trans ((if_pos h2).trans ((if_pos h3).trans ((if_pos h4).trans ((if_pos h5).trans ((if_pos h6).trans (if_pos h7))))))))
  show nar .boolean (vla17_9_9 q b0 b1 b2 b3 b4 b5 b6 b7) = 1
  rw [k]; decide
theorem own_la85_0 (q : Int64) (b0 b1 b2 b3 b4 b5 b6 b7 : Int32) (h0 : b0 = (((XT.ushrL q (56 : Int32)).toInt32).toInt8.toInt32)) (h1 : b1 = (((XT.ushrL q (48 : Int32)).toInt32).toInt8.toInt32)) (h2 : b2 = (((XT.ushrL q (40 : Int32)).toInt32).toInt8.toInt32)) (h3 : b3 = (((XT.ushrL q (32 : Int32)).toInt32).toInt8.toInt32)) (h4 : b4 = (((XT.ushrL q (24 : Int32)).toInt32).toInt8.toInt32)) (h5 : b5 = (((XT.ushrL q (16 : Int32)).toInt32).toInt8.toInt32)) (h6 : b6 = (((XT.ushrL q (8 : Int32)).toInt32).toInt8.toInt32)) (h7 : b7 = ((q.toInt32).toInt8.toInt32)) : fla85_0 q b0 b1 b2 b3 b4 b5 b6 b7 = 1 := by
  have k : vla85_0_9 q b0 b1 b2 b3 b4 b5 b6 b7 = 1 := ((if_pos h0).trans ((if_pos h1).trans ((if_pos h2).trans ((if_pos h3).trans ((if_pos h4).trans ((if_pos h5).trans ((if_pos h6).trans (if_pos h7))))))))
  show nar .boolean (vla85_0_9 q b0 b1 b2 b3 b4 b5 b6 b7) = 1
  rw [k]; decide
theorem own_la85_9 (q : Int64) (b0 b1 b2 b3 b4 b5 b6 b7 : Int32) (h0 : b0 = (((XT.ushrL q (56 : Int32)).toInt32).toInt8.toInt32)) (h1 : b1 = (((XT.ushrL q (48 : Int32)).toInt32).toInt8.toInt32)) (h2 : b2 = (((XT.ushrL q (40 : Int32)).toInt32).toInt8.toInt32)) (h3 : b3 = (((XT.ushrL q (32 : Int32)).toInt32).toInt8.toInt32)) (h4 : b4 = (((XT.ushrL q (24 : Int32)).toInt32).toInt8.toInt32)) (h5 : b5 = (((XT.ushrL q (16 : Int32)).toInt32).toInt8.toInt32)) (h6 : b6 = (((XT.ushrL q (8 : Int32)).toInt32).toInt8.toInt32)) (h7 : b7 = ((q.toInt32).toInt8.toInt32)) : fla85_9 q b0 b1 b2 b3 b4 b5 b6 b7 = 1 := by
  have k : vla85_9_9 q b0 b1 b2 b3 b4 b5 b6 b7 = 1 := ((if_pos h0).trans ((if_pos h1).trans ((if_pos h2).trans ((if_pos h3).trans ((if_pos h4).trans ((if_pos h5).trans ((if_pos h6).trans (if_pos h7))))))))
  show nar .boolean (vla85_9_9 q b0 b1 b2 b3 b4 b5 b6 b7) = 1
  rw [k]; decide
theorem own_la85_77 (q : Int64) (b0 b1 b2 b3 b4 b5 b6 b7 : Int32) (h0 : b0 = (((XT.ushrL q (56 : Int32)).toInt32).toInt8.toInt32)) (h1 : b1 = (((XT.ushrL q (48 : Int32)).toInt32).toInt8.toInt32)) (h2 : b2 = (((XT.ushrL q (40 : Int32)).toInt32).toInt8.toInt32)) (h3 : b3 = (((XT.ushrL q (32 : Int32)).toInt32).toInt8.toInt32)) (h4 : b4 = (((XT.ushrL q (24 : Int32)).toInt32).toInt8.toInt32)) (h5 : b5 = (((XT.ushrL q (16 : Int32)).toInt32).toInt8.toInt32)) (h6 : b6 = (((XT.ushrL q (8 : Int32)).toInt32).toInt8.toInt32)) (h7 : b7 = ((q.toInt32).toInt8.toInt32)) : fla85_77 q b0 b1 b2 b3 b4 b5 b6 b7 = 1 := by
  have k : vla85_77_9 q b0 b1 b2 b3 b4 b5 b6 b7 = 1 := ((if_pos h0).trans ((if_pos h1).trans ((if_pos h2).trans ((if_pos h3).trans ((if_pos h4).trans ((if_pos h5).trans ((if_pos h6).trans (if_pos h7))))))))
  show nar .boolean (vla85_77_9 q b0 b1 b2 b3 b4 b5 b6 b7) = 1
  rw [k]; decide
theorem own_e_v0_6 (q0 q1 : Int64) (p2 p3 : Int32) : v0_6 q0 q1 p2 p3 = 1 := own_la17_0 q0 _ _ _ _ _ _ _ _ (own_nb _) (own_nb _) (own_nb _) (own_nb _) (own_nb _) (own_nb _) (own_nb _) (own_nb8 q0)
theorem own_e_v0_9 (q0 q1 : Int64) (p2 p3 : Int32) : v0_9 q0 q1 p2 p3 = 1 := own_la17_9 q1 _ _ _ _ _ _ _ _ (own_nb _) (own_nb _) (own_nb _) (own_nb _) (own_nb _) (own_nb _) (own_nb _) (own_nb8 q1)
theorem own_e_v0_12 (q0 q1 : Int64) (p2 p3 : Int32) : v0_12 q0 q1 p2 p3 = 1 := own_la17_0 q0 _ _ _ _ _ _ _ _ (own_nb _) (own_nb _) (own_nb _) (own_nb _) (own_nb _) (own_nb _) (own_nb _) (own_nb8 q0)
theorem own_e_v0_13 (q0 q1 : Int64) (p2 p3 : Int32) : v0_13 q0 q1 p2 p3 = 1 := own_la17_9 q1 _ _ _ _ _ _ _ _ (own_nb _) (own_nb _) (own_nb _) (own_nb _) (own_nb _) (own_nb _) (own_nb _) (own_nb8 q1)
theorem own_e_v0_17 (q0 q1 : Int64) (p2 p3 : Int32) : v0_17 q0 q1 p2 p3 = 1 := own_la85_0 q0 _ _ _ _ _ _ _ _ (own_nb _) (own_nb _) (own_nb _) (own_nb _) (own_nb _) (own_nb _) (own_nb _) (own_nb8 q0)
theorem own_e_v0_25 (q0 q1 : Int64) (p2 p3 : Int32) : v0_25 q0 q1 p2 p3 = 1 := own_la85_77 q1 _ _ _ _ _ _ _ _ (own_nb _) (own_nb _) (own_nb _) (own_nb _) (own_nb _) (own_nb _) (own_nb _) (own_nb8 q1)
theorem own_e_v0_28 (q0 q1 : Int64) (p2 p3 : Int32) : v0_28 q0 q1 p2 p3 = 1 := own_la85_0 q0 _ _ _ _ _ _ _ _ (own_nb _) (own_nb _) (own_nb _) (own_nb _) (own_nb _) (own_nb _) (own_nb _) (own_nb8 q0)
theorem own_e_v0_29 (q0 q1 : Int64) (p2 p3 : Int32) : v0_29 q0 q1 p2 p3 = 1 := own_la85_77 q1 _ _ _ _ _ _ _ _ (own_nb _) (own_nb _) (own_nb _) (own_nb _) (own_nb _) (own_nb _) (own_nb _) (own_nb8 q1)
theorem own_60 : v10_1 = (60 : Int64) := by decide
theorem own_e_v0_20 (q0 q1 : Int64) (p2 p3 : Int32) : v0_20 q0 q1 p2 p3 = 1 := by
  unfold v0_20
  rw [own_60]
  exact own_la85_9 60 _ _ _ _ _ _ _ _ (own_nb _) (own_nb _) (own_nb _) (own_nb _) (own_nb _) (own_nb _) (own_nb _) (own_nb8 60)
theorem own_v0_6 (q0 q1 : Int64) (p2 p3 : Int32) : ¬ (v0_6 q0 q1 p2 p3 = (0 : Int32)) := by rw [own_e_v0_6]; decide
theorem own_v0_9 (q0 q1 : Int64) (p2 p3 : Int32) : ¬ (v0_9 q0 q1 p2 p3 = (0 : Int32)) := by rw [own_e_v0_9]; decide
theorem own_v0_17 (q0 q1 : Int64) (p2 p3 : Int32) : ¬ (v0_17 q0 q1 p2 p3 = (0 : Int32)) := by rw [own_e_v0_17]; decide
theorem own_v0_20 (q0 q1 : Int64) (p2 p3 : Int32) : ¬ (v0_20 q0 q1 p2 p3 = (0 : Int32)) := by rw [own_e_v0_20]; decide
theorem own_v0_25 (q0 q1 : Int64) (p2 p3 : Int32) : ¬ (v0_25 q0 q1 p2 p3 = (0 : Int32)) := by rw [own_e_v0_25]; decide
theorem own_v0_8 (q0 q1 : Int64) (p2 p3 : Int32) : v0_8 q0 q1 p2 p3 = v0_7 q0 q1 p2 p3 := by
  unfold v0_8 v0_7 v8_2 v8_1
  by_cases h : v0_2 q0 q1 p2 p3 = 0
  · rw [if_pos h]; decide
  · rw [if_neg h]; decide
theorem own_v0_19 (q0 q1 : Int64) (p2 p3 : Int32) : v0_19 q0 q1 p2 p3 = v0_18 q0 q1 p2 p3 := by
  unfold v0_19 v0_18 v8_2 v8_1
  by_cases h : v0_2 q0 q1 p2 p3 = 0
  · rw [if_pos h]; decide
  · rw [if_neg h]; decide
theorem own_v0_21 (q0 q1 : Int64) (p2 p3 : Int32) : v0_21 q0 q1 p2 p3 = v0_22 q0 q1 p2 p3 := own_nb _
theorem own_v0_23 (q0 q1 : Int64) (p2 p3 : Int32) : v0_23 q0 q1 p2 p3 = v0_24 q0 q1 p2 p3 := own_nb _
theorem own_v0_14 (q0 q1 : Int64) (p2 p3 : Int32) : v0_14 q0 q1 p2 p3 = (1 : Int32) := by
  refine (if_neg ?_).trans (if_neg ?_)
  · rw [own_e_v0_12]; decide
  · rw [own_e_v0_13]; decide
theorem own_v0_30 (q0 q1 : Int64) (p2 p3 : Int32) : v0_30 q0 q1 p2 p3 = (1 : Int32) := by
  refine (if_neg ?_).trans (if_neg ?_)
  · rw [own_e_v0_28]; decide
  · rw [own_e_v0_29]; decide
def Q0 (Z : State) (q0 : Int64) (q1 : Int64) (p2 : Int32) (p3 : Int32) (h0 : Heap) (n0 : Nat) (v : Option Value) (h : Heap) (L : List Loc) : Prop := v = some (.int (1 : Int32)) ∧ Fr n0 L
set_option maxRecDepth 65536 in
set_option maxHeartbeats 40000000 in
theorem rm0 (l : Launch) (Z : State) (a0 : Array Value) (hw : ∀ d ∈ tables_1, d.before a0 Z = true) (ws : List Jvm.Cond) (q0 : Int64) (q1 : Int64) (p2 : Int32) (p3 : Int32) (h0 : Heap) (n0 : Nat) (Z0 : n0 ≤ h0.size) :
    MetFree l x (head1 (Jvm.Cond.code x code maxLocals ret :: ws) room_1) (fun a U => a = #[(.long q0), (.long q1), (.int p2), (.int p3)] ∧ Z.Warmed39 U.vm ∧ U.heap = h0) (fun _ _ _ _ _ => True) (fun _ U o U' => ∃ v L, o = .returned v ∧ Q0 Z q0 q1 p2 p3 h0 n0 v U'.heap L ∧ FrameEnd U o U' L room_1.cells room_1.slots) := by
  refine MetFree.of_bodySF (plainFor_of_name pn_com_example_dispatch_by_catalog_dispatchbycatalog_store_RecordWriterToBytesPinLaw) hisR ?_
  intro p e s m args below meth c s₁ Bd hml0 hP hK
  obtain ⟨rfl, hZ, hh⟩ := hP
  have hx := Bd.exec
  have hby := Bd.bytes
  have hml : c.maxLocals = 14 := hml0
  have hown : s.vm.findClass "com/example/dispatch_by_catalog/dispatchbycatalog/store/RecordWriterToBytesPinLaw" = some m.cls := findClass_of_methodNamed Bd.named
  have hnm := (name_of_methodNamed Bd.named Bd.method).1
  have hlk := BodyLoose.notSynchronized Bd
  have X0 : Stand p l e room_1 s m #[(.long q0), (.long q1), (.int p2), (.int p3)] below meth c s₁ [] 0 0 := Stand.of_body Bd
  have e0 : s₁.heap = h0 := by rw [← hh, Bd.state]; rfl
  have N0 := Fr.nil n0
  have pre0 : ∀ t, Steps p.tables e below (s₁.setTop (mkF m 0 #[.val (.long q0), .second, .val (.long q1), .second, .val (.int p2), .val (.int p3), .unset, .unset, .unset, .unset, .unset, .unset, .unset, .unset] [])) t → Steps p.tables e below (s₁.setTop (entryFrame m #[(.long q0), (.long q1), (.int p2), (.int p3)] maxLocals)) t := fun t k => castTop (ef_0 m q0 q1 p2 p3) k
  have pre1 : ∀ t, Steps p.tables e below (s₁.setTop (mkF m 4 #[.val (.long q0), .second, .val (.long q1), .second, .val (.int p2), .val (.int p3), .unset, .unset, .unset, .unset, .unset, .unset, .unset, .unset] [(.int (p2 &&& (1 : Int32)))])) t → Steps p.tables e below (s₁.setTop (entryFrame m #[(.long q0), (.long q1), (.int p2), (.int p3)] maxLocals)) t := by
    intro t k
    refine pre0 t ?_
    show Steps p.tables e below (s₁.setTop (mkF m 0 #[.val (.long q0), .second, .val (.long q1), .second, .val (.int p2), .val (.int p3), .unset, .unset, .unset, .unset, .unset, .unset, .unset, .unset] [])) _
    refine XS.iload X0.here hx rfl (hb hby at_0) rfl ?_
    show Steps p.tables e below (s₁.setTop (mkF m 2 #[.val (.long q0), .second, .val (.long q1), .second, .val (.int p2), .val (.int p3), .unset, .unset, .unset, .unset, .unset, .unset, .unset, .unset] [(.int p2)])) _
    refine XT.iconstV X0.here hx rfl (1 : Int32) (hb hby at_2) (by decide) ?_
    show Steps p.tables e below (s₁.setTop (mkF m 3 #[.val (.long q0), .second, .val (.long q1), .second, .val (.int p2), .val (.int p3), .unset, .unset, .unset, .unset, .unset, .unset, .unset, .unset] [(.int (1 : Int32)), (.int p2)])) _
    refine XS.iand X0.here hx rfl (hb hby at_3) rfl ?_
    exact k
  clear pre0
  have pre3 : ∀ t, Steps p.tables e below (s₁.setTop (mkF m 12 #[.val (.long q0), .second, .val (.long q1), .second, .val (.int p2), .val (.int p3), .unset, .unset, .unset, .unset, .unset, .unset, .unset, .unset] [(.int (v0_2 q0 q1 p2 p3))])) t → Steps p.tables e below (s₁.setTop (entryFrame m #[(.long q0), (.long q1), (.int p2), (.int p3)] maxLocals)) t := by
    intro t k
    by_cases c2 : (v0_1 q0 q1 p2 p3) = (0 : Int32)
    · skip
      rw [show (v0_2 q0 q1 p2 p3) = (0 : Int32) from (if_pos c2)] at k
      refine pre1 t ?_
      show Steps p.tables e below (s₁.setTop (mkF m 4 #[.val (.long q0), .second, .val (.long q1), .second, .val (.int p2), .val (.int p3), .unset, .unset, .unset, .unset, .unset, .unset, .unset, .unset] [(.int (p2 &&& (1 : Int32)))])) _
      refine XS.ifYes X0.here hx rfl (pc0 := 4) (pc' := 11) rfl (hb hby at_4) rfl (XT.i0_eq_t c2) (by decide) (by decide) ?_
      show Steps p.tables e below (s₁.setTop (mkF m 11 #[.val (.long q0), .second, .val (.long q1), .second, .val (.int p2), .val (.int p3), .unset, .unset, .unset, .unset, .unset, .unset, .unset, .unset] [])) _
      refine XT.iconstV X0.here hx rfl (0 : Int32) (hb hby at_11) (by decide) ?_
      exact k
    · skip
      rw [show (v0_2 q0 q1 p2 p3) = (1 : Int32) from (if_neg c2)] at k
      refine pre1 t ?_
      show Steps p.tables e below (s₁.setTop (mkF m 4 #[.val (.long q0), .second, .val (.long q1), .second, .val (.int p2), .val (.int p3), .unset, .unset, .unset, .unset, .unset, .unset, .unset, .unset] [(.int (p2 &&& (1 : Int32)))])) _
      refine XS.ifNo X0.here hx rfl (hb hby at_4) rfl (XT.i0_eq_f c2) ?_
      show Steps p.tables e below (s₁.setTop (mkF m 7 #[.val (.long q0), .second, .val (.long q1), .second, .val (.int p2), .val (.int p3), .unset, .unset, .unset, .unset, .unset, .unset, .unset, .unset] [])) _
      refine XT.iconstV X0.here hx rfl (1 : Int32) (hb hby at_7) (by decide) ?_
      show Steps p.tables e below (s₁.setTop (mkF m 8 #[.val (.long q0), .second, .val (.long q1), .second, .val (.int p2), .val (.int p3), .unset, .unset, .unset, .unset, .unset, .unset, .unset, .unset] [(.int (1 : Int32))])) _
      refine XS.goto X0.here hx rfl (pc0 := 8) (pc' := 12) rfl (hb hby at_8) (by decide) (by decide) ?_
      exact k
  have pre4 : ∀ t, Steps p.tables e below (s₁.setTop (mkF m 18 #[.val (.long q0), .second, .val (.long q1), .second, .val (.int p2), .val (.int p3), .val (.int (v0_2 q0 q1 p2 p3)), .unset, .unset, .unset, .unset, .unset, .unset, .unset] [(.int (p2 &&& (2 : Int32)))])) t → Steps p.tables e below (s₁.setTop (entryFrame m #[(.long q0), (.long q1), (.int p2), (.int p3)] maxLocals)) t := by
    intro t k
    refine pre3 t ?_
    show Steps p.tables e below (s₁.setTop (mkF m 12 #[.val (.long q0), .second, .val (.long q1), .second, .val (.int p2), .val (.int p3), .unset, .unset, .unset, .unset, .unset, .unset, .unset, .unset] [(.int (v0_2 q0 q1 p2 p3))])) _
    refine XS.istore X0.here hx rfl (hb hby at_12) rfl (l' := #[.val (.long q0), .second, .val (.long q1), .second, .val (.int p2), .val (.int p3), .val (.int (v0_2 q0 q1 p2 p3)), .unset, .unset, .unset, .unset, .unset, .unset, .unset]) rfl ?_
    show Steps p.tables e below (s₁.setTop (mkF m 14 #[.val (.long q0), .second, .val (.long q1), .second, .val (.int p2), .val (.int p3), .val (.int (v0_2 q0 q1 p2 p3)), .unset, .unset, .unset, .unset, .unset, .unset, .unset] [])) _
    refine XS.iload X0.here hx rfl (hb hby at_14) rfl ?_
    show Steps p.tables e below (s₁.setTop (mkF m 16 #[.val (.long q0), .second, .val (.long q1), .second, .val (.int p2), .val (.int p3), .val (.int (v0_2 q0 q1 p2 p3)), .unset, .unset, .unset, .unset, .unset, .unset, .unset] [(.int p2)])) _
    refine XT.iconstV X0.here hx rfl (2 : Int32) (hb hby at_16) (by decide) ?_
    show Steps p.tables e below (s₁.setTop (mkF m 17 #[.val (.long q0), .second, .val (.long q1), .second, .val (.int p2), .val (.int p3), .val (.int (v0_2 q0 q1 p2 p3)), .unset, .unset, .unset, .unset, .unset, .unset, .unset] [(.int (2 : Int32)), (.int p2)])) _
    refine XS.iand X0.here hx rfl (hb hby at_17) rfl ?_
    exact k
  clear pre3
  by_cases c5 : (v0_3 q0 q1 p2 p3) = (0 : Int32)
  · skip
    obtain ⟨T6, h6, X6, e6, E6, A6, D6, -, st6⟩ := newO X0 hx hZ hown (hw _ (List.mem_of_getElem? (i := 0) rfl)) (hw _ (List.mem_of_getElem? (i := 1) rfl)) (hw _ (List.mem_of_getElem? (i := 2) rfl)) e0 (g := (mkF m 28 #[.val (.long q0), .second, .val (.long q1), .second, .val (.int p2), .val (.int p3), .val (.int (v0_2 q0 q1 p2 p3)), .val (.int (0 : Int32)), .unset, .unset, .unset, .unset, .unset, .unset] [])) rfl (hb hby at_28) (by decide) (by decide)
    obtain ⟨b6, gz6⟩ : ∃ z, z = h0.size := ⟨_, rfl⟩
    rw [← gz6] at A6 D6 st6
    have g7 : n0 ≤ b6 := Nat.le_trans Z0 (Nat.le_of_eq gz6.symm)
    have sz8 : h0.size ≤ b6 := Nat.le_trans (Nat.le_refl h0.size) (Nat.le_of_eq gz6.symm)
    have z9 : n0 ≤ h6.size := Nat.le_trans Z0 E6.1
    have hs10 : h0.size ≤ h6.size := Nat.le_trans (Nat.le_refl h0.size) E6.1
    have F6_written : Fld Z h6 b6 "com/example/dispatch_by_catalog/dispatchbycatalog/store/RecordWriter" "written" "[B" .null := D6 (Or.inl (hw _ (List.mem_of_getElem? (i := 11) rfl))) (ty := (.array .byte)) (by decide)
    have F6_size : Fld Z h6 b6 "com/example/dispatch_by_catalog/dispatchbycatalog/store/RecordWriter" "size" "I" (.int (0 : Int32)) := D6 (Or.inl (hw _ (List.mem_of_getElem? (i := 18) rfl))) (ty := .int) (by decide)
    obtain ⟨vr11, _, ⟨T11, L11, k11, n11⟩, -, X11, ⟨Lc11, hQ11, l11, y11, z11⟩, st11⟩ := X6.specialBack hx (y := (⟨"com/example/dispatch_by_catalog/dispatchbycatalog/store/RecordWriter", "<init>", "()V"⟩ : MethodName)) rfl hown (mvT hZ (hw _ (List.mem_of_getElem? (i := 3) rfl))) (mvT hZ (hw _ (List.mem_of_getElem? (i := 4) rfl))) (mvT hZ (hw _ (List.mem_of_getElem? (i := 5) rfl))) (by decide) (backOf (W := 1) (rm1 l Z a0 hw [] b6 (0 : Int32) .null h6 n0 z9 A6 F6_size F6_written g7) hZ (hw _ (List.mem_of_getElem? (i := 5) rfl)) (hw _ (List.mem_of_getElem? (i := 2) rfl)) (by decide) (by decide)) (g := (mkF m 32 #[.val (.long q0), .second, .val (.long q1), .second, .val (.int p2), .val (.int p3), .val (.int (v0_2 q0 q1 p2 p3)), .val (.int (0 : Int32)), .unset, .unset, .unset, .unset, .unset, .unset] [(.ref b6), (.ref b6)])) rfl (by rw [hml]; rfl) (Steps.refl _) (a := b6) (argsL := []) (rest := [(.ref b6)]) (lenOf pd___V rfl) rfl (by show 2 * 0 + _ ≤ _; exact Nat.le_of_eq rfl) (hb hby at_32) (fun _ _ => ⟨rfl, e6, (by decide : 1 + 1 ≤ _), (by decide : 2 + 64 ≤ _)⟩)
    dsimp only [Pt.U, Pt.locs, Pt.cells, Pt.slots] at X11 l11 y11 z11 st11 hQ11
    subst l11 y11 z11
    have N11q := (show _ ∧ _ from hQ11).1
    have hq11 := (show _ ∧ _ from hQ11).2
    clear hQ11
    obtain ⟨x1_0_11, k1_1_11, hq11x⟩ := hq11
    have hv11 := hq11x.1
    have szx1_0_11 := hq11x.2.1
    have K11 := hq11x.2.2.1
    have po11_0 := hq11x.2.2.2.1
    have po11_1 := hq11x.2.2.2.2.1
    have po11_2 := hq11x.2.2.2.2.2.1
    have po11_3 := hq11x.2.2.2.2.2.2
    clear hq11x
    subst hv11
    have ne12 : b6 ≠ x1_0_11 := Nat.ne_of_lt (Nat.lt_of_lt_of_le A6.lt szx1_0_11)
    have g13 : n0 ≤ x1_0_11 := Nat.le_trans z9 szx1_0_11
    have sz14 : h0.size ≤ x1_0_11 := Nat.le_trans hs10 szx1_0_11
    have z15 : n0 ≤ T11.heap.size := Nat.le_trans z9 K11.1
    have hs16 : h0.size ≤ T11.heap.size := Nat.le_trans hs10 K11.1
    have N11 := Fr.app N0 N11q
    obtain ⟨cq17, kq17, q17a, q17b, q17c⟩ := isOf hZ rfl po11_0
    obtain ⟨vr17, _, ⟨T17, L17, k17, n17⟩, -, X17, ⟨Lc17, hQ17, l17, y17, z17⟩, st17⟩ := X11.virtualBack hx (y := (⟨"com/example/dispatch_by_catalog/dispatchbycatalog/store/RecordWriter", "toBytes", "()[B"⟩ : MethodName)) (z := (⟨"com/example/dispatch_by_catalog/dispatchbycatalog/store/RecordWriter", "toBytes", "()[B"⟩ : MethodName)) hown (mvT hZ (hw _ (List.mem_of_getElem? (i := 12) rfl))) (mvT hZ (hw _ (List.mem_of_getElem? (i := 13) rfl))) (notFace_of_selects (args := #[]) (mvT hZ (hw _ (List.mem_of_getElem? (i := 15) rfl)))) (mvT hZ (hw _ (List.mem_of_getElem? (i := 15) rfl))) (mvT hZ (hw _ (List.mem_of_getElem? (i := 14) rfl))) (by decide) (backOf (W := 0) (rmtb0 l Z a0 hw [] b6 x1_0_11 (.int (0 : Int32)) (.int (0 : Int32)) (.int (0 : Int32)) (.int (0 : Int32)) (.int (0 : Int32)) (.int (0 : Int32)) (.int (0 : Int32)) (.int (0 : Int32)) (.int (0 : Int32)) (.int (0 : Int32)) (.int (0 : Int32)) (.int (0 : Int32)) (.int (0 : Int32)) (.int (0 : Int32)) (.int (0 : Int32)) (.int (0 : Int32)) (.int (0 : Int32)) (.int (0 : Int32)) (.int (0 : Int32)) (.int (0 : Int32)) (.int (0 : Int32)) (.int (0 : Int32)) (.int (0 : Int32)) (.int (0 : Int32)) (.int (0 : Int32)) (.int (0 : Int32)) (.int (0 : Int32)) (.int (0 : Int32)) (.int (0 : Int32)) (.int (0 : Int32)) (.int (0 : Int32)) (.int (0 : Int32)) (.int (0 : Int32)) (.int (0 : Int32)) (.int (0 : Int32)) (.int (0 : Int32)) (.int (0 : Int32)) (.int (0 : Int32)) (.int (0 : Int32)) (.int (0 : Int32)) (.int (0 : Int32)) (.int (0 : Int32)) (.int (0 : Int32)) (.int (0 : Int32)) (.int (0 : Int32)) (.int (0 : Int32)) (.int (0 : Int32)) (.int (0 : Int32)) (.int (0 : Int32)) (.int (0 : Int32)) (.int (0 : Int32)) (.int (0 : Int32)) (.int (0 : Int32)) (.int (0 : Int32)) (.int (0 : Int32)) (.int (0 : Int32)) (.int (0 : Int32)) (.int (0 : Int32)) (.int (0 : Int32)) (.int (0 : Int32)) (.int (0 : Int32)) (.int (0 : Int32)) (.int (0 : Int32)) (.int (0 : Int32)) k1_1_11 T11.heap n0 z15 po11_0 po11_1 po11_2 po11_3) hZ (hw _ (List.mem_of_getElem? (i := 16) rfl)) (hw _ (List.mem_of_getElem? (i := 2) rfl)) (by decide) (by decide)) q17a q17c (g := (mkF m 39 #[.val (.long q0), .second, .val (.long q1), .second, .val (.int p2), .val (.int p3), .val (.int (v0_2 q0 q1 p2 p3)), .val (.int (0 : Int32)), .val (.ref b6), .unset, .unset, .unset, .unset, .unset] [(.ref b6)])) rfl (by rw [hml]; rfl) (Steps.refl _) (argsL := []) (rest := []) (lenOf pd____B rfl) rfl (by show 2 * 0 + _ ≤ _; exact Nat.le_of_eq rfl) (hb hby at_39) (fun _ _ => ⟨rfl, rfl, (by decide : 2 + 1 ≤ _), (by decide : 66 + 0 ≤ _)⟩)
    dsimp only [Pt.U, Pt.locs, Pt.cells, Pt.slots] at X17 l17 y17 z17 st17 hQ17
    subst l17 y17 z17
    have N17q := (show _ ∧ _ from hQ17).1
    have hq17 := (show _ ∧ _ from hQ17).2
    clear hQ17
    obtain ⟨xtb0_0_17, ktb0_1_17, hq17x⟩ := hq17
    have hv17 := hq17x.1
    have szxtb0_0_17 := hq17x.2.1
    have K17 := hq17x.2.2.1
    have po17_0 := hq17x.2.2.2
    clear hq17x
    subst hv17
    have ne18 : b6 ≠ xtb0_0_17 := Nat.ne_of_lt (Nat.lt_of_lt_of_le po11_0.lt szxtb0_0_17)
    have ne19 : x1_0_11 ≠ xtb0_0_17 := Nat.ne_of_lt (Nat.lt_of_lt_of_le po11_3.lt szxtb0_0_17)
    have g20 : n0 ≤ xtb0_0_17 := Nat.le_trans z15 szxtb0_0_17
    have sz21 : h0.size ≤ xtb0_0_17 := Nat.le_trans hs16 szxtb0_0_17
    have z22 : n0 ≤ T17.heap.size := Nat.le_trans z15 K17.1
    have hs23 : h0.size ≤ T17.heap.size := Nat.le_trans hs16 K17.1
    have N17 := Fr.app N11 N17q
    obtain ⟨cl24, Ar24, qc24, S24, M24, Ha24, G24⟩ := id po17_0
    obtain ⟨T25, h25, k25, X25, e25, E25, A25, EA25, st25⟩ := newPE X17 hx hZ (hw _ (List.mem_of_getElem? (i := 9) rfl)) rfl (g := (mkF m 54 #[.val (.long q0), .second, .val (.long q1), .second, .val (.int p2), .val (.int p3), .val (.int (v0_2 q0 q1 p2 p3)), .val (.int (0 : Int32)), .val (.ref b6), .val (.ref xtb0_0_17), .unset, .unset, .unset, .unset] [(.int (60 : Int32))])) rfl (hb hby at_54) rfl (by decide) (cap := 60) (by decide) (by decide) (by decide) (by decide) (ad := "[B") rfl
    obtain ⟨b25, gz25⟩ : ∃ z, z = T17.heap.size := ⟨_, rfl⟩
    rw [← gz25] at A25 EA25 st25
    have k26 := (po11_0.keep K17)
    have ne27 : b6 ≠ b25 := Nat.ne_of_lt (Nat.lt_of_lt_of_le k26.lt (Nat.le_of_eq gz25.symm))
    have k28 := (po11_3.keep K17 nin0)
    have ne29 : x1_0_11 ≠ b25 := Nat.ne_of_lt (Nat.lt_of_lt_of_le k28.lt (Nat.le_of_eq gz25.symm))
    have ne30 : xtb0_0_17 ≠ b25 := Nat.ne_of_lt (Nat.lt_of_lt_of_le po17_0.lt (Nat.le_of_eq gz25.symm))
    have g31 : n0 ≤ b25 := Nat.le_trans z22 (Nat.le_of_eq gz25.symm)
    have sz32 : h0.size ≤ b25 := Nat.le_trans hs23 (Nat.le_of_eq gz25.symm)
    have z33 : n0 ≤ h25.size := Nat.le_trans z22 E25.1
    have hs34 : h0.size ≤ h25.size := Nat.le_trans hs23 E25.1
    have V25 : Arv Z h25 b25 k25 .byte (60 : Int32) [(.int (0 : Int32)), (.int (0 : Int32)), (.int (0 : Int32)), (.int (0 : Int32)), (.int (0 : Int32)), (.int (0 : Int32)), (.int (0 : Int32)), (.int (0 : Int32)), (.int (0 : Int32)), (.int (0 : Int32)), (.int (0 : Int32)), (.int (0 : Int32)), (.int (0 : Int32)), (.int (0 : Int32)), (.int (0 : Int32)), (.int (0 : Int32)), (.int (0 : Int32)), (.int (0 : Int32)), (.int (0 : Int32)), (.int (0 : Int32)), (.int (0 : Int32)), (.int (0 : Int32)), (.int (0 : Int32)), (.int (0 : Int32)), (.int (0 : Int32)), (.int (0 : Int32)), (.int (0 : Int32)), (.int (0 : Int32)), (.int (0 : Int32)), (.int (0 : Int32)), (.int (0 : Int32)), (.int (0 : Int32)), (.int (0 : Int32)), (.int (0 : Int32)), (.int (0 : Int32)), (.int (0 : Int32)), (.int (0 : Int32)), (.int (0 : Int32)), (.int (0 : Int32)), (.int (0 : Int32)), (.int (0 : Int32)), (.int (0 : Int32)), (.int (0 : Int32)), (.int (0 : Int32)), (.int (0 : Int32)), (.int (0 : Int32)), (.int (0 : Int32)), (.int (0 : Int32)), (.int (0 : Int32)), (.int (0 : Int32)), (.int (0 : Int32)), (.int (0 : Int32)), (.int (0 : Int32)), (.int (0 : Int32)), (.int (0 : Int32)), (.int (0 : Int32)), (.int (0 : Int32)), (.int (0 : Int32)), (.int (0 : Int32)), (.int (0 : Int32))] (.int (0 : Int32)) := (Arv.new A25 (by decide)).pad (pad_rep [] (.int (0 : Int32)) 60)
    obtain ⟨cl35, Ar35, qc35, S35, M35, Ha35, G35⟩ := id V25
    have hin36 : ¬ ((0 : Int32) < 0 ∨ cl35.slots.size ≤ ((0 : Int32)).toNatClampNeg) := inb_of S35 ⟨by decide, by decide⟩
    obtain ⟨T37, h37, X37, e37, W37, st37⟩ := stB X25 hx hZ e25 Ar35 (j := (0 : Int32)) hin36 (g := (mkF m 64 #[.val (.long q0), .second, .val (.long q1), .second, .val (.int p2), .val (.int p3), .val (.int (v0_2 q0 q1 p2 p3)), .val (.int (0 : Int32)), .val (.ref b6), .val (.ref xtb0_0_17), .val (.ref b25), .unset, .unset, .unset] [(.int (p3.toInt8.toInt32)), (.int (0 : Int32)), (.ref b25)])) rfl rfl (hb hby at_64)
    have V37 : Arv Z h37 b25 k25 .byte (60 : Int32) [(.int (nar .byte (v0_4 q0 q1 p2 p3))), (.int (0 : Int32)), (.int (0 : Int32)), (.int (0 : Int32)), (.int (0 : Int32)), (.int (0 : Int32)), (.int (0 : Int32)), (.int (0 : Int32)), (.int (0 : Int32)), (.int (0 : Int32)), (.int (0 : Int32)), (.int (0 : Int32)), (.int (0 : Int32)), (.int (0 : Int32)), (.int (0 : Int32)), (.int (0 : Int32)), (.int (0 : Int32)), (.int (0 : Int32)), (.int (0 : Int32)), (.int (0 : Int32)), (.int (0 : Int32)), (.int (0 : Int32)), (.int (0 : Int32)), (.int (0 : Int32)), (.int (0 : Int32)), (.int (0 : Int32)), (.int (0 : Int32)), (.int (0 : Int32)), (.int (0 : Int32)), (.int (0 : Int32)), (.int (0 : Int32)), (.int (0 : Int32)), (.int (0 : Int32)), (.int (0 : Int32)), (.int (0 : Int32)), (.int (0 : Int32)), (.int (0 : Int32)), (.int (0 : Int32)), (.int (0 : Int32)), (.int (0 : Int32)), (.int (0 : Int32)), (.int (0 : Int32)), (.int (0 : Int32)), (.int (0 : Int32)), (.int (0 : Int32)), (.int (0 : Int32)), (.int (0 : Int32)), (.int (0 : Int32)), (.int (0 : Int32)), (.int (0 : Int32)), (.int (0 : Int32)), (.int (0 : Int32)), (.int (0 : Int32)), (.int (0 : Int32)), (.int (0 : Int32)), (.int (0 : Int32)), (.int (0 : Int32)), (.int (0 : Int32)), (.int (0 : Int32)), (.int (0 : Int32))] (.int (0 : Int32)) := Arv.set Ar35 qc35 S35 M35 Ha35 G35 (fits_nar_byte (v0_4 q0 q1 p2 p3)) W37 0 rfl (Nat.le_of_ble_eq_true rfl)
    have N37 := Fr.snoc X37 N17 g31
    have z38 : n0 ≤ h37.size := Nat.le_trans z33 (Keep.of_wr W37).1
    have hs39 : h0.size ≤ h37.size := Nat.le_trans hs34 (Keep.of_wr W37).1
    obtain ⟨cl40, Ar40, qc40, S40, M40, Ha40, G40⟩ := id V37
    have hin41 : ¬ ((59 : Int32) < 0 ∨ cl40.slots.size ≤ ((59 : Int32)).toNatClampNeg) := inb_of S40 ⟨by decide, by decide⟩
    obtain ⟨T42, h42, X42, e42, W42, st42⟩ := stB X37 hx hZ e37 Ar40 (j := (59 : Int32)) hin41 (g := (mkF m 75 #[.val (.long q0), .second, .val (.long q1), .second, .val (.int p2), .val (.int p3), .val (.int (v0_2 q0 q1 p2 p3)), .val (.int (0 : Int32)), .val (.ref b6), .val (.ref xtb0_0_17), .val (.ref b25), .unset, .unset, .unset] [(.int ((XT.ushr p3 (8 : Int32)).toInt8.toInt32)), (.int (59 : Int32)), (.ref b25)])) rfl rfl (hb hby at_75)
    have V42 : Arv Z h42 b25 k25 .byte (60 : Int32) [(.int (nar .byte (v0_4 q0 q1 p2 p3))), (.int (0 : Int32)), (.int (0 : Int32)), (.int (0 : Int32)), (.int (0 : Int32)), (.int (0 : Int32)), (.int (0 : Int32)), (.int (0 : Int32)), (.int (0 : Int32)), (.int (0 : Int32)), (.int (0 : Int32)), (.int (0 : Int32)), (.int (0 : Int32)), (.int (0 : Int32)), (.int (0 : Int32)), (.int (0 : Int32)), (.int (0 : Int32)), (.int (0 : Int32)), (.int (0 : Int32)), (.int (0 : Int32)), (.int (0 : Int32)), (.int (0 : Int32)), (.int (0 : Int32)), (.int (0 : Int32)), (.int (0 : Int32)), (.int (0 : Int32)), (.int (0 : Int32)), (.int (0 : Int32)), (.int (0 : Int32)), (.int (0 : Int32)), (.int (0 : Int32)), (.int (0 : Int32)), (.int (0 : Int32)), (.int (0 : Int32)), (.int (0 : Int32)), (.int (0 : Int32)), (.int (0 : Int32)), (.int (0 : Int32)), (.int (0 : Int32)), (.int (0 : Int32)), (.int (0 : Int32)), (.int (0 : Int32)), (.int (0 : Int32)), (.int (0 : Int32)), (.int (0 : Int32)), (.int (0 : Int32)), (.int (0 : Int32)), (.int (0 : Int32)), (.int (0 : Int32)), (.int (0 : Int32)), (.int (0 : Int32)), (.int (0 : Int32)), (.int (0 : Int32)), (.int (0 : Int32)), (.int (0 : Int32)), (.int (0 : Int32)), (.int (0 : Int32)), (.int (0 : Int32)), (.int (0 : Int32)), (.int (nar .byte (v0_5 q0 q1 p2 p3)))] (.int (0 : Int32)) := Arv.set Ar40 qc40 S40 M40 Ha40 G40 (fits_nar_byte (v0_5 q0 q1 p2 p3)) W42 59 rfl (Nat.le_of_ble_eq_true rfl)
    have N42 := Fr.snoc X42 N37 g31
    have z43 : n0 ≤ h42.size := Nat.le_trans z38 (Keep.of_wr W42).1
    have hs44 : h0.size ≤ h42.size := Nat.le_trans hs39 (Keep.of_wr W42).1
    have k46 := (((k26.ext E25).wr W37).wr W42)
    have k47 := ((((po11_1.keep K17 nin0).ext E25).other W37 (Or.inl ne27)).other W42 (Or.inl ne27))
    have k48 := ((((po11_2.keep K17 nin0).ext E25).other W37 (Or.inl ne27)).other W42 (Or.inl ne27))
    have k49 := (((k28.ext E25).other W37 ne29).other W42 ne29)
    obtain ⟨cq45, kq45, q45a, q45b, q45c⟩ := isOf hZ e42 k46
    obtain ⟨vr45, _, ⟨T45, L45, k45, n45⟩, -, X45, ⟨Lc45, hQ45, l45, y45, z45⟩, st45⟩ := X42.virtualBack hx (y := (⟨"com/example/dispatch_by_catalog/dispatchbycatalog/store/RecordWriter", "number", "(J)Lcom/example/dispatch_by_catalog/dispatchbycatalog/store/RecordWriter;"⟩ : MethodName)) (z := (⟨"com/example/dispatch_by_catalog/dispatchbycatalog/store/RecordWriter", "number", "(J)Lcom/example/dispatch_by_catalog/dispatchbycatalog/store/RecordWriter;"⟩ : MethodName)) hown (mvT hZ (hw _ (List.mem_of_getElem? (i := 31) rfl))) (mvT hZ (hw _ (List.mem_of_getElem? (i := 32) rfl))) (notFace_of_selects (args := #[]) (mvT hZ (hw _ (List.mem_of_getElem? (i := 34) rfl)))) (mvT hZ (hw _ (List.mem_of_getElem? (i := 34) rfl))) (mvT hZ (hw _ (List.mem_of_getElem? (i := 33) rfl))) (by decide) (backOf (W := 0) (rmnu0 l Z a0 hw [] b6 q0 x1_0_11 (.int (0 : Int32)) (.int (0 : Int32)) (.int (0 : Int32)) (.int (0 : Int32)) (.int (0 : Int32)) (.int (0 : Int32)) (.int (0 : Int32)) (.int (0 : Int32)) (.int (0 : Int32)) (.int (0 : Int32)) (.int (0 : Int32)) (.int (0 : Int32)) (.int (0 : Int32)) (.int (0 : Int32)) (.int (0 : Int32)) (.int (0 : Int32)) (.int (0 : Int32)) (.int (0 : Int32)) (.int (0 : Int32)) (.int (0 : Int32)) (.int (0 : Int32)) (.int (0 : Int32)) (.int (0 : Int32)) (.int (0 : Int32)) (.int (0 : Int32)) (.int (0 : Int32)) (.int (0 : Int32)) (.int (0 : Int32)) (.int (0 : Int32)) (.int (0 : Int32)) (.int (0 : Int32)) (.int (0 : Int32)) (.int (0 : Int32)) (.int (0 : Int32)) (.int (0 : Int32)) (.int (0 : Int32)) (.int (0 : Int32)) (.int (0 : Int32)) (.int (0 : Int32)) (.int (0 : Int32)) (.int (0 : Int32)) (.int (0 : Int32)) (.int (0 : Int32)) (.int (0 : Int32)) (.int (0 : Int32)) (.int (0 : Int32)) (.int (0 : Int32)) (.int (0 : Int32)) (.int (0 : Int32)) (.int (0 : Int32)) (.int (0 : Int32)) (.int (0 : Int32)) (.int (0 : Int32)) (.int (0 : Int32)) (.int (0 : Int32)) (.int (0 : Int32)) (.int (0 : Int32)) (.int (0 : Int32)) (.int (0 : Int32)) (.int (0 : Int32)) (.int (0 : Int32)) (.int (0 : Int32)) (.int (0 : Int32)) (.int (0 : Int32)) k1_1_11 h42 n0 z43 k46 k47 k48 k49 g7 (Ne.symm ne12) g13) hZ (hw _ (List.mem_of_getElem? (i := 35) rfl)) (hw _ (List.mem_of_getElem? (i := 2) rfl)) (by decide) (by decide)) q45a q45c (g := (mkF m 79 #[.val (.long q0), .second, .val (.long q1), .second, .val (.int p2), .val (.int p3), .val (.int (v0_2 q0 q1 p2 p3)), .val (.int (0 : Int32)), .val (.ref b6), .val (.ref xtb0_0_17), .val (.ref b25), .unset, .unset, .unset] [(.long q0), (.ref b6)])) rfl (by rw [hml]; rfl) (Steps.refl _) (argsL := [(.long q0)]) (rest := []) (lenOf pd_h962988 rfl) rfl (by show 2 * 0 + _ ≤ _; exact Nat.le_of_eq rfl) (hb hby at_79) (fun _ _ => ⟨rfl, e42, (by decide : 4 + 0 ≤ _), (by decide : 126 + 0 ≤ _)⟩)
    dsimp only [Pt.U, Pt.locs, Pt.cells, Pt.slots] at X45 l45 y45 z45 st45 hQ45
    subst l45 y45 z45
    have N45q := (show _ ∧ _ from hQ45).1
    have hq45 := (show _ ∧ _ from hQ45).2
    clear hQ45
    have hv45 := hq45.1
    have K45 := hq45.2.1
    have po45_0 := hq45.2.2.1
    have po45_1 := hq45.2.2.2.1
    have po45_2 := hq45.2.2.2.2.1
    have po45_3 := hq45.2.2.2.2.2
    clear hq45
    subst hv45
    have z50 : n0 ≤ T45.heap.size := Nat.le_trans z43 K45.1
    have hs51 : h0.size ≤ T45.heap.size := Nat.le_trans hs44 K45.1
    have N45 := Fr.app N42 N45q
    obtain ⟨cq52, kq52, q52a, q52b, q52c⟩ := isOf hZ rfl po45_0
    obtain ⟨vr52, _, ⟨T52, L52, k52, n52⟩, -, X52, ⟨Lc52, hQ52, l52, y52, z52⟩, st52⟩ := X45.virtualBack hx (y := (⟨"com/example/dispatch_by_catalog/dispatchbycatalog/store/RecordWriter", "flag", "(Z)Lcom/example/dispatch_by_catalog/dispatchbycatalog/store/RecordWriter;"⟩ : MethodName)) (z := (⟨"com/example/dispatch_by_catalog/dispatchbycatalog/store/RecordWriter", "flag", "(Z)Lcom/example/dispatch_by_catalog/dispatchbycatalog/store/RecordWriter;"⟩ : MethodName)) hown (mvT hZ (hw _ (List.mem_of_getElem? (i := 40) rfl))) (mvT hZ (hw _ (List.mem_of_getElem? (i := 41) rfl))) (notFace_of_selects (args := #[]) (mvT hZ (hw _ (List.mem_of_getElem? (i := 43) rfl)))) (mvT hZ (hw _ (List.mem_of_getElem? (i := 43) rfl))) (mvT hZ (hw _ (List.mem_of_getElem? (i := 42) rfl))) (by decide) (backOf (W := 0) (rm8 l Z a0 hw [] b6 (v0_2 q0 q1 p2 p3) x1_0_11 (.int (nar .byte (vnu0_1 q0))) (.int (nar .byte (vnu0_2 q0))) (.int (nar .byte (vnu0_3 q0))) (.int (nar .byte (vnu0_4 q0))) (.int (nar .byte (vnu0_5 q0))) (.int (nar .byte (vnu0_6 q0))) (.int (nar .byte (vnu0_7 q0))) (.int (nar .byte (vnu0_8 q0))) (.int (0 : Int32)) (.int (0 : Int32)) (.int (0 : Int32)) (.int (0 : Int32)) (.int (0 : Int32)) (.int (0 : Int32)) (.int (0 : Int32)) (.int (0 : Int32)) (.int (0 : Int32)) (.int (0 : Int32)) (.int (0 : Int32)) (.int (0 : Int32)) (.int (0 : Int32)) (.int (0 : Int32)) (.int (0 : Int32)) (.int (0 : Int32)) (.int (0 : Int32)) (.int (0 : Int32)) (.int (0 : Int32)) (.int (0 : Int32)) (.int (0 : Int32)) (.int (0 : Int32)) (.int (0 : Int32)) (.int (0 : Int32)) (.int (0 : Int32)) (.int (0 : Int32)) (.int (0 : Int32)) (.int (0 : Int32)) (.int (0 : Int32)) (.int (0 : Int32)) (.int (0 : Int32)) (.int (0 : Int32)) (.int (0 : Int32)) (.int (0 : Int32)) (.int (0 : Int32)) (.int (0 : Int32)) (.int (0 : Int32)) (.int (0 : Int32)) (.int (0 : Int32)) (.int (0 : Int32)) (.int (0 : Int32)) (.int (0 : Int32)) (.int (0 : Int32)) (.int (0 : Int32)) (.int (0 : Int32)) (.int (0 : Int32)) (.int (0 : Int32)) (.int (0 : Int32)) (.int (0 : Int32)) (.int (0 : Int32)) (.int (0 : Int32)) (.int (0 : Int32)) (.int (0 : Int32)) (.int (0 : Int32)) (.int (0 : Int32)) (.int (0 : Int32)) k1_1_11 T45.heap n0 z50 po45_0 po45_1 po45_2 po45_3 g7 (Ne.symm ne12) g13) hZ (hw _ (List.mem_of_getElem? (i := 44) rfl)) (hw _ (List.mem_of_getElem? (i := 2) rfl)) (by decide) (by decide)) q52a q52c (g := (mkF m 84 #[.val (.long q0), .second, .val (.long q1), .second, .val (.int p2), .val (.int p3), .val (.int (v0_2 q0 q1 p2 p3)), .val (.int (0 : Int32)), .val (.ref b6), .val (.ref xtb0_0_17), .val (.ref b25), .unset, .unset, .unset] [(.int (v0_2 q0 q1 p2 p3)), (.ref b6)])) rfl (by rw [hml]; rfl) (Steps.refl _) (argsL := [(.int (v0_2 q0 q1 p2 p3))]) (rest := []) (lenOf pd_h860293 rfl) rfl (by show 2 * 0 + _ ≤ _; exact Nat.le_of_eq rfl) (hb hby at_84) (fun _ _ => ⟨rfl, rfl, (by decide : 4 + 0 ≤ _), (by decide : 126 + 0 ≤ _)⟩)
    dsimp only [Pt.U, Pt.locs, Pt.cells, Pt.slots] at X52 l52 y52 z52 st52 hQ52
    subst l52 y52 z52
    have N52q := (show _ ∧ _ from hQ52).1
    have hq52 := (show _ ∧ _ from hQ52).2
    clear hQ52
    have hv52 := hq52.1
    have K52 := hq52.2.1
    have po52_0 := hq52.2.2.1
    have po52_1 := hq52.2.2.2.1
    have po52_2 := hq52.2.2.2.2.1
    have po52_3 := hq52.2.2.2.2.2
    clear hq52
    subst hv52
    have z53 : n0 ≤ T52.heap.size := Nat.le_trans z50 K52.1
    have hs54 : h0.size ≤ T52.heap.size := Nat.le_trans hs51 K52.1
    have N52 := Fr.app N45 N52q
    obtain ⟨cq55, kq55, q55a, q55b, q55c⟩ := isOf hZ rfl po52_0
    obtain ⟨vr55, _, ⟨T55, L55, k55, n55⟩, -, X55, ⟨Lc55, hQ55, l55, y55, z55⟩, st55⟩ := X52.virtualBack hx (y := (⟨"com/example/dispatch_by_catalog/dispatchbycatalog/store/RecordWriter", "number", "(J)Lcom/example/dispatch_by_catalog/dispatchbycatalog/store/RecordWriter;"⟩ : MethodName)) (z := (⟨"com/example/dispatch_by_catalog/dispatchbycatalog/store/RecordWriter", "number", "(J)Lcom/example/dispatch_by_catalog/dispatchbycatalog/store/RecordWriter;"⟩ : MethodName)) hown (mvT hZ (hw _ (List.mem_of_getElem? (i := 31) rfl))) (mvT hZ (hw _ (List.mem_of_getElem? (i := 32) rfl))) (notFace_of_selects (args := #[]) (mvT hZ (hw _ (List.mem_of_getElem? (i := 34) rfl)))) (mvT hZ (hw _ (List.mem_of_getElem? (i := 34) rfl))) (mvT hZ (hw _ (List.mem_of_getElem? (i := 33) rfl))) (by decide) (backOf (W := 0) (rmnu9 l Z a0 hw [] b6 q1 x1_0_11 (.int (nar .byte (vnu0_1 q0))) (.int (nar .byte (vnu0_2 q0))) (.int (nar .byte (vnu0_3 q0))) (.int (nar .byte (vnu0_4 q0))) (.int (nar .byte (vnu0_5 q0))) (.int (nar .byte (vnu0_6 q0))) (.int (nar .byte (vnu0_7 q0))) (.int (nar .byte (vnu0_8 q0))) (.int (nar .byte (v8_2 (v0_2 q0 q1 p2 p3)))) (.int (0 : Int32)) (.int (0 : Int32)) (.int (0 : Int32)) (.int (0 : Int32)) (.int (0 : Int32)) (.int (0 : Int32)) (.int (0 : Int32)) (.int (0 : Int32)) (.int (0 : Int32)) (.int (0 : Int32)) (.int (0 : Int32)) (.int (0 : Int32)) (.int (0 : Int32)) (.int (0 : Int32)) (.int (0 : Int32)) (.int (0 : Int32)) (.int (0 : Int32)) (.int (0 : Int32)) (.int (0 : Int32)) (.int (0 : Int32)) (.int (0 : Int32)) (.int (0 : Int32)) (.int (0 : Int32)) (.int (0 : Int32)) (.int (0 : Int32)) (.int (0 : Int32)) (.int (0 : Int32)) (.int (0 : Int32)) (.int (0 : Int32)) (.int (0 : Int32)) (.int (0 : Int32)) (.int (0 : Int32)) (.int (0 : Int32)) (.int (0 : Int32)) (.int (0 : Int32)) (.int (0 : Int32)) (.int (0 : Int32)) (.int (0 : Int32)) (.int (0 : Int32)) (.int (0 : Int32)) (.int (0 : Int32)) (.int (0 : Int32)) (.int (0 : Int32)) (.int (0 : Int32)) (.int (0 : Int32)) (.int (0 : Int32)) (.int (0 : Int32)) (.int (0 : Int32)) (.int (0 : Int32)) (.int (0 : Int32)) (.int (0 : Int32)) (.int (0 : Int32)) (.int (0 : Int32)) (.int (0 : Int32)) (.int (0 : Int32)) k1_1_11 T52.heap n0 z53 po52_0 po52_1 po52_2 po52_3 g7 (Ne.symm ne12) g13) hZ (hw _ (List.mem_of_getElem? (i := 35) rfl)) (hw _ (List.mem_of_getElem? (i := 2) rfl)) (by decide) (by decide)) q55a q55c (g := (mkF m 104 #[.val (.long q0), .second, .val (.long q1), .second, .val (.int p2), .val (.int p3), .val (.int (v0_2 q0 q1 p2 p3)), .val (.int (0 : Int32)), .val (.ref b6), .val (.ref xtb0_0_17), .val (.ref b25), .unset, .unset, .unset] [(.long q1), (.ref b6)])) rfl (by rw [hml]; rfl) (Steps.refl _) (argsL := [(.long q1)]) (rest := []) (lenOf pd_h962988 rfl) rfl (by show 2 * 0 + _ ≤ _; exact Nat.le_of_eq rfl) (hb hby at_104) (fun _ _ => ⟨rfl, rfl, (by decide : 4 + 0 ≤ _), (by decide : 126 + 0 ≤ _)⟩)
    dsimp only [Pt.U, Pt.locs, Pt.cells, Pt.slots] at X55 l55 y55 z55 st55 hQ55
    subst l55 y55 z55
    have N55q := (show _ ∧ _ from hQ55).1
    have hq55 := (show _ ∧ _ from hQ55).2
    clear hQ55
    have hv55 := hq55.1
    have K55 := hq55.2.1
    have po55_0 := hq55.2.2.1
    have po55_1 := hq55.2.2.2.1
    have po55_2 := hq55.2.2.2.2.1
    have po55_3 := hq55.2.2.2.2.2
    clear hq55
    subst hv55
    have z56 : n0 ≤ T55.heap.size := Nat.le_trans z53 K55.1
    have hs57 : h0.size ≤ T55.heap.size := Nat.le_trans hs54 K55.1
    have N55 := Fr.app N52 N55q
    obtain ⟨cq58, kq58, q58a, q58b, q58c⟩ := isOf hZ rfl po55_0
    obtain ⟨vr58, _, ⟨T58, L58, k58, n58⟩, -, X58, ⟨Lc58, hQ58, l58, y58, z58⟩, st58⟩ := X55.virtualBack hx (y := (⟨"com/example/dispatch_by_catalog/dispatchbycatalog/store/RecordWriter", "toBytes", "()[B"⟩ : MethodName)) (z := (⟨"com/example/dispatch_by_catalog/dispatchbycatalog/store/RecordWriter", "toBytes", "()[B"⟩ : MethodName)) hown (mvT hZ (hw _ (List.mem_of_getElem? (i := 12) rfl))) (mvT hZ (hw _ (List.mem_of_getElem? (i := 13) rfl))) (notFace_of_selects (args := #[]) (mvT hZ (hw _ (List.mem_of_getElem? (i := 15) rfl)))) (mvT hZ (hw _ (List.mem_of_getElem? (i := 15) rfl))) (mvT hZ (hw _ (List.mem_of_getElem? (i := 14) rfl))) (by decide) (backOf (W := 0) (rmtb17 l Z a0 hw [] b6 x1_0_11 (.int (nar .byte (vnu0_1 q0))) (.int (nar .byte (vnu0_2 q0))) (.int (nar .byte (vnu0_3 q0))) (.int (nar .byte (vnu0_4 q0))) (.int (nar .byte (vnu0_5 q0))) (.int (nar .byte (vnu0_6 q0))) (.int (nar .byte (vnu0_7 q0))) (.int (nar .byte (vnu0_8 q0))) (.int (nar .byte (v8_2 (v0_2 q0 q1 p2 p3)))) (.int (nar .byte (vnu9_1 q1))) (.int (nar .byte (vnu9_2 q1))) (.int (nar .byte (vnu9_3 q1))) (.int (nar .byte (vnu9_4 q1))) (.int (nar .byte (vnu9_5 q1))) (.int (nar .byte (vnu9_6 q1))) (.int (nar .byte (vnu9_7 q1))) (.int (nar .byte (vnu9_8 q1))) (.int (0 : Int32)) (.int (0 : Int32)) (.int (0 : Int32)) (.int (0 : Int32)) (.int (0 : Int32)) (.int (0 : Int32)) (.int (0 : Int32)) (.int (0 : Int32)) (.int (0 : Int32)) (.int (0 : Int32)) (.int (0 : Int32)) (.int (0 : Int32)) (.int (0 : Int32)) (.int (0 : Int32)) (.int (0 : Int32)) (.int (0 : Int32)) (.int (0 : Int32)) (.int (0 : Int32)) (.int (0 : Int32)) (.int (0 : Int32)) (.int (0 : Int32)) (.int (0 : Int32)) (.int (0 : Int32)) (.int (0 : Int32)) (.int (0 : Int32)) (.int (0 : Int32)) (.int (0 : Int32)) (.int (0 : Int32)) (.int (0 : Int32)) (.int (0 : Int32)) (.int (0 : Int32)) (.int (0 : Int32)) (.int (0 : Int32)) (.int (0 : Int32)) (.int (0 : Int32)) (.int (0 : Int32)) (.int (0 : Int32)) (.int (0 : Int32)) (.int (0 : Int32)) (.int (0 : Int32)) (.int (0 : Int32)) (.int (0 : Int32)) (.int (0 : Int32)) (.int (0 : Int32)) (.int (0 : Int32)) (.int (0 : Int32)) (.int (0 : Int32)) k1_1_11 T55.heap n0 z56 po55_0 po55_1 po55_2 po55_3) hZ (hw _ (List.mem_of_getElem? (i := 16) rfl)) (hw _ (List.mem_of_getElem? (i := 2) rfl)) (by decide) (by decide)) q58a q58c (g := (mkF m 110 #[.val (.long q0), .second, .val (.long q1), .second, .val (.int p2), .val (.int p3), .val (.int (v0_2 q0 q1 p2 p3)), .val (.int (0 : Int32)), .val (.ref b6), .val (.ref xtb0_0_17), .val (.ref b25), .unset, .unset, .unset] [(.ref b6)])) rfl (by rw [hml]; rfl) (Steps.refl _) (argsL := []) (rest := []) (lenOf pd____B rfl) rfl (by show 2 * 0 + _ ≤ _; exact Nat.le_of_eq rfl) (hb hby at_110) (fun _ _ => ⟨rfl, rfl, (by decide : 4 + 1 ≤ _), (by decide : 126 + 17 ≤ _)⟩)
    dsimp only [Pt.U, Pt.locs, Pt.cells, Pt.slots] at X58 l58 y58 z58 st58 hQ58
    subst l58 y58 z58
    have N58q := (show _ ∧ _ from hQ58).1
    have hq58 := (show _ ∧ _ from hQ58).2
    clear hQ58
    obtain ⟨xtb17_0_58, ktb17_1_58, hq58x⟩ := hq58
    have hv58 := hq58x.1
    have szxtb17_0_58 := hq58x.2.1
    have K58 := hq58x.2.2.1
    have po58_0 := hq58x.2.2.2
    clear hq58x
    subst hv58
    have ne59 : b6 ≠ xtb17_0_58 := Nat.ne_of_lt (Nat.lt_of_lt_of_le po55_0.lt szxtb17_0_58)
    have k60 := (((((EA25.wr W37).wr W42).keep K45).keep K52).keep K55)
    have ne61 : b25 ≠ xtb17_0_58 := Nat.ne_of_lt (Nat.lt_of_lt_of_le k60.lt szxtb17_0_58)
    have k62 := ((((((po17_0.ext E25).other W37 ne30).other W42 ne30).keep K45 (ninS (Ne.symm ne18) (ninS (Ne.symm ne19) nin0))).keep K52 (ninS (Ne.symm ne18) (ninS (Ne.symm ne19) nin0))).keep K55 (ninS (Ne.symm ne18) (ninS (Ne.symm ne19) nin0)))
    have ne63 : xtb0_0_17 ≠ xtb17_0_58 := Nat.ne_of_lt (Nat.lt_of_lt_of_le k62.lt szxtb17_0_58)
    have ne64 : x1_0_11 ≠ xtb17_0_58 := Nat.ne_of_lt (Nat.lt_of_lt_of_le po55_3.lt szxtb17_0_58)
    have g65 : n0 ≤ xtb17_0_58 := Nat.le_trans z56 szxtb17_0_58
    have sz66 : h0.size ≤ xtb17_0_58 := Nat.le_trans hs57 szxtb17_0_58
    have z67 : n0 ≤ T58.heap.size := Nat.le_trans z56 K58.1
    have hs68 : h0.size ≤ T58.heap.size := Nat.le_trans hs57 K58.1
    have N58 := Fr.app N55 N58q
    obtain ⟨cl69, Ar69, qc69, S69, M69, Ha69, G69⟩ := id po58_0
    obtain ⟨vr70, _, ⟨T70, L70, k70, n70⟩, -, X70, ⟨Lc70, hQ70, l70, y70, z70⟩, st70⟩ := Jvm.LawKit.callS X58 hx (y := (⟨"com/example/dispatch_by_catalog/dispatchbycatalog/store/RecordWriterToBytesPinLaw", "longAt", "([BIJ)Z"⟩ : MethodName)) hown (mvT hZ (hw _ (List.mem_of_getElem? (i := 45) rfl))) (mvT hZ (hw _ (List.mem_of_getElem? (i := 46) rfl))) (mvT hZ (hw _ (List.mem_of_getElem? (i := 47) rfl))) (mvT hZ (hw _ (List.mem_of_getElem? (i := 48) rfl))) (by decide) (backOf (W := 0) (rmla17_0 l Z a0 hw [] xtb17_0_58 q0 (nar .byte (vnu0_1 q0)) (nar .byte (vnu0_2 q0)) (nar .byte (vnu0_3 q0)) (nar .byte (vnu0_4 q0)) (nar .byte (vnu0_5 q0)) (nar .byte (vnu0_6 q0)) (nar .byte (vnu0_7 q0)) (nar .byte (vnu0_8 q0)) (.int (nar .byte (v8_2 (v0_2 q0 q1 p2 p3)))) (.int (nar .byte (vnu9_1 q1))) (.int (nar .byte (vnu9_2 q1))) (.int (nar .byte (vnu9_3 q1))) (.int (nar .byte (vnu9_4 q1))) (.int (nar .byte (vnu9_5 q1))) (.int (nar .byte (vnu9_6 q1))) (.int (nar .byte (vnu9_7 q1))) (.int (nar .byte (vnu9_8 q1))) ktb17_1_58 T58.heap n0 z67 po58_0) hZ (hw _ (List.mem_of_getElem? (i := 48) rfl)) (hw _ (List.mem_of_getElem? (i := 47) rfl)) (by decide) (by decide)) (g := (mkF m 146 #[.val (.long q0), .second, .val (.long q1), .second, .val (.int p2), .val (.int p3), .val (.int (v0_2 q0 q1 p2 p3)), .val (.int (0 : Int32)), .val (.ref b6), .val (.ref xtb0_0_17), .val (.ref b25), .val (.ref xtb17_0_58), .val (.int (9 : Int32)), .unset] [(.long q0), (.int (0 : Int32)), (.ref xtb17_0_58)])) rfl (by rw [hml]; rfl) (argsL := [(.ref xtb17_0_58), (.int (0 : Int32)), (.long q0)]) (rest := []) (lenOf pd___BIJ_Z rfl) rfl (by show 2 * 0 + _ ≤ _; exact Nat.le_of_eq rfl) (hb hby at_146) (fun _ _ => ⟨rfl, rfl, (by decide : 5 + 0 ≤ _), (by decide : 143 + 0 ≤ _)⟩)
    dsimp only [Pt.U, Pt.locs, Pt.cells, Pt.slots] at X70 l70 y70 z70 st70 hQ70
    subst l70 y70 z70
    have N70q := (show _ ∧ _ ∧ _ from hQ70).1
    have hv70 := (show _ ∧ _ ∧ _ from hQ70).2.1
    have e70 := (show _ ∧ _ ∧ _ from hQ70).2.2
    clear hQ70
    subst hv70
    have N70 := Fr.app N58 N70q
    have hin71 : ¬ ((8 : Int32) < 0 ∨ cl69.slots.size ≤ ((8 : Int32)).toNatClampNeg) := inb_of S69 ⟨by decide, by decide⟩
    have pre72 : ∀ t, Steps p.tables e below (T70.setTop (mkF m 161 #[.val (.long q0), .second, .val (.long q1), .second, .val (.int p2), .val (.int p3), .val (.int (v0_2 q0 q1 p2 p3)), .val (.int (0 : Int32)), .val (.ref b6), .val (.ref xtb0_0_17), .val (.ref b25), .val (.ref xtb17_0_58), .val (.int (9 : Int32)), .unset] [(.int (v0_2 q0 q1 p2 p3)), (.int (nar .byte (v8_2 (v0_2 q0 q1 p2 p3))))])) t → Steps p.tables e below (s₁.setTop (entryFrame m #[(.long q0), (.long q1), (.int p2), (.int p3)] maxLocals)) t := by
      intro t k
      refine pre4 t ?_
      show Steps p.tables e below (s₁.setTop (mkF m 18 #[.val (.long q0), .second, .val (.long q1), .second, .val (.int p2), .val (.int p3), .val (.int (v0_2 q0 q1 p2 p3)), .unset, .unset, .unset, .unset, .unset, .unset, .unset] [(.int (p2 &&& (2 : Int32)))])) _
      refine XS.ifYes X0.here hx rfl (pc0 := 18) (pc' := 25) rfl (hb hby at_18) rfl (XT.i0_eq_t c5) (by decide) (by decide) ?_
      show Steps p.tables e below (s₁.setTop (mkF m 25 #[.val (.long q0), .second, .val (.long q1), .second, .val (.int p2), .val (.int p3), .val (.int (v0_2 q0 q1 p2 p3)), .unset, .unset, .unset, .unset, .unset, .unset, .unset] [])) _
      refine XT.iconstV X0.here hx rfl (0 : Int32) (hb hby at_25) (by decide) ?_
      show Steps p.tables e below (s₁.setTop (mkF m 26 #[.val (.long q0), .second, .val (.long q1), .second, .val (.int p2), .val (.int p3), .val (.int (v0_2 q0 q1 p2 p3)), .unset, .unset, .unset, .unset, .unset, .unset, .unset] [(.int (0 : Int32))])) _
      refine XS.istore X0.here hx rfl (hb hby at_26) rfl (l' := #[.val (.long q0), .second, .val (.long q1), .second, .val (.int p2), .val (.int p3), .val (.int (v0_2 q0 q1 p2 p3)), .val (.int (0 : Int32)), .unset, .unset, .unset, .unset, .unset, .unset]) rfl ?_
      show Steps p.tables e below (s₁.setTop (mkF m 28 #[.val (.long q0), .second, .val (.long q1), .second, .val (.int p2), .val (.int p3), .val (.int (v0_2 q0 q1 p2 p3)), .val (.int (0 : Int32)), .unset, .unset, .unset, .unset, .unset, .unset] [])) _
      refine st6 _ ?_
      show Steps p.tables e below (T6.setTop (mkF m 31 #[.val (.long q0), .second, .val (.long q1), .second, .val (.int p2), .val (.int p3), .val (.int (v0_2 q0 q1 p2 p3)), .val (.int (0 : Int32)), .unset, .unset, .unset, .unset, .unset, .unset] [(.ref b6)])) _
      refine XS.dup X6.here hx rfl (hb hby at_31) rfl rfl ?_
      show Steps p.tables e below (T6.setTop (mkF m 32 #[.val (.long q0), .second, .val (.long q1), .second, .val (.int p2), .val (.int p3), .val (.int (v0_2 q0 q1 p2 p3)), .val (.int (0 : Int32)), .unset, .unset, .unset, .unset, .unset, .unset] [(.ref b6), (.ref b6)])) _
      refine st11.trans ?_
      show Steps p.tables e below (T11.setTop (mkF m 35 #[.val (.long q0), .second, .val (.long q1), .second, .val (.int p2), .val (.int p3), .val (.int (v0_2 q0 q1 p2 p3)), .val (.int (0 : Int32)), .unset, .unset, .unset, .unset, .unset, .unset] [(.ref b6)])) _
      refine XS.astore X11.here hx rfl (hb hby at_35) rfl rfl (l' := #[.val (.long q0), .second, .val (.long q1), .second, .val (.int p2), .val (.int p3), .val (.int (v0_2 q0 q1 p2 p3)), .val (.int (0 : Int32)), .val (.ref b6), .unset, .unset, .unset, .unset, .unset]) rfl ?_
      show Steps p.tables e below (T11.setTop (mkF m 37 #[.val (.long q0), .second, .val (.long q1), .second, .val (.int p2), .val (.int p3), .val (.int (v0_2 q0 q1 p2 p3)), .val (.int (0 : Int32)), .val (.ref b6), .unset, .unset, .unset, .unset, .unset] [])) _
      refine XS.aload X11.here hx rfl (hb hby at_37) rfl rfl ?_
      show Steps p.tables e below (T11.setTop (mkF m 39 #[.val (.long q0), .second, .val (.long q1), .second, .val (.int p2), .val (.int p3), .val (.int (v0_2 q0 q1 p2 p3)), .val (.int (0 : Int32)), .val (.ref b6), .unset, .unset, .unset, .unset, .unset] [(.ref b6)])) _
      refine st17.trans ?_
      show Steps p.tables e below (T17.setTop (mkF m 42 #[.val (.long q0), .second, .val (.long q1), .second, .val (.int p2), .val (.int p3), .val (.int (v0_2 q0 q1 p2 p3)), .val (.int (0 : Int32)), .val (.ref b6), .unset, .unset, .unset, .unset, .unset] [(.ref xtb0_0_17)])) _
      refine XS.astore X17.here hx rfl (hb hby at_42) rfl rfl (l' := #[.val (.long q0), .second, .val (.long q1), .second, .val (.int p2), .val (.int p3), .val (.int (v0_2 q0 q1 p2 p3)), .val (.int (0 : Int32)), .val (.ref b6), .val (.ref xtb0_0_17), .unset, .unset, .unset, .unset]) rfl ?_
      show Steps p.tables e below (T17.setTop (mkF m 44 #[.val (.long q0), .second, .val (.long q1), .second, .val (.int p2), .val (.int p3), .val (.int (v0_2 q0 q1 p2 p3)), .val (.int (0 : Int32)), .val (.ref b6), .val (.ref xtb0_0_17), .unset, .unset, .unset, .unset] [])) _
      refine XS.aload X17.here hx rfl (hb hby at_44) rfl rfl ?_
      show Steps p.tables e below (T17.setTop (mkF m 46 #[.val (.long q0), .second, .val (.long q1), .second, .val (.int p2), .val (.int p3), .val (.int (v0_2 q0 q1 p2 p3)), .val (.int (0 : Int32)), .val (.ref b6), .val (.ref xtb0_0_17), .unset, .unset, .unset, .unset] [(.ref xtb0_0_17)])) _
      refine X17.arraylength hx Ar24.1 (State.isArrayOf_alike hZ.alike Ar24.2.1) (g := (mkF m 46 #[.val (.long q0), .second, .val (.long q1), .second, .val (.int p2), .val (.int p3), .val (.int (v0_2 q0 q1 p2 p3)), .val (.int (0 : Int32)), .val (.ref b6), .val (.ref xtb0_0_17), .unset, .unset, .unset, .unset] [(.ref xtb0_0_17)])) rfl rfl (hb hby at_46) _ ?_
      rw [len_of S24 M24]
      show Steps p.tables e below (T17.setTop (mkF m 47 #[.val (.long q0), .second, .val (.long q1), .second, .val (.int p2), .val (.int p3), .val (.int (v0_2 q0 q1 p2 p3)), .val (.int (0 : Int32)), .val (.ref b6), .val (.ref xtb0_0_17), .unset, .unset, .unset, .unset] [(.int (0 : Int32))])) _
      refine XS.ifYes X17.here hx rfl (pc0 := 47) (pc' := 52) rfl (hb hby at_47) rfl (XT.i0_eq_t (by decide)) (by decide) (by decide) ?_
      show Steps p.tables e below (T17.setTop (mkF m 52 #[.val (.long q0), .second, .val (.long q1), .second, .val (.int p2), .val (.int p3), .val (.int (v0_2 q0 q1 p2 p3)), .val (.int (0 : Int32)), .val (.ref b6), .val (.ref xtb0_0_17), .unset, .unset, .unset, .unset] [])) _
      refine XT.bipushV X17.here hx rfl (60 : Int32) (hb hby at_52) (by decide) ?_
      show Steps p.tables e below (T17.setTop (mkF m 54 #[.val (.long q0), .second, .val (.long q1), .second, .val (.int p2), .val (.int p3), .val (.int (v0_2 q0 q1 p2 p3)), .val (.int (0 : Int32)), .val (.ref b6), .val (.ref xtb0_0_17), .unset, .unset, .unset, .unset] [(.int (60 : Int32))])) _
      refine st25 _ ?_
      show Steps p.tables e below (T25.setTop (mkF m 56 #[.val (.long q0), .second, .val (.long q1), .second, .val (.int p2), .val (.int p3), .val (.int (v0_2 q0 q1 p2 p3)), .val (.int (0 : Int32)), .val (.ref b6), .val (.ref xtb0_0_17), .unset, .unset, .unset, .unset] [(.ref b25)])) _
      refine XS.astore X25.here hx rfl (hb hby at_56) rfl rfl (l' := #[.val (.long q0), .second, .val (.long q1), .second, .val (.int p2), .val (.int p3), .val (.int (v0_2 q0 q1 p2 p3)), .val (.int (0 : Int32)), .val (.ref b6), .val (.ref xtb0_0_17), .val (.ref b25), .unset, .unset, .unset]) rfl ?_
      show Steps p.tables e below (T25.setTop (mkF m 58 #[.val (.long q0), .second, .val (.long q1), .second, .val (.int p2), .val (.int p3), .val (.int (v0_2 q0 q1 p2 p3)), .val (.int (0 : Int32)), .val (.ref b6), .val (.ref xtb0_0_17), .val (.ref b25), .unset, .unset, .unset] [])) _
      refine XS.aload X25.here hx rfl (hb hby at_58) rfl rfl ?_
      show Steps p.tables e below (T25.setTop (mkF m 60 #[.val (.long q0), .second, .val (.long q1), .second, .val (.int p2), .val (.int p3), .val (.int (v0_2 q0 q1 p2 p3)), .val (.int (0 : Int32)), .val (.ref b6), .val (.ref xtb0_0_17), .val (.ref b25), .unset, .unset, .unset] [(.ref b25)])) _
      refine XT.iconstV X25.here hx rfl (0 : Int32) (hb hby at_60) (by decide) ?_
      show Steps p.tables e below (T25.setTop (mkF m 61 #[.val (.long q0), .second, .val (.long q1), .second, .val (.int p2), .val (.int p3), .val (.int (v0_2 q0 q1 p2 p3)), .val (.int (0 : Int32)), .val (.ref b6), .val (.ref xtb0_0_17), .val (.ref b25), .unset, .unset, .unset] [(.int (0 : Int32)), (.ref b25)])) _
      refine XS.iload X25.here hx rfl (hb hby at_61) rfl ?_
      show Steps p.tables e below (T25.setTop (mkF m 63 #[.val (.long q0), .second, .val (.long q1), .second, .val (.int p2), .val (.int p3), .val (.int (v0_2 q0 q1 p2 p3)), .val (.int (0 : Int32)), .val (.ref b6), .val (.ref xtb0_0_17), .val (.ref b25), .unset, .unset, .unset] [(.int p3), (.int (0 : Int32)), (.ref b25)])) _
      refine XT.i2b X25.here hx rfl (hb hby at_63) rfl ?_
      show Steps p.tables e below (T25.setTop (mkF m 64 #[.val (.long q0), .second, .val (.long q1), .second, .val (.int p2), .val (.int p3), .val (.int (v0_2 q0 q1 p2 p3)), .val (.int (0 : Int32)), .val (.ref b6), .val (.ref xtb0_0_17), .val (.ref b25), .unset, .unset, .unset] [(.int (p3.toInt8.toInt32)), (.int (0 : Int32)), (.ref b25)])) _
      refine st37 _ ?_
      show Steps p.tables e below (T37.setTop (mkF m 65 #[.val (.long q0), .second, .val (.long q1), .second, .val (.int p2), .val (.int p3), .val (.int (v0_2 q0 q1 p2 p3)), .val (.int (0 : Int32)), .val (.ref b6), .val (.ref xtb0_0_17), .val (.ref b25), .unset, .unset, .unset] [])) _
      refine XS.aload X37.here hx rfl (hb hby at_65) rfl rfl ?_
      show Steps p.tables e below (T37.setTop (mkF m 67 #[.val (.long q0), .second, .val (.long q1), .second, .val (.int p2), .val (.int p3), .val (.int (v0_2 q0 q1 p2 p3)), .val (.int (0 : Int32)), .val (.ref b6), .val (.ref xtb0_0_17), .val (.ref b25), .unset, .unset, .unset] [(.ref b25)])) _
      refine XT.bipushV X37.here hx rfl (59 : Int32) (hb hby at_67) (by decide) ?_
      show Steps p.tables e below (T37.setTop (mkF m 69 #[.val (.long q0), .second, .val (.long q1), .second, .val (.int p2), .val (.int p3), .val (.int (v0_2 q0 q1 p2 p3)), .val (.int (0 : Int32)), .val (.ref b6), .val (.ref xtb0_0_17), .val (.ref b25), .unset, .unset, .unset] [(.int (59 : Int32)), (.ref b25)])) _
      refine XS.iload X37.here hx rfl (hb hby at_69) rfl ?_
      show Steps p.tables e below (T37.setTop (mkF m 71 #[.val (.long q0), .second, .val (.long q1), .second, .val (.int p2), .val (.int p3), .val (.int (v0_2 q0 q1 p2 p3)), .val (.int (0 : Int32)), .val (.ref b6), .val (.ref xtb0_0_17), .val (.ref b25), .unset, .unset, .unset] [(.int p3), (.int (59 : Int32)), (.ref b25)])) _
      refine XT.bipushV X37.here hx rfl (8 : Int32) (hb hby at_71) (by decide) ?_
      show Steps p.tables e below (T37.setTop (mkF m 73 #[.val (.long q0), .second, .val (.long q1), .second, .val (.int p2), .val (.int p3), .val (.int (v0_2 q0 q1 p2 p3)), .val (.int (0 : Int32)), .val (.ref b6), .val (.ref xtb0_0_17), .val (.ref b25), .unset, .unset, .unset] [(.int (8 : Int32)), (.int p3), (.int (59 : Int32)), (.ref b25)])) _
      refine XT.iushr X37.here hx rfl (hb hby at_73) rfl ?_
      show Steps p.tables e below (T37.setTop (mkF m 74 #[.val (.long q0), .second, .val (.long q1), .second, .val (.int p2), .val (.int p3), .val (.int (v0_2 q0 q1 p2 p3)), .val (.int (0 : Int32)), .val (.ref b6), .val (.ref xtb0_0_17), .val (.ref b25), .unset, .unset, .unset] [(.int (XT.ushr p3 (8 : Int32))), (.int (59 : Int32)), (.ref b25)])) _
      refine XT.i2b X37.here hx rfl (hb hby at_74) rfl ?_
      show Steps p.tables e below (T37.setTop (mkF m 75 #[.val (.long q0), .second, .val (.long q1), .second, .val (.int p2), .val (.int p3), .val (.int (v0_2 q0 q1 p2 p3)), .val (.int (0 : Int32)), .val (.ref b6), .val (.ref xtb0_0_17), .val (.ref b25), .unset, .unset, .unset] [(.int ((XT.ushr p3 (8 : Int32)).toInt8.toInt32)), (.int (59 : Int32)), (.ref b25)])) _
      refine st42 _ ?_
      show Steps p.tables e below (T42.setTop (mkF m 76 #[.val (.long q0), .second, .val (.long q1), .second, .val (.int p2), .val (.int p3), .val (.int (v0_2 q0 q1 p2 p3)), .val (.int (0 : Int32)), .val (.ref b6), .val (.ref xtb0_0_17), .val (.ref b25), .unset, .unset, .unset] [])) _
      refine XS.aload X42.here hx rfl (hb hby at_76) rfl rfl ?_
      show Steps p.tables e below (T42.setTop (mkF m 78 #[.val (.long q0), .second, .val (.long q1), .second, .val (.int p2), .val (.int p3), .val (.int (v0_2 q0 q1 p2 p3)), .val (.int (0 : Int32)), .val (.ref b6), .val (.ref xtb0_0_17), .val (.ref b25), .unset, .unset, .unset] [(.ref b6)])) _
      refine XT.lloadN X42.here hx rfl (hb hby at_78) rfl ?_
      show Steps p.tables e below (T42.setTop (mkF m 79 #[.val (.long q0), .second, .val (.long q1), .second, .val (.int p2), .val (.int p3), .val (.int (v0_2 q0 q1 p2 p3)), .val (.int (0 : Int32)), .val (.ref b6), .val (.ref xtb0_0_17), .val (.ref b25), .unset, .unset, .unset] [(.long q0), (.ref b6)])) _
      refine st45.trans ?_
      show Steps p.tables e below (T45.setTop (mkF m 82 #[.val (.long q0), .second, .val (.long q1), .second, .val (.int p2), .val (.int p3), .val (.int (v0_2 q0 q1 p2 p3)), .val (.int (0 : Int32)), .val (.ref b6), .val (.ref xtb0_0_17), .val (.ref b25), .unset, .unset, .unset] [(.ref b6)])) _
      refine XS.iload X45.here hx rfl (hb hby at_82) rfl ?_
      show Steps p.tables e below (T45.setTop (mkF m 84 #[.val (.long q0), .second, .val (.long q1), .second, .val (.int p2), .val (.int p3), .val (.int (v0_2 q0 q1 p2 p3)), .val (.int (0 : Int32)), .val (.ref b6), .val (.ref xtb0_0_17), .val (.ref b25), .unset, .unset, .unset] [(.int (v0_2 q0 q1 p2 p3)), (.ref b6)])) _
      refine st52.trans ?_
      show Steps p.tables e below (T52.setTop (mkF m 87 #[.val (.long q0), .second, .val (.long q1), .second, .val (.int p2), .val (.int p3), .val (.int (v0_2 q0 q1 p2 p3)), .val (.int (0 : Int32)), .val (.ref b6), .val (.ref xtb0_0_17), .val (.ref b25), .unset, .unset, .unset] [(.ref b6)])) _
      refine XT.pop X52.here hx rfl (hb hby at_87) rfl rfl ?_
      show Steps p.tables e below (T52.setTop (mkF m 88 #[.val (.long q0), .second, .val (.long q1), .second, .val (.int p2), .val (.int p3), .val (.int (v0_2 q0 q1 p2 p3)), .val (.int (0 : Int32)), .val (.ref b6), .val (.ref xtb0_0_17), .val (.ref b25), .unset, .unset, .unset] [])) _
      refine XS.iload X52.here hx rfl (hb hby at_88) rfl ?_
      show Steps p.tables e below (T52.setTop (mkF m 90 #[.val (.long q0), .second, .val (.long q1), .second, .val (.int p2), .val (.int p3), .val (.int (v0_2 q0 q1 p2 p3)), .val (.int (0 : Int32)), .val (.ref b6), .val (.ref xtb0_0_17), .val (.ref b25), .unset, .unset, .unset] [(.int (0 : Int32))])) _
      refine XS.ifYes X52.here hx rfl (pc0 := 90) (pc' := 101) rfl (hb hby at_90) rfl (XT.i0_eq_t (by decide)) (by decide) (by decide) ?_
      show Steps p.tables e below (T52.setTop (mkF m 101 #[.val (.long q0), .second, .val (.long q1), .second, .val (.int p2), .val (.int p3), .val (.int (v0_2 q0 q1 p2 p3)), .val (.int (0 : Int32)), .val (.ref b6), .val (.ref xtb0_0_17), .val (.ref b25), .unset, .unset, .unset] [])) _
      refine XS.aload X52.here hx rfl (hb hby at_101) rfl rfl ?_
      show Steps p.tables e below (T52.setTop (mkF m 103 #[.val (.long q0), .second, .val (.long q1), .second, .val (.int p2), .val (.int p3), .val (.int (v0_2 q0 q1 p2 p3)), .val (.int (0 : Int32)), .val (.ref b6), .val (.ref xtb0_0_17), .val (.ref b25), .unset, .unset, .unset] [(.ref b6)])) _
      refine XT.lloadN X52.here hx rfl (hb hby at_103) rfl ?_
      show Steps p.tables e below (T52.setTop (mkF m 104 #[.val (.long q0), .second, .val (.long q1), .second, .val (.int p2), .val (.int p3), .val (.int (v0_2 q0 q1 p2 p3)), .val (.int (0 : Int32)), .val (.ref b6), .val (.ref xtb0_0_17), .val (.ref b25), .unset, .unset, .unset] [(.long q1), (.ref b6)])) _
      refine st55.trans ?_
      show Steps p.tables e below (T55.setTop (mkF m 107 #[.val (.long q0), .second, .val (.long q1), .second, .val (.int p2), .val (.int p3), .val (.int (v0_2 q0 q1 p2 p3)), .val (.int (0 : Int32)), .val (.ref b6), .val (.ref xtb0_0_17), .val (.ref b25), .unset, .unset, .unset] [(.ref b6)])) _
      refine XT.pop X55.here hx rfl (hb hby at_107) rfl rfl ?_
      show Steps p.tables e below (T55.setTop (mkF m 108 #[.val (.long q0), .second, .val (.long q1), .second, .val (.int p2), .val (.int p3), .val (.int (v0_2 q0 q1 p2 p3)), .val (.int (0 : Int32)), .val (.ref b6), .val (.ref xtb0_0_17), .val (.ref b25), .unset, .unset, .unset] [])) _
      refine XS.aload X55.here hx rfl (hb hby at_108) rfl rfl ?_
      show Steps p.tables e below (T55.setTop (mkF m 110 #[.val (.long q0), .second, .val (.long q1), .second, .val (.int p2), .val (.int p3), .val (.int (v0_2 q0 q1 p2 p3)), .val (.int (0 : Int32)), .val (.ref b6), .val (.ref xtb0_0_17), .val (.ref b25), .unset, .unset, .unset] [(.ref b6)])) _
      refine st58.trans ?_
      show Steps p.tables e below (T58.setTop (mkF m 113 #[.val (.long q0), .second, .val (.long q1), .second, .val (.int p2), .val (.int p3), .val (.int (v0_2 q0 q1 p2 p3)), .val (.int (0 : Int32)), .val (.ref b6), .val (.ref xtb0_0_17), .val (.ref b25), .unset, .unset, .unset] [(.ref xtb17_0_58)])) _
      refine XS.astore X58.here hx rfl (hb hby at_113) rfl rfl (l' := #[.val (.long q0), .second, .val (.long q1), .second, .val (.int p2), .val (.int p3), .val (.int (v0_2 q0 q1 p2 p3)), .val (.int (0 : Int32)), .val (.ref b6), .val (.ref xtb0_0_17), .val (.ref b25), .val (.ref xtb17_0_58), .unset, .unset]) rfl ?_
      show Steps p.tables e below (T58.setTop (mkF m 115 #[.val (.long q0), .second, .val (.long q1), .second, .val (.int p2), .val (.int p3), .val (.int (v0_2 q0 q1 p2 p3)), .val (.int (0 : Int32)), .val (.ref b6), .val (.ref xtb0_0_17), .val (.ref b25), .val (.ref xtb17_0_58), .unset, .unset] [])) _
      refine XS.iload X58.here hx rfl (hb hby at_115) rfl ?_
      show Steps p.tables e below (T58.setTop (mkF m 117 #[.val (.long q0), .second, .val (.long q1), .second, .val (.int p2), .val (.int p3), .val (.int (v0_2 q0 q1 p2 p3)), .val (.int (0 : Int32)), .val (.ref b6), .val (.ref xtb0_0_17), .val (.ref b25), .val (.ref xtb17_0_58), .unset, .unset] [(.int (0 : Int32))])) _
      refine XS.ifYes X58.here hx rfl (pc0 := 117) (pc' := 125) rfl (hb hby at_117) rfl (XT.i0_eq_t (by decide)) (by decide) (by decide) ?_
      show Steps p.tables e below (T58.setTop (mkF m 125 #[.val (.long q0), .second, .val (.long q1), .second, .val (.int p2), .val (.int p3), .val (.int (v0_2 q0 q1 p2 p3)), .val (.int (0 : Int32)), .val (.ref b6), .val (.ref xtb0_0_17), .val (.ref b25), .val (.ref xtb17_0_58), .unset, .unset] [])) _
      refine XT.bipushV X58.here hx rfl (9 : Int32) (hb hby at_125) (by decide) ?_
      show Steps p.tables e below (T58.setTop (mkF m 127 #[.val (.long q0), .second, .val (.long q1), .second, .val (.int p2), .val (.int p3), .val (.int (v0_2 q0 q1 p2 p3)), .val (.int (0 : Int32)), .val (.ref b6), .val (.ref xtb0_0_17), .val (.ref b25), .val (.ref xtb17_0_58), .unset, .unset] [(.int (9 : Int32))])) _
      refine XS.istore X58.here hx rfl (hb hby at_127) rfl (l' := #[.val (.long q0), .second, .val (.long q1), .second, .val (.int p2), .val (.int p3), .val (.int (v0_2 q0 q1 p2 p3)), .val (.int (0 : Int32)), .val (.ref b6), .val (.ref xtb0_0_17), .val (.ref b25), .val (.ref xtb17_0_58), .val (.int (9 : Int32)), .unset]) rfl ?_
      show Steps p.tables e below (T58.setTop (mkF m 129 #[.val (.long q0), .second, .val (.long q1), .second, .val (.int p2), .val (.int p3), .val (.int (v0_2 q0 q1 p2 p3)), .val (.int (0 : Int32)), .val (.ref b6), .val (.ref xtb0_0_17), .val (.ref b25), .val (.ref xtb17_0_58), .val (.int (9 : Int32)), .unset] [])) _
      refine XS.aload X58.here hx rfl (hb hby at_129) rfl rfl ?_
      show Steps p.tables e below (T58.setTop (mkF m 131 #[.val (.long q0), .second, .val (.long q1), .second, .val (.int p2), .val (.int p3), .val (.int (v0_2 q0 q1 p2 p3)), .val (.int (0 : Int32)), .val (.ref b6), .val (.ref xtb0_0_17), .val (.ref b25), .val (.ref xtb17_0_58), .val (.int (9 : Int32)), .unset] [(.ref xtb17_0_58)])) _
      refine X58.arraylength hx Ar69.1 (State.isArrayOf_alike hZ.alike Ar69.2.1) (g := (mkF m 131 #[.val (.long q0), .second, .val (.long q1), .second, .val (.int p2), .val (.int p3), .val (.int (v0_2 q0 q1 p2 p3)), .val (.int (0 : Int32)), .val (.ref b6), .val (.ref xtb0_0_17), .val (.ref b25), .val (.ref xtb17_0_58), .val (.int (9 : Int32)), .unset] [(.ref xtb17_0_58)])) rfl rfl (hb hby at_131) _ ?_
      rw [len_of S69 M69]
      show Steps p.tables e below (T58.setTop (mkF m 132 #[.val (.long q0), .second, .val (.long q1), .second, .val (.int p2), .val (.int p3), .val (.int (v0_2 q0 q1 p2 p3)), .val (.int (0 : Int32)), .val (.ref b6), .val (.ref xtb0_0_17), .val (.ref b25), .val (.ref xtb17_0_58), .val (.int (9 : Int32)), .unset] [(.int (17 : Int32))])) _
      refine XS.iload X58.here hx rfl (hb hby at_132) rfl ?_
      show Steps p.tables e below (T58.setTop (mkF m 134 #[.val (.long q0), .second, .val (.long q1), .second, .val (.int p2), .val (.int p3), .val (.int (v0_2 q0 q1 p2 p3)), .val (.int (0 : Int32)), .val (.ref b6), .val (.ref xtb0_0_17), .val (.ref b25), .val (.ref xtb17_0_58), .val (.int (9 : Int32)), .unset] [(.int (9 : Int32)), (.int (17 : Int32))])) _
      refine XT.bipushV X58.here hx rfl (8 : Int32) (hb hby at_134) (by decide) ?_
      show Steps p.tables e below (T58.setTop (mkF m 136 #[.val (.long q0), .second, .val (.long q1), .second, .val (.int p2), .val (.int p3), .val (.int (v0_2 q0 q1 p2 p3)), .val (.int (0 : Int32)), .val (.ref b6), .val (.ref xtb0_0_17), .val (.ref b25), .val (.ref xtb17_0_58), .val (.int (9 : Int32)), .unset] [(.int (8 : Int32)), (.int (9 : Int32)), (.int (17 : Int32))])) _
      refine XS.iadd X58.here hx rfl (hb hby at_136) rfl ?_
      show Steps p.tables e below (T58.setTop (mkF m 137 #[.val (.long q0), .second, .val (.long q1), .second, .val (.int p2), .val (.int p3), .val (.int (v0_2 q0 q1 p2 p3)), .val (.int (0 : Int32)), .val (.ref b6), .val (.ref xtb0_0_17), .val (.ref b25), .val (.ref xtb17_0_58), .val (.int (9 : Int32)), .unset] [(.int (17 : Int32)), (.int (17 : Int32))])) _
      refine XS.icmpYes X58.here hx rfl (pc0 := 137) (pc' := 142) rfl (hb hby at_137) rfl (XT.ii_eq_t (by decide)) (by decide) (by decide) ?_
      show Steps p.tables e below (T58.setTop (mkF m 142 #[.val (.long q0), .second, .val (.long q1), .second, .val (.int p2), .val (.int p3), .val (.int (v0_2 q0 q1 p2 p3)), .val (.int (0 : Int32)), .val (.ref b6), .val (.ref xtb0_0_17), .val (.ref b25), .val (.ref xtb17_0_58), .val (.int (9 : Int32)), .unset] [])) _
      refine XS.aload X58.here hx rfl (hb hby at_142) rfl rfl ?_
      show Steps p.tables e below (T58.setTop (mkF m 144 #[.val (.long q0), .second, .val (.long q1), .second, .val (.int p2), .val (.int p3), .val (.int (v0_2 q0 q1 p2 p3)), .val (.int (0 : Int32)), .val (.ref b6), .val (.ref xtb0_0_17), .val (.ref b25), .val (.ref xtb17_0_58), .val (.int (9 : Int32)), .unset] [(.ref xtb17_0_58)])) _
      refine XT.iconstV X58.here hx rfl (0 : Int32) (hb hby at_144) (by decide) ?_
      show Steps p.tables e below (T58.setTop (mkF m 145 #[.val (.long q0), .second, .val (.long q1), .second, .val (.int p2), .val (.int p3), .val (.int (v0_2 q0 q1 p2 p3)), .val (.int (0 : Int32)), .val (.ref b6), .val (.ref xtb0_0_17), .val (.ref b25), .val (.ref xtb17_0_58), .val (.int (9 : Int32)), .unset] [(.int (0 : Int32)), (.ref xtb17_0_58)])) _
      refine XT.lloadN X58.here hx rfl (hb hby at_145) rfl ?_
      show Steps p.tables e below (T58.setTop (mkF m 146 #[.val (.long q0), .second, .val (.long q1), .second, .val (.int p2), .val (.int p3), .val (.int (v0_2 q0 q1 p2 p3)), .val (.int (0 : Int32)), .val (.ref b6), .val (.ref xtb0_0_17), .val (.ref b25), .val (.ref xtb17_0_58), .val (.int (9 : Int32)), .unset] [(.long q0), (.int (0 : Int32)), (.ref xtb17_0_58)])) _
      refine st70 _ ?_
      show Steps p.tables e below (T70.setTop (mkF m 149 #[.val (.long q0), .second, .val (.long q1), .second, .val (.int p2), .val (.int p3), .val (.int (v0_2 q0 q1 p2 p3)), .val (.int (0 : Int32)), .val (.ref b6), .val (.ref xtb0_0_17), .val (.ref b25), .val (.ref xtb17_0_58), .val (.int (9 : Int32)), .unset] [(.int (fla17_0 q0 (nar .byte (vnu0_1 q0)) (nar .byte (vnu0_2 q0)) (nar .byte (vnu0_3 q0)) (nar .byte (vnu0_4 q0)) (nar .byte (vnu0_5 q0)) (nar .byte (vnu0_6 q0)) (nar .byte (vnu0_7 q0)) (nar .byte (vnu0_8 q0))))])) _
      refine XS.ifYes X70.here hx rfl (pc0 := 149) (pc' := 154) rfl (hb hby at_149) rfl (XT.i0_ne_t (own_v0_6 q0 q1 p2 p3)) (by decide) (by decide) ?_
      show Steps p.tables e below (T70.setTop (mkF m 154 #[.val (.long q0), .second, .val (.long q1), .second, .val (.int p2), .val (.int p3), .val (.int (v0_2 q0 q1 p2 p3)), .val (.int (0 : Int32)), .val (.ref b6), .val (.ref xtb0_0_17), .val (.ref b25), .val (.ref xtb17_0_58), .val (.int (9 : Int32)), .unset] [])) _
      refine XS.aload X70.here hx rfl (hb hby at_154) rfl rfl ?_
      show Steps p.tables e below (T70.setTop (mkF m 156 #[.val (.long q0), .second, .val (.long q1), .second, .val (.int p2), .val (.int p3), .val (.int (v0_2 q0 q1 p2 p3)), .val (.int (0 : Int32)), .val (.ref b6), .val (.ref xtb0_0_17), .val (.ref b25), .val (.ref xtb17_0_58), .val (.int (9 : Int32)), .unset] [(.ref xtb17_0_58)])) _
      refine XT.bipushV X70.here hx rfl (8 : Int32) (hb hby at_156) (by decide) ?_
      show Steps p.tables e below (T70.setTop (mkF m 158 #[.val (.long q0), .second, .val (.long q1), .second, .val (.int p2), .val (.int p3), .val (.int (v0_2 q0 q1 p2 p3)), .val (.int (0 : Int32)), .val (.ref b6), .val (.ref xtb0_0_17), .val (.ref b25), .val (.ref xtb17_0_58), .val (.int (9 : Int32)), .unset] [(.int (8 : Int32)), (.ref xtb17_0_58)])) _
      refine X70.baloadBytes hx (j := (8 : Int32)) (v := (.int (nar .byte (v8_2 (v0_2 q0 q1 p2 p3))))) (by rw [e70]; exact Ar69.1) (State.isArrayOf_alike hZ.alike Ar69.2.1) Ar69.2.2 hin71 (Has.at Ha69 hin71 rfl) (g := (mkF m 158 #[.val (.long q0), .second, .val (.long q1), .second, .val (.int p2), .val (.int p3), .val (.int (v0_2 q0 q1 p2 p3)), .val (.int (0 : Int32)), .val (.ref b6), .val (.ref xtb0_0_17), .val (.ref b25), .val (.ref xtb17_0_58), .val (.int (9 : Int32)), .unset] [(.int (8 : Int32)), (.ref xtb17_0_58)])) rfl rfl (hb hby at_158) _ ?_
      show Steps p.tables e below (T70.setTop (mkF m 159 #[.val (.long q0), .second, .val (.long q1), .second, .val (.int p2), .val (.int p3), .val (.int (v0_2 q0 q1 p2 p3)), .val (.int (0 : Int32)), .val (.ref b6), .val (.ref xtb0_0_17), .val (.ref b25), .val (.ref xtb17_0_58), .val (.int (9 : Int32)), .unset] [(.int (nar .byte (v8_2 (v0_2 q0 q1 p2 p3))))])) _
      refine XS.iload X70.here hx rfl (hb hby at_159) rfl ?_
      exact k
    clear pre4 st6 st11 st17 st25 st37 st42 st45 st52 st55 st58 st70
    have pre74 : ∀ t, Steps p.tables e below (T70.setTop (mkF m 169 #[.val (.long q0), .second, .val (.long q1), .second, .val (.int p2), .val (.int p3), .val (.int (v0_2 q0 q1 p2 p3)), .val (.int (0 : Int32)), .val (.ref b6), .val (.ref xtb0_0_17), .val (.ref b25), .val (.ref xtb17_0_58), .val (.int (9 : Int32)), .unset] [(.int (v0_7 q0 q1 p2 p3)), (.int (nar .byte (v8_2 (v0_2 q0 q1 p2 p3))))])) t → Steps p.tables e below (s₁.setTop (entryFrame m #[(.long q0), (.long q1), (.int p2), (.int p3)] maxLocals)) t := by
      intro t k
      by_cases c73 : (v0_2 q0 q1 p2 p3) = (0 : Int32)
      · skip
        rw [show (v0_7 q0 q1 p2 p3) = (0 : Int32) from (if_pos c73)] at k
        refine pre72 t ?_
        show Steps p.tables e below (T70.setTop (mkF m 161 #[.val (.long q0), .second, .val (.long q1), .second, .val (.int p2), .val (.int p3), .val (.int (v0_2 q0 q1 p2 p3)), .val (.int (0 : Int32)), .val (.ref b6), .val (.ref xtb0_0_17), .val (.ref b25), .val (.ref xtb17_0_58), .val (.int (9 : Int32)), .unset] [(.int (v0_2 q0 q1 p2 p3)), (.int (nar .byte (v8_2 (v0_2 q0 q1 p2 p3))))])) _
        refine XS.ifYes X70.here hx rfl (pc0 := 161) (pc' := 168) rfl (hb hby at_161) rfl (XT.i0_eq_t c73) (by decide) (by decide) ?_
        show Steps p.tables e below (T70.setTop (mkF m 168 #[.val (.long q0), .second, .val (.long q1), .second, .val (.int p2), .val (.int p3), .val (.int (v0_2 q0 q1 p2 p3)), .val (.int (0 : Int32)), .val (.ref b6), .val (.ref xtb0_0_17), .val (.ref b25), .val (.ref xtb17_0_58), .val (.int (9 : Int32)), .unset] [(.int (nar .byte (v8_2 (v0_2 q0 q1 p2 p3))))])) _
        refine XT.iconstV X70.here hx rfl (0 : Int32) (hb hby at_168) (by decide) ?_
        exact k
      · skip
        rw [show (v0_7 q0 q1 p2 p3) = (1 : Int32) from (if_neg c73)] at k
        refine pre72 t ?_
        show Steps p.tables e below (T70.setTop (mkF m 161 #[.val (.long q0), .second, .val (.long q1), .second, .val (.int p2), .val (.int p3), .val (.int (v0_2 q0 q1 p2 p3)), .val (.int (0 : Int32)), .val (.ref b6), .val (.ref xtb0_0_17), .val (.ref b25), .val (.ref xtb17_0_58), .val (.int (9 : Int32)), .unset] [(.int (v0_2 q0 q1 p2 p3)), (.int (nar .byte (v8_2 (v0_2 q0 q1 p2 p3))))])) _
        refine XS.ifNo X70.here hx rfl (hb hby at_161) rfl (XT.i0_eq_f c73) ?_
        show Steps p.tables e below (T70.setTop (mkF m 164 #[.val (.long q0), .second, .val (.long q1), .second, .val (.int p2), .val (.int p3), .val (.int (v0_2 q0 q1 p2 p3)), .val (.int (0 : Int32)), .val (.ref b6), .val (.ref xtb0_0_17), .val (.ref b25), .val (.ref xtb17_0_58), .val (.int (9 : Int32)), .unset] [(.int (nar .byte (v8_2 (v0_2 q0 q1 p2 p3))))])) _
        refine XT.iconstV X70.here hx rfl (1 : Int32) (hb hby at_164) (by decide) ?_
        show Steps p.tables e below (T70.setTop (mkF m 165 #[.val (.long q0), .second, .val (.long q1), .second, .val (.int p2), .val (.int p3), .val (.int (v0_2 q0 q1 p2 p3)), .val (.int (0 : Int32)), .val (.ref b6), .val (.ref xtb0_0_17), .val (.ref b25), .val (.ref xtb17_0_58), .val (.int (9 : Int32)), .unset] [(.int (1 : Int32)), (.int (nar .byte (v8_2 (v0_2 q0 q1 p2 p3))))])) _
        refine XS.goto X70.here hx rfl (pc0 := 165) (pc' := 169) rfl (hb hby at_165) (by decide) (by decide) ?_
        exact k
    obtain ⟨vr75, _, ⟨T75, L75, k75, n75⟩, -, X75, ⟨Lc75, hQ75, l75, y75, z75⟩, st75⟩ := Jvm.LawKit.callS X70 hx (y := (⟨"com/example/dispatch_by_catalog/dispatchbycatalog/store/RecordWriterToBytesPinLaw", "longAt", "([BIJ)Z"⟩ : MethodName)) hown (mvT hZ (hw _ (List.mem_of_getElem? (i := 45) rfl))) (mvT hZ (hw _ (List.mem_of_getElem? (i := 46) rfl))) (mvT hZ (hw _ (List.mem_of_getElem? (i := 47) rfl))) (mvT hZ (hw _ (List.mem_of_getElem? (i := 48) rfl))) (by decide) (backOf (W := 0) (rmla17_9 l Z a0 hw [] xtb17_0_58 q1 (.int (nar .byte (vnu0_1 q0))) (.int (nar .byte (vnu0_2 q0))) (.int (nar .byte (vnu0_3 q0))) (.int (nar .byte (vnu0_4 q0))) (.int (nar .byte (vnu0_5 q0))) (.int (nar .byte (vnu0_6 q0))) (.int (nar .byte (vnu0_7 q0))) (.int (nar .byte (vnu0_8 q0))) (.int (nar .byte (v8_2 (v0_2 q0 q1 p2 p3)))) (nar .byte (vnu9_1 q1)) (nar .byte (vnu9_2 q1)) (nar .byte (vnu9_3 q1)) (nar .byte (vnu9_4 q1)) (nar .byte (vnu9_5 q1)) (nar .byte (vnu9_6 q1)) (nar .byte (vnu9_7 q1)) (nar .byte (vnu9_8 q1)) ktb17_1_58 T58.heap n0 z67 po58_0) hZ (hw _ (List.mem_of_getElem? (i := 48) rfl)) (hw _ (List.mem_of_getElem? (i := 47) rfl)) (by decide) (by decide)) (g := (mkF m 238 #[.val (.long q0), .second, .val (.long q1), .second, .val (.int p2), .val (.int p3), .val (.int (v0_2 q0 q1 p2 p3)), .val (.int (0 : Int32)), .val (.ref b6), .val (.ref xtb0_0_17), .val (.ref b25), .val (.ref xtb17_0_58), .val (.int (9 : Int32)), .unset] [(.long q1), (.int (9 : Int32)), (.ref xtb17_0_58)])) rfl (by rw [hml]; rfl) (argsL := [(.ref xtb17_0_58), (.int (9 : Int32)), (.long q1)]) (rest := []) (lenOf pd___BIJ_Z rfl) rfl (by show 2 * 0 + _ ≤ _; exact Nat.le_of_eq rfl) (hb hby at_238) (fun _ _ => ⟨rfl, e70, (by decide : 5 + 0 ≤ _), (by decide : 143 + 0 ≤ _)⟩)
    dsimp only [Pt.U, Pt.locs, Pt.cells, Pt.slots] at X75 l75 y75 z75 st75 hQ75
    subst l75 y75 z75
    have N75q := (show _ ∧ _ ∧ _ from hQ75).1
    have hv75 := (show _ ∧ _ ∧ _ from hQ75).2.1
    have e75 := (show _ ∧ _ ∧ _ from hQ75).2.2
    clear hQ75
    subst hv75
    have N75 := Fr.app N70 N75q
    have hin76 : ¬ ((0 : Int32) < 0 ∨ cl69.slots.size ≤ ((0 : Int32)).toNatClampNeg) := inb_of S69 ⟨by decide, by decide⟩
    have hin77 : ¬ ((0 : Int32) < 0 ∨ cl69.slots.size ≤ ((0 : Int32)).toNatClampNeg) := inb_of S69 ⟨by decide, by decide⟩
    obtain ⟨T78, h78, X78, e78, W78, st78⟩ := stB X75 hx hZ e75 Ar69 (j := (0 : Int32)) hin77 (g := (mkF m 256 #[.val (.long q0), .second, .val (.long q1), .second, .val (.int p2), .val (.int p3), .val (.int (v0_2 q0 q1 p2 p3)), .val (.int (0 : Int32)), .val (.ref b6), .val (.ref xtb0_0_17), .val (.ref b25), .val (.ref xtb17_0_58), .val (.int (9 : Int32)), .unset] [(.int (((nar .byte (vnu0_1 q0)) ^^^ (-1 : Int32)).toInt8.toInt32)), (.int (0 : Int32)), (.ref xtb17_0_58)])) rfl rfl (hb hby at_256)
    have V78 : Arv Z h78 xtb17_0_58 ktb17_1_58 .byte (17 : Int32) [(.int (nar .byte (v0_10 q0 q1 p2 p3))), (.int (nar .byte (vnu0_2 q0))), (.int (nar .byte (vnu0_3 q0))), (.int (nar .byte (vnu0_4 q0))), (.int (nar .byte (vnu0_5 q0))), (.int (nar .byte (vnu0_6 q0))), (.int (nar .byte (vnu0_7 q0))), (.int (nar .byte (vnu0_8 q0))), (.int (nar .byte (v8_2 (v0_2 q0 q1 p2 p3)))), (.int (nar .byte (vnu9_1 q1))), (.int (nar .byte (vnu9_2 q1))), (.int (nar .byte (vnu9_3 q1))), (.int (nar .byte (vnu9_4 q1))), (.int (nar .byte (vnu9_5 q1))), (.int (nar .byte (vnu9_6 q1))), (.int (nar .byte (vnu9_7 q1))), (.int (nar .byte (vnu9_8 q1)))] (.int (0 : Int32)) := Arv.set Ar69 qc69 S69 M69 Ha69 G69 (fits_nar_byte (v0_10 q0 q1 p2 p3)) W78 0 rfl (Nat.le_of_ble_eq_true rfl)
    have N78 := Fr.snoc X78 N75 g65
    have z79 : n0 ≤ h78.size := Nat.le_trans z67 (Keep.of_wr W78).1
    have hs80 : h0.size ≤ h78.size := Nat.le_trans hs68 (Keep.of_wr W78).1
    obtain ⟨cl81, Ar81, qc81, S81, M81, Ha81, G81⟩ := id V78
    have hin82 : ¬ ((16 : Int32) < 0 ∨ cl81.slots.size ≤ ((16 : Int32)).toNatClampNeg) := inb_of S81 ⟨by decide, by decide⟩
    have hin83 : ¬ ((16 : Int32) < 0 ∨ cl81.slots.size ≤ ((16 : Int32)).toNatClampNeg) := inb_of S81 ⟨by decide, by decide⟩
    obtain ⟨T84, h84, X84, e84, W84, st84⟩ := stB X78 hx hZ e78 Ar81 (j := (16 : Int32)) hin83 (g := (mkF m 275 #[.val (.long q0), .second, .val (.long q1), .second, .val (.int p2), .val (.int p3), .val (.int (v0_2 q0 q1 p2 p3)), .val (.int (0 : Int32)), .val (.ref b6), .val (.ref xtb0_0_17), .val (.ref b25), .val (.ref xtb17_0_58), .val (.int (9 : Int32)), .unset] [(.int (((nar .byte (vnu9_8 q1)) ^^^ (-1 : Int32)).toInt8.toInt32)), (.int (16 : Int32)), (.ref xtb17_0_58)])) rfl rfl (hb hby at_275)
    have V84 : Arv Z h84 xtb17_0_58 ktb17_1_58 .byte (17 : Int32) [(.int (nar .byte (v0_10 q0 q1 p2 p3))), (.int (nar .byte (vnu0_2 q0))), (.int (nar .byte (vnu0_3 q0))), (.int (nar .byte (vnu0_4 q0))), (.int (nar .byte (vnu0_5 q0))), (.int (nar .byte (vnu0_6 q0))), (.int (nar .byte (vnu0_7 q0))), (.int (nar .byte (vnu0_8 q0))), (.int (nar .byte (v8_2 (v0_2 q0 q1 p2 p3)))), (.int (nar .byte (vnu9_1 q1))), (.int (nar .byte (vnu9_2 q1))), (.int (nar .byte (vnu9_3 q1))), (.int (nar .byte (vnu9_4 q1))), (.int (nar .byte (vnu9_5 q1))), (.int (nar .byte (vnu9_6 q1))), (.int (nar .byte (vnu9_7 q1))), (.int (nar .byte (v0_11 q0 q1 p2 p3)))] (.int (0 : Int32)) := Arv.set Ar81 qc81 S81 M81 Ha81 G81 (fits_nar_byte (v0_11 q0 q1 p2 p3)) W84 16 rfl (Nat.le_of_ble_eq_true rfl)
    have N84 := Fr.snoc X84 N78 g65
    have z85 : n0 ≤ h84.size := Nat.le_trans z79 (Keep.of_wr W84).1
    have hs86 : h0.size ≤ h84.size := Nat.le_trans hs80 (Keep.of_wr W84).1
    have k88 := (((po55_0.keep K58).wr W78).wr W84)
    have k89 := (((po55_1.keep K58 nin0).other W78 (Or.inl ne59)).other W84 (Or.inl ne59))
    have k90 := (((po55_2.keep K58 nin0).other W78 (Or.inl ne59)).other W84 (Or.inl ne59))
    have k91 := (((po55_3.keep K58 nin0).other W78 ne64).other W84 ne64)
    obtain ⟨cq87, kq87, q87a, q87b, q87c⟩ := isOf hZ e84 k88
    obtain ⟨vr87, _, ⟨T87, L87, k87, n87⟩, -, X87, ⟨Lc87, hQ87, l87, y87, z87⟩, st87⟩ := X84.virtualBack hx (y := (⟨"com/example/dispatch_by_catalog/dispatchbycatalog/store/RecordWriter", "toBytes", "()[B"⟩ : MethodName)) (z := (⟨"com/example/dispatch_by_catalog/dispatchbycatalog/store/RecordWriter", "toBytes", "()[B"⟩ : MethodName)) hown (mvT hZ (hw _ (List.mem_of_getElem? (i := 12) rfl))) (mvT hZ (hw _ (List.mem_of_getElem? (i := 13) rfl))) (notFace_of_selects (args := #[]) (mvT hZ (hw _ (List.mem_of_getElem? (i := 15) rfl)))) (mvT hZ (hw _ (List.mem_of_getElem? (i := 15) rfl))) (mvT hZ (hw _ (List.mem_of_getElem? (i := 14) rfl))) (by decide) (backOf (W := 0) (rmtb17 l Z a0 hw [] b6 x1_0_11 (.int (nar .byte (vnu0_1 q0))) (.int (nar .byte (vnu0_2 q0))) (.int (nar .byte (vnu0_3 q0))) (.int (nar .byte (vnu0_4 q0))) (.int (nar .byte (vnu0_5 q0))) (.int (nar .byte (vnu0_6 q0))) (.int (nar .byte (vnu0_7 q0))) (.int (nar .byte (vnu0_8 q0))) (.int (nar .byte (v8_2 (v0_2 q0 q1 p2 p3)))) (.int (nar .byte (vnu9_1 q1))) (.int (nar .byte (vnu9_2 q1))) (.int (nar .byte (vnu9_3 q1))) (.int (nar .byte (vnu9_4 q1))) (.int (nar .byte (vnu9_5 q1))) (.int (nar .byte (vnu9_6 q1))) (.int (nar .byte (vnu9_7 q1))) (.int (nar .byte (vnu9_8 q1))) (.int (0 : Int32)) (.int (0 : Int32)) (.int (0 : Int32)) (.int (0 : Int32)) (.int (0 : Int32)) (.int (0 : Int32)) (.int (0 : Int32)) (.int (0 : Int32)) (.int (0 : Int32)) (.int (0 : Int32)) (.int (0 : Int32)) (.int (0 : Int32)) (.int (0 : Int32)) (.int (0 : Int32)) (.int (0 : Int32)) (.int (0 : Int32)) (.int (0 : Int32)) (.int (0 : Int32)) (.int (0 : Int32)) (.int (0 : Int32)) (.int (0 : Int32)) (.int (0 : Int32)) (.int (0 : Int32)) (.int (0 : Int32)) (.int (0 : Int32)) (.int (0 : Int32)) (.int (0 : Int32)) (.int (0 : Int32)) (.int (0 : Int32)) (.int (0 : Int32)) (.int (0 : Int32)) (.int (0 : Int32)) (.int (0 : Int32)) (.int (0 : Int32)) (.int (0 : Int32)) (.int (0 : Int32)) (.int (0 : Int32)) (.int (0 : Int32)) (.int (0 : Int32)) (.int (0 : Int32)) (.int (0 : Int32)) (.int (0 : Int32)) (.int (0 : Int32)) (.int (0 : Int32)) (.int (0 : Int32)) (.int (0 : Int32)) (.int (0 : Int32)) k1_1_11 h84 n0 z85 k88 k89 k90 k91) hZ (hw _ (List.mem_of_getElem? (i := 16) rfl)) (hw _ (List.mem_of_getElem? (i := 2) rfl)) (by decide) (by decide)) q87a q87c (g := (mkF m 278 #[.val (.long q0), .second, .val (.long q1), .second, .val (.int p2), .val (.int p3), .val (.int (v0_2 q0 q1 p2 p3)), .val (.int (0 : Int32)), .val (.ref b6), .val (.ref xtb0_0_17), .val (.ref b25), .val (.ref xtb17_0_58), .val (.int (9 : Int32)), .unset] [(.ref b6)])) rfl (by rw [hml]; rfl) (Steps.refl _) (argsL := []) (rest := []) (lenOf pd____B rfl) rfl (by show 2 * 0 + _ ≤ _; exact Nat.le_of_eq rfl) (hb hby at_278) (fun _ _ => ⟨rfl, e84, (by decide : 5 + 1 ≤ _), (by decide : 143 + 17 ≤ _)⟩)
    dsimp only [Pt.U, Pt.locs, Pt.cells, Pt.slots] at X87 l87 y87 z87 st87 hQ87
    subst l87 y87 z87
    have N87q := (show _ ∧ _ from hQ87).1
    have hq87 := (show _ ∧ _ from hQ87).2
    clear hQ87
    obtain ⟨xtb17_0_87, ktb17_1_87, hq87x⟩ := hq87
    have hv87 := hq87x.1
    have szxtb17_0_87 := hq87x.2.1
    have K87 := hq87x.2.2.1
    have po87_0 := hq87x.2.2.2
    clear hq87x
    subst hv87
    have ne92 : b6 ≠ xtb17_0_87 := Nat.ne_of_lt (Nat.lt_of_lt_of_le k88.lt szxtb17_0_87)
    have k93 := (((k60.keep K58).wr W78).wr W84)
    have ne94 : b25 ≠ xtb17_0_87 := Nat.ne_of_lt (Nat.lt_of_lt_of_le k93.lt szxtb17_0_87)
    have k95 := (((k62.keep K58 nin0).other W78 ne63).other W84 ne63)
    have ne96 : xtb0_0_17 ≠ xtb17_0_87 := Nat.ne_of_lt (Nat.lt_of_lt_of_le k95.lt szxtb17_0_87)
    have ne97 : x1_0_11 ≠ xtb17_0_87 := Nat.ne_of_lt (Nat.lt_of_lt_of_le k91.lt szxtb17_0_87)
    have ne98 : xtb17_0_58 ≠ xtb17_0_87 := Nat.ne_of_lt (Nat.lt_of_lt_of_le V84.lt szxtb17_0_87)
    have g99 : n0 ≤ xtb17_0_87 := Nat.le_trans z85 szxtb17_0_87
    have sz100 : h0.size ≤ xtb17_0_87 := Nat.le_trans hs86 szxtb17_0_87
    have z101 : n0 ≤ T87.heap.size := Nat.le_trans z85 K87.1
    have hs102 : h0.size ≤ T87.heap.size := Nat.le_trans hs86 K87.1
    have N87 := Fr.app N84 N87q
    obtain ⟨cl103, Ar103, qc103, S103, M103, Ha103, G103⟩ := id po87_0
    obtain ⟨vr104, _, ⟨T104, L104, k104, n104⟩, -, X104, ⟨Lc104, hQ104, l104, y104, z104⟩, st104⟩ := Jvm.LawKit.callS X87 hx (y := (⟨"com/example/dispatch_by_catalog/dispatchbycatalog/store/RecordWriterToBytesPinLaw", "longAt", "([BIJ)Z"⟩ : MethodName)) hown (mvT hZ (hw _ (List.mem_of_getElem? (i := 45) rfl))) (mvT hZ (hw _ (List.mem_of_getElem? (i := 46) rfl))) (mvT hZ (hw _ (List.mem_of_getElem? (i := 47) rfl))) (mvT hZ (hw _ (List.mem_of_getElem? (i := 48) rfl))) (by decide) (backOf (W := 0) (rmla17_0 l Z a0 hw [] xtb17_0_87 q0 (nar .byte (vnu0_1 q0)) (nar .byte (vnu0_2 q0)) (nar .byte (vnu0_3 q0)) (nar .byte (vnu0_4 q0)) (nar .byte (vnu0_5 q0)) (nar .byte (vnu0_6 q0)) (nar .byte (vnu0_7 q0)) (nar .byte (vnu0_8 q0)) (.int (nar .byte (v8_2 (v0_2 q0 q1 p2 p3)))) (.int (nar .byte (vnu9_1 q1))) (.int (nar .byte (vnu9_2 q1))) (.int (nar .byte (vnu9_3 q1))) (.int (nar .byte (vnu9_4 q1))) (.int (nar .byte (vnu9_5 q1))) (.int (nar .byte (vnu9_6 q1))) (.int (nar .byte (vnu9_7 q1))) (.int (nar .byte (vnu9_8 q1))) ktb17_1_87 T87.heap n0 z101 po87_0) hZ (hw _ (List.mem_of_getElem? (i := 48) rfl)) (hw _ (List.mem_of_getElem? (i := 47) rfl)) (by decide) (by decide)) (g := (mkF m 305 #[.val (.long q0), .second, .val (.long q1), .second, .val (.int p2), .val (.int p3), .val (.int (v0_2 q0 q1 p2 p3)), .val (.int (0 : Int32)), .val (.ref b6), .val (.ref xtb0_0_17), .val (.ref b25), .val (.ref xtb17_0_58), .val (.int (9 : Int32)), .val (.ref xtb17_0_87)] [(.long q0), (.int (0 : Int32)), (.ref xtb17_0_87)])) rfl (by rw [hml]; rfl) (argsL := [(.ref xtb17_0_87), (.int (0 : Int32)), (.long q0)]) (rest := []) (lenOf pd___BIJ_Z rfl) rfl (by show 2 * 0 + _ ≤ _; exact Nat.le_of_eq rfl) (hb hby at_305) (fun _ _ => ⟨rfl, rfl, (by decide : 6 + 0 ≤ _), (by decide : 160 + 0 ≤ _)⟩)
    dsimp only [Pt.U, Pt.locs, Pt.cells, Pt.slots] at X104 l104 y104 z104 st104 hQ104
    subst l104 y104 z104
    have N104q := (show _ ∧ _ ∧ _ from hQ104).1
    have hv104 := (show _ ∧ _ ∧ _ from hQ104).2.1
    have e104 := (show _ ∧ _ ∧ _ from hQ104).2.2
    clear hQ104
    subst hv104
    have N104 := Fr.app N87 N104q
    have pre105 : ∀ t, Steps p.tables e below (T104.setTop (mkF m 308 #[.val (.long q0), .second, .val (.long q1), .second, .val (.int p2), .val (.int p3), .val (.int (v0_2 q0 q1 p2 p3)), .val (.int (0 : Int32)), .val (.ref b6), .val (.ref xtb0_0_17), .val (.ref b25), .val (.ref xtb17_0_58), .val (.int (9 : Int32)), .val (.ref xtb17_0_87)] [(.int (fla17_0 q0 (nar .byte (vnu0_1 q0)) (nar .byte (vnu0_2 q0)) (nar .byte (vnu0_3 q0)) (nar .byte (vnu0_4 q0)) (nar .byte (vnu0_5 q0)) (nar .byte (vnu0_6 q0)) (nar .byte (vnu0_7 q0)) (nar .byte (vnu0_8 q0))))])) t → Steps p.tables e below (s₁.setTop (entryFrame m #[(.long q0), (.long q1), (.int p2), (.int p3)] maxLocals)) t := by
      intro t k
      refine pre74 t ?_
      show Steps p.tables e below (T70.setTop (mkF m 169 #[.val (.long q0), .second, .val (.long q1), .second, .val (.int p2), .val (.int p3), .val (.int (v0_2 q0 q1 p2 p3)), .val (.int (0 : Int32)), .val (.ref b6), .val (.ref xtb0_0_17), .val (.ref b25), .val (.ref xtb17_0_58), .val (.int (9 : Int32)), .unset] [(.int (v0_7 q0 q1 p2 p3)), (.int (nar .byte (v8_2 (v0_2 q0 q1 p2 p3))))])) _
      refine XS.icmpYes X70.here hx rfl (pc0 := 169) (pc' := 174) rfl (hb hby at_169) rfl (XT.ii_eq_t (own_v0_8 q0 q1 p2 p3)) (by decide) (by decide) ?_
      show Steps p.tables e below (T70.setTop (mkF m 174 #[.val (.long q0), .second, .val (.long q1), .second, .val (.int p2), .val (.int p3), .val (.int (v0_2 q0 q1 p2 p3)), .val (.int (0 : Int32)), .val (.ref b6), .val (.ref xtb0_0_17), .val (.ref b25), .val (.ref xtb17_0_58), .val (.int (9 : Int32)), .unset] [])) _
      refine XS.iload X70.here hx rfl (hb hby at_174) rfl ?_
      show Steps p.tables e below (T70.setTop (mkF m 176 #[.val (.long q0), .second, .val (.long q1), .second, .val (.int p2), .val (.int p3), .val (.int (v0_2 q0 q1 p2 p3)), .val (.int (0 : Int32)), .val (.ref b6), .val (.ref xtb0_0_17), .val (.ref b25), .val (.ref xtb17_0_58), .val (.int (9 : Int32)), .unset] [(.int (0 : Int32))])) _
      refine XS.ifYes X70.here hx rfl (pc0 := 176) (pc' := 233) rfl (hb hby at_176) rfl (XT.i0_eq_t (by decide)) (by decide) (by decide) ?_
      show Steps p.tables e below (T70.setTop (mkF m 233 #[.val (.long q0), .second, .val (.long q1), .second, .val (.int p2), .val (.int p3), .val (.int (v0_2 q0 q1 p2 p3)), .val (.int (0 : Int32)), .val (.ref b6), .val (.ref xtb0_0_17), .val (.ref b25), .val (.ref xtb17_0_58), .val (.int (9 : Int32)), .unset] [])) _
      refine XS.aload X70.here hx rfl (hb hby at_233) rfl rfl ?_
      show Steps p.tables e below (T70.setTop (mkF m 235 #[.val (.long q0), .second, .val (.long q1), .second, .val (.int p2), .val (.int p3), .val (.int (v0_2 q0 q1 p2 p3)), .val (.int (0 : Int32)), .val (.ref b6), .val (.ref xtb0_0_17), .val (.ref b25), .val (.ref xtb17_0_58), .val (.int (9 : Int32)), .unset] [(.ref xtb17_0_58)])) _
      refine XS.iload X70.here hx rfl (hb hby at_235) rfl ?_
      show Steps p.tables e below (T70.setTop (mkF m 237 #[.val (.long q0), .second, .val (.long q1), .second, .val (.int p2), .val (.int p3), .val (.int (v0_2 q0 q1 p2 p3)), .val (.int (0 : Int32)), .val (.ref b6), .val (.ref xtb0_0_17), .val (.ref b25), .val (.ref xtb17_0_58), .val (.int (9 : Int32)), .unset] [(.int (9 : Int32)), (.ref xtb17_0_58)])) _
      refine XT.lloadN X70.here hx rfl (hb hby at_237) rfl ?_
      show Steps p.tables e below (T70.setTop (mkF m 238 #[.val (.long q0), .second, .val (.long q1), .second, .val (.int p2), .val (.int p3), .val (.int (v0_2 q0 q1 p2 p3)), .val (.int (0 : Int32)), .val (.ref b6), .val (.ref xtb0_0_17), .val (.ref b25), .val (.ref xtb17_0_58), .val (.int (9 : Int32)), .unset] [(.long q1), (.int (9 : Int32)), (.ref xtb17_0_58)])) _
      refine st75 _ ?_
      show Steps p.tables e below (T75.setTop (mkF m 241 #[.val (.long q0), .second, .val (.long q1), .second, .val (.int p2), .val (.int p3), .val (.int (v0_2 q0 q1 p2 p3)), .val (.int (0 : Int32)), .val (.ref b6), .val (.ref xtb0_0_17), .val (.ref b25), .val (.ref xtb17_0_58), .val (.int (9 : Int32)), .unset] [(.int (fla17_9 q1 (nar .byte (vnu9_1 q1)) (nar .byte (vnu9_2 q1)) (nar .byte (vnu9_3 q1)) (nar .byte (vnu9_4 q1)) (nar .byte (vnu9_5 q1)) (nar .byte (vnu9_6 q1)) (nar .byte (vnu9_7 q1)) (nar .byte (vnu9_8 q1))))])) _
      refine XS.ifYes X75.here hx rfl (pc0 := 241) (pc' := 246) rfl (hb hby at_241) rfl (XT.i0_ne_t (own_v0_9 q0 q1 p2 p3)) (by decide) (by decide) ?_
      show Steps p.tables e below (T75.setTop (mkF m 246 #[.val (.long q0), .second, .val (.long q1), .second, .val (.int p2), .val (.int p3), .val (.int (v0_2 q0 q1 p2 p3)), .val (.int (0 : Int32)), .val (.ref b6), .val (.ref xtb0_0_17), .val (.ref b25), .val (.ref xtb17_0_58), .val (.int (9 : Int32)), .unset] [])) _
      refine XS.aload X75.here hx rfl (hb hby at_246) rfl rfl ?_
      show Steps p.tables e below (T75.setTop (mkF m 248 #[.val (.long q0), .second, .val (.long q1), .second, .val (.int p2), .val (.int p3), .val (.int (v0_2 q0 q1 p2 p3)), .val (.int (0 : Int32)), .val (.ref b6), .val (.ref xtb0_0_17), .val (.ref b25), .val (.ref xtb17_0_58), .val (.int (9 : Int32)), .unset] [(.ref xtb17_0_58)])) _
      refine XT.iconstV X75.here hx rfl (0 : Int32) (hb hby at_248) (by decide) ?_
      show Steps p.tables e below (T75.setTop (mkF m 249 #[.val (.long q0), .second, .val (.long q1), .second, .val (.int p2), .val (.int p3), .val (.int (v0_2 q0 q1 p2 p3)), .val (.int (0 : Int32)), .val (.ref b6), .val (.ref xtb0_0_17), .val (.ref b25), .val (.ref xtb17_0_58), .val (.int (9 : Int32)), .unset] [(.int (0 : Int32)), (.ref xtb17_0_58)])) _
      refine XS.aload X75.here hx rfl (hb hby at_249) rfl rfl ?_
      show Steps p.tables e below (T75.setTop (mkF m 251 #[.val (.long q0), .second, .val (.long q1), .second, .val (.int p2), .val (.int p3), .val (.int (v0_2 q0 q1 p2 p3)), .val (.int (0 : Int32)), .val (.ref b6), .val (.ref xtb0_0_17), .val (.ref b25), .val (.ref xtb17_0_58), .val (.int (9 : Int32)), .unset] [(.ref xtb17_0_58), (.int (0 : Int32)), (.ref xtb17_0_58)])) _
      refine XT.iconstV X75.here hx rfl (0 : Int32) (hb hby at_251) (by decide) ?_
      show Steps p.tables e below (T75.setTop (mkF m 252 #[.val (.long q0), .second, .val (.long q1), .second, .val (.int p2), .val (.int p3), .val (.int (v0_2 q0 q1 p2 p3)), .val (.int (0 : Int32)), .val (.ref b6), .val (.ref xtb0_0_17), .val (.ref b25), .val (.ref xtb17_0_58), .val (.int (9 : Int32)), .unset] [(.int (0 : Int32)), (.ref xtb17_0_58), (.int (0 : Int32)), (.ref xtb17_0_58)])) _
      refine X75.baloadBytes hx (j := (0 : Int32)) (v := (.int (nar .byte (vnu0_1 q0)))) (by rw [e75]; exact Ar69.1) (State.isArrayOf_alike hZ.alike Ar69.2.1) Ar69.2.2 hin76 (Has.at Ha69 hin76 rfl) (g := (mkF m 252 #[.val (.long q0), .second, .val (.long q1), .second, .val (.int p2), .val (.int p3), .val (.int (v0_2 q0 q1 p2 p3)), .val (.int (0 : Int32)), .val (.ref b6), .val (.ref xtb0_0_17), .val (.ref b25), .val (.ref xtb17_0_58), .val (.int (9 : Int32)), .unset] [(.int (0 : Int32)), (.ref xtb17_0_58), (.int (0 : Int32)), (.ref xtb17_0_58)])) rfl rfl (hb hby at_252) _ ?_
      show Steps p.tables e below (T75.setTop (mkF m 253 #[.val (.long q0), .second, .val (.long q1), .second, .val (.int p2), .val (.int p3), .val (.int (v0_2 q0 q1 p2 p3)), .val (.int (0 : Int32)), .val (.ref b6), .val (.ref xtb0_0_17), .val (.ref b25), .val (.ref xtb17_0_58), .val (.int (9 : Int32)), .unset] [(.int (nar .byte (vnu0_1 q0))), (.int (0 : Int32)), (.ref xtb17_0_58)])) _
      refine XT.iconstV X75.here hx rfl (-1 : Int32) (hb hby at_253) (by decide) ?_
      show Steps p.tables e below (T75.setTop (mkF m 254 #[.val (.long q0), .second, .val (.long q1), .second, .val (.int p2), .val (.int p3), .val (.int (v0_2 q0 q1 p2 p3)), .val (.int (0 : Int32)), .val (.ref b6), .val (.ref xtb0_0_17), .val (.ref b25), .val (.ref xtb17_0_58), .val (.int (9 : Int32)), .unset] [(.int (-1 : Int32)), (.int (nar .byte (vnu0_1 q0))), (.int (0 : Int32)), (.ref xtb17_0_58)])) _
      refine XT.ixor X75.here hx rfl (hb hby at_254) rfl ?_
      show Steps p.tables e below (T75.setTop (mkF m 255 #[.val (.long q0), .second, .val (.long q1), .second, .val (.int p2), .val (.int p3), .val (.int (v0_2 q0 q1 p2 p3)), .val (.int (0 : Int32)), .val (.ref b6), .val (.ref xtb0_0_17), .val (.ref b25), .val (.ref xtb17_0_58), .val (.int (9 : Int32)), .unset] [(.int ((nar .byte (vnu0_1 q0)) ^^^ (-1 : Int32))), (.int (0 : Int32)), (.ref xtb17_0_58)])) _
      refine XT.i2b X75.here hx rfl (hb hby at_255) rfl ?_
      show Steps p.tables e below (T75.setTop (mkF m 256 #[.val (.long q0), .second, .val (.long q1), .second, .val (.int p2), .val (.int p3), .val (.int (v0_2 q0 q1 p2 p3)), .val (.int (0 : Int32)), .val (.ref b6), .val (.ref xtb0_0_17), .val (.ref b25), .val (.ref xtb17_0_58), .val (.int (9 : Int32)), .unset] [(.int (((nar .byte (vnu0_1 q0)) ^^^ (-1 : Int32)).toInt8.toInt32)), (.int (0 : Int32)), (.ref xtb17_0_58)])) _
      refine st78 _ ?_
      show Steps p.tables e below (T78.setTop (mkF m 257 #[.val (.long q0), .second, .val (.long q1), .second, .val (.int p2), .val (.int p3), .val (.int (v0_2 q0 q1 p2 p3)), .val (.int (0 : Int32)), .val (.ref b6), .val (.ref xtb0_0_17), .val (.ref b25), .val (.ref xtb17_0_58), .val (.int (9 : Int32)), .unset] [])) _
      refine XS.aload X78.here hx rfl (hb hby at_257) rfl rfl ?_
      show Steps p.tables e below (T78.setTop (mkF m 259 #[.val (.long q0), .second, .val (.long q1), .second, .val (.int p2), .val (.int p3), .val (.int (v0_2 q0 q1 p2 p3)), .val (.int (0 : Int32)), .val (.ref b6), .val (.ref xtb0_0_17), .val (.ref b25), .val (.ref xtb17_0_58), .val (.int (9 : Int32)), .unset] [(.ref xtb17_0_58)])) _
      refine XS.iload X78.here hx rfl (hb hby at_259) rfl ?_
      show Steps p.tables e below (T78.setTop (mkF m 261 #[.val (.long q0), .second, .val (.long q1), .second, .val (.int p2), .val (.int p3), .val (.int (v0_2 q0 q1 p2 p3)), .val (.int (0 : Int32)), .val (.ref b6), .val (.ref xtb0_0_17), .val (.ref b25), .val (.ref xtb17_0_58), .val (.int (9 : Int32)), .unset] [(.int (9 : Int32)), (.ref xtb17_0_58)])) _
      refine XT.bipushV X78.here hx rfl (7 : Int32) (hb hby at_261) (by decide) ?_
      show Steps p.tables e below (T78.setTop (mkF m 263 #[.val (.long q0), .second, .val (.long q1), .second, .val (.int p2), .val (.int p3), .val (.int (v0_2 q0 q1 p2 p3)), .val (.int (0 : Int32)), .val (.ref b6), .val (.ref xtb0_0_17), .val (.ref b25), .val (.ref xtb17_0_58), .val (.int (9 : Int32)), .unset] [(.int (7 : Int32)), (.int (9 : Int32)), (.ref xtb17_0_58)])) _
      refine XS.iadd X78.here hx rfl (hb hby at_263) rfl ?_
      show Steps p.tables e below (T78.setTop (mkF m 264 #[.val (.long q0), .second, .val (.long q1), .second, .val (.int p2), .val (.int p3), .val (.int (v0_2 q0 q1 p2 p3)), .val (.int (0 : Int32)), .val (.ref b6), .val (.ref xtb0_0_17), .val (.ref b25), .val (.ref xtb17_0_58), .val (.int (9 : Int32)), .unset] [(.int (16 : Int32)), (.ref xtb17_0_58)])) _
      refine XS.aload X78.here hx rfl (hb hby at_264) rfl rfl ?_
      show Steps p.tables e below (T78.setTop (mkF m 266 #[.val (.long q0), .second, .val (.long q1), .second, .val (.int p2), .val (.int p3), .val (.int (v0_2 q0 q1 p2 p3)), .val (.int (0 : Int32)), .val (.ref b6), .val (.ref xtb0_0_17), .val (.ref b25), .val (.ref xtb17_0_58), .val (.int (9 : Int32)), .unset] [(.ref xtb17_0_58), (.int (16 : Int32)), (.ref xtb17_0_58)])) _
      refine XS.iload X78.here hx rfl (hb hby at_266) rfl ?_
      show Steps p.tables e below (T78.setTop (mkF m 268 #[.val (.long q0), .second, .val (.long q1), .second, .val (.int p2), .val (.int p3), .val (.int (v0_2 q0 q1 p2 p3)), .val (.int (0 : Int32)), .val (.ref b6), .val (.ref xtb0_0_17), .val (.ref b25), .val (.ref xtb17_0_58), .val (.int (9 : Int32)), .unset] [(.int (9 : Int32)), (.ref xtb17_0_58), (.int (16 : Int32)), (.ref xtb17_0_58)])) _
      refine XT.bipushV X78.here hx rfl (7 : Int32) (hb hby at_268) (by decide) ?_
      show Steps p.tables e below (T78.setTop (mkF m 270 #[.val (.long q0), .second, .val (.long q1), .second, .val (.int p2), .val (.int p3), .val (.int (v0_2 q0 q1 p2 p3)), .val (.int (0 : Int32)), .val (.ref b6), .val (.ref xtb0_0_17), .val (.ref b25), .val (.ref xtb17_0_58), .val (.int (9 : Int32)), .unset] [(.int (7 : Int32)), (.int (9 : Int32)), (.ref xtb17_0_58), (.int (16 : Int32)), (.ref xtb17_0_58)])) _
      refine XS.iadd X78.here hx rfl (hb hby at_270) rfl ?_
      show Steps p.tables e below (T78.setTop (mkF m 271 #[.val (.long q0), .second, .val (.long q1), .second, .val (.int p2), .val (.int p3), .val (.int (v0_2 q0 q1 p2 p3)), .val (.int (0 : Int32)), .val (.ref b6), .val (.ref xtb0_0_17), .val (.ref b25), .val (.ref xtb17_0_58), .val (.int (9 : Int32)), .unset] [(.int (16 : Int32)), (.ref xtb17_0_58), (.int (16 : Int32)), (.ref xtb17_0_58)])) _
      refine X78.baloadBytes hx (j := (16 : Int32)) (v := (.int (nar .byte (vnu9_8 q1)))) (by rw [e78]; exact Ar81.1) (State.isArrayOf_alike hZ.alike Ar81.2.1) Ar81.2.2 hin82 (Has.at Ha81 hin82 rfl) (g := (mkF m 271 #[.val (.long q0), .second, .val (.long q1), .second, .val (.int p2), .val (.int p3), .val (.int (v0_2 q0 q1 p2 p3)), .val (.int (0 : Int32)), .val (.ref b6), .val (.ref xtb0_0_17), .val (.ref b25), .val (.ref xtb17_0_58), .val (.int (9 : Int32)), .unset] [(.int (16 : Int32)), (.ref xtb17_0_58), (.int (16 : Int32)), (.ref xtb17_0_58)])) rfl rfl (hb hby at_271) _ ?_
      show Steps p.tables e below (T78.setTop (mkF m 272 #[.val (.long q0), .second, .val (.long q1), .second, .val (.int p2), .val (.int p3), .val (.int (v0_2 q0 q1 p2 p3)), .val (.int (0 : Int32)), .val (.ref b6), .val (.ref xtb0_0_17), .val (.ref b25), .val (.ref xtb17_0_58), .val (.int (9 : Int32)), .unset] [(.int (nar .byte (vnu9_8 q1))), (.int (16 : Int32)), (.ref xtb17_0_58)])) _
      refine XT.iconstV X78.here hx rfl (-1 : Int32) (hb hby at_272) (by decide) ?_
      show Steps p.tables e below (T78.setTop (mkF m 273 #[.val (.long q0), .second, .val (.long q1), .second, .val (.int p2), .val (.int p3), .val (.int (v0_2 q0 q1 p2 p3)), .val (.int (0 : Int32)), .val (.ref b6), .val (.ref xtb0_0_17), .val (.ref b25), .val (.ref xtb17_0_58), .val (.int (9 : Int32)), .unset] [(.int (-1 : Int32)), (.int (nar .byte (vnu9_8 q1))), (.int (16 : Int32)), (.ref xtb17_0_58)])) _
      refine XT.ixor X78.here hx rfl (hb hby at_273) rfl ?_
      show Steps p.tables e below (T78.setTop (mkF m 274 #[.val (.long q0), .second, .val (.long q1), .second, .val (.int p2), .val (.int p3), .val (.int (v0_2 q0 q1 p2 p3)), .val (.int (0 : Int32)), .val (.ref b6), .val (.ref xtb0_0_17), .val (.ref b25), .val (.ref xtb17_0_58), .val (.int (9 : Int32)), .unset] [(.int ((nar .byte (vnu9_8 q1)) ^^^ (-1 : Int32))), (.int (16 : Int32)), (.ref xtb17_0_58)])) _
      refine XT.i2b X78.here hx rfl (hb hby at_274) rfl ?_
      show Steps p.tables e below (T78.setTop (mkF m 275 #[.val (.long q0), .second, .val (.long q1), .second, .val (.int p2), .val (.int p3), .val (.int (v0_2 q0 q1 p2 p3)), .val (.int (0 : Int32)), .val (.ref b6), .val (.ref xtb0_0_17), .val (.ref b25), .val (.ref xtb17_0_58), .val (.int (9 : Int32)), .unset] [(.int (((nar .byte (vnu9_8 q1)) ^^^ (-1 : Int32)).toInt8.toInt32)), (.int (16 : Int32)), (.ref xtb17_0_58)])) _
      refine st84 _ ?_
      show Steps p.tables e below (T84.setTop (mkF m 276 #[.val (.long q0), .second, .val (.long q1), .second, .val (.int p2), .val (.int p3), .val (.int (v0_2 q0 q1 p2 p3)), .val (.int (0 : Int32)), .val (.ref b6), .val (.ref xtb0_0_17), .val (.ref b25), .val (.ref xtb17_0_58), .val (.int (9 : Int32)), .unset] [])) _
      refine XS.aload X84.here hx rfl (hb hby at_276) rfl rfl ?_
      show Steps p.tables e below (T84.setTop (mkF m 278 #[.val (.long q0), .second, .val (.long q1), .second, .val (.int p2), .val (.int p3), .val (.int (v0_2 q0 q1 p2 p3)), .val (.int (0 : Int32)), .val (.ref b6), .val (.ref xtb0_0_17), .val (.ref b25), .val (.ref xtb17_0_58), .val (.int (9 : Int32)), .unset] [(.ref b6)])) _
      refine st87.trans ?_
      show Steps p.tables e below (T87.setTop (mkF m 281 #[.val (.long q0), .second, .val (.long q1), .second, .val (.int p2), .val (.int p3), .val (.int (v0_2 q0 q1 p2 p3)), .val (.int (0 : Int32)), .val (.ref b6), .val (.ref xtb0_0_17), .val (.ref b25), .val (.ref xtb17_0_58), .val (.int (9 : Int32)), .unset] [(.ref xtb17_0_87)])) _
      refine XS.astore X87.here hx rfl (hb hby at_281) rfl rfl (l' := #[.val (.long q0), .second, .val (.long q1), .second, .val (.int p2), .val (.int p3), .val (.int (v0_2 q0 q1 p2 p3)), .val (.int (0 : Int32)), .val (.ref b6), .val (.ref xtb0_0_17), .val (.ref b25), .val (.ref xtb17_0_58), .val (.int (9 : Int32)), .val (.ref xtb17_0_87)]) rfl ?_
      show Steps p.tables e below (T87.setTop (mkF m 283 #[.val (.long q0), .second, .val (.long q1), .second, .val (.int p2), .val (.int p3), .val (.int (v0_2 q0 q1 p2 p3)), .val (.int (0 : Int32)), .val (.ref b6), .val (.ref xtb0_0_17), .val (.ref b25), .val (.ref xtb17_0_58), .val (.int (9 : Int32)), .val (.ref xtb17_0_87)] [])) _
      refine XS.aload X87.here hx rfl (hb hby at_283) rfl rfl ?_
      show Steps p.tables e below (T87.setTop (mkF m 285 #[.val (.long q0), .second, .val (.long q1), .second, .val (.int p2), .val (.int p3), .val (.int (v0_2 q0 q1 p2 p3)), .val (.int (0 : Int32)), .val (.ref b6), .val (.ref xtb0_0_17), .val (.ref b25), .val (.ref xtb17_0_58), .val (.int (9 : Int32)), .val (.ref xtb17_0_87)] [(.ref xtb17_0_87)])) _
      refine XS.aload X87.here hx rfl (hb hby at_285) rfl rfl ?_
      show Steps p.tables e below (T87.setTop (mkF m 287 #[.val (.long q0), .second, .val (.long q1), .second, .val (.int p2), .val (.int p3), .val (.int (v0_2 q0 q1 p2 p3)), .val (.int (0 : Int32)), .val (.ref b6), .val (.ref xtb0_0_17), .val (.ref b25), .val (.ref xtb17_0_58), .val (.int (9 : Int32)), .val (.ref xtb17_0_87)] [(.ref xtb17_0_58), (.ref xtb17_0_87)])) _
      refine XT.acmpNo X87.here hx rfl (hb hby at_287) rfl rfl rfl (XT.aa_eq_f (fun q => (Ne.symm ne98) (Value.ref.inj q))) ?_
      show Steps p.tables e below (T87.setTop (mkF m 290 #[.val (.long q0), .second, .val (.long q1), .second, .val (.int p2), .val (.int p3), .val (.int (v0_2 q0 q1 p2 p3)), .val (.int (0 : Int32)), .val (.ref b6), .val (.ref xtb0_0_17), .val (.ref b25), .val (.ref xtb17_0_58), .val (.int (9 : Int32)), .val (.ref xtb17_0_87)] [])) _
      refine XS.aload X87.here hx rfl (hb hby at_290) rfl rfl ?_
      show Steps p.tables e below (T87.setTop (mkF m 292 #[.val (.long q0), .second, .val (.long q1), .second, .val (.int p2), .val (.int p3), .val (.int (v0_2 q0 q1 p2 p3)), .val (.int (0 : Int32)), .val (.ref b6), .val (.ref xtb0_0_17), .val (.ref b25), .val (.ref xtb17_0_58), .val (.int (9 : Int32)), .val (.ref xtb17_0_87)] [(.ref xtb17_0_87)])) _
      refine X87.arraylength hx Ar103.1 (State.isArrayOf_alike hZ.alike Ar103.2.1) (g := (mkF m 292 #[.val (.long q0), .second, .val (.long q1), .second, .val (.int p2), .val (.int p3), .val (.int (v0_2 q0 q1 p2 p3)), .val (.int (0 : Int32)), .val (.ref b6), .val (.ref xtb0_0_17), .val (.ref b25), .val (.ref xtb17_0_58), .val (.int (9 : Int32)), .val (.ref xtb17_0_87)] [(.ref xtb17_0_87)])) rfl rfl (hb hby at_292) _ ?_
      rw [len_of S103 M103]
      show Steps p.tables e below (T87.setTop (mkF m 293 #[.val (.long q0), .second, .val (.long q1), .second, .val (.int p2), .val (.int p3), .val (.int (v0_2 q0 q1 p2 p3)), .val (.int (0 : Int32)), .val (.ref b6), .val (.ref xtb0_0_17), .val (.ref b25), .val (.ref xtb17_0_58), .val (.int (9 : Int32)), .val (.ref xtb17_0_87)] [(.int (17 : Int32))])) _
      refine XS.iload X87.here hx rfl (hb hby at_293) rfl ?_
      show Steps p.tables e below (T87.setTop (mkF m 295 #[.val (.long q0), .second, .val (.long q1), .second, .val (.int p2), .val (.int p3), .val (.int (v0_2 q0 q1 p2 p3)), .val (.int (0 : Int32)), .val (.ref b6), .val (.ref xtb0_0_17), .val (.ref b25), .val (.ref xtb17_0_58), .val (.int (9 : Int32)), .val (.ref xtb17_0_87)] [(.int (9 : Int32)), (.int (17 : Int32))])) _
      refine XT.bipushV X87.here hx rfl (8 : Int32) (hb hby at_295) (by decide) ?_
      show Steps p.tables e below (T87.setTop (mkF m 297 #[.val (.long q0), .second, .val (.long q1), .second, .val (.int p2), .val (.int p3), .val (.int (v0_2 q0 q1 p2 p3)), .val (.int (0 : Int32)), .val (.ref b6), .val (.ref xtb0_0_17), .val (.ref b25), .val (.ref xtb17_0_58), .val (.int (9 : Int32)), .val (.ref xtb17_0_87)] [(.int (8 : Int32)), (.int (9 : Int32)), (.int (17 : Int32))])) _
      refine XS.iadd X87.here hx rfl (hb hby at_297) rfl ?_
      show Steps p.tables e below (T87.setTop (mkF m 298 #[.val (.long q0), .second, .val (.long q1), .second, .val (.int p2), .val (.int p3), .val (.int (v0_2 q0 q1 p2 p3)), .val (.int (0 : Int32)), .val (.ref b6), .val (.ref xtb0_0_17), .val (.ref b25), .val (.ref xtb17_0_58), .val (.int (9 : Int32)), .val (.ref xtb17_0_87)] [(.int (17 : Int32)), (.int (17 : Int32))])) _
      refine XS.icmpNo X87.here hx rfl (hb hby at_298) rfl (XT.ii_ne_f (by decide)) ?_
      show Steps p.tables e below (T87.setTop (mkF m 301 #[.val (.long q0), .second, .val (.long q1), .second, .val (.int p2), .val (.int p3), .val (.int (v0_2 q0 q1 p2 p3)), .val (.int (0 : Int32)), .val (.ref b6), .val (.ref xtb0_0_17), .val (.ref b25), .val (.ref xtb17_0_58), .val (.int (9 : Int32)), .val (.ref xtb17_0_87)] [])) _
      refine XS.aload X87.here hx rfl (hb hby at_301) rfl rfl ?_
      show Steps p.tables e below (T87.setTop (mkF m 303 #[.val (.long q0), .second, .val (.long q1), .second, .val (.int p2), .val (.int p3), .val (.int (v0_2 q0 q1 p2 p3)), .val (.int (0 : Int32)), .val (.ref b6), .val (.ref xtb0_0_17), .val (.ref b25), .val (.ref xtb17_0_58), .val (.int (9 : Int32)), .val (.ref xtb17_0_87)] [(.ref xtb17_0_87)])) _
      refine XT.iconstV X87.here hx rfl (0 : Int32) (hb hby at_303) (by decide) ?_
      show Steps p.tables e below (T87.setTop (mkF m 304 #[.val (.long q0), .second, .val (.long q1), .second, .val (.int p2), .val (.int p3), .val (.int (v0_2 q0 q1 p2 p3)), .val (.int (0 : Int32)), .val (.ref b6), .val (.ref xtb0_0_17), .val (.ref b25), .val (.ref xtb17_0_58), .val (.int (9 : Int32)), .val (.ref xtb17_0_87)] [(.int (0 : Int32)), (.ref xtb17_0_87)])) _
      refine XT.lloadN X87.here hx rfl (hb hby at_304) rfl ?_
      show Steps p.tables e below (T87.setTop (mkF m 305 #[.val (.long q0), .second, .val (.long q1), .second, .val (.int p2), .val (.int p3), .val (.int (v0_2 q0 q1 p2 p3)), .val (.int (0 : Int32)), .val (.ref b6), .val (.ref xtb0_0_17), .val (.ref b25), .val (.ref xtb17_0_58), .val (.int (9 : Int32)), .val (.ref xtb17_0_87)] [(.long q0), (.int (0 : Int32)), (.ref xtb17_0_87)])) _
      refine st104 _ ?_
      exact k
    clear pre74 st75 st78 st84 st87 st104
    obtain ⟨T110, L110, X110, e110, N110, pre110⟩ : ∃ (T' : State) (L' : List Loc), Stand p l e room_1 s m #[(.long q0), (.long q1), (.int p2), (.int p3)] below meth c T' L' 6 160 ∧ T'.heap = T87.heap ∧ Fr n0 L' ∧ ∀ t, Steps p.tables e below (T'.setTop (mkF m 327 #[.val (.long q0), .second, .val (.long q1), .second, .val (.int p2), .val (.int p3), .val (.int (v0_2 q0 q1 p2 p3)), .val (.int (0 : Int32)), .val (.ref b6), .val (.ref xtb0_0_17), .val (.ref b25), .val (.ref xtb17_0_58), .val (.int (9 : Int32)), .val (.ref xtb17_0_87)] [(.int (v0_14 q0 q1 p2 p3))])) t → Steps p.tables e below (s₁.setTop (entryFrame m #[(.long q0), (.long q1), (.int p2), (.int p3)] maxLocals)) t := by
      by_cases c106 : (v0_12 q0 q1 p2 p3) = (0 : Int32)
      · skip
        refine ⟨T104, _, X104, e104, N104, fun t k => ?_⟩
        rw [show (v0_14 q0 q1 p2 p3) = (0 : Int32) from (if_pos c106)] at k
        refine pre105 t ?_
        show Steps p.tables e below (T104.setTop (mkF m 308 #[.val (.long q0), .second, .val (.long q1), .second, .val (.int p2), .val (.int p3), .val (.int (v0_2 q0 q1 p2 p3)), .val (.int (0 : Int32)), .val (.ref b6), .val (.ref xtb0_0_17), .val (.ref b25), .val (.ref xtb17_0_58), .val (.int (9 : Int32)), .val (.ref xtb17_0_87)] [(.int (fla17_0 q0 (nar .byte (vnu0_1 q0)) (nar .byte (vnu0_2 q0)) (nar .byte (vnu0_3 q0)) (nar .byte (vnu0_4 q0)) (nar .byte (vnu0_5 q0)) (nar .byte (vnu0_6 q0)) (nar .byte (vnu0_7 q0)) (nar .byte (vnu0_8 q0))))])) _
        refine XS.ifYes X104.here hx rfl (pc0 := 308) (pc' := 326) rfl (hb hby at_308) rfl (XT.i0_eq_t c106) (by decide) (by decide) ?_
        show Steps p.tables e below (T104.setTop (mkF m 326 #[.val (.long q0), .second, .val (.long q1), .second, .val (.int p2), .val (.int p3), .val (.int (v0_2 q0 q1 p2 p3)), .val (.int (0 : Int32)), .val (.ref b6), .val (.ref xtb0_0_17), .val (.ref b25), .val (.ref xtb17_0_58), .val (.int (9 : Int32)), .val (.ref xtb17_0_87)] [])) _
        refine XT.iconstV X104.here hx rfl (0 : Int32) (hb hby at_326) (by decide) ?_
        exact k
      · skip
        obtain ⟨vr107, _, ⟨T107, L107, k107, n107⟩, -, X107, ⟨Lc107, hQ107, l107, y107, z107⟩, st107⟩ := Jvm.LawKit.callS X104 hx (y := (⟨"com/example/dispatch_by_catalog/dispatchbycatalog/store/RecordWriterToBytesPinLaw", "longAt", "([BIJ)Z"⟩ : MethodName)) hown (mvT hZ (hw _ (List.mem_of_getElem? (i := 45) rfl))) (mvT hZ (hw _ (List.mem_of_getElem? (i := 46) rfl))) (mvT hZ (hw _ (List.mem_of_getElem? (i := 47) rfl))) (mvT hZ (hw _ (List.mem_of_getElem? (i := 48) rfl))) (by decide) (backOf (W := 0) (rmla17_9 l Z a0 hw [] xtb17_0_87 q1 (.int (nar .byte (vnu0_1 q0))) (.int (nar .byte (vnu0_2 q0))) (.int (nar .byte (vnu0_3 q0))) (.int (nar .byte (vnu0_4 q0))) (.int (nar .byte (vnu0_5 q0))) (.int (nar .byte (vnu0_6 q0))) (.int (nar .byte (vnu0_7 q0))) (.int (nar .byte (vnu0_8 q0))) (.int (nar .byte (v8_2 (v0_2 q0 q1 p2 p3)))) (nar .byte (vnu9_1 q1)) (nar .byte (vnu9_2 q1)) (nar .byte (vnu9_3 q1)) (nar .byte (vnu9_4 q1)) (nar .byte (vnu9_5 q1)) (nar .byte (vnu9_6 q1)) (nar .byte (vnu9_7 q1)) (nar .byte (vnu9_8 q1)) ktb17_1_87 T87.heap n0 z101 po87_0) hZ (hw _ (List.mem_of_getElem? (i := 48) rfl)) (hw _ (List.mem_of_getElem? (i := 47) rfl)) (by decide) (by decide)) (g := (mkF m 316 #[.val (.long q0), .second, .val (.long q1), .second, .val (.int p2), .val (.int p3), .val (.int (v0_2 q0 q1 p2 p3)), .val (.int (0 : Int32)), .val (.ref b6), .val (.ref xtb0_0_17), .val (.ref b25), .val (.ref xtb17_0_58), .val (.int (9 : Int32)), .val (.ref xtb17_0_87)] [(.long q1), (.int (9 : Int32)), (.ref xtb17_0_87)])) rfl (by rw [hml]; rfl) (argsL := [(.ref xtb17_0_87), (.int (9 : Int32)), (.long q1)]) (rest := []) (lenOf pd___BIJ_Z rfl) rfl (by show 2 * 0 + _ ≤ _; exact Nat.le_of_eq rfl) (hb hby at_316) (fun _ _ => ⟨rfl, e104, (by decide : 6 + 0 ≤ _), (by decide : 160 + 0 ≤ _)⟩)
        dsimp only [Pt.U, Pt.locs, Pt.cells, Pt.slots] at X107 l107 y107 z107 st107 hQ107
        subst l107 y107 z107
        have N107q := (show _ ∧ _ ∧ _ from hQ107).1
        have hv107 := (show _ ∧ _ ∧ _ from hQ107).2.1
        have e107 := (show _ ∧ _ ∧ _ from hQ107).2.2
        clear hQ107
        subst hv107
        have N107 := Fr.app N104 N107q
        have pre108 : ∀ t, Steps p.tables e below (T107.setTop (mkF m 319 #[.val (.long q0), .second, .val (.long q1), .second, .val (.int p2), .val (.int p3), .val (.int (v0_2 q0 q1 p2 p3)), .val (.int (0 : Int32)), .val (.ref b6), .val (.ref xtb0_0_17), .val (.ref b25), .val (.ref xtb17_0_58), .val (.int (9 : Int32)), .val (.ref xtb17_0_87)] [(.int (fla17_9 q1 (nar .byte (vnu9_1 q1)) (nar .byte (vnu9_2 q1)) (nar .byte (vnu9_3 q1)) (nar .byte (vnu9_4 q1)) (nar .byte (vnu9_5 q1)) (nar .byte (vnu9_6 q1)) (nar .byte (vnu9_7 q1)) (nar .byte (vnu9_8 q1))))])) t → Steps p.tables e below (s₁.setTop (entryFrame m #[(.long q0), (.long q1), (.int p2), (.int p3)] maxLocals)) t := by
          intro t k
          refine pre105 t ?_
          show Steps p.tables e below (T104.setTop (mkF m 308 #[.val (.long q0), .second, .val (.long q1), .second, .val (.int p2), .val (.int p3), .val (.int (v0_2 q0 q1 p2 p3)), .val (.int (0 : Int32)), .val (.ref b6), .val (.ref xtb0_0_17), .val (.ref b25), .val (.ref xtb17_0_58), .val (.int (9 : Int32)), .val (.ref xtb17_0_87)] [(.int (fla17_0 q0 (nar .byte (vnu0_1 q0)) (nar .byte (vnu0_2 q0)) (nar .byte (vnu0_3 q0)) (nar .byte (vnu0_4 q0)) (nar .byte (vnu0_5 q0)) (nar .byte (vnu0_6 q0)) (nar .byte (vnu0_7 q0)) (nar .byte (vnu0_8 q0))))])) _
          refine XS.ifNo X104.here hx rfl (hb hby at_308) rfl (XT.i0_eq_f c106) ?_
          show Steps p.tables e below (T104.setTop (mkF m 311 #[.val (.long q0), .second, .val (.long q1), .second, .val (.int p2), .val (.int p3), .val (.int (v0_2 q0 q1 p2 p3)), .val (.int (0 : Int32)), .val (.ref b6), .val (.ref xtb0_0_17), .val (.ref b25), .val (.ref xtb17_0_58), .val (.int (9 : Int32)), .val (.ref xtb17_0_87)] [])) _
          refine XS.aload X104.here hx rfl (hb hby at_311) rfl rfl ?_
          show Steps p.tables e below (T104.setTop (mkF m 313 #[.val (.long q0), .second, .val (.long q1), .second, .val (.int p2), .val (.int p3), .val (.int (v0_2 q0 q1 p2 p3)), .val (.int (0 : Int32)), .val (.ref b6), .val (.ref xtb0_0_17), .val (.ref b25), .val (.ref xtb17_0_58), .val (.int (9 : Int32)), .val (.ref xtb17_0_87)] [(.ref xtb17_0_87)])) _
          refine XS.iload X104.here hx rfl (hb hby at_313) rfl ?_
          show Steps p.tables e below (T104.setTop (mkF m 315 #[.val (.long q0), .second, .val (.long q1), .second, .val (.int p2), .val (.int p3), .val (.int (v0_2 q0 q1 p2 p3)), .val (.int (0 : Int32)), .val (.ref b6), .val (.ref xtb0_0_17), .val (.ref b25), .val (.ref xtb17_0_58), .val (.int (9 : Int32)), .val (.ref xtb17_0_87)] [(.int (9 : Int32)), (.ref xtb17_0_87)])) _
          refine XT.lloadN X104.here hx rfl (hb hby at_315) rfl ?_
          show Steps p.tables e below (T104.setTop (mkF m 316 #[.val (.long q0), .second, .val (.long q1), .second, .val (.int p2), .val (.int p3), .val (.int (v0_2 q0 q1 p2 p3)), .val (.int (0 : Int32)), .val (.ref b6), .val (.ref xtb0_0_17), .val (.ref b25), .val (.ref xtb17_0_58), .val (.int (9 : Int32)), .val (.ref xtb17_0_87)] [(.long q1), (.int (9 : Int32)), (.ref xtb17_0_87)])) _
          refine st107 _ ?_
          exact k
        clear pre105 st107
        by_cases c109 : (v0_13 q0 q1 p2 p3) = (0 : Int32)
        · skip
          refine ⟨T107, _, X107, e107, N107, fun t k => ?_⟩
          rw [show (v0_14 q0 q1 p2 p3) = (0 : Int32) from ((if_neg c106).trans (if_pos c109))] at k
          refine pre108 t ?_
          show Steps p.tables e below (T107.setTop (mkF m 319 #[.val (.long q0), .second, .val (.long q1), .second, .val (.int p2), .val (.int p3), .val (.int (v0_2 q0 q1 p2 p3)), .val (.int (0 : Int32)), .val (.ref b6), .val (.ref xtb0_0_17), .val (.ref b25), .val (.ref xtb17_0_58), .val (.int (9 : Int32)), .val (.ref xtb17_0_87)] [(.int (fla17_9 q1 (nar .byte (vnu9_1 q1)) (nar .byte (vnu9_2 q1)) (nar .byte (vnu9_3 q1)) (nar .byte (vnu9_4 q1)) (nar .byte (vnu9_5 q1)) (nar .byte (vnu9_6 q1)) (nar .byte (vnu9_7 q1)) (nar .byte (vnu9_8 q1))))])) _
          refine XS.ifYes X107.here hx rfl (pc0 := 319) (pc' := 326) rfl (hb hby at_319) rfl (XT.i0_eq_t c109) (by decide) (by decide) ?_
          show Steps p.tables e below (T107.setTop (mkF m 326 #[.val (.long q0), .second, .val (.long q1), .second, .val (.int p2), .val (.int p3), .val (.int (v0_2 q0 q1 p2 p3)), .val (.int (0 : Int32)), .val (.ref b6), .val (.ref xtb0_0_17), .val (.ref b25), .val (.ref xtb17_0_58), .val (.int (9 : Int32)), .val (.ref xtb17_0_87)] [])) _
          refine XT.iconstV X107.here hx rfl (0 : Int32) (hb hby at_326) (by decide) ?_
          exact k
        · skip
          refine ⟨T107, _, X107, e107, N107, fun t k => ?_⟩
          rw [show (v0_14 q0 q1 p2 p3) = (1 : Int32) from ((if_neg c106).trans (if_neg c109))] at k
          refine pre108 t ?_
          show Steps p.tables e below (T107.setTop (mkF m 319 #[.val (.long q0), .second, .val (.long q1), .second, .val (.int p2), .val (.int p3), .val (.int (v0_2 q0 q1 p2 p3)), .val (.int (0 : Int32)), .val (.ref b6), .val (.ref xtb0_0_17), .val (.ref b25), .val (.ref xtb17_0_58), .val (.int (9 : Int32)), .val (.ref xtb17_0_87)] [(.int (fla17_9 q1 (nar .byte (vnu9_1 q1)) (nar .byte (vnu9_2 q1)) (nar .byte (vnu9_3 q1)) (nar .byte (vnu9_4 q1)) (nar .byte (vnu9_5 q1)) (nar .byte (vnu9_6 q1)) (nar .byte (vnu9_7 q1)) (nar .byte (vnu9_8 q1))))])) _
          refine XS.ifNo X107.here hx rfl (hb hby at_319) rfl (XT.i0_eq_f c109) ?_
          show Steps p.tables e below (T107.setTop (mkF m 322 #[.val (.long q0), .second, .val (.long q1), .second, .val (.int p2), .val (.int p3), .val (.int (v0_2 q0 q1 p2 p3)), .val (.int (0 : Int32)), .val (.ref b6), .val (.ref xtb0_0_17), .val (.ref b25), .val (.ref xtb17_0_58), .val (.int (9 : Int32)), .val (.ref xtb17_0_87)] [])) _
          refine XT.iconstV X107.here hx rfl (1 : Int32) (hb hby at_322) (by decide) ?_
          show Steps p.tables e below (T107.setTop (mkF m 323 #[.val (.long q0), .second, .val (.long q1), .second, .val (.int p2), .val (.int p3), .val (.int (v0_2 q0 q1 p2 p3)), .val (.int (0 : Int32)), .val (.ref b6), .val (.ref xtb0_0_17), .val (.ref b25), .val (.ref xtb17_0_58), .val (.int (9 : Int32)), .val (.ref xtb17_0_87)] [(.int (1 : Int32))])) _
          refine XS.goto X107.here hx rfl (pc0 := 323) (pc' := 327) rfl (hb hby at_323) (by decide) (by decide) ?_
          exact k
    have hv111 : (v0_14 q0 q1 p2 p3) = (1 : Int32) := own_v0_14 q0 q1 p2 p3
    obtain ⟨fs, hr, hrun, hended, hW, hsame⟩ := X110.leave (v := some (.int (1 : Int32))) (fun h => by rw [Bd.returns] at h; cases h) hlk
    refine ⟨_, _, pre110 _ ?_, hrun, hended, _, _, rfl, ?_, ⟨_, rfl⟩, hW, hsame.mono (by decide) (by decide)⟩
    · skip
      show Steps p.tables e below (T110.setTop (mkF m 327 #[.val (.long q0), .second, .val (.long q1), .second, .val (.int p2), .val (.int p3), .val (.int (v0_2 q0 q1 p2 p3)), .val (.int (0 : Int32)), .val (.ref b6), .val (.ref xtb0_0_17), .val (.ref b25), .val (.ref xtb17_0_58), .val (.int (9 : Int32)), .val (.ref xtb17_0_87)] [(.int (v0_14 q0 q1 p2 p3))])) _
      rw [hv111]
      exact retN X110 hx (t := .boolean) Bd.returns (by simp) (hb hby at_327) hr
    · skip
      show Q0 Z q0 q1 p2 p3 h0 n0 _ T110.heap _
      rw [e110]
      exact ⟨rfl, N110⟩
  · skip
    obtain ⟨T112, h112, X112, e112, E112, A112, D112, -, st112⟩ := newO X0 hx hZ hown (hw _ (List.mem_of_getElem? (i := 0) rfl)) (hw _ (List.mem_of_getElem? (i := 1) rfl)) (hw _ (List.mem_of_getElem? (i := 2) rfl)) e0 (g := (mkF m 28 #[.val (.long q0), .second, .val (.long q1), .second, .val (.int p2), .val (.int p3), .val (.int (v0_2 q0 q1 p2 p3)), .val (.int (1 : Int32)), .unset, .unset, .unset, .unset, .unset, .unset] [])) rfl (hb hby at_28) (by decide) (by decide)
    obtain ⟨b112, gz112⟩ : ∃ z, z = h0.size := ⟨_, rfl⟩
    rw [← gz112] at A112 D112 st112
    have g113 : n0 ≤ b112 := Nat.le_trans Z0 (Nat.le_of_eq gz112.symm)
    have sz114 : h0.size ≤ b112 := Nat.le_trans (Nat.le_refl h0.size) (Nat.le_of_eq gz112.symm)
    have z115 : n0 ≤ h112.size := Nat.le_trans Z0 E112.1
    have hs116 : h0.size ≤ h112.size := Nat.le_trans (Nat.le_refl h0.size) E112.1
    have F112_written : Fld Z h112 b112 "com/example/dispatch_by_catalog/dispatchbycatalog/store/RecordWriter" "written" "[B" .null := D112 (Or.inl (hw _ (List.mem_of_getElem? (i := 11) rfl))) (ty := (.array .byte)) (by decide)
    have F112_size : Fld Z h112 b112 "com/example/dispatch_by_catalog/dispatchbycatalog/store/RecordWriter" "size" "I" (.int (0 : Int32)) := D112 (Or.inl (hw _ (List.mem_of_getElem? (i := 18) rfl))) (ty := .int) (by decide)
    obtain ⟨vr117, _, ⟨T117, L117, k117, n117⟩, -, X117, ⟨Lc117, hQ117, l117, y117, z117⟩, st117⟩ := X112.specialBack hx (y := (⟨"com/example/dispatch_by_catalog/dispatchbycatalog/store/RecordWriter", "<init>", "()V"⟩ : MethodName)) rfl hown (mvT hZ (hw _ (List.mem_of_getElem? (i := 3) rfl))) (mvT hZ (hw _ (List.mem_of_getElem? (i := 4) rfl))) (mvT hZ (hw _ (List.mem_of_getElem? (i := 5) rfl))) (by decide) (backOf (W := 1) (rm1 l Z a0 hw [] b112 (0 : Int32) .null h112 n0 z115 A112 F112_size F112_written g113) hZ (hw _ (List.mem_of_getElem? (i := 5) rfl)) (hw _ (List.mem_of_getElem? (i := 2) rfl)) (by decide) (by decide)) (g := (mkF m 32 #[.val (.long q0), .second, .val (.long q1), .second, .val (.int p2), .val (.int p3), .val (.int (v0_2 q0 q1 p2 p3)), .val (.int (1 : Int32)), .unset, .unset, .unset, .unset, .unset, .unset] [(.ref b112), (.ref b112)])) rfl (by rw [hml]; rfl) (Steps.refl _) (a := b112) (argsL := []) (rest := [(.ref b112)]) (lenOf pd___V rfl) rfl (by show 2 * 0 + _ ≤ _; exact Nat.le_of_eq rfl) (hb hby at_32) (fun _ _ => ⟨rfl, e112, (by decide : 1 + 1 ≤ _), (by decide : 2 + 64 ≤ _)⟩)
    dsimp only [Pt.U, Pt.locs, Pt.cells, Pt.slots] at X117 l117 y117 z117 st117 hQ117
    subst l117 y117 z117
    have N117q := (show _ ∧ _ from hQ117).1
    have hq117 := (show _ ∧ _ from hQ117).2
    clear hQ117
    obtain ⟨x1_0_117, k1_1_117, hq117x⟩ := hq117
    have hv117 := hq117x.1
    have szx1_0_117 := hq117x.2.1
    have K117 := hq117x.2.2.1
    have po117_0 := hq117x.2.2.2.1
    have po117_1 := hq117x.2.2.2.2.1
    have po117_2 := hq117x.2.2.2.2.2.1
    have po117_3 := hq117x.2.2.2.2.2.2
    clear hq117x
    subst hv117
    have ne118 : b112 ≠ x1_0_117 := Nat.ne_of_lt (Nat.lt_of_lt_of_le A112.lt szx1_0_117)
    have g119 : n0 ≤ x1_0_117 := Nat.le_trans z115 szx1_0_117
    have sz120 : h0.size ≤ x1_0_117 := Nat.le_trans hs116 szx1_0_117
    have z121 : n0 ≤ T117.heap.size := Nat.le_trans z115 K117.1
    have hs122 : h0.size ≤ T117.heap.size := Nat.le_trans hs116 K117.1
    have N117 := Fr.app N0 N117q
    obtain ⟨cq123, kq123, q123a, q123b, q123c⟩ := isOf hZ rfl po117_0
    obtain ⟨vr123, _, ⟨T123, L123, k123, n123⟩, -, X123, ⟨Lc123, hQ123, l123, y123, z123⟩, st123⟩ := X117.virtualBack hx (y := (⟨"com/example/dispatch_by_catalog/dispatchbycatalog/store/RecordWriter", "toBytes", "()[B"⟩ : MethodName)) (z := (⟨"com/example/dispatch_by_catalog/dispatchbycatalog/store/RecordWriter", "toBytes", "()[B"⟩ : MethodName)) hown (mvT hZ (hw _ (List.mem_of_getElem? (i := 12) rfl))) (mvT hZ (hw _ (List.mem_of_getElem? (i := 13) rfl))) (notFace_of_selects (args := #[]) (mvT hZ (hw _ (List.mem_of_getElem? (i := 15) rfl)))) (mvT hZ (hw _ (List.mem_of_getElem? (i := 15) rfl))) (mvT hZ (hw _ (List.mem_of_getElem? (i := 14) rfl))) (by decide) (backOf (W := 0) (rmtb0 l Z a0 hw [] b112 x1_0_117 (.int (0 : Int32)) (.int (0 : Int32)) (.int (0 : Int32)) (.int (0 : Int32)) (.int (0 : Int32)) (.int (0 : Int32)) (.int (0 : Int32)) (.int (0 : Int32)) (.int (0 : Int32)) (.int (0 : Int32)) (.int (0 : Int32)) (.int (0 : Int32)) (.int (0 : Int32)) (.int (0 : Int32)) (.int (0 : Int32)) (.int (0 : Int32)) (.int (0 : Int32)) (.int (0 : Int32)) (.int (0 : Int32)) (.int (0 : Int32)) (.int (0 : Int32)) (.int (0 : Int32)) (.int (0 : Int32)) (.int (0 : Int32)) (.int (0 : Int32)) (.int (0 : Int32)) (.int (0 : Int32)) (.int (0 : Int32)) (.int (0 : Int32)) (.int (0 : Int32)) (.int (0 : Int32)) (.int (0 : Int32)) (.int (0 : Int32)) (.int (0 : Int32)) (.int (0 : Int32)) (.int (0 : Int32)) (.int (0 : Int32)) (.int (0 : Int32)) (.int (0 : Int32)) (.int (0 : Int32)) (.int (0 : Int32)) (.int (0 : Int32)) (.int (0 : Int32)) (.int (0 : Int32)) (.int (0 : Int32)) (.int (0 : Int32)) (.int (0 : Int32)) (.int (0 : Int32)) (.int (0 : Int32)) (.int (0 : Int32)) (.int (0 : Int32)) (.int (0 : Int32)) (.int (0 : Int32)) (.int (0 : Int32)) (.int (0 : Int32)) (.int (0 : Int32)) (.int (0 : Int32)) (.int (0 : Int32)) (.int (0 : Int32)) (.int (0 : Int32)) (.int (0 : Int32)) (.int (0 : Int32)) (.int (0 : Int32)) (.int (0 : Int32)) k1_1_117 T117.heap n0 z121 po117_0 po117_1 po117_2 po117_3) hZ (hw _ (List.mem_of_getElem? (i := 16) rfl)) (hw _ (List.mem_of_getElem? (i := 2) rfl)) (by decide) (by decide)) q123a q123c (g := (mkF m 39 #[.val (.long q0), .second, .val (.long q1), .second, .val (.int p2), .val (.int p3), .val (.int (v0_2 q0 q1 p2 p3)), .val (.int (1 : Int32)), .val (.ref b112), .unset, .unset, .unset, .unset, .unset] [(.ref b112)])) rfl (by rw [hml]; rfl) (Steps.refl _) (argsL := []) (rest := []) (lenOf pd____B rfl) rfl (by show 2 * 0 + _ ≤ _; exact Nat.le_of_eq rfl) (hb hby at_39) (fun _ _ => ⟨rfl, rfl, (by decide : 2 + 1 ≤ _), (by decide : 66 + 0 ≤ _)⟩)
    dsimp only [Pt.U, Pt.locs, Pt.cells, Pt.slots] at X123 l123 y123 z123 st123 hQ123
    subst l123 y123 z123
    have N123q := (show _ ∧ _ from hQ123).1
    have hq123 := (show _ ∧ _ from hQ123).2
    clear hQ123
    obtain ⟨xtb0_0_123, ktb0_1_123, hq123x⟩ := hq123
    have hv123 := hq123x.1
    have szxtb0_0_123 := hq123x.2.1
    have K123 := hq123x.2.2.1
    have po123_0 := hq123x.2.2.2
    clear hq123x
    subst hv123
    have ne124 : b112 ≠ xtb0_0_123 := Nat.ne_of_lt (Nat.lt_of_lt_of_le po117_0.lt szxtb0_0_123)
    have ne125 : x1_0_117 ≠ xtb0_0_123 := Nat.ne_of_lt (Nat.lt_of_lt_of_le po117_3.lt szxtb0_0_123)
    have g126 : n0 ≤ xtb0_0_123 := Nat.le_trans z121 szxtb0_0_123
    have sz127 : h0.size ≤ xtb0_0_123 := Nat.le_trans hs122 szxtb0_0_123
    have z128 : n0 ≤ T123.heap.size := Nat.le_trans z121 K123.1
    have hs129 : h0.size ≤ T123.heap.size := Nat.le_trans hs122 K123.1
    have N123 := Fr.app N117 N123q
    obtain ⟨cl130, Ar130, qc130, S130, M130, Ha130, G130⟩ := id po123_0
    obtain ⟨T131, h131, k131, X131, e131, E131, A131, EA131, st131⟩ := newPE X123 hx hZ (hw _ (List.mem_of_getElem? (i := 9) rfl)) rfl (g := (mkF m 54 #[.val (.long q0), .second, .val (.long q1), .second, .val (.int p2), .val (.int p3), .val (.int (v0_2 q0 q1 p2 p3)), .val (.int (1 : Int32)), .val (.ref b112), .val (.ref xtb0_0_123), .unset, .unset, .unset, .unset] [(.int (60 : Int32))])) rfl (hb hby at_54) rfl (by decide) (cap := 60) (by decide) (by decide) (by decide) (by decide) (ad := "[B") rfl
    obtain ⟨b131, gz131⟩ : ∃ z, z = T123.heap.size := ⟨_, rfl⟩
    rw [← gz131] at A131 EA131 st131
    have k132 := (po117_0.keep K123)
    have ne133 : b112 ≠ b131 := Nat.ne_of_lt (Nat.lt_of_lt_of_le k132.lt (Nat.le_of_eq gz131.symm))
    have k134 := (po117_3.keep K123 nin0)
    have ne135 : x1_0_117 ≠ b131 := Nat.ne_of_lt (Nat.lt_of_lt_of_le k134.lt (Nat.le_of_eq gz131.symm))
    have ne136 : xtb0_0_123 ≠ b131 := Nat.ne_of_lt (Nat.lt_of_lt_of_le po123_0.lt (Nat.le_of_eq gz131.symm))
    have g137 : n0 ≤ b131 := Nat.le_trans z128 (Nat.le_of_eq gz131.symm)
    have sz138 : h0.size ≤ b131 := Nat.le_trans hs129 (Nat.le_of_eq gz131.symm)
    have z139 : n0 ≤ h131.size := Nat.le_trans z128 E131.1
    have hs140 : h0.size ≤ h131.size := Nat.le_trans hs129 E131.1
    have V131 : Arv Z h131 b131 k131 .byte (60 : Int32) [(.int (0 : Int32)), (.int (0 : Int32)), (.int (0 : Int32)), (.int (0 : Int32)), (.int (0 : Int32)), (.int (0 : Int32)), (.int (0 : Int32)), (.int (0 : Int32)), (.int (0 : Int32)), (.int (0 : Int32)), (.int (0 : Int32)), (.int (0 : Int32)), (.int (0 : Int32)), (.int (0 : Int32)), (.int (0 : Int32)), (.int (0 : Int32)), (.int (0 : Int32)), (.int (0 : Int32)), (.int (0 : Int32)), (.int (0 : Int32)), (.int (0 : Int32)), (.int (0 : Int32)), (.int (0 : Int32)), (.int (0 : Int32)), (.int (0 : Int32)), (.int (0 : Int32)), (.int (0 : Int32)), (.int (0 : Int32)), (.int (0 : Int32)), (.int (0 : Int32)), (.int (0 : Int32)), (.int (0 : Int32)), (.int (0 : Int32)), (.int (0 : Int32)), (.int (0 : Int32)), (.int (0 : Int32)), (.int (0 : Int32)), (.int (0 : Int32)), (.int (0 : Int32)), (.int (0 : Int32)), (.int (0 : Int32)), (.int (0 : Int32)), (.int (0 : Int32)), (.int (0 : Int32)), (.int (0 : Int32)), (.int (0 : Int32)), (.int (0 : Int32)), (.int (0 : Int32)), (.int (0 : Int32)), (.int (0 : Int32)), (.int (0 : Int32)), (.int (0 : Int32)), (.int (0 : Int32)), (.int (0 : Int32)), (.int (0 : Int32)), (.int (0 : Int32)), (.int (0 : Int32)), (.int (0 : Int32)), (.int (0 : Int32)), (.int (0 : Int32))] (.int (0 : Int32)) := (Arv.new A131 (by decide)).pad (pad_rep [] (.int (0 : Int32)) 60)
    obtain ⟨cl141, Ar141, qc141, S141, M141, Ha141, G141⟩ := id V131
    have hin142 : ¬ ((0 : Int32) < 0 ∨ cl141.slots.size ≤ ((0 : Int32)).toNatClampNeg) := inb_of S141 ⟨by decide, by decide⟩
    obtain ⟨T143, h143, X143, e143, W143, st143⟩ := stB X131 hx hZ e131 Ar141 (j := (0 : Int32)) hin142 (g := (mkF m 64 #[.val (.long q0), .second, .val (.long q1), .second, .val (.int p2), .val (.int p3), .val (.int (v0_2 q0 q1 p2 p3)), .val (.int (1 : Int32)), .val (.ref b112), .val (.ref xtb0_0_123), .val (.ref b131), .unset, .unset, .unset] [(.int (p3.toInt8.toInt32)), (.int (0 : Int32)), (.ref b131)])) rfl rfl (hb hby at_64)
    have V143 : Arv Z h143 b131 k131 .byte (60 : Int32) [(.int (nar .byte (v0_15 q0 q1 p2 p3))), (.int (0 : Int32)), (.int (0 : Int32)), (.int (0 : Int32)), (.int (0 : Int32)), (.int (0 : Int32)), (.int (0 : Int32)), (.int (0 : Int32)), (.int (0 : Int32)), (.int (0 : Int32)), (.int (0 : Int32)), (.int (0 : Int32)), (.int (0 : Int32)), (.int (0 : Int32)), (.int (0 : Int32)), (.int (0 : Int32)), (.int (0 : Int32)), (.int (0 : Int32)), (.int (0 : Int32)), (.int (0 : Int32)), (.int (0 : Int32)), (.int (0 : Int32)), (.int (0 : Int32)), (.int (0 : Int32)), (.int (0 : Int32)), (.int (0 : Int32)), (.int (0 : Int32)), (.int (0 : Int32)), (.int (0 : Int32)), (.int (0 : Int32)), (.int (0 : Int32)), (.int (0 : Int32)), (.int (0 : Int32)), (.int (0 : Int32)), (.int (0 : Int32)), (.int (0 : Int32)), (.int (0 : Int32)), (.int (0 : Int32)), (.int (0 : Int32)), (.int (0 : Int32)), (.int (0 : Int32)), (.int (0 : Int32)), (.int (0 : Int32)), (.int (0 : Int32)), (.int (0 : Int32)), (.int (0 : Int32)), (.int (0 : Int32)), (.int (0 : Int32)), (.int (0 : Int32)), (.int (0 : Int32)), (.int (0 : Int32)), (.int (0 : Int32)), (.int (0 : Int32)), (.int (0 : Int32)), (.int (0 : Int32)), (.int (0 : Int32)), (.int (0 : Int32)), (.int (0 : Int32)), (.int (0 : Int32)), (.int (0 : Int32))] (.int (0 : Int32)) := Arv.set Ar141 qc141 S141 M141 Ha141 G141 (fits_nar_byte (v0_15 q0 q1 p2 p3)) W143 0 rfl (Nat.le_of_ble_eq_true rfl)
    have N143 := Fr.snoc X143 N123 g137
    have z144 : n0 ≤ h143.size := Nat.le_trans z139 (Keep.of_wr W143).1
    have hs145 : h0.size ≤ h143.size := Nat.le_trans hs140 (Keep.of_wr W143).1
    obtain ⟨cl146, Ar146, qc146, S146, M146, Ha146, G146⟩ := id V143
    have hin147 : ¬ ((59 : Int32) < 0 ∨ cl146.slots.size ≤ ((59 : Int32)).toNatClampNeg) := inb_of S146 ⟨by decide, by decide⟩
    obtain ⟨T148, h148, X148, e148, W148, st148⟩ := stB X143 hx hZ e143 Ar146 (j := (59 : Int32)) hin147 (g := (mkF m 75 #[.val (.long q0), .second, .val (.long q1), .second, .val (.int p2), .val (.int p3), .val (.int (v0_2 q0 q1 p2 p3)), .val (.int (1 : Int32)), .val (.ref b112), .val (.ref xtb0_0_123), .val (.ref b131), .unset, .unset, .unset] [(.int ((XT.ushr p3 (8 : Int32)).toInt8.toInt32)), (.int (59 : Int32)), (.ref b131)])) rfl rfl (hb hby at_75)
    have V148 : Arv Z h148 b131 k131 .byte (60 : Int32) [(.int (nar .byte (v0_15 q0 q1 p2 p3))), (.int (0 : Int32)), (.int (0 : Int32)), (.int (0 : Int32)), (.int (0 : Int32)), (.int (0 : Int32)), (.int (0 : Int32)), (.int (0 : Int32)), (.int (0 : Int32)), (.int (0 : Int32)), (.int (0 : Int32)), (.int (0 : Int32)), (.int (0 : Int32)), (.int (0 : Int32)), (.int (0 : Int32)), (.int (0 : Int32)), (.int (0 : Int32)), (.int (0 : Int32)), (.int (0 : Int32)), (.int (0 : Int32)), (.int (0 : Int32)), (.int (0 : Int32)), (.int (0 : Int32)), (.int (0 : Int32)), (.int (0 : Int32)), (.int (0 : Int32)), (.int (0 : Int32)), (.int (0 : Int32)), (.int (0 : Int32)), (.int (0 : Int32)), (.int (0 : Int32)), (.int (0 : Int32)), (.int (0 : Int32)), (.int (0 : Int32)), (.int (0 : Int32)), (.int (0 : Int32)), (.int (0 : Int32)), (.int (0 : Int32)), (.int (0 : Int32)), (.int (0 : Int32)), (.int (0 : Int32)), (.int (0 : Int32)), (.int (0 : Int32)), (.int (0 : Int32)), (.int (0 : Int32)), (.int (0 : Int32)), (.int (0 : Int32)), (.int (0 : Int32)), (.int (0 : Int32)), (.int (0 : Int32)), (.int (0 : Int32)), (.int (0 : Int32)), (.int (0 : Int32)), (.int (0 : Int32)), (.int (0 : Int32)), (.int (0 : Int32)), (.int (0 : Int32)), (.int (0 : Int32)), (.int (0 : Int32)), (.int (nar .byte (v0_16 q0 q1 p2 p3)))] (.int (0 : Int32)) := Arv.set Ar146 qc146 S146 M146 Ha146 G146 (fits_nar_byte (v0_16 q0 q1 p2 p3)) W148 59 rfl (Nat.le_of_ble_eq_true rfl)
    have N148 := Fr.snoc X148 N143 g137
    have z149 : n0 ≤ h148.size := Nat.le_trans z144 (Keep.of_wr W148).1
    have hs150 : h0.size ≤ h148.size := Nat.le_trans hs145 (Keep.of_wr W148).1
    have k152 := (((k132.ext E131).wr W143).wr W148)
    have k153 := ((((po117_1.keep K123 nin0).ext E131).other W143 (Or.inl ne133)).other W148 (Or.inl ne133))
    have k154 := ((((po117_2.keep K123 nin0).ext E131).other W143 (Or.inl ne133)).other W148 (Or.inl ne133))
    have k155 := (((k134.ext E131).other W143 ne135).other W148 ne135)
    obtain ⟨cq151, kq151, q151a, q151b, q151c⟩ := isOf hZ e148 k152
    obtain ⟨vr151, _, ⟨T151, L151, k151, n151⟩, -, X151, ⟨Lc151, hQ151, l151, y151, z151⟩, st151⟩ := X148.virtualBack hx (y := (⟨"com/example/dispatch_by_catalog/dispatchbycatalog/store/RecordWriter", "number", "(J)Lcom/example/dispatch_by_catalog/dispatchbycatalog/store/RecordWriter;"⟩ : MethodName)) (z := (⟨"com/example/dispatch_by_catalog/dispatchbycatalog/store/RecordWriter", "number", "(J)Lcom/example/dispatch_by_catalog/dispatchbycatalog/store/RecordWriter;"⟩ : MethodName)) hown (mvT hZ (hw _ (List.mem_of_getElem? (i := 31) rfl))) (mvT hZ (hw _ (List.mem_of_getElem? (i := 32) rfl))) (notFace_of_selects (args := #[]) (mvT hZ (hw _ (List.mem_of_getElem? (i := 34) rfl)))) (mvT hZ (hw _ (List.mem_of_getElem? (i := 34) rfl))) (mvT hZ (hw _ (List.mem_of_getElem? (i := 33) rfl))) (by decide) (backOf (W := 0) (rmnu0 l Z a0 hw [] b112 q0 x1_0_117 (.int (0 : Int32)) (.int (0 : Int32)) (.int (0 : Int32)) (.int (0 : Int32)) (.int (0 : Int32)) (.int (0 : Int32)) (.int (0 : Int32)) (.int (0 : Int32)) (.int (0 : Int32)) (.int (0 : Int32)) (.int (0 : Int32)) (.int (0 : Int32)) (.int (0 : Int32)) (.int (0 : Int32)) (.int (0 : Int32)) (.int (0 : Int32)) (.int (0 : Int32)) (.int (0 : Int32)) (.int (0 : Int32)) (.int (0 : Int32)) (.int (0 : Int32)) (.int (0 : Int32)) (.int (0 : Int32)) (.int (0 : Int32)) (.int (0 : Int32)) (.int (0 : Int32)) (.int (0 : Int32)) (.int (0 : Int32)) (.int (0 : Int32)) (.int (0 : Int32)) (.int (0 : Int32)) (.int (0 : Int32)) (.int (0 : Int32)) (.int (0 : Int32)) (.int (0 : Int32)) (.int (0 : Int32)) (.int (0 : Int32)) (.int (0 : Int32)) (.int (0 : Int32)) (.int (0 : Int32)) (.int (0 : Int32)) (.int (0 : Int32)) (.int (0 : Int32)) (.int (0 : Int32)) (.int (0 : Int32)) (.int (0 : Int32)) (.int (0 : Int32)) (.int (0 : Int32)) (.int (0 : Int32)) (.int (0 : Int32)) (.int (0 : Int32)) (.int (0 : Int32)) (.int (0 : Int32)) (.int (0 : Int32)) (.int (0 : Int32)) (.int (0 : Int32)) (.int (0 : Int32)) (.int (0 : Int32)) (.int (0 : Int32)) (.int (0 : Int32)) (.int (0 : Int32)) (.int (0 : Int32)) (.int (0 : Int32)) (.int (0 : Int32)) k1_1_117 h148 n0 z149 k152 k153 k154 k155 g113 (Ne.symm ne118) g119) hZ (hw _ (List.mem_of_getElem? (i := 35) rfl)) (hw _ (List.mem_of_getElem? (i := 2) rfl)) (by decide) (by decide)) q151a q151c (g := (mkF m 79 #[.val (.long q0), .second, .val (.long q1), .second, .val (.int p2), .val (.int p3), .val (.int (v0_2 q0 q1 p2 p3)), .val (.int (1 : Int32)), .val (.ref b112), .val (.ref xtb0_0_123), .val (.ref b131), .unset, .unset, .unset] [(.long q0), (.ref b112)])) rfl (by rw [hml]; rfl) (Steps.refl _) (argsL := [(.long q0)]) (rest := []) (lenOf pd_h962988 rfl) rfl (by show 2 * 0 + _ ≤ _; exact Nat.le_of_eq rfl) (hb hby at_79) (fun _ _ => ⟨rfl, e148, (by decide : 4 + 0 ≤ _), (by decide : 126 + 0 ≤ _)⟩)
    dsimp only [Pt.U, Pt.locs, Pt.cells, Pt.slots] at X151 l151 y151 z151 st151 hQ151
    subst l151 y151 z151
    have N151q := (show _ ∧ _ from hQ151).1
    have hq151 := (show _ ∧ _ from hQ151).2
    clear hQ151
    have hv151 := hq151.1
    have K151 := hq151.2.1
    have po151_0 := hq151.2.2.1
    have po151_1 := hq151.2.2.2.1
    have po151_2 := hq151.2.2.2.2.1
    have po151_3 := hq151.2.2.2.2.2
    clear hq151
    subst hv151
    have z156 : n0 ≤ T151.heap.size := Nat.le_trans z149 K151.1
    have hs157 : h0.size ≤ T151.heap.size := Nat.le_trans hs150 K151.1
    have N151 := Fr.app N148 N151q
    obtain ⟨cq158, kq158, q158a, q158b, q158c⟩ := isOf hZ rfl po151_0
    obtain ⟨vr158, _, ⟨T158, L158, k158, n158⟩, -, X158, ⟨Lc158, hQ158, l158, y158, z158⟩, st158⟩ := X151.virtualBack hx (y := (⟨"com/example/dispatch_by_catalog/dispatchbycatalog/store/RecordWriter", "flag", "(Z)Lcom/example/dispatch_by_catalog/dispatchbycatalog/store/RecordWriter;"⟩ : MethodName)) (z := (⟨"com/example/dispatch_by_catalog/dispatchbycatalog/store/RecordWriter", "flag", "(Z)Lcom/example/dispatch_by_catalog/dispatchbycatalog/store/RecordWriter;"⟩ : MethodName)) hown (mvT hZ (hw _ (List.mem_of_getElem? (i := 40) rfl))) (mvT hZ (hw _ (List.mem_of_getElem? (i := 41) rfl))) (notFace_of_selects (args := #[]) (mvT hZ (hw _ (List.mem_of_getElem? (i := 43) rfl)))) (mvT hZ (hw _ (List.mem_of_getElem? (i := 43) rfl))) (mvT hZ (hw _ (List.mem_of_getElem? (i := 42) rfl))) (by decide) (backOf (W := 0) (rm8 l Z a0 hw [] b112 (v0_2 q0 q1 p2 p3) x1_0_117 (.int (nar .byte (vnu0_1 q0))) (.int (nar .byte (vnu0_2 q0))) (.int (nar .byte (vnu0_3 q0))) (.int (nar .byte (vnu0_4 q0))) (.int (nar .byte (vnu0_5 q0))) (.int (nar .byte (vnu0_6 q0))) (.int (nar .byte (vnu0_7 q0))) (.int (nar .byte (vnu0_8 q0))) (.int (0 : Int32)) (.int (0 : Int32)) (.int (0 : Int32)) (.int (0 : Int32)) (.int (0 : Int32)) (.int (0 : Int32)) (.int (0 : Int32)) (.int (0 : Int32)) (.int (0 : Int32)) (.int (0 : Int32)) (.int (0 : Int32)) (.int (0 : Int32)) (.int (0 : Int32)) (.int (0 : Int32)) (.int (0 : Int32)) (.int (0 : Int32)) (.int (0 : Int32)) (.int (0 : Int32)) (.int (0 : Int32)) (.int (0 : Int32)) (.int (0 : Int32)) (.int (0 : Int32)) (.int (0 : Int32)) (.int (0 : Int32)) (.int (0 : Int32)) (.int (0 : Int32)) (.int (0 : Int32)) (.int (0 : Int32)) (.int (0 : Int32)) (.int (0 : Int32)) (.int (0 : Int32)) (.int (0 : Int32)) (.int (0 : Int32)) (.int (0 : Int32)) (.int (0 : Int32)) (.int (0 : Int32)) (.int (0 : Int32)) (.int (0 : Int32)) (.int (0 : Int32)) (.int (0 : Int32)) (.int (0 : Int32)) (.int (0 : Int32)) (.int (0 : Int32)) (.int (0 : Int32)) (.int (0 : Int32)) (.int (0 : Int32)) (.int (0 : Int32)) (.int (0 : Int32)) (.int (0 : Int32)) (.int (0 : Int32)) (.int (0 : Int32)) (.int (0 : Int32)) (.int (0 : Int32)) (.int (0 : Int32)) (.int (0 : Int32)) (.int (0 : Int32)) k1_1_117 T151.heap n0 z156 po151_0 po151_1 po151_2 po151_3 g113 (Ne.symm ne118) g119) hZ (hw _ (List.mem_of_getElem? (i := 44) rfl)) (hw _ (List.mem_of_getElem? (i := 2) rfl)) (by decide) (by decide)) q158a q158c (g := (mkF m 84 #[.val (.long q0), .second, .val (.long q1), .second, .val (.int p2), .val (.int p3), .val (.int (v0_2 q0 q1 p2 p3)), .val (.int (1 : Int32)), .val (.ref b112), .val (.ref xtb0_0_123), .val (.ref b131), .unset, .unset, .unset] [(.int (v0_2 q0 q1 p2 p3)), (.ref b112)])) rfl (by rw [hml]; rfl) (Steps.refl _) (argsL := [(.int (v0_2 q0 q1 p2 p3))]) (rest := []) (lenOf pd_h860293 rfl) rfl (by show 2 * 0 + _ ≤ _; exact Nat.le_of_eq rfl) (hb hby at_84) (fun _ _ => ⟨rfl, rfl, (by decide : 4 + 0 ≤ _), (by decide : 126 + 0 ≤ _)⟩)
    dsimp only [Pt.U, Pt.locs, Pt.cells, Pt.slots] at X158 l158 y158 z158 st158 hQ158
    subst l158 y158 z158
    have N158q := (show _ ∧ _ from hQ158).1
    have hq158 := (show _ ∧ _ from hQ158).2
    clear hQ158
    have hv158 := hq158.1
    have K158 := hq158.2.1
    have po158_0 := hq158.2.2.1
    have po158_1 := hq158.2.2.2.1
    have po158_2 := hq158.2.2.2.2.1
    have po158_3 := hq158.2.2.2.2.2
    clear hq158
    subst hv158
    have z159 : n0 ≤ T158.heap.size := Nat.le_trans z156 K158.1
    have hs160 : h0.size ≤ T158.heap.size := Nat.le_trans hs157 K158.1
    have N158 := Fr.app N151 N158q
    have k162 := ((V148.keep K151 (ninS (Ne.symm ne133) (ninS (Ne.symm ne135) nin0))).keep K158 (ninS (Ne.symm ne133) (ninS (Ne.symm ne135) nin0)))
    obtain ⟨cq161, kq161, q161a, q161b, q161c⟩ := isOf hZ rfl po158_0
    obtain ⟨vr161, _, ⟨T161, L161, k161, n161⟩, -, X161, ⟨Lc161, hQ161, l161, y161, z161⟩, st161⟩ := X158.virtualBack hx (y := (⟨"com/example/dispatch_by_catalog/dispatchbycatalog/store/RecordWriter", "bytes", "([B)Lcom/example/dispatch_by_catalog/dispatchbycatalog/store/RecordWriter;"⟩ : MethodName)) (z := (⟨"com/example/dispatch_by_catalog/dispatchbycatalog/store/RecordWriter", "bytes", "([B)Lcom/example/dispatch_by_catalog/dispatchbycatalog/store/RecordWriter;"⟩ : MethodName)) hown (mvT hZ (hw _ (List.mem_of_getElem? (i := 49) rfl))) (mvT hZ (hw _ (List.mem_of_getElem? (i := 50) rfl))) (notFace_of_selects (args := #[]) (mvT hZ (hw _ (List.mem_of_getElem? (i := 52) rfl)))) (mvT hZ (hw _ (List.mem_of_getElem? (i := 52) rfl))) (mvT hZ (hw _ (List.mem_of_getElem? (i := 51) rfl))) (by decide) (backOf (W := 0) (rm10 l Z a0 hw [] b112 b131 x1_0_117 (.int (nar .byte (vnu0_1 q0))) (.int (nar .byte (vnu0_2 q0))) (.int (nar .byte (vnu0_3 q0))) (.int (nar .byte (vnu0_4 q0))) (.int (nar .byte (vnu0_5 q0))) (.int (nar .byte (vnu0_6 q0))) (.int (nar .byte (vnu0_7 q0))) (.int (nar .byte (vnu0_8 q0))) (.int (nar .byte (v8_2 (v0_2 q0 q1 p2 p3)))) (.int (0 : Int32)) (.int (0 : Int32)) (.int (0 : Int32)) (.int (0 : Int32)) (.int (0 : Int32)) (.int (0 : Int32)) (.int (0 : Int32)) (.int (0 : Int32)) (.int (0 : Int32)) (.int (0 : Int32)) (.int (0 : Int32)) (.int (0 : Int32)) (.int (0 : Int32)) (.int (0 : Int32)) (.int (0 : Int32)) (.int (0 : Int32)) (.int (0 : Int32)) (.int (0 : Int32)) (.int (0 : Int32)) (.int (0 : Int32)) (.int (0 : Int32)) (.int (0 : Int32)) (.int (0 : Int32)) (.int (0 : Int32)) (.int (0 : Int32)) (.int (0 : Int32)) (.int (0 : Int32)) (.int (0 : Int32)) (.int (0 : Int32)) (.int (0 : Int32)) (.int (0 : Int32)) (.int (0 : Int32)) (.int (0 : Int32)) (.int (0 : Int32)) (.int (0 : Int32)) (.int (0 : Int32)) (.int (0 : Int32)) (.int (0 : Int32)) (.int (0 : Int32)) (.int (0 : Int32)) (.int (0 : Int32)) (.int (0 : Int32)) (.int (0 : Int32)) (.int (0 : Int32)) (.int (0 : Int32)) (.int (0 : Int32)) (.int (0 : Int32)) (.int (0 : Int32)) (.int (0 : Int32)) (.int (0 : Int32)) (.int (0 : Int32)) (.int (0 : Int32)) (.int (0 : Int32)) (.int (0 : Int32)) (.int (0 : Int32)) k1_1_117 (.int (nar .byte (v0_15 q0 q1 p2 p3))) (.int (0 : Int32)) (.int (0 : Int32)) (.int (0 : Int32)) (.int (0 : Int32)) (.int (0 : Int32)) (.int (0 : Int32)) (.int (0 : Int32)) (.int (0 : Int32)) (.int (0 : Int32)) (.int (0 : Int32)) (.int (0 : Int32)) (.int (0 : Int32)) (.int (0 : Int32)) (.int (0 : Int32)) (.int (0 : Int32)) (.int (0 : Int32)) (.int (0 : Int32)) (.int (0 : Int32)) (.int (0 : Int32)) (.int (0 : Int32)) (.int (0 : Int32)) (.int (0 : Int32)) (.int (0 : Int32)) (.int (0 : Int32)) (.int (0 : Int32)) (.int (0 : Int32)) (.int (0 : Int32)) (.int (0 : Int32)) (.int (0 : Int32)) (.int (0 : Int32)) (.int (0 : Int32)) (.int (0 : Int32)) (.int (0 : Int32)) (.int (0 : Int32)) (.int (0 : Int32)) (.int (0 : Int32)) (.int (0 : Int32)) (.int (0 : Int32)) (.int (0 : Int32)) (.int (0 : Int32)) (.int (0 : Int32)) (.int (0 : Int32)) (.int (0 : Int32)) (.int (0 : Int32)) (.int (0 : Int32)) (.int (0 : Int32)) (.int (0 : Int32)) (.int (0 : Int32)) (.int (0 : Int32)) (.int (0 : Int32)) (.int (0 : Int32)) (.int (0 : Int32)) (.int (0 : Int32)) (.int (0 : Int32)) (.int (0 : Int32)) (.int (0 : Int32)) (.int (0 : Int32)) (.int (0 : Int32)) (.int (nar .byte (v0_16 q0 q1 p2 p3))) k131 T158.heap n0 z159 po158_0 po158_1 po158_2 po158_3 k162 g113 (Ne.symm ne118) g119 (Ne.symm ne135) (Ne.symm ne133)) hZ (hw _ (List.mem_of_getElem? (i := 53) rfl)) (hw _ (List.mem_of_getElem? (i := 2) rfl)) (by decide) (by decide)) q161a q161c (g := (mkF m 97 #[.val (.long q0), .second, .val (.long q1), .second, .val (.int p2), .val (.int p3), .val (.int (v0_2 q0 q1 p2 p3)), .val (.int (1 : Int32)), .val (.ref b112), .val (.ref xtb0_0_123), .val (.ref b131), .unset, .unset, .unset] [(.ref b131), (.ref b112)])) rfl (by rw [hml]; rfl) (Steps.refl _) (argsL := [(.ref b131)]) (rest := []) (lenOf pd_h705318 rfl) rfl (by show 2 * 0 + _ ≤ _; exact Nat.le_of_eq rfl) (hb hby at_97) (fun _ _ => ⟨rfl, rfl, (by decide : 4 + 1 ≤ _), (by decide : 126 + 128 ≤ _)⟩)
    dsimp only [Pt.U, Pt.locs, Pt.cells, Pt.slots] at X161 l161 y161 z161 st161 hQ161
    subst l161 y161 z161
    have N161q := (show _ ∧ _ from hQ161).1
    have hq161 := (show _ ∧ _ from hQ161).2
    clear hQ161
    obtain ⟨x10_0_161, k10_1_161, hq161x⟩ := hq161
    have hv161 := hq161x.1
    have szx10_0_161 := hq161x.2.1
    have K161 := hq161x.2.2.1
    have po161_0 := hq161x.2.2.2.1
    have po161_1 := hq161x.2.2.2.2.1
    have po161_2 := hq161x.2.2.2.2.2.1
    have po161_3 := hq161x.2.2.2.2.2.2.1
    have po161_4 := hq161x.2.2.2.2.2.2.2
    clear hq161x
    subst hv161
    have ne163 : b112 ≠ x10_0_161 := Nat.ne_of_lt (Nat.lt_of_lt_of_le po158_0.lt szx10_0_161)
    have k164 := ((((EA131.wr W143).wr W148).keep K151).keep K158)
    have ne165 : b131 ≠ x10_0_161 := Nat.ne_of_lt (Nat.lt_of_lt_of_le k164.lt szx10_0_161)
    have k166 := (((((po123_0.ext E131).other W143 ne136).other W148 ne136).keep K151 (ninS (Ne.symm ne124) (ninS (Ne.symm ne125) nin0))).keep K158 (ninS (Ne.symm ne124) (ninS (Ne.symm ne125) nin0)))
    have ne167 : xtb0_0_123 ≠ x10_0_161 := Nat.ne_of_lt (Nat.lt_of_lt_of_le k166.lt szx10_0_161)
    have ne168 : x1_0_117 ≠ x10_0_161 := Nat.ne_of_lt (Nat.lt_of_lt_of_le po158_3.lt szx10_0_161)
    have g169 : n0 ≤ x10_0_161 := Nat.le_trans z159 szx10_0_161
    have sz170 : h0.size ≤ x10_0_161 := Nat.le_trans hs160 szx10_0_161
    have z171 : n0 ≤ T161.heap.size := Nat.le_trans z159 K161.1
    have hs172 : h0.size ≤ T161.heap.size := Nat.le_trans hs160 K161.1
    have N161 := Fr.app N158 N161q
    obtain ⟨cq173, kq173, q173a, q173b, q173c⟩ := isOf hZ rfl po161_0
    obtain ⟨vr173, _, ⟨T173, L173, k173, n173⟩, -, X173, ⟨Lc173, hQ173, l173, y173, z173⟩, st173⟩ := X161.virtualBack hx (y := (⟨"com/example/dispatch_by_catalog/dispatchbycatalog/store/RecordWriter", "number", "(J)Lcom/example/dispatch_by_catalog/dispatchbycatalog/store/RecordWriter;"⟩ : MethodName)) (z := (⟨"com/example/dispatch_by_catalog/dispatchbycatalog/store/RecordWriter", "number", "(J)Lcom/example/dispatch_by_catalog/dispatchbycatalog/store/RecordWriter;"⟩ : MethodName)) hown (mvT hZ (hw _ (List.mem_of_getElem? (i := 31) rfl))) (mvT hZ (hw _ (List.mem_of_getElem? (i := 32) rfl))) (notFace_of_selects (args := #[]) (mvT hZ (hw _ (List.mem_of_getElem? (i := 34) rfl)))) (mvT hZ (hw _ (List.mem_of_getElem? (i := 34) rfl))) (mvT hZ (hw _ (List.mem_of_getElem? (i := 33) rfl))) (by decide) (backOf (W := 0) (rmnu77 l Z a0 hw [] b112 q1 x10_0_161 (.int (nar .byte (vnu0_1 q0))) (.int (nar .byte (vnu0_2 q0))) (.int (nar .byte (vnu0_3 q0))) (.int (nar .byte (vnu0_4 q0))) (.int (nar .byte (vnu0_5 q0))) (.int (nar .byte (vnu0_6 q0))) (.int (nar .byte (vnu0_7 q0))) (.int (nar .byte (vnu0_8 q0))) (.int (nar .byte (v8_2 (v0_2 q0 q1 p2 p3)))) (.int (nar .byte (vnu9_1 v10_1))) (.int (nar .byte (vnu9_2 v10_1))) (.int (nar .byte (vnu9_3 v10_1))) (.int (nar .byte (vnu9_4 v10_1))) (.int (nar .byte (vnu9_5 v10_1))) (.int (nar .byte (vnu9_6 v10_1))) (.int (nar .byte (vnu9_7 v10_1))) (.int (nar .byte (vnu9_8 v10_1))) (.int (nar .byte (v0_15 q0 q1 p2 p3))) (.int (0 : Int32)) (.int (0 : Int32)) (.int (0 : Int32)) (.int (0 : Int32)) (.int (0 : Int32)) (.int (0 : Int32)) (.int (0 : Int32)) (.int (0 : Int32)) (.int (0 : Int32)) (.int (0 : Int32)) (.int (0 : Int32)) (.int (0 : Int32)) (.int (0 : Int32)) (.int (0 : Int32)) (.int (0 : Int32)) (.int (0 : Int32)) (.int (0 : Int32)) (.int (0 : Int32)) (.int (0 : Int32)) (.int (0 : Int32)) (.int (0 : Int32)) (.int (0 : Int32)) (.int (0 : Int32)) (.int (0 : Int32)) (.int (0 : Int32)) (.int (0 : Int32)) (.int (0 : Int32)) (.int (0 : Int32)) (.int (0 : Int32)) (.int (0 : Int32)) (.int (0 : Int32)) (.int (0 : Int32)) (.int (0 : Int32)) (.int (0 : Int32)) (.int (0 : Int32)) (.int (0 : Int32)) (.int (0 : Int32)) (.int (0 : Int32)) (.int (0 : Int32)) (.int (0 : Int32)) (.int (0 : Int32)) (.int (0 : Int32)) (.int (0 : Int32)) (.int (0 : Int32)) (.int (0 : Int32)) (.int (0 : Int32)) (.int (0 : Int32)) (.int (0 : Int32)) (.int (0 : Int32)) (.int (0 : Int32)) (.int (0 : Int32)) (.int (0 : Int32)) (.int (0 : Int32)) (.int (0 : Int32)) (.int (0 : Int32)) (.int (0 : Int32)) (.int (0 : Int32)) (.int (0 : Int32)) (.int (nar .byte (v0_16 q0 q1 p2 p3))) (.int (0 : Int32)) (.int (0 : Int32)) (.int (0 : Int32)) (.int (0 : Int32)) (.int (0 : Int32)) (.int (0 : Int32)) (.int (0 : Int32)) (.int (0 : Int32)) (.int (0 : Int32)) (.int (0 : Int32)) (.int (0 : Int32)) (.int (0 : Int32)) (.int (0 : Int32)) (.int (0 : Int32)) (.int (0 : Int32)) (.int (0 : Int32)) (.int (0 : Int32)) (.int (0 : Int32)) (.int (0 : Int32)) (.int (0 : Int32)) (.int (0 : Int32)) (.int (0 : Int32)) (.int (0 : Int32)) (.int (0 : Int32)) (.int (0 : Int32)) (.int (0 : Int32)) (.int (0 : Int32)) (.int (0 : Int32)) (.int (0 : Int32)) (.int (0 : Int32)) (.int (0 : Int32)) (.int (0 : Int32)) (.int (0 : Int32)) (.int (0 : Int32)) (.int (0 : Int32)) (.int (0 : Int32)) (.int (0 : Int32)) (.int (0 : Int32)) (.int (0 : Int32)) (.int (0 : Int32)) (.int (0 : Int32)) (.int (0 : Int32)) (.int (0 : Int32)) (.int (0 : Int32)) (.int (0 : Int32)) (.int (0 : Int32)) (.int (0 : Int32)) (.int (0 : Int32)) (.int (0 : Int32)) (.int (0 : Int32)) (.int (0 : Int32)) k10_1_161 T161.heap n0 z171 po161_0 po161_1 po161_2 po161_4 g113 (Ne.symm ne163) g169) hZ (hw _ (List.mem_of_getElem? (i := 35) rfl)) (hw _ (List.mem_of_getElem? (i := 2) rfl)) (by decide) (by decide)) q173a q173c (g := (mkF m 104 #[.val (.long q0), .second, .val (.long q1), .second, .val (.int p2), .val (.int p3), .val (.int (v0_2 q0 q1 p2 p3)), .val (.int (1 : Int32)), .val (.ref b112), .val (.ref xtb0_0_123), .val (.ref b131), .unset, .unset, .unset] [(.long q1), (.ref b112)])) rfl (by rw [hml]; rfl) (Steps.refl _) (argsL := [(.long q1)]) (rest := []) (lenOf pd_h962988 rfl) rfl (by show 2 * 0 + _ ≤ _; exact Nat.le_of_eq rfl) (hb hby at_104) (fun _ _ => ⟨rfl, rfl, (by decide : 5 + 0 ≤ _), (by decide : 254 + 0 ≤ _)⟩)
    dsimp only [Pt.U, Pt.locs, Pt.cells, Pt.slots] at X173 l173 y173 z173 st173 hQ173
    subst l173 y173 z173
    have N173q := (show _ ∧ _ from hQ173).1
    have hq173 := (show _ ∧ _ from hQ173).2
    clear hQ173
    have hv173 := hq173.1
    have K173 := hq173.2.1
    have po173_0 := hq173.2.2.1
    have po173_1 := hq173.2.2.2.1
    have po173_2 := hq173.2.2.2.2.1
    have po173_3 := hq173.2.2.2.2.2
    clear hq173
    subst hv173
    have z174 : n0 ≤ T173.heap.size := Nat.le_trans z171 K173.1
    have hs175 : h0.size ≤ T173.heap.size := Nat.le_trans hs172 K173.1
    have N173 := Fr.app N161 N173q
    obtain ⟨cq176, kq176, q176a, q176b, q176c⟩ := isOf hZ rfl po173_0
    obtain ⟨vr176, _, ⟨T176, L176, k176, n176⟩, -, X176, ⟨Lc176, hQ176, l176, y176, z176⟩, st176⟩ := X173.virtualBack hx (y := (⟨"com/example/dispatch_by_catalog/dispatchbycatalog/store/RecordWriter", "toBytes", "()[B"⟩ : MethodName)) (z := (⟨"com/example/dispatch_by_catalog/dispatchbycatalog/store/RecordWriter", "toBytes", "()[B"⟩ : MethodName)) hown (mvT hZ (hw _ (List.mem_of_getElem? (i := 12) rfl))) (mvT hZ (hw _ (List.mem_of_getElem? (i := 13) rfl))) (notFace_of_selects (args := #[]) (mvT hZ (hw _ (List.mem_of_getElem? (i := 15) rfl)))) (mvT hZ (hw _ (List.mem_of_getElem? (i := 15) rfl))) (mvT hZ (hw _ (List.mem_of_getElem? (i := 14) rfl))) (by decide) (backOf (W := 0) (rmtb85 l Z a0 hw [] b112 x10_0_161 (.int (nar .byte (vnu0_1 q0))) (.int (nar .byte (vnu0_2 q0))) (.int (nar .byte (vnu0_3 q0))) (.int (nar .byte (vnu0_4 q0))) (.int (nar .byte (vnu0_5 q0))) (.int (nar .byte (vnu0_6 q0))) (.int (nar .byte (vnu0_7 q0))) (.int (nar .byte (vnu0_8 q0))) (.int (nar .byte (v8_2 (v0_2 q0 q1 p2 p3)))) (.int (nar .byte (vnu9_1 v10_1))) (.int (nar .byte (vnu9_2 v10_1))) (.int (nar .byte (vnu9_3 v10_1))) (.int (nar .byte (vnu9_4 v10_1))) (.int (nar .byte (vnu9_5 v10_1))) (.int (nar .byte (vnu9_6 v10_1))) (.int (nar .byte (vnu9_7 v10_1))) (.int (nar .byte (vnu9_8 v10_1))) (.int (nar .byte (v0_15 q0 q1 p2 p3))) (.int (0 : Int32)) (.int (0 : Int32)) (.int (0 : Int32)) (.int (0 : Int32)) (.int (0 : Int32)) (.int (0 : Int32)) (.int (0 : Int32)) (.int (0 : Int32)) (.int (0 : Int32)) (.int (0 : Int32)) (.int (0 : Int32)) (.int (0 : Int32)) (.int (0 : Int32)) (.int (0 : Int32)) (.int (0 : Int32)) (.int (0 : Int32)) (.int (0 : Int32)) (.int (0 : Int32)) (.int (0 : Int32)) (.int (0 : Int32)) (.int (0 : Int32)) (.int (0 : Int32)) (.int (0 : Int32)) (.int (0 : Int32)) (.int (0 : Int32)) (.int (0 : Int32)) (.int (0 : Int32)) (.int (0 : Int32)) (.int (0 : Int32)) (.int (0 : Int32)) (.int (0 : Int32)) (.int (0 : Int32)) (.int (0 : Int32)) (.int (0 : Int32)) (.int (0 : Int32)) (.int (0 : Int32)) (.int (0 : Int32)) (.int (0 : Int32)) (.int (0 : Int32)) (.int (0 : Int32)) (.int (0 : Int32)) (.int (0 : Int32)) (.int (0 : Int32)) (.int (0 : Int32)) (.int (0 : Int32)) (.int (0 : Int32)) (.int (0 : Int32)) (.int (0 : Int32)) (.int (0 : Int32)) (.int (0 : Int32)) (.int (0 : Int32)) (.int (0 : Int32)) (.int (0 : Int32)) (.int (0 : Int32)) (.int (0 : Int32)) (.int (0 : Int32)) (.int (0 : Int32)) (.int (0 : Int32)) (.int (nar .byte (v0_16 q0 q1 p2 p3))) (.int (nar .byte (vnu77_1 q1))) (.int (nar .byte (vnu77_2 q1))) (.int (nar .byte (vnu77_3 q1))) (.int (nar .byte (vnu77_4 q1))) (.int (nar .byte (vnu77_5 q1))) (.int (nar .byte (vnu77_6 q1))) (.int (nar .byte (vnu77_7 q1))) (.int (nar .byte (vnu77_8 q1))) (.int (0 : Int32)) (.int (0 : Int32)) (.int (0 : Int32)) (.int (0 : Int32)) (.int (0 : Int32)) (.int (0 : Int32)) (.int (0 : Int32)) (.int (0 : Int32)) (.int (0 : Int32)) (.int (0 : Int32)) (.int (0 : Int32)) (.int (0 : Int32)) (.int (0 : Int32)) (.int (0 : Int32)) (.int (0 : Int32)) (.int (0 : Int32)) (.int (0 : Int32)) (.int (0 : Int32)) (.int (0 : Int32)) (.int (0 : Int32)) (.int (0 : Int32)) (.int (0 : Int32)) (.int (0 : Int32)) (.int (0 : Int32)) (.int (0 : Int32)) (.int (0 : Int32)) (.int (0 : Int32)) (.int (0 : Int32)) (.int (0 : Int32)) (.int (0 : Int32)) (.int (0 : Int32)) (.int (0 : Int32)) (.int (0 : Int32)) (.int (0 : Int32)) (.int (0 : Int32)) (.int (0 : Int32)) (.int (0 : Int32)) (.int (0 : Int32)) (.int (0 : Int32)) (.int (0 : Int32)) (.int (0 : Int32)) (.int (0 : Int32)) (.int (0 : Int32)) k10_1_161 T173.heap n0 z174 po173_0 po173_1 po173_2 po173_3) hZ (hw _ (List.mem_of_getElem? (i := 16) rfl)) (hw _ (List.mem_of_getElem? (i := 2) rfl)) (by decide) (by decide)) q176a q176c (g := (mkF m 110 #[.val (.long q0), .second, .val (.long q1), .second, .val (.int p2), .val (.int p3), .val (.int (v0_2 q0 q1 p2 p3)), .val (.int (1 : Int32)), .val (.ref b112), .val (.ref xtb0_0_123), .val (.ref b131), .unset, .unset, .unset] [(.ref b112)])) rfl (by rw [hml]; rfl) (Steps.refl _) (argsL := []) (rest := []) (lenOf pd____B rfl) rfl (by show 2 * 0 + _ ≤ _; exact Nat.le_of_eq rfl) (hb hby at_110) (fun _ _ => ⟨rfl, rfl, (by decide : 5 + 1 ≤ _), (by decide : 254 + 85 ≤ _)⟩)
    dsimp only [Pt.U, Pt.locs, Pt.cells, Pt.slots] at X176 l176 y176 z176 st176 hQ176
    subst l176 y176 z176
    have N176q := (show _ ∧ _ from hQ176).1
    have hq176 := (show _ ∧ _ from hQ176).2
    clear hQ176
    obtain ⟨xtb85_0_176, ktb85_1_176, hq176x⟩ := hq176
    have hv176 := hq176x.1
    have szxtb85_0_176 := hq176x.2.1
    have K176 := hq176x.2.2.1
    have po176_0 := hq176x.2.2.2
    clear hq176x
    subst hv176
    have ne177 : b112 ≠ xtb85_0_176 := Nat.ne_of_lt (Nat.lt_of_lt_of_le po173_0.lt szxtb85_0_176)
    have k178 := ((k164.keep K161).keep K173)
    have ne179 : b131 ≠ xtb85_0_176 := Nat.ne_of_lt (Nat.lt_of_lt_of_le k178.lt szxtb85_0_176)
    have k180 := ((k166.keep K161 (ninS (Ne.symm ne124) (ninS (Ne.symm ne125) nin0))).keep K173 (ninS (Ne.symm ne124) (ninS ne167 nin0)))
    have ne181 : xtb0_0_123 ≠ xtb85_0_176 := Nat.ne_of_lt (Nat.lt_of_lt_of_le k180.lt szxtb85_0_176)
    have k182 := (po161_3.keep K173 (ninS (Ne.symm ne118) (ninS ne168 nin0)))
    have ne183 : x1_0_117 ≠ xtb85_0_176 := Nat.ne_of_lt (Nat.lt_of_lt_of_le k182.lt szxtb85_0_176)
    have ne184 : x10_0_161 ≠ xtb85_0_176 := Nat.ne_of_lt (Nat.lt_of_lt_of_le po173_3.lt szxtb85_0_176)
    have g185 : n0 ≤ xtb85_0_176 := Nat.le_trans z174 szxtb85_0_176
    have sz186 : h0.size ≤ xtb85_0_176 := Nat.le_trans hs175 szxtb85_0_176
    have z187 : n0 ≤ T176.heap.size := Nat.le_trans z174 K176.1
    have hs188 : h0.size ≤ T176.heap.size := Nat.le_trans hs175 K176.1
    have N176 := Fr.app N173 N176q
    obtain ⟨cl189, Ar189, qc189, S189, M189, Ha189, G189⟩ := id po176_0
    obtain ⟨vr190, _, ⟨T190, L190, k190, n190⟩, -, X190, ⟨Lc190, hQ190, l190, y190, z190⟩, st190⟩ := Jvm.LawKit.callS X176 hx (y := (⟨"com/example/dispatch_by_catalog/dispatchbycatalog/store/RecordWriterToBytesPinLaw", "longAt", "([BIJ)Z"⟩ : MethodName)) hown (mvT hZ (hw _ (List.mem_of_getElem? (i := 45) rfl))) (mvT hZ (hw _ (List.mem_of_getElem? (i := 46) rfl))) (mvT hZ (hw _ (List.mem_of_getElem? (i := 47) rfl))) (mvT hZ (hw _ (List.mem_of_getElem? (i := 48) rfl))) (by decide) (backOf (W := 0) (rmla85_0 l Z a0 hw [] xtb85_0_176 q0 (nar .byte (vnu0_1 q0)) (nar .byte (vnu0_2 q0)) (nar .byte (vnu0_3 q0)) (nar .byte (vnu0_4 q0)) (nar .byte (vnu0_5 q0)) (nar .byte (vnu0_6 q0)) (nar .byte (vnu0_7 q0)) (nar .byte (vnu0_8 q0)) (.int (nar .byte (v8_2 (v0_2 q0 q1 p2 p3)))) (.int (nar .byte (vnu9_1 v10_1))) (.int (nar .byte (vnu9_2 v10_1))) (.int (nar .byte (vnu9_3 v10_1))) (.int (nar .byte (vnu9_4 v10_1))) (.int (nar .byte (vnu9_5 v10_1))) (.int (nar .byte (vnu9_6 v10_1))) (.int (nar .byte (vnu9_7 v10_1))) (.int (nar .byte (vnu9_8 v10_1))) (.int (nar .byte (v0_15 q0 q1 p2 p3))) (.int (0 : Int32)) (.int (0 : Int32)) (.int (0 : Int32)) (.int (0 : Int32)) (.int (0 : Int32)) (.int (0 : Int32)) (.int (0 : Int32)) (.int (0 : Int32)) (.int (0 : Int32)) (.int (0 : Int32)) (.int (0 : Int32)) (.int (0 : Int32)) (.int (0 : Int32)) (.int (0 : Int32)) (.int (0 : Int32)) (.int (0 : Int32)) (.int (0 : Int32)) (.int (0 : Int32)) (.int (0 : Int32)) (.int (0 : Int32)) (.int (0 : Int32)) (.int (0 : Int32)) (.int (0 : Int32)) (.int (0 : Int32)) (.int (0 : Int32)) (.int (0 : Int32)) (.int (0 : Int32)) (.int (0 : Int32)) (.int (0 : Int32)) (.int (0 : Int32)) (.int (0 : Int32)) (.int (0 : Int32)) (.int (0 : Int32)) (.int (0 : Int32)) (.int (0 : Int32)) (.int (0 : Int32)) (.int (0 : Int32)) (.int (0 : Int32)) (.int (0 : Int32)) (.int (0 : Int32)) (.int (0 : Int32)) (.int (0 : Int32)) (.int (0 : Int32)) (.int (0 : Int32)) (.int (0 : Int32)) (.int (0 : Int32)) (.int (0 : Int32)) (.int (0 : Int32)) (.int (0 : Int32)) (.int (0 : Int32)) (.int (0 : Int32)) (.int (0 : Int32)) (.int (0 : Int32)) (.int (0 : Int32)) (.int (0 : Int32)) (.int (0 : Int32)) (.int (0 : Int32)) (.int (0 : Int32)) (.int (nar .byte (v0_16 q0 q1 p2 p3))) (.int (nar .byte (vnu77_1 q1))) (.int (nar .byte (vnu77_2 q1))) (.int (nar .byte (vnu77_3 q1))) (.int (nar .byte (vnu77_4 q1))) (.int (nar .byte (vnu77_5 q1))) (.int (nar .byte (vnu77_6 q1))) (.int (nar .byte (vnu77_7 q1))) (.int (nar .byte (vnu77_8 q1))) ktb85_1_176 T176.heap n0 z187 po176_0) hZ (hw _ (List.mem_of_getElem? (i := 48) rfl)) (hw _ (List.mem_of_getElem? (i := 47) rfl)) (by decide) (by decide)) (g := (mkF m 146 #[.val (.long q0), .second, .val (.long q1), .second, .val (.int p2), .val (.int p3), .val (.int (v0_2 q0 q1 p2 p3)), .val (.int (1 : Int32)), .val (.ref b112), .val (.ref xtb0_0_123), .val (.ref b131), .val (.ref xtb85_0_176), .val (.int (77 : Int32)), .unset] [(.long q0), (.int (0 : Int32)), (.ref xtb85_0_176)])) rfl (by rw [hml]; rfl) (argsL := [(.ref xtb85_0_176), (.int (0 : Int32)), (.long q0)]) (rest := []) (lenOf pd___BIJ_Z rfl) rfl (by show 2 * 0 + _ ≤ _; exact Nat.le_of_eq rfl) (hb hby at_146) (fun _ _ => ⟨rfl, rfl, (by decide : 6 + 0 ≤ _), (by decide : 339 + 0 ≤ _)⟩)
    dsimp only [Pt.U, Pt.locs, Pt.cells, Pt.slots] at X190 l190 y190 z190 st190 hQ190
    subst l190 y190 z190
    have N190q := (show _ ∧ _ ∧ _ from hQ190).1
    have hv190 := (show _ ∧ _ ∧ _ from hQ190).2.1
    have e190 := (show _ ∧ _ ∧ _ from hQ190).2.2
    clear hQ190
    subst hv190
    have N190 := Fr.app N176 N190q
    have hin191 : ¬ ((8 : Int32) < 0 ∨ cl189.slots.size ≤ ((8 : Int32)).toNatClampNeg) := inb_of S189 ⟨by decide, by decide⟩
    have pre192 : ∀ t, Steps p.tables e below (T190.setTop (mkF m 161 #[.val (.long q0), .second, .val (.long q1), .second, .val (.int p2), .val (.int p3), .val (.int (v0_2 q0 q1 p2 p3)), .val (.int (1 : Int32)), .val (.ref b112), .val (.ref xtb0_0_123), .val (.ref b131), .val (.ref xtb85_0_176), .val (.int (77 : Int32)), .unset] [(.int (v0_2 q0 q1 p2 p3)), (.int (nar .byte (v8_2 (v0_2 q0 q1 p2 p3))))])) t → Steps p.tables e below (s₁.setTop (entryFrame m #[(.long q0), (.long q1), (.int p2), (.int p3)] maxLocals)) t := by
      intro t k
      refine pre4 t ?_
      show Steps p.tables e below (s₁.setTop (mkF m 18 #[.val (.long q0), .second, .val (.long q1), .second, .val (.int p2), .val (.int p3), .val (.int (v0_2 q0 q1 p2 p3)), .unset, .unset, .unset, .unset, .unset, .unset, .unset] [(.int (p2 &&& (2 : Int32)))])) _
      refine XS.ifNo X0.here hx rfl (hb hby at_18) rfl (XT.i0_eq_f c5) ?_
      show Steps p.tables e below (s₁.setTop (mkF m 21 #[.val (.long q0), .second, .val (.long q1), .second, .val (.int p2), .val (.int p3), .val (.int (v0_2 q0 q1 p2 p3)), .unset, .unset, .unset, .unset, .unset, .unset, .unset] [])) _
      refine XT.iconstV X0.here hx rfl (1 : Int32) (hb hby at_21) (by decide) ?_
      show Steps p.tables e below (s₁.setTop (mkF m 22 #[.val (.long q0), .second, .val (.long q1), .second, .val (.int p2), .val (.int p3), .val (.int (v0_2 q0 q1 p2 p3)), .unset, .unset, .unset, .unset, .unset, .unset, .unset] [(.int (1 : Int32))])) _
      refine XS.goto X0.here hx rfl (pc0 := 22) (pc' := 26) rfl (hb hby at_22) (by decide) (by decide) ?_
      show Steps p.tables e below (s₁.setTop (mkF m 26 #[.val (.long q0), .second, .val (.long q1), .second, .val (.int p2), .val (.int p3), .val (.int (v0_2 q0 q1 p2 p3)), .unset, .unset, .unset, .unset, .unset, .unset, .unset] [(.int (1 : Int32))])) _
      refine XS.istore X0.here hx rfl (hb hby at_26) rfl (l' := #[.val (.long q0), .second, .val (.long q1), .second, .val (.int p2), .val (.int p3), .val (.int (v0_2 q0 q1 p2 p3)), .val (.int (1 : Int32)), .unset, .unset, .unset, .unset, .unset, .unset]) rfl ?_
      show Steps p.tables e below (s₁.setTop (mkF m 28 #[.val (.long q0), .second, .val (.long q1), .second, .val (.int p2), .val (.int p3), .val (.int (v0_2 q0 q1 p2 p3)), .val (.int (1 : Int32)), .unset, .unset, .unset, .unset, .unset, .unset] [])) _
      refine st112 _ ?_
      show Steps p.tables e below (T112.setTop (mkF m 31 #[.val (.long q0), .second, .val (.long q1), .second, .val (.int p2), .val (.int p3), .val (.int (v0_2 q0 q1 p2 p3)), .val (.int (1 : Int32)), .unset, .unset, .unset, .unset, .unset, .unset] [(.ref b112)])) _
      refine XS.dup X112.here hx rfl (hb hby at_31) rfl rfl ?_
      show Steps p.tables e below (T112.setTop (mkF m 32 #[.val (.long q0), .second, .val (.long q1), .second, .val (.int p2), .val (.int p3), .val (.int (v0_2 q0 q1 p2 p3)), .val (.int (1 : Int32)), .unset, .unset, .unset, .unset, .unset, .unset] [(.ref b112), (.ref b112)])) _
      refine st117.trans ?_
      show Steps p.tables e below (T117.setTop (mkF m 35 #[.val (.long q0), .second, .val (.long q1), .second, .val (.int p2), .val (.int p3), .val (.int (v0_2 q0 q1 p2 p3)), .val (.int (1 : Int32)), .unset, .unset, .unset, .unset, .unset, .unset] [(.ref b112)])) _
      refine XS.astore X117.here hx rfl (hb hby at_35) rfl rfl (l' := #[.val (.long q0), .second, .val (.long q1), .second, .val (.int p2), .val (.int p3), .val (.int (v0_2 q0 q1 p2 p3)), .val (.int (1 : Int32)), .val (.ref b112), .unset, .unset, .unset, .unset, .unset]) rfl ?_
      show Steps p.tables e below (T117.setTop (mkF m 37 #[.val (.long q0), .second, .val (.long q1), .second, .val (.int p2), .val (.int p3), .val (.int (v0_2 q0 q1 p2 p3)), .val (.int (1 : Int32)), .val (.ref b112), .unset, .unset, .unset, .unset, .unset] [])) _
      refine XS.aload X117.here hx rfl (hb hby at_37) rfl rfl ?_
      show Steps p.tables e below (T117.setTop (mkF m 39 #[.val (.long q0), .second, .val (.long q1), .second, .val (.int p2), .val (.int p3), .val (.int (v0_2 q0 q1 p2 p3)), .val (.int (1 : Int32)), .val (.ref b112), .unset, .unset, .unset, .unset, .unset] [(.ref b112)])) _
      refine st123.trans ?_
      show Steps p.tables e below (T123.setTop (mkF m 42 #[.val (.long q0), .second, .val (.long q1), .second, .val (.int p2), .val (.int p3), .val (.int (v0_2 q0 q1 p2 p3)), .val (.int (1 : Int32)), .val (.ref b112), .unset, .unset, .unset, .unset, .unset] [(.ref xtb0_0_123)])) _
      refine XS.astore X123.here hx rfl (hb hby at_42) rfl rfl (l' := #[.val (.long q0), .second, .val (.long q1), .second, .val (.int p2), .val (.int p3), .val (.int (v0_2 q0 q1 p2 p3)), .val (.int (1 : Int32)), .val (.ref b112), .val (.ref xtb0_0_123), .unset, .unset, .unset, .unset]) rfl ?_
      show Steps p.tables e below (T123.setTop (mkF m 44 #[.val (.long q0), .second, .val (.long q1), .second, .val (.int p2), .val (.int p3), .val (.int (v0_2 q0 q1 p2 p3)), .val (.int (1 : Int32)), .val (.ref b112), .val (.ref xtb0_0_123), .unset, .unset, .unset, .unset] [])) _
      refine XS.aload X123.here hx rfl (hb hby at_44) rfl rfl ?_
      show Steps p.tables e below (T123.setTop (mkF m 46 #[.val (.long q0), .second, .val (.long q1), .second, .val (.int p2), .val (.int p3), .val (.int (v0_2 q0 q1 p2 p3)), .val (.int (1 : Int32)), .val (.ref b112), .val (.ref xtb0_0_123), .unset, .unset, .unset, .unset] [(.ref xtb0_0_123)])) _
      refine X123.arraylength hx Ar130.1 (State.isArrayOf_alike hZ.alike Ar130.2.1) (g := (mkF m 46 #[.val (.long q0), .second, .val (.long q1), .second, .val (.int p2), .val (.int p3), .val (.int (v0_2 q0 q1 p2 p3)), .val (.int (1 : Int32)), .val (.ref b112), .val (.ref xtb0_0_123), .unset, .unset, .unset, .unset] [(.ref xtb0_0_123)])) rfl rfl (hb hby at_46) _ ?_
      rw [len_of S130 M130]
      show Steps p.tables e below (T123.setTop (mkF m 47 #[.val (.long q0), .second, .val (.long q1), .second, .val (.int p2), .val (.int p3), .val (.int (v0_2 q0 q1 p2 p3)), .val (.int (1 : Int32)), .val (.ref b112), .val (.ref xtb0_0_123), .unset, .unset, .unset, .unset] [(.int (0 : Int32))])) _
      refine XS.ifYes X123.here hx rfl (pc0 := 47) (pc' := 52) rfl (hb hby at_47) rfl (XT.i0_eq_t (by decide)) (by decide) (by decide) ?_
      show Steps p.tables e below (T123.setTop (mkF m 52 #[.val (.long q0), .second, .val (.long q1), .second, .val (.int p2), .val (.int p3), .val (.int (v0_2 q0 q1 p2 p3)), .val (.int (1 : Int32)), .val (.ref b112), .val (.ref xtb0_0_123), .unset, .unset, .unset, .unset] [])) _
      refine XT.bipushV X123.here hx rfl (60 : Int32) (hb hby at_52) (by decide) ?_
      show Steps p.tables e below (T123.setTop (mkF m 54 #[.val (.long q0), .second, .val (.long q1), .second, .val (.int p2), .val (.int p3), .val (.int (v0_2 q0 q1 p2 p3)), .val (.int (1 : Int32)), .val (.ref b112), .val (.ref xtb0_0_123), .unset, .unset, .unset, .unset] [(.int (60 : Int32))])) _
      refine st131 _ ?_
      show Steps p.tables e below (T131.setTop (mkF m 56 #[.val (.long q0), .second, .val (.long q1), .second, .val (.int p2), .val (.int p3), .val (.int (v0_2 q0 q1 p2 p3)), .val (.int (1 : Int32)), .val (.ref b112), .val (.ref xtb0_0_123), .unset, .unset, .unset, .unset] [(.ref b131)])) _
      refine XS.astore X131.here hx rfl (hb hby at_56) rfl rfl (l' := #[.val (.long q0), .second, .val (.long q1), .second, .val (.int p2), .val (.int p3), .val (.int (v0_2 q0 q1 p2 p3)), .val (.int (1 : Int32)), .val (.ref b112), .val (.ref xtb0_0_123), .val (.ref b131), .unset, .unset, .unset]) rfl ?_
      show Steps p.tables e below (T131.setTop (mkF m 58 #[.val (.long q0), .second, .val (.long q1), .second, .val (.int p2), .val (.int p3), .val (.int (v0_2 q0 q1 p2 p3)), .val (.int (1 : Int32)), .val (.ref b112), .val (.ref xtb0_0_123), .val (.ref b131), .unset, .unset, .unset] [])) _
      refine XS.aload X131.here hx rfl (hb hby at_58) rfl rfl ?_
      show Steps p.tables e below (T131.setTop (mkF m 60 #[.val (.long q0), .second, .val (.long q1), .second, .val (.int p2), .val (.int p3), .val (.int (v0_2 q0 q1 p2 p3)), .val (.int (1 : Int32)), .val (.ref b112), .val (.ref xtb0_0_123), .val (.ref b131), .unset, .unset, .unset] [(.ref b131)])) _
      refine XT.iconstV X131.here hx rfl (0 : Int32) (hb hby at_60) (by decide) ?_
      show Steps p.tables e below (T131.setTop (mkF m 61 #[.val (.long q0), .second, .val (.long q1), .second, .val (.int p2), .val (.int p3), .val (.int (v0_2 q0 q1 p2 p3)), .val (.int (1 : Int32)), .val (.ref b112), .val (.ref xtb0_0_123), .val (.ref b131), .unset, .unset, .unset] [(.int (0 : Int32)), (.ref b131)])) _
      refine XS.iload X131.here hx rfl (hb hby at_61) rfl ?_
      show Steps p.tables e below (T131.setTop (mkF m 63 #[.val (.long q0), .second, .val (.long q1), .second, .val (.int p2), .val (.int p3), .val (.int (v0_2 q0 q1 p2 p3)), .val (.int (1 : Int32)), .val (.ref b112), .val (.ref xtb0_0_123), .val (.ref b131), .unset, .unset, .unset] [(.int p3), (.int (0 : Int32)), (.ref b131)])) _
      refine XT.i2b X131.here hx rfl (hb hby at_63) rfl ?_
      show Steps p.tables e below (T131.setTop (mkF m 64 #[.val (.long q0), .second, .val (.long q1), .second, .val (.int p2), .val (.int p3), .val (.int (v0_2 q0 q1 p2 p3)), .val (.int (1 : Int32)), .val (.ref b112), .val (.ref xtb0_0_123), .val (.ref b131), .unset, .unset, .unset] [(.int (p3.toInt8.toInt32)), (.int (0 : Int32)), (.ref b131)])) _
      refine st143 _ ?_
      show Steps p.tables e below (T143.setTop (mkF m 65 #[.val (.long q0), .second, .val (.long q1), .second, .val (.int p2), .val (.int p3), .val (.int (v0_2 q0 q1 p2 p3)), .val (.int (1 : Int32)), .val (.ref b112), .val (.ref xtb0_0_123), .val (.ref b131), .unset, .unset, .unset] [])) _
      refine XS.aload X143.here hx rfl (hb hby at_65) rfl rfl ?_
      show Steps p.tables e below (T143.setTop (mkF m 67 #[.val (.long q0), .second, .val (.long q1), .second, .val (.int p2), .val (.int p3), .val (.int (v0_2 q0 q1 p2 p3)), .val (.int (1 : Int32)), .val (.ref b112), .val (.ref xtb0_0_123), .val (.ref b131), .unset, .unset, .unset] [(.ref b131)])) _
      refine XT.bipushV X143.here hx rfl (59 : Int32) (hb hby at_67) (by decide) ?_
      show Steps p.tables e below (T143.setTop (mkF m 69 #[.val (.long q0), .second, .val (.long q1), .second, .val (.int p2), .val (.int p3), .val (.int (v0_2 q0 q1 p2 p3)), .val (.int (1 : Int32)), .val (.ref b112), .val (.ref xtb0_0_123), .val (.ref b131), .unset, .unset, .unset] [(.int (59 : Int32)), (.ref b131)])) _
      refine XS.iload X143.here hx rfl (hb hby at_69) rfl ?_
      show Steps p.tables e below (T143.setTop (mkF m 71 #[.val (.long q0), .second, .val (.long q1), .second, .val (.int p2), .val (.int p3), .val (.int (v0_2 q0 q1 p2 p3)), .val (.int (1 : Int32)), .val (.ref b112), .val (.ref xtb0_0_123), .val (.ref b131), .unset, .unset, .unset] [(.int p3), (.int (59 : Int32)), (.ref b131)])) _
      refine XT.bipushV X143.here hx rfl (8 : Int32) (hb hby at_71) (by decide) ?_
      show Steps p.tables e below (T143.setTop (mkF m 73 #[.val (.long q0), .second, .val (.long q1), .second, .val (.int p2), .val (.int p3), .val (.int (v0_2 q0 q1 p2 p3)), .val (.int (1 : Int32)), .val (.ref b112), .val (.ref xtb0_0_123), .val (.ref b131), .unset, .unset, .unset] [(.int (8 : Int32)), (.int p3), (.int (59 : Int32)), (.ref b131)])) _
      refine XT.iushr X143.here hx rfl (hb hby at_73) rfl ?_
      show Steps p.tables e below (T143.setTop (mkF m 74 #[.val (.long q0), .second, .val (.long q1), .second, .val (.int p2), .val (.int p3), .val (.int (v0_2 q0 q1 p2 p3)), .val (.int (1 : Int32)), .val (.ref b112), .val (.ref xtb0_0_123), .val (.ref b131), .unset, .unset, .unset] [(.int (XT.ushr p3 (8 : Int32))), (.int (59 : Int32)), (.ref b131)])) _
      refine XT.i2b X143.here hx rfl (hb hby at_74) rfl ?_
      show Steps p.tables e below (T143.setTop (mkF m 75 #[.val (.long q0), .second, .val (.long q1), .second, .val (.int p2), .val (.int p3), .val (.int (v0_2 q0 q1 p2 p3)), .val (.int (1 : Int32)), .val (.ref b112), .val (.ref xtb0_0_123), .val (.ref b131), .unset, .unset, .unset] [(.int ((XT.ushr p3 (8 : Int32)).toInt8.toInt32)), (.int (59 : Int32)), (.ref b131)])) _
      refine st148 _ ?_
      show Steps p.tables e below (T148.setTop (mkF m 76 #[.val (.long q0), .second, .val (.long q1), .second, .val (.int p2), .val (.int p3), .val (.int (v0_2 q0 q1 p2 p3)), .val (.int (1 : Int32)), .val (.ref b112), .val (.ref xtb0_0_123), .val (.ref b131), .unset, .unset, .unset] [])) _
      refine XS.aload X148.here hx rfl (hb hby at_76) rfl rfl ?_
      show Steps p.tables e below (T148.setTop (mkF m 78 #[.val (.long q0), .second, .val (.long q1), .second, .val (.int p2), .val (.int p3), .val (.int (v0_2 q0 q1 p2 p3)), .val (.int (1 : Int32)), .val (.ref b112), .val (.ref xtb0_0_123), .val (.ref b131), .unset, .unset, .unset] [(.ref b112)])) _
      refine XT.lloadN X148.here hx rfl (hb hby at_78) rfl ?_
      show Steps p.tables e below (T148.setTop (mkF m 79 #[.val (.long q0), .second, .val (.long q1), .second, .val (.int p2), .val (.int p3), .val (.int (v0_2 q0 q1 p2 p3)), .val (.int (1 : Int32)), .val (.ref b112), .val (.ref xtb0_0_123), .val (.ref b131), .unset, .unset, .unset] [(.long q0), (.ref b112)])) _
      refine st151.trans ?_
      show Steps p.tables e below (T151.setTop (mkF m 82 #[.val (.long q0), .second, .val (.long q1), .second, .val (.int p2), .val (.int p3), .val (.int (v0_2 q0 q1 p2 p3)), .val (.int (1 : Int32)), .val (.ref b112), .val (.ref xtb0_0_123), .val (.ref b131), .unset, .unset, .unset] [(.ref b112)])) _
      refine XS.iload X151.here hx rfl (hb hby at_82) rfl ?_
      show Steps p.tables e below (T151.setTop (mkF m 84 #[.val (.long q0), .second, .val (.long q1), .second, .val (.int p2), .val (.int p3), .val (.int (v0_2 q0 q1 p2 p3)), .val (.int (1 : Int32)), .val (.ref b112), .val (.ref xtb0_0_123), .val (.ref b131), .unset, .unset, .unset] [(.int (v0_2 q0 q1 p2 p3)), (.ref b112)])) _
      refine st158.trans ?_
      show Steps p.tables e below (T158.setTop (mkF m 87 #[.val (.long q0), .second, .val (.long q1), .second, .val (.int p2), .val (.int p3), .val (.int (v0_2 q0 q1 p2 p3)), .val (.int (1 : Int32)), .val (.ref b112), .val (.ref xtb0_0_123), .val (.ref b131), .unset, .unset, .unset] [(.ref b112)])) _
      refine XT.pop X158.here hx rfl (hb hby at_87) rfl rfl ?_
      show Steps p.tables e below (T158.setTop (mkF m 88 #[.val (.long q0), .second, .val (.long q1), .second, .val (.int p2), .val (.int p3), .val (.int (v0_2 q0 q1 p2 p3)), .val (.int (1 : Int32)), .val (.ref b112), .val (.ref xtb0_0_123), .val (.ref b131), .unset, .unset, .unset] [])) _
      refine XS.iload X158.here hx rfl (hb hby at_88) rfl ?_
      show Steps p.tables e below (T158.setTop (mkF m 90 #[.val (.long q0), .second, .val (.long q1), .second, .val (.int p2), .val (.int p3), .val (.int (v0_2 q0 q1 p2 p3)), .val (.int (1 : Int32)), .val (.ref b112), .val (.ref xtb0_0_123), .val (.ref b131), .unset, .unset, .unset] [(.int (1 : Int32))])) _
      refine XS.ifNo X158.here hx rfl (hb hby at_90) rfl (XT.i0_eq_f (by decide)) ?_
      show Steps p.tables e below (T158.setTop (mkF m 93 #[.val (.long q0), .second, .val (.long q1), .second, .val (.int p2), .val (.int p3), .val (.int (v0_2 q0 q1 p2 p3)), .val (.int (1 : Int32)), .val (.ref b112), .val (.ref xtb0_0_123), .val (.ref b131), .unset, .unset, .unset] [])) _
      refine XS.aload X158.here hx rfl (hb hby at_93) rfl rfl ?_
      show Steps p.tables e below (T158.setTop (mkF m 95 #[.val (.long q0), .second, .val (.long q1), .second, .val (.int p2), .val (.int p3), .val (.int (v0_2 q0 q1 p2 p3)), .val (.int (1 : Int32)), .val (.ref b112), .val (.ref xtb0_0_123), .val (.ref b131), .unset, .unset, .unset] [(.ref b112)])) _
      refine XS.aload X158.here hx rfl (hb hby at_95) rfl rfl ?_
      show Steps p.tables e below (T158.setTop (mkF m 97 #[.val (.long q0), .second, .val (.long q1), .second, .val (.int p2), .val (.int p3), .val (.int (v0_2 q0 q1 p2 p3)), .val (.int (1 : Int32)), .val (.ref b112), .val (.ref xtb0_0_123), .val (.ref b131), .unset, .unset, .unset] [(.ref b131), (.ref b112)])) _
      refine st161.trans ?_
      show Steps p.tables e below (T161.setTop (mkF m 100 #[.val (.long q0), .second, .val (.long q1), .second, .val (.int p2), .val (.int p3), .val (.int (v0_2 q0 q1 p2 p3)), .val (.int (1 : Int32)), .val (.ref b112), .val (.ref xtb0_0_123), .val (.ref b131), .unset, .unset, .unset] [(.ref b112)])) _
      refine XT.pop X161.here hx rfl (hb hby at_100) rfl rfl ?_
      show Steps p.tables e below (T161.setTop (mkF m 101 #[.val (.long q0), .second, .val (.long q1), .second, .val (.int p2), .val (.int p3), .val (.int (v0_2 q0 q1 p2 p3)), .val (.int (1 : Int32)), .val (.ref b112), .val (.ref xtb0_0_123), .val (.ref b131), .unset, .unset, .unset] [])) _
      refine XS.aload X161.here hx rfl (hb hby at_101) rfl rfl ?_
      show Steps p.tables e below (T161.setTop (mkF m 103 #[.val (.long q0), .second, .val (.long q1), .second, .val (.int p2), .val (.int p3), .val (.int (v0_2 q0 q1 p2 p3)), .val (.int (1 : Int32)), .val (.ref b112), .val (.ref xtb0_0_123), .val (.ref b131), .unset, .unset, .unset] [(.ref b112)])) _
      refine XT.lloadN X161.here hx rfl (hb hby at_103) rfl ?_
      show Steps p.tables e below (T161.setTop (mkF m 104 #[.val (.long q0), .second, .val (.long q1), .second, .val (.int p2), .val (.int p3), .val (.int (v0_2 q0 q1 p2 p3)), .val (.int (1 : Int32)), .val (.ref b112), .val (.ref xtb0_0_123), .val (.ref b131), .unset, .unset, .unset] [(.long q1), (.ref b112)])) _
      refine st173.trans ?_
      show Steps p.tables e below (T173.setTop (mkF m 107 #[.val (.long q0), .second, .val (.long q1), .second, .val (.int p2), .val (.int p3), .val (.int (v0_2 q0 q1 p2 p3)), .val (.int (1 : Int32)), .val (.ref b112), .val (.ref xtb0_0_123), .val (.ref b131), .unset, .unset, .unset] [(.ref b112)])) _
      refine XT.pop X173.here hx rfl (hb hby at_107) rfl rfl ?_
      show Steps p.tables e below (T173.setTop (mkF m 108 #[.val (.long q0), .second, .val (.long q1), .second, .val (.int p2), .val (.int p3), .val (.int (v0_2 q0 q1 p2 p3)), .val (.int (1 : Int32)), .val (.ref b112), .val (.ref xtb0_0_123), .val (.ref b131), .unset, .unset, .unset] [])) _
      refine XS.aload X173.here hx rfl (hb hby at_108) rfl rfl ?_
      show Steps p.tables e below (T173.setTop (mkF m 110 #[.val (.long q0), .second, .val (.long q1), .second, .val (.int p2), .val (.int p3), .val (.int (v0_2 q0 q1 p2 p3)), .val (.int (1 : Int32)), .val (.ref b112), .val (.ref xtb0_0_123), .val (.ref b131), .unset, .unset, .unset] [(.ref b112)])) _
      refine st176.trans ?_
      show Steps p.tables e below (T176.setTop (mkF m 113 #[.val (.long q0), .second, .val (.long q1), .second, .val (.int p2), .val (.int p3), .val (.int (v0_2 q0 q1 p2 p3)), .val (.int (1 : Int32)), .val (.ref b112), .val (.ref xtb0_0_123), .val (.ref b131), .unset, .unset, .unset] [(.ref xtb85_0_176)])) _
      refine XS.astore X176.here hx rfl (hb hby at_113) rfl rfl (l' := #[.val (.long q0), .second, .val (.long q1), .second, .val (.int p2), .val (.int p3), .val (.int (v0_2 q0 q1 p2 p3)), .val (.int (1 : Int32)), .val (.ref b112), .val (.ref xtb0_0_123), .val (.ref b131), .val (.ref xtb85_0_176), .unset, .unset]) rfl ?_
      show Steps p.tables e below (T176.setTop (mkF m 115 #[.val (.long q0), .second, .val (.long q1), .second, .val (.int p2), .val (.int p3), .val (.int (v0_2 q0 q1 p2 p3)), .val (.int (1 : Int32)), .val (.ref b112), .val (.ref xtb0_0_123), .val (.ref b131), .val (.ref xtb85_0_176), .unset, .unset] [])) _
      refine XS.iload X176.here hx rfl (hb hby at_115) rfl ?_
      show Steps p.tables e below (T176.setTop (mkF m 117 #[.val (.long q0), .second, .val (.long q1), .second, .val (.int p2), .val (.int p3), .val (.int (v0_2 q0 q1 p2 p3)), .val (.int (1 : Int32)), .val (.ref b112), .val (.ref xtb0_0_123), .val (.ref b131), .val (.ref xtb85_0_176), .unset, .unset] [(.int (1 : Int32))])) _
      refine XS.ifNo X176.here hx rfl (hb hby at_117) rfl (XT.i0_eq_f (by decide)) ?_
      show Steps p.tables e below (T176.setTop (mkF m 120 #[.val (.long q0), .second, .val (.long q1), .second, .val (.int p2), .val (.int p3), .val (.int (v0_2 q0 q1 p2 p3)), .val (.int (1 : Int32)), .val (.ref b112), .val (.ref xtb0_0_123), .val (.ref b131), .val (.ref xtb85_0_176), .unset, .unset] [])) _
      refine XT.bipushV X176.here hx rfl (77 : Int32) (hb hby at_120) (by decide) ?_
      show Steps p.tables e below (T176.setTop (mkF m 122 #[.val (.long q0), .second, .val (.long q1), .second, .val (.int p2), .val (.int p3), .val (.int (v0_2 q0 q1 p2 p3)), .val (.int (1 : Int32)), .val (.ref b112), .val (.ref xtb0_0_123), .val (.ref b131), .val (.ref xtb85_0_176), .unset, .unset] [(.int (77 : Int32))])) _
      refine XS.goto X176.here hx rfl (pc0 := 122) (pc' := 127) rfl (hb hby at_122) (by decide) (by decide) ?_
      show Steps p.tables e below (T176.setTop (mkF m 127 #[.val (.long q0), .second, .val (.long q1), .second, .val (.int p2), .val (.int p3), .val (.int (v0_2 q0 q1 p2 p3)), .val (.int (1 : Int32)), .val (.ref b112), .val (.ref xtb0_0_123), .val (.ref b131), .val (.ref xtb85_0_176), .unset, .unset] [(.int (77 : Int32))])) _
      refine XS.istore X176.here hx rfl (hb hby at_127) rfl (l' := #[.val (.long q0), .second, .val (.long q1), .second, .val (.int p2), .val (.int p3), .val (.int (v0_2 q0 q1 p2 p3)), .val (.int (1 : Int32)), .val (.ref b112), .val (.ref xtb0_0_123), .val (.ref b131), .val (.ref xtb85_0_176), .val (.int (77 : Int32)), .unset]) rfl ?_
      show Steps p.tables e below (T176.setTop (mkF m 129 #[.val (.long q0), .second, .val (.long q1), .second, .val (.int p2), .val (.int p3), .val (.int (v0_2 q0 q1 p2 p3)), .val (.int (1 : Int32)), .val (.ref b112), .val (.ref xtb0_0_123), .val (.ref b131), .val (.ref xtb85_0_176), .val (.int (77 : Int32)), .unset] [])) _
      refine XS.aload X176.here hx rfl (hb hby at_129) rfl rfl ?_
      show Steps p.tables e below (T176.setTop (mkF m 131 #[.val (.long q0), .second, .val (.long q1), .second, .val (.int p2), .val (.int p3), .val (.int (v0_2 q0 q1 p2 p3)), .val (.int (1 : Int32)), .val (.ref b112), .val (.ref xtb0_0_123), .val (.ref b131), .val (.ref xtb85_0_176), .val (.int (77 : Int32)), .unset] [(.ref xtb85_0_176)])) _
      refine X176.arraylength hx Ar189.1 (State.isArrayOf_alike hZ.alike Ar189.2.1) (g := (mkF m 131 #[.val (.long q0), .second, .val (.long q1), .second, .val (.int p2), .val (.int p3), .val (.int (v0_2 q0 q1 p2 p3)), .val (.int (1 : Int32)), .val (.ref b112), .val (.ref xtb0_0_123), .val (.ref b131), .val (.ref xtb85_0_176), .val (.int (77 : Int32)), .unset] [(.ref xtb85_0_176)])) rfl rfl (hb hby at_131) _ ?_
      rw [len_of S189 M189]
      show Steps p.tables e below (T176.setTop (mkF m 132 #[.val (.long q0), .second, .val (.long q1), .second, .val (.int p2), .val (.int p3), .val (.int (v0_2 q0 q1 p2 p3)), .val (.int (1 : Int32)), .val (.ref b112), .val (.ref xtb0_0_123), .val (.ref b131), .val (.ref xtb85_0_176), .val (.int (77 : Int32)), .unset] [(.int (85 : Int32))])) _
      refine XS.iload X176.here hx rfl (hb hby at_132) rfl ?_
      show Steps p.tables e below (T176.setTop (mkF m 134 #[.val (.long q0), .second, .val (.long q1), .second, .val (.int p2), .val (.int p3), .val (.int (v0_2 q0 q1 p2 p3)), .val (.int (1 : Int32)), .val (.ref b112), .val (.ref xtb0_0_123), .val (.ref b131), .val (.ref xtb85_0_176), .val (.int (77 : Int32)), .unset] [(.int (77 : Int32)), (.int (85 : Int32))])) _
      refine XT.bipushV X176.here hx rfl (8 : Int32) (hb hby at_134) (by decide) ?_
      show Steps p.tables e below (T176.setTop (mkF m 136 #[.val (.long q0), .second, .val (.long q1), .second, .val (.int p2), .val (.int p3), .val (.int (v0_2 q0 q1 p2 p3)), .val (.int (1 : Int32)), .val (.ref b112), .val (.ref xtb0_0_123), .val (.ref b131), .val (.ref xtb85_0_176), .val (.int (77 : Int32)), .unset] [(.int (8 : Int32)), (.int (77 : Int32)), (.int (85 : Int32))])) _
      refine XS.iadd X176.here hx rfl (hb hby at_136) rfl ?_
      show Steps p.tables e below (T176.setTop (mkF m 137 #[.val (.long q0), .second, .val (.long q1), .second, .val (.int p2), .val (.int p3), .val (.int (v0_2 q0 q1 p2 p3)), .val (.int (1 : Int32)), .val (.ref b112), .val (.ref xtb0_0_123), .val (.ref b131), .val (.ref xtb85_0_176), .val (.int (77 : Int32)), .unset] [(.int (85 : Int32)), (.int (85 : Int32))])) _
      refine XS.icmpYes X176.here hx rfl (pc0 := 137) (pc' := 142) rfl (hb hby at_137) rfl (XT.ii_eq_t (by decide)) (by decide) (by decide) ?_
      show Steps p.tables e below (T176.setTop (mkF m 142 #[.val (.long q0), .second, .val (.long q1), .second, .val (.int p2), .val (.int p3), .val (.int (v0_2 q0 q1 p2 p3)), .val (.int (1 : Int32)), .val (.ref b112), .val (.ref xtb0_0_123), .val (.ref b131), .val (.ref xtb85_0_176), .val (.int (77 : Int32)), .unset] [])) _
      refine XS.aload X176.here hx rfl (hb hby at_142) rfl rfl ?_
      show Steps p.tables e below (T176.setTop (mkF m 144 #[.val (.long q0), .second, .val (.long q1), .second, .val (.int p2), .val (.int p3), .val (.int (v0_2 q0 q1 p2 p3)), .val (.int (1 : Int32)), .val (.ref b112), .val (.ref xtb0_0_123), .val (.ref b131), .val (.ref xtb85_0_176), .val (.int (77 : Int32)), .unset] [(.ref xtb85_0_176)])) _
      refine XT.iconstV X176.here hx rfl (0 : Int32) (hb hby at_144) (by decide) ?_
      show Steps p.tables e below (T176.setTop (mkF m 145 #[.val (.long q0), .second, .val (.long q1), .second, .val (.int p2), .val (.int p3), .val (.int (v0_2 q0 q1 p2 p3)), .val (.int (1 : Int32)), .val (.ref b112), .val (.ref xtb0_0_123), .val (.ref b131), .val (.ref xtb85_0_176), .val (.int (77 : Int32)), .unset] [(.int (0 : Int32)), (.ref xtb85_0_176)])) _
      refine XT.lloadN X176.here hx rfl (hb hby at_145) rfl ?_
      show Steps p.tables e below (T176.setTop (mkF m 146 #[.val (.long q0), .second, .val (.long q1), .second, .val (.int p2), .val (.int p3), .val (.int (v0_2 q0 q1 p2 p3)), .val (.int (1 : Int32)), .val (.ref b112), .val (.ref xtb0_0_123), .val (.ref b131), .val (.ref xtb85_0_176), .val (.int (77 : Int32)), .unset] [(.long q0), (.int (0 : Int32)), (.ref xtb85_0_176)])) _
      refine st190 _ ?_
      show Steps p.tables e below (T190.setTop (mkF m 149 #[.val (.long q0), .second, .val (.long q1), .second, .val (.int p2), .val (.int p3), .val (.int (v0_2 q0 q1 p2 p3)), .val (.int (1 : Int32)), .val (.ref b112), .val (.ref xtb0_0_123), .val (.ref b131), .val (.ref xtb85_0_176), .val (.int (77 : Int32)), .unset] [(.int (fla85_0 q0 (nar .byte (vnu0_1 q0)) (nar .byte (vnu0_2 q0)) (nar .byte (vnu0_3 q0)) (nar .byte (vnu0_4 q0)) (nar .byte (vnu0_5 q0)) (nar .byte (vnu0_6 q0)) (nar .byte (vnu0_7 q0)) (nar .byte (vnu0_8 q0))))])) _
      refine XS.ifYes X190.here hx rfl (pc0 := 149) (pc' := 154) rfl (hb hby at_149) rfl (XT.i0_ne_t (own_v0_17 q0 q1 p2 p3)) (by decide) (by decide) ?_
      show Steps p.tables e below (T190.setTop (mkF m 154 #[.val (.long q0), .second, .val (.long q1), .second, .val (.int p2), .val (.int p3), .val (.int (v0_2 q0 q1 p2 p3)), .val (.int (1 : Int32)), .val (.ref b112), .val (.ref xtb0_0_123), .val (.ref b131), .val (.ref xtb85_0_176), .val (.int (77 : Int32)), .unset] [])) _
      refine XS.aload X190.here hx rfl (hb hby at_154) rfl rfl ?_
      show Steps p.tables e below (T190.setTop (mkF m 156 #[.val (.long q0), .second, .val (.long q1), .second, .val (.int p2), .val (.int p3), .val (.int (v0_2 q0 q1 p2 p3)), .val (.int (1 : Int32)), .val (.ref b112), .val (.ref xtb0_0_123), .val (.ref b131), .val (.ref xtb85_0_176), .val (.int (77 : Int32)), .unset] [(.ref xtb85_0_176)])) _
      refine XT.bipushV X190.here hx rfl (8 : Int32) (hb hby at_156) (by decide) ?_
      show Steps p.tables e below (T190.setTop (mkF m 158 #[.val (.long q0), .second, .val (.long q1), .second, .val (.int p2), .val (.int p3), .val (.int (v0_2 q0 q1 p2 p3)), .val (.int (1 : Int32)), .val (.ref b112), .val (.ref xtb0_0_123), .val (.ref b131), .val (.ref xtb85_0_176), .val (.int (77 : Int32)), .unset] [(.int (8 : Int32)), (.ref xtb85_0_176)])) _
      refine X190.baloadBytes hx (j := (8 : Int32)) (v := (.int (nar .byte (v8_2 (v0_2 q0 q1 p2 p3))))) (by rw [e190]; exact Ar189.1) (State.isArrayOf_alike hZ.alike Ar189.2.1) Ar189.2.2 hin191 (Has.at Ha189 hin191 rfl) (g := (mkF m 158 #[.val (.long q0), .second, .val (.long q1), .second, .val (.int p2), .val (.int p3), .val (.int (v0_2 q0 q1 p2 p3)), .val (.int (1 : Int32)), .val (.ref b112), .val (.ref xtb0_0_123), .val (.ref b131), .val (.ref xtb85_0_176), .val (.int (77 : Int32)), .unset] [(.int (8 : Int32)), (.ref xtb85_0_176)])) rfl rfl (hb hby at_158) _ ?_
      show Steps p.tables e below (T190.setTop (mkF m 159 #[.val (.long q0), .second, .val (.long q1), .second, .val (.int p2), .val (.int p3), .val (.int (v0_2 q0 q1 p2 p3)), .val (.int (1 : Int32)), .val (.ref b112), .val (.ref xtb0_0_123), .val (.ref b131), .val (.ref xtb85_0_176), .val (.int (77 : Int32)), .unset] [(.int (nar .byte (v8_2 (v0_2 q0 q1 p2 p3))))])) _
      refine XS.iload X190.here hx rfl (hb hby at_159) rfl ?_
      exact k
    clear pre4 st112 st117 st123 st131 st143 st148 st151 st158 st161 st173 st176 st190
    have pre194 : ∀ t, Steps p.tables e below (T190.setTop (mkF m 169 #[.val (.long q0), .second, .val (.long q1), .second, .val (.int p2), .val (.int p3), .val (.int (v0_2 q0 q1 p2 p3)), .val (.int (1 : Int32)), .val (.ref b112), .val (.ref xtb0_0_123), .val (.ref b131), .val (.ref xtb85_0_176), .val (.int (77 : Int32)), .unset] [(.int (v0_18 q0 q1 p2 p3)), (.int (nar .byte (v8_2 (v0_2 q0 q1 p2 p3))))])) t → Steps p.tables e below (s₁.setTop (entryFrame m #[(.long q0), (.long q1), (.int p2), (.int p3)] maxLocals)) t := by
      intro t k
      by_cases c193 : (v0_2 q0 q1 p2 p3) = (0 : Int32)
      · skip
        rw [show (v0_18 q0 q1 p2 p3) = (0 : Int32) from (if_pos c193)] at k
        refine pre192 t ?_
        show Steps p.tables e below (T190.setTop (mkF m 161 #[.val (.long q0), .second, .val (.long q1), .second, .val (.int p2), .val (.int p3), .val (.int (v0_2 q0 q1 p2 p3)), .val (.int (1 : Int32)), .val (.ref b112), .val (.ref xtb0_0_123), .val (.ref b131), .val (.ref xtb85_0_176), .val (.int (77 : Int32)), .unset] [(.int (v0_2 q0 q1 p2 p3)), (.int (nar .byte (v8_2 (v0_2 q0 q1 p2 p3))))])) _
        refine XS.ifYes X190.here hx rfl (pc0 := 161) (pc' := 168) rfl (hb hby at_161) rfl (XT.i0_eq_t c193) (by decide) (by decide) ?_
        show Steps p.tables e below (T190.setTop (mkF m 168 #[.val (.long q0), .second, .val (.long q1), .second, .val (.int p2), .val (.int p3), .val (.int (v0_2 q0 q1 p2 p3)), .val (.int (1 : Int32)), .val (.ref b112), .val (.ref xtb0_0_123), .val (.ref b131), .val (.ref xtb85_0_176), .val (.int (77 : Int32)), .unset] [(.int (nar .byte (v8_2 (v0_2 q0 q1 p2 p3))))])) _
        refine XT.iconstV X190.here hx rfl (0 : Int32) (hb hby at_168) (by decide) ?_
        exact k
      · skip
        rw [show (v0_18 q0 q1 p2 p3) = (1 : Int32) from (if_neg c193)] at k
        refine pre192 t ?_
        show Steps p.tables e below (T190.setTop (mkF m 161 #[.val (.long q0), .second, .val (.long q1), .second, .val (.int p2), .val (.int p3), .val (.int (v0_2 q0 q1 p2 p3)), .val (.int (1 : Int32)), .val (.ref b112), .val (.ref xtb0_0_123), .val (.ref b131), .val (.ref xtb85_0_176), .val (.int (77 : Int32)), .unset] [(.int (v0_2 q0 q1 p2 p3)), (.int (nar .byte (v8_2 (v0_2 q0 q1 p2 p3))))])) _
        refine XS.ifNo X190.here hx rfl (hb hby at_161) rfl (XT.i0_eq_f c193) ?_
        show Steps p.tables e below (T190.setTop (mkF m 164 #[.val (.long q0), .second, .val (.long q1), .second, .val (.int p2), .val (.int p3), .val (.int (v0_2 q0 q1 p2 p3)), .val (.int (1 : Int32)), .val (.ref b112), .val (.ref xtb0_0_123), .val (.ref b131), .val (.ref xtb85_0_176), .val (.int (77 : Int32)), .unset] [(.int (nar .byte (v8_2 (v0_2 q0 q1 p2 p3))))])) _
        refine XT.iconstV X190.here hx rfl (1 : Int32) (hb hby at_164) (by decide) ?_
        show Steps p.tables e below (T190.setTop (mkF m 165 #[.val (.long q0), .second, .val (.long q1), .second, .val (.int p2), .val (.int p3), .val (.int (v0_2 q0 q1 p2 p3)), .val (.int (1 : Int32)), .val (.ref b112), .val (.ref xtb0_0_123), .val (.ref b131), .val (.ref xtb85_0_176), .val (.int (77 : Int32)), .unset] [(.int (1 : Int32)), (.int (nar .byte (v8_2 (v0_2 q0 q1 p2 p3))))])) _
        refine XS.goto X190.here hx rfl (pc0 := 165) (pc' := 169) rfl (hb hby at_165) (by decide) (by decide) ?_
        exact k
    obtain ⟨vr195, _, ⟨T195, L195, k195, n195⟩, -, X195, ⟨Lc195, hQ195, l195, y195, z195⟩, st195⟩ := Jvm.LawKit.callS X190 hx (y := (⟨"com/example/dispatch_by_catalog/dispatchbycatalog/store/RecordWriterToBytesPinLaw", "longAt", "([BIJ)Z"⟩ : MethodName)) hown (mvT hZ (hw _ (List.mem_of_getElem? (i := 45) rfl))) (mvT hZ (hw _ (List.mem_of_getElem? (i := 46) rfl))) (mvT hZ (hw _ (List.mem_of_getElem? (i := 47) rfl))) (mvT hZ (hw _ (List.mem_of_getElem? (i := 48) rfl))) (by decide) (backOf (W := 0) (rmla85_9 l Z a0 hw [] xtb85_0_176 (60 : Int64) (.int (nar .byte (vnu0_1 q0))) (.int (nar .byte (vnu0_2 q0))) (.int (nar .byte (vnu0_3 q0))) (.int (nar .byte (vnu0_4 q0))) (.int (nar .byte (vnu0_5 q0))) (.int (nar .byte (vnu0_6 q0))) (.int (nar .byte (vnu0_7 q0))) (.int (nar .byte (vnu0_8 q0))) (.int (nar .byte (v8_2 (v0_2 q0 q1 p2 p3)))) (nar .byte (vnu9_1 v10_1)) (nar .byte (vnu9_2 v10_1)) (nar .byte (vnu9_3 v10_1)) (nar .byte (vnu9_4 v10_1)) (nar .byte (vnu9_5 v10_1)) (nar .byte (vnu9_6 v10_1)) (nar .byte (vnu9_7 v10_1)) (nar .byte (vnu9_8 v10_1)) (.int (nar .byte (v0_15 q0 q1 p2 p3))) (.int (0 : Int32)) (.int (0 : Int32)) (.int (0 : Int32)) (.int (0 : Int32)) (.int (0 : Int32)) (.int (0 : Int32)) (.int (0 : Int32)) (.int (0 : Int32)) (.int (0 : Int32)) (.int (0 : Int32)) (.int (0 : Int32)) (.int (0 : Int32)) (.int (0 : Int32)) (.int (0 : Int32)) (.int (0 : Int32)) (.int (0 : Int32)) (.int (0 : Int32)) (.int (0 : Int32)) (.int (0 : Int32)) (.int (0 : Int32)) (.int (0 : Int32)) (.int (0 : Int32)) (.int (0 : Int32)) (.int (0 : Int32)) (.int (0 : Int32)) (.int (0 : Int32)) (.int (0 : Int32)) (.int (0 : Int32)) (.int (0 : Int32)) (.int (0 : Int32)) (.int (0 : Int32)) (.int (0 : Int32)) (.int (0 : Int32)) (.int (0 : Int32)) (.int (0 : Int32)) (.int (0 : Int32)) (.int (0 : Int32)) (.int (0 : Int32)) (.int (0 : Int32)) (.int (0 : Int32)) (.int (0 : Int32)) (.int (0 : Int32)) (.int (0 : Int32)) (.int (0 : Int32)) (.int (0 : Int32)) (.int (0 : Int32)) (.int (0 : Int32)) (.int (0 : Int32)) (.int (0 : Int32)) (.int (0 : Int32)) (.int (0 : Int32)) (.int (0 : Int32)) (.int (0 : Int32)) (.int (0 : Int32)) (.int (0 : Int32)) (.int (0 : Int32)) (.int (0 : Int32)) (.int (0 : Int32)) (.int (nar .byte (v0_16 q0 q1 p2 p3))) (.int (nar .byte (vnu77_1 q1))) (.int (nar .byte (vnu77_2 q1))) (.int (nar .byte (vnu77_3 q1))) (.int (nar .byte (vnu77_4 q1))) (.int (nar .byte (vnu77_5 q1))) (.int (nar .byte (vnu77_6 q1))) (.int (nar .byte (vnu77_7 q1))) (.int (nar .byte (vnu77_8 q1))) ktb85_1_176 T176.heap n0 z187 po176_0) hZ (hw _ (List.mem_of_getElem? (i := 48) rfl)) (hw _ (List.mem_of_getElem? (i := 47) rfl)) (by decide) (by decide)) (g := (mkF m 186 #[.val (.long q0), .second, .val (.long q1), .second, .val (.int p2), .val (.int p3), .val (.int (v0_2 q0 q1 p2 p3)), .val (.int (1 : Int32)), .val (.ref b112), .val (.ref xtb0_0_123), .val (.ref b131), .val (.ref xtb85_0_176), .val (.int (77 : Int32)), .unset] [(.long (60 : Int64)), (.int (9 : Int32)), (.ref xtb85_0_176)])) rfl (by rw [hml]; rfl) (argsL := [(.ref xtb85_0_176), (.int (9 : Int32)), (.long (60 : Int64))]) (rest := []) (lenOf pd___BIJ_Z rfl) rfl (by show 2 * 0 + _ ≤ _; exact Nat.le_of_eq rfl) (hb hby at_186) (fun _ _ => ⟨rfl, e190, (by decide : 6 + 0 ≤ _), (by decide : 339 + 0 ≤ _)⟩)
    dsimp only [Pt.U, Pt.locs, Pt.cells, Pt.slots] at X195 l195 y195 z195 st195 hQ195
    subst l195 y195 z195
    have N195q := (show _ ∧ _ ∧ _ from hQ195).1
    have hv195 := (show _ ∧ _ ∧ _ from hQ195).2.1
    have e195 := (show _ ∧ _ ∧ _ from hQ195).2.2
    clear hQ195
    subst hv195
    have N195 := Fr.app N190 N195q
    have hin196 : ¬ ((17 : Int32) < 0 ∨ cl189.slots.size ≤ ((17 : Int32)).toNatClampNeg) := inb_of S189 ⟨by decide, by decide⟩
    have hin197 : ¬ ((47 : Int32) < 0 ∨ cl189.slots.size ≤ ((47 : Int32)).toNatClampNeg) := inb_of S189 ⟨by decide, by decide⟩
    have hin198 : ¬ ((76 : Int32) < 0 ∨ cl189.slots.size ≤ ((76 : Int32)).toNatClampNeg) := inb_of S189 ⟨by decide, by decide⟩
    obtain ⟨vr199, _, ⟨T199, L199, k199, n199⟩, -, X199, ⟨Lc199, hQ199, l199, y199, z199⟩, st199⟩ := Jvm.LawKit.callS X195 hx (y := (⟨"com/example/dispatch_by_catalog/dispatchbycatalog/store/RecordWriterToBytesPinLaw", "longAt", "([BIJ)Z"⟩ : MethodName)) hown (mvT hZ (hw _ (List.mem_of_getElem? (i := 45) rfl))) (mvT hZ (hw _ (List.mem_of_getElem? (i := 46) rfl))) (mvT hZ (hw _ (List.mem_of_getElem? (i := 47) rfl))) (mvT hZ (hw _ (List.mem_of_getElem? (i := 48) rfl))) (by decide) (backOf (W := 0) (rmla85_77 l Z a0 hw [] xtb85_0_176 q1 (.int (nar .byte (vnu0_1 q0))) (.int (nar .byte (vnu0_2 q0))) (.int (nar .byte (vnu0_3 q0))) (.int (nar .byte (vnu0_4 q0))) (.int (nar .byte (vnu0_5 q0))) (.int (nar .byte (vnu0_6 q0))) (.int (nar .byte (vnu0_7 q0))) (.int (nar .byte (vnu0_8 q0))) (.int (nar .byte (v8_2 (v0_2 q0 q1 p2 p3)))) (.int (nar .byte (vnu9_1 v10_1))) (.int (nar .byte (vnu9_2 v10_1))) (.int (nar .byte (vnu9_3 v10_1))) (.int (nar .byte (vnu9_4 v10_1))) (.int (nar .byte (vnu9_5 v10_1))) (.int (nar .byte (vnu9_6 v10_1))) (.int (nar .byte (vnu9_7 v10_1))) (.int (nar .byte (vnu9_8 v10_1))) (.int (nar .byte (v0_15 q0 q1 p2 p3))) (.int (0 : Int32)) (.int (0 : Int32)) (.int (0 : Int32)) (.int (0 : Int32)) (.int (0 : Int32)) (.int (0 : Int32)) (.int (0 : Int32)) (.int (0 : Int32)) (.int (0 : Int32)) (.int (0 : Int32)) (.int (0 : Int32)) (.int (0 : Int32)) (.int (0 : Int32)) (.int (0 : Int32)) (.int (0 : Int32)) (.int (0 : Int32)) (.int (0 : Int32)) (.int (0 : Int32)) (.int (0 : Int32)) (.int (0 : Int32)) (.int (0 : Int32)) (.int (0 : Int32)) (.int (0 : Int32)) (.int (0 : Int32)) (.int (0 : Int32)) (.int (0 : Int32)) (.int (0 : Int32)) (.int (0 : Int32)) (.int (0 : Int32)) (.int (0 : Int32)) (.int (0 : Int32)) (.int (0 : Int32)) (.int (0 : Int32)) (.int (0 : Int32)) (.int (0 : Int32)) (.int (0 : Int32)) (.int (0 : Int32)) (.int (0 : Int32)) (.int (0 : Int32)) (.int (0 : Int32)) (.int (0 : Int32)) (.int (0 : Int32)) (.int (0 : Int32)) (.int (0 : Int32)) (.int (0 : Int32)) (.int (0 : Int32)) (.int (0 : Int32)) (.int (0 : Int32)) (.int (0 : Int32)) (.int (0 : Int32)) (.int (0 : Int32)) (.int (0 : Int32)) (.int (0 : Int32)) (.int (0 : Int32)) (.int (0 : Int32)) (.int (0 : Int32)) (.int (0 : Int32)) (.int (0 : Int32)) (.int (nar .byte (v0_16 q0 q1 p2 p3))) (nar .byte (vnu77_1 q1)) (nar .byte (vnu77_2 q1)) (nar .byte (vnu77_3 q1)) (nar .byte (vnu77_4 q1)) (nar .byte (vnu77_5 q1)) (nar .byte (vnu77_6 q1)) (nar .byte (vnu77_7 q1)) (nar .byte (vnu77_8 q1)) ktb85_1_176 T176.heap n0 z187 po176_0) hZ (hw _ (List.mem_of_getElem? (i := 48) rfl)) (hw _ (List.mem_of_getElem? (i := 47) rfl)) (by decide) (by decide)) (g := (mkF m 238 #[.val (.long q0), .second, .val (.long q1), .second, .val (.int p2), .val (.int p3), .val (.int (v0_2 q0 q1 p2 p3)), .val (.int (1 : Int32)), .val (.ref b112), .val (.ref xtb0_0_123), .val (.ref b131), .val (.ref xtb85_0_176), .val (.int (77 : Int32)), .unset] [(.long q1), (.int (77 : Int32)), (.ref xtb85_0_176)])) rfl (by rw [hml]; rfl) (argsL := [(.ref xtb85_0_176), (.int (77 : Int32)), (.long q1)]) (rest := []) (lenOf pd___BIJ_Z rfl) rfl (by show 2 * 0 + _ ≤ _; exact Nat.le_of_eq rfl) (hb hby at_238) (fun _ _ => ⟨rfl, e195, (by decide : 6 + 0 ≤ _), (by decide : 339 + 0 ≤ _)⟩)
    dsimp only [Pt.U, Pt.locs, Pt.cells, Pt.slots] at X199 l199 y199 z199 st199 hQ199
    subst l199 y199 z199
    have N199q := (show _ ∧ _ ∧ _ from hQ199).1
    have hv199 := (show _ ∧ _ ∧ _ from hQ199).2.1
    have e199 := (show _ ∧ _ ∧ _ from hQ199).2.2
    clear hQ199
    subst hv199
    have N199 := Fr.app N195 N199q
    have hin200 : ¬ ((0 : Int32) < 0 ∨ cl189.slots.size ≤ ((0 : Int32)).toNatClampNeg) := inb_of S189 ⟨by decide, by decide⟩
    have hin201 : ¬ ((0 : Int32) < 0 ∨ cl189.slots.size ≤ ((0 : Int32)).toNatClampNeg) := inb_of S189 ⟨by decide, by decide⟩
    obtain ⟨T202, h202, X202, e202, W202, st202⟩ := stB X199 hx hZ e199 Ar189 (j := (0 : Int32)) hin201 (g := (mkF m 256 #[.val (.long q0), .second, .val (.long q1), .second, .val (.int p2), .val (.int p3), .val (.int (v0_2 q0 q1 p2 p3)), .val (.int (1 : Int32)), .val (.ref b112), .val (.ref xtb0_0_123), .val (.ref b131), .val (.ref xtb85_0_176), .val (.int (77 : Int32)), .unset] [(.int (((nar .byte (vnu0_1 q0)) ^^^ (-1 : Int32)).toInt8.toInt32)), (.int (0 : Int32)), (.ref xtb85_0_176)])) rfl rfl (hb hby at_256)
    have V202 : Arv Z h202 xtb85_0_176 ktb85_1_176 .byte (85 : Int32) [(.int (nar .byte (v0_26 q0 q1 p2 p3))), (.int (nar .byte (vnu0_2 q0))), (.int (nar .byte (vnu0_3 q0))), (.int (nar .byte (vnu0_4 q0))), (.int (nar .byte (vnu0_5 q0))), (.int (nar .byte (vnu0_6 q0))), (.int (nar .byte (vnu0_7 q0))), (.int (nar .byte (vnu0_8 q0))), (.int (nar .byte (v8_2 (v0_2 q0 q1 p2 p3)))), (.int (nar .byte (vnu9_1 v10_1))), (.int (nar .byte (vnu9_2 v10_1))), (.int (nar .byte (vnu9_3 v10_1))), (.int (nar .byte (vnu9_4 v10_1))), (.int (nar .byte (vnu9_5 v10_1))), (.int (nar .byte (vnu9_6 v10_1))), (.int (nar .byte (vnu9_7 v10_1))), (.int (nar .byte (vnu9_8 v10_1))), (.int (nar .byte (v0_15 q0 q1 p2 p3))), (.int (0 : Int32)), (.int (0 : Int32)), (.int (0 : Int32)), (.int (0 : Int32)), (.int (0 : Int32)), (.int (0 : Int32)), (.int (0 : Int32)), (.int (0 : Int32)), (.int (0 : Int32)), (.int (0 : Int32)), (.int (0 : Int32)), (.int (0 : Int32)), (.int (0 : Int32)), (.int (0 : Int32)), (.int (0 : Int32)), (.int (0 : Int32)), (.int (0 : Int32)), (.int (0 : Int32)), (.int (0 : Int32)), (.int (0 : Int32)), (.int (0 : Int32)), (.int (0 : Int32)), (.int (0 : Int32)), (.int (0 : Int32)), (.int (0 : Int32)), (.int (0 : Int32)), (.int (0 : Int32)), (.int (0 : Int32)), (.int (0 : Int32)), (.int (0 : Int32)), (.int (0 : Int32)), (.int (0 : Int32)), (.int (0 : Int32)), (.int (0 : Int32)), (.int (0 : Int32)), (.int (0 : Int32)), (.int (0 : Int32)), (.int (0 : Int32)), (.int (0 : Int32)), (.int (0 : Int32)), (.int (0 : Int32)), (.int (0 : Int32)), (.int (0 : Int32)), (.int (0 : Int32)), (.int (0 : Int32)), (.int (0 : Int32)), (.int (0 : Int32)), (.int (0 : Int32)), (.int (0 : Int32)), (.int (0 : Int32)), (.int (0 : Int32)), (.int (0 : Int32)), (.int (0 : Int32)), (.int (0 : Int32)), (.int (0 : Int32)), (.int (0 : Int32)), (.int (0 : Int32)), (.int (0 : Int32)), (.int (nar .byte (v0_16 q0 q1 p2 p3))), (.int (nar .byte (vnu77_1 q1))), (.int (nar .byte (vnu77_2 q1))), (.int (nar .byte (vnu77_3 q1))), (.int (nar .byte (vnu77_4 q1))), (.int (nar .byte (vnu77_5 q1))), (.int (nar .byte (vnu77_6 q1))), (.int (nar .byte (vnu77_7 q1))), (.int (nar .byte (vnu77_8 q1)))] (.int (0 : Int32)) := Arv.set Ar189 qc189 S189 M189 Ha189 G189 (fits_nar_byte (v0_26 q0 q1 p2 p3)) W202 0 rfl (Nat.le_of_ble_eq_true rfl)
    have N202 := Fr.snoc X202 N199 g185
    have z203 : n0 ≤ h202.size := Nat.le_trans z187 (Keep.of_wr W202).1
    have hs204 : h0.size ≤ h202.size := Nat.le_trans hs188 (Keep.of_wr W202).1
    obtain ⟨cl205, Ar205, qc205, S205, M205, Ha205, G205⟩ := id V202
    have hin206 : ¬ ((84 : Int32) < 0 ∨ cl205.slots.size ≤ ((84 : Int32)).toNatClampNeg) := inb_of S205 ⟨by decide, by decide⟩
    have hin207 : ¬ ((84 : Int32) < 0 ∨ cl205.slots.size ≤ ((84 : Int32)).toNatClampNeg) := inb_of S205 ⟨by decide, by decide⟩
    obtain ⟨T208, h208, X208, e208, W208, st208⟩ := stB X202 hx hZ e202 Ar205 (j := (84 : Int32)) hin207 (g := (mkF m 275 #[.val (.long q0), .second, .val (.long q1), .second, .val (.int p2), .val (.int p3), .val (.int (v0_2 q0 q1 p2 p3)), .val (.int (1 : Int32)), .val (.ref b112), .val (.ref xtb0_0_123), .val (.ref b131), .val (.ref xtb85_0_176), .val (.int (77 : Int32)), .unset] [(.int (((nar .byte (vnu77_8 q1)) ^^^ (-1 : Int32)).toInt8.toInt32)), (.int (84 : Int32)), (.ref xtb85_0_176)])) rfl rfl (hb hby at_275)
    have V208 : Arv Z h208 xtb85_0_176 ktb85_1_176 .byte (85 : Int32) [(.int (nar .byte (v0_26 q0 q1 p2 p3))), (.int (nar .byte (vnu0_2 q0))), (.int (nar .byte (vnu0_3 q0))), (.int (nar .byte (vnu0_4 q0))), (.int (nar .byte (vnu0_5 q0))), (.int (nar .byte (vnu0_6 q0))), (.int (nar .byte (vnu0_7 q0))), (.int (nar .byte (vnu0_8 q0))), (.int (nar .byte (v8_2 (v0_2 q0 q1 p2 p3)))), (.int (nar .byte (vnu9_1 v10_1))), (.int (nar .byte (vnu9_2 v10_1))), (.int (nar .byte (vnu9_3 v10_1))), (.int (nar .byte (vnu9_4 v10_1))), (.int (nar .byte (vnu9_5 v10_1))), (.int (nar .byte (vnu9_6 v10_1))), (.int (nar .byte (vnu9_7 v10_1))), (.int (nar .byte (vnu9_8 v10_1))), (.int (nar .byte (v0_15 q0 q1 p2 p3))), (.int (0 : Int32)), (.int (0 : Int32)), (.int (0 : Int32)), (.int (0 : Int32)), (.int (0 : Int32)), (.int (0 : Int32)), (.int (0 : Int32)), (.int (0 : Int32)), (.int (0 : Int32)), (.int (0 : Int32)), (.int (0 : Int32)), (.int (0 : Int32)), (.int (0 : Int32)), (.int (0 : Int32)), (.int (0 : Int32)), (.int (0 : Int32)), (.int (0 : Int32)), (.int (0 : Int32)), (.int (0 : Int32)), (.int (0 : Int32)), (.int (0 : Int32)), (.int (0 : Int32)), (.int (0 : Int32)), (.int (0 : Int32)), (.int (0 : Int32)), (.int (0 : Int32)), (.int (0 : Int32)), (.int (0 : Int32)), (.int (0 : Int32)), (.int (0 : Int32)), (.int (0 : Int32)), (.int (0 : Int32)), (.int (0 : Int32)), (.int (0 : Int32)), (.int (0 : Int32)), (.int (0 : Int32)), (.int (0 : Int32)), (.int (0 : Int32)), (.int (0 : Int32)), (.int (0 : Int32)), (.int (0 : Int32)), (.int (0 : Int32)), (.int (0 : Int32)), (.int (0 : Int32)), (.int (0 : Int32)), (.int (0 : Int32)), (.int (0 : Int32)), (.int (0 : Int32)), (.int (0 : Int32)), (.int (0 : Int32)), (.int (0 : Int32)), (.int (0 : Int32)), (.int (0 : Int32)), (.int (0 : Int32)), (.int (0 : Int32)), (.int (0 : Int32)), (.int (0 : Int32)), (.int (0 : Int32)), (.int (nar .byte (v0_16 q0 q1 p2 p3))), (.int (nar .byte (vnu77_1 q1))), (.int (nar .byte (vnu77_2 q1))), (.int (nar .byte (vnu77_3 q1))), (.int (nar .byte (vnu77_4 q1))), (.int (nar .byte (vnu77_5 q1))), (.int (nar .byte (vnu77_6 q1))), (.int (nar .byte (vnu77_7 q1))), (.int (nar .byte (v0_27 q0 q1 p2 p3)))] (.int (0 : Int32)) := Arv.set Ar205 qc205 S205 M205 Ha205 G205 (fits_nar_byte (v0_27 q0 q1 p2 p3)) W208 84 rfl (Nat.le_of_ble_eq_true rfl)
    have N208 := Fr.snoc X208 N202 g185
    have z209 : n0 ≤ h208.size := Nat.le_trans z203 (Keep.of_wr W208).1
    have hs210 : h0.size ≤ h208.size := Nat.le_trans hs204 (Keep.of_wr W208).1
    have k212 := (((po173_0.keep K176).wr W202).wr W208)
    have k213 := (((po173_1.keep K176 nin0).other W202 (Or.inl ne177)).other W208 (Or.inl ne177))
    have k214 := (((po173_2.keep K176 nin0).other W202 (Or.inl ne177)).other W208 (Or.inl ne177))
    have k215 := (((po173_3.keep K176 nin0).other W202 ne184).other W208 ne184)
    obtain ⟨cq211, kq211, q211a, q211b, q211c⟩ := isOf hZ e208 k212
    obtain ⟨vr211, _, ⟨T211, L211, k211, n211⟩, -, X211, ⟨Lc211, hQ211, l211, y211, z211⟩, st211⟩ := X208.virtualBack hx (y := (⟨"com/example/dispatch_by_catalog/dispatchbycatalog/store/RecordWriter", "toBytes", "()[B"⟩ : MethodName)) (z := (⟨"com/example/dispatch_by_catalog/dispatchbycatalog/store/RecordWriter", "toBytes", "()[B"⟩ : MethodName)) hown (mvT hZ (hw _ (List.mem_of_getElem? (i := 12) rfl))) (mvT hZ (hw _ (List.mem_of_getElem? (i := 13) rfl))) (notFace_of_selects (args := #[]) (mvT hZ (hw _ (List.mem_of_getElem? (i := 15) rfl)))) (mvT hZ (hw _ (List.mem_of_getElem? (i := 15) rfl))) (mvT hZ (hw _ (List.mem_of_getElem? (i := 14) rfl))) (by decide) (backOf (W := 0) (rmtb85 l Z a0 hw [] b112 x10_0_161 (.int (nar .byte (vnu0_1 q0))) (.int (nar .byte (vnu0_2 q0))) (.int (nar .byte (vnu0_3 q0))) (.int (nar .byte (vnu0_4 q0))) (.int (nar .byte (vnu0_5 q0))) (.int (nar .byte (vnu0_6 q0))) (.int (nar .byte (vnu0_7 q0))) (.int (nar .byte (vnu0_8 q0))) (.int (nar .byte (v8_2 (v0_2 q0 q1 p2 p3)))) (.int (nar .byte (vnu9_1 v10_1))) (.int (nar .byte (vnu9_2 v10_1))) (.int (nar .byte (vnu9_3 v10_1))) (.int (nar .byte (vnu9_4 v10_1))) (.int (nar .byte (vnu9_5 v10_1))) (.int (nar .byte (vnu9_6 v10_1))) (.int (nar .byte (vnu9_7 v10_1))) (.int (nar .byte (vnu9_8 v10_1))) (.int (nar .byte (v0_15 q0 q1 p2 p3))) (.int (0 : Int32)) (.int (0 : Int32)) (.int (0 : Int32)) (.int (0 : Int32)) (.int (0 : Int32)) (.int (0 : Int32)) (.int (0 : Int32)) (.int (0 : Int32)) (.int (0 : Int32)) (.int (0 : Int32)) (.int (0 : Int32)) (.int (0 : Int32)) (.int (0 : Int32)) (.int (0 : Int32)) (.int (0 : Int32)) (.int (0 : Int32)) (.int (0 : Int32)) (.int (0 : Int32)) (.int (0 : Int32)) (.int (0 : Int32)) (.int (0 : Int32)) (.int (0 : Int32)) (.int (0 : Int32)) (.int (0 : Int32)) (.int (0 : Int32)) (.int (0 : Int32)) (.int (0 : Int32)) (.int (0 : Int32)) (.int (0 : Int32)) (.int (0 : Int32)) (.int (0 : Int32)) (.int (0 : Int32)) (.int (0 : Int32)) (.int (0 : Int32)) (.int (0 : Int32)) (.int (0 : Int32)) (.int (0 : Int32)) (.int (0 : Int32)) (.int (0 : Int32)) (.int (0 : Int32)) (.int (0 : Int32)) (.int (0 : Int32)) (.int (0 : Int32)) (.int (0 : Int32)) (.int (0 : Int32)) (.int (0 : Int32)) (.int (0 : Int32)) (.int (0 : Int32)) (.int (0 : Int32)) (.int (0 : Int32)) (.int (0 : Int32)) (.int (0 : Int32)) (.int (0 : Int32)) (.int (0 : Int32)) (.int (0 : Int32)) (.int (0 : Int32)) (.int (0 : Int32)) (.int (0 : Int32)) (.int (nar .byte (v0_16 q0 q1 p2 p3))) (.int (nar .byte (vnu77_1 q1))) (.int (nar .byte (vnu77_2 q1))) (.int (nar .byte (vnu77_3 q1))) (.int (nar .byte (vnu77_4 q1))) (.int (nar .byte (vnu77_5 q1))) (.int (nar .byte (vnu77_6 q1))) (.int (nar .byte (vnu77_7 q1))) (.int (nar .byte (vnu77_8 q1))) (.int (0 : Int32)) (.int (0 : Int32)) (.int (0 : Int32)) (.int (0 : Int32)) (.int (0 : Int32)) (.int (0 : Int32)) (.int (0 : Int32)) (.int (0 : Int32)) (.int (0 : Int32)) (.int (0 : Int32)) (.int (0 : Int32)) (.int (0 : Int32)) (.int (0 : Int32)) (.int (0 : Int32)) (.int (0 : Int32)) (.int (0 : Int32)) (.int (0 : Int32)) (.int (0 : Int32)) (.int (0 : Int32)) (.int (0 : Int32)) (.int (0 : Int32)) (.int (0 : Int32)) (.int (0 : Int32)) (.int (0 : Int32)) (.int (0 : Int32)) (.int (0 : Int32)) (.int (0 : Int32)) (.int (0 : Int32)) (.int (0 : Int32)) (.int (0 : Int32)) (.int (0 : Int32)) (.int (0 : Int32)) (.int (0 : Int32)) (.int (0 : Int32)) (.int (0 : Int32)) (.int (0 : Int32)) (.int (0 : Int32)) (.int (0 : Int32)) (.int (0 : Int32)) (.int (0 : Int32)) (.int (0 : Int32)) (.int (0 : Int32)) (.int (0 : Int32)) k10_1_161 h208 n0 z209 k212 k213 k214 k215) hZ (hw _ (List.mem_of_getElem? (i := 16) rfl)) (hw _ (List.mem_of_getElem? (i := 2) rfl)) (by decide) (by decide)) q211a q211c (g := (mkF m 278 #[.val (.long q0), .second, .val (.long q1), .second, .val (.int p2), .val (.int p3), .val (.int (v0_2 q0 q1 p2 p3)), .val (.int (1 : Int32)), .val (.ref b112), .val (.ref xtb0_0_123), .val (.ref b131), .val (.ref xtb85_0_176), .val (.int (77 : Int32)), .unset] [(.ref b112)])) rfl (by rw [hml]; rfl) (Steps.refl _) (argsL := []) (rest := []) (lenOf pd____B rfl) rfl (by show 2 * 0 + _ ≤ _; exact Nat.le_of_eq rfl) (hb hby at_278) (fun _ _ => ⟨rfl, e208, (by decide : 6 + 1 ≤ _), (by decide : 339 + 85 ≤ _)⟩)
    dsimp only [Pt.U, Pt.locs, Pt.cells, Pt.slots] at X211 l211 y211 z211 st211 hQ211
    subst l211 y211 z211
    have N211q := (show _ ∧ _ from hQ211).1
    have hq211 := (show _ ∧ _ from hQ211).2
    clear hQ211
    obtain ⟨xtb85_0_211, ktb85_1_211, hq211x⟩ := hq211
    have hv211 := hq211x.1
    have szxtb85_0_211 := hq211x.2.1
    have K211 := hq211x.2.2.1
    have po211_0 := hq211x.2.2.2
    clear hq211x
    subst hv211
    have ne216 : b112 ≠ xtb85_0_211 := Nat.ne_of_lt (Nat.lt_of_lt_of_le k212.lt szxtb85_0_211)
    have k217 := (((k178.keep K176).wr W202).wr W208)
    have ne218 : b131 ≠ xtb85_0_211 := Nat.ne_of_lt (Nat.lt_of_lt_of_le k217.lt szxtb85_0_211)
    have k219 := (((k180.keep K176 nin0).other W202 ne181).other W208 ne181)
    have ne220 : xtb0_0_123 ≠ xtb85_0_211 := Nat.ne_of_lt (Nat.lt_of_lt_of_le k219.lt szxtb85_0_211)
    have k221 := (((k182.keep K176 nin0).other W202 ne183).other W208 ne183)
    have ne222 : x1_0_117 ≠ xtb85_0_211 := Nat.ne_of_lt (Nat.lt_of_lt_of_le k221.lt szxtb85_0_211)
    have ne223 : x10_0_161 ≠ xtb85_0_211 := Nat.ne_of_lt (Nat.lt_of_lt_of_le k215.lt szxtb85_0_211)
    have ne224 : xtb85_0_176 ≠ xtb85_0_211 := Nat.ne_of_lt (Nat.lt_of_lt_of_le V208.lt szxtb85_0_211)
    have g225 : n0 ≤ xtb85_0_211 := Nat.le_trans z209 szxtb85_0_211
    have sz226 : h0.size ≤ xtb85_0_211 := Nat.le_trans hs210 szxtb85_0_211
    have z227 : n0 ≤ T211.heap.size := Nat.le_trans z209 K211.1
    have hs228 : h0.size ≤ T211.heap.size := Nat.le_trans hs210 K211.1
    have N211 := Fr.app N208 N211q
    obtain ⟨cl229, Ar229, qc229, S229, M229, Ha229, G229⟩ := id po211_0
    obtain ⟨vr230, _, ⟨T230, L230, k230, n230⟩, -, X230, ⟨Lc230, hQ230, l230, y230, z230⟩, st230⟩ := Jvm.LawKit.callS X211 hx (y := (⟨"com/example/dispatch_by_catalog/dispatchbycatalog/store/RecordWriterToBytesPinLaw", "longAt", "([BIJ)Z"⟩ : MethodName)) hown (mvT hZ (hw _ (List.mem_of_getElem? (i := 45) rfl))) (mvT hZ (hw _ (List.mem_of_getElem? (i := 46) rfl))) (mvT hZ (hw _ (List.mem_of_getElem? (i := 47) rfl))) (mvT hZ (hw _ (List.mem_of_getElem? (i := 48) rfl))) (by decide) (backOf (W := 0) (rmla85_0 l Z a0 hw [] xtb85_0_211 q0 (nar .byte (vnu0_1 q0)) (nar .byte (vnu0_2 q0)) (nar .byte (vnu0_3 q0)) (nar .byte (vnu0_4 q0)) (nar .byte (vnu0_5 q0)) (nar .byte (vnu0_6 q0)) (nar .byte (vnu0_7 q0)) (nar .byte (vnu0_8 q0)) (.int (nar .byte (v8_2 (v0_2 q0 q1 p2 p3)))) (.int (nar .byte (vnu9_1 v10_1))) (.int (nar .byte (vnu9_2 v10_1))) (.int (nar .byte (vnu9_3 v10_1))) (.int (nar .byte (vnu9_4 v10_1))) (.int (nar .byte (vnu9_5 v10_1))) (.int (nar .byte (vnu9_6 v10_1))) (.int (nar .byte (vnu9_7 v10_1))) (.int (nar .byte (vnu9_8 v10_1))) (.int (nar .byte (v0_15 q0 q1 p2 p3))) (.int (0 : Int32)) (.int (0 : Int32)) (.int (0 : Int32)) (.int (0 : Int32)) (.int (0 : Int32)) (.int (0 : Int32)) (.int (0 : Int32)) (.int (0 : Int32)) (.int (0 : Int32)) (.int (0 : Int32)) (.int (0 : Int32)) (.int (0 : Int32)) (.int (0 : Int32)) (.int (0 : Int32)) (.int (0 : Int32)) (.int (0 : Int32)) (.int (0 : Int32)) (.int (0 : Int32)) (.int (0 : Int32)) (.int (0 : Int32)) (.int (0 : Int32)) (.int (0 : Int32)) (.int (0 : Int32)) (.int (0 : Int32)) (.int (0 : Int32)) (.int (0 : Int32)) (.int (0 : Int32)) (.int (0 : Int32)) (.int (0 : Int32)) (.int (0 : Int32)) (.int (0 : Int32)) (.int (0 : Int32)) (.int (0 : Int32)) (.int (0 : Int32)) (.int (0 : Int32)) (.int (0 : Int32)) (.int (0 : Int32)) (.int (0 : Int32)) (.int (0 : Int32)) (.int (0 : Int32)) (.int (0 : Int32)) (.int (0 : Int32)) (.int (0 : Int32)) (.int (0 : Int32)) (.int (0 : Int32)) (.int (0 : Int32)) (.int (0 : Int32)) (.int (0 : Int32)) (.int (0 : Int32)) (.int (0 : Int32)) (.int (0 : Int32)) (.int (0 : Int32)) (.int (0 : Int32)) (.int (0 : Int32)) (.int (0 : Int32)) (.int (0 : Int32)) (.int (0 : Int32)) (.int (0 : Int32)) (.int (nar .byte (v0_16 q0 q1 p2 p3))) (.int (nar .byte (vnu77_1 q1))) (.int (nar .byte (vnu77_2 q1))) (.int (nar .byte (vnu77_3 q1))) (.int (nar .byte (vnu77_4 q1))) (.int (nar .byte (vnu77_5 q1))) (.int (nar .byte (vnu77_6 q1))) (.int (nar .byte (vnu77_7 q1))) (.int (nar .byte (vnu77_8 q1))) ktb85_1_211 T211.heap n0 z227 po211_0) hZ (hw _ (List.mem_of_getElem? (i := 48) rfl)) (hw _ (List.mem_of_getElem? (i := 47) rfl)) (by decide) (by decide)) (g := (mkF m 305 #[.val (.long q0), .second, .val (.long q1), .second, .val (.int p2), .val (.int p3), .val (.int (v0_2 q0 q1 p2 p3)), .val (.int (1 : Int32)), .val (.ref b112), .val (.ref xtb0_0_123), .val (.ref b131), .val (.ref xtb85_0_176), .val (.int (77 : Int32)), .val (.ref xtb85_0_211)] [(.long q0), (.int (0 : Int32)), (.ref xtb85_0_211)])) rfl (by rw [hml]; rfl) (argsL := [(.ref xtb85_0_211), (.int (0 : Int32)), (.long q0)]) (rest := []) (lenOf pd___BIJ_Z rfl) rfl (by show 2 * 0 + _ ≤ _; exact Nat.le_of_eq rfl) (hb hby at_305) (fun _ _ => ⟨rfl, rfl, (by decide : 7 + 0 ≤ _), (by decide : 424 + 0 ≤ _)⟩)
    dsimp only [Pt.U, Pt.locs, Pt.cells, Pt.slots] at X230 l230 y230 z230 st230 hQ230
    subst l230 y230 z230
    have N230q := (show _ ∧ _ ∧ _ from hQ230).1
    have hv230 := (show _ ∧ _ ∧ _ from hQ230).2.1
    have e230 := (show _ ∧ _ ∧ _ from hQ230).2.2
    clear hQ230
    subst hv230
    have N230 := Fr.app N211 N230q
    have pre231 : ∀ t, Steps p.tables e below (T230.setTop (mkF m 308 #[.val (.long q0), .second, .val (.long q1), .second, .val (.int p2), .val (.int p3), .val (.int (v0_2 q0 q1 p2 p3)), .val (.int (1 : Int32)), .val (.ref b112), .val (.ref xtb0_0_123), .val (.ref b131), .val (.ref xtb85_0_176), .val (.int (77 : Int32)), .val (.ref xtb85_0_211)] [(.int (fla85_0 q0 (nar .byte (vnu0_1 q0)) (nar .byte (vnu0_2 q0)) (nar .byte (vnu0_3 q0)) (nar .byte (vnu0_4 q0)) (nar .byte (vnu0_5 q0)) (nar .byte (vnu0_6 q0)) (nar .byte (vnu0_7 q0)) (nar .byte (vnu0_8 q0))))])) t → Steps p.tables e below (s₁.setTop (entryFrame m #[(.long q0), (.long q1), (.int p2), (.int p3)] maxLocals)) t := by
      intro t k
      refine pre194 t ?_
      show Steps p.tables e below (T190.setTop (mkF m 169 #[.val (.long q0), .second, .val (.long q1), .second, .val (.int p2), .val (.int p3), .val (.int (v0_2 q0 q1 p2 p3)), .val (.int (1 : Int32)), .val (.ref b112), .val (.ref xtb0_0_123), .val (.ref b131), .val (.ref xtb85_0_176), .val (.int (77 : Int32)), .unset] [(.int (v0_18 q0 q1 p2 p3)), (.int (nar .byte (v8_2 (v0_2 q0 q1 p2 p3))))])) _
      refine XS.icmpYes X190.here hx rfl (pc0 := 169) (pc' := 174) rfl (hb hby at_169) rfl (XT.ii_eq_t (own_v0_19 q0 q1 p2 p3)) (by decide) (by decide) ?_
      show Steps p.tables e below (T190.setTop (mkF m 174 #[.val (.long q0), .second, .val (.long q1), .second, .val (.int p2), .val (.int p3), .val (.int (v0_2 q0 q1 p2 p3)), .val (.int (1 : Int32)), .val (.ref b112), .val (.ref xtb0_0_123), .val (.ref b131), .val (.ref xtb85_0_176), .val (.int (77 : Int32)), .unset] [])) _
      refine XS.iload X190.here hx rfl (hb hby at_174) rfl ?_
      show Steps p.tables e below (T190.setTop (mkF m 176 #[.val (.long q0), .second, .val (.long q1), .second, .val (.int p2), .val (.int p3), .val (.int (v0_2 q0 q1 p2 p3)), .val (.int (1 : Int32)), .val (.ref b112), .val (.ref xtb0_0_123), .val (.ref b131), .val (.ref xtb85_0_176), .val (.int (77 : Int32)), .unset] [(.int (1 : Int32))])) _
      refine XS.ifNo X190.here hx rfl (hb hby at_176) rfl (XT.i0_eq_f (by decide)) ?_
      show Steps p.tables e below (T190.setTop (mkF m 179 #[.val (.long q0), .second, .val (.long q1), .second, .val (.int p2), .val (.int p3), .val (.int (v0_2 q0 q1 p2 p3)), .val (.int (1 : Int32)), .val (.ref b112), .val (.ref xtb0_0_123), .val (.ref b131), .val (.ref xtb85_0_176), .val (.int (77 : Int32)), .unset] [])) _
      refine XS.aload X190.here hx rfl (hb hby at_179) rfl rfl ?_
      show Steps p.tables e below (T190.setTop (mkF m 181 #[.val (.long q0), .second, .val (.long q1), .second, .val (.int p2), .val (.int p3), .val (.int (v0_2 q0 q1 p2 p3)), .val (.int (1 : Int32)), .val (.ref b112), .val (.ref xtb0_0_123), .val (.ref b131), .val (.ref xtb85_0_176), .val (.int (77 : Int32)), .unset] [(.ref xtb85_0_176)])) _
      refine XT.bipushV X190.here hx rfl (9 : Int32) (hb hby at_181) (by decide) ?_
      show Steps p.tables e below (T190.setTop (mkF m 183 #[.val (.long q0), .second, .val (.long q1), .second, .val (.int p2), .val (.int p3), .val (.int (v0_2 q0 q1 p2 p3)), .val (.int (1 : Int32)), .val (.ref b112), .val (.ref xtb0_0_123), .val (.ref b131), .val (.ref xtb85_0_176), .val (.int (77 : Int32)), .unset] [(.int (9 : Int32)), (.ref xtb85_0_176)])) _
      refine X190.ldc2J hx hown (mvT hZ (hw _ (List.mem_of_getElem? (i := 59) rfl))) rfl (hb hby at_183) ?_
      show Steps p.tables e below (T190.setTop (mkF m 186 #[.val (.long q0), .second, .val (.long q1), .second, .val (.int p2), .val (.int p3), .val (.int (v0_2 q0 q1 p2 p3)), .val (.int (1 : Int32)), .val (.ref b112), .val (.ref xtb0_0_123), .val (.ref b131), .val (.ref xtb85_0_176), .val (.int (77 : Int32)), .unset] [(.long (60 : Int64)), (.int (9 : Int32)), (.ref xtb85_0_176)])) _
      refine st195 _ ?_
      show Steps p.tables e below (T195.setTop (mkF m 189 #[.val (.long q0), .second, .val (.long q1), .second, .val (.int p2), .val (.int p3), .val (.int (v0_2 q0 q1 p2 p3)), .val (.int (1 : Int32)), .val (.ref b112), .val (.ref xtb0_0_123), .val (.ref b131), .val (.ref xtb85_0_176), .val (.int (77 : Int32)), .unset] [(.int (fla85_9 (60 : Int64) (nar .byte (vnu9_1 v10_1)) (nar .byte (vnu9_2 v10_1)) (nar .byte (vnu9_3 v10_1)) (nar .byte (vnu9_4 v10_1)) (nar .byte (vnu9_5 v10_1)) (nar .byte (vnu9_6 v10_1)) (nar .byte (vnu9_7 v10_1)) (nar .byte (vnu9_8 v10_1))))])) _
      refine XS.ifYes X195.here hx rfl (pc0 := 189) (pc' := 194) rfl (hb hby at_189) rfl (XT.i0_ne_t (own_v0_20 q0 q1 p2 p3)) (by decide) (by decide) ?_
      show Steps p.tables e below (T195.setTop (mkF m 194 #[.val (.long q0), .second, .val (.long q1), .second, .val (.int p2), .val (.int p3), .val (.int (v0_2 q0 q1 p2 p3)), .val (.int (1 : Int32)), .val (.ref b112), .val (.ref xtb0_0_123), .val (.ref b131), .val (.ref xtb85_0_176), .val (.int (77 : Int32)), .unset] [])) _
      refine XS.aload X195.here hx rfl (hb hby at_194) rfl rfl ?_
      show Steps p.tables e below (T195.setTop (mkF m 196 #[.val (.long q0), .second, .val (.long q1), .second, .val (.int p2), .val (.int p3), .val (.int (v0_2 q0 q1 p2 p3)), .val (.int (1 : Int32)), .val (.ref b112), .val (.ref xtb0_0_123), .val (.ref b131), .val (.ref xtb85_0_176), .val (.int (77 : Int32)), .unset] [(.ref xtb85_0_176)])) _
      refine XT.bipushV X195.here hx rfl (17 : Int32) (hb hby at_196) (by decide) ?_
      show Steps p.tables e below (T195.setTop (mkF m 198 #[.val (.long q0), .second, .val (.long q1), .second, .val (.int p2), .val (.int p3), .val (.int (v0_2 q0 q1 p2 p3)), .val (.int (1 : Int32)), .val (.ref b112), .val (.ref xtb0_0_123), .val (.ref b131), .val (.ref xtb85_0_176), .val (.int (77 : Int32)), .unset] [(.int (17 : Int32)), (.ref xtb85_0_176)])) _
      refine X195.baloadBytes hx (j := (17 : Int32)) (v := (.int (nar .byte (v0_15 q0 q1 p2 p3)))) (by rw [e195]; exact Ar189.1) (State.isArrayOf_alike hZ.alike Ar189.2.1) Ar189.2.2 hin196 (Has.at Ha189 hin196 rfl) (g := (mkF m 198 #[.val (.long q0), .second, .val (.long q1), .second, .val (.int p2), .val (.int p3), .val (.int (v0_2 q0 q1 p2 p3)), .val (.int (1 : Int32)), .val (.ref b112), .val (.ref xtb0_0_123), .val (.ref b131), .val (.ref xtb85_0_176), .val (.int (77 : Int32)), .unset] [(.int (17 : Int32)), (.ref xtb85_0_176)])) rfl rfl (hb hby at_198) _ ?_
      show Steps p.tables e below (T195.setTop (mkF m 199 #[.val (.long q0), .second, .val (.long q1), .second, .val (.int p2), .val (.int p3), .val (.int (v0_2 q0 q1 p2 p3)), .val (.int (1 : Int32)), .val (.ref b112), .val (.ref xtb0_0_123), .val (.ref b131), .val (.ref xtb85_0_176), .val (.int (77 : Int32)), .unset] [(.int (nar .byte (v0_15 q0 q1 p2 p3)))])) _
      refine XS.iload X195.here hx rfl (hb hby at_199) rfl ?_
      show Steps p.tables e below (T195.setTop (mkF m 201 #[.val (.long q0), .second, .val (.long q1), .second, .val (.int p2), .val (.int p3), .val (.int (v0_2 q0 q1 p2 p3)), .val (.int (1 : Int32)), .val (.ref b112), .val (.ref xtb0_0_123), .val (.ref b131), .val (.ref xtb85_0_176), .val (.int (77 : Int32)), .unset] [(.int p3), (.int (nar .byte (v0_15 q0 q1 p2 p3)))])) _
      refine XT.i2b X195.here hx rfl (hb hby at_201) rfl ?_
      show Steps p.tables e below (T195.setTop (mkF m 202 #[.val (.long q0), .second, .val (.long q1), .second, .val (.int p2), .val (.int p3), .val (.int (v0_2 q0 q1 p2 p3)), .val (.int (1 : Int32)), .val (.ref b112), .val (.ref xtb0_0_123), .val (.ref b131), .val (.ref xtb85_0_176), .val (.int (77 : Int32)), .unset] [(.int (p3.toInt8.toInt32)), (.int (nar .byte (v0_15 q0 q1 p2 p3)))])) _
      refine XS.icmpYes X195.here hx rfl (pc0 := 202) (pc' := 207) rfl (hb hby at_202) rfl (XT.ii_eq_t (own_v0_21 q0 q1 p2 p3)) (by decide) (by decide) ?_
      show Steps p.tables e below (T195.setTop (mkF m 207 #[.val (.long q0), .second, .val (.long q1), .second, .val (.int p2), .val (.int p3), .val (.int (v0_2 q0 q1 p2 p3)), .val (.int (1 : Int32)), .val (.ref b112), .val (.ref xtb0_0_123), .val (.ref b131), .val (.ref xtb85_0_176), .val (.int (77 : Int32)), .unset] [])) _
      refine XS.aload X195.here hx rfl (hb hby at_207) rfl rfl ?_
      show Steps p.tables e below (T195.setTop (mkF m 209 #[.val (.long q0), .second, .val (.long q1), .second, .val (.int p2), .val (.int p3), .val (.int (v0_2 q0 q1 p2 p3)), .val (.int (1 : Int32)), .val (.ref b112), .val (.ref xtb0_0_123), .val (.ref b131), .val (.ref xtb85_0_176), .val (.int (77 : Int32)), .unset] [(.ref xtb85_0_176)])) _
      refine XT.bipushV X195.here hx rfl (47 : Int32) (hb hby at_209) (by decide) ?_
      show Steps p.tables e below (T195.setTop (mkF m 211 #[.val (.long q0), .second, .val (.long q1), .second, .val (.int p2), .val (.int p3), .val (.int (v0_2 q0 q1 p2 p3)), .val (.int (1 : Int32)), .val (.ref b112), .val (.ref xtb0_0_123), .val (.ref b131), .val (.ref xtb85_0_176), .val (.int (77 : Int32)), .unset] [(.int (47 : Int32)), (.ref xtb85_0_176)])) _
      refine X195.baloadBytes hx (j := (47 : Int32)) (v := (.int (0 : Int32))) (by rw [e195]; exact Ar189.1) (State.isArrayOf_alike hZ.alike Ar189.2.1) Ar189.2.2 hin197 (Has.at Ha189 hin197 rfl) (g := (mkF m 211 #[.val (.long q0), .second, .val (.long q1), .second, .val (.int p2), .val (.int p3), .val (.int (v0_2 q0 q1 p2 p3)), .val (.int (1 : Int32)), .val (.ref b112), .val (.ref xtb0_0_123), .val (.ref b131), .val (.ref xtb85_0_176), .val (.int (77 : Int32)), .unset] [(.int (47 : Int32)), (.ref xtb85_0_176)])) rfl rfl (hb hby at_211) _ ?_
      show Steps p.tables e below (T195.setTop (mkF m 212 #[.val (.long q0), .second, .val (.long q1), .second, .val (.int p2), .val (.int p3), .val (.int (v0_2 q0 q1 p2 p3)), .val (.int (1 : Int32)), .val (.ref b112), .val (.ref xtb0_0_123), .val (.ref b131), .val (.ref xtb85_0_176), .val (.int (77 : Int32)), .unset] [(.int (0 : Int32))])) _
      refine XS.ifYes X195.here hx rfl (pc0 := 212) (pc' := 217) rfl (hb hby at_212) rfl (XT.i0_eq_t (by decide)) (by decide) (by decide) ?_
      show Steps p.tables e below (T195.setTop (mkF m 217 #[.val (.long q0), .second, .val (.long q1), .second, .val (.int p2), .val (.int p3), .val (.int (v0_2 q0 q1 p2 p3)), .val (.int (1 : Int32)), .val (.ref b112), .val (.ref xtb0_0_123), .val (.ref b131), .val (.ref xtb85_0_176), .val (.int (77 : Int32)), .unset] [])) _
      refine XS.aload X195.here hx rfl (hb hby at_217) rfl rfl ?_
      show Steps p.tables e below (T195.setTop (mkF m 219 #[.val (.long q0), .second, .val (.long q1), .second, .val (.int p2), .val (.int p3), .val (.int (v0_2 q0 q1 p2 p3)), .val (.int (1 : Int32)), .val (.ref b112), .val (.ref xtb0_0_123), .val (.ref b131), .val (.ref xtb85_0_176), .val (.int (77 : Int32)), .unset] [(.ref xtb85_0_176)])) _
      refine XT.bipushV X195.here hx rfl (76 : Int32) (hb hby at_219) (by decide) ?_
      show Steps p.tables e below (T195.setTop (mkF m 221 #[.val (.long q0), .second, .val (.long q1), .second, .val (.int p2), .val (.int p3), .val (.int (v0_2 q0 q1 p2 p3)), .val (.int (1 : Int32)), .val (.ref b112), .val (.ref xtb0_0_123), .val (.ref b131), .val (.ref xtb85_0_176), .val (.int (77 : Int32)), .unset] [(.int (76 : Int32)), (.ref xtb85_0_176)])) _
      refine X195.baloadBytes hx (j := (76 : Int32)) (v := (.int (nar .byte (v0_16 q0 q1 p2 p3)))) (by rw [e195]; exact Ar189.1) (State.isArrayOf_alike hZ.alike Ar189.2.1) Ar189.2.2 hin198 (Has.at Ha189 hin198 rfl) (g := (mkF m 221 #[.val (.long q0), .second, .val (.long q1), .second, .val (.int p2), .val (.int p3), .val (.int (v0_2 q0 q1 p2 p3)), .val (.int (1 : Int32)), .val (.ref b112), .val (.ref xtb0_0_123), .val (.ref b131), .val (.ref xtb85_0_176), .val (.int (77 : Int32)), .unset] [(.int (76 : Int32)), (.ref xtb85_0_176)])) rfl rfl (hb hby at_221) _ ?_
      show Steps p.tables e below (T195.setTop (mkF m 222 #[.val (.long q0), .second, .val (.long q1), .second, .val (.int p2), .val (.int p3), .val (.int (v0_2 q0 q1 p2 p3)), .val (.int (1 : Int32)), .val (.ref b112), .val (.ref xtb0_0_123), .val (.ref b131), .val (.ref xtb85_0_176), .val (.int (77 : Int32)), .unset] [(.int (nar .byte (v0_16 q0 q1 p2 p3)))])) _
      refine XS.iload X195.here hx rfl (hb hby at_222) rfl ?_
      show Steps p.tables e below (T195.setTop (mkF m 224 #[.val (.long q0), .second, .val (.long q1), .second, .val (.int p2), .val (.int p3), .val (.int (v0_2 q0 q1 p2 p3)), .val (.int (1 : Int32)), .val (.ref b112), .val (.ref xtb0_0_123), .val (.ref b131), .val (.ref xtb85_0_176), .val (.int (77 : Int32)), .unset] [(.int p3), (.int (nar .byte (v0_16 q0 q1 p2 p3)))])) _
      refine XT.bipushV X195.here hx rfl (8 : Int32) (hb hby at_224) (by decide) ?_
      show Steps p.tables e below (T195.setTop (mkF m 226 #[.val (.long q0), .second, .val (.long q1), .second, .val (.int p2), .val (.int p3), .val (.int (v0_2 q0 q1 p2 p3)), .val (.int (1 : Int32)), .val (.ref b112), .val (.ref xtb0_0_123), .val (.ref b131), .val (.ref xtb85_0_176), .val (.int (77 : Int32)), .unset] [(.int (8 : Int32)), (.int p3), (.int (nar .byte (v0_16 q0 q1 p2 p3)))])) _
      refine XT.iushr X195.here hx rfl (hb hby at_226) rfl ?_
      show Steps p.tables e below (T195.setTop (mkF m 227 #[.val (.long q0), .second, .val (.long q1), .second, .val (.int p2), .val (.int p3), .val (.int (v0_2 q0 q1 p2 p3)), .val (.int (1 : Int32)), .val (.ref b112), .val (.ref xtb0_0_123), .val (.ref b131), .val (.ref xtb85_0_176), .val (.int (77 : Int32)), .unset] [(.int (XT.ushr p3 (8 : Int32))), (.int (nar .byte (v0_16 q0 q1 p2 p3)))])) _
      refine XT.i2b X195.here hx rfl (hb hby at_227) rfl ?_
      show Steps p.tables e below (T195.setTop (mkF m 228 #[.val (.long q0), .second, .val (.long q1), .second, .val (.int p2), .val (.int p3), .val (.int (v0_2 q0 q1 p2 p3)), .val (.int (1 : Int32)), .val (.ref b112), .val (.ref xtb0_0_123), .val (.ref b131), .val (.ref xtb85_0_176), .val (.int (77 : Int32)), .unset] [(.int ((XT.ushr p3 (8 : Int32)).toInt8.toInt32)), (.int (nar .byte (v0_16 q0 q1 p2 p3)))])) _
      refine XS.icmpYes X195.here hx rfl (pc0 := 228) (pc' := 233) rfl (hb hby at_228) rfl (XT.ii_eq_t (own_v0_23 q0 q1 p2 p3)) (by decide) (by decide) ?_
      show Steps p.tables e below (T195.setTop (mkF m 233 #[.val (.long q0), .second, .val (.long q1), .second, .val (.int p2), .val (.int p3), .val (.int (v0_2 q0 q1 p2 p3)), .val (.int (1 : Int32)), .val (.ref b112), .val (.ref xtb0_0_123), .val (.ref b131), .val (.ref xtb85_0_176), .val (.int (77 : Int32)), .unset] [])) _
      refine XS.aload X195.here hx rfl (hb hby at_233) rfl rfl ?_
      show Steps p.tables e below (T195.setTop (mkF m 235 #[.val (.long q0), .second, .val (.long q1), .second, .val (.int p2), .val (.int p3), .val (.int (v0_2 q0 q1 p2 p3)), .val (.int (1 : Int32)), .val (.ref b112), .val (.ref xtb0_0_123), .val (.ref b131), .val (.ref xtb85_0_176), .val (.int (77 : Int32)), .unset] [(.ref xtb85_0_176)])) _
      refine XS.iload X195.here hx rfl (hb hby at_235) rfl ?_
      show Steps p.tables e below (T195.setTop (mkF m 237 #[.val (.long q0), .second, .val (.long q1), .second, .val (.int p2), .val (.int p3), .val (.int (v0_2 q0 q1 p2 p3)), .val (.int (1 : Int32)), .val (.ref b112), .val (.ref xtb0_0_123), .val (.ref b131), .val (.ref xtb85_0_176), .val (.int (77 : Int32)), .unset] [(.int (77 : Int32)), (.ref xtb85_0_176)])) _
      refine XT.lloadN X195.here hx rfl (hb hby at_237) rfl ?_
      show Steps p.tables e below (T195.setTop (mkF m 238 #[.val (.long q0), .second, .val (.long q1), .second, .val (.int p2), .val (.int p3), .val (.int (v0_2 q0 q1 p2 p3)), .val (.int (1 : Int32)), .val (.ref b112), .val (.ref xtb0_0_123), .val (.ref b131), .val (.ref xtb85_0_176), .val (.int (77 : Int32)), .unset] [(.long q1), (.int (77 : Int32)), (.ref xtb85_0_176)])) _
      refine st199 _ ?_
      show Steps p.tables e below (T199.setTop (mkF m 241 #[.val (.long q0), .second, .val (.long q1), .second, .val (.int p2), .val (.int p3), .val (.int (v0_2 q0 q1 p2 p3)), .val (.int (1 : Int32)), .val (.ref b112), .val (.ref xtb0_0_123), .val (.ref b131), .val (.ref xtb85_0_176), .val (.int (77 : Int32)), .unset] [(.int (fla85_77 q1 (nar .byte (vnu77_1 q1)) (nar .byte (vnu77_2 q1)) (nar .byte (vnu77_3 q1)) (nar .byte (vnu77_4 q1)) (nar .byte (vnu77_5 q1)) (nar .byte (vnu77_6 q1)) (nar .byte (vnu77_7 q1)) (nar .byte (vnu77_8 q1))))])) _
      refine XS.ifYes X199.here hx rfl (pc0 := 241) (pc' := 246) rfl (hb hby at_241) rfl (XT.i0_ne_t (own_v0_25 q0 q1 p2 p3)) (by decide) (by decide) ?_
      show Steps p.tables e below (T199.setTop (mkF m 246 #[.val (.long q0), .second, .val (.long q1), .second, .val (.int p2), .val (.int p3), .val (.int (v0_2 q0 q1 p2 p3)), .val (.int (1 : Int32)), .val (.ref b112), .val (.ref xtb0_0_123), .val (.ref b131), .val (.ref xtb85_0_176), .val (.int (77 : Int32)), .unset] [])) _
      refine XS.aload X199.here hx rfl (hb hby at_246) rfl rfl ?_
      show Steps p.tables e below (T199.setTop (mkF m 248 #[.val (.long q0), .second, .val (.long q1), .second, .val (.int p2), .val (.int p3), .val (.int (v0_2 q0 q1 p2 p3)), .val (.int (1 : Int32)), .val (.ref b112), .val (.ref xtb0_0_123), .val (.ref b131), .val (.ref xtb85_0_176), .val (.int (77 : Int32)), .unset] [(.ref xtb85_0_176)])) _
      refine XT.iconstV X199.here hx rfl (0 : Int32) (hb hby at_248) (by decide) ?_
      show Steps p.tables e below (T199.setTop (mkF m 249 #[.val (.long q0), .second, .val (.long q1), .second, .val (.int p2), .val (.int p3), .val (.int (v0_2 q0 q1 p2 p3)), .val (.int (1 : Int32)), .val (.ref b112), .val (.ref xtb0_0_123), .val (.ref b131), .val (.ref xtb85_0_176), .val (.int (77 : Int32)), .unset] [(.int (0 : Int32)), (.ref xtb85_0_176)])) _
      refine XS.aload X199.here hx rfl (hb hby at_249) rfl rfl ?_
      show Steps p.tables e below (T199.setTop (mkF m 251 #[.val (.long q0), .second, .val (.long q1), .second, .val (.int p2), .val (.int p3), .val (.int (v0_2 q0 q1 p2 p3)), .val (.int (1 : Int32)), .val (.ref b112), .val (.ref xtb0_0_123), .val (.ref b131), .val (.ref xtb85_0_176), .val (.int (77 : Int32)), .unset] [(.ref xtb85_0_176), (.int (0 : Int32)), (.ref xtb85_0_176)])) _
      refine XT.iconstV X199.here hx rfl (0 : Int32) (hb hby at_251) (by decide) ?_
      show Steps p.tables e below (T199.setTop (mkF m 252 #[.val (.long q0), .second, .val (.long q1), .second, .val (.int p2), .val (.int p3), .val (.int (v0_2 q0 q1 p2 p3)), .val (.int (1 : Int32)), .val (.ref b112), .val (.ref xtb0_0_123), .val (.ref b131), .val (.ref xtb85_0_176), .val (.int (77 : Int32)), .unset] [(.int (0 : Int32)), (.ref xtb85_0_176), (.int (0 : Int32)), (.ref xtb85_0_176)])) _
      refine X199.baloadBytes hx (j := (0 : Int32)) (v := (.int (nar .byte (vnu0_1 q0)))) (by rw [e199]; exact Ar189.1) (State.isArrayOf_alike hZ.alike Ar189.2.1) Ar189.2.2 hin200 (Has.at Ha189 hin200 rfl) (g := (mkF m 252 #[.val (.long q0), .second, .val (.long q1), .second, .val (.int p2), .val (.int p3), .val (.int (v0_2 q0 q1 p2 p3)), .val (.int (1 : Int32)), .val (.ref b112), .val (.ref xtb0_0_123), .val (.ref b131), .val (.ref xtb85_0_176), .val (.int (77 : Int32)), .unset] [(.int (0 : Int32)), (.ref xtb85_0_176), (.int (0 : Int32)), (.ref xtb85_0_176)])) rfl rfl (hb hby at_252) _ ?_
      show Steps p.tables e below (T199.setTop (mkF m 253 #[.val (.long q0), .second, .val (.long q1), .second, .val (.int p2), .val (.int p3), .val (.int (v0_2 q0 q1 p2 p3)), .val (.int (1 : Int32)), .val (.ref b112), .val (.ref xtb0_0_123), .val (.ref b131), .val (.ref xtb85_0_176), .val (.int (77 : Int32)), .unset] [(.int (nar .byte (vnu0_1 q0))), (.int (0 : Int32)), (.ref xtb85_0_176)])) _
      refine XT.iconstV X199.here hx rfl (-1 : Int32) (hb hby at_253) (by decide) ?_
      show Steps p.tables e below (T199.setTop (mkF m 254 #[.val (.long q0), .second, .val (.long q1), .second, .val (.int p2), .val (.int p3), .val (.int (v0_2 q0 q1 p2 p3)), .val (.int (1 : Int32)), .val (.ref b112), .val (.ref xtb0_0_123), .val (.ref b131), .val (.ref xtb85_0_176), .val (.int (77 : Int32)), .unset] [(.int (-1 : Int32)), (.int (nar .byte (vnu0_1 q0))), (.int (0 : Int32)), (.ref xtb85_0_176)])) _
      refine XT.ixor X199.here hx rfl (hb hby at_254) rfl ?_
      show Steps p.tables e below (T199.setTop (mkF m 255 #[.val (.long q0), .second, .val (.long q1), .second, .val (.int p2), .val (.int p3), .val (.int (v0_2 q0 q1 p2 p3)), .val (.int (1 : Int32)), .val (.ref b112), .val (.ref xtb0_0_123), .val (.ref b131), .val (.ref xtb85_0_176), .val (.int (77 : Int32)), .unset] [(.int ((nar .byte (vnu0_1 q0)) ^^^ (-1 : Int32))), (.int (0 : Int32)), (.ref xtb85_0_176)])) _
      refine XT.i2b X199.here hx rfl (hb hby at_255) rfl ?_
      show Steps p.tables e below (T199.setTop (mkF m 256 #[.val (.long q0), .second, .val (.long q1), .second, .val (.int p2), .val (.int p3), .val (.int (v0_2 q0 q1 p2 p3)), .val (.int (1 : Int32)), .val (.ref b112), .val (.ref xtb0_0_123), .val (.ref b131), .val (.ref xtb85_0_176), .val (.int (77 : Int32)), .unset] [(.int (((nar .byte (vnu0_1 q0)) ^^^ (-1 : Int32)).toInt8.toInt32)), (.int (0 : Int32)), (.ref xtb85_0_176)])) _
      refine st202 _ ?_
      show Steps p.tables e below (T202.setTop (mkF m 257 #[.val (.long q0), .second, .val (.long q1), .second, .val (.int p2), .val (.int p3), .val (.int (v0_2 q0 q1 p2 p3)), .val (.int (1 : Int32)), .val (.ref b112), .val (.ref xtb0_0_123), .val (.ref b131), .val (.ref xtb85_0_176), .val (.int (77 : Int32)), .unset] [])) _
      refine XS.aload X202.here hx rfl (hb hby at_257) rfl rfl ?_
      show Steps p.tables e below (T202.setTop (mkF m 259 #[.val (.long q0), .second, .val (.long q1), .second, .val (.int p2), .val (.int p3), .val (.int (v0_2 q0 q1 p2 p3)), .val (.int (1 : Int32)), .val (.ref b112), .val (.ref xtb0_0_123), .val (.ref b131), .val (.ref xtb85_0_176), .val (.int (77 : Int32)), .unset] [(.ref xtb85_0_176)])) _
      refine XS.iload X202.here hx rfl (hb hby at_259) rfl ?_
      show Steps p.tables e below (T202.setTop (mkF m 261 #[.val (.long q0), .second, .val (.long q1), .second, .val (.int p2), .val (.int p3), .val (.int (v0_2 q0 q1 p2 p3)), .val (.int (1 : Int32)), .val (.ref b112), .val (.ref xtb0_0_123), .val (.ref b131), .val (.ref xtb85_0_176), .val (.int (77 : Int32)), .unset] [(.int (77 : Int32)), (.ref xtb85_0_176)])) _
      refine XT.bipushV X202.here hx rfl (7 : Int32) (hb hby at_261) (by decide) ?_
      show Steps p.tables e below (T202.setTop (mkF m 263 #[.val (.long q0), .second, .val (.long q1), .second, .val (.int p2), .val (.int p3), .val (.int (v0_2 q0 q1 p2 p3)), .val (.int (1 : Int32)), .val (.ref b112), .val (.ref xtb0_0_123), .val (.ref b131), .val (.ref xtb85_0_176), .val (.int (77 : Int32)), .unset] [(.int (7 : Int32)), (.int (77 : Int32)), (.ref xtb85_0_176)])) _
      refine XS.iadd X202.here hx rfl (hb hby at_263) rfl ?_
      show Steps p.tables e below (T202.setTop (mkF m 264 #[.val (.long q0), .second, .val (.long q1), .second, .val (.int p2), .val (.int p3), .val (.int (v0_2 q0 q1 p2 p3)), .val (.int (1 : Int32)), .val (.ref b112), .val (.ref xtb0_0_123), .val (.ref b131), .val (.ref xtb85_0_176), .val (.int (77 : Int32)), .unset] [(.int (84 : Int32)), (.ref xtb85_0_176)])) _
      refine XS.aload X202.here hx rfl (hb hby at_264) rfl rfl ?_
      show Steps p.tables e below (T202.setTop (mkF m 266 #[.val (.long q0), .second, .val (.long q1), .second, .val (.int p2), .val (.int p3), .val (.int (v0_2 q0 q1 p2 p3)), .val (.int (1 : Int32)), .val (.ref b112), .val (.ref xtb0_0_123), .val (.ref b131), .val (.ref xtb85_0_176), .val (.int (77 : Int32)), .unset] [(.ref xtb85_0_176), (.int (84 : Int32)), (.ref xtb85_0_176)])) _
      refine XS.iload X202.here hx rfl (hb hby at_266) rfl ?_
      show Steps p.tables e below (T202.setTop (mkF m 268 #[.val (.long q0), .second, .val (.long q1), .second, .val (.int p2), .val (.int p3), .val (.int (v0_2 q0 q1 p2 p3)), .val (.int (1 : Int32)), .val (.ref b112), .val (.ref xtb0_0_123), .val (.ref b131), .val (.ref xtb85_0_176), .val (.int (77 : Int32)), .unset] [(.int (77 : Int32)), (.ref xtb85_0_176), (.int (84 : Int32)), (.ref xtb85_0_176)])) _
      refine XT.bipushV X202.here hx rfl (7 : Int32) (hb hby at_268) (by decide) ?_
      show Steps p.tables e below (T202.setTop (mkF m 270 #[.val (.long q0), .second, .val (.long q1), .second, .val (.int p2), .val (.int p3), .val (.int (v0_2 q0 q1 p2 p3)), .val (.int (1 : Int32)), .val (.ref b112), .val (.ref xtb0_0_123), .val (.ref b131), .val (.ref xtb85_0_176), .val (.int (77 : Int32)), .unset] [(.int (7 : Int32)), (.int (77 : Int32)), (.ref xtb85_0_176), (.int (84 : Int32)), (.ref xtb85_0_176)])) _
      refine XS.iadd X202.here hx rfl (hb hby at_270) rfl ?_
      show Steps p.tables e below (T202.setTop (mkF m 271 #[.val (.long q0), .second, .val (.long q1), .second, .val (.int p2), .val (.int p3), .val (.int (v0_2 q0 q1 p2 p3)), .val (.int (1 : Int32)), .val (.ref b112), .val (.ref xtb0_0_123), .val (.ref b131), .val (.ref xtb85_0_176), .val (.int (77 : Int32)), .unset] [(.int (84 : Int32)), (.ref xtb85_0_176), (.int (84 : Int32)), (.ref xtb85_0_176)])) _
      refine X202.baloadBytes hx (j := (84 : Int32)) (v := (.int (nar .byte (vnu77_8 q1)))) (by rw [e202]; exact Ar205.1) (State.isArrayOf_alike hZ.alike Ar205.2.1) Ar205.2.2 hin206 (Has.at Ha205 hin206 rfl) (g := (mkF m 271 #[.val (.long q0), .second, .val (.long q1), .second, .val (.int p2), .val (.int p3), .val (.int (v0_2 q0 q1 p2 p3)), .val (.int (1 : Int32)), .val (.ref b112), .val (.ref xtb0_0_123), .val (.ref b131), .val (.ref xtb85_0_176), .val (.int (77 : Int32)), .unset] [(.int (84 : Int32)), (.ref xtb85_0_176), (.int (84 : Int32)), (.ref xtb85_0_176)])) rfl rfl (hb hby at_271) _ ?_
      show Steps p.tables e below (T202.setTop (mkF m 272 #[.val (.long q0), .second, .val (.long q1), .second, .val (.int p2), .val (.int p3), .val (.int (v0_2 q0 q1 p2 p3)), .val (.int (1 : Int32)), .val (.ref b112), .val (.ref xtb0_0_123), .val (.ref b131), .val (.ref xtb85_0_176), .val (.int (77 : Int32)), .unset] [(.int (nar .byte (vnu77_8 q1))), (.int (84 : Int32)), (.ref xtb85_0_176)])) _
      refine XT.iconstV X202.here hx rfl (-1 : Int32) (hb hby at_272) (by decide) ?_
      show Steps p.tables e below (T202.setTop (mkF m 273 #[.val (.long q0), .second, .val (.long q1), .second, .val (.int p2), .val (.int p3), .val (.int (v0_2 q0 q1 p2 p3)), .val (.int (1 : Int32)), .val (.ref b112), .val (.ref xtb0_0_123), .val (.ref b131), .val (.ref xtb85_0_176), .val (.int (77 : Int32)), .unset] [(.int (-1 : Int32)), (.int (nar .byte (vnu77_8 q1))), (.int (84 : Int32)), (.ref xtb85_0_176)])) _
      refine XT.ixor X202.here hx rfl (hb hby at_273) rfl ?_
      show Steps p.tables e below (T202.setTop (mkF m 274 #[.val (.long q0), .second, .val (.long q1), .second, .val (.int p2), .val (.int p3), .val (.int (v0_2 q0 q1 p2 p3)), .val (.int (1 : Int32)), .val (.ref b112), .val (.ref xtb0_0_123), .val (.ref b131), .val (.ref xtb85_0_176), .val (.int (77 : Int32)), .unset] [(.int ((nar .byte (vnu77_8 q1)) ^^^ (-1 : Int32))), (.int (84 : Int32)), (.ref xtb85_0_176)])) _
      refine XT.i2b X202.here hx rfl (hb hby at_274) rfl ?_
      show Steps p.tables e below (T202.setTop (mkF m 275 #[.val (.long q0), .second, .val (.long q1), .second, .val (.int p2), .val (.int p3), .val (.int (v0_2 q0 q1 p2 p3)), .val (.int (1 : Int32)), .val (.ref b112), .val (.ref xtb0_0_123), .val (.ref b131), .val (.ref xtb85_0_176), .val (.int (77 : Int32)), .unset] [(.int (((nar .byte (vnu77_8 q1)) ^^^ (-1 : Int32)).toInt8.toInt32)), (.int (84 : Int32)), (.ref xtb85_0_176)])) _
      refine st208 _ ?_
      show Steps p.tables e below (T208.setTop (mkF m 276 #[.val (.long q0), .second, .val (.long q1), .second, .val (.int p2), .val (.int p3), .val (.int (v0_2 q0 q1 p2 p3)), .val (.int (1 : Int32)), .val (.ref b112), .val (.ref xtb0_0_123), .val (.ref b131), .val (.ref xtb85_0_176), .val (.int (77 : Int32)), .unset] [])) _
      refine XS.aload X208.here hx rfl (hb hby at_276) rfl rfl ?_
      show Steps p.tables e below (T208.setTop (mkF m 278 #[.val (.long q0), .second, .val (.long q1), .second, .val (.int p2), .val (.int p3), .val (.int (v0_2 q0 q1 p2 p3)), .val (.int (1 : Int32)), .val (.ref b112), .val (.ref xtb0_0_123), .val (.ref b131), .val (.ref xtb85_0_176), .val (.int (77 : Int32)), .unset] [(.ref b112)])) _
      refine st211.trans ?_
      show Steps p.tables e below (T211.setTop (mkF m 281 #[.val (.long q0), .second, .val (.long q1), .second, .val (.int p2), .val (.int p3), .val (.int (v0_2 q0 q1 p2 p3)), .val (.int (1 : Int32)), .val (.ref b112), .val (.ref xtb0_0_123), .val (.ref b131), .val (.ref xtb85_0_176), .val (.int (77 : Int32)), .unset] [(.ref xtb85_0_211)])) _
      refine XS.astore X211.here hx rfl (hb hby at_281) rfl rfl (l' := #[.val (.long q0), .second, .val (.long q1), .second, .val (.int p2), .val (.int p3), .val (.int (v0_2 q0 q1 p2 p3)), .val (.int (1 : Int32)), .val (.ref b112), .val (.ref xtb0_0_123), .val (.ref b131), .val (.ref xtb85_0_176), .val (.int (77 : Int32)), .val (.ref xtb85_0_211)]) rfl ?_
      show Steps p.tables e below (T211.setTop (mkF m 283 #[.val (.long q0), .second, .val (.long q1), .second, .val (.int p2), .val (.int p3), .val (.int (v0_2 q0 q1 p2 p3)), .val (.int (1 : Int32)), .val (.ref b112), .val (.ref xtb0_0_123), .val (.ref b131), .val (.ref xtb85_0_176), .val (.int (77 : Int32)), .val (.ref xtb85_0_211)] [])) _
      refine XS.aload X211.here hx rfl (hb hby at_283) rfl rfl ?_
      show Steps p.tables e below (T211.setTop (mkF m 285 #[.val (.long q0), .second, .val (.long q1), .second, .val (.int p2), .val (.int p3), .val (.int (v0_2 q0 q1 p2 p3)), .val (.int (1 : Int32)), .val (.ref b112), .val (.ref xtb0_0_123), .val (.ref b131), .val (.ref xtb85_0_176), .val (.int (77 : Int32)), .val (.ref xtb85_0_211)] [(.ref xtb85_0_211)])) _
      refine XS.aload X211.here hx rfl (hb hby at_285) rfl rfl ?_
      show Steps p.tables e below (T211.setTop (mkF m 287 #[.val (.long q0), .second, .val (.long q1), .second, .val (.int p2), .val (.int p3), .val (.int (v0_2 q0 q1 p2 p3)), .val (.int (1 : Int32)), .val (.ref b112), .val (.ref xtb0_0_123), .val (.ref b131), .val (.ref xtb85_0_176), .val (.int (77 : Int32)), .val (.ref xtb85_0_211)] [(.ref xtb85_0_176), (.ref xtb85_0_211)])) _
      refine XT.acmpNo X211.here hx rfl (hb hby at_287) rfl rfl rfl (XT.aa_eq_f (fun q => (Ne.symm ne224) (Value.ref.inj q))) ?_
      show Steps p.tables e below (T211.setTop (mkF m 290 #[.val (.long q0), .second, .val (.long q1), .second, .val (.int p2), .val (.int p3), .val (.int (v0_2 q0 q1 p2 p3)), .val (.int (1 : Int32)), .val (.ref b112), .val (.ref xtb0_0_123), .val (.ref b131), .val (.ref xtb85_0_176), .val (.int (77 : Int32)), .val (.ref xtb85_0_211)] [])) _
      refine XS.aload X211.here hx rfl (hb hby at_290) rfl rfl ?_
      show Steps p.tables e below (T211.setTop (mkF m 292 #[.val (.long q0), .second, .val (.long q1), .second, .val (.int p2), .val (.int p3), .val (.int (v0_2 q0 q1 p2 p3)), .val (.int (1 : Int32)), .val (.ref b112), .val (.ref xtb0_0_123), .val (.ref b131), .val (.ref xtb85_0_176), .val (.int (77 : Int32)), .val (.ref xtb85_0_211)] [(.ref xtb85_0_211)])) _
      refine X211.arraylength hx Ar229.1 (State.isArrayOf_alike hZ.alike Ar229.2.1) (g := (mkF m 292 #[.val (.long q0), .second, .val (.long q1), .second, .val (.int p2), .val (.int p3), .val (.int (v0_2 q0 q1 p2 p3)), .val (.int (1 : Int32)), .val (.ref b112), .val (.ref xtb0_0_123), .val (.ref b131), .val (.ref xtb85_0_176), .val (.int (77 : Int32)), .val (.ref xtb85_0_211)] [(.ref xtb85_0_211)])) rfl rfl (hb hby at_292) _ ?_
      rw [len_of S229 M229]
      show Steps p.tables e below (T211.setTop (mkF m 293 #[.val (.long q0), .second, .val (.long q1), .second, .val (.int p2), .val (.int p3), .val (.int (v0_2 q0 q1 p2 p3)), .val (.int (1 : Int32)), .val (.ref b112), .val (.ref xtb0_0_123), .val (.ref b131), .val (.ref xtb85_0_176), .val (.int (77 : Int32)), .val (.ref xtb85_0_211)] [(.int (85 : Int32))])) _
      refine XS.iload X211.here hx rfl (hb hby at_293) rfl ?_
      show Steps p.tables e below (T211.setTop (mkF m 295 #[.val (.long q0), .second, .val (.long q1), .second, .val (.int p2), .val (.int p3), .val (.int (v0_2 q0 q1 p2 p3)), .val (.int (1 : Int32)), .val (.ref b112), .val (.ref xtb0_0_123), .val (.ref b131), .val (.ref xtb85_0_176), .val (.int (77 : Int32)), .val (.ref xtb85_0_211)] [(.int (77 : Int32)), (.int (85 : Int32))])) _
      refine XT.bipushV X211.here hx rfl (8 : Int32) (hb hby at_295) (by decide) ?_
      show Steps p.tables e below (T211.setTop (mkF m 297 #[.val (.long q0), .second, .val (.long q1), .second, .val (.int p2), .val (.int p3), .val (.int (v0_2 q0 q1 p2 p3)), .val (.int (1 : Int32)), .val (.ref b112), .val (.ref xtb0_0_123), .val (.ref b131), .val (.ref xtb85_0_176), .val (.int (77 : Int32)), .val (.ref xtb85_0_211)] [(.int (8 : Int32)), (.int (77 : Int32)), (.int (85 : Int32))])) _
      refine XS.iadd X211.here hx rfl (hb hby at_297) rfl ?_
      show Steps p.tables e below (T211.setTop (mkF m 298 #[.val (.long q0), .second, .val (.long q1), .second, .val (.int p2), .val (.int p3), .val (.int (v0_2 q0 q1 p2 p3)), .val (.int (1 : Int32)), .val (.ref b112), .val (.ref xtb0_0_123), .val (.ref b131), .val (.ref xtb85_0_176), .val (.int (77 : Int32)), .val (.ref xtb85_0_211)] [(.int (85 : Int32)), (.int (85 : Int32))])) _
      refine XS.icmpNo X211.here hx rfl (hb hby at_298) rfl (XT.ii_ne_f (by decide)) ?_
      show Steps p.tables e below (T211.setTop (mkF m 301 #[.val (.long q0), .second, .val (.long q1), .second, .val (.int p2), .val (.int p3), .val (.int (v0_2 q0 q1 p2 p3)), .val (.int (1 : Int32)), .val (.ref b112), .val (.ref xtb0_0_123), .val (.ref b131), .val (.ref xtb85_0_176), .val (.int (77 : Int32)), .val (.ref xtb85_0_211)] [])) _
      refine XS.aload X211.here hx rfl (hb hby at_301) rfl rfl ?_
      show Steps p.tables e below (T211.setTop (mkF m 303 #[.val (.long q0), .second, .val (.long q1), .second, .val (.int p2), .val (.int p3), .val (.int (v0_2 q0 q1 p2 p3)), .val (.int (1 : Int32)), .val (.ref b112), .val (.ref xtb0_0_123), .val (.ref b131), .val (.ref xtb85_0_176), .val (.int (77 : Int32)), .val (.ref xtb85_0_211)] [(.ref xtb85_0_211)])) _
      refine XT.iconstV X211.here hx rfl (0 : Int32) (hb hby at_303) (by decide) ?_
      show Steps p.tables e below (T211.setTop (mkF m 304 #[.val (.long q0), .second, .val (.long q1), .second, .val (.int p2), .val (.int p3), .val (.int (v0_2 q0 q1 p2 p3)), .val (.int (1 : Int32)), .val (.ref b112), .val (.ref xtb0_0_123), .val (.ref b131), .val (.ref xtb85_0_176), .val (.int (77 : Int32)), .val (.ref xtb85_0_211)] [(.int (0 : Int32)), (.ref xtb85_0_211)])) _
      refine XT.lloadN X211.here hx rfl (hb hby at_304) rfl ?_
      show Steps p.tables e below (T211.setTop (mkF m 305 #[.val (.long q0), .second, .val (.long q1), .second, .val (.int p2), .val (.int p3), .val (.int (v0_2 q0 q1 p2 p3)), .val (.int (1 : Int32)), .val (.ref b112), .val (.ref xtb0_0_123), .val (.ref b131), .val (.ref xtb85_0_176), .val (.int (77 : Int32)), .val (.ref xtb85_0_211)] [(.long q0), (.int (0 : Int32)), (.ref xtb85_0_211)])) _
      refine st230 _ ?_
      exact k
    clear pre194 st195 st199 st202 st208 st211 st230
    obtain ⟨T236, L236, X236, e236, N236, pre236⟩ : ∃ (T' : State) (L' : List Loc), Stand p l e room_1 s m #[(.long q0), (.long q1), (.int p2), (.int p3)] below meth c T' L' 7 424 ∧ T'.heap = T211.heap ∧ Fr n0 L' ∧ ∀ t, Steps p.tables e below (T'.setTop (mkF m 327 #[.val (.long q0), .second, .val (.long q1), .second, .val (.int p2), .val (.int p3), .val (.int (v0_2 q0 q1 p2 p3)), .val (.int (1 : Int32)), .val (.ref b112), .val (.ref xtb0_0_123), .val (.ref b131), .val (.ref xtb85_0_176), .val (.int (77 : Int32)), .val (.ref xtb85_0_211)] [(.int (v0_30 q0 q1 p2 p3))])) t → Steps p.tables e below (s₁.setTop (entryFrame m #[(.long q0), (.long q1), (.int p2), (.int p3)] maxLocals)) t := by
      by_cases c232 : (v0_28 q0 q1 p2 p3) = (0 : Int32)
      · skip
        refine ⟨T230, _, X230, e230, N230, fun t k => ?_⟩
        rw [show (v0_30 q0 q1 p2 p3) = (0 : Int32) from (if_pos c232)] at k
        refine pre231 t ?_
        show Steps p.tables e below (T230.setTop (mkF m 308 #[.val (.long q0), .second, .val (.long q1), .second, .val (.int p2), .val (.int p3), .val (.int (v0_2 q0 q1 p2 p3)), .val (.int (1 : Int32)), .val (.ref b112), .val (.ref xtb0_0_123), .val (.ref b131), .val (.ref xtb85_0_176), .val (.int (77 : Int32)), .val (.ref xtb85_0_211)] [(.int (fla85_0 q0 (nar .byte (vnu0_1 q0)) (nar .byte (vnu0_2 q0)) (nar .byte (vnu0_3 q0)) (nar .byte (vnu0_4 q0)) (nar .byte (vnu0_5 q0)) (nar .byte (vnu0_6 q0)) (nar .byte (vnu0_7 q0)) (nar .byte (vnu0_8 q0))))])) _
        refine XS.ifYes X230.here hx rfl (pc0 := 308) (pc' := 326) rfl (hb hby at_308) rfl (XT.i0_eq_t c232) (by decide) (by decide) ?_
        show Steps p.tables e below (T230.setTop (mkF m 326 #[.val (.long q0), .second, .val (.long q1), .second, .val (.int p2), .val (.int p3), .val (.int (v0_2 q0 q1 p2 p3)), .val (.int (1 : Int32)), .val (.ref b112), .val (.ref xtb0_0_123), .val (.ref b131), .val (.ref xtb85_0_176), .val (.int (77 : Int32)), .val (.ref xtb85_0_211)] [])) _
        refine XT.iconstV X230.here hx rfl (0 : Int32) (hb hby at_326) (by decide) ?_
        exact k
      · skip
        obtain ⟨vr233, _, ⟨T233, L233, k233, n233⟩, -, X233, ⟨Lc233, hQ233, l233, y233, z233⟩, st233⟩ := Jvm.LawKit.callS X230 hx (y := (⟨"com/example/dispatch_by_catalog/dispatchbycatalog/store/RecordWriterToBytesPinLaw", "longAt", "([BIJ)Z"⟩ : MethodName)) hown (mvT hZ (hw _ (List.mem_of_getElem? (i := 45) rfl))) (mvT hZ (hw _ (List.mem_of_getElem? (i := 46) rfl))) (mvT hZ (hw _ (List.mem_of_getElem? (i := 47) rfl))) (mvT hZ (hw _ (List.mem_of_getElem? (i := 48) rfl))) (by decide) (backOf (W := 0) (rmla85_77 l Z a0 hw [] xtb85_0_211 q1 (.int (nar .byte (vnu0_1 q0))) (.int (nar .byte (vnu0_2 q0))) (.int (nar .byte (vnu0_3 q0))) (.int (nar .byte (vnu0_4 q0))) (.int (nar .byte (vnu0_5 q0))) (.int (nar .byte (vnu0_6 q0))) (.int (nar .byte (vnu0_7 q0))) (.int (nar .byte (vnu0_8 q0))) (.int (nar .byte (v8_2 (v0_2 q0 q1 p2 p3)))) (.int (nar .byte (vnu9_1 v10_1))) (.int (nar .byte (vnu9_2 v10_1))) (.int (nar .byte (vnu9_3 v10_1))) (.int (nar .byte (vnu9_4 v10_1))) (.int (nar .byte (vnu9_5 v10_1))) (.int (nar .byte (vnu9_6 v10_1))) (.int (nar .byte (vnu9_7 v10_1))) (.int (nar .byte (vnu9_8 v10_1))) (.int (nar .byte (v0_15 q0 q1 p2 p3))) (.int (0 : Int32)) (.int (0 : Int32)) (.int (0 : Int32)) (.int (0 : Int32)) (.int (0 : Int32)) (.int (0 : Int32)) (.int (0 : Int32)) (.int (0 : Int32)) (.int (0 : Int32)) (.int (0 : Int32)) (.int (0 : Int32)) (.int (0 : Int32)) (.int (0 : Int32)) (.int (0 : Int32)) (.int (0 : Int32)) (.int (0 : Int32)) (.int (0 : Int32)) (.int (0 : Int32)) (.int (0 : Int32)) (.int (0 : Int32)) (.int (0 : Int32)) (.int (0 : Int32)) (.int (0 : Int32)) (.int (0 : Int32)) (.int (0 : Int32)) (.int (0 : Int32)) (.int (0 : Int32)) (.int (0 : Int32)) (.int (0 : Int32)) (.int (0 : Int32)) (.int (0 : Int32)) (.int (0 : Int32)) (.int (0 : Int32)) (.int (0 : Int32)) (.int (0 : Int32)) (.int (0 : Int32)) (.int (0 : Int32)) (.int (0 : Int32)) (.int (0 : Int32)) (.int (0 : Int32)) (.int (0 : Int32)) (.int (0 : Int32)) (.int (0 : Int32)) (.int (0 : Int32)) (.int (0 : Int32)) (.int (0 : Int32)) (.int (0 : Int32)) (.int (0 : Int32)) (.int (0 : Int32)) (.int (0 : Int32)) (.int (0 : Int32)) (.int (0 : Int32)) (.int (0 : Int32)) (.int (0 : Int32)) (.int (0 : Int32)) (.int (0 : Int32)) (.int (0 : Int32)) (.int (0 : Int32)) (.int (nar .byte (v0_16 q0 q1 p2 p3))) (nar .byte (vnu77_1 q1)) (nar .byte (vnu77_2 q1)) (nar .byte (vnu77_3 q1)) (nar .byte (vnu77_4 q1)) (nar .byte (vnu77_5 q1)) (nar .byte (vnu77_6 q1)) (nar .byte (vnu77_7 q1)) (nar .byte (vnu77_8 q1)) ktb85_1_211 T211.heap n0 z227 po211_0) hZ (hw _ (List.mem_of_getElem? (i := 48) rfl)) (hw _ (List.mem_of_getElem? (i := 47) rfl)) (by decide) (by decide)) (g := (mkF m 316 #[.val (.long q0), .second, .val (.long q1), .second, .val (.int p2), .val (.int p3), .val (.int (v0_2 q0 q1 p2 p3)), .val (.int (1 : Int32)), .val (.ref b112), .val (.ref xtb0_0_123), .val (.ref b131), .val (.ref xtb85_0_176), .val (.int (77 : Int32)), .val (.ref xtb85_0_211)] [(.long q1), (.int (77 : Int32)), (.ref xtb85_0_211)])) rfl (by rw [hml]; rfl) (argsL := [(.ref xtb85_0_211), (.int (77 : Int32)), (.long q1)]) (rest := []) (lenOf pd___BIJ_Z rfl) rfl (by show 2 * 0 + _ ≤ _; exact Nat.le_of_eq rfl) (hb hby at_316) (fun _ _ => ⟨rfl, e230, (by decide : 7 + 0 ≤ _), (by decide : 424 + 0 ≤ _)⟩)
        dsimp only [Pt.U, Pt.locs, Pt.cells, Pt.slots] at X233 l233 y233 z233 st233 hQ233
        subst l233 y233 z233
        have N233q := (show _ ∧ _ ∧ _ from hQ233).1
        have hv233 := (show _ ∧ _ ∧ _ from hQ233).2.1
        have e233 := (show _ ∧ _ ∧ _ from hQ233).2.2
        clear hQ233
        subst hv233
        have N233 := Fr.app N230 N233q
        have pre234 : ∀ t, Steps p.tables e below (T233.setTop (mkF m 319 #[.val (.long q0), .second, .val (.long q1), .second, .val (.int p2), .val (.int p3), .val (.int (v0_2 q0 q1 p2 p3)), .val (.int (1 : Int32)), .val (.ref b112), .val (.ref xtb0_0_123), .val (.ref b131), .val (.ref xtb85_0_176), .val (.int (77 : Int32)), .val (.ref xtb85_0_211)] [(.int (fla85_77 q1 (nar .byte (vnu77_1 q1)) (nar .byte (vnu77_2 q1)) (nar .byte (vnu77_3 q1)) (nar .byte (vnu77_4 q1)) (nar .byte (vnu77_5 q1)) (nar .byte (vnu77_6 q1)) (nar .byte (vnu77_7 q1)) (nar .byte (vnu77_8 q1))))])) t → Steps p.tables e below (s₁.setTop (entryFrame m #[(.long q0), (.long q1), (.int p2), (.int p3)] maxLocals)) t := by
          intro t k
          refine pre231 t ?_
          show Steps p.tables e below (T230.setTop (mkF m 308 #[.val (.long q0), .second, .val (.long q1), .second, .val (.int p2), .val (.int p3), .val (.int (v0_2 q0 q1 p2 p3)), .val (.int (1 : Int32)), .val (.ref b112), .val (.ref xtb0_0_123), .val (.ref b131), .val (.ref xtb85_0_176), .val (.int (77 : Int32)), .val (.ref xtb85_0_211)] [(.int (fla85_0 q0 (nar .byte (vnu0_1 q0)) (nar .byte (vnu0_2 q0)) (nar .byte (vnu0_3 q0)) (nar .byte (vnu0_4 q0)) (nar .byte (vnu0_5 q0)) (nar .byte (vnu0_6 q0)) (nar .byte (vnu0_7 q0)) (nar .byte (vnu0_8 q0))))])) _
          refine XS.ifNo X230.here hx rfl (hb hby at_308) rfl (XT.i0_eq_f c232) ?_
          show Steps p.tables e below (T230.setTop (mkF m 311 #[.val (.long q0), .second, .val (.long q1), .second, .val (.int p2), .val (.int p3), .val (.int (v0_2 q0 q1 p2 p3)), .val (.int (1 : Int32)), .val (.ref b112), .val (.ref xtb0_0_123), .val (.ref b131), .val (.ref xtb85_0_176), .val (.int (77 : Int32)), .val (.ref xtb85_0_211)] [])) _
          refine XS.aload X230.here hx rfl (hb hby at_311) rfl rfl ?_
          show Steps p.tables e below (T230.setTop (mkF m 313 #[.val (.long q0), .second, .val (.long q1), .second, .val (.int p2), .val (.int p3), .val (.int (v0_2 q0 q1 p2 p3)), .val (.int (1 : Int32)), .val (.ref b112), .val (.ref xtb0_0_123), .val (.ref b131), .val (.ref xtb85_0_176), .val (.int (77 : Int32)), .val (.ref xtb85_0_211)] [(.ref xtb85_0_211)])) _
          refine XS.iload X230.here hx rfl (hb hby at_313) rfl ?_
          show Steps p.tables e below (T230.setTop (mkF m 315 #[.val (.long q0), .second, .val (.long q1), .second, .val (.int p2), .val (.int p3), .val (.int (v0_2 q0 q1 p2 p3)), .val (.int (1 : Int32)), .val (.ref b112), .val (.ref xtb0_0_123), .val (.ref b131), .val (.ref xtb85_0_176), .val (.int (77 : Int32)), .val (.ref xtb85_0_211)] [(.int (77 : Int32)), (.ref xtb85_0_211)])) _
          refine XT.lloadN X230.here hx rfl (hb hby at_315) rfl ?_
          show Steps p.tables e below (T230.setTop (mkF m 316 #[.val (.long q0), .second, .val (.long q1), .second, .val (.int p2), .val (.int p3), .val (.int (v0_2 q0 q1 p2 p3)), .val (.int (1 : Int32)), .val (.ref b112), .val (.ref xtb0_0_123), .val (.ref b131), .val (.ref xtb85_0_176), .val (.int (77 : Int32)), .val (.ref xtb85_0_211)] [(.long q1), (.int (77 : Int32)), (.ref xtb85_0_211)])) _
          refine st233 _ ?_
          exact k
        clear pre231 st233
        by_cases c235 : (v0_29 q0 q1 p2 p3) = (0 : Int32)
        · skip
          refine ⟨T233, _, X233, e233, N233, fun t k => ?_⟩
          rw [show (v0_30 q0 q1 p2 p3) = (0 : Int32) from ((if_neg c232).trans (if_pos c235))] at k
          refine pre234 t ?_
          show Steps p.tables e below (T233.setTop (mkF m 319 #[.val (.long q0), .second, .val (.long q1), .second, .val (.int p2), .val (.int p3), .val (.int (v0_2 q0 q1 p2 p3)), .val (.int (1 : Int32)), .val (.ref b112), .val (.ref xtb0_0_123), .val (.ref b131), .val (.ref xtb85_0_176), .val (.int (77 : Int32)), .val (.ref xtb85_0_211)] [(.int (fla85_77 q1 (nar .byte (vnu77_1 q1)) (nar .byte (vnu77_2 q1)) (nar .byte (vnu77_3 q1)) (nar .byte (vnu77_4 q1)) (nar .byte (vnu77_5 q1)) (nar .byte (vnu77_6 q1)) (nar .byte (vnu77_7 q1)) (nar .byte (vnu77_8 q1))))])) _
          refine XS.ifYes X233.here hx rfl (pc0 := 319) (pc' := 326) rfl (hb hby at_319) rfl (XT.i0_eq_t c235) (by decide) (by decide) ?_
          show Steps p.tables e below (T233.setTop (mkF m 326 #[.val (.long q0), .second, .val (.long q1), .second, .val (.int p2), .val (.int p3), .val (.int (v0_2 q0 q1 p2 p3)), .val (.int (1 : Int32)), .val (.ref b112), .val (.ref xtb0_0_123), .val (.ref b131), .val (.ref xtb85_0_176), .val (.int (77 : Int32)), .val (.ref xtb85_0_211)] [])) _
          refine XT.iconstV X233.here hx rfl (0 : Int32) (hb hby at_326) (by decide) ?_
          exact k
        · skip
          refine ⟨T233, _, X233, e233, N233, fun t k => ?_⟩
          rw [show (v0_30 q0 q1 p2 p3) = (1 : Int32) from ((if_neg c232).trans (if_neg c235))] at k
          refine pre234 t ?_
          show Steps p.tables e below (T233.setTop (mkF m 319 #[.val (.long q0), .second, .val (.long q1), .second, .val (.int p2), .val (.int p3), .val (.int (v0_2 q0 q1 p2 p3)), .val (.int (1 : Int32)), .val (.ref b112), .val (.ref xtb0_0_123), .val (.ref b131), .val (.ref xtb85_0_176), .val (.int (77 : Int32)), .val (.ref xtb85_0_211)] [(.int (fla85_77 q1 (nar .byte (vnu77_1 q1)) (nar .byte (vnu77_2 q1)) (nar .byte (vnu77_3 q1)) (nar .byte (vnu77_4 q1)) (nar .byte (vnu77_5 q1)) (nar .byte (vnu77_6 q1)) (nar .byte (vnu77_7 q1)) (nar .byte (vnu77_8 q1))))])) _
          refine XS.ifNo X233.here hx rfl (hb hby at_319) rfl (XT.i0_eq_f c235) ?_
          show Steps p.tables e below (T233.setTop (mkF m 322 #[.val (.long q0), .second, .val (.long q1), .second, .val (.int p2), .val (.int p3), .val (.int (v0_2 q0 q1 p2 p3)), .val (.int (1 : Int32)), .val (.ref b112), .val (.ref xtb0_0_123), .val (.ref b131), .val (.ref xtb85_0_176), .val (.int (77 : Int32)), .val (.ref xtb85_0_211)] [])) _
          refine XT.iconstV X233.here hx rfl (1 : Int32) (hb hby at_322) (by decide) ?_
          show Steps p.tables e below (T233.setTop (mkF m 323 #[.val (.long q0), .second, .val (.long q1), .second, .val (.int p2), .val (.int p3), .val (.int (v0_2 q0 q1 p2 p3)), .val (.int (1 : Int32)), .val (.ref b112), .val (.ref xtb0_0_123), .val (.ref b131), .val (.ref xtb85_0_176), .val (.int (77 : Int32)), .val (.ref xtb85_0_211)] [(.int (1 : Int32))])) _
          refine XS.goto X233.here hx rfl (pc0 := 323) (pc' := 327) rfl (hb hby at_323) (by decide) (by decide) ?_
          exact k
    have hv237 : (v0_30 q0 q1 p2 p3) = (1 : Int32) := own_v0_30 q0 q1 p2 p3
    obtain ⟨fs, hr, hrun, hended, hW, hsame⟩ := X236.leave (v := some (.int (1 : Int32))) (fun h => by rw [Bd.returns] at h; cases h) hlk
    refine ⟨_, _, pre236 _ ?_, hrun, hended, _, _, rfl, ?_, ⟨_, rfl⟩, hW, hsame.mono (by decide) (by decide)⟩
    · skip
      show Steps p.tables e below (T236.setTop (mkF m 327 #[.val (.long q0), .second, .val (.long q1), .second, .val (.int p2), .val (.int p3), .val (.int (v0_2 q0 q1 p2 p3)), .val (.int (1 : Int32)), .val (.ref b112), .val (.ref xtb0_0_123), .val (.ref b131), .val (.ref xtb85_0_176), .val (.int (77 : Int32)), .val (.ref xtb85_0_211)] [(.int (v0_30 q0 q1 p2 p3))])) _
      rw [hv237]
      exact retN X236 hx (t := .boolean) Bd.returns (by simp) (hb hby at_327) hr
    · skip
      show Q0 Z q0 q1 p2 p3 h0 n0 _ T236.heap _
      rw [e236]
      exact ⟨rfl, N236⟩
set_option maxRecDepth 65536 in
set_option maxHeartbeats 40000000 in
theorem comes_1 {Post : Tables → Env → Array Value → State → Outcome → State → Prop} (hpost : ∀ tb e args s v u, (limb_1_1.after args s (.returned v) u = true ∧ limb_1_2.after args s (.returned v) u = true ∧ True) → FrameEnd s (.returned v) u (Jvm.fieldLocs frame_1_writes args s ++ Jvm.arrayLocs frame_1_arrays args s ++ Jvm.staticLocs frame_1_statics s) 24 960 → Post tb e args s (.returned v) u) :
    ArmFor flags0 classFile x code maxLocals ret World_1 tables_1 room_1 Calls_1 rest_1 Pre_1 Post := by
  intro l hfl _ _ p e ha hc hk s m args below hf hA hF happ hP
  obtain ⟨hcalls, hrest, hpre⟩ := hP
  obtain ⟨-, -, -, hnamed, -, -, -, hat⟩ := (Spec.applies_iff hf).mp happ
  obtain ⟨hg, hn⟩ := and_e (Cond.before_iff.mp (show (Jvm.Cond.and given_1 narrow_1).before args s = true from hpre))
  obtain ⟨hcount, r0⟩ := and_e hg
  obtain ⟨ha0, r1⟩ := and_e r0
  obtain ⟨ha1, r2⟩ := and_e r1
  obtain ⟨ha2, r3⟩ := and_e r2
  obtain ⟨w0, w1, w2, w3, rfl⟩ : ∃ w0 w1 w2 w3 : Value, args = #[w0, w1, w2, w3] := by
    have hs : args.size = 4 := by simpa [Cond.value, given_1] using hcount
    obtain ⟨L⟩ := args
    match L, hs with
    | [w0, w1, w2, w3], _ => exact ⟨w0, w1, w2, w3, rfl⟩
  have hw := fun d (hd : d ∈ tables_1) => atoms_spec (ws := Jvm.Cond.code x code maxLocals ret :: tables_1) hat d (List.mem_cons_of_mem _ hd)
  have hfit : Fit s := fun {y c} hc i hi => by
    obtain ⟨ha, rfl⟩ := Array.getElem?_eq_some_iff.mp hc
    have q := List.all_eq_true.mp ((Array.all_eq_true_iff_forall_mem.mp hF) _ (Array.getElem_mem ha)) i (List.mem_range.mpr hi)
    simpa [Array.getElem?_eq_getElem hi] using q
  obtain ⟨i0, ei0⟩ := isL_v ha0
  obtain rfl : w0 = (.long i0) := Option.some.inj ei0
  obtain ⟨i1, ei1⟩ := isL_v ha1
  obtain rfl : w1 = (.long i1) := Option.some.inj ei1
  obtain ⟨i2, ei2⟩ := is_v ha2
  obtain rfl : w2 = (.int i2) := Option.some.inj ei2
  obtain ⟨i3, ei3⟩ := is_v r3
  obtain rfl : w3 = (.int i3) := Option.some.inj ei3
  obtain ⟨n, o, h1, h2, h3, _, L, rfl, ⟨rfl, N⟩, hq⟩ := rm0 l s _ hw tables_1 i0 i1 i2 i3 s.heap s.heap.size (Nat.le_refl _) p e ha hc hk s m _ below hf ((Spec.applies_iff_loose hf).mp happ).1 ⟨rfl, State.Warmed39.refl s, rfl⟩ trivial
  refine ⟨n, _, h1, h2, h3, hpost _ _ _ _ _ _ ⟨Cond.after_iff.mpr rfl, Cond.after_iff.mpr (eq_i res_at (Term.int_eval (1)) rfl), trivial⟩ ⟨hq.1, hq.2.1, (hq.2.2.sift fun y hy => Or.inr (N y hy)).mono (by decide) (by decide)⟩⟩
theorem main_1_1 : Claimed_1_1 := comes_1 fun _ _ _ _ _ _ h hF => ⟨h.1, hF⟩
theorem main_1_2 : Claimed_1_2 := comes_1 fun _ _ _ _ _ _ h hF => ⟨h.2.1, hF⟩
end Jvm.Pilot.@@N@@
namespace Jvm.Pilot.@@N@@
open Jvm Jvm.ClassFile Sem Op Lib Jvm.Free Jvm.Stand Jvm.Pilot.@@N@@.Jvm.D
/-! MADE BY PROGRAM (witnessworld.py) out of the Statement's table words and the real class files: 12 classes; the members and pool entries that the words name. The judged class is class 1, her method 1. -/
namespace start1
open Jvm.ClassFile
def u (s : String) : CpInfo := .utf8 (stringToUtf16 s)
/-- a pool by its gaps: so many unusable entries, then the entry; so many at the end -/
def gap : Nat → List CpInfo → List CpInfo
  | 0, r => r
  | n + 1, r => .unusable :: gap n r
def poolList (es : List (Nat × CpInfo)) (last : Nat) : List CpInfo := es.foldr (fun e r => gap e.1 (e.2 :: r)) (gap last [])
def pool (es : List (Nat × CpInfo)) (last : Nat) : Array CpInfo := ⟨poolList es last⟩
def fileOf (pool : Array CpInfo) (this : Nat) (attrs : Array Attribute := #[]) (ms : Array MethodInfo := #[]) (fl : Nat := 33) (sup : Nat := 0) (ifs : Array Nat := #[]) (fds : Array FieldInfo := #[]) : ClassFile where
  minorVersion := 0
  majorVersion := 65
  constantPool := pool
  accessFlags := fl
  thisClass := this
  superClass := sup
  interfaces := ifs
  fields := fds
  methods := ms
  attributes := attrs
def plain (name : String) (sup : Option ClassId) : Class where
  name := name
  kind := .ordinary
  loader := none
  accessFlags := 33
  super := sup
  interfaces := #[]
  cf := none
  fields := #[]
  methods := #[]
  instanceTypes := #[]
  staticTypes := #[]
  resolved := #[]
  callSites := []
  init := .initialized
  statics := none
  mirror := none

def pool0 : Array CpInfo := pool [(5, u "<init>"), (0, u "()V"), (1, .class_ 10), (1, u "java/lang/Object")] 113

def k0c0 : Code := { maxStack := 0, maxLocals := 1, code := object_method_1_code, exceptionTable := #[], attributes := #[] }
def k0m0 : Method := { name := "<init>", desc := "()V", sig := { parameters := [], returnType := none }, accessFlags := 1, code := some k0c0 }
/-- java/lang/Object -/
def k0 : Class := { plain "java/lang/Object" none with
  accessFlags := 33
  interfaces := #[]
  cf := some (fileOf pool0 8 #[] #[{ accessFlags := 1, nameIndex := 5, descriptorIndex := 6, attributes := #[] }] 33 0 #[] #[])
  fields := #[]
  methods := #[k0m0]
  instanceTypes := #[]
  staticTypes := #[]
  resolved := Array.replicate 124 none
  statics := none }

def pool1 : Array CpInfo := pool [(2, .class_ 4), (0, .nameAndType 5 6), (0, u "java/lang/Object"), (0, u "<init>"), (0, u "()V"), (0, .class_ 8), (0, u "com/example/dispatch_by_catalog/dispatchbycatalog/store/RecordWriter"), (0, .methodref 7 3), (0, .methodref 7 11), (0, .nameAndType 12 13), (0, u "toBytes"), (0, u "()[B"), (0, .methodref 7 15), (0, .nameAndType 16 17), (0, u "number"), (0, u "(J)Lcom/example/dispatch_by_catalog/dispatchbycatalog/store/RecordWriter;"), (0, .methodref 7 19), (0, .nameAndType 20 21), (0, u "flag"), (0, u "(Z)Lcom/example/dispatch_by_catalog/dispatchbycatalog/store/RecordWriter;"), (0, .methodref 7 23), (0, .nameAndType 24 25), (0, u "bytes"), (0, u "([B)Lcom/example/dispatch_by_catalog/dispatchbycatalog/store/RecordWriter;"), (0, .methodref 27 28), (0, .class_ 29), (0, .nameAndType 30 31), (0, u "com/example/dispatch_by_catalog/dispatchbycatalog/store/RecordWriterToBytesPinLaw"), (0, u "longAt"), (0, u "([BIJ)Z"), (0, .long 60), (3, u "law"), (0, u "(JJII)Z")] 5

def k1m0 : Method := { name := "<init>", desc := "()V", sig := { parameters := [], returnType := none }, accessFlags := 1, code := none }
def k1c1 : Code := { maxStack := 5, maxLocals := 14, code := code, exceptionTable := #[], attributes := #[] }
def k1m1 : Method := { name := "law", desc := "(JJII)Z", sig := { parameters := [.long, .long, .int, .int], returnType := some .boolean }, accessFlags := 9, code := some k1c1 }
def k1c2 : Code := { maxStack := 4, maxLocals := 4, code := method_3_code, exceptionTable := #[], attributes := #[] }
def k1m2 : Method := { name := "longAt", desc := "([BIJ)Z", sig := { parameters := [(.array .byte), .int, .long], returnType := some .boolean }, accessFlags := 10, code := some k1c2 }
/-- com/example/dispatch_by_catalog/dispatchbycatalog/store/RecordWriterToBytesPinLaw -/
def k1 : Class := { plain "com/example/dispatch_by_catalog/dispatchbycatalog/store/RecordWriterToBytesPinLaw" (some 0) with
  accessFlags := 49
  interfaces := #[]
  cf := some (fileOf pool1 27 #[] #[{ accessFlags := 1, nameIndex := 5, descriptorIndex := 6, attributes := #[] }, { accessFlags := 9, nameIndex := 36, descriptorIndex := 37, attributes := #[] }, { accessFlags := 10, nameIndex := 30, descriptorIndex := 31, attributes := #[] }] 49 2 #[] #[])
  fields := #[]
  methods := #[k1m0, k1m1, k1m2]
  instanceTypes := #[]
  staticTypes := #[]
  resolved := Array.replicate 43 none
  statics := none }

def pool2 : Array CpInfo := pool [(1, .methodref 2 3), (0, .class_ 4), (0, .nameAndType 5 6), (0, u "java/lang/Object"), (0, u "<init>"), (0, u "()V"), (0, .fieldref 8 9), (0, .class_ 10), (0, .nameAndType 11 12), (0, u "com/example/dispatch_by_catalog/dispatchbycatalog/store/RecordWriter"), (0, u "written"), (0, u "[B"), (6, .methodref 8 20), (0, .nameAndType 21 22), (0, u "number"), (0, u "(J)Lcom/example/dispatch_by_catalog/dispatchbycatalog/store/RecordWriter;"), (5, .methodref 8 29), (0, .nameAndType 30 31), (0, u "room"), (0, u "(I)V"), (2, .fieldref 8 35), (0, .nameAndType 36 37), (0, u "size"), (0, u "I"), (14, u "bytes"), (0, u "([B)Lcom/example/dispatch_by_catalog/dispatchbycatalog/store/RecordWriter;"), (0, .methodref 55 56), (0, .class_ 57), (0, .nameAndType 58 59), (0, u "java/lang/System"), (0, u "arraycopy"), (0, u "(Ljava/lang/Object;ILjava/lang/Object;II)V"), (0, .methodref 61 62), (0, .class_ 63), (0, .nameAndType 64 65), (0, u "java/util/Arrays"), (0, u "copyOf"), (0, u "([BI)[B"), (0, .methodref 67 68), (0, .class_ 69), (0, .nameAndType 70 71), (0, u "java/lang/Math"), (0, u "max"), (0, u "(II)I"), (5, u "flag"), (0, u "(Z)Lcom/example/dispatch_by_catalog/dispatchbycatalog/store/RecordWriter;"), (3, u "toBytes"), (0, u "()[B")] 2

def k2c0 : Code := { maxStack := 2, maxLocals := 1, code := prog_35_method_1_code, exceptionTable := #[], attributes := #[] }
def k2m0 : Method := { name := "<init>", desc := "()V", sig := { parameters := [], returnType := none }, accessFlags := 1, code := some k2c0 }
def k2c1 : Code := { maxStack := 5, maxLocals := 4, code := prog_35_method_3_code, exceptionTable := #[], attributes := #[] }
def k2m1 : Method := { name := "number", desc := "(J)Lcom/example/dispatch_by_catalog/dispatchbycatalog/store/RecordWriter;", sig := { parameters := [.long], returnType := some (.object "com/example/dispatch_by_catalog/dispatchbycatalog/store/RecordWriter") }, accessFlags := 1, code := some k2c1 }
def k2c2 : Code := { maxStack := 5, maxLocals := 2, code := prog_35_method_4_code, exceptionTable := #[], attributes := #[] }
def k2m2 : Method := { name := "flag", desc := "(Z)Lcom/example/dispatch_by_catalog/dispatchbycatalog/store/RecordWriter;", sig := { parameters := [.boolean], returnType := some (.object "com/example/dispatch_by_catalog/dispatchbycatalog/store/RecordWriter") }, accessFlags := 1, code := some k2c2 }
def k2c3 : Code := { maxStack := 5, maxLocals := 2, code := prog_35_method_6_code, exceptionTable := #[], attributes := #[] }
def k2m3 : Method := { name := "bytes", desc := "([B)Lcom/example/dispatch_by_catalog/dispatchbycatalog/store/RecordWriter;", sig := { parameters := [(.array .byte)], returnType := some (.object "com/example/dispatch_by_catalog/dispatchbycatalog/store/RecordWriter") }, accessFlags := 1, code := some k2c3 }
def k2c4 : Code := { maxStack := 2, maxLocals := 1, code := prog_35_method_7_code, exceptionTable := #[], attributes := #[] }
def k2m4 : Method := { name := "toBytes", desc := "()[B", sig := { parameters := [], returnType := some (.array .byte) }, accessFlags := 1, code := some k2c4 }
def k2c5 : Code := { maxStack := 5, maxLocals := 2, code := prog_35_method_8_code, exceptionTable := #[], attributes := #[] }
def k2m5 : Method := { name := "room", desc := "(I)V", sig := { parameters := [.int], returnType := none }, accessFlags := 2, code := some k2c5 }
/-- com/example/dispatch_by_catalog/dispatchbycatalog/store/RecordWriter -/
def k2 : Class := { plain "com/example/dispatch_by_catalog/dispatchbycatalog/store/RecordWriter" (some 0) with
  accessFlags := 33
  interfaces := #[]
  cf := some (fileOf pool2 8 #[] #[{ accessFlags := 1, nameIndex := 5, descriptorIndex := 6, attributes := #[] }, { accessFlags := 1, nameIndex := 21, descriptorIndex := 22, attributes := #[] }, { accessFlags := 1, nameIndex := 77, descriptorIndex := 78, attributes := #[] }, { accessFlags := 1, nameIndex := 52, descriptorIndex := 53, attributes := #[] }, { accessFlags := 1, nameIndex := 82, descriptorIndex := 83, attributes := #[] }, { accessFlags := 2, nameIndex := 30, descriptorIndex := 31, attributes := #[] }] 33 2 #[] #[{ accessFlags := 2, nameIndex := 11, descriptorIndex := 12, attributes := #[] }, { accessFlags := 2, nameIndex := 36, descriptorIndex := 37, attributes := #[] }])
  fields := #[{ name := "written", type := (.array .byte), accessFlags := 2, slot := 0, constantValue := 0 }, { name := "size", type := .int, accessFlags := 2, slot := 1, constantValue := 0 }]
  methods := #[k2m0, k2m1, k2m2, k2m3, k2m4, k2m5]
  instanceTypes := #[(.array .byte), .int]
  staticTypes := #[]
  resolved := Array.replicate 86 none
  statics := none }

def pool3 : Array CpInfo := pool [(2, .class_ 4), (1, u "java/lang/Object"), (0, u "<init>"), (0, u "()V"), (7, .class_ 16), (1, u "java/util/Arrays"), (57, .class_ 76), (1, u "java/util/Arrays$NaturalOrder"), (36, .class_ 115), (1, u "java/util/Arrays$LegacyMergeSort"), (1, u "Z"), (32, .methodref 151 152), (0, .class_ 153), (0, .nameAndType 154 155), (0, u "java/lang/System"), (0, u "arraycopy"), (0, u "(Ljava/lang/Object;ILjava/lang/Object;II)V"), (146, u "copyOf"), (1, .methodref 305 306), (0, .class_ 307), (0, .nameAndType 308 309), (0, u "java/lang/Math"), (0, u "min"), (0, u "(II)I"), (65, .class_ 376), (0, u "java/util/Arrays$ArrayList"), (68, u "$assertionsDisabled"), (269, u "MIN_ARRAY_SORT_GRAN"), (0, u "I"), (2, u "INSERTIONSORT_THRESHOLD"), (149, u "([BI)[B"), (105, .class_ 976), (0, u "java/util/Arrays$ArrayItr")] 52

def k3m0 : Method := { name := "<init>", desc := "()V", sig := { parameters := [], returnType := none }, accessFlags := 2, code := none }
def k3c1 : Code := { maxStack := 6, maxLocals := 3, code := jdk_65_method_121_code, exceptionTable := #[], attributes := #[] }
def k3m1 : Method := { name := "copyOf", desc := "([BI)[B", sig := { parameters := [(.array .byte), .int], returnType := some (.array .byte) }, accessFlags := 9, code := some k3c1 }
/-- java/util/Arrays -/
def k3 : Class := { plain "java/util/Arrays" (some 0) with
  accessFlags := 49
  interfaces := #[]
  cf := some (fileOf pool3 14 #[.nestMembers #[975, 375, 113, 74]] #[{ accessFlags := 2, nameIndex := 5, descriptorIndex := 6, attributes := #[] }, { accessFlags := 9, nameIndex := 302, descriptorIndex := 869, attributes := #[] }] 49 2 #[] #[{ accessFlags := 26, nameIndex := 715, descriptorIndex := 716, attributes := #[] }, { accessFlags := 26, nameIndex := 719, descriptorIndex := 716, attributes := #[] }, { accessFlags := 4120, nameIndex := 445, descriptorIndex := 117, attributes := #[] }])
  fields := #[{ name := "MIN_ARRAY_SORT_GRAN", type := .int, accessFlags := 26, slot := 0, constantValue := 0 }, { name := "INSERTIONSORT_THRESHOLD", type := .int, accessFlags := 26, slot := 1, constantValue := 0 }, { name := "$assertionsDisabled", type := .boolean, accessFlags := 4120, slot := 2, constantValue := 0 }]
  methods := #[k3m0, k3m1]
  instanceTypes := #[]
  staticTypes := #[.int, .int, .boolean]
  resolved := Array.replicate 1029 none
  statics := none }

def pool4 : Array CpInfo := pool [(1, .class_ 2), (0, u "java/lang/Math"), (1, .class_ 6), (1, u "java/lang/Object"), (0, u "<init>"), (0, u "()V"), (89, .class_ 100), (1, u "java/lang/Math$RandomNumberGeneratorHolder"), (71, u "negativeZeroFloatBits"), (0, u "J"), (2, u "negativeZeroDoubleBits"), (21, u "max"), (2, u "min"), (43, u "$assertionsDisabled"), (0, u "Z"), (88, u "(II)I"), (2, u "twoToTheDoubleScaleDown"), (0, u "D"), (4, u "twoToTheDoubleScaleUp"), (9, u "E"), (3, u "PI"), (2, u "TAU"), (2, u "DEGREES_TO_RADIANS"), (0, u "RADIANS_TO_DEGREES")] 94

def k4m0 : Method := { name := "<init>", desc := "()V", sig := { parameters := [], returnType := none }, accessFlags := 2, code := none }
def k4c1 : Code := { maxStack := 2, maxLocals := 2, code := jdk_29_method_65_code, exceptionTable := #[], attributes := #[] }
def k4m1 : Method := { name := "max", desc := "(II)I", sig := { parameters := [.int, .int], returnType := some .int }, accessFlags := 9, code := some k4c1 }
def k4c2 : Code := { maxStack := 2, maxLocals := 2, code := jdk_29_method_69_code, exceptionTable := #[], attributes := #[] }
def k4m2 : Method := { name := "min", desc := "(II)I", sig := { parameters := [.int, .int], returnType := some .int }, accessFlags := 9, code := some k4c2 }
/-- java/lang/Math -/
def k4 : Class := { plain "java/lang/Math" (some 0) with
  accessFlags := 49
  interfaces := #[]
  cf := some (fileOf pool4 1 #[.nestMembers #[98]] #[{ accessFlags := 2, nameIndex := 7, descriptorIndex := 8, attributes := #[] }, { accessFlags := 9, nameIndex := 198, descriptorIndex := 335, attributes := #[] }, { accessFlags := 9, nameIndex := 201, descriptorIndex := 335, attributes := #[] }] 49 4 #[] #[{ accessFlags := 25, nameIndex := 354, descriptorIndex := 339, attributes := #[] }, { accessFlags := 25, nameIndex := 358, descriptorIndex := 339, attributes := #[] }, { accessFlags := 25, nameIndex := 361, descriptorIndex := 339, attributes := #[] }, { accessFlags := 26, nameIndex := 364, descriptorIndex := 339, attributes := #[] }, { accessFlags := 26, nameIndex := 365, descriptorIndex := 339, attributes := #[] }, { accessFlags := 26, nameIndex := 172, descriptorIndex := 173, attributes := #[] }, { accessFlags := 26, nameIndex := 176, descriptorIndex := 173, attributes := #[] }, { accessFlags := 8, nameIndex := 344, descriptorIndex := 339, attributes := #[] }, { accessFlags := 8, nameIndex := 338, descriptorIndex := 339, attributes := #[] }, { accessFlags := 4120, nameIndex := 245, descriptorIndex := 246, attributes := #[] }])
  fields := #[{ name := "E", type := .double, accessFlags := 25, slot := 0, constantValue := 0 }, { name := "PI", type := .double, accessFlags := 25, slot := 1, constantValue := 0 }, { name := "TAU", type := .double, accessFlags := 25, slot := 2, constantValue := 0 }, { name := "DEGREES_TO_RADIANS", type := .double, accessFlags := 26, slot := 3, constantValue := 0 }, { name := "RADIANS_TO_DEGREES", type := .double, accessFlags := 26, slot := 4, constantValue := 0 }, { name := "negativeZeroFloatBits", type := .long, accessFlags := 26, slot := 5, constantValue := 0 }, { name := "negativeZeroDoubleBits", type := .long, accessFlags := 26, slot := 6, constantValue := 0 }, { name := "twoToTheDoubleScaleUp", type := .double, accessFlags := 8, slot := 7, constantValue := 0 }, { name := "twoToTheDoubleScaleDown", type := .double, accessFlags := 8, slot := 8, constantValue := 0 }, { name := "$assertionsDisabled", type := .boolean, accessFlags := 4120, slot := 9, constantValue := 0 }]
  methods := #[k4m0, k4m1, k4m2]
  instanceTypes := #[]
  staticTypes := #[.double, .double, .double, .double, .double, .long, .long, .double, .double, .boolean]
  resolved := Array.replicate 460 none
  statics := none }

def pool5 : Array CpInfo := pool [(2, .class_ 4), (1, u "java/lang/Object"), (0, u "<init>"), (0, u "()V"), (1, .class_ 10), (1, u "java/lang/System"), (0, u "allowSecurityManager"), (0, u "I"), (16, u "cons"), (0, u "Ljava/io/Console;"), (77, .class_ 110), (1, u "java/lang/System$CallersHolder"), (43, u "initialErrStream"), (0, u "Ljava/io/PrintStream;"), (19, u "security"), (0, u "Ljava/lang/SecurityManager;"), (31, .class_ 209), (0, u "java/lang/System$1"), (7, u "props"), (0, u "Ljava/util/Properties;"), (2, u "lineSeparator"), (0, u "Ljava/lang/String;"), (96, .class_ 321), (1, u "java/lang/System$LoggerFinder"), (5, .class_ 328), (0, u "java/lang/System$Logger"), (67, u "err"), (2, u "out"), (91, u "notSupportedJnuEncoding"), (15, u "in"), (17, u "initialIn"), (0, u "Ljava/io/InputStream;"), (35, u "bootLayer"), (0, u "Ljava/lang/ModuleLayer;"), (99, .class_ 664), (0, u "java/lang/System$2"), (9, u "NEVER"), (2, u "MAYBE"), (49, u "arraycopy"), (0, u "(Ljava/lang/Object;ILjava/lang/Object;II)V"), (72, .class_ 802), (0, u "java/lang/System$Logger$Level")] 31

def k5m0 : Method := { name := "<init>", desc := "()V", sig := { parameters := [], returnType := none }, accessFlags := 2, code := none }
def k5m1 : Method := { name := "arraycopy", desc := "(Ljava/lang/Object;ILjava/lang/Object;II)V", sig := { parameters := [(.object "java/lang/Object"), .int, (.object "java/lang/Object"), .int, .int], returnType := none }, accessFlags := 265, code := none }
/-- java/lang/System -/
def k5 : Class := { plain "java/lang/System" (some 0) with
  accessFlags := 49
  interfaces := #[]
  cf := some (fileOf pool5 8 #[.nestMembers #[319, 327, 801, 108, 663, 208]] #[{ accessFlags := 2, nameIndex := 5, descriptorIndex := 6, attributes := #[] }, { accessFlags := 265, nameIndex := 727, descriptorIndex := 728, attributes := #[] }] 49 2 #[] #[{ accessFlags := 25, nameIndex := 507, descriptorIndex := 526, attributes := #[] }, { accessFlags := 25, nameIndex := 399, descriptorIndex := 155, attributes := #[] }, { accessFlags := 25, nameIndex := 396, descriptorIndex := 155, attributes := #[] }, { accessFlags := 10, nameIndex := 525, descriptorIndex := 526, attributes := #[] }, { accessFlags := 26, nameIndex := 674, descriptorIndex := 12, attributes := #[] }, { accessFlags := 26, nameIndex := 677, descriptorIndex := 12, attributes := #[] }, { accessFlags := 10, nameIndex := 11, descriptorIndex := 12, attributes := #[] }, { accessFlags := 74, nameIndex := 175, descriptorIndex := 176, attributes := #[] }, { accessFlags := 10, nameIndex := 491, descriptorIndex := 222, attributes := #[] }, { accessFlags := 74, nameIndex := 29, descriptorIndex := 30, attributes := #[] }, { accessFlags := 74, nameIndex := 154, descriptorIndex := 155, attributes := #[] }, { accessFlags := 10, nameIndex := 217, descriptorIndex := 218, attributes := #[] }, { accessFlags := 10, nameIndex := 221, descriptorIndex := 222, attributes := #[] }, { accessFlags := 8, nameIndex := 562, descriptorIndex := 563, attributes := #[] }])
  fields := #[{ name := "in", type := (.object "java/io/InputStream"), accessFlags := 25, slot := 0, constantValue := 0 }, { name := "out", type := (.object "java/io/PrintStream"), accessFlags := 25, slot := 1, constantValue := 0 }, { name := "err", type := (.object "java/io/PrintStream"), accessFlags := 25, slot := 2, constantValue := 0 }, { name := "initialIn", type := (.object "java/io/InputStream"), accessFlags := 10, slot := 3, constantValue := 0 }, { name := "NEVER", type := .int, accessFlags := 26, slot := 4, constantValue := 0 }, { name := "MAYBE", type := .int, accessFlags := 26, slot := 5, constantValue := 0 }, { name := "allowSecurityManager", type := .int, accessFlags := 10, slot := 6, constantValue := 0 }, { name := "security", type := (.object "java/lang/SecurityManager"), accessFlags := 74, slot := 7, constantValue := 0 }, { name := "notSupportedJnuEncoding", type := (.object "java/lang/String"), accessFlags := 10, slot := 8, constantValue := 0 }, { name := "cons", type := (.object "java/io/Console"), accessFlags := 74, slot := 9, constantValue := 0 }, { name := "initialErrStream", type := (.object "java/io/PrintStream"), accessFlags := 74, slot := 10, constantValue := 0 }, { name := "props", type := (.object "java/util/Properties"), accessFlags := 10, slot := 11, constantValue := 0 }, { name := "lineSeparator", type := (.object "java/lang/String"), accessFlags := 10, slot := 12, constantValue := 0 }, { name := "bootLayer", type := (.object "java/lang/ModuleLayer"), accessFlags := 8, slot := 13, constantValue := 0 }]
  methods := #[k5m0, k5m1]
  instanceTypes := #[]
  staticTypes := #[(.object "java/io/InputStream"), (.object "java/io/PrintStream"), (.object "java/io/PrintStream"), (.object "java/io/InputStream"), .int, .int, .int, (.object "java/lang/SecurityManager"), (.object "java/lang/String"), (.object "java/io/Console"), (.object "java/io/PrintStream"), (.object "java/util/Properties"), (.object "java/lang/String"), (.object "java/lang/ModuleLayer")]
  resolved := Array.replicate 834 none
  statics := none }

def pool6 : Array CpInfo := pool [(1, u "java/lang/Cloneable"), (0, .class_ 1), (0, u "java/lang/Object"), (0, .class_ 3)] 3

/-- java/lang/Cloneable -/
def k6 : Class := { plain "java/lang/Cloneable" (some 0) with
  accessFlags := 1537
  interfaces := #[]
  cf := some (fileOf pool6 2 #[] #[] 1537 4 #[] #[])
  fields := #[]
  methods := #[]
  instanceTypes := #[]
  staticTypes := #[]
  resolved := Array.replicate 8 none
  statics := none }

def pool7 : Array CpInfo := pool [(1, u "java/io/Serializable"), (0, .class_ 1), (0, u "java/lang/Object"), (0, .class_ 3)] 3

/-- java/io/Serializable -/
def k7 : Class := { plain "java/io/Serializable" (some 0) with
  accessFlags := 1537
  interfaces := #[]
  cf := some (fileOf pool7 2 #[] #[] 1537 4 #[] #[])
  fields := #[]
  methods := #[]
  instanceTypes := #[]
  staticTypes := #[]
  resolved := Array.replicate 8 none
  statics := none }

/-- the primitive byte -/
def k8 : Class := { plain "byte" none with kind := .primitive 'B', accessFlags := 0x411 }
/-- [B -/
def k9 : Class := { plain "[B" (some 0) with kind := .array 8 .byte, interfaces := #[6, 7], accessFlags := 1041 }

/-- the primitive int -/
def k10 : Class := { plain "int" none with kind := .primitive 'I', accessFlags := 0x411 }
/-- [I -/
def k11 : Class := { plain "[I" (some 0) with kind := .array 10 .int, interfaces := #[6, 7], accessFlags := 1041 }

def heap : Heap := #[]
def classes : Array Class := #[k0, k1, k2, k3, k4, k5, k6, k7, k8, k9, k10, k11]
def interned : List (Array UInt16 × Addr) := []
def slotsUsed : Nat := 0
def theMethod : MethodId := ⟨1, 1⟩
def args0 : Array Value := #[.long 5, .long 7, .int 3, .int 9]
def aboutOver (below : List Frame) : State where
  vm := { classes := classes, interned := interned.toArray }
  heap := heap
  slotsUsed := slotsUsed
  threads := #[{ frames := .invoking theMethod args0 :: below }]
def below0 : List Frame := [.native { method := ⟨0, 0⟩, args := #[] }]
def about1 : State := aboutOver below0
def p0 : Program := .bare "" "" ""
def e0 : Env := launch0.env 0 0 0
theorem w_frames : about1.frames = Frame.invoking theMethod args0 :: below0 := rfl
set_option maxRecDepth 65536 in
theorem w_args : argsFit about1.vm theMethod args0 = true := by decide +kernel
set_option maxRecDepth 65536 in
theorem w_heap : heapFits about1 = true := by decide +kernel
set_option maxRecDepth 65536 in
theorem w_runnable : about1.curStatus? = some .runnable := by decide +kernel
set_option maxRecDepth 65536 in
theorem w_alone : about1.alone = true := by decide +kernel
set_option maxRecDepth 65536 in
theorem w_named : about1.methodNamed? x = some theMethod := by decide +kernel
set_option maxRecDepth 65536 in
theorem w_hears : about1.hears theMethod below0 = true := by decide +kernel
set_option maxRecDepth 65536 in
theorem w_ripe : about1.ripe theMethod args0 below0 = true := by decide +kernel
theorem w_running : about1.status = .running := rfl
set_option maxRecDepth 65536 in
theorem w_room : about1.hasRoom e0.platform room_1 = true :=
  launch0.hasRoom_least _ room_1 (by decide +kernel) (by decide +kernel) (by decide +kernel) (by decide +kernel) (by decide +kernel) (by decide +kernel)
theorem allAtoms_all (ts : List Jvm.Cond) (a : Array Jvm.Value) (st : Jvm.State) : (allAtoms ts).before a st = ts.all (fun c => c.before a st) := by
  induction ts with
  | nil => rfl
  | cons c t ih =>
    show (Jvm.Cond.and c (allAtoms t)).before a st = _
    rw [Jvm.Cond.before_and, ih, List.all_cons]
def words1 : List Jvm.Cond := Jvm.Cond.code x code maxLocals ret :: tables_1
/-- a 'code' word, met by the world's own term for the bytes: nothing is compared byte by byte -/
theorem code_word {y : MethodName} {bytes : ByteArray} {mx : Nat} {rt : Option FieldType} {a : Array Value} {s : State} {m : MethodId} {meth : Method} {c : Code} (h1 : s.methodNamed? y = some m) (h2 : s.vm.method? m = some meth) (h3 : meth.code = some c) (h4 : c.code = bytes)
    (h5 : (c.maxLocals == mx && c.exceptionTable.isEmpty && decide (c.maxStack ≤ mostOperands) && decide (meth.sig.returnType = rt) && !meth.locks && decide (parseMethodDescriptor y.desc = some meth.sig)) = true) : (Jvm.Cond.code y bytes mx rt).before a s = true := by
  simp only [Bool.and_eq_true, beq_iff_eq, Bool.not_eq_true', decide_eq_true_eq] at h5
  obtain ⟨⟨⟨⟨⟨g1, g2⟩, g3⟩, g4⟩, g5⟩, g6⟩ := h5
  simp [Cond.before, Cond.holds, Cond.value, h1, h2, h3, h4, g1, g2, g3, g4, g5, g6]
def isCode : Jvm.Cond → Bool
  | .code _ _ _ _ => true
  | _ => false
theorem all_split {L : List Jvm.Cond} {P : Jvm.Cond → Bool} (h1 : L.all (fun c => isCode c || P c) = true) (h2 : ∀ c ∈ L.filter isCode, P c = true) : L.all P = true := by
  refine List.all_eq_true.mpr fun c hc => ?_
  have h := List.all_eq_true.mp h1 c hc
  rcases Bool.eq_false_or_eq_true (isCode c) with hi | hi
  · exact h2 c (List.mem_filter.mpr ⟨hc, hi⟩)
  · simpa [hi] using h
set_option maxRecDepth 65536 in
theorem w_c0 : (Jvm.Cond.code x code maxLocals ret).before args0 about1 = true := code_word (m := ⟨1, 1⟩) (meth := k1m1) (c := k1c1) (by decide +kernel) rfl rfl rfl (by decide +kernel)
set_option maxRecDepth 65536 in
theorem w_c1 : (Jvm.Cond.code ({ cls := "com/example/dispatch_by_catalog/dispatchbycatalog/store/RecordWriter", name := "<init>", desc := "()V" } : Jvm.MethodName) prog_35_method_1_code (1 : Nat) (Option.none : Option Jvm.ClassFile.FieldType)).before args0 about1 = true := code_word (m := ⟨2, 0⟩) (meth := k2m0) (c := k2c0) (by decide +kernel) rfl rfl rfl (by decide +kernel)
set_option maxRecDepth 65536 in
theorem w_c2 : (Jvm.Cond.code ({ cls := "java/lang/Object", name := "<init>", desc := "()V" } : Jvm.MethodName) object_method_1_code (1 : Nat) (Option.none : Option Jvm.ClassFile.FieldType)).before args0 about1 = true := code_word (m := ⟨0, 0⟩) (meth := k0m0) (c := k0c0) (by decide +kernel) rfl rfl rfl (by decide +kernel)
set_option maxRecDepth 65536 in
theorem w_c3 : (Jvm.Cond.code ({ cls := "com/example/dispatch_by_catalog/dispatchbycatalog/store/RecordWriter", name := "toBytes", desc := "()[B" } : Jvm.MethodName) prog_35_method_7_code (1 : Nat) (Option.some (Jvm.ClassFile.FieldType.array Jvm.ClassFile.FieldType.byte))).before args0 about1 = true := code_word (m := ⟨2, 4⟩) (meth := k2m4) (c := k2c4) (by decide +kernel) rfl rfl rfl (by decide +kernel)
set_option maxRecDepth 65536 in
theorem w_c4 : (Jvm.Cond.code ({ cls := "java/util/Arrays", name := "copyOf", desc := "([BI)[B" } : Jvm.MethodName) jdk_65_method_121_code (3 : Nat) (Option.some (Jvm.ClassFile.FieldType.array Jvm.ClassFile.FieldType.byte))).before args0 about1 = true := code_word (m := ⟨3, 1⟩) (meth := k3m1) (c := k3c1) (by decide +kernel) rfl rfl rfl (by decide +kernel)
set_option maxRecDepth 65536 in
theorem w_c5 : (Jvm.Cond.code ({ cls := "java/lang/Math", name := "min", desc := "(II)I" } : Jvm.MethodName) jdk_29_method_69_code (2 : Nat) (Option.some Jvm.ClassFile.FieldType.int)).before args0 about1 = true := code_word (m := ⟨4, 2⟩) (meth := k4m2) (c := k4c2) (by decide +kernel) rfl rfl rfl (by decide +kernel)
set_option maxRecDepth 65536 in
theorem w_c6 : (Jvm.Cond.code ({ cls := "com/example/dispatch_by_catalog/dispatchbycatalog/store/RecordWriter", name := "number", desc := "(J)Lcom/example/dispatch_by_catalog/dispatchbycatalog/store/RecordWriter;" } : Jvm.MethodName) prog_35_method_3_code (4 : Nat) (Option.some (Jvm.ClassFile.FieldType.object "com/example/dispatch_by_catalog/dispatchbycatalog/store/RecordWriter"))).before args0 about1 = true := code_word (m := ⟨2, 1⟩) (meth := k2m1) (c := k2c1) (by decide +kernel) rfl rfl rfl (by decide +kernel)
set_option maxRecDepth 65536 in
theorem w_c7 : (Jvm.Cond.code ({ cls := "com/example/dispatch_by_catalog/dispatchbycatalog/store/RecordWriter", name := "room", desc := "(I)V" } : Jvm.MethodName) prog_35_method_8_code (2 : Nat) (Option.none : Option Jvm.ClassFile.FieldType)).before args0 about1 = true := code_word (m := ⟨2, 5⟩) (meth := k2m5) (c := k2c5) (by decide +kernel) rfl rfl rfl (by decide +kernel)
set_option maxRecDepth 65536 in
theorem w_c8 : (Jvm.Cond.code ({ cls := "com/example/dispatch_by_catalog/dispatchbycatalog/store/RecordWriter", name := "flag", desc := "(Z)Lcom/example/dispatch_by_catalog/dispatchbycatalog/store/RecordWriter;" } : Jvm.MethodName) prog_35_method_4_code (2 : Nat) (Option.some (Jvm.ClassFile.FieldType.object "com/example/dispatch_by_catalog/dispatchbycatalog/store/RecordWriter"))).before args0 about1 = true := code_word (m := ⟨2, 2⟩) (meth := k2m2) (c := k2c2) (by decide +kernel) rfl rfl rfl (by decide +kernel)
set_option maxRecDepth 65536 in
theorem w_c9 : (Jvm.Cond.code ({ cls := "com/example/dispatch_by_catalog/dispatchbycatalog/store/RecordWriterToBytesPinLaw", name := "longAt", desc := "([BIJ)Z" } : Jvm.MethodName) method_3_code (4 : Nat) (Option.some Jvm.ClassFile.FieldType.boolean)).before args0 about1 = true := code_word (m := ⟨1, 2⟩) (meth := k1m2) (c := k1c2) (by decide +kernel) rfl rfl rfl (by decide +kernel)
set_option maxRecDepth 65536 in
theorem w_c10 : (Jvm.Cond.code ({ cls := "com/example/dispatch_by_catalog/dispatchbycatalog/store/RecordWriter", name := "bytes", desc := "([B)Lcom/example/dispatch_by_catalog/dispatchbycatalog/store/RecordWriter;" } : Jvm.MethodName) prog_35_method_6_code (2 : Nat) (Option.some (Jvm.ClassFile.FieldType.object "com/example/dispatch_by_catalog/dispatchbycatalog/store/RecordWriter"))).before args0 about1 = true := code_word (m := ⟨2, 3⟩) (meth := k2m3) (c := k2c3) (by decide +kernel) rfl rfl rfl (by decide +kernel)
set_option maxRecDepth 65536 in
theorem w_c11 : (Jvm.Cond.code ({ cls := "java/lang/Math", name := "max", desc := "(II)I" } : Jvm.MethodName) jdk_29_method_65_code (2 : Nat) (Option.some Jvm.ClassFile.FieldType.int)).before args0 about1 = true := code_word (m := ⟨4, 1⟩) (meth := k4m1) (c := k4c1) (by decide +kernel) rfl rfl rfl (by decide +kernel)
def codes1 : List Jvm.Cond := [Jvm.Cond.code x code maxLocals ret, Jvm.Cond.code ({ cls := "com/example/dispatch_by_catalog/dispatchbycatalog/store/RecordWriter", name := "<init>", desc := "()V" } : Jvm.MethodName) prog_35_method_1_code (1 : Nat) (Option.none : Option Jvm.ClassFile.FieldType), Jvm.Cond.code ({ cls := "java/lang/Object", name := "<init>", desc := "()V" } : Jvm.MethodName) object_method_1_code (1 : Nat) (Option.none : Option Jvm.ClassFile.FieldType), Jvm.Cond.code ({ cls := "com/example/dispatch_by_catalog/dispatchbycatalog/store/RecordWriter", name := "toBytes", desc := "()[B" } : Jvm.MethodName) prog_35_method_7_code (1 : Nat) (Option.some (Jvm.ClassFile.FieldType.array Jvm.ClassFile.FieldType.byte)), Jvm.Cond.code ({ cls := "java/util/Arrays", name := "copyOf", desc := "([BI)[B" } : Jvm.MethodName) jdk_65_method_121_code (3 : Nat) (Option.some (Jvm.ClassFile.FieldType.array Jvm.ClassFile.FieldType.byte)), Jvm.Cond.code ({ cls := "java/lang/Math", name := "min", desc := "(II)I" } : Jvm.MethodName) jdk_29_method_69_code (2 : Nat) (Option.some Jvm.ClassFile.FieldType.int), Jvm.Cond.code ({ cls := "com/example/dispatch_by_catalog/dispatchbycatalog/store/RecordWriter", name := "number", desc := "(J)Lcom/example/dispatch_by_catalog/dispatchbycatalog/store/RecordWriter;" } : Jvm.MethodName) prog_35_method_3_code (4 : Nat) (Option.some (Jvm.ClassFile.FieldType.object "com/example/dispatch_by_catalog/dispatchbycatalog/store/RecordWriter")), Jvm.Cond.code ({ cls := "com/example/dispatch_by_catalog/dispatchbycatalog/store/RecordWriter", name := "room", desc := "(I)V" } : Jvm.MethodName) prog_35_method_8_code (2 : Nat) (Option.none : Option Jvm.ClassFile.FieldType), Jvm.Cond.code ({ cls := "com/example/dispatch_by_catalog/dispatchbycatalog/store/RecordWriter", name := "flag", desc := "(Z)Lcom/example/dispatch_by_catalog/dispatchbycatalog/store/RecordWriter;" } : Jvm.MethodName) prog_35_method_4_code (2 : Nat) (Option.some (Jvm.ClassFile.FieldType.object "com/example/dispatch_by_catalog/dispatchbycatalog/store/RecordWriter")), Jvm.Cond.code ({ cls := "com/example/dispatch_by_catalog/dispatchbycatalog/store/RecordWriterToBytesPinLaw", name := "longAt", desc := "([BIJ)Z" } : Jvm.MethodName) method_3_code (4 : Nat) (Option.some Jvm.ClassFile.FieldType.boolean), Jvm.Cond.code ({ cls := "com/example/dispatch_by_catalog/dispatchbycatalog/store/RecordWriter", name := "bytes", desc := "([B)Lcom/example/dispatch_by_catalog/dispatchbycatalog/store/RecordWriter;" } : Jvm.MethodName) prog_35_method_6_code (2 : Nat) (Option.some (Jvm.ClassFile.FieldType.object "com/example/dispatch_by_catalog/dispatchbycatalog/store/RecordWriter")), Jvm.Cond.code ({ cls := "java/lang/Math", name := "max", desc := "(II)I" } : Jvm.MethodName) jdk_29_method_65_code (2 : Nat) (Option.some Jvm.ClassFile.FieldType.int)]
set_option maxRecDepth 65536 in
theorem codes_eq : words1.filter isCode = codes1 := rfl
theorem w_codes : ∀ c ∈ words1.filter isCode, c.before args0 about1 = true := by
  rw [codes_eq]
  intro c hc
  simp only [codes1, List.mem_cons, List.not_mem_nil, or_false] at hc
  rcases hc with rfl | rfl | rfl | rfl | rfl | rfl | rfl | rfl | rfl | rfl | rfl | rfl
  · exact w_c0
  · exact w_c1
  · exact w_c2
  · exact w_c3
  · exact w_c4
  · exact w_c5
  · exact w_c6
  · exact w_c7
  · exact w_c8
  · exact w_c9
  · exact w_c10
  · exact w_c11
set_option maxRecDepth 65536 in
theorem w_t1 : (words1.take 24).all (fun c => isCode c || c.before args0 about1) = true := by decide +kernel
set_option maxRecDepth 65536 in
theorem w_t2 : ((words1.drop 24).take 24).all (fun c => isCode c || c.before args0 about1) = true := by decide +kernel
set_option maxRecDepth 65536 in
theorem w_t3 : ((words1.drop 24).drop 24).all (fun c => isCode c || c.before args0 about1) = true := by decide +kernel
theorem w_tables : (allAtoms (Jvm.Cond.code x code maxLocals ret :: tables_1)).before args0 about1 = true := by
  rw [allAtoms_all]
  show words1.all (fun c => c.before args0 about1) = true
  refine all_split ?_ w_codes
  rw [← List.take_append_drop 24 words1, List.all_append, w_t1, ← List.take_append_drop 24 (words1.drop 24), List.all_append, w_t2, w_t3]
  rfl
set_option maxRecDepth 65536 in
theorem w_case : (Jvm.Cond.and given_1 narrow_1).before args0 about1 = true := by decide +kernel
theorem w_applies : (headSpec (Jvm.Cond.code x code maxLocals ret :: tables_1) room_1).applies x e0.platform about1 = true :=
  (Spec.applies_iff w_frames).mpr ⟨w_running, w_runnable, w_alone, w_named, w_hears, w_ripe, w_room, w_tables⟩
theorem atStart : AtStart classFile x code maxLocals ret World_1 tables_1 room_1 Calls_1 rest_1 Pre_1 launch0 p0 e0 about1 theMethod args0 below0 :=
  ⟨lists_1, trivial, launch0.admits_env _ _ _, launch0.least_env, fairChoices_fair.cas, fairChoices_fair.clock, w_frames, w_args, w_heap, w_applies, trivial, trivial, w_case⟩
end start1
theorem witness_1 : WitnessClaimed_1 := ⟨start1.p0, start1.e0, start1.about1, start1.theMethod, start1.args0, start1.below0, start1.atStart⟩
end Jvm.Pilot.@@N@@
